import JvmDerived
import JvmDerived.Pilot.@@N@@Statement
import JvmDerived.Pilot.@@N@@Code
set_option linter.unusedVariables false
set_option linter.unusedSimpArgs false

namespace Jvm.RoadKit
open Sem ClassFile Op Lib Jvm.Stand Jvm.Free Jvm.LawKit
section Own
variable {p : Program} {l : Launch} {e : Env} {R : Room} {s : State} {m : MethodId} {args : Array Value} {below : List Frame} {meth : Method} {c : Code} {T : State} {locs : List Loc} {cells slots : Nat} {Z : State} {a0 : Array Value} {h h' : Heap} {Q : Option Value → Heap → List Loc → Prop} {kc ks : Nat}
/-- the body comes back from S, with what Q says -/
def own_Win (p : Program) (e : Env) (below : List Frame) (s : State) (Q : Option Value → Heap → List Loc → Prop) (kc ks : Nat) (S : State) : Prop :=
  ∃ U o, Steps p.tables e below S U ∧ U.status = .running ∧ Ended U below o ∧ ∃ v L, o = .returned v ∧ Q v U.heap L ∧ FrameEnd s o U L kc ks
theorem own_st {S S' : State} (st : ∀ t, Steps p.tables e below S' t → Steps p.tables e below S t) (w : own_Win p e below s Q kc ks S') : own_Win p e below s Q kc ks S := by
  obtain ⟨U, o, h1, h2⟩ := w
  exact ⟨U, o, st U h1, h2⟩
theorem own_ret (X : Stand p l e R s m args below meth c T locs cells slots) (hx : p.tables.exec = Jvm.exec) (hlk : meth.locks = false) {pc : Nat} {Ls : Array Slot} {w : Value} {t : FieldType} {i : Instr} {rest : List Value} (hret : meth.sig.returnType = some t) (hn : narrow t w = w)
    (hi : (i = .ireturn ∧ (t = .int ∨ t = .boolean ∨ t = .byte ∨ t = .char ∨ t = .short) ∧ ∃ z, w = .int z) ∨ (i = .lreturn ∧ t = .long ∧ ∃ z, w = .long z) ∨ (i = .dreturn ∧ t = .double ∧ ∃ z, w = .double z) ∨ (i = .freturn ∧ t = .float ∧ ∃ z, w = .float z) ∨ (i = .areturn ∧ t.isReference = true ∧ w.isRef = true))
    (hd : decode c.code pc = .ok (i, 1)) (hQ : Q (some w) T.heap locs) (hc : cells ≤ kc) (hs : slots ≤ ks) :
    own_Win p e below s Q kc ks (T.setTop (mkF m pc Ls (w :: rest))) := by
  obtain ⟨fs, hr, hrun, hended, hW, hsame⟩ := X.leave (v := some w) (fun h => by rw [hret] at h; cases h) hlk
  exact ⟨_, _, retOut X hx hret hn hi hd hr, hrun, hended, _, _, rfl, hQ, ⟨_, rfl⟩, hW, hsame.mono hc hs⟩
theorem own_retV (X : Stand p l e R s m args below meth c T locs cells slots) (hx : p.tables.exec = Jvm.exec) (hlk : meth.locks = false) {pc : Nat} {Ls : Array Slot} (hret : meth.sig.returnType = none)
    (hd : decode c.code pc = .ok (.return_, 1)) (hQ : Q none T.heap locs) (hc : cells ≤ kc) (hs : slots ≤ ks) :
    own_Win p e below s Q kc ks (T.setTop (mkF m pc Ls [])) := by
  obtain ⟨fs, hr, hrun, hended, hW, hsame⟩ := X.leave (v := none) (fun _ => rfl) hlk
  exact ⟨_, _, X.returnOut hx hret hd hr, hrun, hended, _, _, rfl, hQ, ⟨_, rfl⟩, hW, hsame.mono hc hs⟩
/-- what a callee's contract is -/
abbrev own_Met (l : Launch) (Z : State) (y : MethodName) (bytes : ByteArray) (maxL : Nat) (ret : Option FieldType) (rm : Room) (as' : Array Value) (h : Heap) (Q' : Option Value → Heap → List Loc → Prop) : Prop :=
  MetFree l y (head1 [Cond.code y bytes maxL ret] rm) (fun a U => a = as' ∧ Z.Warmed39 U.vm ∧ U.heap = h) (fun _ _ _ _ _ => True) (fun _ U o U' => ∃ v L, o = .returned v ∧ Q' v U'.heap L ∧ FrameEnd U o U' L rm.cells rm.slots)
theorem own_callS (X : Stand p l e R s m args below meth c T locs cells slots) (hx : p.tables.exec = Jvm.exec) (hZ : Z.Warmed39 s.vm) {own : String} {index : Nat} {y : MethodName} {bytes : ByteArray} {maxL : Nat} {ret : Option FieldType} {rm : Room} {as' : Array Value} {Q' : Option Value → Heap → List Loc → Prop} {W : Nat}
    (hown : s.vm.findClass own = some m.cls) (w1 : (Cond.methodLink own index y).before a0 Z = true) (w2 : (Cond.static y).before a0 Z = true) (w3 : (Cond.initialized y.cls).before a0 Z = true) (w4 : (Cond.code y bytes maxL ret).before a0 Z = true)
    (hy : y.cls ≠ "java/lang/invoke/MethodHandle" ∧ y.cls ≠ "java/lang/invoke/VarHandle") (eT : T.heap = h) (hM : own_Met l Z y bytes maxL ret rm as' h Q') (hf : rm.frames + 1 ≤ R.frames) (hl : W + (maxL + 11) + rm.locals ≤ R.locals)
    {g : JFrame} (hg : g.method = m) (hsize : g.locals.size = c.maxLocals) {argsL rest : List Value} (hlen : ∀ sig, parseMethodDescriptor y.desc = some sig → argsL.length = sig.parameters.length)
    (hst : g.stack = argsL.reverse ++ rest) (hW : 2 * g.monitorRoom + (rest.map fun v => v.category).sum ≤ W) (hd : decode c.code g.pc = .ok (.invokestatic index, 3)) (has : argsL.toArray = as') (hc : cells + rm.cells ≤ R.cells) (hs : slots + rm.slots ≤ R.slots)
    (k : ∀ (T' : State) (v : Option Value) (L : List Loc), Stand p l e R s m args below meth c T' (locs ++ L) (cells + rm.cells) (slots + rm.slots) → Q' v T'.heap L → own_Win p e below s Q kc ks (T'.setTop { g with pc := g.pc + 3, stack := v.toList ++ rest })) :
    own_Win p e below s Q kc ks (T.setTop g) := by
  obtain ⟨v, vm1, ⟨T', L', c', n'⟩, -, X', ⟨L, hQ, l1, y1, z1⟩, st⟩ := Jvm.LawKit.callS X hx (y := y) (W := W) hown (mvT hZ w1) (mvT hZ w2) (mvT hZ w3) (mvT hZ w4) hy (backOf (W := W) hM hZ w4 w3 hf hl) hg hsize (argsL := argsL) (rest := rest) hlen hst hW hd (fun _ _ => ⟨has, eT, hc, hs⟩)
  dsimp only [Pt.U, Pt.locs, Pt.cells, Pt.slots] at X' l1 y1 z1 st hQ
  subst l1 y1 z1
  exact own_st st (k _ _ _ X' hQ)
theorem own_callV (X : Stand p l e R s m args below meth c T locs cells slots) (hx : p.tables.exec = Jvm.exec) (hZ : Z.Warmed39 s.vm) {own C : String} {index : Nat} {y : MethodName} {bytes : ByteArray} {maxL : Nat} {ret : Option FieldType} {rm : Room} {as' : Array Value} {Q' : Option Value → Heap → List Loc → Prop} {W : Nat}
    (hown : s.vm.findClass own = some m.cls) (w1 : (Cond.methodLink own index y).before a0 Z = true) (w2 : (Cond.declares y).before a0 Z = true) (w3 : (Cond.selects C y y).before a0 Z = true) (w5 : (Cond.instanceMethod y).before a0 Z = true) (w4 : (Cond.code y bytes maxL ret).before a0 Z = true) (w6 : (Cond.initialized y.cls).before a0 Z = true)
    (hy : y.cls ≠ "java/lang/invoke/MethodHandle" ∧ y.cls ≠ "java/lang/invoke/VarHandle") (eT : T.heap = h) {a : Addr} (E : Exa Z h a C) (hM : own_Met l Z y bytes maxL ret rm as' h Q') (hf : rm.frames + 1 ≤ R.frames) (hl : W + (maxL + 11) + rm.locals ≤ R.locals)
    {g : JFrame} (hg : g.method = m) (hsize : g.locals.size = c.maxLocals) {argsL rest : List Value} (hlen : ∀ sig, parseMethodDescriptor y.desc = some sig → argsL.length = sig.parameters.length)
    (hst : g.stack = argsL.reverse ++ .ref a :: rest) (hW : 2 * g.monitorRoom + (rest.map fun v => v.category).sum ≤ W) (hd : decode c.code g.pc = .ok (.invokevirtual index, 3)) (has : (.ref a :: argsL).toArray = as') (hc : cells + rm.cells ≤ R.cells) (hs : slots + rm.slots ≤ R.slots)
    (k : ∀ (T' : State) (v : Option Value) (L : List Loc), Stand p l e R s m args below meth c T' (locs ++ L) (cells + rm.cells) (slots + rm.slots) → Q' v T'.heap L → own_Win p e below s Q kc ks (T'.setTop { g with pc := g.pc + 3, stack := v.toList ++ rest })) :
    own_Win p e below s Q kc ks (T.setTop g) := by
  obtain ⟨cB, kB, q1, q2, q3⟩ := isOf (T := T) hZ eT E
  obtain ⟨v, vm1, ⟨T', L', c', n'⟩, -, X', ⟨L, hQ, l1, y1, z1⟩, st⟩ := X.virtualBack hx (y := y) (z := y) (W := W) hown (mvT hZ w1) (mvT hZ w2) (notFace_of_selects (args := #[]) (mvT hZ w3)) (mvT hZ w3) (mvT hZ w5) hy (backOf (W := W) hM hZ w4 w6 hf hl) q1 q3 hg hsize (Steps.refl _) (argsL := argsL) (rest := rest) hlen hst hW hd (fun _ _ => ⟨has, eT, hc, hs⟩)
  dsimp only [Pt.U, Pt.locs, Pt.cells, Pt.slots] at X' l1 y1 z1 st hQ
  subst l1 y1 z1
  exact own_st (fun t q => st.trans q) (k _ _ _ X' hQ)
theorem own_callI (X : Stand p l e R s m args below meth c T locs cells slots) (hx : p.tables.exec = Jvm.exec) (hZ : Z.Warmed39 s.vm) {own : String} {index : Nat} {y : MethodName} {bytes : ByteArray} {maxL : Nat} {rm : Room} {as' : Array Value} {Q' : Option Value → Heap → List Loc → Prop} {W : Nat}
    (hy1 : y.name = "<init>") (hown : s.vm.findClass own = some m.cls) (w1 : (Cond.methodLink own index y).before a0 Z = true) (w5 : (Cond.instanceMethod y).before a0 Z = true) (w4 : (Cond.code y bytes maxL none).before a0 Z = true) (w6 : (Cond.initialized y.cls).before a0 Z = true)
    (hy : y.cls ≠ "java/lang/invoke/MethodHandle" ∧ y.cls ≠ "java/lang/invoke/VarHandle") (eT : T.heap = h) {a : Addr} (hM : own_Met l Z y bytes maxL none rm as' h Q') (hf : rm.frames + 1 ≤ R.frames) (hl : W + (maxL + 11) + rm.locals ≤ R.locals)
    {g : JFrame} (hg : g.method = m) (hsize : g.locals.size = c.maxLocals) {argsL rest : List Value} (hlen : ∀ sig, parseMethodDescriptor y.desc = some sig → argsL.length = sig.parameters.length)
    (hst : g.stack = argsL.reverse ++ .ref a :: rest) (hW : 2 * g.monitorRoom + (rest.map fun v => v.category).sum ≤ W) (hd : decode c.code g.pc = .ok (.invokespecial index, 3)) (has : (.ref a :: argsL).toArray = as') (hc : cells + rm.cells ≤ R.cells) (hs : slots + rm.slots ≤ R.slots)
    (k : ∀ (T' : State) (v : Option Value) (L : List Loc), Stand p l e R s m args below meth c T' (locs ++ L) (cells + rm.cells) (slots + rm.slots) → Q' v T'.heap L → own_Win p e below s Q kc ks (T'.setTop { g with pc := g.pc + 3, stack := v.toList ++ rest })) :
    own_Win p e below s Q kc ks (T.setTop g) := by
  obtain ⟨v, vm1, ⟨T', L', c', n'⟩, -, X', ⟨L, hQ, l1, y1, z1⟩, st⟩ := X.specialBack hx (y := y) (W := W) hy1 hown (mvT hZ w1) (mvT hZ w5) (mvT hZ w4) hy (backOf (W := W) hM hZ w4 w6 hf hl) hg hsize (Steps.refl _) (a := a) (argsL := argsL) (rest := rest) hlen hst hW hd (fun _ _ => ⟨has, eT, hc, hs⟩)
  dsimp only [Pt.U, Pt.locs, Pt.cells, Pt.slots] at X' l1 y1 z1 st hQ
  subst l1 y1 z1
  exact own_st (fun t q => st.trans q) (k _ _ _ X' hQ)
theorem own_callP (X : Stand p l e R s m args below meth c T locs cells slots) (hx : p.tables.exec = Jvm.exec) (hZ : Z.Warmed39 s.vm) {own C C' : String} {index : Nat} {y z0 : MethodName} {bytes : ByteArray} {maxL : Nat} {ret : Option FieldType} {rm : Room} {as' : Array Value} {Q' : Option Value → Heap → List Loc → Prop} {W : Nat}
    (hown : s.vm.findClass own = some m.cls) (w1 : (Cond.methodLink own index y).before a0 Z = true) (w5 : (Cond.instanceMethod y).before a0 Z = true) (w7 : (Cond.privateMethod y).before a0 Z = true) (w4 : (Cond.code y bytes maxL ret).before a0 Z = true) (w6 : (Cond.initialized y.cls).before a0 Z = true) (w3 : (Cond.selects C' z0 z0).before a0 Z = true) (hzy : z0.cls = y.cls)
    (hy : y.cls ≠ "java/lang/invoke/MethodHandle" ∧ y.cls ≠ "java/lang/invoke/VarHandle") (eT : T.heap = h) {a : Addr} (E : Exa Z h a C) (hM : own_Met l Z y bytes maxL ret rm as' h Q') (hf : rm.frames + 1 ≤ R.frames) (hl : W + (maxL + 11) + rm.locals ≤ R.locals)
    {g : JFrame} (hg : g.method = m) (hsize : g.locals.size = c.maxLocals) {argsL rest : List Value} (hlen : ∀ sig, parseMethodDescriptor y.desc = some sig → argsL.length = sig.parameters.length)
    (hst : g.stack = argsL.reverse ++ .ref a :: rest) (hW : 2 * g.monitorRoom + (rest.map fun v => v.category).sum ≤ W) (hd : decode c.code g.pc = .ok (.invokevirtual index, 3)) (has : (.ref a :: argsL).toArray = as') (hc : cells + rm.cells ≤ R.cells) (hs : slots + rm.slots ≤ R.slots)
    (k : ∀ (T' : State) (v : Option Value) (L : List Loc), Stand p l e R s m args below meth c T' (locs ++ L) (cells + rm.cells) (slots + rm.slots) → Q' v T'.heap L → own_Win p e below s Q kc ks (T'.setTop { g with pc := g.pc + 3, stack := v.toList ++ rest })) :
    own_Win p e below s Q kc ks (T.setTop g) := by
  have i5 : (Cond.instanceMethod y).before args s = true := mvT hZ w5
  have hpriv := Cond.privateMethod_at (mvP (args := args) hZ w7)
  have i3 : (Cond.selects C' z0 z0).before args s = true := mvT hZ w3
  obtain ⟨c2, r2, m2, -, -, q3, -, kP, hkP, hkPi⟩ := Cond.selects_spec i3
  have hcc := findClass_of_methodNamed q3
  rw [hzy] at hcc
  obtain ⟨cell, hcell, hobj⟩ := Exa.cell E
  obtain ⟨v, vm1, ⟨T', L', c', n'⟩, -, X', ⟨L, hQ, l1, y1, z1⟩, st⟩ := X.privateBack hx (y := y) (W := W) hown (mvT hZ w1) i5 (selects_self_of_private hcc hkP hkPi hpriv i5 hy) hpriv (mvT hZ w4) hy (backOf (W := W) hM hZ w4 w6 hf hl) hg hsize (Steps.refl _) (a := a) (by rw [eT]; exact hcell) hobj (argsL := argsL) (rest := rest) hlen hst hW hd (fun _ _ => ⟨has, eT, hc, hs⟩)
  dsimp only [Pt.U, Pt.locs, Pt.cells, Pt.slots] at X' l1 y1 z1 st hQ
  subst l1 y1 z1
  exact own_st (fun t q => st.trans q) (k _ _ _ X' hQ)
end Own
/-! arrays of doubles and of ints, by a function -/
section Arrays
variable {p : Program} {l : Launch} {e : Env} {R : Room} {s : State} {m : MethodId} {args : Array Value} {below : List Frame} {meth : Method} {c : Code} {T : State} {locs : List Loc} {cells slots : Nat} {Z : State} {a0 : Array Value} {h h' : Heap} {Q : Option Value → Heap → List Loc → Prop} {kc ks : Nat}
def own_up {A : Type} (f : Nat → A) (i : Nat) (x : A) : Nat → A := fun k => if k = i then x else f k
theorem own_up_hit {A : Type} (f : Nat → A) (i : Nat) (x : A) : own_up f i x i = x := if_pos rfl
theorem own_up_miss {A : Type} (f : Nat → A) {i k : Nat} (x : A) (q : k ≠ i) : own_up f i x k = f k := if_neg q
def own_Av (Z : State) (h : Heap) (a : Addr) (ty : FieldType) (n : Nat) (f : Nat → Value) : Prop := n < 2 ^ 31 ∧ ∃ c : Cell, Arr Z h a c ty ∧ c.slots.size = n ∧ ∀ k, k < n → c.slots[k]? = some (f k)
def own_Da (Z : State) (h : Heap) (a : Addr) (n : Nat) (f : Nat → UInt64) : Prop := own_Av Z h a .double n (fun k => .double (f k))
def own_Ia (Z : State) (h : Heap) (a : Addr) (n : Nat) (f : Nat → Int32) : Prop := own_Av Z h a .int n (fun k => .int (f k))
section Av
variable {a b : Addr} {ty : FieldType} {n : Nat} {f g : Nat → Value}
theorem own_Av.lt (F : own_Av Z h a ty n f) : a < h.size := by obtain ⟨-, c, A, -⟩ := F; exact A.lt
theorem own_Av.ext (E : Ext h h') (F : own_Av Z h a ty n f) : own_Av Z h' a ty n f := by obtain ⟨q, c, A, r⟩ := F; exact ⟨q, c, A.ext E, r⟩
theorem own_Av.other {sl : Nat} {v : Value} (W : Wr h h' b sl v) (F : own_Av Z h a ty n f) (q : a ≠ b) : own_Av Z h' a ty n f := by obtain ⟨r, c, A, u⟩ := F; exact ⟨r, c, A.other W q, u⟩
theorem own_Av.keep {ws : List Addr} (K : Keep h h' ws) (F : own_Av Z h a ty n f) (q : a ∉ ws) : own_Av Z h' a ty n f := by
  obtain ⟨r, c, A, u⟩ := F
  exact ⟨r, c, ⟨K.2.1 a c A.1 q, A.2⟩, u⟩
theorem own_Av.set {i : Nat} {v : Value} (W : Wr h h' a i v) (F : own_Av Z h a ty n f) (hi : i < n) : own_Av Z h' a ty n (own_up f i v) := by
  obtain ⟨r, c, A, S, H⟩ := F
  refine ⟨r, _, A.same W, by rw [sz_set]; exact S, fun k hk => ?_⟩
  show (c.slots.setIfInBounds i v)[k]? = _
  by_cases e : k = i
  · subst e; rw [own_up_hit]; simp [S, hk]
  · rw [own_up_miss _ _ e, Array.getElem?_setIfInBounds_ne (Ne.symm e)]; exact H k hk
theorem own_Av.congr (F : own_Av Z h a ty n f) (q : ∀ k, k < n → f k = g k) : own_Av Z h a ty n g := by
  obtain ⟨r, c, A, S, H⟩ := F
  exact ⟨r, c, A, S, fun k hk => by rw [← q k hk]; exact H k hk⟩
end Av
theorem own_clamp {j : Int32} {i : Nat} (hj : j.toInt = (i : Int)) : ¬ j < 0 ∧ j.toNatClampNeg = i := by
  refine ⟨fun q => ?_, ?_⟩
  · have := Int32.lt_iff_toInt_lt.mp q
    rw [hj] at this
    have : ((0 : Int32).toInt) = 0 := rfl
    omega
  · show j.toInt.toNat = i
    rw [hj]; rfl
theorem own_daload (X : Stand p l e R s m args below meth c T locs cells slots) (hx : p.tables.exec = Jvm.exec) (hZ : Z.Warmed39 s.vm) (eT : T.heap = h) {a : Addr} {n i : Nat} {f : Nat → UInt64} (F : own_Da Z h a n f) {j : Int32} (hj : j.toInt = (i : Int)) (hi : i < n)
    {x : UInt64} (hv : f i = x) {g : JFrame} (hg : g.method = m) {rest : List Value} (hs : g.stack = .int j :: .ref a :: rest) (hd : decode c.code g.pc = .ok (.daload, 1))
    (k : own_Win p e below s Q kc ks (T.setTop { g with pc := g.pc + 1, stack := .double x :: rest })) : own_Win p e below s Q kc ks (T.setTop g) := by
  obtain ⟨r, cl, A, S, H⟩ := F
  obtain ⟨q1, q2⟩ := own_clamp hj
  subst hv
  exact own_st (fun t q => X.daload hx (cell := cl) (j := j) (v := .double (f i)) (by rw [eT]; exact A.1) (State.isArrayOf_alike hZ.alike A.2.1) A.2.2 (by rw [q2, S]; intro z; rcases z with z | z; exact q1 z; omega) (by rw [q2]; exact H i hi) hg hs hd t q) k
theorem own_iaload (X : Stand p l e R s m args below meth c T locs cells slots) (hx : p.tables.exec = Jvm.exec) (hZ : Z.Warmed39 s.vm) (eT : T.heap = h) {a : Addr} {n i : Nat} {f : Nat → Int32} (F : own_Ia Z h a n f) {j : Int32} (hj : j.toInt = (i : Int)) (hi : i < n)
    {x : Int32} (hv : f i = x) {g : JFrame} (hg : g.method = m) {rest : List Value} (hs : g.stack = .int j :: .ref a :: rest) (hd : decode c.code g.pc = .ok (.iaload, 1))
    (k : own_Win p e below s Q kc ks (T.setTop { g with pc := g.pc + 1, stack := .int x :: rest })) : own_Win p e below s Q kc ks (T.setTop g) := by
  obtain ⟨r, cl, A, S, H⟩ := F
  obtain ⟨q1, q2⟩ := own_clamp hj
  subst hv
  exact own_st (fun t q => X.iaload hx (cell := cl) (j := j) (v := .int (f i)) (by rw [eT]; exact A.1) (State.isArrayOf_alike hZ.alike A.2.1) A.2.2 (by rw [q2, S]; intro z; rcases z with z | z; exact q1 z; omega) (by rw [q2]; exact H i hi) hg hs hd t q) k
theorem own_alen (X : Stand p l e R s m args below meth c T locs cells slots) (hx : p.tables.exec = Jvm.exec) (hZ : Z.Warmed39 s.vm) (eT : T.heap = h) {a : Addr} {ty : FieldType} {n : Nat} {f : Nat → Value} (F : own_Av Z h a ty n f) {z : Int32} (hz : n.toInt32 = z)
    {g : JFrame} (hg : g.method = m) {rest : List Value} (hs : g.stack = .ref a :: rest) (hd : decode c.code g.pc = .ok (.arraylength, 1))
    (k : own_Win p e below s Q kc ks (T.setTop { g with pc := g.pc + 1, stack := .int z :: rest })) : own_Win p e below s Q kc ks (T.setTop g) := by
  obtain ⟨r, cl, A, S, H⟩ := F
  subst hz
  refine own_st (fun t q => X.arraylength hx (cell := cl) (by rw [eT]; exact A.1) (State.isArrayOf_alike hZ.alike A.2.1) hg hs hd t ?_) k
  rw [S]; exact q
theorem own_dastore (X : Stand p l e R s m args below meth c T locs cells slots) (hx : p.tables.exec = Jvm.exec) (hZ : Z.Warmed39 s.vm) (eT : T.heap = h) {a : Addr} {n i : Nat} {f : Nat → UInt64} (F : own_Da Z h a n f) {j : Int32} (hj : j.toInt = (i : Int)) (hi : i < n) {n0 : Nat} (N : Fr n0 locs) (hn : n0 ≤ a)
    {x : UInt64} {g : JFrame} (hg : g.method = m) {rest : List Value} (hs : g.stack = .double x :: .int j :: .ref a :: rest) (hd : decode c.code g.pc = .ok (.dastore, 1))
    (k : ∀ (T' : State) (h' : Heap) (locs' : List Loc), Stand p l e R s m args below meth c T' locs' cells slots → T'.heap = h' → Fr n0 locs' → Wr h h' a i (.double x) → own_Da Z h' a n (own_up f i x) → own_Win p e below s Q kc ks (T'.setTop { g with pc := g.pc + 1, stack := rest })) : own_Win p e below s Q kc ks (T.setTop g) := by
  obtain ⟨r, cl, A, S, H⟩ := F
  obtain ⟨q1, q2⟩ := own_clamp hj
  obtain ⟨T', h1, X', e', W, st⟩ := stD X hx hZ eT A (j := j) (x := x) (by rw [q2, S]; intro z; rcases z with z | z; exact q1 z; omega) hg hs hd
  rw [q2] at X' W
  refine own_st st (k T' h1 _ X' e' (Fr.snoc X' N hn) W ((own_Av.set W ⟨r, cl, A, S, H⟩ hi).congr fun u hu => ?_))
  unfold own_up; split <;> rfl
theorem own_iastore (X : Stand p l e R s m args below meth c T locs cells slots) (hx : p.tables.exec = Jvm.exec) (hZ : Z.Warmed39 s.vm) (eT : T.heap = h) {a : Addr} {n i : Nat} {f : Nat → Int32} (F : own_Ia Z h a n f) {j : Int32} (hj : j.toInt = (i : Int)) (hi : i < n) {n0 : Nat} (N : Fr n0 locs) (hn : n0 ≤ a)
    {x : Int32} {g : JFrame} (hg : g.method = m) {rest : List Value} (hs : g.stack = .int x :: .int j :: .ref a :: rest) (hd : decode c.code g.pc = .ok (.iastore, 1))
    (k : ∀ (T' : State) (h' : Heap) (locs' : List Loc), Stand p l e R s m args below meth c T' locs' cells slots → T'.heap = h' → Fr n0 locs' → Wr h h' a i (.int x) → own_Ia Z h' a n (own_up f i x) → own_Win p e below s Q kc ks (T'.setTop { g with pc := g.pc + 1, stack := rest })) : own_Win p e below s Q kc ks (T.setTop g) := by
  obtain ⟨r, cl, A, S, H⟩ := F
  obtain ⟨q1, q2⟩ := own_clamp hj
  obtain ⟨T', h1, X', e', W, st⟩ := stI X hx hZ eT A (j := j) (x := x) (by rw [q2, S]; intro z; rcases z with z | z; exact q1 z; omega) hg hs hd
  rw [q2] at X' W
  refine own_st st (k T' h1 _ X' e' (Fr.snoc X' N hn) W ((own_Av.set W ⟨r, cl, A, S, H⟩ hi).congr fun u hu => ?_))
  unfold own_up; split <;> rfl
theorem own_newD (X : Stand p l e R s m args below meth c T locs cells slots) (hx : p.tables.exec = Jvm.exec) (hZ : Z.Warmed39 s.vm) (w : (Cond.arrayClass .double).before a0 Z = true) (eT : T.heap = h) {n cap : Nat} {z : Int32} (hz : z.toInt = (n : Int)) (hcap : n ≤ cap) (hb : cap * 8 ≤ 536870912) (hc : cells + 1 ≤ R.cells) (hl : slots + cap ≤ R.slots)
    {g : JFrame} (hg : g.method = m) {rest : List Value} (hs : g.stack = .int z :: rest) (hd : decode c.code g.pc = .ok (.newarray .double, 2))
    (k : ∀ (T' : State) (h' : Heap) (a : Addr), Stand p l e R s m args below meth c T' locs (cells + 1) (slots + cap) → T'.heap = h' → a = h.size → Ext h h' → own_Da Z h' a n (fun _ => 0) → Exa Z h' a "[D" → own_Win p e below s Q kc ks (T'.setTop { g with pc := g.pc + 2, stack := .ref a :: rest })) : own_Win p e below s Q kc ks (T.setTop g) := by
  obtain ⟨q1, q2⟩ := own_clamp hz
  obtain ⟨T', h1, cA, X', e', E, A, Ex, st⟩ := newPE X hx hZ (aty := .double) w eT hg hd hs q1 (cap := cap) (by omega) hb hc hl (ad := "[D") (by decide)
  refine own_st st (k T' h1 _ X' e' rfl E ⟨by omega, _, A, by rw [sz_new, q2], fun u hu => ?_⟩ Ex)
  show (Array.replicate z.toNatClampNeg (defaultValue (newarray.typeOf .double)))[u]? = _
  rw [q2]; simp [hu]; rfl
theorem own_newI (X : Stand p l e R s m args below meth c T locs cells slots) (hx : p.tables.exec = Jvm.exec) (hZ : Z.Warmed39 s.vm) (w : (Cond.arrayClass .int).before a0 Z = true) (eT : T.heap = h) {n cap : Nat} {z : Int32} (hz : z.toInt = (n : Int)) (hcap : n ≤ cap) (hb : cap * 8 ≤ 536870912) (hc : cells + 1 ≤ R.cells) (hl : slots + cap ≤ R.slots)
    {g : JFrame} (hg : g.method = m) {rest : List Value} (hs : g.stack = .int z :: rest) (hd : decode c.code g.pc = .ok (.newarray .int, 2))
    (k : ∀ (T' : State) (h' : Heap) (a : Addr), Stand p l e R s m args below meth c T' locs (cells + 1) (slots + cap) → T'.heap = h' → a = h.size → Ext h h' → own_Ia Z h' a n (fun _ => 0) → own_Win p e below s Q kc ks (T'.setTop { g with pc := g.pc + 2, stack := .ref a :: rest })) : own_Win p e below s Q kc ks (T.setTop g) := by
  obtain ⟨q1, q2⟩ := own_clamp hz
  obtain ⟨T', h1, cA, X', e', E, A, st⟩ := newP X hx hZ (aty := .int) w eT hg hd hs q1 (cap := cap) (by omega) hb hc hl
  refine own_st st (k T' h1 _ X' e' rfl E ⟨by omega, _, A, by rw [sz_new, q2], fun u hu => ?_⟩)
  show (Array.replicate z.toNatClampNeg (defaultValue (newarray.typeOf .int)))[u]? = _
  rw [q2]; simp [hu]; rfl
theorem own_clone (X : Stand p l e R s m args below meth c T locs cells slots) (hx : p.tables.exec = Jvm.exec) (hZ : Z.Warmed39 s.vm) {own : String} {index : Nat} (hown : s.vm.findClass own = some m.cls)
    (w1 : (Cond.methodLink own index ⟨"[D", "clone", "()Ljava/lang/Object;"⟩).before a0 Z = true) (w2 : (Cond.sameMethod "[D" "java/lang/Object" "clone" "()Ljava/lang/Object;").before a0 Z = true) (w3 : (Cond.native ⟨"java/lang/Object", "clone", "()Ljava/lang/Object;"⟩).before a0 Z = true)
    (w4 : (Cond.instanceMethod ⟨"java/lang/Object", "clone", "()Ljava/lang/Object;"⟩).before a0 Z = true) (w5 : (Cond.selects "[D" ⟨"[D", "clone", "()Ljava/lang/Object;"⟩ ⟨"java/lang/Object", "clone", "()Ljava/lang/Object;"⟩).before a0 Z = true) (w6 : (Cond.castable "[D" "java/lang/Cloneable").before a0 Z = true)
    (eT : T.heap = h) {a : Addr} {n : Nat} {f : Nat → UInt64} (F : own_Da Z h a n f) (E : Exa Z h a "[D") {g : JFrame} (hg : g.method = m) (hsize : g.locals.size = c.maxLocals) {rest : List Value} (hs : g.stack = .ref a :: rest) (hd : decode c.code g.pc = .ok (.invokevirtual index, 3))
    (hf : 1 ≤ R.frames) {W : Nat} (hW : 2 * g.monitorRoom + (rest.map fun v => v.category).sum ≤ W) (hl : W + 14 ≤ R.locals) (hc : cells + 1 ≤ R.cells) (hsl : slots + n ≤ R.slots)
    (k : ∀ (T' : State) (h' : Heap) (b : Addr), Stand p l e R s m args below meth c T' locs (cells + 1) (slots + n) → T'.heap = h' → b = h.size → Ext h h' → own_Da Z h' b n f → Exa Z h' b "[D" → own_Win p e below s Q kc ks (T'.setTop { g with pc := g.pc + 3, stack := .ref b :: rest })) : own_Win p e below s Q kc ks (T.setTop g) := by
  obtain ⟨r, cl, A, S, H⟩ := F
  have FC : FitC Z cl := fitC_of A fun i hi v hv => by
    rw [S] at hi
    rw [H i hi] at hv; cases hv; rfl
  obtain ⟨T', h1, X', e', ex, A', E', st⟩ := cloneA X hx hZ hown w1 w2 w3 w4 w5 w6 eT A E FC hg hsize hs hd hf hW hl (cap := n) (by omega) hc hsl
  exact own_st st (k T' h1 _ X' e' rfl ex ⟨r, _, A', S, H⟩ E')
end Arrays
end Jvm.RoadKit

namespace Jvm.RoadKit
open Jvm.FP Jvm.Free.Fl Sem ClassFile Op Lib
theorem own_nnI {i : Int} {x : UInt64} (h : Core.DInt i x) : NoNaN64 x := noNaN64_no.mpr ((Core.notNaN_iff x).mpr (Core.DInt_ne_nan h))
/-- what a branch asks of two whole numbers that were compared -/
def own_ic : ClassFile.Cond → Int → Int → Bool
  | .eq, i, j => decide (i = j)
  | .ne, i, j => decide (i ≠ j)
  | .lt, i, j => decide (i < j)
  | .ge, i, j => decide (j ≤ i)
  | .gt, i, j => decide (j < i)
  | .le, i, j => decide (i ≤ j)
theorem own_hc {i j : Int} {x y : UInt64} (hx : Core.DInt i x) (hy : Core.DInt j y) (o : CmpOp) (cd : ClassFile.Cond) : ifCond.holds cd (cmpValue (FP.dcmp x y) o) = own_ic cd i j := by
  have e : FP.dcmp x y = some (compare i j) := Core.dcmp_int hx hy
  rw [e, Core.compare_ite]
  by_cases q : i < j
  · rw [if_pos q]
    cases cd
    · exact (show ifCond.holds .eq (cmpValue (some .lt) o) = false from rfl).trans (decide_eq_false (by omega)).symm
    · exact (show ifCond.holds .ne (cmpValue (some .lt) o) = true from rfl).trans (decide_eq_true (by omega)).symm
    · exact (show ifCond.holds .lt (cmpValue (some .lt) o) = true from rfl).trans (decide_eq_true (by omega)).symm
    · exact (show ifCond.holds .ge (cmpValue (some .lt) o) = false from rfl).trans (decide_eq_false (by omega)).symm
    · exact (show ifCond.holds .gt (cmpValue (some .lt) o) = false from rfl).trans (decide_eq_false (by omega)).symm
    · exact (show ifCond.holds .le (cmpValue (some .lt) o) = true from rfl).trans (decide_eq_true (by omega)).symm
  · rw [if_neg q]
    by_cases r : i = j
    · rw [if_pos r]
      cases cd
      · exact (show ifCond.holds .eq (cmpValue (some .eq) o) = true from rfl).trans (decide_eq_true (by omega)).symm
      · exact (show ifCond.holds .ne (cmpValue (some .eq) o) = false from rfl).trans (decide_eq_false (by omega)).symm
      · exact (show ifCond.holds .lt (cmpValue (some .eq) o) = false from rfl).trans (decide_eq_false (by omega)).symm
      · exact (show ifCond.holds .ge (cmpValue (some .eq) o) = true from rfl).trans (decide_eq_true (by omega)).symm
      · exact (show ifCond.holds .gt (cmpValue (some .eq) o) = false from rfl).trans (decide_eq_false (by omega)).symm
      · exact (show ifCond.holds .le (cmpValue (some .eq) o) = true from rfl).trans (decide_eq_true (by omega)).symm
    · rw [if_neg r]
      cases cd
      · exact (show ifCond.holds .eq (cmpValue (some .gt) o) = false from rfl).trans (decide_eq_false (by omega)).symm
      · exact (show ifCond.holds .ne (cmpValue (some .gt) o) = true from rfl).trans (decide_eq_true (by omega)).symm
      · exact (show ifCond.holds .lt (cmpValue (some .gt) o) = false from rfl).trans (decide_eq_false (by omega)).symm
      · exact (show ifCond.holds .ge (cmpValue (some .gt) o) = true from rfl).trans (decide_eq_true (by omega)).symm
      · exact (show ifCond.holds .gt (cmpValue (some .gt) o) = true from rfl).trans (decide_eq_true (by omega)).symm
      · exact (show ifCond.holds .le (cmpValue (some .gt) o) = false from rfl).trans (decide_eq_false (by omega)).symm
theorem own_lc {x y : Int64} (h : x = y) : Jvm.Free.XT.cmpL x y = 0 := by
  subst h
  unfold Jvm.Free.XT.cmpL
  rw [if_neg (fun q => by rw [Int64.lt_iff_toInt_lt] at q; omega), if_pos rfl]
theorem own_ap {i j : Int} {x y : UInt64} (hx : Core.DInt i x) (hy : Core.DInt j y) (h : (i + j).natAbs ≤ 9007199254740992) : Core.DInt (i + j) (FP.dadd x y) := Core.dadd_int hx hy h
theorem own_sp {i j : Int} {x y : UInt64} (hx : Core.DInt i x) (hy : Core.DInt j y) (h : (i - j).natAbs ≤ 9007199254740992) : Core.DInt (i - j) (FP.dsub x y) := Core.dsub_int hx hy h
theorem own_mp {i j : Int} {x y : UInt64} (hx : Core.DInt i x) (hy : Core.DInt j y) (h : (i * j).natAbs ≤ 9007199254740992) : Core.DInt (i * j) (FP.dmul x y) := Core.dmul_int hx hy h
theorem own_mb {i j : Int} {A B : Nat} (ha : i.natAbs ≤ A) (hb : j.natAbs ≤ B) : (i * j).natAbs ≤ A * B := by rw [Int.natAbs_mul]; exact Nat.mul_le_mul ha hb
theorem own_l2d {a : Int64} (h : a.toInt.natAbs ≤ 9007199254740992) : Core.DInt a.toInt (FP.l2d a) := Core.l2d_int h
end Jvm.RoadKit

namespace Jvm.RoadKit
open Jvm.FP Jvm.Free.Fl Sem ClassFile Op Lib
/-- x is the whole number i, of at most A -/
def own_N (i : Int) (x : UInt64) (A : Nat) : Prop := Core.DInt i x ∧ i.natAbs ≤ A
/-- x is i halves, of at most A -/
def own_H (i : Int) (x : UInt64) (A : Nat) : Prop := (∃ s c q, Core.val64 x = .fin s c q) ∧ Core.zval Core.b64 (Core.val64 x) = i * ((2 ^ 1073 : Nat) : Int) ∧ i.natAbs ≤ A
section Half
variable {i j : Int} {x y : UInt64} {A B : Nat}
theorem own_Nm (hx : own_N i x A) (hy : own_N j y B) (h : A * B ≤ 9007199254740992) : own_N (i * j) (FP.dmul x y) (A * B) := ⟨own_mp hx.1 hy.1 (Nat.le_trans (own_mb hx.2 hy.2) h), own_mb hx.2 hy.2⟩
theorem own_Na (hx : own_N i x A) (hy : own_N j y B) (h : A + B ≤ 9007199254740992) : own_N (i + j) (FP.dadd x y) (A + B) := by
  have h1 := hx.2
  have h2 := hy.2
  have h3 : (i + j).natAbs ≤ A + B := by omega
  exact ⟨own_ap hx.1 hy.1 (Nat.le_trans h3 h), h3⟩
theorem own_Nn (hx : own_N i x A) : NoNaN64 x := own_nnI hx.1
theorem own_fin (hx : Core.DInt i x) : ∃ s c q, Core.val64 x = .fin s c q := by
  unfold Core.DInt at hx
  cases e : Core.val64 x with
  | nan => rw [e] at hx; exact hx.elim
  | inf s => rw [e] at hx; exact hx.elim
  | fin s c q => exact ⟨s, c, q, rfl⟩
theorem own_one : ((Core.one64 : Nat) : Int) = 2 * ((2 ^ 1073 : Nat) : Int) := by
  have : Core.one64 = 2 * 2 ^ 1073 := by unfold Core.one64; rw [show (1074 : Nat) = 1 + 1073 from rfl, Nat.pow_add]
  rw [this, Int.natCast_mul]; rfl
theorem own_Nh (hx : own_N i x A) : own_H (2 * i) x (2 * A) := by
  refine ⟨own_fin hx.1, ?_, by have := hx.2; omega⟩
  rw [Core.DInt_zval hx.1, own_one, ← Int.mul_assoc, Int.mul_comm i 2]
theorem own_Hn (hx : own_H i x A) : NoNaN64 x := by
  obtain ⟨⟨s, c, q, e⟩, -⟩ := hx
  exact noNaN64_no.mpr ((Core.notNaN_iff x).mpr (by rw [e]; exact Core.Datum.noConfusion))
theorem own_rr (s : Bool) {k : Nat} (hk : k < 9007199254740992) : ∃ c' q', Core.roundRatio Core.b64 s k 1 (-1) = .fin s c' q' ∧ Core.inUnits c' q' Core.b64.qmin = k * 2 ^ 1073 := by
  obtain ⟨c', q', h1, h2⟩ := Core.round_exact Core.good_b64 s (c := k) (q := -1) hk (by decide) (by decide)
  refine ⟨c', q', h1, ?_⟩
  rw [h2]; unfold Core.inUnits
  rw [show ((-1 : Int) - Core.b64.qmin).toNat = 1073 by decide]
theorem own_rnd (s : Bool) {n k : Nat} {e : Int} (he : -1074 ≤ e) (hv : n * 2 ^ (e + 1074).toNat = k * 2 ^ 1073) : Core.round Core.b64 (.fin s n e) = Core.roundRatio Core.b64 s k 1 (-1) := by
  show Core.roundRatio Core.b64 s n 1 e = _
  refine Core.roundRatio_congr (by decide) (by decide) ?_
  rw [Nat.mul_one, Nat.mul_one]
  by_cases q : -1 ≤ e
  · rw [show (e + 1074).toNat = (e - -1).toNat + 1073 by omega, Nat.pow_add, ← Nat.mul_assoc] at hv
    rw [show (-1 - e).toNat = 0 by omega, Nat.pow_zero, Nat.mul_one]
    exact Nat.eq_of_mul_eq_mul_right (Nat.two_pow_pos 1073) hv
  · rw [show (e - -1).toNat = 0 by omega, Nat.pow_zero, Nat.mul_one]
    have hv' : n * 2 ^ (e + 1074).toNat = k * 2 ^ (-1 - e).toNat * 2 ^ (e + 1074).toNat := by
      rw [Nat.mul_assoc, ← Nat.pow_add, show (-1 - e).toNat + (e + 1074).toNat = 1073 by omega]; exact hv
    exact Nat.eq_of_mul_eq_mul_right (Nat.two_pow_pos _) hv'
theorem own_Ha (hx : own_H i x A) (hy : own_H j y B) (h : A + B < 9007199254740992) : own_H (i + j) (FP.dadd x y) (A + B) := by
  obtain ⟨⟨s, c, q, ex⟩, zx, bx⟩ := hx
  obtain ⟨⟨t, d, r, ey⟩, zy, bb⟩ := hy
  have fx := Core.val64_fits x
  have fy := Core.val64_fits y
  rw [ex] at fx zx
  rw [ey] at fy zy
  obtain ⟨sg, n, e, e1, e2, e3⟩ := Core.sum_units fx fy
  rw [zx, zy, ← Int.add_mul] at e3
  have eu : Core.inUnits n e Core.b64.qmin = n * 2 ^ (e + 1074).toNat := by
    unfold Core.inUnits; rw [Core.qmin_b64, show (e - -1074).toNat = (e + 1074).toNat by omega]
  have hn : n * 2 ^ (e + 1074).toNat = (i + j).natAbs * 2 ^ 1073 := by
    have := congrArg Int.natAbs e3
    rw [Core.natAbs_signed, Int.natAbs_mul, Int.natAbs_natCast, eu] at this
    exact this
  have hb : (i + j).natAbs ≤ A + B := by omega
  obtain ⟨c', q', r1, r2⟩ := own_rr sg (k := (i + j).natAbs) (Nat.lt_of_le_of_lt hb h)
  have hv : Core.val64 (FP.dadd x y) = .fin sg c' q' := by
    show Core.val64 (Core.dadd x y) = _
    rw [Core.val64_dadd, ex, ey, e1, own_rnd sg (by rw [Core.qmin_b64] at e2; exact e2) hn, r1]
  refine ⟨⟨_, _, _, hv⟩, ?_, hb⟩
  rw [hv]
  show Core.signed sg (Core.inUnits c' q' Core.b64.qmin) = _
  rw [r2, ← hn, ← eu]; exact e3
theorem own_Hd (hx : own_N i x A) (h : A < 9007199254740992) : own_H i (FP.ddiv x 4611686018427387904) A := by
  obtain ⟨s, c, q, ex⟩ := own_fin hx.1
  have hw : Core.Whole i (.fin s c q) := by have := hx.1; unfold Core.DInt at this; rw [ex] at this; exact this
  have hb := hx.2
  obtain ⟨c', q', r1, r2⟩ := own_rr s (k := i.natAbs) (Nat.lt_of_le_of_lt hb h)
  have e2 : Core.val64 4611686018427387904 = .fin false 4503599627370496 (-51) := by decide +kernel
  have hv : Core.val64 (FP.ddiv x 4611686018427387904) = .fin s c' q' := by
    show Core.val64 (Core.ddiv x 4611686018427387904) = _
    rw [Core.val64_ddiv, ex, e2, ← r1]
    have hq : Core.quotient Core.b64 (.fin s c q) (.fin false 4503599627370496 (-51)) = Core.roundRatio Core.b64 (s != false) c 4503599627370496 (q - -51) := by
      unfold Core.quotient
      simp
    rw [hq, show (s != false) = s by cases s <;> rfl]
    refine Core.roundRatio_congr (by decide) (by decide) ?_
    have hn := Core.whole_natAbs hw
    rw [Nat.mul_one, show (4503599627370496 : Nat) = 2 ^ 52 by decide]
    by_cases q0 : 0 ≤ q
    · rw [show (-q).toNat = 0 by omega, Nat.pow_zero, Nat.mul_one] at hn
      rw [show (q - -51 - -1).toNat = q.toNat + 52 by omega, show (-1 - (q - -51)).toNat = 0 by omega, Nat.pow_add, ← Nat.mul_assoc, hn, Nat.pow_zero, Nat.mul_one]
    · rw [show q.toNat = 0 by omega, Nat.pow_zero, Nat.mul_one] at hn
      rw [hn, Nat.mul_assoc, Nat.mul_assoc, ← Nat.pow_add, ← Nat.pow_add]
      congr 2
      omega
  refine ⟨⟨_, _, _, hv⟩, ?_, hb⟩
  rw [hv]
  show Core.signed s (Core.inUnits c' q' Core.b64.qmin) = _
  rw [r2, Core.signed_mul]
  congr 1
  by_cases i0 : i = 0
  · subst i0; exact Core.signed_zero s
  · rw [Core.whole_sign hw i0]
    unfold Core.signed
    by_cases q : i < 0
    · rw [decide_eq_true q, if_pos rfl]; omega
    · rw [decide_eq_false q, if_neg (by decide)]; omega
theorem own_Hc (hx : own_H i x A) (hy : own_H j y B) (e : i = j) (o : CmpOp) : cmpValue (FP.dcmp x y) o = 0 := by
  subst e
  obtain ⟨⟨s, c, q, ex⟩, zx, -⟩ := hx
  obtain ⟨⟨t, d, r, ey⟩, zy, -⟩ := hy
  have : FP.dcmp x y = some (compare (Core.zval Core.b64 (Core.val64 x)) (Core.zval Core.b64 (Core.val64 y))) := Core.dcmp_zval (by rw [ex]; exact Core.Datum.noConfusion) (by rw [ey]; exact Core.Datum.noConfusion)
  rw [this, zx, zy, Core.compare_self_int]; rfl
theorem own_N0 : own_N 0 (FP.dconst0) 0 := by
  refine ⟨?_, Nat.le_refl _⟩
  have e : Core.val64 FP.dconst0 = .fin false 0 Core.b64.qmin := Core.val64_zero
  unfold Core.DInt; rw [e]; show Core.signed false (0 * 2 ^ _) = 0 * _; rw [Nat.zero_mul, Int.zero_mul]; rfl
end Half
end Jvm.RoadKit

namespace Jvm.Pilot.@@N@@
open Jvm Jvm.ClassFile Sem Op Lib Jvm.Free Jvm.Stand Jvm.LawKit Jvm.RoadKit Bundle Jvm.Pilot.@@N@@.Jvm.D Jvm.Free.Fl

theorem di_0 : decode prog_42_method_1_code 0 = .ok (.aload_n 0, 1) := by decide +kernel
theorem di_1 : decode prog_42_method_1_code 1 = .ok (.invokespecial 3, 3) := by decide +kernel
theorem di_4 : decode prog_42_method_1_code 4 = .ok (.aload_n 0, 1) := by decide +kernel
theorem di_5 : decode prog_42_method_1_code 5 = .ok (.iconst 0, 1) := by decide +kernel
theorem di_6 : decode prog_42_method_1_code 6 = .ok (.invokevirtual 9, 3) := by decide +kernel
theorem di_9 : decode prog_42_method_1_code 9 = .ok (.return_, 1) := by decide +kernel
theorem dr_0 : decode prog_42_method_2_code 0 = .ok (.aload_n 0, 1) := by decide +kernel
theorem dr_1 : decode prog_42_method_2_code 1 = .ok (.iload_n 1, 1) := by decide +kernel
theorem dr_2 : decode prog_42_method_2_code 2 = .ok (.putfield 13, 3) := by decide +kernel
theorem dr_5 : decode prog_42_method_2_code 5 = .ok (.aload_n 0, 1) := by decide +kernel
theorem dr_6 : decode prog_42_method_2_code 6 = .ok (.getfield 17, 3) := by decide +kernel
theorem dr_9 : decode prog_42_method_2_code 9 = .ok (.ifnull 14, 3) := by decide +kernel
theorem dr_12 : decode prog_42_method_2_code 12 = .ok (.aload_n 0, 1) := by decide +kernel
theorem dr_13 : decode prog_42_method_2_code 13 = .ok (.getfield 17, 3) := by decide +kernel
theorem dr_16 : decode prog_42_method_2_code 16 = .ok (.arraylength, 1) := by decide +kernel
theorem dr_17 : decode prog_42_method_2_code 17 = .ok (.iconst 2, 1) := by decide +kernel
theorem dr_18 : decode prog_42_method_2_code 18 = .ok (.iload_n 1, 1) := by decide +kernel
theorem dr_19 : decode prog_42_method_2_code 19 = .ok (.imul, 1) := by decide +kernel
theorem dr_20 : decode prog_42_method_2_code 20 = .ok (.if_icmp .ge 66, 3) := by decide +kernel
theorem dr_23 : decode prog_42_method_2_code 23 = .ok (.aload_n 0, 1) := by decide +kernel
theorem dr_24 : decode prog_42_method_2_code 24 = .ok (.iconst 2, 1) := by decide +kernel
theorem dr_25 : decode prog_42_method_2_code 25 = .ok (.iload_n 1, 1) := by decide +kernel
theorem dr_26 : decode prog_42_method_2_code 26 = .ok (.imul, 1) := by decide +kernel
theorem dr_27 : decode prog_42_method_2_code 27 = .ok (.newarray .double, 2) := by decide +kernel
theorem dr_29 : decode prog_42_method_2_code 29 = .ok (.putfield 17, 3) := by decide +kernel
theorem dr_32 : decode prog_42_method_2_code 32 = .ok (.aload_n 0, 1) := by decide +kernel
theorem dr_33 : decode prog_42_method_2_code 33 = .ok (.iconst 4, 1) := by decide +kernel
theorem dr_34 : decode prog_42_method_2_code 34 = .ok (.iload_n 1, 1) := by decide +kernel
theorem dr_35 : decode prog_42_method_2_code 35 = .ok (.imul, 1) := by decide +kernel
theorem dr_36 : decode prog_42_method_2_code 36 = .ok (.newarray .double, 2) := by decide +kernel
theorem dr_38 : decode prog_42_method_2_code 38 = .ok (.putfield 21, 3) := by decide +kernel
theorem dr_41 : decode prog_42_method_2_code 41 = .ok (.aload_n 0, 1) := by decide +kernel
theorem dr_42 : decode prog_42_method_2_code 42 = .ok (.iconst 4, 1) := by decide +kernel
theorem dr_43 : decode prog_42_method_2_code 43 = .ok (.iload_n 1, 1) := by decide +kernel
theorem dr_44 : decode prog_42_method_2_code 44 = .ok (.imul, 1) := by decide +kernel
theorem dr_45 : decode prog_42_method_2_code 45 = .ok (.newarray .double, 2) := by decide +kernel
theorem dr_47 : decode prog_42_method_2_code 47 = .ok (.putfield 24, 3) := by decide +kernel
theorem dr_50 : decode prog_42_method_2_code 50 = .ok (.aload_n 0, 1) := by decide +kernel
theorem dr_51 : decode prog_42_method_2_code 51 = .ok (.iconst 4, 1) := by decide +kernel
theorem dr_52 : decode prog_42_method_2_code 52 = .ok (.iload_n 1, 1) := by decide +kernel
theorem dr_53 : decode prog_42_method_2_code 53 = .ok (.imul, 1) := by decide +kernel
theorem dr_54 : decode prog_42_method_2_code 54 = .ok (.newarray .double, 2) := by decide +kernel
theorem dr_56 : decode prog_42_method_2_code 56 = .ok (.putfield 27, 3) := by decide +kernel
theorem dr_59 : decode prog_42_method_2_code 59 = .ok (.aload_n 0, 1) := by decide +kernel
theorem dr_60 : decode prog_42_method_2_code 60 = .ok (.iconst 2, 1) := by decide +kernel
theorem dr_61 : decode prog_42_method_2_code 61 = .ok (.iload_n 1, 1) := by decide +kernel
theorem dr_62 : decode prog_42_method_2_code 62 = .ok (.imul, 1) := by decide +kernel
theorem dr_63 : decode prog_42_method_2_code 63 = .ok (.newarray .double, 2) := by decide +kernel
theorem dr_65 : decode prog_42_method_2_code 65 = .ok (.putfield 30, 3) := by decide +kernel
theorem dr_68 : decode prog_42_method_2_code 68 = .ok (.aload_n 0, 1) := by decide +kernel
theorem dr_69 : decode prog_42_method_2_code 69 = .ok (.iconst 2, 1) := by decide +kernel
theorem dr_70 : decode prog_42_method_2_code 70 = .ok (.iload_n 1, 1) := by decide +kernel
theorem dr_71 : decode prog_42_method_2_code 71 = .ok (.imul, 1) := by decide +kernel
theorem dr_72 : decode prog_42_method_2_code 72 = .ok (.newarray .double, 2) := by decide +kernel
theorem dr_74 : decode prog_42_method_2_code 74 = .ok (.putfield 33, 3) := by decide +kernel
theorem dr_77 : decode prog_42_method_2_code 77 = .ok (.aload_n 0, 1) := by decide +kernel
theorem dr_78 : decode prog_42_method_2_code 78 = .ok (.iconst 2, 1) := by decide +kernel
theorem dr_79 : decode prog_42_method_2_code 79 = .ok (.iload_n 1, 1) := by decide +kernel
theorem dr_80 : decode prog_42_method_2_code 80 = .ok (.imul, 1) := by decide +kernel
theorem dr_81 : decode prog_42_method_2_code 81 = .ok (.newarray .double, 2) := by decide +kernel
theorem dr_83 : decode prog_42_method_2_code 83 = .ok (.putfield 36, 3) := by decide +kernel
theorem dr_86 : decode prog_42_method_2_code 86 = .ok (.return_, 1) := by decide +kernel
theorem dv_0 : decode method_2_code 0 = .ok (.lload_n 0, 1) := by decide +kernel
theorem dv_1 : decode method_2_code 1 = .ok (.bipush 8, 2) := by decide +kernel
theorem dv_3 : decode method_2_code 3 = .ok (.iload_n 2, 1) := by decide +kernel
theorem dv_4 : decode method_2_code 4 = .ok (.imul, 1) := by decide +kernel
theorem dv_5 : decode method_2_code 5 = .ok (.lushr, 1) := by decide +kernel
theorem dv_6 : decode method_2_code 6 = .ok (.l2i, 1) := by decide +kernel
theorem dv_7 : decode method_2_code 7 = .ok (.i2b, 1) := by decide +kernel
theorem dv_8 : decode method_2_code 8 = .ok (.i2d, 1) := by decide +kernel
theorem dv_9 : decode method_2_code 9 = .ok (.dreturn, 1) := by decide +kernel
theorem dc_0 : decode prog_42_method_3_code 0 = .ok (.dconst 0, 1) := by decide +kernel
theorem dc_1 : decode prog_42_method_3_code 1 = .ok (.dstore_n 2, 1) := by decide +kernel
theorem dc_2 : decode prog_42_method_3_code 2 = .ok (.iconst 0, 1) := by decide +kernel
theorem dc_3 : decode prog_42_method_3_code 3 = .ok (.istore 4, 2) := by decide +kernel
theorem dc_5 : decode prog_42_method_3_code 5 = .ok (.iload 4, 2) := by decide +kernel
theorem dc_7 : decode prog_42_method_3_code 7 = .ok (.aload_n 0, 1) := by decide +kernel
theorem dc_8 : decode prog_42_method_3_code 8 = .ok (.getfield 13, 3) := by decide +kernel
theorem dc_11 : decode prog_42_method_3_code 11 = .ok (.if_icmp .ge 214, 3) := by decide +kernel
theorem dc_14 : decode prog_42_method_3_code 14 = .ok (.aload_n 1, 1) := by decide +kernel
theorem dc_15 : decode prog_42_method_3_code 15 = .ok (.iconst 2, 1) := by decide +kernel
theorem dc_16 : decode prog_42_method_3_code 16 = .ok (.iload 4, 2) := by decide +kernel
theorem dc_18 : decode prog_42_method_3_code 18 = .ok (.imul, 1) := by decide +kernel
theorem dc_19 : decode prog_42_method_3_code 19 = .ok (.daload, 1) := by decide +kernel
theorem dc_20 : decode prog_42_method_3_code 20 = .ok (.dstore 5, 2) := by decide +kernel
theorem dc_22 : decode prog_42_method_3_code 22 = .ok (.aload_n 1, 1) := by decide +kernel
theorem dc_23 : decode prog_42_method_3_code 23 = .ok (.iconst 2, 1) := by decide +kernel
theorem dc_24 : decode prog_42_method_3_code 24 = .ok (.iload 4, 2) := by decide +kernel
theorem dc_26 : decode prog_42_method_3_code 26 = .ok (.imul, 1) := by decide +kernel
theorem dc_27 : decode prog_42_method_3_code 27 = .ok (.iconst 1, 1) := by decide +kernel
theorem dc_28 : decode prog_42_method_3_code 28 = .ok (.iadd, 1) := by decide +kernel
theorem dc_29 : decode prog_42_method_3_code 29 = .ok (.daload, 1) := by decide +kernel
theorem dc_30 : decode prog_42_method_3_code 30 = .ok (.dstore 7, 2) := by decide +kernel
theorem dc_32 : decode prog_42_method_3_code 32 = .ok (.iconst 4, 1) := by decide +kernel
theorem dc_33 : decode prog_42_method_3_code 33 = .ok (.iload 4, 2) := by decide +kernel
theorem dc_35 : decode prog_42_method_3_code 35 = .ok (.imul, 1) := by decide +kernel
theorem dc_36 : decode prog_42_method_3_code 36 = .ok (.istore 9, 2) := by decide +kernel
theorem dc_38 : decode prog_42_method_3_code 38 = .ok (.dload_n 2, 1) := by decide +kernel
theorem dc_39 : decode prog_42_method_3_code 39 = .ok (.aload_n 0, 1) := by decide +kernel
theorem dc_40 : decode prog_42_method_3_code 40 = .ok (.getfield 17, 3) := by decide +kernel
theorem dc_43 : decode prog_42_method_3_code 43 = .ok (.iconst 2, 1) := by decide +kernel
theorem dc_44 : decode prog_42_method_3_code 44 = .ok (.iload 4, 2) := by decide +kernel
theorem dc_46 : decode prog_42_method_3_code 46 = .ok (.imul, 1) := by decide +kernel
theorem dc_47 : decode prog_42_method_3_code 47 = .ok (.daload, 1) := by decide +kernel
theorem dc_48 : decode prog_42_method_3_code 48 = .ok (.dload 5, 2) := by decide +kernel
theorem dc_50 : decode prog_42_method_3_code 50 = .ok (.dmul, 1) := by decide +kernel
theorem dc_51 : decode prog_42_method_3_code 51 = .ok (.aload_n 0, 1) := by decide +kernel
theorem dc_52 : decode prog_42_method_3_code 52 = .ok (.getfield 17, 3) := by decide +kernel
theorem dc_55 : decode prog_42_method_3_code 55 = .ok (.iconst 2, 1) := by decide +kernel
theorem dc_56 : decode prog_42_method_3_code 56 = .ok (.iload 4, 2) := by decide +kernel
theorem dc_58 : decode prog_42_method_3_code 58 = .ok (.imul, 1) := by decide +kernel
theorem dc_59 : decode prog_42_method_3_code 59 = .ok (.iconst 1, 1) := by decide +kernel
theorem dc_60 : decode prog_42_method_3_code 60 = .ok (.iadd, 1) := by decide +kernel
theorem dc_61 : decode prog_42_method_3_code 61 = .ok (.daload, 1) := by decide +kernel
theorem dc_62 : decode prog_42_method_3_code 62 = .ok (.dload 7, 2) := by decide +kernel
theorem dc_64 : decode prog_42_method_3_code 64 = .ok (.dmul, 1) := by decide +kernel
theorem dc_65 : decode prog_42_method_3_code 65 = .ok (.dadd, 1) := by decide +kernel
theorem dc_66 : decode prog_42_method_3_code 66 = .ok (.dadd, 1) := by decide +kernel
theorem dc_67 : decode prog_42_method_3_code 67 = .ok (.dstore_n 2, 1) := by decide +kernel
theorem dc_68 : decode prog_42_method_3_code 68 = .ok (.dload_n 2, 1) := by decide +kernel
theorem dc_69 : decode prog_42_method_3_code 69 = .ok (.dload 5, 2) := by decide +kernel
theorem dc_71 : decode prog_42_method_3_code 71 = .ok (.aload_n 0, 1) := by decide +kernel
theorem dc_72 : decode prog_42_method_3_code 72 = .ok (.getfield 21, 3) := by decide +kernel
theorem dc_75 : decode prog_42_method_3_code 75 = .ok (.iload 9, 2) := by decide +kernel
theorem dc_77 : decode prog_42_method_3_code 77 = .ok (.daload, 1) := by decide +kernel
theorem dc_78 : decode prog_42_method_3_code 78 = .ok (.dload 5, 2) := by decide +kernel
theorem dc_80 : decode prog_42_method_3_code 80 = .ok (.dmul, 1) := by decide +kernel
theorem dc_81 : decode prog_42_method_3_code 81 = .ok (.aload_n 0, 1) := by decide +kernel
theorem dc_82 : decode prog_42_method_3_code 82 = .ok (.getfield 21, 3) := by decide +kernel
theorem dc_85 : decode prog_42_method_3_code 85 = .ok (.iload 9, 2) := by decide +kernel
theorem dc_87 : decode prog_42_method_3_code 87 = .ok (.iconst 1, 1) := by decide +kernel
theorem dc_88 : decode prog_42_method_3_code 88 = .ok (.iadd, 1) := by decide +kernel
theorem dc_89 : decode prog_42_method_3_code 89 = .ok (.daload, 1) := by decide +kernel
theorem dc_90 : decode prog_42_method_3_code 90 = .ok (.dload 7, 2) := by decide +kernel
theorem dc_92 : decode prog_42_method_3_code 92 = .ok (.dmul, 1) := by decide +kernel
theorem dc_93 : decode prog_42_method_3_code 93 = .ok (.dadd, 1) := by decide +kernel
theorem dc_94 : decode prog_42_method_3_code 94 = .ok (.dmul, 1) := by decide +kernel
theorem dc_95 : decode prog_42_method_3_code 95 = .ok (.dload 7, 2) := by decide +kernel
theorem dc_97 : decode prog_42_method_3_code 97 = .ok (.aload_n 0, 1) := by decide +kernel
theorem dc_98 : decode prog_42_method_3_code 98 = .ok (.getfield 21, 3) := by decide +kernel
theorem dc_101 : decode prog_42_method_3_code 101 = .ok (.iload 9, 2) := by decide +kernel
theorem dc_103 : decode prog_42_method_3_code 103 = .ok (.iconst 2, 1) := by decide +kernel
theorem dc_104 : decode prog_42_method_3_code 104 = .ok (.iadd, 1) := by decide +kernel
theorem dc_105 : decode prog_42_method_3_code 105 = .ok (.daload, 1) := by decide +kernel
theorem dc_106 : decode prog_42_method_3_code 106 = .ok (.dload 5, 2) := by decide +kernel
theorem dc_108 : decode prog_42_method_3_code 108 = .ok (.dmul, 1) := by decide +kernel
theorem dc_109 : decode prog_42_method_3_code 109 = .ok (.aload_n 0, 1) := by decide +kernel
theorem dc_110 : decode prog_42_method_3_code 110 = .ok (.getfield 21, 3) := by decide +kernel
theorem dc_113 : decode prog_42_method_3_code 113 = .ok (.iload 9, 2) := by decide +kernel
theorem dc_115 : decode prog_42_method_3_code 115 = .ok (.iconst 3, 1) := by decide +kernel
theorem dc_116 : decode prog_42_method_3_code 116 = .ok (.iadd, 1) := by decide +kernel
theorem dc_117 : decode prog_42_method_3_code 117 = .ok (.daload, 1) := by decide +kernel
theorem dc_118 : decode prog_42_method_3_code 118 = .ok (.dload 7, 2) := by decide +kernel
theorem dc_120 : decode prog_42_method_3_code 120 = .ok (.dmul, 1) := by decide +kernel
theorem dc_121 : decode prog_42_method_3_code 121 = .ok (.dadd, 1) := by decide +kernel
theorem dc_122 : decode prog_42_method_3_code 122 = .ok (.dmul, 1) := by decide +kernel
theorem dc_123 : decode prog_42_method_3_code 123 = .ok (.dadd, 1) := by decide +kernel
theorem dc_124 : decode prog_42_method_3_code 124 = .ok (.ldc2_w 39, 3) := by decide +kernel
theorem dc_127 : decode prog_42_method_3_code 127 = .ok (.ddiv, 1) := by decide +kernel
theorem dc_128 : decode prog_42_method_3_code 128 = .ok (.dadd, 1) := by decide +kernel
theorem dc_129 : decode prog_42_method_3_code 129 = .ok (.dstore_n 2, 1) := by decide +kernel
theorem dc_130 : decode prog_42_method_3_code 130 = .ok (.iload 4, 2) := by decide +kernel
theorem dc_132 : decode prog_42_method_3_code 132 = .ok (.iconst 1, 1) := by decide +kernel
theorem dc_133 : decode prog_42_method_3_code 133 = .ok (.iadd, 1) := by decide +kernel
theorem dc_134 : decode prog_42_method_3_code 134 = .ok (.aload_n 0, 1) := by decide +kernel
theorem dc_135 : decode prog_42_method_3_code 135 = .ok (.getfield 13, 3) := by decide +kernel
theorem dc_138 : decode prog_42_method_3_code 138 = .ok (.if_icmp .ge 81, 3) := by decide +kernel
theorem dc_141 : decode prog_42_method_3_code 141 = .ok (.aload_n 1, 1) := by decide +kernel
theorem dc_142 : decode prog_42_method_3_code 142 = .ok (.iconst 2, 1) := by decide +kernel
theorem dc_143 : decode prog_42_method_3_code 143 = .ok (.iload 4, 2) := by decide +kernel
theorem dc_145 : decode prog_42_method_3_code 145 = .ok (.imul, 1) := by decide +kernel
theorem dc_146 : decode prog_42_method_3_code 146 = .ok (.iconst 2, 1) := by decide +kernel
theorem dc_147 : decode prog_42_method_3_code 147 = .ok (.iadd, 1) := by decide +kernel
theorem dc_148 : decode prog_42_method_3_code 148 = .ok (.daload, 1) := by decide +kernel
theorem dc_149 : decode prog_42_method_3_code 149 = .ok (.dstore 10, 2) := by decide +kernel
theorem dc_151 : decode prog_42_method_3_code 151 = .ok (.aload_n 1, 1) := by decide +kernel
theorem dc_152 : decode prog_42_method_3_code 152 = .ok (.iconst 2, 1) := by decide +kernel
theorem dc_153 : decode prog_42_method_3_code 153 = .ok (.iload 4, 2) := by decide +kernel
theorem dc_155 : decode prog_42_method_3_code 155 = .ok (.imul, 1) := by decide +kernel
theorem dc_156 : decode prog_42_method_3_code 156 = .ok (.iconst 3, 1) := by decide +kernel
theorem dc_157 : decode prog_42_method_3_code 157 = .ok (.iadd, 1) := by decide +kernel
theorem dc_158 : decode prog_42_method_3_code 158 = .ok (.daload, 1) := by decide +kernel
theorem dc_159 : decode prog_42_method_3_code 159 = .ok (.dstore 12, 2) := by decide +kernel
theorem dc_161 : decode prog_42_method_3_code 161 = .ok (.dload_n 2, 1) := by decide +kernel
theorem dc_162 : decode prog_42_method_3_code 162 = .ok (.dload 5, 2) := by decide +kernel
theorem dc_164 : decode prog_42_method_3_code 164 = .ok (.aload_n 0, 1) := by decide +kernel
theorem dc_165 : decode prog_42_method_3_code 165 = .ok (.getfield 24, 3) := by decide +kernel
theorem dc_168 : decode prog_42_method_3_code 168 = .ok (.iload 9, 2) := by decide +kernel
theorem dc_170 : decode prog_42_method_3_code 170 = .ok (.daload, 1) := by decide +kernel
theorem dc_171 : decode prog_42_method_3_code 171 = .ok (.dload 10, 2) := by decide +kernel
theorem dc_173 : decode prog_42_method_3_code 173 = .ok (.dmul, 1) := by decide +kernel
theorem dc_174 : decode prog_42_method_3_code 174 = .ok (.aload_n 0, 1) := by decide +kernel
theorem dc_175 : decode prog_42_method_3_code 175 = .ok (.getfield 24, 3) := by decide +kernel
theorem dc_178 : decode prog_42_method_3_code 178 = .ok (.iload 9, 2) := by decide +kernel
theorem dc_180 : decode prog_42_method_3_code 180 = .ok (.iconst 1, 1) := by decide +kernel
theorem dc_181 : decode prog_42_method_3_code 181 = .ok (.iadd, 1) := by decide +kernel
theorem dc_182 : decode prog_42_method_3_code 182 = .ok (.daload, 1) := by decide +kernel
theorem dc_183 : decode prog_42_method_3_code 183 = .ok (.dload 12, 2) := by decide +kernel
theorem dc_185 : decode prog_42_method_3_code 185 = .ok (.dmul, 1) := by decide +kernel
theorem dc_186 : decode prog_42_method_3_code 186 = .ok (.dadd, 1) := by decide +kernel
theorem dc_187 : decode prog_42_method_3_code 187 = .ok (.dmul, 1) := by decide +kernel
theorem dc_188 : decode prog_42_method_3_code 188 = .ok (.dload 7, 2) := by decide +kernel
theorem dc_190 : decode prog_42_method_3_code 190 = .ok (.aload_n 0, 1) := by decide +kernel
theorem dc_191 : decode prog_42_method_3_code 191 = .ok (.getfield 24, 3) := by decide +kernel
theorem dc_194 : decode prog_42_method_3_code 194 = .ok (.iload 9, 2) := by decide +kernel
theorem dc_196 : decode prog_42_method_3_code 196 = .ok (.iconst 2, 1) := by decide +kernel
theorem dc_197 : decode prog_42_method_3_code 197 = .ok (.iadd, 1) := by decide +kernel
theorem dc_198 : decode prog_42_method_3_code 198 = .ok (.daload, 1) := by decide +kernel
theorem dc_199 : decode prog_42_method_3_code 199 = .ok (.dload 10, 2) := by decide +kernel
theorem dc_201 : decode prog_42_method_3_code 201 = .ok (.dmul, 1) := by decide +kernel
theorem dc_202 : decode prog_42_method_3_code 202 = .ok (.aload_n 0, 1) := by decide +kernel
theorem dc_203 : decode prog_42_method_3_code 203 = .ok (.getfield 24, 3) := by decide +kernel
theorem dc_206 : decode prog_42_method_3_code 206 = .ok (.iload 9, 2) := by decide +kernel
theorem dc_208 : decode prog_42_method_3_code 208 = .ok (.iconst 3, 1) := by decide +kernel
theorem dc_209 : decode prog_42_method_3_code 209 = .ok (.iadd, 1) := by decide +kernel
theorem dc_210 : decode prog_42_method_3_code 210 = .ok (.daload, 1) := by decide +kernel
theorem dc_211 : decode prog_42_method_3_code 211 = .ok (.dload 12, 2) := by decide +kernel
theorem dc_213 : decode prog_42_method_3_code 213 = .ok (.dmul, 1) := by decide +kernel
theorem dc_214 : decode prog_42_method_3_code 214 = .ok (.dadd, 1) := by decide +kernel
theorem dc_215 : decode prog_42_method_3_code 215 = .ok (.dmul, 1) := by decide +kernel
theorem dc_216 : decode prog_42_method_3_code 216 = .ok (.dadd, 1) := by decide +kernel
theorem dc_217 : decode prog_42_method_3_code 217 = .ok (.dadd, 1) := by decide +kernel
theorem dc_218 : decode prog_42_method_3_code 218 = .ok (.dstore_n 2, 1) := by decide +kernel
theorem dc_219 : decode prog_42_method_3_code 219 = .ok (.iinc 4 1, 3) := by decide +kernel
theorem dc_222 : decode prog_42_method_3_code 222 = .ok (.goto (-217), 3) := by decide +kernel
theorem dc_225 : decode prog_42_method_3_code 225 = .ok (.dload_n 2, 1) := by decide +kernel
theorem dc_226 : decode prog_42_method_3_code 226 = .ok (.dreturn, 1) := by decide +kernel
theorem pnQ : plainName "com/example/mantleray/mantleray/QuadraticModel" = true := by first | (simp [plainName, overriddenIn]; done) | decide +kernel
theorem pnL : plainName "com/example/mantleray/mantleray/QuadraticModelChangePinLaw" = true := by first | (simp [plainName, overriddenIn]; done) | decide +kernel
theorem pdI : parseMethodDescriptor "()V" = some ⟨[], none⟩ := by decide +kernel
theorem pdR : parseMethodDescriptor "(I)V" = some ⟨[.int], none⟩ := by decide +kernel
theorem pdV : parseMethodDescriptor "(JI)D" = some ⟨[.long, .int], some .double⟩ := by decide +kernel
theorem pdC : parseMethodDescriptor "([D)D" = some ⟨[.array .double], some .double⟩ := by decide +kernel
set_option maxRecDepth 65536 in
set_option maxHeartbeats 40000000 in
theorem efI (m : MethodId) (x0 : Addr) : entryFrame m #[(.ref x0)] 1 = mkF m 0 #[.val (.ref x0)] [] := by first | (simp [entryFrame, mkF, argsToLocals, Value.category]; done) | rfl
set_option maxRecDepth 65536 in
set_option maxHeartbeats 40000000 in
theorem efR (m : MethodId) (x0 : Addr) (x1 : Int32) : entryFrame m #[(.ref x0), (.int x1)] 2 = mkF m 0 #[.val (.ref x0), .val (.int x1)] [] := by first | (simp [entryFrame, mkF, argsToLocals, Value.category]; done) | rfl
set_option maxRecDepth 65536 in
set_option maxHeartbeats 40000000 in
theorem efV (m : MethodId) (x0 : Int64) (x1 : Int32) : entryFrame m #[(.long x0), (.int x1)] 3 = mkF m 0 #[.val (.long x0), .second, .val (.int x1)] [] := by first | (simp [entryFrame, mkF, argsToLocals, Value.category]; done) | rfl
set_option maxRecDepth 65536 in
set_option maxHeartbeats 40000000 in
theorem efC (m : MethodId) (x0 x1 : Addr) : entryFrame m #[(.ref x0), (.ref x1)] 14 = mkF m 0 #[.val (.ref x0), .val (.ref x1), .unset, .unset, .unset, .unset, .unset, .unset, .unset, .unset, .unset, .unset, .unset, .unset] [] := by first | (simp [entryFrame, mkF, argsToLocals, Value.category]; done) | rfl
set_option maxRecDepth 65536 in
set_option maxHeartbeats 40000000 in
theorem efL (m : MethodId) (p1 p2 p3 p4 p5 : Int64) (p6 : Int32) : entryFrame m #[(.long p1), (.long p2), (.long p3), (.long p4), (.long p5), (.int p6)] maxLocals = mkF m 0 #[.val (.long p1), .second, .val (.long p2), .second, .val (.long p3), .second, .val (.long p4), .second, .val (.long p5), .second, .val (.int p6), .unset, .unset, .unset, .unset, .unset, .unset, .unset, .unset, .unset, .unset, .unset, .unset, .unset, .unset, .unset, .unset, .unset, .unset, .unset, .unset, .unset, .unset, .unset, .unset, .unset, .unset, .unset, .unset, .unset, .unset, .unset, .unset, .unset, .unset, .unset, .unset, .unset, .unset, .unset, .unset, .unset, .unset, .unset, .unset, .unset, .unset, .unset, .unset, .unset, .unset, .unset, .unset, .unset, .unset, .unset, .unset, .unset, .unset, .unset, .unset, .unset, .unset, .unset, .unset, .unset, .unset, .unset, .unset, .unset, .unset, .unset, .unset, .unset, .unset, .unset, .unset, .unset, .unset] [] := by first | (simp [entryFrame, mkF, argsToLocals, Value.category, maxLocals]; done) | rfl
abbrev yI : MethodName := ⟨"com/example/mantleray/mantleray/QuadraticModel", "<init>", "()V"⟩
abbrev yR : MethodName := ⟨"com/example/mantleray/mantleray/QuadraticModel", "resize", "(I)V"⟩
abbrev yV : MethodName := ⟨"com/example/mantleray/mantleray/QuadraticModelChangePinLaw", "v", "(JI)D"⟩
abbrev yC : MethodName := ⟨"com/example/mantleray/mantleray/QuadraticModel", "change", "([D)D"⟩
def own_b (x : Int64) (k : Int32) : Int32 := (XT.ushrL x ((8 : Int32) * k)).toInt32.toInt8.toInt32
theorem own_vx (x : Int64) (k : Int32) : ∃ (z : UInt64) (i : Int), FP.i2d (own_b x k) = z ∧ own_N i z 128 := by
  refine ⟨_, _, rfl, FP.Core.i2d_int _, ?_⟩
  have := (c_i2b (XT.ushrL x ((8 : Int32) * k)).toInt32).2
  unfold own_b
  omega
theorem own_n (x : Int32) : x &&& 3 = 0 ∨ x &&& 3 = 1 ∨ x &&& 3 = 2 ∨ x &&& 3 = 3 := by
  have h := c_and x 3 (by decide)
  have h3 : (3 : Int32).toInt = 3 := rfl
  have h4 : (x &&& 3).toInt = 0 ∨ (x &&& 3).toInt = 1 ∨ (x &&& 3).toInt = 2 ∨ (x &&& 3).toInt = 3 := by omega
  rcases h4 with q | q | q | q
  · exact Or.inl (Int32.toInt_inj.mp q)
  · exact Or.inr (Or.inl (Int32.toInt_inj.mp q))
  · exact Or.inr (Or.inr (Or.inl (Int32.toInt_inj.mp q)))
  · exact Or.inr (Or.inr (Or.inr (Int32.toInt_inj.mp q)))
theorem own_z0 : own_N 0 (FP.dconst0) 128 := ⟨own_N0.1, by decide⟩
def Q_rmV (Z : State) (p1 : Int64) (p2 : Int32) (z : UInt64) (h0 : Heap) (n0 : Nat) : Option Value → Heap → List Loc → Prop := fun v h L => v = some (.double z) ∧ Fr n0 L ∧ h = h0
set_option maxRecDepth 65536 in
set_option maxHeartbeats 40000000 in
theorem rmV (l : Launch) (Z : State) (a0 : Array Value) (hw : ∀ d ∈ tables_1, d.before a0 Z = true) (ws : List Jvm.Cond) (p1 : Int64) (p2 : Int32) (z : UInt64) (h0 : Heap) (n0 : Nat) (Z0 : n0 ≤ h0.size) (hz : FP.i2d (own_b p1 p2) = z) :
    MetFree l yV (head1 (Jvm.Cond.code yV method_2_code 3 (some .double) :: ws) ({ frames := 0, cells := 0, slots := 0, locals := 0 } : Room)) (fun az Uz => az = #[(.long p1), (.int p2)] ∧ Z.Warmed39 Uz.vm ∧ Uz.heap = h0) (fun _ _ _ _ _ => True) (fun _ Uz oz Vz => ∃ vz Lz, oz = .returned vz ∧ (Q_rmV Z p1 p2 z h0 n0) vz Vz.heap Lz ∧ FrameEnd Uz oz Vz Lz ({ frames := 0, cells := 0, slots := 0, locals := 0 } : Room).cells ({ frames := 0, cells := 0, slots := 0, locals := 0 } : Room).slots) := by
  refine MetFree.of_bodySF (plainFor_of_name pnL) hisR ?_
  intro p e s m args below meth c s₁ Bd hml0 hP hK
  obtain ⟨rfl, hZ, hh⟩ := hP
  have hx := Bd.exec
  have hby := Bd.bytes
  have hlk := BodyLoose.notSynchronized Bd
  have hml : c.maxLocals = 3 := hml0
  have hown : s.vm.findClass "com/example/mantleray/mantleray/QuadraticModelChangePinLaw" = some m.cls := findClass_of_methodNamed Bd.named
  have hnm := (name_of_methodNamed Bd.named Bd.method).1
  have X0 : Stand p l e ({ frames := 0, cells := 0, slots := 0, locals := 0 } : Room) s m #[(.long p1), (.int p2)] below meth c s₁ [] 0 0 := Stand.of_body Bd
  have e0 : s₁.heap = h0 := by rw [← hh, Bd.state]; rfl
  have N0 := Fr.nil n0
  show own_Win p e below s (Q_rmV Z p1 p2 z h0 n0) _ _ _
  refine own_st (fun tz kz => castTop (efV m p1 p2) kz) ?_
  show own_Win p e below s _ _ _ (s₁.setTop (mkF m 0 #[.val (.long p1), .second, .val (.int p2)] []))
  refine own_st (fun _ kz => XT.lloadN X0.here hx rfl (hb hby dv_0) rfl kz) ?_
  show own_Win p e below s _ _ _ (s₁.setTop (mkF m 1 #[.val (.long p1), .second, .val (.int p2)] [(.long p1)]))
  refine own_st (fun _ kz => XS.bipush X0.here hx rfl (hb hby dv_1) kz) ?_
  show own_Win p e below s _ _ _ (s₁.setTop (mkF m 3 #[.val (.long p1), .second, .val (.int p2)] [(.int (8 : Int32)), (.long p1)]))
  refine own_st (fun _ kz => XS.iloadN X0.here hx rfl (hb hby dv_3) rfl kz) ?_
  show own_Win p e below s _ _ _ (s₁.setTop (mkF m 4 #[.val (.long p1), .second, .val (.int p2)] [(.int p2), (.int (8 : Int32)), (.long p1)]))
  refine own_st (fun _ kz => XS.imul X0.here hx rfl (hb hby dv_4) rfl kz) ?_
  show own_Win p e below s _ _ _ (s₁.setTop (mkF m 5 #[.val (.long p1), .second, .val (.int p2)] [(.int ((8 : Int32) * p2)), (.long p1)]))
  refine own_st (fun _ kz => XT.lushr X0.here hx rfl (hb hby dv_5) rfl kz) ?_
  show own_Win p e below s _ _ _ (s₁.setTop (mkF m 6 #[.val (.long p1), .second, .val (.int p2)] [(.long (XT.ushrL p1 ((8 : Int32) * p2)))]))
  refine own_st (fun _ kz => XT.l2i X0.here hx rfl (hb hby dv_6) rfl kz) ?_
  show own_Win p e below s _ _ _ (s₁.setTop (mkF m 7 #[.val (.long p1), .second, .val (.int p2)] [(.int ((XT.ushrL p1 ((8 : Int32) * p2)).toInt32))]))
  refine own_st (fun _ kz => XT.i2b X0.here hx rfl (hb hby dv_7) rfl kz) ?_
  show own_Win p e below s _ _ _ (s₁.setTop (mkF m 8 #[.val (.long p1), .second, .val (.int p2)] [(.int (((XT.ushrL p1 ((8 : Int32) * p2)).toInt32).toInt8.toInt32))]))
  refine own_st (fun _ kz => XS.i2dS X0.here hx rfl (hb hby dv_8) rfl hz kz) ?_
  show own_Win p e below s _ _ _ (s₁.setTop (mkF m 9 #[.val (.long p1), .second, .val (.int p2)] [(.double z)]))
  exact own_ret X0 hx hlk Bd.returns rfl (Or.inr (Or.inr (Or.inl ⟨rfl, rfl, _, rfl⟩))) (hb hby dv_9) ⟨rfl, N0, e0⟩ (Nat.le_refl _) (Nat.le_refl _)
def Q_rmR0 (Z : State) (a : Addr) (h0 : Heap) (n0 : Nat) : Option Value → Heap → List Loc → Prop := fun v h L => v = none ∧ Fr n0 L ∧ Keep h0 h [a] ∧ Exa Z h a "com/example/mantleray/mantleray/QuadraticModel" ∧ ∃ r_gradient r_blocks r_coupling r_inverses r_best r_candidate r_solution : Addr, Fld Z h a "com/example/mantleray/mantleray/QuadraticModel" "points" "I" (.int (0 : Int32)) ∧ Fld Z h a "com/example/mantleray/mantleray/QuadraticModel" "gradient" "[D" (.ref r_gradient) ∧ Fld Z h a "com/example/mantleray/mantleray/QuadraticModel" "blocks" "[D" (.ref r_blocks) ∧ Fld Z h a "com/example/mantleray/mantleray/QuadraticModel" "coupling" "[D" (.ref r_coupling) ∧ Fld Z h a "com/example/mantleray/mantleray/QuadraticModel" "inverses" "[D" (.ref r_inverses) ∧ Fld Z h a "com/example/mantleray/mantleray/QuadraticModel" "best" "[D" (.ref r_best) ∧ Fld Z h a "com/example/mantleray/mantleray/QuadraticModel" "candidate" "[D" (.ref r_candidate) ∧ Fld Z h a "com/example/mantleray/mantleray/QuadraticModel" "solution" "[D" (.ref r_solution) ∧ own_Da Z h r_gradient 0 (fun _ => 0) ∧ own_Da Z h r_blocks 0 (fun _ => 0) ∧ own_Da Z h r_coupling 0 (fun _ => 0) ∧ n0 ≤ r_gradient ∧ n0 ≤ r_blocks ∧ n0 ≤ r_coupling ∧ r_gradient ≠ r_blocks ∧ r_gradient ≠ r_coupling ∧ r_blocks ≠ r_coupling ∧ a ≠ r_gradient ∧ a ≠ r_blocks ∧ a ≠ r_coupling
set_option maxRecDepth 65536 in
set_option maxHeartbeats 40000000 in
theorem rmR0 (l : Launch) (Z : State) (a0 : Array Value) (hw : ∀ d ∈ tables_1, d.before a0 Z = true) (ws : List Jvm.Cond) (a : Addr) (h0 : Heap) (n0 : Nat) (Z0 : n0 ≤ h0.size) (EA : Exa Z h0 a "com/example/mantleray/mantleray/QuadraticModel") (q_a : n0 ≤ a) (f_points : Fld Z h0 a "com/example/mantleray/mantleray/QuadraticModel" "points" "I" (.int (0 : Int32))) (f_gradient : Fld Z h0 a "com/example/mantleray/mantleray/QuadraticModel" "gradient" "[D" .null) (f_blocks : Fld Z h0 a "com/example/mantleray/mantleray/QuadraticModel" "blocks" "[D" .null) (f_coupling : Fld Z h0 a "com/example/mantleray/mantleray/QuadraticModel" "coupling" "[D" .null) (f_inverses : Fld Z h0 a "com/example/mantleray/mantleray/QuadraticModel" "inverses" "[D" .null) (f_best : Fld Z h0 a "com/example/mantleray/mantleray/QuadraticModel" "best" "[D" .null) (f_candidate : Fld Z h0 a "com/example/mantleray/mantleray/QuadraticModel" "candidate" "[D" .null) (f_solution : Fld Z h0 a "com/example/mantleray/mantleray/QuadraticModel" "solution" "[D" .null) :
    MetFree l yR (head1 (Jvm.Cond.code yR prog_42_method_2_code 2 none :: ws) ({ frames := 0, cells := 7, slots := 0, locals := 0 } : Room)) (fun az Uz => az = #[(.ref a), (.int (0 : Int32))] ∧ Z.Warmed39 Uz.vm ∧ Uz.heap = h0) (fun _ _ _ _ _ => True) (fun _ Uz oz Vz => ∃ vz Lz, oz = .returned vz ∧ (Q_rmR0 Z a h0 n0) vz Vz.heap Lz ∧ FrameEnd Uz oz Vz Lz ({ frames := 0, cells := 7, slots := 0, locals := 0 } : Room).cells ({ frames := 0, cells := 7, slots := 0, locals := 0 } : Room).slots) := by
  refine MetFree.of_bodySF (plainFor_of_name pnQ) hisR ?_
  intro p e s m args below meth c s₁ Bd hml0 hP hK
  obtain ⟨rfl, hZ, hh⟩ := hP
  have hx := Bd.exec
  have hby := Bd.bytes
  have hlk := BodyLoose.notSynchronized Bd
  have hml : c.maxLocals = 2 := hml0
  have hown : s.vm.findClass "com/example/mantleray/mantleray/QuadraticModel" = some m.cls := findClass_of_methodNamed Bd.named
  have hnm := (name_of_methodNamed Bd.named Bd.method).1
  have X0 : Stand p l e ({ frames := 0, cells := 7, slots := 0, locals := 0 } : Room) s m #[(.ref a), (.int (0 : Int32))] below meth c s₁ [] 0 0 := Stand.of_body Bd
  have e0 : s₁.heap = h0 := by rw [← hh, Bd.state]; rfl
  have N0 := Fr.nil n0
  show own_Win p e below s (Q_rmR0 Z a h0 n0) _ _ _
  refine own_st (fun tz kz => castTop (efR m a (0 : Int32)) kz) ?_
  show own_Win p e below s _ _ _ (s₁.setTop (mkF m 0 #[.val (.ref a), .val (.int (0 : Int32))] []))
  refine own_st (fun _ kz => XS.aloadN X0.here hx rfl (hb hby dr_0) rfl rfl kz) ?_
  show own_Win p e below s _ _ _ (s₁.setTop (mkF m 1 #[.val (.ref a), .val (.int (0 : Int32))] [(.ref a)]))
  refine own_st (fun _ kz => XS.iloadN X0.here hx rfl (hb hby dr_1) rfl kz) ?_
  show own_Win p e below s _ _ _ (s₁.setTop (mkF m 2 #[.val (.ref a), .val (.int (0 : Int32))] [(.int (0 : Int32)), (.ref a)]))
  obtain ⟨T1, h1, X1, e1, W1, st1⟩ := putF X0 hx hZ hown (host := "") (Or.inl (hw _ (List.mem_of_getElem? (i := 14) rfl))) Via.refl e0 f_points EA (Or.inl (hw _ (List.mem_of_getElem? (i := 15) rfl))) (hw _ (List.mem_of_getElem? (i := 1) rfl)) (ty := .int) (by decide) rfl rfl (g := (mkF m 2 #[.val (.ref a), .val (.int (0 : Int32))] [(.int (0 : Int32)), (.ref a)])) rfl rfl (hb hby dr_2)
  refine own_st st1 ?_
  have N1 := Fr.snoc X1 N0 q_a
  have Z1 : n0 ≤ h1.size := by rw [Wr.size W1]; exact Z0
  have c_points_h1 : Fld Z h1 a "com/example/mantleray/mantleray/QuadraticModel" "points" "I" (.int (0 : Int32)) := Fld.same W1 f_points
  have c_E_h1 : Exa Z h1 a "com/example/mantleray/mantleray/QuadraticModel" := Exa.wr W1 EA
  have c_gradient_h1 : Fld Z h1 a "com/example/mantleray/mantleray/QuadraticModel" "gradient" "[D" .null := Fld.other W1 f_gradient (Or.inr (slot_ne (t := (.array .double)) (t' := .int) (Or.inl (hw _ (List.mem_of_getElem? (i := 17) rfl))) (Or.inl (hw _ (List.mem_of_getElem? (i := 15) rfl))) (by decide) (by decide) (by decide)))
  have c_blocks_h1 : Fld Z h1 a "com/example/mantleray/mantleray/QuadraticModel" "blocks" "[D" .null := Fld.other W1 f_blocks (Or.inr (slot_ne (t := (.array .double)) (t' := .int) (Or.inl (hw _ (List.mem_of_getElem? (i := 20) rfl))) (Or.inl (hw _ (List.mem_of_getElem? (i := 15) rfl))) (by decide) (by decide) (by decide)))
  have c_coupling_h1 : Fld Z h1 a "com/example/mantleray/mantleray/QuadraticModel" "coupling" "[D" .null := Fld.other W1 f_coupling (Or.inr (slot_ne (t := (.array .double)) (t' := .int) (Or.inl (hw _ (List.mem_of_getElem? (i := 22) rfl))) (Or.inl (hw _ (List.mem_of_getElem? (i := 15) rfl))) (by decide) (by decide) (by decide)))
  have c_inverses_h1 : Fld Z h1 a "com/example/mantleray/mantleray/QuadraticModel" "inverses" "[D" .null := Fld.other W1 f_inverses (Or.inr (slot_ne (t := (.array .double)) (t' := .int) (Or.inl (hw _ (List.mem_of_getElem? (i := 24) rfl))) (Or.inl (hw _ (List.mem_of_getElem? (i := 15) rfl))) (by decide) (by decide) (by decide)))
  have c_best_h1 : Fld Z h1 a "com/example/mantleray/mantleray/QuadraticModel" "best" "[D" .null := Fld.other W1 f_best (Or.inr (slot_ne (t := (.array .double)) (t' := .int) (Or.inl (hw _ (List.mem_of_getElem? (i := 26) rfl))) (Or.inl (hw _ (List.mem_of_getElem? (i := 15) rfl))) (by decide) (by decide) (by decide)))
  have c_candidate_h1 : Fld Z h1 a "com/example/mantleray/mantleray/QuadraticModel" "candidate" "[D" .null := Fld.other W1 f_candidate (Or.inr (slot_ne (t := (.array .double)) (t' := .int) (Or.inl (hw _ (List.mem_of_getElem? (i := 28) rfl))) (Or.inl (hw _ (List.mem_of_getElem? (i := 15) rfl))) (by decide) (by decide) (by decide)))
  have c_solution_h1 : Fld Z h1 a "com/example/mantleray/mantleray/QuadraticModel" "solution" "[D" .null := Fld.other W1 f_solution (Or.inr (slot_ne (t := (.array .double)) (t' := .int) (Or.inl (hw _ (List.mem_of_getElem? (i := 30) rfl))) (Or.inl (hw _ (List.mem_of_getElem? (i := 15) rfl))) (by decide) (by decide) (by decide)))
  show own_Win p e below s _ _ _ (T1.setTop (mkF m 5 #[.val (.ref a), .val (.int (0 : Int32))] []))
  refine own_st (fun _ kz => XS.aloadN X1.here hx rfl (hb hby dr_5) rfl rfl kz) ?_
  show own_Win p e below s _ _ _ (T1.setTop (mkF m 6 #[.val (.ref a), .val (.int (0 : Int32))] [(.ref a)]))
  obtain ⟨T2, X2, e2, st2⟩ := getF X1 hx hZ hown (host := "") (Or.inl (hw _ (List.mem_of_getElem? (i := 16) rfl))) Via.refl e1 c_gradient_h1 (g := (mkF m 6 #[.val (.ref a), .val (.int (0 : Int32))] [(.ref a)])) rfl rfl (hb hby dr_6)
  refine own_st st2 ?_
  show own_Win p e below s _ _ _ (T2.setTop (mkF m 9 #[.val (.ref a), .val (.int (0 : Int32))] [.null]))
  refine own_st (fun _ kz => XS.ifnullYes X2.here hx rfl (pc0 := 9) (pc' := 23) rfl (hb hby dr_9) rfl (by decide) (by decide) kz) ?_
  show own_Win p e below s _ _ _ (T2.setTop (mkF m 23 #[.val (.ref a), .val (.int (0 : Int32))] []))
  refine own_st (fun _ kz => XS.aloadN X2.here hx rfl (hb hby dr_23) rfl rfl kz) ?_
  show own_Win p e below s _ _ _ (T2.setTop (mkF m 24 #[.val (.ref a), .val (.int (0 : Int32))] [(.ref a)]))
  refine own_st (fun _ kz => XS.iconst X2.here hx rfl (hb hby dr_24) kz) ?_
  show own_Win p e below s _ _ _ (T2.setTop (mkF m 25 #[.val (.ref a), .val (.int (0 : Int32))] [(.int (2 : Int32)), (.ref a)]))
  refine own_st (fun _ kz => XS.iloadN X2.here hx rfl (hb hby dr_25) rfl kz) ?_
  show own_Win p e below s _ _ _ (T2.setTop (mkF m 26 #[.val (.ref a), .val (.int (0 : Int32))] [(.int (0 : Int32)), (.int (2 : Int32)), (.ref a)]))
  refine own_st (fun _ kz => XS.imul X2.here hx rfl (hb hby dr_26) rfl kz) ?_
  show own_Win p e below s _ _ _ (T2.setTop (mkF m 27 #[.val (.ref a), .val (.int (0 : Int32))] [(.int ((2 : Int32) * (0 : Int32))), (.ref a)]))
  refine own_newD X2 hx hZ (hw _ (List.mem_of_getElem? (i := 18) rfl)) e2 (n := 0) (cap := 0) rfl (Nat.le_refl _) (by decide) (by decide) (by decide) rfl rfl (hb hby dr_27) ?_
  intro T3 h3 a3 X3 e3 g3 E3 F3 Ex3
  show own_Win p e below s _ _ _ (T3.setTop (mkF m 29 #[.val (.ref a), .val (.int (0 : Int32))] [(.ref a3), (.ref a)]))
  have ne_a_a3 : a ≠ a3 := by rw [g3]; exact Nat.ne_of_lt (Exa.lt c_E_h1)
  have Z3 : n0 ≤ h3.size := Nat.le_trans Z1 E3.1
  have q_a3 : n0 ≤ a3 := by rw [g3]; exact Z1
  have c_E_h3 : Exa Z h3 a "com/example/mantleray/mantleray/QuadraticModel" := Exa.ext E3 c_E_h1
  have c_points_h3 : Fld Z h3 a "com/example/mantleray/mantleray/QuadraticModel" "points" "I" (.int (0 : Int32)) := Fld.ext E3 c_points_h1
  have c_gradient_h3 : Fld Z h3 a "com/example/mantleray/mantleray/QuadraticModel" "gradient" "[D" .null := Fld.ext E3 c_gradient_h1
  have c_blocks_h3 : Fld Z h3 a "com/example/mantleray/mantleray/QuadraticModel" "blocks" "[D" .null := Fld.ext E3 c_blocks_h1
  have c_coupling_h3 : Fld Z h3 a "com/example/mantleray/mantleray/QuadraticModel" "coupling" "[D" .null := Fld.ext E3 c_coupling_h1
  have c_inverses_h3 : Fld Z h3 a "com/example/mantleray/mantleray/QuadraticModel" "inverses" "[D" .null := Fld.ext E3 c_inverses_h1
  have c_best_h3 : Fld Z h3 a "com/example/mantleray/mantleray/QuadraticModel" "best" "[D" .null := Fld.ext E3 c_best_h1
  have c_candidate_h3 : Fld Z h3 a "com/example/mantleray/mantleray/QuadraticModel" "candidate" "[D" .null := Fld.ext E3 c_candidate_h1
  have c_solution_h3 : Fld Z h3 a "com/example/mantleray/mantleray/QuadraticModel" "solution" "[D" .null := Fld.ext E3 c_solution_h1
  obtain ⟨T4, h4, X4, e4, W4, st4⟩ := putF X3 hx hZ hown (host := "") (Or.inl (hw _ (List.mem_of_getElem? (i := 16) rfl))) Via.refl e3 c_gradient_h3 c_E_h3 (Or.inl (hw _ (List.mem_of_getElem? (i := 17) rfl))) (hw _ (List.mem_of_getElem? (i := 1) rfl)) (ty := (.array .double)) (by decide) rfl rfl (g := (mkF m 29 #[.val (.ref a), .val (.int (0 : Int32))] [(.ref a3), (.ref a)])) rfl rfl (hb hby dr_29)
  refine own_st st4 ?_
  have N4 := Fr.snoc X4 N1 q_a
  have Z4 : n0 ≤ h4.size := by rw [Wr.size W4]; exact Z3
  have c_gradient_h4 : Fld Z h4 a "com/example/mantleray/mantleray/QuadraticModel" "gradient" "[D" (.ref a3) := Fld.same W4 c_gradient_h3
  have c_E_h4 : Exa Z h4 a "com/example/mantleray/mantleray/QuadraticModel" := Exa.wr W4 c_E_h3
  have c_points_h4 : Fld Z h4 a "com/example/mantleray/mantleray/QuadraticModel" "points" "I" (.int (0 : Int32)) := Fld.other W4 c_points_h3 (Or.inr (slot_ne (t := .int) (t' := (.array .double)) (Or.inl (hw _ (List.mem_of_getElem? (i := 15) rfl))) (Or.inl (hw _ (List.mem_of_getElem? (i := 17) rfl))) (by decide) (by decide) (by decide)))
  have c_blocks_h4 : Fld Z h4 a "com/example/mantleray/mantleray/QuadraticModel" "blocks" "[D" .null := Fld.other W4 c_blocks_h3 (Or.inr (slot_ne (t := (.array .double)) (t' := (.array .double)) (Or.inl (hw _ (List.mem_of_getElem? (i := 20) rfl))) (Or.inl (hw _ (List.mem_of_getElem? (i := 17) rfl))) (by decide) (by decide) (by decide)))
  have c_coupling_h4 : Fld Z h4 a "com/example/mantleray/mantleray/QuadraticModel" "coupling" "[D" .null := Fld.other W4 c_coupling_h3 (Or.inr (slot_ne (t := (.array .double)) (t' := (.array .double)) (Or.inl (hw _ (List.mem_of_getElem? (i := 22) rfl))) (Or.inl (hw _ (List.mem_of_getElem? (i := 17) rfl))) (by decide) (by decide) (by decide)))
  have c_inverses_h4 : Fld Z h4 a "com/example/mantleray/mantleray/QuadraticModel" "inverses" "[D" .null := Fld.other W4 c_inverses_h3 (Or.inr (slot_ne (t := (.array .double)) (t' := (.array .double)) (Or.inl (hw _ (List.mem_of_getElem? (i := 24) rfl))) (Or.inl (hw _ (List.mem_of_getElem? (i := 17) rfl))) (by decide) (by decide) (by decide)))
  have c_best_h4 : Fld Z h4 a "com/example/mantleray/mantleray/QuadraticModel" "best" "[D" .null := Fld.other W4 c_best_h3 (Or.inr (slot_ne (t := (.array .double)) (t' := (.array .double)) (Or.inl (hw _ (List.mem_of_getElem? (i := 26) rfl))) (Or.inl (hw _ (List.mem_of_getElem? (i := 17) rfl))) (by decide) (by decide) (by decide)))
  have c_candidate_h4 : Fld Z h4 a "com/example/mantleray/mantleray/QuadraticModel" "candidate" "[D" .null := Fld.other W4 c_candidate_h3 (Or.inr (slot_ne (t := (.array .double)) (t' := (.array .double)) (Or.inl (hw _ (List.mem_of_getElem? (i := 28) rfl))) (Or.inl (hw _ (List.mem_of_getElem? (i := 17) rfl))) (by decide) (by decide) (by decide)))
  have c_solution_h4 : Fld Z h4 a "com/example/mantleray/mantleray/QuadraticModel" "solution" "[D" .null := Fld.other W4 c_solution_h3 (Or.inr (slot_ne (t := (.array .double)) (t' := (.array .double)) (Or.inl (hw _ (List.mem_of_getElem? (i := 30) rfl))) (Or.inl (hw _ (List.mem_of_getElem? (i := 17) rfl))) (by decide) (by decide) (by decide)))
  have c_ar_gradient_h4 : own_Da Z h4 a3 0 (fun _ => 0) := own_Av.other W4 F3 (Ne.symm ne_a_a3)
  show own_Win p e below s _ _ _ (T4.setTop (mkF m 32 #[.val (.ref a), .val (.int (0 : Int32))] []))
  refine own_st (fun _ kz => XS.aloadN X4.here hx rfl (hb hby dr_32) rfl rfl kz) ?_
  show own_Win p e below s _ _ _ (T4.setTop (mkF m 33 #[.val (.ref a), .val (.int (0 : Int32))] [(.ref a)]))
  refine own_st (fun _ kz => XS.iconst X4.here hx rfl (hb hby dr_33) kz) ?_
  show own_Win p e below s _ _ _ (T4.setTop (mkF m 34 #[.val (.ref a), .val (.int (0 : Int32))] [(.int (4 : Int32)), (.ref a)]))
  refine own_st (fun _ kz => XS.iloadN X4.here hx rfl (hb hby dr_34) rfl kz) ?_
  show own_Win p e below s _ _ _ (T4.setTop (mkF m 35 #[.val (.ref a), .val (.int (0 : Int32))] [(.int (0 : Int32)), (.int (4 : Int32)), (.ref a)]))
  refine own_st (fun _ kz => XS.imul X4.here hx rfl (hb hby dr_35) rfl kz) ?_
  show own_Win p e below s _ _ _ (T4.setTop (mkF m 36 #[.val (.ref a), .val (.int (0 : Int32))] [(.int ((4 : Int32) * (0 : Int32))), (.ref a)]))
  refine own_newD X4 hx hZ (hw _ (List.mem_of_getElem? (i := 18) rfl)) e4 (n := 0) (cap := 0) rfl (Nat.le_refl _) (by decide) (by decide) (by decide) rfl rfl (hb hby dr_36) ?_
  intro T5 h5 a5 X5 e5 g5 E5 F5 Ex5
  show own_Win p e below s _ _ _ (T5.setTop (mkF m 38 #[.val (.ref a), .val (.int (0 : Int32))] [(.ref a5), (.ref a)]))
  have ne_a_a5 : a ≠ a5 := by rw [g5]; exact Nat.ne_of_lt (Exa.lt c_E_h4)
  have ne_a3_a5 : a3 ≠ a5 := by rw [g5]; exact Nat.ne_of_lt (own_Av.lt c_ar_gradient_h4)
  have Z5 : n0 ≤ h5.size := Nat.le_trans Z4 E5.1
  have q_a5 : n0 ≤ a5 := by rw [g5]; exact Z4
  have c_E_h5 : Exa Z h5 a "com/example/mantleray/mantleray/QuadraticModel" := Exa.ext E5 c_E_h4
  have c_points_h5 : Fld Z h5 a "com/example/mantleray/mantleray/QuadraticModel" "points" "I" (.int (0 : Int32)) := Fld.ext E5 c_points_h4
  have c_gradient_h5 : Fld Z h5 a "com/example/mantleray/mantleray/QuadraticModel" "gradient" "[D" (.ref a3) := Fld.ext E5 c_gradient_h4
  have c_blocks_h5 : Fld Z h5 a "com/example/mantleray/mantleray/QuadraticModel" "blocks" "[D" .null := Fld.ext E5 c_blocks_h4
  have c_coupling_h5 : Fld Z h5 a "com/example/mantleray/mantleray/QuadraticModel" "coupling" "[D" .null := Fld.ext E5 c_coupling_h4
  have c_inverses_h5 : Fld Z h5 a "com/example/mantleray/mantleray/QuadraticModel" "inverses" "[D" .null := Fld.ext E5 c_inverses_h4
  have c_best_h5 : Fld Z h5 a "com/example/mantleray/mantleray/QuadraticModel" "best" "[D" .null := Fld.ext E5 c_best_h4
  have c_candidate_h5 : Fld Z h5 a "com/example/mantleray/mantleray/QuadraticModel" "candidate" "[D" .null := Fld.ext E5 c_candidate_h4
  have c_solution_h5 : Fld Z h5 a "com/example/mantleray/mantleray/QuadraticModel" "solution" "[D" .null := Fld.ext E5 c_solution_h4
  have c_ar_gradient_h5 : own_Da Z h5 a3 0 (fun _ => 0) := own_Av.ext E5 c_ar_gradient_h4
  obtain ⟨T6, h6, X6, e6, W6, st6⟩ := putF X5 hx hZ hown (host := "") (Or.inl (hw _ (List.mem_of_getElem? (i := 19) rfl))) Via.refl e5 c_blocks_h5 c_E_h5 (Or.inl (hw _ (List.mem_of_getElem? (i := 20) rfl))) (hw _ (List.mem_of_getElem? (i := 1) rfl)) (ty := (.array .double)) (by decide) rfl rfl (g := (mkF m 38 #[.val (.ref a), .val (.int (0 : Int32))] [(.ref a5), (.ref a)])) rfl rfl (hb hby dr_38)
  refine own_st st6 ?_
  have N6 := Fr.snoc X6 N4 q_a
  have Z6 : n0 ≤ h6.size := by rw [Wr.size W6]; exact Z5
  have c_blocks_h6 : Fld Z h6 a "com/example/mantleray/mantleray/QuadraticModel" "blocks" "[D" (.ref a5) := Fld.same W6 c_blocks_h5
  have c_E_h6 : Exa Z h6 a "com/example/mantleray/mantleray/QuadraticModel" := Exa.wr W6 c_E_h5
  have c_points_h6 : Fld Z h6 a "com/example/mantleray/mantleray/QuadraticModel" "points" "I" (.int (0 : Int32)) := Fld.other W6 c_points_h5 (Or.inr (slot_ne (t := .int) (t' := (.array .double)) (Or.inl (hw _ (List.mem_of_getElem? (i := 15) rfl))) (Or.inl (hw _ (List.mem_of_getElem? (i := 20) rfl))) (by decide) (by decide) (by decide)))
  have c_gradient_h6 : Fld Z h6 a "com/example/mantleray/mantleray/QuadraticModel" "gradient" "[D" (.ref a3) := Fld.other W6 c_gradient_h5 (Or.inr (slot_ne (t := (.array .double)) (t' := (.array .double)) (Or.inl (hw _ (List.mem_of_getElem? (i := 17) rfl))) (Or.inl (hw _ (List.mem_of_getElem? (i := 20) rfl))) (by decide) (by decide) (by decide)))
  have c_coupling_h6 : Fld Z h6 a "com/example/mantleray/mantleray/QuadraticModel" "coupling" "[D" .null := Fld.other W6 c_coupling_h5 (Or.inr (slot_ne (t := (.array .double)) (t' := (.array .double)) (Or.inl (hw _ (List.mem_of_getElem? (i := 22) rfl))) (Or.inl (hw _ (List.mem_of_getElem? (i := 20) rfl))) (by decide) (by decide) (by decide)))
  have c_inverses_h6 : Fld Z h6 a "com/example/mantleray/mantleray/QuadraticModel" "inverses" "[D" .null := Fld.other W6 c_inverses_h5 (Or.inr (slot_ne (t := (.array .double)) (t' := (.array .double)) (Or.inl (hw _ (List.mem_of_getElem? (i := 24) rfl))) (Or.inl (hw _ (List.mem_of_getElem? (i := 20) rfl))) (by decide) (by decide) (by decide)))
  have c_best_h6 : Fld Z h6 a "com/example/mantleray/mantleray/QuadraticModel" "best" "[D" .null := Fld.other W6 c_best_h5 (Or.inr (slot_ne (t := (.array .double)) (t' := (.array .double)) (Or.inl (hw _ (List.mem_of_getElem? (i := 26) rfl))) (Or.inl (hw _ (List.mem_of_getElem? (i := 20) rfl))) (by decide) (by decide) (by decide)))
  have c_candidate_h6 : Fld Z h6 a "com/example/mantleray/mantleray/QuadraticModel" "candidate" "[D" .null := Fld.other W6 c_candidate_h5 (Or.inr (slot_ne (t := (.array .double)) (t' := (.array .double)) (Or.inl (hw _ (List.mem_of_getElem? (i := 28) rfl))) (Or.inl (hw _ (List.mem_of_getElem? (i := 20) rfl))) (by decide) (by decide) (by decide)))
  have c_solution_h6 : Fld Z h6 a "com/example/mantleray/mantleray/QuadraticModel" "solution" "[D" .null := Fld.other W6 c_solution_h5 (Or.inr (slot_ne (t := (.array .double)) (t' := (.array .double)) (Or.inl (hw _ (List.mem_of_getElem? (i := 30) rfl))) (Or.inl (hw _ (List.mem_of_getElem? (i := 20) rfl))) (by decide) (by decide) (by decide)))
  have c_ar_gradient_h6 : own_Da Z h6 a3 0 (fun _ => 0) := own_Av.other W6 c_ar_gradient_h5 (Ne.symm ne_a_a3)
  have c_ar_blocks_h6 : own_Da Z h6 a5 0 (fun _ => 0) := own_Av.other W6 F5 (Ne.symm ne_a_a5)
  show own_Win p e below s _ _ _ (T6.setTop (mkF m 41 #[.val (.ref a), .val (.int (0 : Int32))] []))
  refine own_st (fun _ kz => XS.aloadN X6.here hx rfl (hb hby dr_41) rfl rfl kz) ?_
  show own_Win p e below s _ _ _ (T6.setTop (mkF m 42 #[.val (.ref a), .val (.int (0 : Int32))] [(.ref a)]))
  refine own_st (fun _ kz => XS.iconst X6.here hx rfl (hb hby dr_42) kz) ?_
  show own_Win p e below s _ _ _ (T6.setTop (mkF m 43 #[.val (.ref a), .val (.int (0 : Int32))] [(.int (4 : Int32)), (.ref a)]))
  refine own_st (fun _ kz => XS.iloadN X6.here hx rfl (hb hby dr_43) rfl kz) ?_
  show own_Win p e below s _ _ _ (T6.setTop (mkF m 44 #[.val (.ref a), .val (.int (0 : Int32))] [(.int (0 : Int32)), (.int (4 : Int32)), (.ref a)]))
  refine own_st (fun _ kz => XS.imul X6.here hx rfl (hb hby dr_44) rfl kz) ?_
  show own_Win p e below s _ _ _ (T6.setTop (mkF m 45 #[.val (.ref a), .val (.int (0 : Int32))] [(.int ((4 : Int32) * (0 : Int32))), (.ref a)]))
  refine own_newD X6 hx hZ (hw _ (List.mem_of_getElem? (i := 18) rfl)) e6 (n := 0) (cap := 0) rfl (Nat.le_refl _) (by decide) (by decide) (by decide) rfl rfl (hb hby dr_45) ?_
  intro T7 h7 a7 X7 e7 g7 E7 F7 Ex7
  show own_Win p e below s _ _ _ (T7.setTop (mkF m 47 #[.val (.ref a), .val (.int (0 : Int32))] [(.ref a7), (.ref a)]))
  have ne_a_a7 : a ≠ a7 := by rw [g7]; exact Nat.ne_of_lt (Exa.lt c_E_h6)
  have ne_a3_a7 : a3 ≠ a7 := by rw [g7]; exact Nat.ne_of_lt (own_Av.lt c_ar_gradient_h6)
  have ne_a5_a7 : a5 ≠ a7 := by rw [g7]; exact Nat.ne_of_lt (own_Av.lt c_ar_blocks_h6)
  have Z7 : n0 ≤ h7.size := Nat.le_trans Z6 E7.1
  have q_a7 : n0 ≤ a7 := by rw [g7]; exact Z6
  have c_E_h7 : Exa Z h7 a "com/example/mantleray/mantleray/QuadraticModel" := Exa.ext E7 c_E_h6
  have c_points_h7 : Fld Z h7 a "com/example/mantleray/mantleray/QuadraticModel" "points" "I" (.int (0 : Int32)) := Fld.ext E7 c_points_h6
  have c_gradient_h7 : Fld Z h7 a "com/example/mantleray/mantleray/QuadraticModel" "gradient" "[D" (.ref a3) := Fld.ext E7 c_gradient_h6
  have c_blocks_h7 : Fld Z h7 a "com/example/mantleray/mantleray/QuadraticModel" "blocks" "[D" (.ref a5) := Fld.ext E7 c_blocks_h6
  have c_coupling_h7 : Fld Z h7 a "com/example/mantleray/mantleray/QuadraticModel" "coupling" "[D" .null := Fld.ext E7 c_coupling_h6
  have c_inverses_h7 : Fld Z h7 a "com/example/mantleray/mantleray/QuadraticModel" "inverses" "[D" .null := Fld.ext E7 c_inverses_h6
  have c_best_h7 : Fld Z h7 a "com/example/mantleray/mantleray/QuadraticModel" "best" "[D" .null := Fld.ext E7 c_best_h6
  have c_candidate_h7 : Fld Z h7 a "com/example/mantleray/mantleray/QuadraticModel" "candidate" "[D" .null := Fld.ext E7 c_candidate_h6
  have c_solution_h7 : Fld Z h7 a "com/example/mantleray/mantleray/QuadraticModel" "solution" "[D" .null := Fld.ext E7 c_solution_h6
  have c_ar_gradient_h7 : own_Da Z h7 a3 0 (fun _ => 0) := own_Av.ext E7 c_ar_gradient_h6
  have c_ar_blocks_h7 : own_Da Z h7 a5 0 (fun _ => 0) := own_Av.ext E7 c_ar_blocks_h6
  obtain ⟨T8, h8, X8, e8, W8, st8⟩ := putF X7 hx hZ hown (host := "") (Or.inl (hw _ (List.mem_of_getElem? (i := 21) rfl))) Via.refl e7 c_coupling_h7 c_E_h7 (Or.inl (hw _ (List.mem_of_getElem? (i := 22) rfl))) (hw _ (List.mem_of_getElem? (i := 1) rfl)) (ty := (.array .double)) (by decide) rfl rfl (g := (mkF m 47 #[.val (.ref a), .val (.int (0 : Int32))] [(.ref a7), (.ref a)])) rfl rfl (hb hby dr_47)
  refine own_st st8 ?_
  have N8 := Fr.snoc X8 N6 q_a
  have Z8 : n0 ≤ h8.size := by rw [Wr.size W8]; exact Z7
  have c_coupling_h8 : Fld Z h8 a "com/example/mantleray/mantleray/QuadraticModel" "coupling" "[D" (.ref a7) := Fld.same W8 c_coupling_h7
  have c_E_h8 : Exa Z h8 a "com/example/mantleray/mantleray/QuadraticModel" := Exa.wr W8 c_E_h7
  have c_points_h8 : Fld Z h8 a "com/example/mantleray/mantleray/QuadraticModel" "points" "I" (.int (0 : Int32)) := Fld.other W8 c_points_h7 (Or.inr (slot_ne (t := .int) (t' := (.array .double)) (Or.inl (hw _ (List.mem_of_getElem? (i := 15) rfl))) (Or.inl (hw _ (List.mem_of_getElem? (i := 22) rfl))) (by decide) (by decide) (by decide)))
  have c_gradient_h8 : Fld Z h8 a "com/example/mantleray/mantleray/QuadraticModel" "gradient" "[D" (.ref a3) := Fld.other W8 c_gradient_h7 (Or.inr (slot_ne (t := (.array .double)) (t' := (.array .double)) (Or.inl (hw _ (List.mem_of_getElem? (i := 17) rfl))) (Or.inl (hw _ (List.mem_of_getElem? (i := 22) rfl))) (by decide) (by decide) (by decide)))
  have c_blocks_h8 : Fld Z h8 a "com/example/mantleray/mantleray/QuadraticModel" "blocks" "[D" (.ref a5) := Fld.other W8 c_blocks_h7 (Or.inr (slot_ne (t := (.array .double)) (t' := (.array .double)) (Or.inl (hw _ (List.mem_of_getElem? (i := 20) rfl))) (Or.inl (hw _ (List.mem_of_getElem? (i := 22) rfl))) (by decide) (by decide) (by decide)))
  have c_inverses_h8 : Fld Z h8 a "com/example/mantleray/mantleray/QuadraticModel" "inverses" "[D" .null := Fld.other W8 c_inverses_h7 (Or.inr (slot_ne (t := (.array .double)) (t' := (.array .double)) (Or.inl (hw _ (List.mem_of_getElem? (i := 24) rfl))) (Or.inl (hw _ (List.mem_of_getElem? (i := 22) rfl))) (by decide) (by decide) (by decide)))
  have c_best_h8 : Fld Z h8 a "com/example/mantleray/mantleray/QuadraticModel" "best" "[D" .null := Fld.other W8 c_best_h7 (Or.inr (slot_ne (t := (.array .double)) (t' := (.array .double)) (Or.inl (hw _ (List.mem_of_getElem? (i := 26) rfl))) (Or.inl (hw _ (List.mem_of_getElem? (i := 22) rfl))) (by decide) (by decide) (by decide)))
  have c_candidate_h8 : Fld Z h8 a "com/example/mantleray/mantleray/QuadraticModel" "candidate" "[D" .null := Fld.other W8 c_candidate_h7 (Or.inr (slot_ne (t := (.array .double)) (t' := (.array .double)) (Or.inl (hw _ (List.mem_of_getElem? (i := 28) rfl))) (Or.inl (hw _ (List.mem_of_getElem? (i := 22) rfl))) (by decide) (by decide) (by decide)))
  have c_solution_h8 : Fld Z h8 a "com/example/mantleray/mantleray/QuadraticModel" "solution" "[D" .null := Fld.other W8 c_solution_h7 (Or.inr (slot_ne (t := (.array .double)) (t' := (.array .double)) (Or.inl (hw _ (List.mem_of_getElem? (i := 30) rfl))) (Or.inl (hw _ (List.mem_of_getElem? (i := 22) rfl))) (by decide) (by decide) (by decide)))
  have c_ar_gradient_h8 : own_Da Z h8 a3 0 (fun _ => 0) := own_Av.other W8 c_ar_gradient_h7 (Ne.symm ne_a_a3)
  have c_ar_blocks_h8 : own_Da Z h8 a5 0 (fun _ => 0) := own_Av.other W8 c_ar_blocks_h7 (Ne.symm ne_a_a5)
  have c_ar_coupling_h8 : own_Da Z h8 a7 0 (fun _ => 0) := own_Av.other W8 F7 (Ne.symm ne_a_a7)
  show own_Win p e below s _ _ _ (T8.setTop (mkF m 50 #[.val (.ref a), .val (.int (0 : Int32))] []))
  refine own_st (fun _ kz => XS.aloadN X8.here hx rfl (hb hby dr_50) rfl rfl kz) ?_
  show own_Win p e below s _ _ _ (T8.setTop (mkF m 51 #[.val (.ref a), .val (.int (0 : Int32))] [(.ref a)]))
  refine own_st (fun _ kz => XS.iconst X8.here hx rfl (hb hby dr_51) kz) ?_
  show own_Win p e below s _ _ _ (T8.setTop (mkF m 52 #[.val (.ref a), .val (.int (0 : Int32))] [(.int (4 : Int32)), (.ref a)]))
  refine own_st (fun _ kz => XS.iloadN X8.here hx rfl (hb hby dr_52) rfl kz) ?_
  show own_Win p e below s _ _ _ (T8.setTop (mkF m 53 #[.val (.ref a), .val (.int (0 : Int32))] [(.int (0 : Int32)), (.int (4 : Int32)), (.ref a)]))
  refine own_st (fun _ kz => XS.imul X8.here hx rfl (hb hby dr_53) rfl kz) ?_
  show own_Win p e below s _ _ _ (T8.setTop (mkF m 54 #[.val (.ref a), .val (.int (0 : Int32))] [(.int ((4 : Int32) * (0 : Int32))), (.ref a)]))
  refine own_newD X8 hx hZ (hw _ (List.mem_of_getElem? (i := 18) rfl)) e8 (n := 0) (cap := 0) rfl (Nat.le_refl _) (by decide) (by decide) (by decide) rfl rfl (hb hby dr_54) ?_
  intro T9 h9 a9 X9 e9 g9 E9 F9 Ex9
  show own_Win p e below s _ _ _ (T9.setTop (mkF m 56 #[.val (.ref a), .val (.int (0 : Int32))] [(.ref a9), (.ref a)]))
  have ne_a_a9 : a ≠ a9 := by rw [g9]; exact Nat.ne_of_lt (Exa.lt c_E_h8)
  have ne_a3_a9 : a3 ≠ a9 := by rw [g9]; exact Nat.ne_of_lt (own_Av.lt c_ar_gradient_h8)
  have ne_a5_a9 : a5 ≠ a9 := by rw [g9]; exact Nat.ne_of_lt (own_Av.lt c_ar_blocks_h8)
  have ne_a7_a9 : a7 ≠ a9 := by rw [g9]; exact Nat.ne_of_lt (own_Av.lt c_ar_coupling_h8)
  have Z9 : n0 ≤ h9.size := Nat.le_trans Z8 E9.1
  have q_a9 : n0 ≤ a9 := by rw [g9]; exact Z8
  have c_E_h9 : Exa Z h9 a "com/example/mantleray/mantleray/QuadraticModel" := Exa.ext E9 c_E_h8
  have c_points_h9 : Fld Z h9 a "com/example/mantleray/mantleray/QuadraticModel" "points" "I" (.int (0 : Int32)) := Fld.ext E9 c_points_h8
  have c_gradient_h9 : Fld Z h9 a "com/example/mantleray/mantleray/QuadraticModel" "gradient" "[D" (.ref a3) := Fld.ext E9 c_gradient_h8
  have c_blocks_h9 : Fld Z h9 a "com/example/mantleray/mantleray/QuadraticModel" "blocks" "[D" (.ref a5) := Fld.ext E9 c_blocks_h8
  have c_coupling_h9 : Fld Z h9 a "com/example/mantleray/mantleray/QuadraticModel" "coupling" "[D" (.ref a7) := Fld.ext E9 c_coupling_h8
  have c_inverses_h9 : Fld Z h9 a "com/example/mantleray/mantleray/QuadraticModel" "inverses" "[D" .null := Fld.ext E9 c_inverses_h8
  have c_best_h9 : Fld Z h9 a "com/example/mantleray/mantleray/QuadraticModel" "best" "[D" .null := Fld.ext E9 c_best_h8
  have c_candidate_h9 : Fld Z h9 a "com/example/mantleray/mantleray/QuadraticModel" "candidate" "[D" .null := Fld.ext E9 c_candidate_h8
  have c_solution_h9 : Fld Z h9 a "com/example/mantleray/mantleray/QuadraticModel" "solution" "[D" .null := Fld.ext E9 c_solution_h8
  have c_ar_gradient_h9 : own_Da Z h9 a3 0 (fun _ => 0) := own_Av.ext E9 c_ar_gradient_h8
  have c_ar_blocks_h9 : own_Da Z h9 a5 0 (fun _ => 0) := own_Av.ext E9 c_ar_blocks_h8
  have c_ar_coupling_h9 : own_Da Z h9 a7 0 (fun _ => 0) := own_Av.ext E9 c_ar_coupling_h8
  obtain ⟨T10, h10, X10, e10, W10, st10⟩ := putF X9 hx hZ hown (host := "") (Or.inl (hw _ (List.mem_of_getElem? (i := 23) rfl))) Via.refl e9 c_inverses_h9 c_E_h9 (Or.inl (hw _ (List.mem_of_getElem? (i := 24) rfl))) (hw _ (List.mem_of_getElem? (i := 1) rfl)) (ty := (.array .double)) (by decide) rfl rfl (g := (mkF m 56 #[.val (.ref a), .val (.int (0 : Int32))] [(.ref a9), (.ref a)])) rfl rfl (hb hby dr_56)
  refine own_st st10 ?_
  have N10 := Fr.snoc X10 N8 q_a
  have Z10 : n0 ≤ h10.size := by rw [Wr.size W10]; exact Z9
  have c_inverses_h10 : Fld Z h10 a "com/example/mantleray/mantleray/QuadraticModel" "inverses" "[D" (.ref a9) := Fld.same W10 c_inverses_h9
  have c_E_h10 : Exa Z h10 a "com/example/mantleray/mantleray/QuadraticModel" := Exa.wr W10 c_E_h9
  have c_points_h10 : Fld Z h10 a "com/example/mantleray/mantleray/QuadraticModel" "points" "I" (.int (0 : Int32)) := Fld.other W10 c_points_h9 (Or.inr (slot_ne (t := .int) (t' := (.array .double)) (Or.inl (hw _ (List.mem_of_getElem? (i := 15) rfl))) (Or.inl (hw _ (List.mem_of_getElem? (i := 24) rfl))) (by decide) (by decide) (by decide)))
  have c_gradient_h10 : Fld Z h10 a "com/example/mantleray/mantleray/QuadraticModel" "gradient" "[D" (.ref a3) := Fld.other W10 c_gradient_h9 (Or.inr (slot_ne (t := (.array .double)) (t' := (.array .double)) (Or.inl (hw _ (List.mem_of_getElem? (i := 17) rfl))) (Or.inl (hw _ (List.mem_of_getElem? (i := 24) rfl))) (by decide) (by decide) (by decide)))
  have c_blocks_h10 : Fld Z h10 a "com/example/mantleray/mantleray/QuadraticModel" "blocks" "[D" (.ref a5) := Fld.other W10 c_blocks_h9 (Or.inr (slot_ne (t := (.array .double)) (t' := (.array .double)) (Or.inl (hw _ (List.mem_of_getElem? (i := 20) rfl))) (Or.inl (hw _ (List.mem_of_getElem? (i := 24) rfl))) (by decide) (by decide) (by decide)))
  have c_coupling_h10 : Fld Z h10 a "com/example/mantleray/mantleray/QuadraticModel" "coupling" "[D" (.ref a7) := Fld.other W10 c_coupling_h9 (Or.inr (slot_ne (t := (.array .double)) (t' := (.array .double)) (Or.inl (hw _ (List.mem_of_getElem? (i := 22) rfl))) (Or.inl (hw _ (List.mem_of_getElem? (i := 24) rfl))) (by decide) (by decide) (by decide)))
  have c_best_h10 : Fld Z h10 a "com/example/mantleray/mantleray/QuadraticModel" "best" "[D" .null := Fld.other W10 c_best_h9 (Or.inr (slot_ne (t := (.array .double)) (t' := (.array .double)) (Or.inl (hw _ (List.mem_of_getElem? (i := 26) rfl))) (Or.inl (hw _ (List.mem_of_getElem? (i := 24) rfl))) (by decide) (by decide) (by decide)))
  have c_candidate_h10 : Fld Z h10 a "com/example/mantleray/mantleray/QuadraticModel" "candidate" "[D" .null := Fld.other W10 c_candidate_h9 (Or.inr (slot_ne (t := (.array .double)) (t' := (.array .double)) (Or.inl (hw _ (List.mem_of_getElem? (i := 28) rfl))) (Or.inl (hw _ (List.mem_of_getElem? (i := 24) rfl))) (by decide) (by decide) (by decide)))
  have c_solution_h10 : Fld Z h10 a "com/example/mantleray/mantleray/QuadraticModel" "solution" "[D" .null := Fld.other W10 c_solution_h9 (Or.inr (slot_ne (t := (.array .double)) (t' := (.array .double)) (Or.inl (hw _ (List.mem_of_getElem? (i := 30) rfl))) (Or.inl (hw _ (List.mem_of_getElem? (i := 24) rfl))) (by decide) (by decide) (by decide)))
  have c_ar_gradient_h10 : own_Da Z h10 a3 0 (fun _ => 0) := own_Av.other W10 c_ar_gradient_h9 (Ne.symm ne_a_a3)
  have c_ar_blocks_h10 : own_Da Z h10 a5 0 (fun _ => 0) := own_Av.other W10 c_ar_blocks_h9 (Ne.symm ne_a_a5)
  have c_ar_coupling_h10 : own_Da Z h10 a7 0 (fun _ => 0) := own_Av.other W10 c_ar_coupling_h9 (Ne.symm ne_a_a7)
  show own_Win p e below s _ _ _ (T10.setTop (mkF m 59 #[.val (.ref a), .val (.int (0 : Int32))] []))
  refine own_st (fun _ kz => XS.aloadN X10.here hx rfl (hb hby dr_59) rfl rfl kz) ?_
  show own_Win p e below s _ _ _ (T10.setTop (mkF m 60 #[.val (.ref a), .val (.int (0 : Int32))] [(.ref a)]))
  refine own_st (fun _ kz => XS.iconst X10.here hx rfl (hb hby dr_60) kz) ?_
  show own_Win p e below s _ _ _ (T10.setTop (mkF m 61 #[.val (.ref a), .val (.int (0 : Int32))] [(.int (2 : Int32)), (.ref a)]))
  refine own_st (fun _ kz => XS.iloadN X10.here hx rfl (hb hby dr_61) rfl kz) ?_
  show own_Win p e below s _ _ _ (T10.setTop (mkF m 62 #[.val (.ref a), .val (.int (0 : Int32))] [(.int (0 : Int32)), (.int (2 : Int32)), (.ref a)]))
  refine own_st (fun _ kz => XS.imul X10.here hx rfl (hb hby dr_62) rfl kz) ?_
  show own_Win p e below s _ _ _ (T10.setTop (mkF m 63 #[.val (.ref a), .val (.int (0 : Int32))] [(.int ((2 : Int32) * (0 : Int32))), (.ref a)]))
  refine own_newD X10 hx hZ (hw _ (List.mem_of_getElem? (i := 18) rfl)) e10 (n := 0) (cap := 0) rfl (Nat.le_refl _) (by decide) (by decide) (by decide) rfl rfl (hb hby dr_63) ?_
  intro T11 h11 a11 X11 e11 g11 E11 F11 Ex11
  show own_Win p e below s _ _ _ (T11.setTop (mkF m 65 #[.val (.ref a), .val (.int (0 : Int32))] [(.ref a11), (.ref a)]))
  have ne_a_a11 : a ≠ a11 := by rw [g11]; exact Nat.ne_of_lt (Exa.lt c_E_h10)
  have ne_a3_a11 : a3 ≠ a11 := by rw [g11]; exact Nat.ne_of_lt (own_Av.lt c_ar_gradient_h10)
  have ne_a5_a11 : a5 ≠ a11 := by rw [g11]; exact Nat.ne_of_lt (own_Av.lt c_ar_blocks_h10)
  have ne_a7_a11 : a7 ≠ a11 := by rw [g11]; exact Nat.ne_of_lt (own_Av.lt c_ar_coupling_h10)
  have Z11 : n0 ≤ h11.size := Nat.le_trans Z10 E11.1
  have q_a11 : n0 ≤ a11 := by rw [g11]; exact Z10
  have c_E_h11 : Exa Z h11 a "com/example/mantleray/mantleray/QuadraticModel" := Exa.ext E11 c_E_h10
  have c_points_h11 : Fld Z h11 a "com/example/mantleray/mantleray/QuadraticModel" "points" "I" (.int (0 : Int32)) := Fld.ext E11 c_points_h10
  have c_gradient_h11 : Fld Z h11 a "com/example/mantleray/mantleray/QuadraticModel" "gradient" "[D" (.ref a3) := Fld.ext E11 c_gradient_h10
  have c_blocks_h11 : Fld Z h11 a "com/example/mantleray/mantleray/QuadraticModel" "blocks" "[D" (.ref a5) := Fld.ext E11 c_blocks_h10
  have c_coupling_h11 : Fld Z h11 a "com/example/mantleray/mantleray/QuadraticModel" "coupling" "[D" (.ref a7) := Fld.ext E11 c_coupling_h10
  have c_inverses_h11 : Fld Z h11 a "com/example/mantleray/mantleray/QuadraticModel" "inverses" "[D" (.ref a9) := Fld.ext E11 c_inverses_h10
  have c_best_h11 : Fld Z h11 a "com/example/mantleray/mantleray/QuadraticModel" "best" "[D" .null := Fld.ext E11 c_best_h10
  have c_candidate_h11 : Fld Z h11 a "com/example/mantleray/mantleray/QuadraticModel" "candidate" "[D" .null := Fld.ext E11 c_candidate_h10
  have c_solution_h11 : Fld Z h11 a "com/example/mantleray/mantleray/QuadraticModel" "solution" "[D" .null := Fld.ext E11 c_solution_h10
  have c_ar_gradient_h11 : own_Da Z h11 a3 0 (fun _ => 0) := own_Av.ext E11 c_ar_gradient_h10
  have c_ar_blocks_h11 : own_Da Z h11 a5 0 (fun _ => 0) := own_Av.ext E11 c_ar_blocks_h10
  have c_ar_coupling_h11 : own_Da Z h11 a7 0 (fun _ => 0) := own_Av.ext E11 c_ar_coupling_h10
  obtain ⟨T12, h12, X12, e12, W12, st12⟩ := putF X11 hx hZ hown (host := "") (Or.inl (hw _ (List.mem_of_getElem? (i := 25) rfl))) Via.refl e11 c_best_h11 c_E_h11 (Or.inl (hw _ (List.mem_of_getElem? (i := 26) rfl))) (hw _ (List.mem_of_getElem? (i := 1) rfl)) (ty := (.array .double)) (by decide) rfl rfl (g := (mkF m 65 #[.val (.ref a), .val (.int (0 : Int32))] [(.ref a11), (.ref a)])) rfl rfl (hb hby dr_65)
  refine own_st st12 ?_
  have N12 := Fr.snoc X12 N10 q_a
  have Z12 : n0 ≤ h12.size := by rw [Wr.size W12]; exact Z11
  have c_best_h12 : Fld Z h12 a "com/example/mantleray/mantleray/QuadraticModel" "best" "[D" (.ref a11) := Fld.same W12 c_best_h11
  have c_E_h12 : Exa Z h12 a "com/example/mantleray/mantleray/QuadraticModel" := Exa.wr W12 c_E_h11
  have c_points_h12 : Fld Z h12 a "com/example/mantleray/mantleray/QuadraticModel" "points" "I" (.int (0 : Int32)) := Fld.other W12 c_points_h11 (Or.inr (slot_ne (t := .int) (t' := (.array .double)) (Or.inl (hw _ (List.mem_of_getElem? (i := 15) rfl))) (Or.inl (hw _ (List.mem_of_getElem? (i := 26) rfl))) (by decide) (by decide) (by decide)))
  have c_gradient_h12 : Fld Z h12 a "com/example/mantleray/mantleray/QuadraticModel" "gradient" "[D" (.ref a3) := Fld.other W12 c_gradient_h11 (Or.inr (slot_ne (t := (.array .double)) (t' := (.array .double)) (Or.inl (hw _ (List.mem_of_getElem? (i := 17) rfl))) (Or.inl (hw _ (List.mem_of_getElem? (i := 26) rfl))) (by decide) (by decide) (by decide)))
  have c_blocks_h12 : Fld Z h12 a "com/example/mantleray/mantleray/QuadraticModel" "blocks" "[D" (.ref a5) := Fld.other W12 c_blocks_h11 (Or.inr (slot_ne (t := (.array .double)) (t' := (.array .double)) (Or.inl (hw _ (List.mem_of_getElem? (i := 20) rfl))) (Or.inl (hw _ (List.mem_of_getElem? (i := 26) rfl))) (by decide) (by decide) (by decide)))
  have c_coupling_h12 : Fld Z h12 a "com/example/mantleray/mantleray/QuadraticModel" "coupling" "[D" (.ref a7) := Fld.other W12 c_coupling_h11 (Or.inr (slot_ne (t := (.array .double)) (t' := (.array .double)) (Or.inl (hw _ (List.mem_of_getElem? (i := 22) rfl))) (Or.inl (hw _ (List.mem_of_getElem? (i := 26) rfl))) (by decide) (by decide) (by decide)))
  have c_inverses_h12 : Fld Z h12 a "com/example/mantleray/mantleray/QuadraticModel" "inverses" "[D" (.ref a9) := Fld.other W12 c_inverses_h11 (Or.inr (slot_ne (t := (.array .double)) (t' := (.array .double)) (Or.inl (hw _ (List.mem_of_getElem? (i := 24) rfl))) (Or.inl (hw _ (List.mem_of_getElem? (i := 26) rfl))) (by decide) (by decide) (by decide)))
  have c_candidate_h12 : Fld Z h12 a "com/example/mantleray/mantleray/QuadraticModel" "candidate" "[D" .null := Fld.other W12 c_candidate_h11 (Or.inr (slot_ne (t := (.array .double)) (t' := (.array .double)) (Or.inl (hw _ (List.mem_of_getElem? (i := 28) rfl))) (Or.inl (hw _ (List.mem_of_getElem? (i := 26) rfl))) (by decide) (by decide) (by decide)))
  have c_solution_h12 : Fld Z h12 a "com/example/mantleray/mantleray/QuadraticModel" "solution" "[D" .null := Fld.other W12 c_solution_h11 (Or.inr (slot_ne (t := (.array .double)) (t' := (.array .double)) (Or.inl (hw _ (List.mem_of_getElem? (i := 30) rfl))) (Or.inl (hw _ (List.mem_of_getElem? (i := 26) rfl))) (by decide) (by decide) (by decide)))
  have c_ar_gradient_h12 : own_Da Z h12 a3 0 (fun _ => 0) := own_Av.other W12 c_ar_gradient_h11 (Ne.symm ne_a_a3)
  have c_ar_blocks_h12 : own_Da Z h12 a5 0 (fun _ => 0) := own_Av.other W12 c_ar_blocks_h11 (Ne.symm ne_a_a5)
  have c_ar_coupling_h12 : own_Da Z h12 a7 0 (fun _ => 0) := own_Av.other W12 c_ar_coupling_h11 (Ne.symm ne_a_a7)
  show own_Win p e below s _ _ _ (T12.setTop (mkF m 68 #[.val (.ref a), .val (.int (0 : Int32))] []))
  refine own_st (fun _ kz => XS.aloadN X12.here hx rfl (hb hby dr_68) rfl rfl kz) ?_
  show own_Win p e below s _ _ _ (T12.setTop (mkF m 69 #[.val (.ref a), .val (.int (0 : Int32))] [(.ref a)]))
  refine own_st (fun _ kz => XS.iconst X12.here hx rfl (hb hby dr_69) kz) ?_
  show own_Win p e below s _ _ _ (T12.setTop (mkF m 70 #[.val (.ref a), .val (.int (0 : Int32))] [(.int (2 : Int32)), (.ref a)]))
  refine own_st (fun _ kz => XS.iloadN X12.here hx rfl (hb hby dr_70) rfl kz) ?_
  show own_Win p e below s _ _ _ (T12.setTop (mkF m 71 #[.val (.ref a), .val (.int (0 : Int32))] [(.int (0 : Int32)), (.int (2 : Int32)), (.ref a)]))
  refine own_st (fun _ kz => XS.imul X12.here hx rfl (hb hby dr_71) rfl kz) ?_
  show own_Win p e below s _ _ _ (T12.setTop (mkF m 72 #[.val (.ref a), .val (.int (0 : Int32))] [(.int ((2 : Int32) * (0 : Int32))), (.ref a)]))
  refine own_newD X12 hx hZ (hw _ (List.mem_of_getElem? (i := 18) rfl)) e12 (n := 0) (cap := 0) rfl (Nat.le_refl _) (by decide) (by decide) (by decide) rfl rfl (hb hby dr_72) ?_
  intro T13 h13 a13 X13 e13 g13 E13 F13 Ex13
  show own_Win p e below s _ _ _ (T13.setTop (mkF m 74 #[.val (.ref a), .val (.int (0 : Int32))] [(.ref a13), (.ref a)]))
  have ne_a_a13 : a ≠ a13 := by rw [g13]; exact Nat.ne_of_lt (Exa.lt c_E_h12)
  have ne_a3_a13 : a3 ≠ a13 := by rw [g13]; exact Nat.ne_of_lt (own_Av.lt c_ar_gradient_h12)
  have ne_a5_a13 : a5 ≠ a13 := by rw [g13]; exact Nat.ne_of_lt (own_Av.lt c_ar_blocks_h12)
  have ne_a7_a13 : a7 ≠ a13 := by rw [g13]; exact Nat.ne_of_lt (own_Av.lt c_ar_coupling_h12)
  have Z13 : n0 ≤ h13.size := Nat.le_trans Z12 E13.1
  have q_a13 : n0 ≤ a13 := by rw [g13]; exact Z12
  have c_E_h13 : Exa Z h13 a "com/example/mantleray/mantleray/QuadraticModel" := Exa.ext E13 c_E_h12
  have c_points_h13 : Fld Z h13 a "com/example/mantleray/mantleray/QuadraticModel" "points" "I" (.int (0 : Int32)) := Fld.ext E13 c_points_h12
  have c_gradient_h13 : Fld Z h13 a "com/example/mantleray/mantleray/QuadraticModel" "gradient" "[D" (.ref a3) := Fld.ext E13 c_gradient_h12
  have c_blocks_h13 : Fld Z h13 a "com/example/mantleray/mantleray/QuadraticModel" "blocks" "[D" (.ref a5) := Fld.ext E13 c_blocks_h12
  have c_coupling_h13 : Fld Z h13 a "com/example/mantleray/mantleray/QuadraticModel" "coupling" "[D" (.ref a7) := Fld.ext E13 c_coupling_h12
  have c_inverses_h13 : Fld Z h13 a "com/example/mantleray/mantleray/QuadraticModel" "inverses" "[D" (.ref a9) := Fld.ext E13 c_inverses_h12
  have c_best_h13 : Fld Z h13 a "com/example/mantleray/mantleray/QuadraticModel" "best" "[D" (.ref a11) := Fld.ext E13 c_best_h12
  have c_candidate_h13 : Fld Z h13 a "com/example/mantleray/mantleray/QuadraticModel" "candidate" "[D" .null := Fld.ext E13 c_candidate_h12
  have c_solution_h13 : Fld Z h13 a "com/example/mantleray/mantleray/QuadraticModel" "solution" "[D" .null := Fld.ext E13 c_solution_h12
  have c_ar_gradient_h13 : own_Da Z h13 a3 0 (fun _ => 0) := own_Av.ext E13 c_ar_gradient_h12
  have c_ar_blocks_h13 : own_Da Z h13 a5 0 (fun _ => 0) := own_Av.ext E13 c_ar_blocks_h12
  have c_ar_coupling_h13 : own_Da Z h13 a7 0 (fun _ => 0) := own_Av.ext E13 c_ar_coupling_h12
  obtain ⟨T14, h14, X14, e14, W14, st14⟩ := putF X13 hx hZ hown (host := "") (Or.inl (hw _ (List.mem_of_getElem? (i := 27) rfl))) Via.refl e13 c_candidate_h13 c_E_h13 (Or.inl (hw _ (List.mem_of_getElem? (i := 28) rfl))) (hw _ (List.mem_of_getElem? (i := 1) rfl)) (ty := (.array .double)) (by decide) rfl rfl (g := (mkF m 74 #[.val (.ref a), .val (.int (0 : Int32))] [(.ref a13), (.ref a)])) rfl rfl (hb hby dr_74)
  refine own_st st14 ?_
  have N14 := Fr.snoc X14 N12 q_a
  have Z14 : n0 ≤ h14.size := by rw [Wr.size W14]; exact Z13
  have c_candidate_h14 : Fld Z h14 a "com/example/mantleray/mantleray/QuadraticModel" "candidate" "[D" (.ref a13) := Fld.same W14 c_candidate_h13
  have c_E_h14 : Exa Z h14 a "com/example/mantleray/mantleray/QuadraticModel" := Exa.wr W14 c_E_h13
  have c_points_h14 : Fld Z h14 a "com/example/mantleray/mantleray/QuadraticModel" "points" "I" (.int (0 : Int32)) := Fld.other W14 c_points_h13 (Or.inr (slot_ne (t := .int) (t' := (.array .double)) (Or.inl (hw _ (List.mem_of_getElem? (i := 15) rfl))) (Or.inl (hw _ (List.mem_of_getElem? (i := 28) rfl))) (by decide) (by decide) (by decide)))
  have c_gradient_h14 : Fld Z h14 a "com/example/mantleray/mantleray/QuadraticModel" "gradient" "[D" (.ref a3) := Fld.other W14 c_gradient_h13 (Or.inr (slot_ne (t := (.array .double)) (t' := (.array .double)) (Or.inl (hw _ (List.mem_of_getElem? (i := 17) rfl))) (Or.inl (hw _ (List.mem_of_getElem? (i := 28) rfl))) (by decide) (by decide) (by decide)))
  have c_blocks_h14 : Fld Z h14 a "com/example/mantleray/mantleray/QuadraticModel" "blocks" "[D" (.ref a5) := Fld.other W14 c_blocks_h13 (Or.inr (slot_ne (t := (.array .double)) (t' := (.array .double)) (Or.inl (hw _ (List.mem_of_getElem? (i := 20) rfl))) (Or.inl (hw _ (List.mem_of_getElem? (i := 28) rfl))) (by decide) (by decide) (by decide)))
  have c_coupling_h14 : Fld Z h14 a "com/example/mantleray/mantleray/QuadraticModel" "coupling" "[D" (.ref a7) := Fld.other W14 c_coupling_h13 (Or.inr (slot_ne (t := (.array .double)) (t' := (.array .double)) (Or.inl (hw _ (List.mem_of_getElem? (i := 22) rfl))) (Or.inl (hw _ (List.mem_of_getElem? (i := 28) rfl))) (by decide) (by decide) (by decide)))
  have c_inverses_h14 : Fld Z h14 a "com/example/mantleray/mantleray/QuadraticModel" "inverses" "[D" (.ref a9) := Fld.other W14 c_inverses_h13 (Or.inr (slot_ne (t := (.array .double)) (t' := (.array .double)) (Or.inl (hw _ (List.mem_of_getElem? (i := 24) rfl))) (Or.inl (hw _ (List.mem_of_getElem? (i := 28) rfl))) (by decide) (by decide) (by decide)))
  have c_best_h14 : Fld Z h14 a "com/example/mantleray/mantleray/QuadraticModel" "best" "[D" (.ref a11) := Fld.other W14 c_best_h13 (Or.inr (slot_ne (t := (.array .double)) (t' := (.array .double)) (Or.inl (hw _ (List.mem_of_getElem? (i := 26) rfl))) (Or.inl (hw _ (List.mem_of_getElem? (i := 28) rfl))) (by decide) (by decide) (by decide)))
  have c_solution_h14 : Fld Z h14 a "com/example/mantleray/mantleray/QuadraticModel" "solution" "[D" .null := Fld.other W14 c_solution_h13 (Or.inr (slot_ne (t := (.array .double)) (t' := (.array .double)) (Or.inl (hw _ (List.mem_of_getElem? (i := 30) rfl))) (Or.inl (hw _ (List.mem_of_getElem? (i := 28) rfl))) (by decide) (by decide) (by decide)))
  have c_ar_gradient_h14 : own_Da Z h14 a3 0 (fun _ => 0) := own_Av.other W14 c_ar_gradient_h13 (Ne.symm ne_a_a3)
  have c_ar_blocks_h14 : own_Da Z h14 a5 0 (fun _ => 0) := own_Av.other W14 c_ar_blocks_h13 (Ne.symm ne_a_a5)
  have c_ar_coupling_h14 : own_Da Z h14 a7 0 (fun _ => 0) := own_Av.other W14 c_ar_coupling_h13 (Ne.symm ne_a_a7)
  show own_Win p e below s _ _ _ (T14.setTop (mkF m 77 #[.val (.ref a), .val (.int (0 : Int32))] []))
  refine own_st (fun _ kz => XS.aloadN X14.here hx rfl (hb hby dr_77) rfl rfl kz) ?_
  show own_Win p e below s _ _ _ (T14.setTop (mkF m 78 #[.val (.ref a), .val (.int (0 : Int32))] [(.ref a)]))
  refine own_st (fun _ kz => XS.iconst X14.here hx rfl (hb hby dr_78) kz) ?_
  show own_Win p e below s _ _ _ (T14.setTop (mkF m 79 #[.val (.ref a), .val (.int (0 : Int32))] [(.int (2 : Int32)), (.ref a)]))
  refine own_st (fun _ kz => XS.iloadN X14.here hx rfl (hb hby dr_79) rfl kz) ?_
  show own_Win p e below s _ _ _ (T14.setTop (mkF m 80 #[.val (.ref a), .val (.int (0 : Int32))] [(.int (0 : Int32)), (.int (2 : Int32)), (.ref a)]))
  refine own_st (fun _ kz => XS.imul X14.here hx rfl (hb hby dr_80) rfl kz) ?_
  show own_Win p e below s _ _ _ (T14.setTop (mkF m 81 #[.val (.ref a), .val (.int (0 : Int32))] [(.int ((2 : Int32) * (0 : Int32))), (.ref a)]))
  refine own_newD X14 hx hZ (hw _ (List.mem_of_getElem? (i := 18) rfl)) e14 (n := 0) (cap := 0) rfl (Nat.le_refl _) (by decide) (by decide) (by decide) rfl rfl (hb hby dr_81) ?_
  intro T15 h15 a15 X15 e15 g15 E15 F15 Ex15
  show own_Win p e below s _ _ _ (T15.setTop (mkF m 83 #[.val (.ref a), .val (.int (0 : Int32))] [(.ref a15), (.ref a)]))
  have ne_a_a15 : a ≠ a15 := by rw [g15]; exact Nat.ne_of_lt (Exa.lt c_E_h14)
  have ne_a3_a15 : a3 ≠ a15 := by rw [g15]; exact Nat.ne_of_lt (own_Av.lt c_ar_gradient_h14)
  have ne_a5_a15 : a5 ≠ a15 := by rw [g15]; exact Nat.ne_of_lt (own_Av.lt c_ar_blocks_h14)
  have ne_a7_a15 : a7 ≠ a15 := by rw [g15]; exact Nat.ne_of_lt (own_Av.lt c_ar_coupling_h14)
  have Z15 : n0 ≤ h15.size := Nat.le_trans Z14 E15.1
  have q_a15 : n0 ≤ a15 := by rw [g15]; exact Z14
  have c_E_h15 : Exa Z h15 a "com/example/mantleray/mantleray/QuadraticModel" := Exa.ext E15 c_E_h14
  have c_points_h15 : Fld Z h15 a "com/example/mantleray/mantleray/QuadraticModel" "points" "I" (.int (0 : Int32)) := Fld.ext E15 c_points_h14
  have c_gradient_h15 : Fld Z h15 a "com/example/mantleray/mantleray/QuadraticModel" "gradient" "[D" (.ref a3) := Fld.ext E15 c_gradient_h14
  have c_blocks_h15 : Fld Z h15 a "com/example/mantleray/mantleray/QuadraticModel" "blocks" "[D" (.ref a5) := Fld.ext E15 c_blocks_h14
  have c_coupling_h15 : Fld Z h15 a "com/example/mantleray/mantleray/QuadraticModel" "coupling" "[D" (.ref a7) := Fld.ext E15 c_coupling_h14
  have c_inverses_h15 : Fld Z h15 a "com/example/mantleray/mantleray/QuadraticModel" "inverses" "[D" (.ref a9) := Fld.ext E15 c_inverses_h14
  have c_best_h15 : Fld Z h15 a "com/example/mantleray/mantleray/QuadraticModel" "best" "[D" (.ref a11) := Fld.ext E15 c_best_h14
  have c_candidate_h15 : Fld Z h15 a "com/example/mantleray/mantleray/QuadraticModel" "candidate" "[D" (.ref a13) := Fld.ext E15 c_candidate_h14
  have c_solution_h15 : Fld Z h15 a "com/example/mantleray/mantleray/QuadraticModel" "solution" "[D" .null := Fld.ext E15 c_solution_h14
  have c_ar_gradient_h15 : own_Da Z h15 a3 0 (fun _ => 0) := own_Av.ext E15 c_ar_gradient_h14
  have c_ar_blocks_h15 : own_Da Z h15 a5 0 (fun _ => 0) := own_Av.ext E15 c_ar_blocks_h14
  have c_ar_coupling_h15 : own_Da Z h15 a7 0 (fun _ => 0) := own_Av.ext E15 c_ar_coupling_h14
  obtain ⟨T16, h16, X16, e16, W16, st16⟩ := putF X15 hx hZ hown (host := "") (Or.inl (hw _ (List.mem_of_getElem? (i := 29) rfl))) Via.refl e15 c_solution_h15 c_E_h15 (Or.inl (hw _ (List.mem_of_getElem? (i := 30) rfl))) (hw _ (List.mem_of_getElem? (i := 1) rfl)) (ty := (.array .double)) (by decide) rfl rfl (g := (mkF m 83 #[.val (.ref a), .val (.int (0 : Int32))] [(.ref a15), (.ref a)])) rfl rfl (hb hby dr_83)
  refine own_st st16 ?_
  have N16 := Fr.snoc X16 N14 q_a
  have Z16 : n0 ≤ h16.size := by rw [Wr.size W16]; exact Z15
  have c_solution_h16 : Fld Z h16 a "com/example/mantleray/mantleray/QuadraticModel" "solution" "[D" (.ref a15) := Fld.same W16 c_solution_h15
  have c_E_h16 : Exa Z h16 a "com/example/mantleray/mantleray/QuadraticModel" := Exa.wr W16 c_E_h15
  have c_points_h16 : Fld Z h16 a "com/example/mantleray/mantleray/QuadraticModel" "points" "I" (.int (0 : Int32)) := Fld.other W16 c_points_h15 (Or.inr (slot_ne (t := .int) (t' := (.array .double)) (Or.inl (hw _ (List.mem_of_getElem? (i := 15) rfl))) (Or.inl (hw _ (List.mem_of_getElem? (i := 30) rfl))) (by decide) (by decide) (by decide)))
  have c_gradient_h16 : Fld Z h16 a "com/example/mantleray/mantleray/QuadraticModel" "gradient" "[D" (.ref a3) := Fld.other W16 c_gradient_h15 (Or.inr (slot_ne (t := (.array .double)) (t' := (.array .double)) (Or.inl (hw _ (List.mem_of_getElem? (i := 17) rfl))) (Or.inl (hw _ (List.mem_of_getElem? (i := 30) rfl))) (by decide) (by decide) (by decide)))
  have c_blocks_h16 : Fld Z h16 a "com/example/mantleray/mantleray/QuadraticModel" "blocks" "[D" (.ref a5) := Fld.other W16 c_blocks_h15 (Or.inr (slot_ne (t := (.array .double)) (t' := (.array .double)) (Or.inl (hw _ (List.mem_of_getElem? (i := 20) rfl))) (Or.inl (hw _ (List.mem_of_getElem? (i := 30) rfl))) (by decide) (by decide) (by decide)))
  have c_coupling_h16 : Fld Z h16 a "com/example/mantleray/mantleray/QuadraticModel" "coupling" "[D" (.ref a7) := Fld.other W16 c_coupling_h15 (Or.inr (slot_ne (t := (.array .double)) (t' := (.array .double)) (Or.inl (hw _ (List.mem_of_getElem? (i := 22) rfl))) (Or.inl (hw _ (List.mem_of_getElem? (i := 30) rfl))) (by decide) (by decide) (by decide)))
  have c_inverses_h16 : Fld Z h16 a "com/example/mantleray/mantleray/QuadraticModel" "inverses" "[D" (.ref a9) := Fld.other W16 c_inverses_h15 (Or.inr (slot_ne (t := (.array .double)) (t' := (.array .double)) (Or.inl (hw _ (List.mem_of_getElem? (i := 24) rfl))) (Or.inl (hw _ (List.mem_of_getElem? (i := 30) rfl))) (by decide) (by decide) (by decide)))
  have c_best_h16 : Fld Z h16 a "com/example/mantleray/mantleray/QuadraticModel" "best" "[D" (.ref a11) := Fld.other W16 c_best_h15 (Or.inr (slot_ne (t := (.array .double)) (t' := (.array .double)) (Or.inl (hw _ (List.mem_of_getElem? (i := 26) rfl))) (Or.inl (hw _ (List.mem_of_getElem? (i := 30) rfl))) (by decide) (by decide) (by decide)))
  have c_candidate_h16 : Fld Z h16 a "com/example/mantleray/mantleray/QuadraticModel" "candidate" "[D" (.ref a13) := Fld.other W16 c_candidate_h15 (Or.inr (slot_ne (t := (.array .double)) (t' := (.array .double)) (Or.inl (hw _ (List.mem_of_getElem? (i := 28) rfl))) (Or.inl (hw _ (List.mem_of_getElem? (i := 30) rfl))) (by decide) (by decide) (by decide)))
  have c_ar_gradient_h16 : own_Da Z h16 a3 0 (fun _ => 0) := own_Av.other W16 c_ar_gradient_h15 (Ne.symm ne_a_a3)
  have c_ar_blocks_h16 : own_Da Z h16 a5 0 (fun _ => 0) := own_Av.other W16 c_ar_blocks_h15 (Ne.symm ne_a_a5)
  have c_ar_coupling_h16 : own_Da Z h16 a7 0 (fun _ => 0) := own_Av.other W16 c_ar_coupling_h15 (Ne.symm ne_a_a7)
  show own_Win p e below s _ _ _ (T16.setTop (mkF m 86 #[.val (.ref a), .val (.int (0 : Int32))] []))
  have K : Keep h0 h16 [a] := ((((((((((((((((Keep.refl h0 [a]).wr W1 (Or.inl (List.mem_of_getElem? (i := 0) rfl))).ext E3).wr W4 (Or.inl (List.mem_of_getElem? (i := 0) rfl))).ext E5).wr W6 (Or.inl (List.mem_of_getElem? (i := 0) rfl))).ext E7).wr W8 (Or.inl (List.mem_of_getElem? (i := 0) rfl))).ext E9).wr W10 (Or.inl (List.mem_of_getElem? (i := 0) rfl))).ext E11).wr W12 (Or.inl (List.mem_of_getElem? (i := 0) rfl))).ext E13).wr W14 (Or.inl (List.mem_of_getElem? (i := 0) rfl))).ext E15).wr W16 (Or.inl (List.mem_of_getElem? (i := 0) rfl)))
  refine own_retV X16 hx hlk Bd.returns (hb hby dr_86) ?_ (Nat.le_refl _) (Nat.le_refl _)
  rw [e16]
  exact ⟨rfl, N16, K, c_E_h16, a3, a5, a7, a9, a11, a13, a15, c_points_h16, c_gradient_h16, c_blocks_h16, c_coupling_h16, c_inverses_h16, c_best_h16, c_candidate_h16, c_solution_h16, c_ar_gradient_h16, c_ar_blocks_h16, c_ar_coupling_h16, q_a3, q_a5, q_a7, ne_a3_a5, ne_a3_a7, ne_a5_a7, ne_a_a3, ne_a_a5, ne_a_a7⟩
def Q_rmR3 (Z : State) (a : Addr) (o_gradient : Addr) (o_blocks : Addr) (o_coupling : Addr) (o_inverses : Addr) (o_best : Addr) (o_candidate : Addr) (o_solution : Addr) (h0 : Heap) (n0 : Nat) : Option Value → Heap → List Loc → Prop := fun v h L => v = none ∧ Fr n0 L ∧ Keep h0 h [a] ∧ Exa Z h a "com/example/mantleray/mantleray/QuadraticModel" ∧ ∃ r_gradient r_blocks r_coupling r_inverses r_best r_candidate r_solution : Addr, Fld Z h a "com/example/mantleray/mantleray/QuadraticModel" "points" "I" (.int (3 : Int32)) ∧ Fld Z h a "com/example/mantleray/mantleray/QuadraticModel" "gradient" "[D" (.ref r_gradient) ∧ Fld Z h a "com/example/mantleray/mantleray/QuadraticModel" "blocks" "[D" (.ref r_blocks) ∧ Fld Z h a "com/example/mantleray/mantleray/QuadraticModel" "coupling" "[D" (.ref r_coupling) ∧ Fld Z h a "com/example/mantleray/mantleray/QuadraticModel" "inverses" "[D" (.ref r_inverses) ∧ Fld Z h a "com/example/mantleray/mantleray/QuadraticModel" "best" "[D" (.ref r_best) ∧ Fld Z h a "com/example/mantleray/mantleray/QuadraticModel" "candidate" "[D" (.ref r_candidate) ∧ Fld Z h a "com/example/mantleray/mantleray/QuadraticModel" "solution" "[D" (.ref r_solution) ∧ own_Da Z h r_gradient 6 (fun _ => 0) ∧ own_Da Z h r_blocks 12 (fun _ => 0) ∧ own_Da Z h r_coupling 12 (fun _ => 0) ∧ n0 ≤ r_gradient ∧ n0 ≤ r_blocks ∧ n0 ≤ r_coupling ∧ r_gradient ≠ r_blocks ∧ r_gradient ≠ r_coupling ∧ r_blocks ≠ r_coupling ∧ a ≠ r_gradient ∧ a ≠ r_blocks ∧ a ≠ r_coupling
set_option maxRecDepth 65536 in
set_option maxHeartbeats 40000000 in
theorem rmR3 (l : Launch) (Z : State) (a0 : Array Value) (hw : ∀ d ∈ tables_1, d.before a0 Z = true) (ws : List Jvm.Cond) (a : Addr) (o_gradient : Addr) (o_blocks : Addr) (o_coupling : Addr) (o_inverses : Addr) (o_best : Addr) (o_candidate : Addr) (o_solution : Addr) (h0 : Heap) (n0 : Nat) (Z0 : n0 ≤ h0.size) (EA : Exa Z h0 a "com/example/mantleray/mantleray/QuadraticModel") (q_a : n0 ≤ a) (f_points : Fld Z h0 a "com/example/mantleray/mantleray/QuadraticModel" "points" "I" (.int (0 : Int32))) (f_gradient : Fld Z h0 a "com/example/mantleray/mantleray/QuadraticModel" "gradient" "[D" (.ref o_gradient)) (f_blocks : Fld Z h0 a "com/example/mantleray/mantleray/QuadraticModel" "blocks" "[D" (.ref o_blocks)) (f_coupling : Fld Z h0 a "com/example/mantleray/mantleray/QuadraticModel" "coupling" "[D" (.ref o_coupling)) (f_inverses : Fld Z h0 a "com/example/mantleray/mantleray/QuadraticModel" "inverses" "[D" (.ref o_inverses)) (f_best : Fld Z h0 a "com/example/mantleray/mantleray/QuadraticModel" "best" "[D" (.ref o_best)) (f_candidate : Fld Z h0 a "com/example/mantleray/mantleray/QuadraticModel" "candidate" "[D" (.ref o_candidate)) (f_solution : Fld Z h0 a "com/example/mantleray/mantleray/QuadraticModel" "solution" "[D" (.ref o_solution)) (FO : own_Da Z h0 o_gradient 0 (fun _ => 0)) :
    MetFree l yR (head1 (Jvm.Cond.code yR prog_42_method_2_code 2 none :: ws) ({ frames := 0, cells := 7, slots := 60, locals := 0 } : Room)) (fun az Uz => az = #[(.ref a), (.int (3 : Int32))] ∧ Z.Warmed39 Uz.vm ∧ Uz.heap = h0) (fun _ _ _ _ _ => True) (fun _ Uz oz Vz => ∃ vz Lz, oz = .returned vz ∧ (Q_rmR3 Z a o_gradient o_blocks o_coupling o_inverses o_best o_candidate o_solution h0 n0) vz Vz.heap Lz ∧ FrameEnd Uz oz Vz Lz ({ frames := 0, cells := 7, slots := 60, locals := 0 } : Room).cells ({ frames := 0, cells := 7, slots := 60, locals := 0 } : Room).slots) := by
  refine MetFree.of_bodySF (plainFor_of_name pnQ) hisR ?_
  intro p e s m args below meth c s₁ Bd hml0 hP hK
  obtain ⟨rfl, hZ, hh⟩ := hP
  have hx := Bd.exec
  have hby := Bd.bytes
  have hlk := BodyLoose.notSynchronized Bd
  have hml : c.maxLocals = 2 := hml0
  have hown : s.vm.findClass "com/example/mantleray/mantleray/QuadraticModel" = some m.cls := findClass_of_methodNamed Bd.named
  have hnm := (name_of_methodNamed Bd.named Bd.method).1
  have X0 : Stand p l e ({ frames := 0, cells := 7, slots := 60, locals := 0 } : Room) s m #[(.ref a), (.int (3 : Int32))] below meth c s₁ [] 0 0 := Stand.of_body Bd
  have e0 : s₁.heap = h0 := by rw [← hh, Bd.state]; rfl
  have N0 := Fr.nil n0
  show own_Win p e below s (Q_rmR3 Z a o_gradient o_blocks o_coupling o_inverses o_best o_candidate o_solution h0 n0) _ _ _
  refine own_st (fun tz kz => castTop (efR m a (3 : Int32)) kz) ?_
  have ne_o_a : o_gradient ≠ a := fun q => ne_arr EA (hw _ (List.mem_of_getElem? (i := 1) rfl)) (FO.2.choose_spec.1) q.symm
  show own_Win p e below s _ _ _ (s₁.setTop (mkF m 0 #[.val (.ref a), .val (.int (3 : Int32))] []))
  refine own_st (fun _ kz => XS.aloadN X0.here hx rfl (hb hby dr_0) rfl rfl kz) ?_
  show own_Win p e below s _ _ _ (s₁.setTop (mkF m 1 #[.val (.ref a), .val (.int (3 : Int32))] [(.ref a)]))
  refine own_st (fun _ kz => XS.iloadN X0.here hx rfl (hb hby dr_1) rfl kz) ?_
  show own_Win p e below s _ _ _ (s₁.setTop (mkF m 2 #[.val (.ref a), .val (.int (3 : Int32))] [(.int (3 : Int32)), (.ref a)]))
  obtain ⟨T1, h1, X1, e1, W1, st1⟩ := putF X0 hx hZ hown (host := "") (Or.inl (hw _ (List.mem_of_getElem? (i := 14) rfl))) Via.refl e0 f_points EA (Or.inl (hw _ (List.mem_of_getElem? (i := 15) rfl))) (hw _ (List.mem_of_getElem? (i := 1) rfl)) (ty := .int) (by decide) rfl rfl (g := (mkF m 2 #[.val (.ref a), .val (.int (3 : Int32))] [(.int (3 : Int32)), (.ref a)])) rfl rfl (hb hby dr_2)
  refine own_st st1 ?_
  have N1 := Fr.snoc X1 N0 q_a
  have Z1 : n0 ≤ h1.size := by rw [Wr.size W1]; exact Z0
  have c_points_h1 : Fld Z h1 a "com/example/mantleray/mantleray/QuadraticModel" "points" "I" (.int (3 : Int32)) := Fld.same W1 f_points
  have c_E_h1 : Exa Z h1 a "com/example/mantleray/mantleray/QuadraticModel" := Exa.wr W1 EA
  have c_gradient_h1 : Fld Z h1 a "com/example/mantleray/mantleray/QuadraticModel" "gradient" "[D" (.ref o_gradient) := Fld.other W1 f_gradient (Or.inr (slot_ne (t := (.array .double)) (t' := .int) (Or.inl (hw _ (List.mem_of_getElem? (i := 17) rfl))) (Or.inl (hw _ (List.mem_of_getElem? (i := 15) rfl))) (by decide) (by decide) (by decide)))
  have c_blocks_h1 : Fld Z h1 a "com/example/mantleray/mantleray/QuadraticModel" "blocks" "[D" (.ref o_blocks) := Fld.other W1 f_blocks (Or.inr (slot_ne (t := (.array .double)) (t' := .int) (Or.inl (hw _ (List.mem_of_getElem? (i := 20) rfl))) (Or.inl (hw _ (List.mem_of_getElem? (i := 15) rfl))) (by decide) (by decide) (by decide)))
  have c_coupling_h1 : Fld Z h1 a "com/example/mantleray/mantleray/QuadraticModel" "coupling" "[D" (.ref o_coupling) := Fld.other W1 f_coupling (Or.inr (slot_ne (t := (.array .double)) (t' := .int) (Or.inl (hw _ (List.mem_of_getElem? (i := 22) rfl))) (Or.inl (hw _ (List.mem_of_getElem? (i := 15) rfl))) (by decide) (by decide) (by decide)))
  have c_inverses_h1 : Fld Z h1 a "com/example/mantleray/mantleray/QuadraticModel" "inverses" "[D" (.ref o_inverses) := Fld.other W1 f_inverses (Or.inr (slot_ne (t := (.array .double)) (t' := .int) (Or.inl (hw _ (List.mem_of_getElem? (i := 24) rfl))) (Or.inl (hw _ (List.mem_of_getElem? (i := 15) rfl))) (by decide) (by decide) (by decide)))
  have c_best_h1 : Fld Z h1 a "com/example/mantleray/mantleray/QuadraticModel" "best" "[D" (.ref o_best) := Fld.other W1 f_best (Or.inr (slot_ne (t := (.array .double)) (t' := .int) (Or.inl (hw _ (List.mem_of_getElem? (i := 26) rfl))) (Or.inl (hw _ (List.mem_of_getElem? (i := 15) rfl))) (by decide) (by decide) (by decide)))
  have c_candidate_h1 : Fld Z h1 a "com/example/mantleray/mantleray/QuadraticModel" "candidate" "[D" (.ref o_candidate) := Fld.other W1 f_candidate (Or.inr (slot_ne (t := (.array .double)) (t' := .int) (Or.inl (hw _ (List.mem_of_getElem? (i := 28) rfl))) (Or.inl (hw _ (List.mem_of_getElem? (i := 15) rfl))) (by decide) (by decide) (by decide)))
  have c_solution_h1 : Fld Z h1 a "com/example/mantleray/mantleray/QuadraticModel" "solution" "[D" (.ref o_solution) := Fld.other W1 f_solution (Or.inr (slot_ne (t := (.array .double)) (t' := .int) (Or.inl (hw _ (List.mem_of_getElem? (i := 30) rfl))) (Or.inl (hw _ (List.mem_of_getElem? (i := 15) rfl))) (by decide) (by decide) (by decide)))
  have c_O_h1 : own_Da Z h1 o_gradient 0 (fun _ => 0) := own_Av.other W1 FO ne_o_a
  show own_Win p e below s _ _ _ (T1.setTop (mkF m 5 #[.val (.ref a), .val (.int (3 : Int32))] []))
  refine own_st (fun _ kz => XS.aloadN X1.here hx rfl (hb hby dr_5) rfl rfl kz) ?_
  show own_Win p e below s _ _ _ (T1.setTop (mkF m 6 #[.val (.ref a), .val (.int (3 : Int32))] [(.ref a)]))
  obtain ⟨T2, X2, e2, st2⟩ := getF X1 hx hZ hown (host := "") (Or.inl (hw _ (List.mem_of_getElem? (i := 16) rfl))) Via.refl e1 c_gradient_h1 (g := (mkF m 6 #[.val (.ref a), .val (.int (3 : Int32))] [(.ref a)])) rfl rfl (hb hby dr_6)
  refine own_st st2 ?_
  show own_Win p e below s _ _ _ (T2.setTop (mkF m 9 #[.val (.ref a), .val (.int (3 : Int32))] [(.ref o_gradient)]))
  refine own_st (fun _ kz => XS.ifnullNo X2.here hx rfl (hb hby dr_9) rfl kz) ?_
  show own_Win p e below s _ _ _ (T2.setTop (mkF m 12 #[.val (.ref a), .val (.int (3 : Int32))] []))
  refine own_st (fun _ kz => XS.aloadN X2.here hx rfl (hb hby dr_12) rfl rfl kz) ?_
  show own_Win p e below s _ _ _ (T2.setTop (mkF m 13 #[.val (.ref a), .val (.int (3 : Int32))] [(.ref a)]))
  obtain ⟨T3, X3, e3, st3⟩ := getF X2 hx hZ hown (host := "") (Or.inl (hw _ (List.mem_of_getElem? (i := 16) rfl))) Via.refl e2 c_gradient_h1 (g := (mkF m 13 #[.val (.ref a), .val (.int (3 : Int32))] [(.ref a)])) rfl rfl (hb hby dr_13)
  refine own_st st3 ?_
  show own_Win p e below s _ _ _ (T3.setTop (mkF m 16 #[.val (.ref a), .val (.int (3 : Int32))] [(.ref o_gradient)]))
  refine own_alen X3 hx hZ e3 c_O_h1 (z := 0) rfl rfl rfl (hb hby dr_16) ?_
  show own_Win p e below s _ _ _ (T3.setTop (mkF m 17 #[.val (.ref a), .val (.int (3 : Int32))] [(.int (0 : Int32))]))
  refine own_st (fun _ kz => XS.iconst X3.here hx rfl (hb hby dr_17) kz) ?_
  show own_Win p e below s _ _ _ (T3.setTop (mkF m 18 #[.val (.ref a), .val (.int (3 : Int32))] [(.int (2 : Int32)), (.int (0 : Int32))]))
  refine own_st (fun _ kz => XS.iloadN X3.here hx rfl (hb hby dr_18) rfl kz) ?_
  show own_Win p e below s _ _ _ (T3.setTop (mkF m 19 #[.val (.ref a), .val (.int (3 : Int32))] [(.int (3 : Int32)), (.int (2 : Int32)), (.int (0 : Int32))]))
  refine own_st (fun _ kz => XS.imul X3.here hx rfl (hb hby dr_19) rfl kz) ?_
  show own_Win p e below s _ _ _ (T3.setTop (mkF m 20 #[.val (.ref a), .val (.int (3 : Int32))] [(.int ((2 : Int32) * (3 : Int32))), (.int (0 : Int32))]))
  refine own_st (fun _ kz => XS.icmpNo X3.here hx rfl (hb hby dr_20) rfl (by decide) kz) ?_
  show own_Win p e below s _ _ _ (T3.setTop (mkF m 23 #[.val (.ref a), .val (.int (3 : Int32))] []))
  refine own_st (fun _ kz => XS.aloadN X3.here hx rfl (hb hby dr_23) rfl rfl kz) ?_
  show own_Win p e below s _ _ _ (T3.setTop (mkF m 24 #[.val (.ref a), .val (.int (3 : Int32))] [(.ref a)]))
  refine own_st (fun _ kz => XS.iconst X3.here hx rfl (hb hby dr_24) kz) ?_
  show own_Win p e below s _ _ _ (T3.setTop (mkF m 25 #[.val (.ref a), .val (.int (3 : Int32))] [(.int (2 : Int32)), (.ref a)]))
  refine own_st (fun _ kz => XS.iloadN X3.here hx rfl (hb hby dr_25) rfl kz) ?_
  show own_Win p e below s _ _ _ (T3.setTop (mkF m 26 #[.val (.ref a), .val (.int (3 : Int32))] [(.int (3 : Int32)), (.int (2 : Int32)), (.ref a)]))
  refine own_st (fun _ kz => XS.imul X3.here hx rfl (hb hby dr_26) rfl kz) ?_
  show own_Win p e below s _ _ _ (T3.setTop (mkF m 27 #[.val (.ref a), .val (.int (3 : Int32))] [(.int ((2 : Int32) * (3 : Int32))), (.ref a)]))
  refine own_newD X3 hx hZ (hw _ (List.mem_of_getElem? (i := 18) rfl)) e3 (n := 6) (cap := 6) rfl (Nat.le_refl _) (by decide) (by decide) (by decide) rfl rfl (hb hby dr_27) ?_
  intro T4 h4 a4 X4 e4 g4 E4 F4 Ex4
  show own_Win p e below s _ _ _ (T4.setTop (mkF m 29 #[.val (.ref a), .val (.int (3 : Int32))] [(.ref a4), (.ref a)]))
  have ne_a_a4 : a ≠ a4 := by rw [g4]; exact Nat.ne_of_lt (Exa.lt c_E_h1)
  have Z4 : n0 ≤ h4.size := Nat.le_trans Z1 E4.1
  have q_a4 : n0 ≤ a4 := by rw [g4]; exact Z1
  have c_E_h4 : Exa Z h4 a "com/example/mantleray/mantleray/QuadraticModel" := Exa.ext E4 c_E_h1
  have c_points_h4 : Fld Z h4 a "com/example/mantleray/mantleray/QuadraticModel" "points" "I" (.int (3 : Int32)) := Fld.ext E4 c_points_h1
  have c_gradient_h4 : Fld Z h4 a "com/example/mantleray/mantleray/QuadraticModel" "gradient" "[D" (.ref o_gradient) := Fld.ext E4 c_gradient_h1
  have c_blocks_h4 : Fld Z h4 a "com/example/mantleray/mantleray/QuadraticModel" "blocks" "[D" (.ref o_blocks) := Fld.ext E4 c_blocks_h1
  have c_coupling_h4 : Fld Z h4 a "com/example/mantleray/mantleray/QuadraticModel" "coupling" "[D" (.ref o_coupling) := Fld.ext E4 c_coupling_h1
  have c_inverses_h4 : Fld Z h4 a "com/example/mantleray/mantleray/QuadraticModel" "inverses" "[D" (.ref o_inverses) := Fld.ext E4 c_inverses_h1
  have c_best_h4 : Fld Z h4 a "com/example/mantleray/mantleray/QuadraticModel" "best" "[D" (.ref o_best) := Fld.ext E4 c_best_h1
  have c_candidate_h4 : Fld Z h4 a "com/example/mantleray/mantleray/QuadraticModel" "candidate" "[D" (.ref o_candidate) := Fld.ext E4 c_candidate_h1
  have c_solution_h4 : Fld Z h4 a "com/example/mantleray/mantleray/QuadraticModel" "solution" "[D" (.ref o_solution) := Fld.ext E4 c_solution_h1
  obtain ⟨T5, h5, X5, e5, W5, st5⟩ := putF X4 hx hZ hown (host := "") (Or.inl (hw _ (List.mem_of_getElem? (i := 16) rfl))) Via.refl e4 c_gradient_h4 c_E_h4 (Or.inl (hw _ (List.mem_of_getElem? (i := 17) rfl))) (hw _ (List.mem_of_getElem? (i := 1) rfl)) (ty := (.array .double)) (by decide) rfl rfl (g := (mkF m 29 #[.val (.ref a), .val (.int (3 : Int32))] [(.ref a4), (.ref a)])) rfl rfl (hb hby dr_29)
  refine own_st st5 ?_
  have N5 := Fr.snoc X5 N1 q_a
  have Z5 : n0 ≤ h5.size := by rw [Wr.size W5]; exact Z4
  have c_gradient_h5 : Fld Z h5 a "com/example/mantleray/mantleray/QuadraticModel" "gradient" "[D" (.ref a4) := Fld.same W5 c_gradient_h4
  have c_E_h5 : Exa Z h5 a "com/example/mantleray/mantleray/QuadraticModel" := Exa.wr W5 c_E_h4
  have c_points_h5 : Fld Z h5 a "com/example/mantleray/mantleray/QuadraticModel" "points" "I" (.int (3 : Int32)) := Fld.other W5 c_points_h4 (Or.inr (slot_ne (t := .int) (t' := (.array .double)) (Or.inl (hw _ (List.mem_of_getElem? (i := 15) rfl))) (Or.inl (hw _ (List.mem_of_getElem? (i := 17) rfl))) (by decide) (by decide) (by decide)))
  have c_blocks_h5 : Fld Z h5 a "com/example/mantleray/mantleray/QuadraticModel" "blocks" "[D" (.ref o_blocks) := Fld.other W5 c_blocks_h4 (Or.inr (slot_ne (t := (.array .double)) (t' := (.array .double)) (Or.inl (hw _ (List.mem_of_getElem? (i := 20) rfl))) (Or.inl (hw _ (List.mem_of_getElem? (i := 17) rfl))) (by decide) (by decide) (by decide)))
  have c_coupling_h5 : Fld Z h5 a "com/example/mantleray/mantleray/QuadraticModel" "coupling" "[D" (.ref o_coupling) := Fld.other W5 c_coupling_h4 (Or.inr (slot_ne (t := (.array .double)) (t' := (.array .double)) (Or.inl (hw _ (List.mem_of_getElem? (i := 22) rfl))) (Or.inl (hw _ (List.mem_of_getElem? (i := 17) rfl))) (by decide) (by decide) (by decide)))
  have c_inverses_h5 : Fld Z h5 a "com/example/mantleray/mantleray/QuadraticModel" "inverses" "[D" (.ref o_inverses) := Fld.other W5 c_inverses_h4 (Or.inr (slot_ne (t := (.array .double)) (t' := (.array .double)) (Or.inl (hw _ (List.mem_of_getElem? (i := 24) rfl))) (Or.inl (hw _ (List.mem_of_getElem? (i := 17) rfl))) (by decide) (by decide) (by decide)))
  have c_best_h5 : Fld Z h5 a "com/example/mantleray/mantleray/QuadraticModel" "best" "[D" (.ref o_best) := Fld.other W5 c_best_h4 (Or.inr (slot_ne (t := (.array .double)) (t' := (.array .double)) (Or.inl (hw _ (List.mem_of_getElem? (i := 26) rfl))) (Or.inl (hw _ (List.mem_of_getElem? (i := 17) rfl))) (by decide) (by decide) (by decide)))
  have c_candidate_h5 : Fld Z h5 a "com/example/mantleray/mantleray/QuadraticModel" "candidate" "[D" (.ref o_candidate) := Fld.other W5 c_candidate_h4 (Or.inr (slot_ne (t := (.array .double)) (t' := (.array .double)) (Or.inl (hw _ (List.mem_of_getElem? (i := 28) rfl))) (Or.inl (hw _ (List.mem_of_getElem? (i := 17) rfl))) (by decide) (by decide) (by decide)))
  have c_solution_h5 : Fld Z h5 a "com/example/mantleray/mantleray/QuadraticModel" "solution" "[D" (.ref o_solution) := Fld.other W5 c_solution_h4 (Or.inr (slot_ne (t := (.array .double)) (t' := (.array .double)) (Or.inl (hw _ (List.mem_of_getElem? (i := 30) rfl))) (Or.inl (hw _ (List.mem_of_getElem? (i := 17) rfl))) (by decide) (by decide) (by decide)))
  have c_ar_gradient_h5 : own_Da Z h5 a4 6 (fun _ => 0) := own_Av.other W5 F4 (Ne.symm ne_a_a4)
  show own_Win p e below s _ _ _ (T5.setTop (mkF m 32 #[.val (.ref a), .val (.int (3 : Int32))] []))
  refine own_st (fun _ kz => XS.aloadN X5.here hx rfl (hb hby dr_32) rfl rfl kz) ?_
  show own_Win p e below s _ _ _ (T5.setTop (mkF m 33 #[.val (.ref a), .val (.int (3 : Int32))] [(.ref a)]))
  refine own_st (fun _ kz => XS.iconst X5.here hx rfl (hb hby dr_33) kz) ?_
  show own_Win p e below s _ _ _ (T5.setTop (mkF m 34 #[.val (.ref a), .val (.int (3 : Int32))] [(.int (4 : Int32)), (.ref a)]))
  refine own_st (fun _ kz => XS.iloadN X5.here hx rfl (hb hby dr_34) rfl kz) ?_
  show own_Win p e below s _ _ _ (T5.setTop (mkF m 35 #[.val (.ref a), .val (.int (3 : Int32))] [(.int (3 : Int32)), (.int (4 : Int32)), (.ref a)]))
  refine own_st (fun _ kz => XS.imul X5.here hx rfl (hb hby dr_35) rfl kz) ?_
  show own_Win p e below s _ _ _ (T5.setTop (mkF m 36 #[.val (.ref a), .val (.int (3 : Int32))] [(.int ((4 : Int32) * (3 : Int32))), (.ref a)]))
  refine own_newD X5 hx hZ (hw _ (List.mem_of_getElem? (i := 18) rfl)) e5 (n := 12) (cap := 12) rfl (Nat.le_refl _) (by decide) (by decide) (by decide) rfl rfl (hb hby dr_36) ?_
  intro T6 h6 a6 X6 e6 g6 E6 F6 Ex6
  show own_Win p e below s _ _ _ (T6.setTop (mkF m 38 #[.val (.ref a), .val (.int (3 : Int32))] [(.ref a6), (.ref a)]))
  have ne_a_a6 : a ≠ a6 := by rw [g6]; exact Nat.ne_of_lt (Exa.lt c_E_h5)
  have ne_a4_a6 : a4 ≠ a6 := by rw [g6]; exact Nat.ne_of_lt (own_Av.lt c_ar_gradient_h5)
  have Z6 : n0 ≤ h6.size := Nat.le_trans Z5 E6.1
  have q_a6 : n0 ≤ a6 := by rw [g6]; exact Z5
  have c_E_h6 : Exa Z h6 a "com/example/mantleray/mantleray/QuadraticModel" := Exa.ext E6 c_E_h5
  have c_points_h6 : Fld Z h6 a "com/example/mantleray/mantleray/QuadraticModel" "points" "I" (.int (3 : Int32)) := Fld.ext E6 c_points_h5
  have c_gradient_h6 : Fld Z h6 a "com/example/mantleray/mantleray/QuadraticModel" "gradient" "[D" (.ref a4) := Fld.ext E6 c_gradient_h5
  have c_blocks_h6 : Fld Z h6 a "com/example/mantleray/mantleray/QuadraticModel" "blocks" "[D" (.ref o_blocks) := Fld.ext E6 c_blocks_h5
  have c_coupling_h6 : Fld Z h6 a "com/example/mantleray/mantleray/QuadraticModel" "coupling" "[D" (.ref o_coupling) := Fld.ext E6 c_coupling_h5
  have c_inverses_h6 : Fld Z h6 a "com/example/mantleray/mantleray/QuadraticModel" "inverses" "[D" (.ref o_inverses) := Fld.ext E6 c_inverses_h5
  have c_best_h6 : Fld Z h6 a "com/example/mantleray/mantleray/QuadraticModel" "best" "[D" (.ref o_best) := Fld.ext E6 c_best_h5
  have c_candidate_h6 : Fld Z h6 a "com/example/mantleray/mantleray/QuadraticModel" "candidate" "[D" (.ref o_candidate) := Fld.ext E6 c_candidate_h5
  have c_solution_h6 : Fld Z h6 a "com/example/mantleray/mantleray/QuadraticModel" "solution" "[D" (.ref o_solution) := Fld.ext E6 c_solution_h5
  have c_ar_gradient_h6 : own_Da Z h6 a4 6 (fun _ => 0) := own_Av.ext E6 c_ar_gradient_h5
  obtain ⟨T7, h7, X7, e7, W7, st7⟩ := putF X6 hx hZ hown (host := "") (Or.inl (hw _ (List.mem_of_getElem? (i := 19) rfl))) Via.refl e6 c_blocks_h6 c_E_h6 (Or.inl (hw _ (List.mem_of_getElem? (i := 20) rfl))) (hw _ (List.mem_of_getElem? (i := 1) rfl)) (ty := (.array .double)) (by decide) rfl rfl (g := (mkF m 38 #[.val (.ref a), .val (.int (3 : Int32))] [(.ref a6), (.ref a)])) rfl rfl (hb hby dr_38)
  refine own_st st7 ?_
  have N7 := Fr.snoc X7 N5 q_a
  have Z7 : n0 ≤ h7.size := by rw [Wr.size W7]; exact Z6
  have c_blocks_h7 : Fld Z h7 a "com/example/mantleray/mantleray/QuadraticModel" "blocks" "[D" (.ref a6) := Fld.same W7 c_blocks_h6
  have c_E_h7 : Exa Z h7 a "com/example/mantleray/mantleray/QuadraticModel" := Exa.wr W7 c_E_h6
  have c_points_h7 : Fld Z h7 a "com/example/mantleray/mantleray/QuadraticModel" "points" "I" (.int (3 : Int32)) := Fld.other W7 c_points_h6 (Or.inr (slot_ne (t := .int) (t' := (.array .double)) (Or.inl (hw _ (List.mem_of_getElem? (i := 15) rfl))) (Or.inl (hw _ (List.mem_of_getElem? (i := 20) rfl))) (by decide) (by decide) (by decide)))
  have c_gradient_h7 : Fld Z h7 a "com/example/mantleray/mantleray/QuadraticModel" "gradient" "[D" (.ref a4) := Fld.other W7 c_gradient_h6 (Or.inr (slot_ne (t := (.array .double)) (t' := (.array .double)) (Or.inl (hw _ (List.mem_of_getElem? (i := 17) rfl))) (Or.inl (hw _ (List.mem_of_getElem? (i := 20) rfl))) (by decide) (by decide) (by decide)))
  have c_coupling_h7 : Fld Z h7 a "com/example/mantleray/mantleray/QuadraticModel" "coupling" "[D" (.ref o_coupling) := Fld.other W7 c_coupling_h6 (Or.inr (slot_ne (t := (.array .double)) (t' := (.array .double)) (Or.inl (hw _ (List.mem_of_getElem? (i := 22) rfl))) (Or.inl (hw _ (List.mem_of_getElem? (i := 20) rfl))) (by decide) (by decide) (by decide)))
  have c_inverses_h7 : Fld Z h7 a "com/example/mantleray/mantleray/QuadraticModel" "inverses" "[D" (.ref o_inverses) := Fld.other W7 c_inverses_h6 (Or.inr (slot_ne (t := (.array .double)) (t' := (.array .double)) (Or.inl (hw _ (List.mem_of_getElem? (i := 24) rfl))) (Or.inl (hw _ (List.mem_of_getElem? (i := 20) rfl))) (by decide) (by decide) (by decide)))
  have c_best_h7 : Fld Z h7 a "com/example/mantleray/mantleray/QuadraticModel" "best" "[D" (.ref o_best) := Fld.other W7 c_best_h6 (Or.inr (slot_ne (t := (.array .double)) (t' := (.array .double)) (Or.inl (hw _ (List.mem_of_getElem? (i := 26) rfl))) (Or.inl (hw _ (List.mem_of_getElem? (i := 20) rfl))) (by decide) (by decide) (by decide)))
  have c_candidate_h7 : Fld Z h7 a "com/example/mantleray/mantleray/QuadraticModel" "candidate" "[D" (.ref o_candidate) := Fld.other W7 c_candidate_h6 (Or.inr (slot_ne (t := (.array .double)) (t' := (.array .double)) (Or.inl (hw _ (List.mem_of_getElem? (i := 28) rfl))) (Or.inl (hw _ (List.mem_of_getElem? (i := 20) rfl))) (by decide) (by decide) (by decide)))
  have c_solution_h7 : Fld Z h7 a "com/example/mantleray/mantleray/QuadraticModel" "solution" "[D" (.ref o_solution) := Fld.other W7 c_solution_h6 (Or.inr (slot_ne (t := (.array .double)) (t' := (.array .double)) (Or.inl (hw _ (List.mem_of_getElem? (i := 30) rfl))) (Or.inl (hw _ (List.mem_of_getElem? (i := 20) rfl))) (by decide) (by decide) (by decide)))
  have c_ar_gradient_h7 : own_Da Z h7 a4 6 (fun _ => 0) := own_Av.other W7 c_ar_gradient_h6 (Ne.symm ne_a_a4)
  have c_ar_blocks_h7 : own_Da Z h7 a6 12 (fun _ => 0) := own_Av.other W7 F6 (Ne.symm ne_a_a6)
  show own_Win p e below s _ _ _ (T7.setTop (mkF m 41 #[.val (.ref a), .val (.int (3 : Int32))] []))
  refine own_st (fun _ kz => XS.aloadN X7.here hx rfl (hb hby dr_41) rfl rfl kz) ?_
  show own_Win p e below s _ _ _ (T7.setTop (mkF m 42 #[.val (.ref a), .val (.int (3 : Int32))] [(.ref a)]))
  refine own_st (fun _ kz => XS.iconst X7.here hx rfl (hb hby dr_42) kz) ?_
  show own_Win p e below s _ _ _ (T7.setTop (mkF m 43 #[.val (.ref a), .val (.int (3 : Int32))] [(.int (4 : Int32)), (.ref a)]))
  refine own_st (fun _ kz => XS.iloadN X7.here hx rfl (hb hby dr_43) rfl kz) ?_
  show own_Win p e below s _ _ _ (T7.setTop (mkF m 44 #[.val (.ref a), .val (.int (3 : Int32))] [(.int (3 : Int32)), (.int (4 : Int32)), (.ref a)]))
  refine own_st (fun _ kz => XS.imul X7.here hx rfl (hb hby dr_44) rfl kz) ?_
  show own_Win p e below s _ _ _ (T7.setTop (mkF m 45 #[.val (.ref a), .val (.int (3 : Int32))] [(.int ((4 : Int32) * (3 : Int32))), (.ref a)]))
  refine own_newD X7 hx hZ (hw _ (List.mem_of_getElem? (i := 18) rfl)) e7 (n := 12) (cap := 12) rfl (Nat.le_refl _) (by decide) (by decide) (by decide) rfl rfl (hb hby dr_45) ?_
  intro T8 h8 a8 X8 e8 g8 E8 F8 Ex8
  show own_Win p e below s _ _ _ (T8.setTop (mkF m 47 #[.val (.ref a), .val (.int (3 : Int32))] [(.ref a8), (.ref a)]))
  have ne_a_a8 : a ≠ a8 := by rw [g8]; exact Nat.ne_of_lt (Exa.lt c_E_h7)
  have ne_a4_a8 : a4 ≠ a8 := by rw [g8]; exact Nat.ne_of_lt (own_Av.lt c_ar_gradient_h7)
  have ne_a6_a8 : a6 ≠ a8 := by rw [g8]; exact Nat.ne_of_lt (own_Av.lt c_ar_blocks_h7)
  have Z8 : n0 ≤ h8.size := Nat.le_trans Z7 E8.1
  have q_a8 : n0 ≤ a8 := by rw [g8]; exact Z7
  have c_E_h8 : Exa Z h8 a "com/example/mantleray/mantleray/QuadraticModel" := Exa.ext E8 c_E_h7
  have c_points_h8 : Fld Z h8 a "com/example/mantleray/mantleray/QuadraticModel" "points" "I" (.int (3 : Int32)) := Fld.ext E8 c_points_h7
  have c_gradient_h8 : Fld Z h8 a "com/example/mantleray/mantleray/QuadraticModel" "gradient" "[D" (.ref a4) := Fld.ext E8 c_gradient_h7
  have c_blocks_h8 : Fld Z h8 a "com/example/mantleray/mantleray/QuadraticModel" "blocks" "[D" (.ref a6) := Fld.ext E8 c_blocks_h7
  have c_coupling_h8 : Fld Z h8 a "com/example/mantleray/mantleray/QuadraticModel" "coupling" "[D" (.ref o_coupling) := Fld.ext E8 c_coupling_h7
  have c_inverses_h8 : Fld Z h8 a "com/example/mantleray/mantleray/QuadraticModel" "inverses" "[D" (.ref o_inverses) := Fld.ext E8 c_inverses_h7
  have c_best_h8 : Fld Z h8 a "com/example/mantleray/mantleray/QuadraticModel" "best" "[D" (.ref o_best) := Fld.ext E8 c_best_h7
  have c_candidate_h8 : Fld Z h8 a "com/example/mantleray/mantleray/QuadraticModel" "candidate" "[D" (.ref o_candidate) := Fld.ext E8 c_candidate_h7
  have c_solution_h8 : Fld Z h8 a "com/example/mantleray/mantleray/QuadraticModel" "solution" "[D" (.ref o_solution) := Fld.ext E8 c_solution_h7
  have c_ar_gradient_h8 : own_Da Z h8 a4 6 (fun _ => 0) := own_Av.ext E8 c_ar_gradient_h7
  have c_ar_blocks_h8 : own_Da Z h8 a6 12 (fun _ => 0) := own_Av.ext E8 c_ar_blocks_h7
  obtain ⟨T9, h9, X9, e9, W9, st9⟩ := putF X8 hx hZ hown (host := "") (Or.inl (hw _ (List.mem_of_getElem? (i := 21) rfl))) Via.refl e8 c_coupling_h8 c_E_h8 (Or.inl (hw _ (List.mem_of_getElem? (i := 22) rfl))) (hw _ (List.mem_of_getElem? (i := 1) rfl)) (ty := (.array .double)) (by decide) rfl rfl (g := (mkF m 47 #[.val (.ref a), .val (.int (3 : Int32))] [(.ref a8), (.ref a)])) rfl rfl (hb hby dr_47)
  refine own_st st9 ?_
  have N9 := Fr.snoc X9 N7 q_a
  have Z9 : n0 ≤ h9.size := by rw [Wr.size W9]; exact Z8
  have c_coupling_h9 : Fld Z h9 a "com/example/mantleray/mantleray/QuadraticModel" "coupling" "[D" (.ref a8) := Fld.same W9 c_coupling_h8
  have c_E_h9 : Exa Z h9 a "com/example/mantleray/mantleray/QuadraticModel" := Exa.wr W9 c_E_h8
  have c_points_h9 : Fld Z h9 a "com/example/mantleray/mantleray/QuadraticModel" "points" "I" (.int (3 : Int32)) := Fld.other W9 c_points_h8 (Or.inr (slot_ne (t := .int) (t' := (.array .double)) (Or.inl (hw _ (List.mem_of_getElem? (i := 15) rfl))) (Or.inl (hw _ (List.mem_of_getElem? (i := 22) rfl))) (by decide) (by decide) (by decide)))
  have c_gradient_h9 : Fld Z h9 a "com/example/mantleray/mantleray/QuadraticModel" "gradient" "[D" (.ref a4) := Fld.other W9 c_gradient_h8 (Or.inr (slot_ne (t := (.array .double)) (t' := (.array .double)) (Or.inl (hw _ (List.mem_of_getElem? (i := 17) rfl))) (Or.inl (hw _ (List.mem_of_getElem? (i := 22) rfl))) (by decide) (by decide) (by decide)))
  have c_blocks_h9 : Fld Z h9 a "com/example/mantleray/mantleray/QuadraticModel" "blocks" "[D" (.ref a6) := Fld.other W9 c_blocks_h8 (Or.inr (slot_ne (t := (.array .double)) (t' := (.array .double)) (Or.inl (hw _ (List.mem_of_getElem? (i := 20) rfl))) (Or.inl (hw _ (List.mem_of_getElem? (i := 22) rfl))) (by decide) (by decide) (by decide)))
  have c_inverses_h9 : Fld Z h9 a "com/example/mantleray/mantleray/QuadraticModel" "inverses" "[D" (.ref o_inverses) := Fld.other W9 c_inverses_h8 (Or.inr (slot_ne (t := (.array .double)) (t' := (.array .double)) (Or.inl (hw _ (List.mem_of_getElem? (i := 24) rfl))) (Or.inl (hw _ (List.mem_of_getElem? (i := 22) rfl))) (by decide) (by decide) (by decide)))
  have c_best_h9 : Fld Z h9 a "com/example/mantleray/mantleray/QuadraticModel" "best" "[D" (.ref o_best) := Fld.other W9 c_best_h8 (Or.inr (slot_ne (t := (.array .double)) (t' := (.array .double)) (Or.inl (hw _ (List.mem_of_getElem? (i := 26) rfl))) (Or.inl (hw _ (List.mem_of_getElem? (i := 22) rfl))) (by decide) (by decide) (by decide)))
  have c_candidate_h9 : Fld Z h9 a "com/example/mantleray/mantleray/QuadraticModel" "candidate" "[D" (.ref o_candidate) := Fld.other W9 c_candidate_h8 (Or.inr (slot_ne (t := (.array .double)) (t' := (.array .double)) (Or.inl (hw _ (List.mem_of_getElem? (i := 28) rfl))) (Or.inl (hw _ (List.mem_of_getElem? (i := 22) rfl))) (by decide) (by decide) (by decide)))
  have c_solution_h9 : Fld Z h9 a "com/example/mantleray/mantleray/QuadraticModel" "solution" "[D" (.ref o_solution) := Fld.other W9 c_solution_h8 (Or.inr (slot_ne (t := (.array .double)) (t' := (.array .double)) (Or.inl (hw _ (List.mem_of_getElem? (i := 30) rfl))) (Or.inl (hw _ (List.mem_of_getElem? (i := 22) rfl))) (by decide) (by decide) (by decide)))
  have c_ar_gradient_h9 : own_Da Z h9 a4 6 (fun _ => 0) := own_Av.other W9 c_ar_gradient_h8 (Ne.symm ne_a_a4)
  have c_ar_blocks_h9 : own_Da Z h9 a6 12 (fun _ => 0) := own_Av.other W9 c_ar_blocks_h8 (Ne.symm ne_a_a6)
  have c_ar_coupling_h9 : own_Da Z h9 a8 12 (fun _ => 0) := own_Av.other W9 F8 (Ne.symm ne_a_a8)
  show own_Win p e below s _ _ _ (T9.setTop (mkF m 50 #[.val (.ref a), .val (.int (3 : Int32))] []))
  refine own_st (fun _ kz => XS.aloadN X9.here hx rfl (hb hby dr_50) rfl rfl kz) ?_
  show own_Win p e below s _ _ _ (T9.setTop (mkF m 51 #[.val (.ref a), .val (.int (3 : Int32))] [(.ref a)]))
  refine own_st (fun _ kz => XS.iconst X9.here hx rfl (hb hby dr_51) kz) ?_
  show own_Win p e below s _ _ _ (T9.setTop (mkF m 52 #[.val (.ref a), .val (.int (3 : Int32))] [(.int (4 : Int32)), (.ref a)]))
  refine own_st (fun _ kz => XS.iloadN X9.here hx rfl (hb hby dr_52) rfl kz) ?_
  show own_Win p e below s _ _ _ (T9.setTop (mkF m 53 #[.val (.ref a), .val (.int (3 : Int32))] [(.int (3 : Int32)), (.int (4 : Int32)), (.ref a)]))
  refine own_st (fun _ kz => XS.imul X9.here hx rfl (hb hby dr_53) rfl kz) ?_
  show own_Win p e below s _ _ _ (T9.setTop (mkF m 54 #[.val (.ref a), .val (.int (3 : Int32))] [(.int ((4 : Int32) * (3 : Int32))), (.ref a)]))
  refine own_newD X9 hx hZ (hw _ (List.mem_of_getElem? (i := 18) rfl)) e9 (n := 12) (cap := 12) rfl (Nat.le_refl _) (by decide) (by decide) (by decide) rfl rfl (hb hby dr_54) ?_
  intro T10 h10 a10 X10 e10 g10 E10 F10 Ex10
  show own_Win p e below s _ _ _ (T10.setTop (mkF m 56 #[.val (.ref a), .val (.int (3 : Int32))] [(.ref a10), (.ref a)]))
  have ne_a_a10 : a ≠ a10 := by rw [g10]; exact Nat.ne_of_lt (Exa.lt c_E_h9)
  have ne_a4_a10 : a4 ≠ a10 := by rw [g10]; exact Nat.ne_of_lt (own_Av.lt c_ar_gradient_h9)
  have ne_a6_a10 : a6 ≠ a10 := by rw [g10]; exact Nat.ne_of_lt (own_Av.lt c_ar_blocks_h9)
  have ne_a8_a10 : a8 ≠ a10 := by rw [g10]; exact Nat.ne_of_lt (own_Av.lt c_ar_coupling_h9)
  have Z10 : n0 ≤ h10.size := Nat.le_trans Z9 E10.1
  have q_a10 : n0 ≤ a10 := by rw [g10]; exact Z9
  have c_E_h10 : Exa Z h10 a "com/example/mantleray/mantleray/QuadraticModel" := Exa.ext E10 c_E_h9
  have c_points_h10 : Fld Z h10 a "com/example/mantleray/mantleray/QuadraticModel" "points" "I" (.int (3 : Int32)) := Fld.ext E10 c_points_h9
  have c_gradient_h10 : Fld Z h10 a "com/example/mantleray/mantleray/QuadraticModel" "gradient" "[D" (.ref a4) := Fld.ext E10 c_gradient_h9
  have c_blocks_h10 : Fld Z h10 a "com/example/mantleray/mantleray/QuadraticModel" "blocks" "[D" (.ref a6) := Fld.ext E10 c_blocks_h9
  have c_coupling_h10 : Fld Z h10 a "com/example/mantleray/mantleray/QuadraticModel" "coupling" "[D" (.ref a8) := Fld.ext E10 c_coupling_h9
  have c_inverses_h10 : Fld Z h10 a "com/example/mantleray/mantleray/QuadraticModel" "inverses" "[D" (.ref o_inverses) := Fld.ext E10 c_inverses_h9
  have c_best_h10 : Fld Z h10 a "com/example/mantleray/mantleray/QuadraticModel" "best" "[D" (.ref o_best) := Fld.ext E10 c_best_h9
  have c_candidate_h10 : Fld Z h10 a "com/example/mantleray/mantleray/QuadraticModel" "candidate" "[D" (.ref o_candidate) := Fld.ext E10 c_candidate_h9
  have c_solution_h10 : Fld Z h10 a "com/example/mantleray/mantleray/QuadraticModel" "solution" "[D" (.ref o_solution) := Fld.ext E10 c_solution_h9
  have c_ar_gradient_h10 : own_Da Z h10 a4 6 (fun _ => 0) := own_Av.ext E10 c_ar_gradient_h9
  have c_ar_blocks_h10 : own_Da Z h10 a6 12 (fun _ => 0) := own_Av.ext E10 c_ar_blocks_h9
  have c_ar_coupling_h10 : own_Da Z h10 a8 12 (fun _ => 0) := own_Av.ext E10 c_ar_coupling_h9
  obtain ⟨T11, h11, X11, e11, W11, st11⟩ := putF X10 hx hZ hown (host := "") (Or.inl (hw _ (List.mem_of_getElem? (i := 23) rfl))) Via.refl e10 c_inverses_h10 c_E_h10 (Or.inl (hw _ (List.mem_of_getElem? (i := 24) rfl))) (hw _ (List.mem_of_getElem? (i := 1) rfl)) (ty := (.array .double)) (by decide) rfl rfl (g := (mkF m 56 #[.val (.ref a), .val (.int (3 : Int32))] [(.ref a10), (.ref a)])) rfl rfl (hb hby dr_56)
  refine own_st st11 ?_
  have N11 := Fr.snoc X11 N9 q_a
  have Z11 : n0 ≤ h11.size := by rw [Wr.size W11]; exact Z10
  have c_inverses_h11 : Fld Z h11 a "com/example/mantleray/mantleray/QuadraticModel" "inverses" "[D" (.ref a10) := Fld.same W11 c_inverses_h10
  have c_E_h11 : Exa Z h11 a "com/example/mantleray/mantleray/QuadraticModel" := Exa.wr W11 c_E_h10
  have c_points_h11 : Fld Z h11 a "com/example/mantleray/mantleray/QuadraticModel" "points" "I" (.int (3 : Int32)) := Fld.other W11 c_points_h10 (Or.inr (slot_ne (t := .int) (t' := (.array .double)) (Or.inl (hw _ (List.mem_of_getElem? (i := 15) rfl))) (Or.inl (hw _ (List.mem_of_getElem? (i := 24) rfl))) (by decide) (by decide) (by decide)))
  have c_gradient_h11 : Fld Z h11 a "com/example/mantleray/mantleray/QuadraticModel" "gradient" "[D" (.ref a4) := Fld.other W11 c_gradient_h10 (Or.inr (slot_ne (t := (.array .double)) (t' := (.array .double)) (Or.inl (hw _ (List.mem_of_getElem? (i := 17) rfl))) (Or.inl (hw _ (List.mem_of_getElem? (i := 24) rfl))) (by decide) (by decide) (by decide)))
  have c_blocks_h11 : Fld Z h11 a "com/example/mantleray/mantleray/QuadraticModel" "blocks" "[D" (.ref a6) := Fld.other W11 c_blocks_h10 (Or.inr (slot_ne (t := (.array .double)) (t' := (.array .double)) (Or.inl (hw _ (List.mem_of_getElem? (i := 20) rfl))) (Or.inl (hw _ (List.mem_of_getElem? (i := 24) rfl))) (by decide) (by decide) (by decide)))
  have c_coupling_h11 : Fld Z h11 a "com/example/mantleray/mantleray/QuadraticModel" "coupling" "[D" (.ref a8) := Fld.other W11 c_coupling_h10 (Or.inr (slot_ne (t := (.array .double)) (t' := (.array .double)) (Or.inl (hw _ (List.mem_of_getElem? (i := 22) rfl))) (Or.inl (hw _ (List.mem_of_getElem? (i := 24) rfl))) (by decide) (by decide) (by decide)))
  have c_best_h11 : Fld Z h11 a "com/example/mantleray/mantleray/QuadraticModel" "best" "[D" (.ref o_best) := Fld.other W11 c_best_h10 (Or.inr (slot_ne (t := (.array .double)) (t' := (.array .double)) (Or.inl (hw _ (List.mem_of_getElem? (i := 26) rfl))) (Or.inl (hw _ (List.mem_of_getElem? (i := 24) rfl))) (by decide) (by decide) (by decide)))
  have c_candidate_h11 : Fld Z h11 a "com/example/mantleray/mantleray/QuadraticModel" "candidate" "[D" (.ref o_candidate) := Fld.other W11 c_candidate_h10 (Or.inr (slot_ne (t := (.array .double)) (t' := (.array .double)) (Or.inl (hw _ (List.mem_of_getElem? (i := 28) rfl))) (Or.inl (hw _ (List.mem_of_getElem? (i := 24) rfl))) (by decide) (by decide) (by decide)))
  have c_solution_h11 : Fld Z h11 a "com/example/mantleray/mantleray/QuadraticModel" "solution" "[D" (.ref o_solution) := Fld.other W11 c_solution_h10 (Or.inr (slot_ne (t := (.array .double)) (t' := (.array .double)) (Or.inl (hw _ (List.mem_of_getElem? (i := 30) rfl))) (Or.inl (hw _ (List.mem_of_getElem? (i := 24) rfl))) (by decide) (by decide) (by decide)))
  have c_ar_gradient_h11 : own_Da Z h11 a4 6 (fun _ => 0) := own_Av.other W11 c_ar_gradient_h10 (Ne.symm ne_a_a4)
  have c_ar_blocks_h11 : own_Da Z h11 a6 12 (fun _ => 0) := own_Av.other W11 c_ar_blocks_h10 (Ne.symm ne_a_a6)
  have c_ar_coupling_h11 : own_Da Z h11 a8 12 (fun _ => 0) := own_Av.other W11 c_ar_coupling_h10 (Ne.symm ne_a_a8)
  show own_Win p e below s _ _ _ (T11.setTop (mkF m 59 #[.val (.ref a), .val (.int (3 : Int32))] []))
  refine own_st (fun _ kz => XS.aloadN X11.here hx rfl (hb hby dr_59) rfl rfl kz) ?_
  show own_Win p e below s _ _ _ (T11.setTop (mkF m 60 #[.val (.ref a), .val (.int (3 : Int32))] [(.ref a)]))
  refine own_st (fun _ kz => XS.iconst X11.here hx rfl (hb hby dr_60) kz) ?_
  show own_Win p e below s _ _ _ (T11.setTop (mkF m 61 #[.val (.ref a), .val (.int (3 : Int32))] [(.int (2 : Int32)), (.ref a)]))
  refine own_st (fun _ kz => XS.iloadN X11.here hx rfl (hb hby dr_61) rfl kz) ?_
  show own_Win p e below s _ _ _ (T11.setTop (mkF m 62 #[.val (.ref a), .val (.int (3 : Int32))] [(.int (3 : Int32)), (.int (2 : Int32)), (.ref a)]))
  refine own_st (fun _ kz => XS.imul X11.here hx rfl (hb hby dr_62) rfl kz) ?_
  show own_Win p e below s _ _ _ (T11.setTop (mkF m 63 #[.val (.ref a), .val (.int (3 : Int32))] [(.int ((2 : Int32) * (3 : Int32))), (.ref a)]))
  refine own_newD X11 hx hZ (hw _ (List.mem_of_getElem? (i := 18) rfl)) e11 (n := 6) (cap := 6) rfl (Nat.le_refl _) (by decide) (by decide) (by decide) rfl rfl (hb hby dr_63) ?_
  intro T12 h12 a12 X12 e12 g12 E12 F12 Ex12
  show own_Win p e below s _ _ _ (T12.setTop (mkF m 65 #[.val (.ref a), .val (.int (3 : Int32))] [(.ref a12), (.ref a)]))
  have ne_a_a12 : a ≠ a12 := by rw [g12]; exact Nat.ne_of_lt (Exa.lt c_E_h11)
  have ne_a4_a12 : a4 ≠ a12 := by rw [g12]; exact Nat.ne_of_lt (own_Av.lt c_ar_gradient_h11)
  have ne_a6_a12 : a6 ≠ a12 := by rw [g12]; exact Nat.ne_of_lt (own_Av.lt c_ar_blocks_h11)
  have ne_a8_a12 : a8 ≠ a12 := by rw [g12]; exact Nat.ne_of_lt (own_Av.lt c_ar_coupling_h11)
  have Z12 : n0 ≤ h12.size := Nat.le_trans Z11 E12.1
  have q_a12 : n0 ≤ a12 := by rw [g12]; exact Z11
  have c_E_h12 : Exa Z h12 a "com/example/mantleray/mantleray/QuadraticModel" := Exa.ext E12 c_E_h11
  have c_points_h12 : Fld Z h12 a "com/example/mantleray/mantleray/QuadraticModel" "points" "I" (.int (3 : Int32)) := Fld.ext E12 c_points_h11
  have c_gradient_h12 : Fld Z h12 a "com/example/mantleray/mantleray/QuadraticModel" "gradient" "[D" (.ref a4) := Fld.ext E12 c_gradient_h11
  have c_blocks_h12 : Fld Z h12 a "com/example/mantleray/mantleray/QuadraticModel" "blocks" "[D" (.ref a6) := Fld.ext E12 c_blocks_h11
  have c_coupling_h12 : Fld Z h12 a "com/example/mantleray/mantleray/QuadraticModel" "coupling" "[D" (.ref a8) := Fld.ext E12 c_coupling_h11
  have c_inverses_h12 : Fld Z h12 a "com/example/mantleray/mantleray/QuadraticModel" "inverses" "[D" (.ref a10) := Fld.ext E12 c_inverses_h11
  have c_best_h12 : Fld Z h12 a "com/example/mantleray/mantleray/QuadraticModel" "best" "[D" (.ref o_best) := Fld.ext E12 c_best_h11
  have c_candidate_h12 : Fld Z h12 a "com/example/mantleray/mantleray/QuadraticModel" "candidate" "[D" (.ref o_candidate) := Fld.ext E12 c_candidate_h11
  have c_solution_h12 : Fld Z h12 a "com/example/mantleray/mantleray/QuadraticModel" "solution" "[D" (.ref o_solution) := Fld.ext E12 c_solution_h11
  have c_ar_gradient_h12 : own_Da Z h12 a4 6 (fun _ => 0) := own_Av.ext E12 c_ar_gradient_h11
  have c_ar_blocks_h12 : own_Da Z h12 a6 12 (fun _ => 0) := own_Av.ext E12 c_ar_blocks_h11
  have c_ar_coupling_h12 : own_Da Z h12 a8 12 (fun _ => 0) := own_Av.ext E12 c_ar_coupling_h11
  obtain ⟨T13, h13, X13, e13, W13, st13⟩ := putF X12 hx hZ hown (host := "") (Or.inl (hw _ (List.mem_of_getElem? (i := 25) rfl))) Via.refl e12 c_best_h12 c_E_h12 (Or.inl (hw _ (List.mem_of_getElem? (i := 26) rfl))) (hw _ (List.mem_of_getElem? (i := 1) rfl)) (ty := (.array .double)) (by decide) rfl rfl (g := (mkF m 65 #[.val (.ref a), .val (.int (3 : Int32))] [(.ref a12), (.ref a)])) rfl rfl (hb hby dr_65)
  refine own_st st13 ?_
  have N13 := Fr.snoc X13 N11 q_a
  have Z13 : n0 ≤ h13.size := by rw [Wr.size W13]; exact Z12
  have c_best_h13 : Fld Z h13 a "com/example/mantleray/mantleray/QuadraticModel" "best" "[D" (.ref a12) := Fld.same W13 c_best_h12
  have c_E_h13 : Exa Z h13 a "com/example/mantleray/mantleray/QuadraticModel" := Exa.wr W13 c_E_h12
  have c_points_h13 : Fld Z h13 a "com/example/mantleray/mantleray/QuadraticModel" "points" "I" (.int (3 : Int32)) := Fld.other W13 c_points_h12 (Or.inr (slot_ne (t := .int) (t' := (.array .double)) (Or.inl (hw _ (List.mem_of_getElem? (i := 15) rfl))) (Or.inl (hw _ (List.mem_of_getElem? (i := 26) rfl))) (by decide) (by decide) (by decide)))
  have c_gradient_h13 : Fld Z h13 a "com/example/mantleray/mantleray/QuadraticModel" "gradient" "[D" (.ref a4) := Fld.other W13 c_gradient_h12 (Or.inr (slot_ne (t := (.array .double)) (t' := (.array .double)) (Or.inl (hw _ (List.mem_of_getElem? (i := 17) rfl))) (Or.inl (hw _ (List.mem_of_getElem? (i := 26) rfl))) (by decide) (by decide) (by decide)))
  have c_blocks_h13 : Fld Z h13 a "com/example/mantleray/mantleray/QuadraticModel" "blocks" "[D" (.ref a6) := Fld.other W13 c_blocks_h12 (Or.inr (slot_ne (t := (.array .double)) (t' := (.array .double)) (Or.inl (hw _ (List.mem_of_getElem? (i := 20) rfl))) (Or.inl (hw _ (List.mem_of_getElem? (i := 26) rfl))) (by decide) (by decide) (by decide)))
  have c_coupling_h13 : Fld Z h13 a "com/example/mantleray/mantleray/QuadraticModel" "coupling" "[D" (.ref a8) := Fld.other W13 c_coupling_h12 (Or.inr (slot_ne (t := (.array .double)) (t' := (.array .double)) (Or.inl (hw _ (List.mem_of_getElem? (i := 22) rfl))) (Or.inl (hw _ (List.mem_of_getElem? (i := 26) rfl))) (by decide) (by decide) (by decide)))
  have c_inverses_h13 : Fld Z h13 a "com/example/mantleray/mantleray/QuadraticModel" "inverses" "[D" (.ref a10) := Fld.other W13 c_inverses_h12 (Or.inr (slot_ne (t := (.array .double)) (t' := (.array .double)) (Or.inl (hw _ (List.mem_of_getElem? (i := 24) rfl))) (Or.inl (hw _ (List.mem_of_getElem? (i := 26) rfl))) (by decide) (by decide) (by decide)))
  have c_candidate_h13 : Fld Z h13 a "com/example/mantleray/mantleray/QuadraticModel" "candidate" "[D" (.ref o_candidate) := Fld.other W13 c_candidate_h12 (Or.inr (slot_ne (t := (.array .double)) (t' := (.array .double)) (Or.inl (hw _ (List.mem_of_getElem? (i := 28) rfl))) (Or.inl (hw _ (List.mem_of_getElem? (i := 26) rfl))) (by decide) (by decide) (by decide)))
  have c_solution_h13 : Fld Z h13 a "com/example/mantleray/mantleray/QuadraticModel" "solution" "[D" (.ref o_solution) := Fld.other W13 c_solution_h12 (Or.inr (slot_ne (t := (.array .double)) (t' := (.array .double)) (Or.inl (hw _ (List.mem_of_getElem? (i := 30) rfl))) (Or.inl (hw _ (List.mem_of_getElem? (i := 26) rfl))) (by decide) (by decide) (by decide)))
  have c_ar_gradient_h13 : own_Da Z h13 a4 6 (fun _ => 0) := own_Av.other W13 c_ar_gradient_h12 (Ne.symm ne_a_a4)
  have c_ar_blocks_h13 : own_Da Z h13 a6 12 (fun _ => 0) := own_Av.other W13 c_ar_blocks_h12 (Ne.symm ne_a_a6)
  have c_ar_coupling_h13 : own_Da Z h13 a8 12 (fun _ => 0) := own_Av.other W13 c_ar_coupling_h12 (Ne.symm ne_a_a8)
  show own_Win p e below s _ _ _ (T13.setTop (mkF m 68 #[.val (.ref a), .val (.int (3 : Int32))] []))
  refine own_st (fun _ kz => XS.aloadN X13.here hx rfl (hb hby dr_68) rfl rfl kz) ?_
  show own_Win p e below s _ _ _ (T13.setTop (mkF m 69 #[.val (.ref a), .val (.int (3 : Int32))] [(.ref a)]))
  refine own_st (fun _ kz => XS.iconst X13.here hx rfl (hb hby dr_69) kz) ?_
  show own_Win p e below s _ _ _ (T13.setTop (mkF m 70 #[.val (.ref a), .val (.int (3 : Int32))] [(.int (2 : Int32)), (.ref a)]))
  refine own_st (fun _ kz => XS.iloadN X13.here hx rfl (hb hby dr_70) rfl kz) ?_
  show own_Win p e below s _ _ _ (T13.setTop (mkF m 71 #[.val (.ref a), .val (.int (3 : Int32))] [(.int (3 : Int32)), (.int (2 : Int32)), (.ref a)]))
  refine own_st (fun _ kz => XS.imul X13.here hx rfl (hb hby dr_71) rfl kz) ?_
  show own_Win p e below s _ _ _ (T13.setTop (mkF m 72 #[.val (.ref a), .val (.int (3 : Int32))] [(.int ((2 : Int32) * (3 : Int32))), (.ref a)]))
  refine own_newD X13 hx hZ (hw _ (List.mem_of_getElem? (i := 18) rfl)) e13 (n := 6) (cap := 6) rfl (Nat.le_refl _) (by decide) (by decide) (by decide) rfl rfl (hb hby dr_72) ?_
  intro T14 h14 a14 X14 e14 g14 E14 F14 Ex14
  show own_Win p e below s _ _ _ (T14.setTop (mkF m 74 #[.val (.ref a), .val (.int (3 : Int32))] [(.ref a14), (.ref a)]))
  have ne_a_a14 : a ≠ a14 := by rw [g14]; exact Nat.ne_of_lt (Exa.lt c_E_h13)
  have ne_a4_a14 : a4 ≠ a14 := by rw [g14]; exact Nat.ne_of_lt (own_Av.lt c_ar_gradient_h13)
  have ne_a6_a14 : a6 ≠ a14 := by rw [g14]; exact Nat.ne_of_lt (own_Av.lt c_ar_blocks_h13)
  have ne_a8_a14 : a8 ≠ a14 := by rw [g14]; exact Nat.ne_of_lt (own_Av.lt c_ar_coupling_h13)
  have Z14 : n0 ≤ h14.size := Nat.le_trans Z13 E14.1
  have q_a14 : n0 ≤ a14 := by rw [g14]; exact Z13
  have c_E_h14 : Exa Z h14 a "com/example/mantleray/mantleray/QuadraticModel" := Exa.ext E14 c_E_h13
  have c_points_h14 : Fld Z h14 a "com/example/mantleray/mantleray/QuadraticModel" "points" "I" (.int (3 : Int32)) := Fld.ext E14 c_points_h13
  have c_gradient_h14 : Fld Z h14 a "com/example/mantleray/mantleray/QuadraticModel" "gradient" "[D" (.ref a4) := Fld.ext E14 c_gradient_h13
  have c_blocks_h14 : Fld Z h14 a "com/example/mantleray/mantleray/QuadraticModel" "blocks" "[D" (.ref a6) := Fld.ext E14 c_blocks_h13
  have c_coupling_h14 : Fld Z h14 a "com/example/mantleray/mantleray/QuadraticModel" "coupling" "[D" (.ref a8) := Fld.ext E14 c_coupling_h13
  have c_inverses_h14 : Fld Z h14 a "com/example/mantleray/mantleray/QuadraticModel" "inverses" "[D" (.ref a10) := Fld.ext E14 c_inverses_h13
  have c_best_h14 : Fld Z h14 a "com/example/mantleray/mantleray/QuadraticModel" "best" "[D" (.ref a12) := Fld.ext E14 c_best_h13
  have c_candidate_h14 : Fld Z h14 a "com/example/mantleray/mantleray/QuadraticModel" "candidate" "[D" (.ref o_candidate) := Fld.ext E14 c_candidate_h13
  have c_solution_h14 : Fld Z h14 a "com/example/mantleray/mantleray/QuadraticModel" "solution" "[D" (.ref o_solution) := Fld.ext E14 c_solution_h13
  have c_ar_gradient_h14 : own_Da Z h14 a4 6 (fun _ => 0) := own_Av.ext E14 c_ar_gradient_h13
  have c_ar_blocks_h14 : own_Da Z h14 a6 12 (fun _ => 0) := own_Av.ext E14 c_ar_blocks_h13
  have c_ar_coupling_h14 : own_Da Z h14 a8 12 (fun _ => 0) := own_Av.ext E14 c_ar_coupling_h13
  obtain ⟨T15, h15, X15, e15, W15, st15⟩ := putF X14 hx hZ hown (host := "") (Or.inl (hw _ (List.mem_of_getElem? (i := 27) rfl))) Via.refl e14 c_candidate_h14 c_E_h14 (Or.inl (hw _ (List.mem_of_getElem? (i := 28) rfl))) (hw _ (List.mem_of_getElem? (i := 1) rfl)) (ty := (.array .double)) (by decide) rfl rfl (g := (mkF m 74 #[.val (.ref a), .val (.int (3 : Int32))] [(.ref a14), (.ref a)])) rfl rfl (hb hby dr_74)
  refine own_st st15 ?_
  have N15 := Fr.snoc X15 N13 q_a
  have Z15 : n0 ≤ h15.size := by rw [Wr.size W15]; exact Z14
  have c_candidate_h15 : Fld Z h15 a "com/example/mantleray/mantleray/QuadraticModel" "candidate" "[D" (.ref a14) := Fld.same W15 c_candidate_h14
  have c_E_h15 : Exa Z h15 a "com/example/mantleray/mantleray/QuadraticModel" := Exa.wr W15 c_E_h14
  have c_points_h15 : Fld Z h15 a "com/example/mantleray/mantleray/QuadraticModel" "points" "I" (.int (3 : Int32)) := Fld.other W15 c_points_h14 (Or.inr (slot_ne (t := .int) (t' := (.array .double)) (Or.inl (hw _ (List.mem_of_getElem? (i := 15) rfl))) (Or.inl (hw _ (List.mem_of_getElem? (i := 28) rfl))) (by decide) (by decide) (by decide)))
  have c_gradient_h15 : Fld Z h15 a "com/example/mantleray/mantleray/QuadraticModel" "gradient" "[D" (.ref a4) := Fld.other W15 c_gradient_h14 (Or.inr (slot_ne (t := (.array .double)) (t' := (.array .double)) (Or.inl (hw _ (List.mem_of_getElem? (i := 17) rfl))) (Or.inl (hw _ (List.mem_of_getElem? (i := 28) rfl))) (by decide) (by decide) (by decide)))
  have c_blocks_h15 : Fld Z h15 a "com/example/mantleray/mantleray/QuadraticModel" "blocks" "[D" (.ref a6) := Fld.other W15 c_blocks_h14 (Or.inr (slot_ne (t := (.array .double)) (t' := (.array .double)) (Or.inl (hw _ (List.mem_of_getElem? (i := 20) rfl))) (Or.inl (hw _ (List.mem_of_getElem? (i := 28) rfl))) (by decide) (by decide) (by decide)))
  have c_coupling_h15 : Fld Z h15 a "com/example/mantleray/mantleray/QuadraticModel" "coupling" "[D" (.ref a8) := Fld.other W15 c_coupling_h14 (Or.inr (slot_ne (t := (.array .double)) (t' := (.array .double)) (Or.inl (hw _ (List.mem_of_getElem? (i := 22) rfl))) (Or.inl (hw _ (List.mem_of_getElem? (i := 28) rfl))) (by decide) (by decide) (by decide)))
  have c_inverses_h15 : Fld Z h15 a "com/example/mantleray/mantleray/QuadraticModel" "inverses" "[D" (.ref a10) := Fld.other W15 c_inverses_h14 (Or.inr (slot_ne (t := (.array .double)) (t' := (.array .double)) (Or.inl (hw _ (List.mem_of_getElem? (i := 24) rfl))) (Or.inl (hw _ (List.mem_of_getElem? (i := 28) rfl))) (by decide) (by decide) (by decide)))
  have c_best_h15 : Fld Z h15 a "com/example/mantleray/mantleray/QuadraticModel" "best" "[D" (.ref a12) := Fld.other W15 c_best_h14 (Or.inr (slot_ne (t := (.array .double)) (t' := (.array .double)) (Or.inl (hw _ (List.mem_of_getElem? (i := 26) rfl))) (Or.inl (hw _ (List.mem_of_getElem? (i := 28) rfl))) (by decide) (by decide) (by decide)))
  have c_solution_h15 : Fld Z h15 a "com/example/mantleray/mantleray/QuadraticModel" "solution" "[D" (.ref o_solution) := Fld.other W15 c_solution_h14 (Or.inr (slot_ne (t := (.array .double)) (t' := (.array .double)) (Or.inl (hw _ (List.mem_of_getElem? (i := 30) rfl))) (Or.inl (hw _ (List.mem_of_getElem? (i := 28) rfl))) (by decide) (by decide) (by decide)))
  have c_ar_gradient_h15 : own_Da Z h15 a4 6 (fun _ => 0) := own_Av.other W15 c_ar_gradient_h14 (Ne.symm ne_a_a4)
  have c_ar_blocks_h15 : own_Da Z h15 a6 12 (fun _ => 0) := own_Av.other W15 c_ar_blocks_h14 (Ne.symm ne_a_a6)
  have c_ar_coupling_h15 : own_Da Z h15 a8 12 (fun _ => 0) := own_Av.other W15 c_ar_coupling_h14 (Ne.symm ne_a_a8)
  show own_Win p e below s _ _ _ (T15.setTop (mkF m 77 #[.val (.ref a), .val (.int (3 : Int32))] []))
  refine own_st (fun _ kz => XS.aloadN X15.here hx rfl (hb hby dr_77) rfl rfl kz) ?_
  show own_Win p e below s _ _ _ (T15.setTop (mkF m 78 #[.val (.ref a), .val (.int (3 : Int32))] [(.ref a)]))
  refine own_st (fun _ kz => XS.iconst X15.here hx rfl (hb hby dr_78) kz) ?_
  show own_Win p e below s _ _ _ (T15.setTop (mkF m 79 #[.val (.ref a), .val (.int (3 : Int32))] [(.int (2 : Int32)), (.ref a)]))
  refine own_st (fun _ kz => XS.iloadN X15.here hx rfl (hb hby dr_79) rfl kz) ?_
  show own_Win p e below s _ _ _ (T15.setTop (mkF m 80 #[.val (.ref a), .val (.int (3 : Int32))] [(.int (3 : Int32)), (.int (2 : Int32)), (.ref a)]))
  refine own_st (fun _ kz => XS.imul X15.here hx rfl (hb hby dr_80) rfl kz) ?_
  show own_Win p e below s _ _ _ (T15.setTop (mkF m 81 #[.val (.ref a), .val (.int (3 : Int32))] [(.int ((2 : Int32) * (3 : Int32))), (.ref a)]))
  refine own_newD X15 hx hZ (hw _ (List.mem_of_getElem? (i := 18) rfl)) e15 (n := 6) (cap := 6) rfl (Nat.le_refl _) (by decide) (by decide) (by decide) rfl rfl (hb hby dr_81) ?_
  intro T16 h16 a16 X16 e16 g16 E16 F16 Ex16
  show own_Win p e below s _ _ _ (T16.setTop (mkF m 83 #[.val (.ref a), .val (.int (3 : Int32))] [(.ref a16), (.ref a)]))
  have ne_a_a16 : a ≠ a16 := by rw [g16]; exact Nat.ne_of_lt (Exa.lt c_E_h15)
  have ne_a4_a16 : a4 ≠ a16 := by rw [g16]; exact Nat.ne_of_lt (own_Av.lt c_ar_gradient_h15)
  have ne_a6_a16 : a6 ≠ a16 := by rw [g16]; exact Nat.ne_of_lt (own_Av.lt c_ar_blocks_h15)
  have ne_a8_a16 : a8 ≠ a16 := by rw [g16]; exact Nat.ne_of_lt (own_Av.lt c_ar_coupling_h15)
  have Z16 : n0 ≤ h16.size := Nat.le_trans Z15 E16.1
  have q_a16 : n0 ≤ a16 := by rw [g16]; exact Z15
  have c_E_h16 : Exa Z h16 a "com/example/mantleray/mantleray/QuadraticModel" := Exa.ext E16 c_E_h15
  have c_points_h16 : Fld Z h16 a "com/example/mantleray/mantleray/QuadraticModel" "points" "I" (.int (3 : Int32)) := Fld.ext E16 c_points_h15
  have c_gradient_h16 : Fld Z h16 a "com/example/mantleray/mantleray/QuadraticModel" "gradient" "[D" (.ref a4) := Fld.ext E16 c_gradient_h15
  have c_blocks_h16 : Fld Z h16 a "com/example/mantleray/mantleray/QuadraticModel" "blocks" "[D" (.ref a6) := Fld.ext E16 c_blocks_h15
  have c_coupling_h16 : Fld Z h16 a "com/example/mantleray/mantleray/QuadraticModel" "coupling" "[D" (.ref a8) := Fld.ext E16 c_coupling_h15
  have c_inverses_h16 : Fld Z h16 a "com/example/mantleray/mantleray/QuadraticModel" "inverses" "[D" (.ref a10) := Fld.ext E16 c_inverses_h15
  have c_best_h16 : Fld Z h16 a "com/example/mantleray/mantleray/QuadraticModel" "best" "[D" (.ref a12) := Fld.ext E16 c_best_h15
  have c_candidate_h16 : Fld Z h16 a "com/example/mantleray/mantleray/QuadraticModel" "candidate" "[D" (.ref a14) := Fld.ext E16 c_candidate_h15
  have c_solution_h16 : Fld Z h16 a "com/example/mantleray/mantleray/QuadraticModel" "solution" "[D" (.ref o_solution) := Fld.ext E16 c_solution_h15
  have c_ar_gradient_h16 : own_Da Z h16 a4 6 (fun _ => 0) := own_Av.ext E16 c_ar_gradient_h15
  have c_ar_blocks_h16 : own_Da Z h16 a6 12 (fun _ => 0) := own_Av.ext E16 c_ar_blocks_h15
  have c_ar_coupling_h16 : own_Da Z h16 a8 12 (fun _ => 0) := own_Av.ext E16 c_ar_coupling_h15
  obtain ⟨T17, h17, X17, e17, W17, st17⟩ := putF X16 hx hZ hown (host := "") (Or.inl (hw _ (List.mem_of_getElem? (i := 29) rfl))) Via.refl e16 c_solution_h16 c_E_h16 (Or.inl (hw _ (List.mem_of_getElem? (i := 30) rfl))) (hw _ (List.mem_of_getElem? (i := 1) rfl)) (ty := (.array .double)) (by decide) rfl rfl (g := (mkF m 83 #[.val (.ref a), .val (.int (3 : Int32))] [(.ref a16), (.ref a)])) rfl rfl (hb hby dr_83)
  refine own_st st17 ?_
  have N17 := Fr.snoc X17 N15 q_a
  have Z17 : n0 ≤ h17.size := by rw [Wr.size W17]; exact Z16
  have c_solution_h17 : Fld Z h17 a "com/example/mantleray/mantleray/QuadraticModel" "solution" "[D" (.ref a16) := Fld.same W17 c_solution_h16
  have c_E_h17 : Exa Z h17 a "com/example/mantleray/mantleray/QuadraticModel" := Exa.wr W17 c_E_h16
  have c_points_h17 : Fld Z h17 a "com/example/mantleray/mantleray/QuadraticModel" "points" "I" (.int (3 : Int32)) := Fld.other W17 c_points_h16 (Or.inr (slot_ne (t := .int) (t' := (.array .double)) (Or.inl (hw _ (List.mem_of_getElem? (i := 15) rfl))) (Or.inl (hw _ (List.mem_of_getElem? (i := 30) rfl))) (by decide) (by decide) (by decide)))
  have c_gradient_h17 : Fld Z h17 a "com/example/mantleray/mantleray/QuadraticModel" "gradient" "[D" (.ref a4) := Fld.other W17 c_gradient_h16 (Or.inr (slot_ne (t := (.array .double)) (t' := (.array .double)) (Or.inl (hw _ (List.mem_of_getElem? (i := 17) rfl))) (Or.inl (hw _ (List.mem_of_getElem? (i := 30) rfl))) (by decide) (by decide) (by decide)))
  have c_blocks_h17 : Fld Z h17 a "com/example/mantleray/mantleray/QuadraticModel" "blocks" "[D" (.ref a6) := Fld.other W17 c_blocks_h16 (Or.inr (slot_ne (t := (.array .double)) (t' := (.array .double)) (Or.inl (hw _ (List.mem_of_getElem? (i := 20) rfl))) (Or.inl (hw _ (List.mem_of_getElem? (i := 30) rfl))) (by decide) (by decide) (by decide)))
  have c_coupling_h17 : Fld Z h17 a "com/example/mantleray/mantleray/QuadraticModel" "coupling" "[D" (.ref a8) := Fld.other W17 c_coupling_h16 (Or.inr (slot_ne (t := (.array .double)) (t' := (.array .double)) (Or.inl (hw _ (List.mem_of_getElem? (i := 22) rfl))) (Or.inl (hw _ (List.mem_of_getElem? (i := 30) rfl))) (by decide) (by decide) (by decide)))
  have c_inverses_h17 : Fld Z h17 a "com/example/mantleray/mantleray/QuadraticModel" "inverses" "[D" (.ref a10) := Fld.other W17 c_inverses_h16 (Or.inr (slot_ne (t := (.array .double)) (t' := (.array .double)) (Or.inl (hw _ (List.mem_of_getElem? (i := 24) rfl))) (Or.inl (hw _ (List.mem_of_getElem? (i := 30) rfl))) (by decide) (by decide) (by decide)))
  have c_best_h17 : Fld Z h17 a "com/example/mantleray/mantleray/QuadraticModel" "best" "[D" (.ref a12) := Fld.other W17 c_best_h16 (Or.inr (slot_ne (t := (.array .double)) (t' := (.array .double)) (Or.inl (hw _ (List.mem_of_getElem? (i := 26) rfl))) (Or.inl (hw _ (List.mem_of_getElem? (i := 30) rfl))) (by decide) (by decide) (by decide)))
  have c_candidate_h17 : Fld Z h17 a "com/example/mantleray/mantleray/QuadraticModel" "candidate" "[D" (.ref a14) := Fld.other W17 c_candidate_h16 (Or.inr (slot_ne (t := (.array .double)) (t' := (.array .double)) (Or.inl (hw _ (List.mem_of_getElem? (i := 28) rfl))) (Or.inl (hw _ (List.mem_of_getElem? (i := 30) rfl))) (by decide) (by decide) (by decide)))
  have c_ar_gradient_h17 : own_Da Z h17 a4 6 (fun _ => 0) := own_Av.other W17 c_ar_gradient_h16 (Ne.symm ne_a_a4)
  have c_ar_blocks_h17 : own_Da Z h17 a6 12 (fun _ => 0) := own_Av.other W17 c_ar_blocks_h16 (Ne.symm ne_a_a6)
  have c_ar_coupling_h17 : own_Da Z h17 a8 12 (fun _ => 0) := own_Av.other W17 c_ar_coupling_h16 (Ne.symm ne_a_a8)
  show own_Win p e below s _ _ _ (T17.setTop (mkF m 86 #[.val (.ref a), .val (.int (3 : Int32))] []))
  have K : Keep h0 h17 [a] := ((((((((((((((((Keep.refl h0 [a]).wr W1 (Or.inl (List.mem_of_getElem? (i := 0) rfl))).ext E4).wr W5 (Or.inl (List.mem_of_getElem? (i := 0) rfl))).ext E6).wr W7 (Or.inl (List.mem_of_getElem? (i := 0) rfl))).ext E8).wr W9 (Or.inl (List.mem_of_getElem? (i := 0) rfl))).ext E10).wr W11 (Or.inl (List.mem_of_getElem? (i := 0) rfl))).ext E12).wr W13 (Or.inl (List.mem_of_getElem? (i := 0) rfl))).ext E14).wr W15 (Or.inl (List.mem_of_getElem? (i := 0) rfl))).ext E16).wr W17 (Or.inl (List.mem_of_getElem? (i := 0) rfl)))
  refine own_retV X17 hx hlk Bd.returns (hb hby dr_86) ?_ (Nat.le_refl _) (Nat.le_refl _)
  rw [e17]
  exact ⟨rfl, N17, K, c_E_h17, a4, a6, a8, a10, a12, a14, a16, c_points_h17, c_gradient_h17, c_blocks_h17, c_coupling_h17, c_inverses_h17, c_best_h17, c_candidate_h17, c_solution_h17, c_ar_gradient_h17, c_ar_blocks_h17, c_ar_coupling_h17, q_a4, q_a6, q_a8, ne_a4_a6, ne_a4_a8, ne_a6_a8, ne_a_a4, ne_a_a6, ne_a_a8⟩
def Q_rmRN (Z : State) (a rg rb rc : Addr) (pv : Int32) (N : Nat) (fG : Nat → UInt64) (h0 : Heap) (n0 : Nat) : Option Value → Heap → List Loc → Prop := fun v h L => v = none ∧ Fr n0 L ∧ Keep h0 h [a] ∧ Fld Z h a "com/example/mantleray/mantleray/QuadraticModel" "points" "I" (.int pv) ∧ Fld Z h a "com/example/mantleray/mantleray/QuadraticModel" "gradient" "[D" (.ref rg) ∧ Fld Z h a "com/example/mantleray/mantleray/QuadraticModel" "blocks" "[D" (.ref rb) ∧ Fld Z h a "com/example/mantleray/mantleray/QuadraticModel" "coupling" "[D" (.ref rc)
set_option maxRecDepth 65536 in
set_option maxHeartbeats 40000000 in
theorem rmRN (l : Launch) (Z : State) (a0 : Array Value) (hw : ∀ d ∈ tables_1, d.before a0 Z = true) (ws : List Jvm.Cond) (a rg rb rc : Addr) (pv : Int32) (N : Nat) (fG : Nat → UInt64) (h0 : Heap) (n0 : Nat) (Z0 : n0 ≤ h0.size) (EA : Exa Z h0 a "com/example/mantleray/mantleray/QuadraticModel") (q_a : n0 ≤ a) (hN : pv.toInt = (N : Int)) (N3 : N ≤ 3) (f_points : Fld Z h0 a "com/example/mantleray/mantleray/QuadraticModel" "points" "I" (.int (3 : Int32))) (f_gradient : Fld Z h0 a "com/example/mantleray/mantleray/QuadraticModel" "gradient" "[D" (.ref rg)) (f_blocks : Fld Z h0 a "com/example/mantleray/mantleray/QuadraticModel" "blocks" "[D" (.ref rb)) (f_coupling : Fld Z h0 a "com/example/mantleray/mantleray/QuadraticModel" "coupling" "[D" (.ref rc)) (F_g : own_Da Z h0 rg 6 fG) :
    MetFree l yR (head1 (Jvm.Cond.code yR prog_42_method_2_code 2 none :: ws) ({ frames := 0, cells := 0, slots := 0, locals := 0 } : Room)) (fun az Uz => az = #[(.ref a), (.int pv)] ∧ Z.Warmed39 Uz.vm ∧ Uz.heap = h0) (fun _ _ _ _ _ => True) (fun _ Uz oz Vz => ∃ vz Lz, oz = .returned vz ∧ (Q_rmRN Z a rg rb rc pv N fG h0 n0) vz Vz.heap Lz ∧ FrameEnd Uz oz Vz Lz ({ frames := 0, cells := 0, slots := 0, locals := 0 } : Room).cells ({ frames := 0, cells := 0, slots := 0, locals := 0 } : Room).slots) := by
  refine MetFree.of_bodySF (plainFor_of_name pnQ) hisR ?_
  intro p e s m args below meth c s₁ Bd hml0 hP hK
  obtain ⟨rfl, hZ, hh⟩ := hP
  have hx := Bd.exec
  have hby := Bd.bytes
  have hlk := BodyLoose.notSynchronized Bd
  have hml : c.maxLocals = 2 := hml0
  have hown : s.vm.findClass "com/example/mantleray/mantleray/QuadraticModel" = some m.cls := findClass_of_methodNamed Bd.named
  have hnm := (name_of_methodNamed Bd.named Bd.method).1
  have X0 : Stand p l e ({ frames := 0, cells := 0, slots := 0, locals := 0 } : Room) s m #[(.ref a), (.int pv)] below meth c s₁ [] 0 0 := Stand.of_body Bd
  have e0 : s₁.heap = h0 := by rw [← hh, Bd.state]; rfl
  have N0 := Fr.nil n0
  show own_Win p e below s (Q_rmRN Z a rg rb rc pv N fG h0 n0) _ _ _
  refine own_st (fun tz kz => castTop (efR m a pv) kz) ?_
  have ne_o_a : rg ≠ a := fun q => ne_arr EA (hw _ (List.mem_of_getElem? (i := 1) rfl)) (F_g.2.choose_spec.1) q.symm
  show own_Win p e below s _ _ _ (s₁.setTop (mkF m 0 #[.val (.ref a), .val (.int pv)] []))
  refine own_st (fun _ kz => XS.aloadN X0.here hx rfl (hb hby dr_0) rfl rfl kz) ?_
  show own_Win p e below s _ _ _ (s₁.setTop (mkF m 1 #[.val (.ref a), .val (.int pv)] [(.ref a)]))
  refine own_st (fun _ kz => XS.iloadN X0.here hx rfl (hb hby dr_1) rfl kz) ?_
  show own_Win p e below s _ _ _ (s₁.setTop (mkF m 2 #[.val (.ref a), .val (.int pv)] [(.int pv), (.ref a)]))
  obtain ⟨T1, h1, X1, e1, W1, st1⟩ := putF X0 hx hZ hown (host := "") (Or.inl (hw _ (List.mem_of_getElem? (i := 14) rfl))) Via.refl e0 f_points EA (Or.inl (hw _ (List.mem_of_getElem? (i := 15) rfl))) (hw _ (List.mem_of_getElem? (i := 1) rfl)) (ty := .int) (by decide) rfl rfl (g := (mkF m 2 #[.val (.ref a), .val (.int pv)] [(.int pv), (.ref a)])) rfl rfl (hb hby dr_2)
  refine own_st st1 ?_
  have N1 := Fr.snoc X1 N0 q_a
  have Z1 : n0 ≤ h1.size := by rw [Wr.size W1]; exact Z0
  have c_points_h1 : Fld Z h1 a "com/example/mantleray/mantleray/QuadraticModel" "points" "I" (.int pv) := Fld.same W1 f_points
  have c_E_h1 : Exa Z h1 a "com/example/mantleray/mantleray/QuadraticModel" := Exa.wr W1 EA
  have c_gradient_h1 : Fld Z h1 a "com/example/mantleray/mantleray/QuadraticModel" "gradient" "[D" (.ref rg) := Fld.other W1 f_gradient (Or.inr (slot_ne (t := (.array .double)) (t' := .int) (Or.inl (hw _ (List.mem_of_getElem? (i := 17) rfl))) (Or.inl (hw _ (List.mem_of_getElem? (i := 15) rfl))) (by decide) (by decide) (by decide)))
  have c_blocks_h1 : Fld Z h1 a "com/example/mantleray/mantleray/QuadraticModel" "blocks" "[D" (.ref rb) := Fld.other W1 f_blocks (Or.inr (slot_ne (t := (.array .double)) (t' := .int) (Or.inl (hw _ (List.mem_of_getElem? (i := 20) rfl))) (Or.inl (hw _ (List.mem_of_getElem? (i := 15) rfl))) (by decide) (by decide) (by decide)))
  have c_coupling_h1 : Fld Z h1 a "com/example/mantleray/mantleray/QuadraticModel" "coupling" "[D" (.ref rc) := Fld.other W1 f_coupling (Or.inr (slot_ne (t := (.array .double)) (t' := .int) (Or.inl (hw _ (List.mem_of_getElem? (i := 22) rfl))) (Or.inl (hw _ (List.mem_of_getElem? (i := 15) rfl))) (by decide) (by decide) (by decide)))
  have c_G_h1 : own_Da Z h1 rg 6 fG := own_Av.other W1 F_g ne_o_a
  show own_Win p e below s _ _ _ (T1.setTop (mkF m 5 #[.val (.ref a), .val (.int pv)] []))
  refine own_st (fun _ kz => XS.aloadN X1.here hx rfl (hb hby dr_5) rfl rfl kz) ?_
  show own_Win p e below s _ _ _ (T1.setTop (mkF m 6 #[.val (.ref a), .val (.int pv)] [(.ref a)]))
  obtain ⟨T2, X2, e2, st2⟩ := getF X1 hx hZ hown (host := "") (Or.inl (hw _ (List.mem_of_getElem? (i := 16) rfl))) Via.refl e1 c_gradient_h1 (g := (mkF m 6 #[.val (.ref a), .val (.int pv)] [(.ref a)])) rfl rfl (hb hby dr_6)
  refine own_st st2 ?_
  show own_Win p e below s _ _ _ (T2.setTop (mkF m 9 #[.val (.ref a), .val (.int pv)] [(.ref rg)]))
  refine own_st (fun _ kz => XS.ifnullNo X2.here hx rfl (hb hby dr_9) rfl kz) ?_
  show own_Win p e below s _ _ _ (T2.setTop (mkF m 12 #[.val (.ref a), .val (.int pv)] []))
  refine own_st (fun _ kz => XS.aloadN X2.here hx rfl (hb hby dr_12) rfl rfl kz) ?_
  show own_Win p e below s _ _ _ (T2.setTop (mkF m 13 #[.val (.ref a), .val (.int pv)] [(.ref a)]))
  obtain ⟨T3, X3, e3, st3⟩ := getF X2 hx hZ hown (host := "") (Or.inl (hw _ (List.mem_of_getElem? (i := 16) rfl))) Via.refl e2 c_gradient_h1 (g := (mkF m 13 #[.val (.ref a), .val (.int pv)] [(.ref a)])) rfl rfl (hb hby dr_13)
  refine own_st st3 ?_
  show own_Win p e below s _ _ _ (T3.setTop (mkF m 16 #[.val (.ref a), .val (.int pv)] [(.ref rg)]))
  refine own_alen X3 hx hZ e3 c_G_h1 (z := 6) rfl rfl rfl (hb hby dr_16) ?_
  show own_Win p e below s _ _ _ (T3.setTop (mkF m 17 #[.val (.ref a), .val (.int pv)] [(.int (6 : Int32))]))
  refine own_st (fun _ kz => XS.iconst X3.here hx rfl (hb hby dr_17) kz) ?_
  show own_Win p e below s _ _ _ (T3.setTop (mkF m 18 #[.val (.ref a), .val (.int pv)] [(.int (2 : Int32)), (.int (6 : Int32))]))
  refine own_st (fun _ kz => XS.iloadN X3.here hx rfl (hb hby dr_18) rfl kz) ?_
  show own_Win p e below s _ _ _ (T3.setTop (mkF m 19 #[.val (.ref a), .val (.int pv)] [(.int pv), (.int (2 : Int32)), (.int (6 : Int32))]))
  refine own_st (fun _ kz => XS.imul X3.here hx rfl (hb hby dr_19) rfl kz) ?_
  show own_Win p e below s _ _ _ (T3.setTop (mkF m 20 #[.val (.ref a), .val (.int pv)] [(.int ((2 : Int32) * pv)), (.int (6 : Int32))]))
  have h6 : ¬ (6 : Int32) < (2 : Int32) * pv := by
    have a1 := c_imul 2 pv
    rw [show (2 : Int32).toInt = 2 from rfl] at a1
    have := rng32 ((2 : Int32) * pv)
    rw [Int32.lt_iff_toInt_lt]
    have : (6 : Int32).toInt = 6 := rfl
    omega
  refine own_st (fun _ kz => XS.icmpYes X3.here hx rfl (pc0 := 20) (pc' := 86) rfl (hb hby dr_20) rfl (flt h6).2.1 (by decide) (by decide) kz) ?_
  show own_Win p e below s _ _ _ (T3.setTop (mkF m 86 #[.val (.ref a), .val (.int pv)] []))
  refine own_retV X3 hx hlk Bd.returns (hb hby dr_86) ?_ (Nat.le_refl _) (Nat.le_refl _)
  rw [e3]
  exact ⟨rfl, N1, (Keep.refl h0 [a]).wr W1 (Or.inl (List.mem_of_getElem? (i := 0) rfl)), c_points_h1, c_gradient_h1, c_blocks_h1, c_coupling_h1⟩
def Q_rmI (Z : State) (a : Addr) (h0 : Heap) (n0 : Nat) : Option Value → Heap → List Loc → Prop := fun v h L => v = none ∧ Fr n0 L ∧ Keep h0 h [a] ∧ Exa Z h a "com/example/mantleray/mantleray/QuadraticModel" ∧ ∃ r_gradient r_blocks r_coupling r_inverses r_best r_candidate r_solution : Addr, Fld Z h a "com/example/mantleray/mantleray/QuadraticModel" "points" "I" (.int (0 : Int32)) ∧ Fld Z h a "com/example/mantleray/mantleray/QuadraticModel" "gradient" "[D" (.ref r_gradient) ∧ Fld Z h a "com/example/mantleray/mantleray/QuadraticModel" "blocks" "[D" (.ref r_blocks) ∧ Fld Z h a "com/example/mantleray/mantleray/QuadraticModel" "coupling" "[D" (.ref r_coupling) ∧ Fld Z h a "com/example/mantleray/mantleray/QuadraticModel" "inverses" "[D" (.ref r_inverses) ∧ Fld Z h a "com/example/mantleray/mantleray/QuadraticModel" "best" "[D" (.ref r_best) ∧ Fld Z h a "com/example/mantleray/mantleray/QuadraticModel" "candidate" "[D" (.ref r_candidate) ∧ Fld Z h a "com/example/mantleray/mantleray/QuadraticModel" "solution" "[D" (.ref r_solution) ∧ own_Da Z h r_gradient 0 (fun _ => 0)
set_option maxRecDepth 65536 in
set_option maxHeartbeats 40000000 in
theorem rmI (l : Launch) (Z : State) (a0 : Array Value) (hw : ∀ d ∈ tables_1, d.before a0 Z = true) (ws : List Jvm.Cond) (a : Addr) (h0 : Heap) (n0 : Nat) (Z0 : n0 ≤ h0.size) (EA : Exa Z h0 a "com/example/mantleray/mantleray/QuadraticModel") (q_a : n0 ≤ a) (f_points : Fld Z h0 a "com/example/mantleray/mantleray/QuadraticModel" "points" "I" (.int (0 : Int32))) (f_gradient : Fld Z h0 a "com/example/mantleray/mantleray/QuadraticModel" "gradient" "[D" .null) (f_blocks : Fld Z h0 a "com/example/mantleray/mantleray/QuadraticModel" "blocks" "[D" .null) (f_coupling : Fld Z h0 a "com/example/mantleray/mantleray/QuadraticModel" "coupling" "[D" .null) (f_inverses : Fld Z h0 a "com/example/mantleray/mantleray/QuadraticModel" "inverses" "[D" .null) (f_best : Fld Z h0 a "com/example/mantleray/mantleray/QuadraticModel" "best" "[D" .null) (f_candidate : Fld Z h0 a "com/example/mantleray/mantleray/QuadraticModel" "candidate" "[D" .null) (f_solution : Fld Z h0 a "com/example/mantleray/mantleray/QuadraticModel" "solution" "[D" .null) :
    MetFree l yI (head1 (Jvm.Cond.code yI prog_42_method_1_code 1 none :: ws) ({ frames := 1, cells := 7, slots := 0, locals := 13 } : Room)) (fun az Uz => az = #[(.ref a)] ∧ Z.Warmed39 Uz.vm ∧ Uz.heap = h0) (fun _ _ _ _ _ => True) (fun _ Uz oz Vz => ∃ vz Lz, oz = .returned vz ∧ (Q_rmI Z a h0 n0) vz Vz.heap Lz ∧ FrameEnd Uz oz Vz Lz ({ frames := 1, cells := 7, slots := 0, locals := 13 } : Room).cells ({ frames := 1, cells := 7, slots := 0, locals := 13 } : Room).slots) := by
  refine MetFree.of_bodySF (plainFor_of_name pnQ) hisR ?_
  intro p e s m args below meth c s₁ Bd hml0 hP hK
  obtain ⟨rfl, hZ, hh⟩ := hP
  have hx := Bd.exec
  have hby := Bd.bytes
  have hlk := BodyLoose.notSynchronized Bd
  have hml : c.maxLocals = 1 := hml0
  have hown : s.vm.findClass "com/example/mantleray/mantleray/QuadraticModel" = some m.cls := findClass_of_methodNamed Bd.named
  have hnm := (name_of_methodNamed Bd.named Bd.method).1
  have X0 : Stand p l e ({ frames := 1, cells := 7, slots := 0, locals := 13 } : Room) s m #[(.ref a)] below meth c s₁ [] 0 0 := Stand.of_body Bd
  have e0 : s₁.heap = h0 := by rw [← hh, Bd.state]; rfl
  have N0 := Fr.nil n0
  show own_Win p e below s (Q_rmI Z a h0 n0) _ _ _
  refine own_st (fun tz kz => castTop (efI m a) kz) ?_
  show own_Win p e below s _ _ _ (s₁.setTop (mkF m 0 #[.val (.ref a)] []))
  refine own_st (fun _ kz => XS.aloadN X0.here hx rfl (hb hby di_0) rfl rfl kz) ?_
  show own_Win p e below s _ _ _ (s₁.setTop (mkF m 1 #[.val (.ref a)] [(.ref a)]))
  obtain ⟨T1, X1, e1, st1⟩ := initO X0 hx hZ hown (hw _ (List.mem_of_getElem? (i := 6) rfl)) (hw _ (List.mem_of_getElem? (i := 7) rfl)) (hw _ (List.mem_of_getElem? (i := 8) rfl)) e0 (g := (mkF m 1 #[.val (.ref a)] [(.ref a)])) rfl (by rw [hml]; rfl) rfl (hb hby di_1) (by decide) (W := 0) (Nat.le_of_eq rfl) (by decide)
  refine own_st st1 ?_
  show own_Win p e below s _ _ _ (T1.setTop (mkF m 4 #[.val (.ref a)] []))
  refine own_st (fun _ kz => XS.aloadN X1.here hx rfl (hb hby di_4) rfl rfl kz) ?_
  show own_Win p e below s _ _ _ (T1.setTop (mkF m 5 #[.val (.ref a)] [(.ref a)]))
  refine own_st (fun _ kz => XS.iconst X1.here hx rfl (hb hby di_5) kz) ?_
  show own_Win p e below s _ _ _ (T1.setTop (mkF m 6 #[.val (.ref a)] [(.int (0 : Int32)), (.ref a)]))
  refine own_callV X1 hx hZ hown (C := "com/example/mantleray/mantleray/QuadraticModel") (y := yR) (hw _ (List.mem_of_getElem? (i := 9) rfl)) (hw _ (List.mem_of_getElem? (i := 10) rfl)) (hw _ (List.mem_of_getElem? (i := 12) rfl)) (hw _ (List.mem_of_getElem? (i := 11) rfl)) (hw _ (List.mem_of_getElem? (i := 13) rfl)) (hw _ (List.mem_of_getElem? (i := 2) rfl)) (by decide) e1 EA (rmR0 l Z a0 hw [] a h0 n0 Z0 EA q_a f_points f_gradient f_blocks f_coupling f_inverses f_best f_candidate f_solution) (by decide) (W := 0) (by decide) rfl (by rw [hml]; rfl) (argsL := [.int (0 : Int32)]) (rest := []) (lenOf pdR rfl) rfl (Nat.le_of_eq rfl) (hb hby di_6) rfl (by decide) (by decide) ?_
  intro T2 v2 L2 X2 hQ2
  obtain ⟨rfl, N2, K2, E2, r_gradient, r_blocks, r_coupling, r_inverses, r_best, r_candidate, r_solution, b_points, b_gradient, b_blocks, b_coupling, b_inverses, b_best, b_candidate, b_solution, G2, -⟩ := hQ2
  show own_Win p e below s _ _ _ (T2.setTop (mkF m 9 #[.val (.ref a)] []))
  exact own_retV X2 hx hlk Bd.returns (hb hby di_9) ⟨rfl, Fr.app N0 N2, K2, E2, r_gradient, r_blocks, r_coupling, r_inverses, r_best, r_candidate, r_solution, b_points, b_gradient, b_blocks, b_coupling, b_inverses, b_best, b_candidate, b_solution, G2⟩ (Nat.le_refl _) (Nat.le_refl _)
def Q_rmC0 (Z : State) (a rg rb rc rs : Addr) (fG fB fC fY : Nat → UInt64) (G0 G1 G2 G3 G4 G5 B0 B1 B2 B3 B4 B5 B6 B7 B8 B9 B10 B11 C0 C1 C2 C3 C4 C5 C6 C7 Y0 Y1 Y2 Y3 Y4 Y5 : Int) (h0 : Heap) (n0 : Nat) : Option Value → Heap → List Loc → Prop := fun v h L => ∃ z : UInt64, v = some (.double z) ∧ Fr n0 L ∧ h = h0 ∧ own_H (2 * 0) z 0
set_option maxRecDepth 65536 in
set_option maxHeartbeats 40000000 in
theorem rmC0 (l : Launch) (Z : State) (a0 : Array Value) (hw : ∀ d ∈ tables_1, d.before a0 Z = true) (ws : List Jvm.Cond) (a rg rb rc rs : Addr) (fG fB fC fY : Nat → UInt64) (G0 G1 G2 G3 G4 G5 B0 B1 B2 B3 B4 B5 B6 B7 B8 B9 B10 B11 C0 C1 C2 C3 C4 C5 C6 C7 Y0 Y1 Y2 Y3 Y4 Y5 : Int) (h0 : Heap) (n0 : Nat) (Z0 : n0 ≤ h0.size) (f_points : Fld Z h0 a "com/example/mantleray/mantleray/QuadraticModel" "points" "I" (.int (0 : Int32))) (f_gradient : Fld Z h0 a "com/example/mantleray/mantleray/QuadraticModel" "gradient" "[D" (.ref rg)) (f_blocks : Fld Z h0 a "com/example/mantleray/mantleray/QuadraticModel" "blocks" "[D" (.ref rb)) (f_coupling : Fld Z h0 a "com/example/mantleray/mantleray/QuadraticModel" "coupling" "[D" (.ref rc)) (F_G : own_Da Z h0 rg 6 fG) (F_B : own_Da Z h0 rb 12 fB) (F_C : own_Da Z h0 rc 12 fC) (F_Y : own_Da Z h0 rs 6 fY) (nG0 : own_N G0 (fG 0) 128) (nG1 : own_N G1 (fG 1) 128) (nG2 : own_N G2 (fG 2) 128) (nG3 : own_N G3 (fG 3) 128) (nG4 : own_N G4 (fG 4) 128) (nG5 : own_N G5 (fG 5) 128) (nB0 : own_N B0 (fB 0) 128) (nB1 : own_N B1 (fB 1) 128) (nB2 : own_N B2 (fB 2) 128) (nB3 : own_N B3 (fB 3) 128) (nB4 : own_N B4 (fB 4) 128) (nB5 : own_N B5 (fB 5) 128) (nB6 : own_N B6 (fB 6) 128) (nB7 : own_N B7 (fB 7) 128) (nB8 : own_N B8 (fB 8) 128) (nB9 : own_N B9 (fB 9) 128) (nB10 : own_N B10 (fB 10) 128) (nB11 : own_N B11 (fB 11) 128) (nC0 : own_N C0 (fC 0) 128) (nC1 : own_N C1 (fC 1) 128) (nC2 : own_N C2 (fC 2) 128) (nC3 : own_N C3 (fC 3) 128) (nC4 : own_N C4 (fC 4) 128) (nC5 : own_N C5 (fC 5) 128) (nC6 : own_N C6 (fC 6) 128) (nC7 : own_N C7 (fC 7) 128) (nY0 : own_N Y0 (fY 0) 128) (nY1 : own_N Y1 (fY 1) 128) (nY2 : own_N Y2 (fY 2) 128) (nY3 : own_N Y3 (fY 3) 128) (nY4 : own_N Y4 (fY 4) 128) (nY5 : own_N Y5 (fY 5) 128) :
    MetFree l yC (head1 (Jvm.Cond.code yC prog_42_method_3_code 14 (some .double) :: ws) ({ frames := 0, cells := 0, slots := 0, locals := 0 } : Room)) (fun az Uz => az = #[(.ref a), (.ref rs)] ∧ Z.Warmed39 Uz.vm ∧ Uz.heap = h0) (fun _ _ _ _ _ => True) (fun _ Uz oz Vz => ∃ vz Lz, oz = .returned vz ∧ (Q_rmC0 Z a rg rb rc rs fG fB fC fY G0 G1 G2 G3 G4 G5 B0 B1 B2 B3 B4 B5 B6 B7 B8 B9 B10 B11 C0 C1 C2 C3 C4 C5 C6 C7 Y0 Y1 Y2 Y3 Y4 Y5 h0 n0) vz Vz.heap Lz ∧ FrameEnd Uz oz Vz Lz ({ frames := 0, cells := 0, slots := 0, locals := 0 } : Room).cells ({ frames := 0, cells := 0, slots := 0, locals := 0 } : Room).slots) := by
  refine MetFree.of_bodySF (plainFor_of_name pnQ) hisR ?_
  intro p e s m args below meth c s₁ Bd hml0 hP hK
  obtain ⟨rfl, hZ, hh⟩ := hP
  have hx := Bd.exec
  have hby := Bd.bytes
  have hlk := BodyLoose.notSynchronized Bd
  have hml : c.maxLocals = 14 := hml0
  have hown : s.vm.findClass "com/example/mantleray/mantleray/QuadraticModel" = some m.cls := findClass_of_methodNamed Bd.named
  have hnm := (name_of_methodNamed Bd.named Bd.method).1
  have X0 : Stand p l e ({ frames := 0, cells := 0, slots := 0, locals := 0 } : Room) s m #[(.ref a), (.ref rs)] below meth c s₁ [] 0 0 := Stand.of_body Bd
  have e0 : s₁.heap = h0 := by rw [← hh, Bd.state]; rfl
  have N0 := Fr.nil n0
  show own_Win p e below s (Q_rmC0 Z a rg rb rc rs fG fB fC fY G0 G1 G2 G3 G4 G5 B0 B1 B2 B3 B4 B5 B6 B7 B8 B9 B10 B11 C0 C1 C2 C3 C4 C5 C6 C7 Y0 Y1 Y2 Y3 Y4 Y5 h0 n0) _ _ _
  refine own_st (fun tz kz => castTop (efC m a rs) kz) ?_
  show own_Win p e below s _ _ _ (s₁.setTop (mkF m 0 #[.val (.ref a), .val (.ref rs), .unset, .unset, .unset, .unset, .unset, .unset, .unset, .unset, .unset, .unset, .unset, .unset] []))
  obtain ⟨Ls1, hLs1⟩ : ∃ L : Array Slot, L = #[.val (.ref a), .val (.ref rs), .unset, .unset, .unset, .unset, .unset, .unset, .unset, .unset, .unset, .unset, .unset, .unset] := ⟨_, rfl⟩
  rw [← hLs1]
  show own_Win p e below s _ _ _ (s₁.setTop (mkF m 0 Ls1 []))
  refine own_st (fun _ kz => XS.dconst0 X0.here hx rfl (hb hby dc_0) rfl kz) ?_
  show own_Win p e below s _ _ _ (s₁.setTop (mkF m 1 Ls1 [(.double (FP.dconst0))]))
  obtain ⟨Ls2, hLs2⟩ : ∃ L : Array Slot, L = #[.val (.ref a), .val (.ref rs), .val (.double (FP.dconst0)), .second, .unset, .unset, .unset, .unset, .unset, .unset, .unset, .unset, .unset, .unset] := ⟨_, rfl⟩
  refine own_st (fun _ kz => XS.dstoreN X0.here hx rfl (hb hby dc_1) rfl (l' := Ls2) (by show storeLocals Ls1 _ _ = _; rw [hLs1, hLs2]; rfl) kz) ?_
  show own_Win p e below s _ _ _ (s₁.setTop (mkF m 2 Ls2 []))
  refine own_st (fun _ kz => XS.iconst X0.here hx rfl (hb hby dc_2) kz) ?_
  show own_Win p e below s _ _ _ (s₁.setTop (mkF m 3 Ls2 [(.int (0 : Int32))]))
  obtain ⟨Ls3, hLs3⟩ : ∃ L : Array Slot, L = #[.val (.ref a), .val (.ref rs), .val (.double (FP.dconst0)), .second, .val (.int (0 : Int32)), .unset, .unset, .unset, .unset, .unset, .unset, .unset, .unset, .unset] := ⟨_, rfl⟩
  refine own_st (fun _ kz => XS.istore X0.here hx rfl (hb hby dc_3) rfl (l' := Ls3) (by show storeLocals Ls2 _ _ = _; rw [hLs2, hLs3]; rfl) kz) ?_
  show own_Win p e below s _ _ _ (s₁.setTop (mkF m 5 Ls3 []))
  refine own_st (fun _ kz => XS.iload X0.here hx rfl (v := (0 : Int32)) (hb hby dc_5) (by show Ls3[_]? = _; rw [hLs3]; rfl) kz) ?_
  show own_Win p e below s _ _ _ (s₁.setTop (mkF m 7 Ls3 [(.int (0 : Int32))]))
  refine own_st (fun _ kz => XS.aloadN X0.here hx rfl (v := (.ref a)) (hb hby dc_7) (by show Ls3[_]? = _; rw [hLs3]; rfl) rfl kz) ?_
  show own_Win p e below s _ _ _ (s₁.setTop (mkF m 8 Ls3 [(.ref a), (.int (0 : Int32))]))
  obtain ⟨T1, X1, e1, st1⟩ := getF X0 hx hZ hown (host := "") (Or.inl (hw _ (List.mem_of_getElem? (i := 14) rfl))) Via.refl e0 f_points (g := (mkF m 8 Ls3 [(.ref a), (.int (0 : Int32))])) rfl rfl (hb hby dc_8)
  refine own_st st1 ?_
  show own_Win p e below s _ _ _ (T1.setTop (mkF m 11 Ls3 [(.int (0 : Int32)), (.int (0 : Int32))]))
  refine own_st (fun _ kz => XS.icmpYes X1.here hx rfl (pc0 := 11) (pc' := 225) rfl (hb hby dc_11) rfl (by decide) (by decide) (by decide) kz) ?_
  show own_Win p e below s _ _ _ (T1.setTop (mkF m 225 Ls3 []))
  refine own_st (fun _ kz => XS.dloadN X1.here hx rfl (v := (FP.dconst0)) (hb hby dc_225) (by show Ls3[_]? = _; rw [hLs3]; rfl) kz) ?_
  show own_Win p e below s _ _ _ (T1.setTop (mkF m 226 Ls3 [(.double (FP.dconst0))]))
  exact own_ret X1 hx hlk Bd.returns rfl (Or.inr (Or.inr (Or.inl ⟨rfl, rfl, _, rfl⟩))) (hb hby dc_226) ⟨_, rfl, N0, e1, (own_Nh own_N0)⟩ (Nat.le_refl _) (Nat.le_refl _)
def Q_rmC1 (Z : State) (a rg rb rc rs : Addr) (fG fB fC fY : Nat → UInt64) (G0 G1 G2 G3 G4 G5 B0 B1 B2 B3 B4 B5 B6 B7 B8 B9 B10 B11 C0 C1 C2 C3 C4 C5 C6 C7 Y0 Y1 Y2 Y3 Y4 Y5 : Int) (h0 : Heap) (n0 : Nat) : Option Value → Heap → List Loc → Prop := fun v h L => ∃ z : UInt64, v = some (.double z) ∧ Fr n0 L ∧ h = h0 ∧ own_H ((2 * (0 + ((G0 * Y0) + (G1 * Y1)))) + ((Y0 * ((B0 * Y0) + (B1 * Y1))) + (Y1 * ((B2 * Y0) + (B3 * Y1))))) z 8454144
set_option maxRecDepth 65536 in
set_option maxHeartbeats 40000000 in
theorem rmC1 (l : Launch) (Z : State) (a0 : Array Value) (hw : ∀ d ∈ tables_1, d.before a0 Z = true) (ws : List Jvm.Cond) (a rg rb rc rs : Addr) (fG fB fC fY : Nat → UInt64) (G0 G1 G2 G3 G4 G5 B0 B1 B2 B3 B4 B5 B6 B7 B8 B9 B10 B11 C0 C1 C2 C3 C4 C5 C6 C7 Y0 Y1 Y2 Y3 Y4 Y5 : Int) (h0 : Heap) (n0 : Nat) (Z0 : n0 ≤ h0.size) (f_points : Fld Z h0 a "com/example/mantleray/mantleray/QuadraticModel" "points" "I" (.int (1 : Int32))) (f_gradient : Fld Z h0 a "com/example/mantleray/mantleray/QuadraticModel" "gradient" "[D" (.ref rg)) (f_blocks : Fld Z h0 a "com/example/mantleray/mantleray/QuadraticModel" "blocks" "[D" (.ref rb)) (f_coupling : Fld Z h0 a "com/example/mantleray/mantleray/QuadraticModel" "coupling" "[D" (.ref rc)) (F_G : own_Da Z h0 rg 6 fG) (F_B : own_Da Z h0 rb 12 fB) (F_C : own_Da Z h0 rc 12 fC) (F_Y : own_Da Z h0 rs 6 fY) (nG0 : own_N G0 (fG 0) 128) (nG1 : own_N G1 (fG 1) 128) (nG2 : own_N G2 (fG 2) 128) (nG3 : own_N G3 (fG 3) 128) (nG4 : own_N G4 (fG 4) 128) (nG5 : own_N G5 (fG 5) 128) (nB0 : own_N B0 (fB 0) 128) (nB1 : own_N B1 (fB 1) 128) (nB2 : own_N B2 (fB 2) 128) (nB3 : own_N B3 (fB 3) 128) (nB4 : own_N B4 (fB 4) 128) (nB5 : own_N B5 (fB 5) 128) (nB6 : own_N B6 (fB 6) 128) (nB7 : own_N B7 (fB 7) 128) (nB8 : own_N B8 (fB 8) 128) (nB9 : own_N B9 (fB 9) 128) (nB10 : own_N B10 (fB 10) 128) (nB11 : own_N B11 (fB 11) 128) (nC0 : own_N C0 (fC 0) 128) (nC1 : own_N C1 (fC 1) 128) (nC2 : own_N C2 (fC 2) 128) (nC3 : own_N C3 (fC 3) 128) (nC4 : own_N C4 (fC 4) 128) (nC5 : own_N C5 (fC 5) 128) (nC6 : own_N C6 (fC 6) 128) (nC7 : own_N C7 (fC 7) 128) (nY0 : own_N Y0 (fY 0) 128) (nY1 : own_N Y1 (fY 1) 128) (nY2 : own_N Y2 (fY 2) 128) (nY3 : own_N Y3 (fY 3) 128) (nY4 : own_N Y4 (fY 4) 128) (nY5 : own_N Y5 (fY 5) 128) :
    MetFree l yC (head1 (Jvm.Cond.code yC prog_42_method_3_code 14 (some .double) :: ws) ({ frames := 0, cells := 0, slots := 0, locals := 0 } : Room)) (fun az Uz => az = #[(.ref a), (.ref rs)] ∧ Z.Warmed39 Uz.vm ∧ Uz.heap = h0) (fun _ _ _ _ _ => True) (fun _ Uz oz Vz => ∃ vz Lz, oz = .returned vz ∧ (Q_rmC1 Z a rg rb rc rs fG fB fC fY G0 G1 G2 G3 G4 G5 B0 B1 B2 B3 B4 B5 B6 B7 B8 B9 B10 B11 C0 C1 C2 C3 C4 C5 C6 C7 Y0 Y1 Y2 Y3 Y4 Y5 h0 n0) vz Vz.heap Lz ∧ FrameEnd Uz oz Vz Lz ({ frames := 0, cells := 0, slots := 0, locals := 0 } : Room).cells ({ frames := 0, cells := 0, slots := 0, locals := 0 } : Room).slots) := by
  refine MetFree.of_bodySF (plainFor_of_name pnQ) hisR ?_
  intro p e s m args below meth c s₁ Bd hml0 hP hK
  obtain ⟨rfl, hZ, hh⟩ := hP
  have hx := Bd.exec
  have hby := Bd.bytes
  have hlk := BodyLoose.notSynchronized Bd
  have hml : c.maxLocals = 14 := hml0
  have hown : s.vm.findClass "com/example/mantleray/mantleray/QuadraticModel" = some m.cls := findClass_of_methodNamed Bd.named
  have hnm := (name_of_methodNamed Bd.named Bd.method).1
  have X0 : Stand p l e ({ frames := 0, cells := 0, slots := 0, locals := 0 } : Room) s m #[(.ref a), (.ref rs)] below meth c s₁ [] 0 0 := Stand.of_body Bd
  have e0 : s₁.heap = h0 := by rw [← hh, Bd.state]; rfl
  have N0 := Fr.nil n0
  show own_Win p e below s (Q_rmC1 Z a rg rb rc rs fG fB fC fY G0 G1 G2 G3 G4 G5 B0 B1 B2 B3 B4 B5 B6 B7 B8 B9 B10 B11 C0 C1 C2 C3 C4 C5 C6 C7 Y0 Y1 Y2 Y3 Y4 Y5 h0 n0) _ _ _
  refine own_st (fun tz kz => castTop (efC m a rs) kz) ?_
  show own_Win p e below s _ _ _ (s₁.setTop (mkF m 0 #[.val (.ref a), .val (.ref rs), .unset, .unset, .unset, .unset, .unset, .unset, .unset, .unset, .unset, .unset, .unset, .unset] []))
  obtain ⟨Ls1, hLs1⟩ : ∃ L : Array Slot, L = #[.val (.ref a), .val (.ref rs), .unset, .unset, .unset, .unset, .unset, .unset, .unset, .unset, .unset, .unset, .unset, .unset] := ⟨_, rfl⟩
  rw [← hLs1]
  show own_Win p e below s _ _ _ (s₁.setTop (mkF m 0 Ls1 []))
  refine own_st (fun _ kz => XS.dconst0 X0.here hx rfl (hb hby dc_0) rfl kz) ?_
  show own_Win p e below s _ _ _ (s₁.setTop (mkF m 1 Ls1 [(.double (FP.dconst0))]))
  obtain ⟨Ls2, hLs2⟩ : ∃ L : Array Slot, L = #[.val (.ref a), .val (.ref rs), .val (.double (FP.dconst0)), .second, .unset, .unset, .unset, .unset, .unset, .unset, .unset, .unset, .unset, .unset] := ⟨_, rfl⟩
  refine own_st (fun _ kz => XS.dstoreN X0.here hx rfl (hb hby dc_1) rfl (l' := Ls2) (by show storeLocals Ls1 _ _ = _; rw [hLs1, hLs2]; rfl) kz) ?_
  show own_Win p e below s _ _ _ (s₁.setTop (mkF m 2 Ls2 []))
  refine own_st (fun _ kz => XS.iconst X0.here hx rfl (hb hby dc_2) kz) ?_
  show own_Win p e below s _ _ _ (s₁.setTop (mkF m 3 Ls2 [(.int (0 : Int32))]))
  obtain ⟨Ls3, hLs3⟩ : ∃ L : Array Slot, L = #[.val (.ref a), .val (.ref rs), .val (.double (FP.dconst0)), .second, .val (.int (0 : Int32)), .unset, .unset, .unset, .unset, .unset, .unset, .unset, .unset, .unset] := ⟨_, rfl⟩
  refine own_st (fun _ kz => XS.istore X0.here hx rfl (hb hby dc_3) rfl (l' := Ls3) (by show storeLocals Ls2 _ _ = _; rw [hLs2, hLs3]; rfl) kz) ?_
  show own_Win p e below s _ _ _ (s₁.setTop (mkF m 5 Ls3 []))
  refine own_st (fun _ kz => XS.iload X0.here hx rfl (v := (0 : Int32)) (hb hby dc_5) (by show Ls3[_]? = _; rw [hLs3]; rfl) kz) ?_
  show own_Win p e below s _ _ _ (s₁.setTop (mkF m 7 Ls3 [(.int (0 : Int32))]))
  refine own_st (fun _ kz => XS.aloadN X0.here hx rfl (v := (.ref a)) (hb hby dc_7) (by show Ls3[_]? = _; rw [hLs3]; rfl) rfl kz) ?_
  show own_Win p e below s _ _ _ (s₁.setTop (mkF m 8 Ls3 [(.ref a), (.int (0 : Int32))]))
  obtain ⟨T1, X1, e1, st1⟩ := getF X0 hx hZ hown (host := "") (Or.inl (hw _ (List.mem_of_getElem? (i := 14) rfl))) Via.refl e0 f_points (g := (mkF m 8 Ls3 [(.ref a), (.int (0 : Int32))])) rfl rfl (hb hby dc_8)
  refine own_st st1 ?_
  show own_Win p e below s _ _ _ (T1.setTop (mkF m 11 Ls3 [(.int (1 : Int32)), (.int (0 : Int32))]))
  refine own_st (fun _ kz => XS.icmpNo X1.here hx rfl (hb hby dc_11) rfl (by decide) kz) ?_
  show own_Win p e below s _ _ _ (T1.setTop (mkF m 14 Ls3 []))
  refine own_st (fun _ kz => XS.aloadN X1.here hx rfl (v := (.ref rs)) (hb hby dc_14) (by show Ls3[_]? = _; rw [hLs3]; rfl) rfl kz) ?_
  show own_Win p e below s _ _ _ (T1.setTop (mkF m 15 Ls3 [(.ref rs)]))
  refine own_st (fun _ kz => XS.iconst X1.here hx rfl (hb hby dc_15) kz) ?_
  show own_Win p e below s _ _ _ (T1.setTop (mkF m 16 Ls3 [(.int (2 : Int32)), (.ref rs)]))
  refine own_st (fun _ kz => XS.iload X1.here hx rfl (v := (0 : Int32)) (hb hby dc_16) (by show Ls3[_]? = _; rw [hLs3]; rfl) kz) ?_
  show own_Win p e below s _ _ _ (T1.setTop (mkF m 18 Ls3 [(.int (0 : Int32)), (.int (2 : Int32)), (.ref rs)]))
  refine own_st (fun _ kz => XS.imul X1.here hx rfl (hb hby dc_18) rfl kz) ?_
  show own_Win p e below s _ _ _ (T1.setTop (mkF m 19 Ls3 [(.int ((2 : Int32) * (0 : Int32))), (.ref rs)]))
  show own_Win p e below s _ _ _ (T1.setTop (mkF m 19 Ls3 [(.int (0 : Int32)), (.ref rs)]))
  show own_Win p e below s _ _ _ (T1.setTop (mkF m 19 Ls3 [(.int (0 : Int32)), (.ref rs)]))
  refine own_daload X1 hx hZ e1 F_Y (i := 0) rfl (by decide) (x := (fY 0)) rfl rfl rfl (hb hby dc_19) ?_
  show own_Win p e below s _ _ _ (T1.setTop (mkF m 20 Ls3 [(.double (fY 0))]))
  obtain ⟨Ls4, hLs4⟩ : ∃ L : Array Slot, L = #[.val (.ref a), .val (.ref rs), .val (.double (FP.dconst0)), .second, .val (.int (0 : Int32)), .val (.double (fY 0)), .second, .unset, .unset, .unset, .unset, .unset, .unset, .unset] := ⟨_, rfl⟩
  refine own_st (fun _ kz => XS.dstore X1.here hx rfl (hb hby dc_20) rfl (l' := Ls4) (by show storeLocals Ls3 _ _ = _; rw [hLs3, hLs4]; rfl) kz) ?_
  show own_Win p e below s _ _ _ (T1.setTop (mkF m 22 Ls4 []))
  refine own_st (fun _ kz => XS.aloadN X1.here hx rfl (v := (.ref rs)) (hb hby dc_22) (by show Ls4[_]? = _; rw [hLs4]; rfl) rfl kz) ?_
  show own_Win p e below s _ _ _ (T1.setTop (mkF m 23 Ls4 [(.ref rs)]))
  refine own_st (fun _ kz => XS.iconst X1.here hx rfl (hb hby dc_23) kz) ?_
  show own_Win p e below s _ _ _ (T1.setTop (mkF m 24 Ls4 [(.int (2 : Int32)), (.ref rs)]))
  refine own_st (fun _ kz => XS.iload X1.here hx rfl (v := (0 : Int32)) (hb hby dc_24) (by show Ls4[_]? = _; rw [hLs4]; rfl) kz) ?_
  show own_Win p e below s _ _ _ (T1.setTop (mkF m 26 Ls4 [(.int (0 : Int32)), (.int (2 : Int32)), (.ref rs)]))
  refine own_st (fun _ kz => XS.imul X1.here hx rfl (hb hby dc_26) rfl kz) ?_
  show own_Win p e below s _ _ _ (T1.setTop (mkF m 27 Ls4 [(.int ((2 : Int32) * (0 : Int32))), (.ref rs)]))
  show own_Win p e below s _ _ _ (T1.setTop (mkF m 27 Ls4 [(.int (0 : Int32)), (.ref rs)]))
  refine own_st (fun _ kz => XS.iconst X1.here hx rfl (hb hby dc_27) kz) ?_
  show own_Win p e below s _ _ _ (T1.setTop (mkF m 28 Ls4 [(.int (1 : Int32)), (.int (0 : Int32)), (.ref rs)]))
  refine own_st (fun _ kz => XS.iadd X1.here hx rfl (hb hby dc_28) rfl kz) ?_
  show own_Win p e below s _ _ _ (T1.setTop (mkF m 29 Ls4 [(.int ((0 : Int32) + (1 : Int32))), (.ref rs)]))
  show own_Win p e below s _ _ _ (T1.setTop (mkF m 29 Ls4 [(.int (1 : Int32)), (.ref rs)]))
  show own_Win p e below s _ _ _ (T1.setTop (mkF m 29 Ls4 [(.int (1 : Int32)), (.ref rs)]))
  refine own_daload X1 hx hZ e1 F_Y (i := 1) rfl (by decide) (x := (fY 1)) rfl rfl rfl (hb hby dc_29) ?_
  show own_Win p e below s _ _ _ (T1.setTop (mkF m 30 Ls4 [(.double (fY 1))]))
  obtain ⟨Ls5, hLs5⟩ : ∃ L : Array Slot, L = #[.val (.ref a), .val (.ref rs), .val (.double (FP.dconst0)), .second, .val (.int (0 : Int32)), .val (.double (fY 0)), .second, .val (.double (fY 1)), .second, .unset, .unset, .unset, .unset, .unset] := ⟨_, rfl⟩
  refine own_st (fun _ kz => XS.dstore X1.here hx rfl (hb hby dc_30) rfl (l' := Ls5) (by show storeLocals Ls4 _ _ = _; rw [hLs4, hLs5]; rfl) kz) ?_
  show own_Win p e below s _ _ _ (T1.setTop (mkF m 32 Ls5 []))
  refine own_st (fun _ kz => XS.iconst X1.here hx rfl (hb hby dc_32) kz) ?_
  show own_Win p e below s _ _ _ (T1.setTop (mkF m 33 Ls5 [(.int (4 : Int32))]))
  refine own_st (fun _ kz => XS.iload X1.here hx rfl (v := (0 : Int32)) (hb hby dc_33) (by show Ls5[_]? = _; rw [hLs5]; rfl) kz) ?_
  show own_Win p e below s _ _ _ (T1.setTop (mkF m 35 Ls5 [(.int (0 : Int32)), (.int (4 : Int32))]))
  refine own_st (fun _ kz => XS.imul X1.here hx rfl (hb hby dc_35) rfl kz) ?_
  show own_Win p e below s _ _ _ (T1.setTop (mkF m 36 Ls5 [(.int ((4 : Int32) * (0 : Int32)))]))
  show own_Win p e below s _ _ _ (T1.setTop (mkF m 36 Ls5 [(.int (0 : Int32))]))
  obtain ⟨Ls6, hLs6⟩ : ∃ L : Array Slot, L = #[.val (.ref a), .val (.ref rs), .val (.double (FP.dconst0)), .second, .val (.int (0 : Int32)), .val (.double (fY 0)), .second, .val (.double (fY 1)), .second, .val (.int (0 : Int32)), .unset, .unset, .unset, .unset] := ⟨_, rfl⟩
  refine own_st (fun _ kz => XS.istore X1.here hx rfl (hb hby dc_36) rfl (l' := Ls6) (by show storeLocals Ls5 _ _ = _; rw [hLs5, hLs6]; rfl) kz) ?_
  show own_Win p e below s _ _ _ (T1.setTop (mkF m 38 Ls6 []))
  refine own_st (fun _ kz => XS.dloadN X1.here hx rfl (v := (FP.dconst0)) (hb hby dc_38) (by show Ls6[_]? = _; rw [hLs6]; rfl) kz) ?_
  show own_Win p e below s _ _ _ (T1.setTop (mkF m 39 Ls6 [(.double (FP.dconst0))]))
  refine own_st (fun _ kz => XS.aloadN X1.here hx rfl (v := (.ref a)) (hb hby dc_39) (by show Ls6[_]? = _; rw [hLs6]; rfl) rfl kz) ?_
  show own_Win p e below s _ _ _ (T1.setTop (mkF m 40 Ls6 [(.ref a), (.double (FP.dconst0))]))
  obtain ⟨T2, X2, e2, st2⟩ := getF X1 hx hZ hown (host := "") (Or.inl (hw _ (List.mem_of_getElem? (i := 16) rfl))) Via.refl e1 f_gradient (g := (mkF m 40 Ls6 [(.ref a), (.double (FP.dconst0))])) rfl rfl (hb hby dc_40)
  refine own_st st2 ?_
  show own_Win p e below s _ _ _ (T2.setTop (mkF m 43 Ls6 [(.ref rg), (.double (FP.dconst0))]))
  refine own_st (fun _ kz => XS.iconst X2.here hx rfl (hb hby dc_43) kz) ?_
  show own_Win p e below s _ _ _ (T2.setTop (mkF m 44 Ls6 [(.int (2 : Int32)), (.ref rg), (.double (FP.dconst0))]))
  refine own_st (fun _ kz => XS.iload X2.here hx rfl (v := (0 : Int32)) (hb hby dc_44) (by show Ls6[_]? = _; rw [hLs6]; rfl) kz) ?_
  show own_Win p e below s _ _ _ (T2.setTop (mkF m 46 Ls6 [(.int (0 : Int32)), (.int (2 : Int32)), (.ref rg), (.double (FP.dconst0))]))
  refine own_st (fun _ kz => XS.imul X2.here hx rfl (hb hby dc_46) rfl kz) ?_
  show own_Win p e below s _ _ _ (T2.setTop (mkF m 47 Ls6 [(.int ((2 : Int32) * (0 : Int32))), (.ref rg), (.double (FP.dconst0))]))
  show own_Win p e below s _ _ _ (T2.setTop (mkF m 47 Ls6 [(.int (0 : Int32)), (.ref rg), (.double (FP.dconst0))]))
  show own_Win p e below s _ _ _ (T2.setTop (mkF m 47 Ls6 [(.int (0 : Int32)), (.ref rg), (.double (FP.dconst0))]))
  refine own_daload X2 hx hZ e2 F_G (i := 0) rfl (by decide) (x := (fG 0)) rfl rfl rfl (hb hby dc_47) ?_
  show own_Win p e below s _ _ _ (T2.setTop (mkF m 48 Ls6 [(.double (fG 0)), (.double (FP.dconst0))]))
  refine own_st (fun _ kz => XS.dload X2.here hx rfl (v := (fY 0)) (hb hby dc_48) (by show Ls6[_]? = _; rw [hLs6]; rfl) kz) ?_
  show own_Win p e below s _ _ _ (T2.setTop (mkF m 50 Ls6 [(.double (fY 0)), (.double (fG 0)), (.double (FP.dconst0))]))
  obtain ⟨z1, hz1⟩ : ∃ z, (FP.dmul (fG 0) (fY 0)) = z := ⟨_, rfl⟩
  have dz1 := own_Nm nG0 nY0 (by decide)
  rw [hz1] at dz1
  refine own_st (fun _ kz => XS.dmulS X2.here hx rfl (hb hby dc_50) rfl (by rw [hz1]; exact own_Nn dz1) hz1 kz) ?_
  show own_Win p e below s _ _ _ (T2.setTop (mkF m 51 Ls6 [(.double z1), (.double (FP.dconst0))]))
  refine own_st (fun _ kz => XS.aloadN X2.here hx rfl (v := (.ref a)) (hb hby dc_51) (by show Ls6[_]? = _; rw [hLs6]; rfl) rfl kz) ?_
  show own_Win p e below s _ _ _ (T2.setTop (mkF m 52 Ls6 [(.ref a), (.double z1), (.double (FP.dconst0))]))
  obtain ⟨T3, X3, e3, st3⟩ := getF X2 hx hZ hown (host := "") (Or.inl (hw _ (List.mem_of_getElem? (i := 16) rfl))) Via.refl e2 f_gradient (g := (mkF m 52 Ls6 [(.ref a), (.double z1), (.double (FP.dconst0))])) rfl rfl (hb hby dc_52)
  refine own_st st3 ?_
  show own_Win p e below s _ _ _ (T3.setTop (mkF m 55 Ls6 [(.ref rg), (.double z1), (.double (FP.dconst0))]))
  refine own_st (fun _ kz => XS.iconst X3.here hx rfl (hb hby dc_55) kz) ?_
  show own_Win p e below s _ _ _ (T3.setTop (mkF m 56 Ls6 [(.int (2 : Int32)), (.ref rg), (.double z1), (.double (FP.dconst0))]))
  refine own_st (fun _ kz => XS.iload X3.here hx rfl (v := (0 : Int32)) (hb hby dc_56) (by show Ls6[_]? = _; rw [hLs6]; rfl) kz) ?_
  show own_Win p e below s _ _ _ (T3.setTop (mkF m 58 Ls6 [(.int (0 : Int32)), (.int (2 : Int32)), (.ref rg), (.double z1), (.double (FP.dconst0))]))
  refine own_st (fun _ kz => XS.imul X3.here hx rfl (hb hby dc_58) rfl kz) ?_
  show own_Win p e below s _ _ _ (T3.setTop (mkF m 59 Ls6 [(.int ((2 : Int32) * (0 : Int32))), (.ref rg), (.double z1), (.double (FP.dconst0))]))
  show own_Win p e below s _ _ _ (T3.setTop (mkF m 59 Ls6 [(.int (0 : Int32)), (.ref rg), (.double z1), (.double (FP.dconst0))]))
  refine own_st (fun _ kz => XS.iconst X3.here hx rfl (hb hby dc_59) kz) ?_
  show own_Win p e below s _ _ _ (T3.setTop (mkF m 60 Ls6 [(.int (1 : Int32)), (.int (0 : Int32)), (.ref rg), (.double z1), (.double (FP.dconst0))]))
  refine own_st (fun _ kz => XS.iadd X3.here hx rfl (hb hby dc_60) rfl kz) ?_
  show own_Win p e below s _ _ _ (T3.setTop (mkF m 61 Ls6 [(.int ((0 : Int32) + (1 : Int32))), (.ref rg), (.double z1), (.double (FP.dconst0))]))
  show own_Win p e below s _ _ _ (T3.setTop (mkF m 61 Ls6 [(.int (1 : Int32)), (.ref rg), (.double z1), (.double (FP.dconst0))]))
  show own_Win p e below s _ _ _ (T3.setTop (mkF m 61 Ls6 [(.int (1 : Int32)), (.ref rg), (.double z1), (.double (FP.dconst0))]))
  refine own_daload X3 hx hZ e3 F_G (i := 1) rfl (by decide) (x := (fG 1)) rfl rfl rfl (hb hby dc_61) ?_
  show own_Win p e below s _ _ _ (T3.setTop (mkF m 62 Ls6 [(.double (fG 1)), (.double z1), (.double (FP.dconst0))]))
  refine own_st (fun _ kz => XS.dload X3.here hx rfl (v := (fY 1)) (hb hby dc_62) (by show Ls6[_]? = _; rw [hLs6]; rfl) kz) ?_
  show own_Win p e below s _ _ _ (T3.setTop (mkF m 64 Ls6 [(.double (fY 1)), (.double (fG 1)), (.double z1), (.double (FP.dconst0))]))
  obtain ⟨z2, hz2⟩ : ∃ z, (FP.dmul (fG 1) (fY 1)) = z := ⟨_, rfl⟩
  have dz2 := own_Nm nG1 nY1 (by decide)
  rw [hz2] at dz2
  refine own_st (fun _ kz => XS.dmulS X3.here hx rfl (hb hby dc_64) rfl (by rw [hz2]; exact own_Nn dz2) hz2 kz) ?_
  show own_Win p e below s _ _ _ (T3.setTop (mkF m 65 Ls6 [(.double z2), (.double z1), (.double (FP.dconst0))]))
  obtain ⟨z3, hz3⟩ : ∃ z, (FP.dadd z1 z2) = z := ⟨_, rfl⟩
  have dz3 := own_Na dz1 dz2 (by decide)
  rw [hz3] at dz3
  refine own_st (fun _ kz => XS.daddS X3.here hx rfl (hb hby dc_65) rfl (by rw [hz3]; exact own_Nn dz3) hz3 kz) ?_
  show own_Win p e below s _ _ _ (T3.setTop (mkF m 66 Ls6 [(.double z3), (.double (FP.dconst0))]))
  obtain ⟨z4, hz4⟩ : ∃ z, (FP.dadd (FP.dconst0) z3) = z := ⟨_, rfl⟩
  have dz4 := own_Na own_N0 dz3 (by decide)
  rw [hz4] at dz4
  refine own_st (fun _ kz => XS.daddS X3.here hx rfl (hb hby dc_66) rfl (by rw [hz4]; exact own_Nn dz4) hz4 kz) ?_
  show own_Win p e below s _ _ _ (T3.setTop (mkF m 67 Ls6 [(.double z4)]))
  obtain ⟨Ls7, hLs7⟩ : ∃ L : Array Slot, L = #[.val (.ref a), .val (.ref rs), .val (.double z4), .second, .val (.int (0 : Int32)), .val (.double (fY 0)), .second, .val (.double (fY 1)), .second, .val (.int (0 : Int32)), .unset, .unset, .unset, .unset] := ⟨_, rfl⟩
  refine own_st (fun _ kz => XS.dstoreN X3.here hx rfl (hb hby dc_67) rfl (l' := Ls7) (by show storeLocals Ls6 _ _ = _; rw [hLs6, hLs7]; rfl) kz) ?_
  show own_Win p e below s _ _ _ (T3.setTop (mkF m 68 Ls7 []))
  refine own_st (fun _ kz => XS.dloadN X3.here hx rfl (v := z4) (hb hby dc_68) (by show Ls7[_]? = _; rw [hLs7]; rfl) kz) ?_
  show own_Win p e below s _ _ _ (T3.setTop (mkF m 69 Ls7 [(.double z4)]))
  refine own_st (fun _ kz => XS.dload X3.here hx rfl (v := (fY 0)) (hb hby dc_69) (by show Ls7[_]? = _; rw [hLs7]; rfl) kz) ?_
  show own_Win p e below s _ _ _ (T3.setTop (mkF m 71 Ls7 [(.double (fY 0)), (.double z4)]))
  refine own_st (fun _ kz => XS.aloadN X3.here hx rfl (v := (.ref a)) (hb hby dc_71) (by show Ls7[_]? = _; rw [hLs7]; rfl) rfl kz) ?_
  show own_Win p e below s _ _ _ (T3.setTop (mkF m 72 Ls7 [(.ref a), (.double (fY 0)), (.double z4)]))
  obtain ⟨T4, X4, e4, st4⟩ := getF X3 hx hZ hown (host := "") (Or.inl (hw _ (List.mem_of_getElem? (i := 19) rfl))) Via.refl e3 f_blocks (g := (mkF m 72 Ls7 [(.ref a), (.double (fY 0)), (.double z4)])) rfl rfl (hb hby dc_72)
  refine own_st st4 ?_
  show own_Win p e below s _ _ _ (T4.setTop (mkF m 75 Ls7 [(.ref rb), (.double (fY 0)), (.double z4)]))
  refine own_st (fun _ kz => XS.iload X4.here hx rfl (v := (0 : Int32)) (hb hby dc_75) (by show Ls7[_]? = _; rw [hLs7]; rfl) kz) ?_
  show own_Win p e below s _ _ _ (T4.setTop (mkF m 77 Ls7 [(.int (0 : Int32)), (.ref rb), (.double (fY 0)), (.double z4)]))
  show own_Win p e below s _ _ _ (T4.setTop (mkF m 77 Ls7 [(.int (0 : Int32)), (.ref rb), (.double (fY 0)), (.double z4)]))
  refine own_daload X4 hx hZ e4 F_B (i := 0) rfl (by decide) (x := (fB 0)) rfl rfl rfl (hb hby dc_77) ?_
  show own_Win p e below s _ _ _ (T4.setTop (mkF m 78 Ls7 [(.double (fB 0)), (.double (fY 0)), (.double z4)]))
  refine own_st (fun _ kz => XS.dload X4.here hx rfl (v := (fY 0)) (hb hby dc_78) (by show Ls7[_]? = _; rw [hLs7]; rfl) kz) ?_
  show own_Win p e below s _ _ _ (T4.setTop (mkF m 80 Ls7 [(.double (fY 0)), (.double (fB 0)), (.double (fY 0)), (.double z4)]))
  obtain ⟨z5, hz5⟩ : ∃ z, (FP.dmul (fB 0) (fY 0)) = z := ⟨_, rfl⟩
  have dz5 := own_Nm nB0 nY0 (by decide)
  rw [hz5] at dz5
  refine own_st (fun _ kz => XS.dmulS X4.here hx rfl (hb hby dc_80) rfl (by rw [hz5]; exact own_Nn dz5) hz5 kz) ?_
  show own_Win p e below s _ _ _ (T4.setTop (mkF m 81 Ls7 [(.double z5), (.double (fY 0)), (.double z4)]))
  refine own_st (fun _ kz => XS.aloadN X4.here hx rfl (v := (.ref a)) (hb hby dc_81) (by show Ls7[_]? = _; rw [hLs7]; rfl) rfl kz) ?_
  show own_Win p e below s _ _ _ (T4.setTop (mkF m 82 Ls7 [(.ref a), (.double z5), (.double (fY 0)), (.double z4)]))
  obtain ⟨T5, X5, e5, st5⟩ := getF X4 hx hZ hown (host := "") (Or.inl (hw _ (List.mem_of_getElem? (i := 19) rfl))) Via.refl e4 f_blocks (g := (mkF m 82 Ls7 [(.ref a), (.double z5), (.double (fY 0)), (.double z4)])) rfl rfl (hb hby dc_82)
  refine own_st st5 ?_
  show own_Win p e below s _ _ _ (T5.setTop (mkF m 85 Ls7 [(.ref rb), (.double z5), (.double (fY 0)), (.double z4)]))
  refine own_st (fun _ kz => XS.iload X5.here hx rfl (v := (0 : Int32)) (hb hby dc_85) (by show Ls7[_]? = _; rw [hLs7]; rfl) kz) ?_
  show own_Win p e below s _ _ _ (T5.setTop (mkF m 87 Ls7 [(.int (0 : Int32)), (.ref rb), (.double z5), (.double (fY 0)), (.double z4)]))
  refine own_st (fun _ kz => XS.iconst X5.here hx rfl (hb hby dc_87) kz) ?_
  show own_Win p e below s _ _ _ (T5.setTop (mkF m 88 Ls7 [(.int (1 : Int32)), (.int (0 : Int32)), (.ref rb), (.double z5), (.double (fY 0)), (.double z4)]))
  refine own_st (fun _ kz => XS.iadd X5.here hx rfl (hb hby dc_88) rfl kz) ?_
  show own_Win p e below s _ _ _ (T5.setTop (mkF m 89 Ls7 [(.int ((0 : Int32) + (1 : Int32))), (.ref rb), (.double z5), (.double (fY 0)), (.double z4)]))
  show own_Win p e below s _ _ _ (T5.setTop (mkF m 89 Ls7 [(.int (1 : Int32)), (.ref rb), (.double z5), (.double (fY 0)), (.double z4)]))
  show own_Win p e below s _ _ _ (T5.setTop (mkF m 89 Ls7 [(.int (1 : Int32)), (.ref rb), (.double z5), (.double (fY 0)), (.double z4)]))
  refine own_daload X5 hx hZ e5 F_B (i := 1) rfl (by decide) (x := (fB 1)) rfl rfl rfl (hb hby dc_89) ?_
  show own_Win p e below s _ _ _ (T5.setTop (mkF m 90 Ls7 [(.double (fB 1)), (.double z5), (.double (fY 0)), (.double z4)]))
  refine own_st (fun _ kz => XS.dload X5.here hx rfl (v := (fY 1)) (hb hby dc_90) (by show Ls7[_]? = _; rw [hLs7]; rfl) kz) ?_
  show own_Win p e below s _ _ _ (T5.setTop (mkF m 92 Ls7 [(.double (fY 1)), (.double (fB 1)), (.double z5), (.double (fY 0)), (.double z4)]))
  obtain ⟨z6, hz6⟩ : ∃ z, (FP.dmul (fB 1) (fY 1)) = z := ⟨_, rfl⟩
  have dz6 := own_Nm nB1 nY1 (by decide)
  rw [hz6] at dz6
  refine own_st (fun _ kz => XS.dmulS X5.here hx rfl (hb hby dc_92) rfl (by rw [hz6]; exact own_Nn dz6) hz6 kz) ?_
  show own_Win p e below s _ _ _ (T5.setTop (mkF m 93 Ls7 [(.double z6), (.double z5), (.double (fY 0)), (.double z4)]))
  obtain ⟨z7, hz7⟩ : ∃ z, (FP.dadd z5 z6) = z := ⟨_, rfl⟩
  have dz7 := own_Na dz5 dz6 (by decide)
  rw [hz7] at dz7
  refine own_st (fun _ kz => XS.daddS X5.here hx rfl (hb hby dc_93) rfl (by rw [hz7]; exact own_Nn dz7) hz7 kz) ?_
  show own_Win p e below s _ _ _ (T5.setTop (mkF m 94 Ls7 [(.double z7), (.double (fY 0)), (.double z4)]))
  obtain ⟨z8, hz8⟩ : ∃ z, (FP.dmul (fY 0) z7) = z := ⟨_, rfl⟩
  have dz8 := own_Nm nY0 dz7 (by decide)
  rw [hz8] at dz8
  refine own_st (fun _ kz => XS.dmulS X5.here hx rfl (hb hby dc_94) rfl (by rw [hz8]; exact own_Nn dz8) hz8 kz) ?_
  show own_Win p e below s _ _ _ (T5.setTop (mkF m 95 Ls7 [(.double z8), (.double z4)]))
  refine own_st (fun _ kz => XS.dload X5.here hx rfl (v := (fY 1)) (hb hby dc_95) (by show Ls7[_]? = _; rw [hLs7]; rfl) kz) ?_
  show own_Win p e below s _ _ _ (T5.setTop (mkF m 97 Ls7 [(.double (fY 1)), (.double z8), (.double z4)]))
  refine own_st (fun _ kz => XS.aloadN X5.here hx rfl (v := (.ref a)) (hb hby dc_97) (by show Ls7[_]? = _; rw [hLs7]; rfl) rfl kz) ?_
  show own_Win p e below s _ _ _ (T5.setTop (mkF m 98 Ls7 [(.ref a), (.double (fY 1)), (.double z8), (.double z4)]))
  obtain ⟨T6, X6, e6, st6⟩ := getF X5 hx hZ hown (host := "") (Or.inl (hw _ (List.mem_of_getElem? (i := 19) rfl))) Via.refl e5 f_blocks (g := (mkF m 98 Ls7 [(.ref a), (.double (fY 1)), (.double z8), (.double z4)])) rfl rfl (hb hby dc_98)
  refine own_st st6 ?_
  show own_Win p e below s _ _ _ (T6.setTop (mkF m 101 Ls7 [(.ref rb), (.double (fY 1)), (.double z8), (.double z4)]))
  refine own_st (fun _ kz => XS.iload X6.here hx rfl (v := (0 : Int32)) (hb hby dc_101) (by show Ls7[_]? = _; rw [hLs7]; rfl) kz) ?_
  show own_Win p e below s _ _ _ (T6.setTop (mkF m 103 Ls7 [(.int (0 : Int32)), (.ref rb), (.double (fY 1)), (.double z8), (.double z4)]))
  refine own_st (fun _ kz => XS.iconst X6.here hx rfl (hb hby dc_103) kz) ?_
  show own_Win p e below s _ _ _ (T6.setTop (mkF m 104 Ls7 [(.int (2 : Int32)), (.int (0 : Int32)), (.ref rb), (.double (fY 1)), (.double z8), (.double z4)]))
  refine own_st (fun _ kz => XS.iadd X6.here hx rfl (hb hby dc_104) rfl kz) ?_
  show own_Win p e below s _ _ _ (T6.setTop (mkF m 105 Ls7 [(.int ((0 : Int32) + (2 : Int32))), (.ref rb), (.double (fY 1)), (.double z8), (.double z4)]))
  show own_Win p e below s _ _ _ (T6.setTop (mkF m 105 Ls7 [(.int (2 : Int32)), (.ref rb), (.double (fY 1)), (.double z8), (.double z4)]))
  show own_Win p e below s _ _ _ (T6.setTop (mkF m 105 Ls7 [(.int (2 : Int32)), (.ref rb), (.double (fY 1)), (.double z8), (.double z4)]))
  refine own_daload X6 hx hZ e6 F_B (i := 2) rfl (by decide) (x := (fB 2)) rfl rfl rfl (hb hby dc_105) ?_
  show own_Win p e below s _ _ _ (T6.setTop (mkF m 106 Ls7 [(.double (fB 2)), (.double (fY 1)), (.double z8), (.double z4)]))
  refine own_st (fun _ kz => XS.dload X6.here hx rfl (v := (fY 0)) (hb hby dc_106) (by show Ls7[_]? = _; rw [hLs7]; rfl) kz) ?_
  show own_Win p e below s _ _ _ (T6.setTop (mkF m 108 Ls7 [(.double (fY 0)), (.double (fB 2)), (.double (fY 1)), (.double z8), (.double z4)]))
  obtain ⟨z9, hz9⟩ : ∃ z, (FP.dmul (fB 2) (fY 0)) = z := ⟨_, rfl⟩
  have dz9 := own_Nm nB2 nY0 (by decide)
  rw [hz9] at dz9
  refine own_st (fun _ kz => XS.dmulS X6.here hx rfl (hb hby dc_108) rfl (by rw [hz9]; exact own_Nn dz9) hz9 kz) ?_
  show own_Win p e below s _ _ _ (T6.setTop (mkF m 109 Ls7 [(.double z9), (.double (fY 1)), (.double z8), (.double z4)]))
  refine own_st (fun _ kz => XS.aloadN X6.here hx rfl (v := (.ref a)) (hb hby dc_109) (by show Ls7[_]? = _; rw [hLs7]; rfl) rfl kz) ?_
  show own_Win p e below s _ _ _ (T6.setTop (mkF m 110 Ls7 [(.ref a), (.double z9), (.double (fY 1)), (.double z8), (.double z4)]))
  obtain ⟨T7, X7, e7, st7⟩ := getF X6 hx hZ hown (host := "") (Or.inl (hw _ (List.mem_of_getElem? (i := 19) rfl))) Via.refl e6 f_blocks (g := (mkF m 110 Ls7 [(.ref a), (.double z9), (.double (fY 1)), (.double z8), (.double z4)])) rfl rfl (hb hby dc_110)
  refine own_st st7 ?_
  show own_Win p e below s _ _ _ (T7.setTop (mkF m 113 Ls7 [(.ref rb), (.double z9), (.double (fY 1)), (.double z8), (.double z4)]))
  refine own_st (fun _ kz => XS.iload X7.here hx rfl (v := (0 : Int32)) (hb hby dc_113) (by show Ls7[_]? = _; rw [hLs7]; rfl) kz) ?_
  show own_Win p e below s _ _ _ (T7.setTop (mkF m 115 Ls7 [(.int (0 : Int32)), (.ref rb), (.double z9), (.double (fY 1)), (.double z8), (.double z4)]))
  refine own_st (fun _ kz => XS.iconst X7.here hx rfl (hb hby dc_115) kz) ?_
  show own_Win p e below s _ _ _ (T7.setTop (mkF m 116 Ls7 [(.int (3 : Int32)), (.int (0 : Int32)), (.ref rb), (.double z9), (.double (fY 1)), (.double z8), (.double z4)]))
  refine own_st (fun _ kz => XS.iadd X7.here hx rfl (hb hby dc_116) rfl kz) ?_
  show own_Win p e below s _ _ _ (T7.setTop (mkF m 117 Ls7 [(.int ((0 : Int32) + (3 : Int32))), (.ref rb), (.double z9), (.double (fY 1)), (.double z8), (.double z4)]))
  show own_Win p e below s _ _ _ (T7.setTop (mkF m 117 Ls7 [(.int (3 : Int32)), (.ref rb), (.double z9), (.double (fY 1)), (.double z8), (.double z4)]))
  show own_Win p e below s _ _ _ (T7.setTop (mkF m 117 Ls7 [(.int (3 : Int32)), (.ref rb), (.double z9), (.double (fY 1)), (.double z8), (.double z4)]))
  refine own_daload X7 hx hZ e7 F_B (i := 3) rfl (by decide) (x := (fB 3)) rfl rfl rfl (hb hby dc_117) ?_
  show own_Win p e below s _ _ _ (T7.setTop (mkF m 118 Ls7 [(.double (fB 3)), (.double z9), (.double (fY 1)), (.double z8), (.double z4)]))
  refine own_st (fun _ kz => XS.dload X7.here hx rfl (v := (fY 1)) (hb hby dc_118) (by show Ls7[_]? = _; rw [hLs7]; rfl) kz) ?_
  show own_Win p e below s _ _ _ (T7.setTop (mkF m 120 Ls7 [(.double (fY 1)), (.double (fB 3)), (.double z9), (.double (fY 1)), (.double z8), (.double z4)]))
  obtain ⟨z10, hz10⟩ : ∃ z, (FP.dmul (fB 3) (fY 1)) = z := ⟨_, rfl⟩
  have dz10 := own_Nm nB3 nY1 (by decide)
  rw [hz10] at dz10
  refine own_st (fun _ kz => XS.dmulS X7.here hx rfl (hb hby dc_120) rfl (by rw [hz10]; exact own_Nn dz10) hz10 kz) ?_
  show own_Win p e below s _ _ _ (T7.setTop (mkF m 121 Ls7 [(.double z10), (.double z9), (.double (fY 1)), (.double z8), (.double z4)]))
  obtain ⟨z11, hz11⟩ : ∃ z, (FP.dadd z9 z10) = z := ⟨_, rfl⟩
  have dz11 := own_Na dz9 dz10 (by decide)
  rw [hz11] at dz11
  refine own_st (fun _ kz => XS.daddS X7.here hx rfl (hb hby dc_121) rfl (by rw [hz11]; exact own_Nn dz11) hz11 kz) ?_
  show own_Win p e below s _ _ _ (T7.setTop (mkF m 122 Ls7 [(.double z11), (.double (fY 1)), (.double z8), (.double z4)]))
  obtain ⟨z12, hz12⟩ : ∃ z, (FP.dmul (fY 1) z11) = z := ⟨_, rfl⟩
  have dz12 := own_Nm nY1 dz11 (by decide)
  rw [hz12] at dz12
  refine own_st (fun _ kz => XS.dmulS X7.here hx rfl (hb hby dc_122) rfl (by rw [hz12]; exact own_Nn dz12) hz12 kz) ?_
  show own_Win p e below s _ _ _ (T7.setTop (mkF m 123 Ls7 [(.double z12), (.double z8), (.double z4)]))
  obtain ⟨z13, hz13⟩ : ∃ z, (FP.dadd z8 z12) = z := ⟨_, rfl⟩
  have dz13 := own_Na dz8 dz12 (by decide)
  rw [hz13] at dz13
  refine own_st (fun _ kz => XS.daddS X7.here hx rfl (hb hby dc_123) rfl (by rw [hz13]; exact own_Nn dz13) hz13 kz) ?_
  show own_Win p e below s _ _ _ (T7.setTop (mkF m 124 Ls7 [(.double z13), (.double z4)]))
  refine own_st (fun tz kz => X7.ldc2DoubleC hx hown (mvT hZ (hw _ (List.mem_of_getElem? (i := 44) rfl))) (g := (mkF m 124 Ls7 [(.double z13), (.double z4)])) rfl (hb hby dc_124) tz kz) ?_
  show own_Win p e below s _ _ _ (T7.setTop (mkF m 127 Ls7 [(.double (4611686018427387904 : UInt64)), (.double z13), (.double z4)]))
  obtain ⟨z14, hz14⟩ : ∃ z, (FP.ddiv z13 (4611686018427387904 : UInt64)) = z := ⟨_, rfl⟩
  have dz14 := own_Hd dz13 (by decide)
  rw [hz14] at dz14
  refine own_st (fun _ kz => XS.ddivS X7.here hx rfl (hb hby dc_127) rfl (by rw [hz14]; exact own_Hn dz14) hz14 kz) ?_
  show own_Win p e below s _ _ _ (T7.setTop (mkF m 128 Ls7 [(.double z14), (.double z4)]))
  obtain ⟨z15, hz15⟩ : ∃ z, (FP.dadd z4 z14) = z := ⟨_, rfl⟩
  have dz15 := own_Ha (own_Nh dz4) dz14 (by decide)
  rw [hz15] at dz15
  refine own_st (fun _ kz => XS.daddS X7.here hx rfl (hb hby dc_128) rfl (by rw [hz15]; exact own_Hn dz15) hz15 kz) ?_
  show own_Win p e below s _ _ _ (T7.setTop (mkF m 129 Ls7 [(.double z15)]))
  obtain ⟨Ls8, hLs8⟩ : ∃ L : Array Slot, L = #[.val (.ref a), .val (.ref rs), .val (.double z15), .second, .val (.int (0 : Int32)), .val (.double (fY 0)), .second, .val (.double (fY 1)), .second, .val (.int (0 : Int32)), .unset, .unset, .unset, .unset] := ⟨_, rfl⟩
  refine own_st (fun _ kz => XS.dstoreN X7.here hx rfl (hb hby dc_129) rfl (l' := Ls8) (by show storeLocals Ls7 _ _ = _; rw [hLs7, hLs8]; rfl) kz) ?_
  show own_Win p e below s _ _ _ (T7.setTop (mkF m 130 Ls8 []))
  refine own_st (fun _ kz => XS.iload X7.here hx rfl (v := (0 : Int32)) (hb hby dc_130) (by show Ls8[_]? = _; rw [hLs8]; rfl) kz) ?_
  show own_Win p e below s _ _ _ (T7.setTop (mkF m 132 Ls8 [(.int (0 : Int32))]))
  refine own_st (fun _ kz => XS.iconst X7.here hx rfl (hb hby dc_132) kz) ?_
  show own_Win p e below s _ _ _ (T7.setTop (mkF m 133 Ls8 [(.int (1 : Int32)), (.int (0 : Int32))]))
  refine own_st (fun _ kz => XS.iadd X7.here hx rfl (hb hby dc_133) rfl kz) ?_
  show own_Win p e below s _ _ _ (T7.setTop (mkF m 134 Ls8 [(.int ((0 : Int32) + (1 : Int32)))]))
  show own_Win p e below s _ _ _ (T7.setTop (mkF m 134 Ls8 [(.int (1 : Int32))]))
  refine own_st (fun _ kz => XS.aloadN X7.here hx rfl (v := (.ref a)) (hb hby dc_134) (by show Ls8[_]? = _; rw [hLs8]; rfl) rfl kz) ?_
  show own_Win p e below s _ _ _ (T7.setTop (mkF m 135 Ls8 [(.ref a), (.int (1 : Int32))]))
  obtain ⟨T8, X8, e8, st8⟩ := getF X7 hx hZ hown (host := "") (Or.inl (hw _ (List.mem_of_getElem? (i := 14) rfl))) Via.refl e7 f_points (g := (mkF m 135 Ls8 [(.ref a), (.int (1 : Int32))])) rfl rfl (hb hby dc_135)
  refine own_st st8 ?_
  show own_Win p e below s _ _ _ (T8.setTop (mkF m 138 Ls8 [(.int (1 : Int32)), (.int (1 : Int32))]))
  refine own_st (fun _ kz => XS.icmpYes X8.here hx rfl (pc0 := 138) (pc' := 219) rfl (hb hby dc_138) rfl (by decide) (by decide) (by decide) kz) ?_
  show own_Win p e below s _ _ _ (T8.setTop (mkF m 219 Ls8 []))
  obtain ⟨Ls9, hLs9⟩ : ∃ L : Array Slot, L = #[.val (.ref a), .val (.ref rs), .val (.double z15), .second, .val (.int (1 : Int32)), .val (.double (fY 0)), .second, .val (.double (fY 1)), .second, .val (.int (0 : Int32)), .unset, .unset, .unset, .unset] := ⟨_, rfl⟩
  refine own_st (fun _ kz => XS.iinc X8.here hx rfl (x := (0 : Int32)) (hb hby dc_219) (by show Ls8[_]? = _; rw [hLs8]; rfl) (l' := Ls9) (by show storeLocals Ls8 _ _ = _; rw [hLs8, hLs9]; rfl) kz) ?_
  show own_Win p e below s _ _ _ (T8.setTop (mkF m 222 Ls9 []))
  refine own_st (fun _ kz => XS.goto X8.here hx rfl (pc0 := 222) (pc' := 5) rfl (hb hby dc_222) (by decide) (by decide) kz) ?_
  show own_Win p e below s _ _ _ (T8.setTop (mkF m 5 Ls9 []))
  refine own_st (fun _ kz => XS.iload X8.here hx rfl (v := (1 : Int32)) (hb hby dc_5) (by show Ls9[_]? = _; rw [hLs9]; rfl) kz) ?_
  show own_Win p e below s _ _ _ (T8.setTop (mkF m 7 Ls9 [(.int (1 : Int32))]))
  refine own_st (fun _ kz => XS.aloadN X8.here hx rfl (v := (.ref a)) (hb hby dc_7) (by show Ls9[_]? = _; rw [hLs9]; rfl) rfl kz) ?_
  show own_Win p e below s _ _ _ (T8.setTop (mkF m 8 Ls9 [(.ref a), (.int (1 : Int32))]))
  obtain ⟨T9, X9, e9, st9⟩ := getF X8 hx hZ hown (host := "") (Or.inl (hw _ (List.mem_of_getElem? (i := 14) rfl))) Via.refl e8 f_points (g := (mkF m 8 Ls9 [(.ref a), (.int (1 : Int32))])) rfl rfl (hb hby dc_8)
  refine own_st st9 ?_
  show own_Win p e below s _ _ _ (T9.setTop (mkF m 11 Ls9 [(.int (1 : Int32)), (.int (1 : Int32))]))
  refine own_st (fun _ kz => XS.icmpYes X9.here hx rfl (pc0 := 11) (pc' := 225) rfl (hb hby dc_11) rfl (by decide) (by decide) (by decide) kz) ?_
  show own_Win p e below s _ _ _ (T9.setTop (mkF m 225 Ls9 []))
  refine own_st (fun _ kz => XS.dloadN X9.here hx rfl (v := z15) (hb hby dc_225) (by show Ls9[_]? = _; rw [hLs9]; rfl) kz) ?_
  show own_Win p e below s _ _ _ (T9.setTop (mkF m 226 Ls9 [(.double z15)]))
  exact own_ret X9 hx hlk Bd.returns rfl (Or.inr (Or.inr (Or.inl ⟨rfl, rfl, _, rfl⟩))) (hb hby dc_226) ⟨_, rfl, N0, e9, dz15⟩ (Nat.le_refl _) (Nat.le_refl _)
def Q_rmC2 (Z : State) (a rg rb rc rs : Addr) (fG fB fC fY : Nat → UInt64) (G0 G1 G2 G3 G4 G5 B0 B1 B2 B3 B4 B5 B6 B7 B8 B9 B10 B11 C0 C1 C2 C3 C4 C5 C6 C7 Y0 Y1 Y2 Y3 Y4 Y5 : Int) (h0 : Heap) (n0 : Nat) : Option Value → Heap → List Loc → Prop := fun v h L => ∃ z : UInt64, v = some (.double z) ∧ Fr n0 L ∧ h = h0 ∧ own_H (((((2 * (0 + ((G0 * Y0) + (G1 * Y1)))) + ((Y0 * ((B0 * Y0) + (B1 * Y1))) + (Y1 * ((B2 * Y0) + (B3 * Y1))))) + (2 * ((Y0 * ((C0 * Y2) + (C1 * Y3))) + (Y1 * ((C2 * Y2) + (C3 * Y3)))))) + (2 * ((G2 * Y2) + (G3 * Y3)))) + ((Y2 * ((B4 * Y2) + (B5 * Y3))) + (Y3 * ((B6 * Y2) + (B7 * Y3))))) z 33685504
set_option maxRecDepth 65536 in
set_option maxHeartbeats 40000000 in
theorem rmC2 (l : Launch) (Z : State) (a0 : Array Value) (hw : ∀ d ∈ tables_1, d.before a0 Z = true) (ws : List Jvm.Cond) (a rg rb rc rs : Addr) (fG fB fC fY : Nat → UInt64) (G0 G1 G2 G3 G4 G5 B0 B1 B2 B3 B4 B5 B6 B7 B8 B9 B10 B11 C0 C1 C2 C3 C4 C5 C6 C7 Y0 Y1 Y2 Y3 Y4 Y5 : Int) (h0 : Heap) (n0 : Nat) (Z0 : n0 ≤ h0.size) (f_points : Fld Z h0 a "com/example/mantleray/mantleray/QuadraticModel" "points" "I" (.int (2 : Int32))) (f_gradient : Fld Z h0 a "com/example/mantleray/mantleray/QuadraticModel" "gradient" "[D" (.ref rg)) (f_blocks : Fld Z h0 a "com/example/mantleray/mantleray/QuadraticModel" "blocks" "[D" (.ref rb)) (f_coupling : Fld Z h0 a "com/example/mantleray/mantleray/QuadraticModel" "coupling" "[D" (.ref rc)) (F_G : own_Da Z h0 rg 6 fG) (F_B : own_Da Z h0 rb 12 fB) (F_C : own_Da Z h0 rc 12 fC) (F_Y : own_Da Z h0 rs 6 fY) (nG0 : own_N G0 (fG 0) 128) (nG1 : own_N G1 (fG 1) 128) (nG2 : own_N G2 (fG 2) 128) (nG3 : own_N G3 (fG 3) 128) (nG4 : own_N G4 (fG 4) 128) (nG5 : own_N G5 (fG 5) 128) (nB0 : own_N B0 (fB 0) 128) (nB1 : own_N B1 (fB 1) 128) (nB2 : own_N B2 (fB 2) 128) (nB3 : own_N B3 (fB 3) 128) (nB4 : own_N B4 (fB 4) 128) (nB5 : own_N B5 (fB 5) 128) (nB6 : own_N B6 (fB 6) 128) (nB7 : own_N B7 (fB 7) 128) (nB8 : own_N B8 (fB 8) 128) (nB9 : own_N B9 (fB 9) 128) (nB10 : own_N B10 (fB 10) 128) (nB11 : own_N B11 (fB 11) 128) (nC0 : own_N C0 (fC 0) 128) (nC1 : own_N C1 (fC 1) 128) (nC2 : own_N C2 (fC 2) 128) (nC3 : own_N C3 (fC 3) 128) (nC4 : own_N C4 (fC 4) 128) (nC5 : own_N C5 (fC 5) 128) (nC6 : own_N C6 (fC 6) 128) (nC7 : own_N C7 (fC 7) 128) (nY0 : own_N Y0 (fY 0) 128) (nY1 : own_N Y1 (fY 1) 128) (nY2 : own_N Y2 (fY 2) 128) (nY3 : own_N Y3 (fY 3) 128) (nY4 : own_N Y4 (fY 4) 128) (nY5 : own_N Y5 (fY 5) 128) :
    MetFree l yC (head1 (Jvm.Cond.code yC prog_42_method_3_code 14 (some .double) :: ws) ({ frames := 0, cells := 0, slots := 0, locals := 0 } : Room)) (fun az Uz => az = #[(.ref a), (.ref rs)] ∧ Z.Warmed39 Uz.vm ∧ Uz.heap = h0) (fun _ _ _ _ _ => True) (fun _ Uz oz Vz => ∃ vz Lz, oz = .returned vz ∧ (Q_rmC2 Z a rg rb rc rs fG fB fC fY G0 G1 G2 G3 G4 G5 B0 B1 B2 B3 B4 B5 B6 B7 B8 B9 B10 B11 C0 C1 C2 C3 C4 C5 C6 C7 Y0 Y1 Y2 Y3 Y4 Y5 h0 n0) vz Vz.heap Lz ∧ FrameEnd Uz oz Vz Lz ({ frames := 0, cells := 0, slots := 0, locals := 0 } : Room).cells ({ frames := 0, cells := 0, slots := 0, locals := 0 } : Room).slots) := by
  refine MetFree.of_bodySF (plainFor_of_name pnQ) hisR ?_
  intro p e s m args below meth c s₁ Bd hml0 hP hK
  obtain ⟨rfl, hZ, hh⟩ := hP
  have hx := Bd.exec
  have hby := Bd.bytes
  have hlk := BodyLoose.notSynchronized Bd
  have hml : c.maxLocals = 14 := hml0
  have hown : s.vm.findClass "com/example/mantleray/mantleray/QuadraticModel" = some m.cls := findClass_of_methodNamed Bd.named
  have hnm := (name_of_methodNamed Bd.named Bd.method).1
  have X0 : Stand p l e ({ frames := 0, cells := 0, slots := 0, locals := 0 } : Room) s m #[(.ref a), (.ref rs)] below meth c s₁ [] 0 0 := Stand.of_body Bd
  have e0 : s₁.heap = h0 := by rw [← hh, Bd.state]; rfl
  have N0 := Fr.nil n0
  show own_Win p e below s (Q_rmC2 Z a rg rb rc rs fG fB fC fY G0 G1 G2 G3 G4 G5 B0 B1 B2 B3 B4 B5 B6 B7 B8 B9 B10 B11 C0 C1 C2 C3 C4 C5 C6 C7 Y0 Y1 Y2 Y3 Y4 Y5 h0 n0) _ _ _
  refine own_st (fun tz kz => castTop (efC m a rs) kz) ?_
  show own_Win p e below s _ _ _ (s₁.setTop (mkF m 0 #[.val (.ref a), .val (.ref rs), .unset, .unset, .unset, .unset, .unset, .unset, .unset, .unset, .unset, .unset, .unset, .unset] []))
  obtain ⟨Ls1, hLs1⟩ : ∃ L : Array Slot, L = #[.val (.ref a), .val (.ref rs), .unset, .unset, .unset, .unset, .unset, .unset, .unset, .unset, .unset, .unset, .unset, .unset] := ⟨_, rfl⟩
  rw [← hLs1]
  show own_Win p e below s _ _ _ (s₁.setTop (mkF m 0 Ls1 []))
  refine own_st (fun _ kz => XS.dconst0 X0.here hx rfl (hb hby dc_0) rfl kz) ?_
  show own_Win p e below s _ _ _ (s₁.setTop (mkF m 1 Ls1 [(.double (FP.dconst0))]))
  obtain ⟨Ls2, hLs2⟩ : ∃ L : Array Slot, L = #[.val (.ref a), .val (.ref rs), .val (.double (FP.dconst0)), .second, .unset, .unset, .unset, .unset, .unset, .unset, .unset, .unset, .unset, .unset] := ⟨_, rfl⟩
  refine own_st (fun _ kz => XS.dstoreN X0.here hx rfl (hb hby dc_1) rfl (l' := Ls2) (by show storeLocals Ls1 _ _ = _; rw [hLs1, hLs2]; rfl) kz) ?_
  show own_Win p e below s _ _ _ (s₁.setTop (mkF m 2 Ls2 []))
  refine own_st (fun _ kz => XS.iconst X0.here hx rfl (hb hby dc_2) kz) ?_
  show own_Win p e below s _ _ _ (s₁.setTop (mkF m 3 Ls2 [(.int (0 : Int32))]))
  obtain ⟨Ls3, hLs3⟩ : ∃ L : Array Slot, L = #[.val (.ref a), .val (.ref rs), .val (.double (FP.dconst0)), .second, .val (.int (0 : Int32)), .unset, .unset, .unset, .unset, .unset, .unset, .unset, .unset, .unset] := ⟨_, rfl⟩
  refine own_st (fun _ kz => XS.istore X0.here hx rfl (hb hby dc_3) rfl (l' := Ls3) (by show storeLocals Ls2 _ _ = _; rw [hLs2, hLs3]; rfl) kz) ?_
  show own_Win p e below s _ _ _ (s₁.setTop (mkF m 5 Ls3 []))
  refine own_st (fun _ kz => XS.iload X0.here hx rfl (v := (0 : Int32)) (hb hby dc_5) (by show Ls3[_]? = _; rw [hLs3]; rfl) kz) ?_
  show own_Win p e below s _ _ _ (s₁.setTop (mkF m 7 Ls3 [(.int (0 : Int32))]))
  refine own_st (fun _ kz => XS.aloadN X0.here hx rfl (v := (.ref a)) (hb hby dc_7) (by show Ls3[_]? = _; rw [hLs3]; rfl) rfl kz) ?_
  show own_Win p e below s _ _ _ (s₁.setTop (mkF m 8 Ls3 [(.ref a), (.int (0 : Int32))]))
  obtain ⟨T1, X1, e1, st1⟩ := getF X0 hx hZ hown (host := "") (Or.inl (hw _ (List.mem_of_getElem? (i := 14) rfl))) Via.refl e0 f_points (g := (mkF m 8 Ls3 [(.ref a), (.int (0 : Int32))])) rfl rfl (hb hby dc_8)
  refine own_st st1 ?_
  show own_Win p e below s _ _ _ (T1.setTop (mkF m 11 Ls3 [(.int (2 : Int32)), (.int (0 : Int32))]))
  refine own_st (fun _ kz => XS.icmpNo X1.here hx rfl (hb hby dc_11) rfl (by decide) kz) ?_
  show own_Win p e below s _ _ _ (T1.setTop (mkF m 14 Ls3 []))
  refine own_st (fun _ kz => XS.aloadN X1.here hx rfl (v := (.ref rs)) (hb hby dc_14) (by show Ls3[_]? = _; rw [hLs3]; rfl) rfl kz) ?_
  show own_Win p e below s _ _ _ (T1.setTop (mkF m 15 Ls3 [(.ref rs)]))
  refine own_st (fun _ kz => XS.iconst X1.here hx rfl (hb hby dc_15) kz) ?_
  show own_Win p e below s _ _ _ (T1.setTop (mkF m 16 Ls3 [(.int (2 : Int32)), (.ref rs)]))
  refine own_st (fun _ kz => XS.iload X1.here hx rfl (v := (0 : Int32)) (hb hby dc_16) (by show Ls3[_]? = _; rw [hLs3]; rfl) kz) ?_
  show own_Win p e below s _ _ _ (T1.setTop (mkF m 18 Ls3 [(.int (0 : Int32)), (.int (2 : Int32)), (.ref rs)]))
  refine own_st (fun _ kz => XS.imul X1.here hx rfl (hb hby dc_18) rfl kz) ?_
  show own_Win p e below s _ _ _ (T1.setTop (mkF m 19 Ls3 [(.int ((2 : Int32) * (0 : Int32))), (.ref rs)]))
  show own_Win p e below s _ _ _ (T1.setTop (mkF m 19 Ls3 [(.int (0 : Int32)), (.ref rs)]))
  show own_Win p e below s _ _ _ (T1.setTop (mkF m 19 Ls3 [(.int (0 : Int32)), (.ref rs)]))
  refine own_daload X1 hx hZ e1 F_Y (i := 0) rfl (by decide) (x := (fY 0)) rfl rfl rfl (hb hby dc_19) ?_
  show own_Win p e below s _ _ _ (T1.setTop (mkF m 20 Ls3 [(.double (fY 0))]))
  obtain ⟨Ls4, hLs4⟩ : ∃ L : Array Slot, L = #[.val (.ref a), .val (.ref rs), .val (.double (FP.dconst0)), .second, .val (.int (0 : Int32)), .val (.double (fY 0)), .second, .unset, .unset, .unset, .unset, .unset, .unset, .unset] := ⟨_, rfl⟩
  refine own_st (fun _ kz => XS.dstore X1.here hx rfl (hb hby dc_20) rfl (l' := Ls4) (by show storeLocals Ls3 _ _ = _; rw [hLs3, hLs4]; rfl) kz) ?_
  show own_Win p e below s _ _ _ (T1.setTop (mkF m 22 Ls4 []))
  refine own_st (fun _ kz => XS.aloadN X1.here hx rfl (v := (.ref rs)) (hb hby dc_22) (by show Ls4[_]? = _; rw [hLs4]; rfl) rfl kz) ?_
  show own_Win p e below s _ _ _ (T1.setTop (mkF m 23 Ls4 [(.ref rs)]))
  refine own_st (fun _ kz => XS.iconst X1.here hx rfl (hb hby dc_23) kz) ?_
  show own_Win p e below s _ _ _ (T1.setTop (mkF m 24 Ls4 [(.int (2 : Int32)), (.ref rs)]))
  refine own_st (fun _ kz => XS.iload X1.here hx rfl (v := (0 : Int32)) (hb hby dc_24) (by show Ls4[_]? = _; rw [hLs4]; rfl) kz) ?_
  show own_Win p e below s _ _ _ (T1.setTop (mkF m 26 Ls4 [(.int (0 : Int32)), (.int (2 : Int32)), (.ref rs)]))
  refine own_st (fun _ kz => XS.imul X1.here hx rfl (hb hby dc_26) rfl kz) ?_
  show own_Win p e below s _ _ _ (T1.setTop (mkF m 27 Ls4 [(.int ((2 : Int32) * (0 : Int32))), (.ref rs)]))
  show own_Win p e below s _ _ _ (T1.setTop (mkF m 27 Ls4 [(.int (0 : Int32)), (.ref rs)]))
  refine own_st (fun _ kz => XS.iconst X1.here hx rfl (hb hby dc_27) kz) ?_
  show own_Win p e below s _ _ _ (T1.setTop (mkF m 28 Ls4 [(.int (1 : Int32)), (.int (0 : Int32)), (.ref rs)]))
  refine own_st (fun _ kz => XS.iadd X1.here hx rfl (hb hby dc_28) rfl kz) ?_
  show own_Win p e below s _ _ _ (T1.setTop (mkF m 29 Ls4 [(.int ((0 : Int32) + (1 : Int32))), (.ref rs)]))
  show own_Win p e below s _ _ _ (T1.setTop (mkF m 29 Ls4 [(.int (1 : Int32)), (.ref rs)]))
  show own_Win p e below s _ _ _ (T1.setTop (mkF m 29 Ls4 [(.int (1 : Int32)), (.ref rs)]))
  refine own_daload X1 hx hZ e1 F_Y (i := 1) rfl (by decide) (x := (fY 1)) rfl rfl rfl (hb hby dc_29) ?_
  show own_Win p e below s _ _ _ (T1.setTop (mkF m 30 Ls4 [(.double (fY 1))]))
  obtain ⟨Ls5, hLs5⟩ : ∃ L : Array Slot, L = #[.val (.ref a), .val (.ref rs), .val (.double (FP.dconst0)), .second, .val (.int (0 : Int32)), .val (.double (fY 0)), .second, .val (.double (fY 1)), .second, .unset, .unset, .unset, .unset, .unset] := ⟨_, rfl⟩
  refine own_st (fun _ kz => XS.dstore X1.here hx rfl (hb hby dc_30) rfl (l' := Ls5) (by show storeLocals Ls4 _ _ = _; rw [hLs4, hLs5]; rfl) kz) ?_
  show own_Win p e below s _ _ _ (T1.setTop (mkF m 32 Ls5 []))
  refine own_st (fun _ kz => XS.iconst X1.here hx rfl (hb hby dc_32) kz) ?_
  show own_Win p e below s _ _ _ (T1.setTop (mkF m 33 Ls5 [(.int (4 : Int32))]))
  refine own_st (fun _ kz => XS.iload X1.here hx rfl (v := (0 : Int32)) (hb hby dc_33) (by show Ls5[_]? = _; rw [hLs5]; rfl) kz) ?_
  show own_Win p e below s _ _ _ (T1.setTop (mkF m 35 Ls5 [(.int (0 : Int32)), (.int (4 : Int32))]))
  refine own_st (fun _ kz => XS.imul X1.here hx rfl (hb hby dc_35) rfl kz) ?_
  show own_Win p e below s _ _ _ (T1.setTop (mkF m 36 Ls5 [(.int ((4 : Int32) * (0 : Int32)))]))
  show own_Win p e below s _ _ _ (T1.setTop (mkF m 36 Ls5 [(.int (0 : Int32))]))
  obtain ⟨Ls6, hLs6⟩ : ∃ L : Array Slot, L = #[.val (.ref a), .val (.ref rs), .val (.double (FP.dconst0)), .second, .val (.int (0 : Int32)), .val (.double (fY 0)), .second, .val (.double (fY 1)), .second, .val (.int (0 : Int32)), .unset, .unset, .unset, .unset] := ⟨_, rfl⟩
  refine own_st (fun _ kz => XS.istore X1.here hx rfl (hb hby dc_36) rfl (l' := Ls6) (by show storeLocals Ls5 _ _ = _; rw [hLs5, hLs6]; rfl) kz) ?_
  show own_Win p e below s _ _ _ (T1.setTop (mkF m 38 Ls6 []))
  refine own_st (fun _ kz => XS.dloadN X1.here hx rfl (v := (FP.dconst0)) (hb hby dc_38) (by show Ls6[_]? = _; rw [hLs6]; rfl) kz) ?_
  show own_Win p e below s _ _ _ (T1.setTop (mkF m 39 Ls6 [(.double (FP.dconst0))]))
  refine own_st (fun _ kz => XS.aloadN X1.here hx rfl (v := (.ref a)) (hb hby dc_39) (by show Ls6[_]? = _; rw [hLs6]; rfl) rfl kz) ?_
  show own_Win p e below s _ _ _ (T1.setTop (mkF m 40 Ls6 [(.ref a), (.double (FP.dconst0))]))
  obtain ⟨T2, X2, e2, st2⟩ := getF X1 hx hZ hown (host := "") (Or.inl (hw _ (List.mem_of_getElem? (i := 16) rfl))) Via.refl e1 f_gradient (g := (mkF m 40 Ls6 [(.ref a), (.double (FP.dconst0))])) rfl rfl (hb hby dc_40)
  refine own_st st2 ?_
  show own_Win p e below s _ _ _ (T2.setTop (mkF m 43 Ls6 [(.ref rg), (.double (FP.dconst0))]))
  refine own_st (fun _ kz => XS.iconst X2.here hx rfl (hb hby dc_43) kz) ?_
  show own_Win p e below s _ _ _ (T2.setTop (mkF m 44 Ls6 [(.int (2 : Int32)), (.ref rg), (.double (FP.dconst0))]))
  refine own_st (fun _ kz => XS.iload X2.here hx rfl (v := (0 : Int32)) (hb hby dc_44) (by show Ls6[_]? = _; rw [hLs6]; rfl) kz) ?_
  show own_Win p e below s _ _ _ (T2.setTop (mkF m 46 Ls6 [(.int (0 : Int32)), (.int (2 : Int32)), (.ref rg), (.double (FP.dconst0))]))
  refine own_st (fun _ kz => XS.imul X2.here hx rfl (hb hby dc_46) rfl kz) ?_
  show own_Win p e below s _ _ _ (T2.setTop (mkF m 47 Ls6 [(.int ((2 : Int32) * (0 : Int32))), (.ref rg), (.double (FP.dconst0))]))
  show own_Win p e below s _ _ _ (T2.setTop (mkF m 47 Ls6 [(.int (0 : Int32)), (.ref rg), (.double (FP.dconst0))]))
  show own_Win p e below s _ _ _ (T2.setTop (mkF m 47 Ls6 [(.int (0 : Int32)), (.ref rg), (.double (FP.dconst0))]))
  refine own_daload X2 hx hZ e2 F_G (i := 0) rfl (by decide) (x := (fG 0)) rfl rfl rfl (hb hby dc_47) ?_
  show own_Win p e below s _ _ _ (T2.setTop (mkF m 48 Ls6 [(.double (fG 0)), (.double (FP.dconst0))]))
  refine own_st (fun _ kz => XS.dload X2.here hx rfl (v := (fY 0)) (hb hby dc_48) (by show Ls6[_]? = _; rw [hLs6]; rfl) kz) ?_
  show own_Win p e below s _ _ _ (T2.setTop (mkF m 50 Ls6 [(.double (fY 0)), (.double (fG 0)), (.double (FP.dconst0))]))
  obtain ⟨z1, hz1⟩ : ∃ z, (FP.dmul (fG 0) (fY 0)) = z := ⟨_, rfl⟩
  have dz1 := own_Nm nG0 nY0 (by decide)
  rw [hz1] at dz1
  refine own_st (fun _ kz => XS.dmulS X2.here hx rfl (hb hby dc_50) rfl (by rw [hz1]; exact own_Nn dz1) hz1 kz) ?_
  show own_Win p e below s _ _ _ (T2.setTop (mkF m 51 Ls6 [(.double z1), (.double (FP.dconst0))]))
  refine own_st (fun _ kz => XS.aloadN X2.here hx rfl (v := (.ref a)) (hb hby dc_51) (by show Ls6[_]? = _; rw [hLs6]; rfl) rfl kz) ?_
  show own_Win p e below s _ _ _ (T2.setTop (mkF m 52 Ls6 [(.ref a), (.double z1), (.double (FP.dconst0))]))
  obtain ⟨T3, X3, e3, st3⟩ := getF X2 hx hZ hown (host := "") (Or.inl (hw _ (List.mem_of_getElem? (i := 16) rfl))) Via.refl e2 f_gradient (g := (mkF m 52 Ls6 [(.ref a), (.double z1), (.double (FP.dconst0))])) rfl rfl (hb hby dc_52)
  refine own_st st3 ?_
  show own_Win p e below s _ _ _ (T3.setTop (mkF m 55 Ls6 [(.ref rg), (.double z1), (.double (FP.dconst0))]))
  refine own_st (fun _ kz => XS.iconst X3.here hx rfl (hb hby dc_55) kz) ?_
  show own_Win p e below s _ _ _ (T3.setTop (mkF m 56 Ls6 [(.int (2 : Int32)), (.ref rg), (.double z1), (.double (FP.dconst0))]))
  refine own_st (fun _ kz => XS.iload X3.here hx rfl (v := (0 : Int32)) (hb hby dc_56) (by show Ls6[_]? = _; rw [hLs6]; rfl) kz) ?_
  show own_Win p e below s _ _ _ (T3.setTop (mkF m 58 Ls6 [(.int (0 : Int32)), (.int (2 : Int32)), (.ref rg), (.double z1), (.double (FP.dconst0))]))
  refine own_st (fun _ kz => XS.imul X3.here hx rfl (hb hby dc_58) rfl kz) ?_
  show own_Win p e below s _ _ _ (T3.setTop (mkF m 59 Ls6 [(.int ((2 : Int32) * (0 : Int32))), (.ref rg), (.double z1), (.double (FP.dconst0))]))
  show own_Win p e below s _ _ _ (T3.setTop (mkF m 59 Ls6 [(.int (0 : Int32)), (.ref rg), (.double z1), (.double (FP.dconst0))]))
  refine own_st (fun _ kz => XS.iconst X3.here hx rfl (hb hby dc_59) kz) ?_
  show own_Win p e below s _ _ _ (T3.setTop (mkF m 60 Ls6 [(.int (1 : Int32)), (.int (0 : Int32)), (.ref rg), (.double z1), (.double (FP.dconst0))]))
  refine own_st (fun _ kz => XS.iadd X3.here hx rfl (hb hby dc_60) rfl kz) ?_
  show own_Win p e below s _ _ _ (T3.setTop (mkF m 61 Ls6 [(.int ((0 : Int32) + (1 : Int32))), (.ref rg), (.double z1), (.double (FP.dconst0))]))
  show own_Win p e below s _ _ _ (T3.setTop (mkF m 61 Ls6 [(.int (1 : Int32)), (.ref rg), (.double z1), (.double (FP.dconst0))]))
  show own_Win p e below s _ _ _ (T3.setTop (mkF m 61 Ls6 [(.int (1 : Int32)), (.ref rg), (.double z1), (.double (FP.dconst0))]))
  refine own_daload X3 hx hZ e3 F_G (i := 1) rfl (by decide) (x := (fG 1)) rfl rfl rfl (hb hby dc_61) ?_
  show own_Win p e below s _ _ _ (T3.setTop (mkF m 62 Ls6 [(.double (fG 1)), (.double z1), (.double (FP.dconst0))]))
  refine own_st (fun _ kz => XS.dload X3.here hx rfl (v := (fY 1)) (hb hby dc_62) (by show Ls6[_]? = _; rw [hLs6]; rfl) kz) ?_
  show own_Win p e below s _ _ _ (T3.setTop (mkF m 64 Ls6 [(.double (fY 1)), (.double (fG 1)), (.double z1), (.double (FP.dconst0))]))
  obtain ⟨z2, hz2⟩ : ∃ z, (FP.dmul (fG 1) (fY 1)) = z := ⟨_, rfl⟩
  have dz2 := own_Nm nG1 nY1 (by decide)
  rw [hz2] at dz2
  refine own_st (fun _ kz => XS.dmulS X3.here hx rfl (hb hby dc_64) rfl (by rw [hz2]; exact own_Nn dz2) hz2 kz) ?_
  show own_Win p e below s _ _ _ (T3.setTop (mkF m 65 Ls6 [(.double z2), (.double z1), (.double (FP.dconst0))]))
  obtain ⟨z3, hz3⟩ : ∃ z, (FP.dadd z1 z2) = z := ⟨_, rfl⟩
  have dz3 := own_Na dz1 dz2 (by decide)
  rw [hz3] at dz3
  refine own_st (fun _ kz => XS.daddS X3.here hx rfl (hb hby dc_65) rfl (by rw [hz3]; exact own_Nn dz3) hz3 kz) ?_
  show own_Win p e below s _ _ _ (T3.setTop (mkF m 66 Ls6 [(.double z3), (.double (FP.dconst0))]))
  obtain ⟨z4, hz4⟩ : ∃ z, (FP.dadd (FP.dconst0) z3) = z := ⟨_, rfl⟩
  have dz4 := own_Na own_N0 dz3 (by decide)
  rw [hz4] at dz4
  refine own_st (fun _ kz => XS.daddS X3.here hx rfl (hb hby dc_66) rfl (by rw [hz4]; exact own_Nn dz4) hz4 kz) ?_
  show own_Win p e below s _ _ _ (T3.setTop (mkF m 67 Ls6 [(.double z4)]))
  obtain ⟨Ls7, hLs7⟩ : ∃ L : Array Slot, L = #[.val (.ref a), .val (.ref rs), .val (.double z4), .second, .val (.int (0 : Int32)), .val (.double (fY 0)), .second, .val (.double (fY 1)), .second, .val (.int (0 : Int32)), .unset, .unset, .unset, .unset] := ⟨_, rfl⟩
  refine own_st (fun _ kz => XS.dstoreN X3.here hx rfl (hb hby dc_67) rfl (l' := Ls7) (by show storeLocals Ls6 _ _ = _; rw [hLs6, hLs7]; rfl) kz) ?_
  show own_Win p e below s _ _ _ (T3.setTop (mkF m 68 Ls7 []))
  refine own_st (fun _ kz => XS.dloadN X3.here hx rfl (v := z4) (hb hby dc_68) (by show Ls7[_]? = _; rw [hLs7]; rfl) kz) ?_
  show own_Win p e below s _ _ _ (T3.setTop (mkF m 69 Ls7 [(.double z4)]))
  refine own_st (fun _ kz => XS.dload X3.here hx rfl (v := (fY 0)) (hb hby dc_69) (by show Ls7[_]? = _; rw [hLs7]; rfl) kz) ?_
  show own_Win p e below s _ _ _ (T3.setTop (mkF m 71 Ls7 [(.double (fY 0)), (.double z4)]))
  refine own_st (fun _ kz => XS.aloadN X3.here hx rfl (v := (.ref a)) (hb hby dc_71) (by show Ls7[_]? = _; rw [hLs7]; rfl) rfl kz) ?_
  show own_Win p e below s _ _ _ (T3.setTop (mkF m 72 Ls7 [(.ref a), (.double (fY 0)), (.double z4)]))
  obtain ⟨T4, X4, e4, st4⟩ := getF X3 hx hZ hown (host := "") (Or.inl (hw _ (List.mem_of_getElem? (i := 19) rfl))) Via.refl e3 f_blocks (g := (mkF m 72 Ls7 [(.ref a), (.double (fY 0)), (.double z4)])) rfl rfl (hb hby dc_72)
  refine own_st st4 ?_
  show own_Win p e below s _ _ _ (T4.setTop (mkF m 75 Ls7 [(.ref rb), (.double (fY 0)), (.double z4)]))
  refine own_st (fun _ kz => XS.iload X4.here hx rfl (v := (0 : Int32)) (hb hby dc_75) (by show Ls7[_]? = _; rw [hLs7]; rfl) kz) ?_
  show own_Win p e below s _ _ _ (T4.setTop (mkF m 77 Ls7 [(.int (0 : Int32)), (.ref rb), (.double (fY 0)), (.double z4)]))
  show own_Win p e below s _ _ _ (T4.setTop (mkF m 77 Ls7 [(.int (0 : Int32)), (.ref rb), (.double (fY 0)), (.double z4)]))
  refine own_daload X4 hx hZ e4 F_B (i := 0) rfl (by decide) (x := (fB 0)) rfl rfl rfl (hb hby dc_77) ?_
  show own_Win p e below s _ _ _ (T4.setTop (mkF m 78 Ls7 [(.double (fB 0)), (.double (fY 0)), (.double z4)]))
  refine own_st (fun _ kz => XS.dload X4.here hx rfl (v := (fY 0)) (hb hby dc_78) (by show Ls7[_]? = _; rw [hLs7]; rfl) kz) ?_
  show own_Win p e below s _ _ _ (T4.setTop (mkF m 80 Ls7 [(.double (fY 0)), (.double (fB 0)), (.double (fY 0)), (.double z4)]))
  obtain ⟨z5, hz5⟩ : ∃ z, (FP.dmul (fB 0) (fY 0)) = z := ⟨_, rfl⟩
  have dz5 := own_Nm nB0 nY0 (by decide)
  rw [hz5] at dz5
  refine own_st (fun _ kz => XS.dmulS X4.here hx rfl (hb hby dc_80) rfl (by rw [hz5]; exact own_Nn dz5) hz5 kz) ?_
  show own_Win p e below s _ _ _ (T4.setTop (mkF m 81 Ls7 [(.double z5), (.double (fY 0)), (.double z4)]))
  refine own_st (fun _ kz => XS.aloadN X4.here hx rfl (v := (.ref a)) (hb hby dc_81) (by show Ls7[_]? = _; rw [hLs7]; rfl) rfl kz) ?_
  show own_Win p e below s _ _ _ (T4.setTop (mkF m 82 Ls7 [(.ref a), (.double z5), (.double (fY 0)), (.double z4)]))
  obtain ⟨T5, X5, e5, st5⟩ := getF X4 hx hZ hown (host := "") (Or.inl (hw _ (List.mem_of_getElem? (i := 19) rfl))) Via.refl e4 f_blocks (g := (mkF m 82 Ls7 [(.ref a), (.double z5), (.double (fY 0)), (.double z4)])) rfl rfl (hb hby dc_82)
  refine own_st st5 ?_
  show own_Win p e below s _ _ _ (T5.setTop (mkF m 85 Ls7 [(.ref rb), (.double z5), (.double (fY 0)), (.double z4)]))
  refine own_st (fun _ kz => XS.iload X5.here hx rfl (v := (0 : Int32)) (hb hby dc_85) (by show Ls7[_]? = _; rw [hLs7]; rfl) kz) ?_
  show own_Win p e below s _ _ _ (T5.setTop (mkF m 87 Ls7 [(.int (0 : Int32)), (.ref rb), (.double z5), (.double (fY 0)), (.double z4)]))
  refine own_st (fun _ kz => XS.iconst X5.here hx rfl (hb hby dc_87) kz) ?_
  show own_Win p e below s _ _ _ (T5.setTop (mkF m 88 Ls7 [(.int (1 : Int32)), (.int (0 : Int32)), (.ref rb), (.double z5), (.double (fY 0)), (.double z4)]))
  refine own_st (fun _ kz => XS.iadd X5.here hx rfl (hb hby dc_88) rfl kz) ?_
  show own_Win p e below s _ _ _ (T5.setTop (mkF m 89 Ls7 [(.int ((0 : Int32) + (1 : Int32))), (.ref rb), (.double z5), (.double (fY 0)), (.double z4)]))
  show own_Win p e below s _ _ _ (T5.setTop (mkF m 89 Ls7 [(.int (1 : Int32)), (.ref rb), (.double z5), (.double (fY 0)), (.double z4)]))
  show own_Win p e below s _ _ _ (T5.setTop (mkF m 89 Ls7 [(.int (1 : Int32)), (.ref rb), (.double z5), (.double (fY 0)), (.double z4)]))
  refine own_daload X5 hx hZ e5 F_B (i := 1) rfl (by decide) (x := (fB 1)) rfl rfl rfl (hb hby dc_89) ?_
  show own_Win p e below s _ _ _ (T5.setTop (mkF m 90 Ls7 [(.double (fB 1)), (.double z5), (.double (fY 0)), (.double z4)]))
  refine own_st (fun _ kz => XS.dload X5.here hx rfl (v := (fY 1)) (hb hby dc_90) (by show Ls7[_]? = _; rw [hLs7]; rfl) kz) ?_
  show own_Win p e below s _ _ _ (T5.setTop (mkF m 92 Ls7 [(.double (fY 1)), (.double (fB 1)), (.double z5), (.double (fY 0)), (.double z4)]))
  obtain ⟨z6, hz6⟩ : ∃ z, (FP.dmul (fB 1) (fY 1)) = z := ⟨_, rfl⟩
  have dz6 := own_Nm nB1 nY1 (by decide)
  rw [hz6] at dz6
  refine own_st (fun _ kz => XS.dmulS X5.here hx rfl (hb hby dc_92) rfl (by rw [hz6]; exact own_Nn dz6) hz6 kz) ?_
  show own_Win p e below s _ _ _ (T5.setTop (mkF m 93 Ls7 [(.double z6), (.double z5), (.double (fY 0)), (.double z4)]))
  obtain ⟨z7, hz7⟩ : ∃ z, (FP.dadd z5 z6) = z := ⟨_, rfl⟩
  have dz7 := own_Na dz5 dz6 (by decide)
  rw [hz7] at dz7
  refine own_st (fun _ kz => XS.daddS X5.here hx rfl (hb hby dc_93) rfl (by rw [hz7]; exact own_Nn dz7) hz7 kz) ?_
  show own_Win p e below s _ _ _ (T5.setTop (mkF m 94 Ls7 [(.double z7), (.double (fY 0)), (.double z4)]))
  obtain ⟨z8, hz8⟩ : ∃ z, (FP.dmul (fY 0) z7) = z := ⟨_, rfl⟩
  have dz8 := own_Nm nY0 dz7 (by decide)
  rw [hz8] at dz8
  refine own_st (fun _ kz => XS.dmulS X5.here hx rfl (hb hby dc_94) rfl (by rw [hz8]; exact own_Nn dz8) hz8 kz) ?_
  show own_Win p e below s _ _ _ (T5.setTop (mkF m 95 Ls7 [(.double z8), (.double z4)]))
  refine own_st (fun _ kz => XS.dload X5.here hx rfl (v := (fY 1)) (hb hby dc_95) (by show Ls7[_]? = _; rw [hLs7]; rfl) kz) ?_
  show own_Win p e below s _ _ _ (T5.setTop (mkF m 97 Ls7 [(.double (fY 1)), (.double z8), (.double z4)]))
  refine own_st (fun _ kz => XS.aloadN X5.here hx rfl (v := (.ref a)) (hb hby dc_97) (by show Ls7[_]? = _; rw [hLs7]; rfl) rfl kz) ?_
  show own_Win p e below s _ _ _ (T5.setTop (mkF m 98 Ls7 [(.ref a), (.double (fY 1)), (.double z8), (.double z4)]))
  obtain ⟨T6, X6, e6, st6⟩ := getF X5 hx hZ hown (host := "") (Or.inl (hw _ (List.mem_of_getElem? (i := 19) rfl))) Via.refl e5 f_blocks (g := (mkF m 98 Ls7 [(.ref a), (.double (fY 1)), (.double z8), (.double z4)])) rfl rfl (hb hby dc_98)
  refine own_st st6 ?_
  show own_Win p e below s _ _ _ (T6.setTop (mkF m 101 Ls7 [(.ref rb), (.double (fY 1)), (.double z8), (.double z4)]))
  refine own_st (fun _ kz => XS.iload X6.here hx rfl (v := (0 : Int32)) (hb hby dc_101) (by show Ls7[_]? = _; rw [hLs7]; rfl) kz) ?_
  show own_Win p e below s _ _ _ (T6.setTop (mkF m 103 Ls7 [(.int (0 : Int32)), (.ref rb), (.double (fY 1)), (.double z8), (.double z4)]))
  refine own_st (fun _ kz => XS.iconst X6.here hx rfl (hb hby dc_103) kz) ?_
  show own_Win p e below s _ _ _ (T6.setTop (mkF m 104 Ls7 [(.int (2 : Int32)), (.int (0 : Int32)), (.ref rb), (.double (fY 1)), (.double z8), (.double z4)]))
  refine own_st (fun _ kz => XS.iadd X6.here hx rfl (hb hby dc_104) rfl kz) ?_
  show own_Win p e below s _ _ _ (T6.setTop (mkF m 105 Ls7 [(.int ((0 : Int32) + (2 : Int32))), (.ref rb), (.double (fY 1)), (.double z8), (.double z4)]))
  show own_Win p e below s _ _ _ (T6.setTop (mkF m 105 Ls7 [(.int (2 : Int32)), (.ref rb), (.double (fY 1)), (.double z8), (.double z4)]))
  show own_Win p e below s _ _ _ (T6.setTop (mkF m 105 Ls7 [(.int (2 : Int32)), (.ref rb), (.double (fY 1)), (.double z8), (.double z4)]))
  refine own_daload X6 hx hZ e6 F_B (i := 2) rfl (by decide) (x := (fB 2)) rfl rfl rfl (hb hby dc_105) ?_
  show own_Win p e below s _ _ _ (T6.setTop (mkF m 106 Ls7 [(.double (fB 2)), (.double (fY 1)), (.double z8), (.double z4)]))
  refine own_st (fun _ kz => XS.dload X6.here hx rfl (v := (fY 0)) (hb hby dc_106) (by show Ls7[_]? = _; rw [hLs7]; rfl) kz) ?_
  show own_Win p e below s _ _ _ (T6.setTop (mkF m 108 Ls7 [(.double (fY 0)), (.double (fB 2)), (.double (fY 1)), (.double z8), (.double z4)]))
  obtain ⟨z9, hz9⟩ : ∃ z, (FP.dmul (fB 2) (fY 0)) = z := ⟨_, rfl⟩
  have dz9 := own_Nm nB2 nY0 (by decide)
  rw [hz9] at dz9
  refine own_st (fun _ kz => XS.dmulS X6.here hx rfl (hb hby dc_108) rfl (by rw [hz9]; exact own_Nn dz9) hz9 kz) ?_
  show own_Win p e below s _ _ _ (T6.setTop (mkF m 109 Ls7 [(.double z9), (.double (fY 1)), (.double z8), (.double z4)]))
  refine own_st (fun _ kz => XS.aloadN X6.here hx rfl (v := (.ref a)) (hb hby dc_109) (by show Ls7[_]? = _; rw [hLs7]; rfl) rfl kz) ?_
  show own_Win p e below s _ _ _ (T6.setTop (mkF m 110 Ls7 [(.ref a), (.double z9), (.double (fY 1)), (.double z8), (.double z4)]))
  obtain ⟨T7, X7, e7, st7⟩ := getF X6 hx hZ hown (host := "") (Or.inl (hw _ (List.mem_of_getElem? (i := 19) rfl))) Via.refl e6 f_blocks (g := (mkF m 110 Ls7 [(.ref a), (.double z9), (.double (fY 1)), (.double z8), (.double z4)])) rfl rfl (hb hby dc_110)
  refine own_st st7 ?_
  show own_Win p e below s _ _ _ (T7.setTop (mkF m 113 Ls7 [(.ref rb), (.double z9), (.double (fY 1)), (.double z8), (.double z4)]))
  refine own_st (fun _ kz => XS.iload X7.here hx rfl (v := (0 : Int32)) (hb hby dc_113) (by show Ls7[_]? = _; rw [hLs7]; rfl) kz) ?_
  show own_Win p e below s _ _ _ (T7.setTop (mkF m 115 Ls7 [(.int (0 : Int32)), (.ref rb), (.double z9), (.double (fY 1)), (.double z8), (.double z4)]))
  refine own_st (fun _ kz => XS.iconst X7.here hx rfl (hb hby dc_115) kz) ?_
  show own_Win p e below s _ _ _ (T7.setTop (mkF m 116 Ls7 [(.int (3 : Int32)), (.int (0 : Int32)), (.ref rb), (.double z9), (.double (fY 1)), (.double z8), (.double z4)]))
  refine own_st (fun _ kz => XS.iadd X7.here hx rfl (hb hby dc_116) rfl kz) ?_
  show own_Win p e below s _ _ _ (T7.setTop (mkF m 117 Ls7 [(.int ((0 : Int32) + (3 : Int32))), (.ref rb), (.double z9), (.double (fY 1)), (.double z8), (.double z4)]))
  show own_Win p e below s _ _ _ (T7.setTop (mkF m 117 Ls7 [(.int (3 : Int32)), (.ref rb), (.double z9), (.double (fY 1)), (.double z8), (.double z4)]))
  show own_Win p e below s _ _ _ (T7.setTop (mkF m 117 Ls7 [(.int (3 : Int32)), (.ref rb), (.double z9), (.double (fY 1)), (.double z8), (.double z4)]))
  refine own_daload X7 hx hZ e7 F_B (i := 3) rfl (by decide) (x := (fB 3)) rfl rfl rfl (hb hby dc_117) ?_
  show own_Win p e below s _ _ _ (T7.setTop (mkF m 118 Ls7 [(.double (fB 3)), (.double z9), (.double (fY 1)), (.double z8), (.double z4)]))
  refine own_st (fun _ kz => XS.dload X7.here hx rfl (v := (fY 1)) (hb hby dc_118) (by show Ls7[_]? = _; rw [hLs7]; rfl) kz) ?_
  show own_Win p e below s _ _ _ (T7.setTop (mkF m 120 Ls7 [(.double (fY 1)), (.double (fB 3)), (.double z9), (.double (fY 1)), (.double z8), (.double z4)]))
  obtain ⟨z10, hz10⟩ : ∃ z, (FP.dmul (fB 3) (fY 1)) = z := ⟨_, rfl⟩
  have dz10 := own_Nm nB3 nY1 (by decide)
  rw [hz10] at dz10
  refine own_st (fun _ kz => XS.dmulS X7.here hx rfl (hb hby dc_120) rfl (by rw [hz10]; exact own_Nn dz10) hz10 kz) ?_
  show own_Win p e below s _ _ _ (T7.setTop (mkF m 121 Ls7 [(.double z10), (.double z9), (.double (fY 1)), (.double z8), (.double z4)]))
  obtain ⟨z11, hz11⟩ : ∃ z, (FP.dadd z9 z10) = z := ⟨_, rfl⟩
  have dz11 := own_Na dz9 dz10 (by decide)
  rw [hz11] at dz11
  refine own_st (fun _ kz => XS.daddS X7.here hx rfl (hb hby dc_121) rfl (by rw [hz11]; exact own_Nn dz11) hz11 kz) ?_
  show own_Win p e below s _ _ _ (T7.setTop (mkF m 122 Ls7 [(.double z11), (.double (fY 1)), (.double z8), (.double z4)]))
  obtain ⟨z12, hz12⟩ : ∃ z, (FP.dmul (fY 1) z11) = z := ⟨_, rfl⟩
  have dz12 := own_Nm nY1 dz11 (by decide)
  rw [hz12] at dz12
  refine own_st (fun _ kz => XS.dmulS X7.here hx rfl (hb hby dc_122) rfl (by rw [hz12]; exact own_Nn dz12) hz12 kz) ?_
  show own_Win p e below s _ _ _ (T7.setTop (mkF m 123 Ls7 [(.double z12), (.double z8), (.double z4)]))
  obtain ⟨z13, hz13⟩ : ∃ z, (FP.dadd z8 z12) = z := ⟨_, rfl⟩
  have dz13 := own_Na dz8 dz12 (by decide)
  rw [hz13] at dz13
  refine own_st (fun _ kz => XS.daddS X7.here hx rfl (hb hby dc_123) rfl (by rw [hz13]; exact own_Nn dz13) hz13 kz) ?_
  show own_Win p e below s _ _ _ (T7.setTop (mkF m 124 Ls7 [(.double z13), (.double z4)]))
  refine own_st (fun tz kz => X7.ldc2DoubleC hx hown (mvT hZ (hw _ (List.mem_of_getElem? (i := 44) rfl))) (g := (mkF m 124 Ls7 [(.double z13), (.double z4)])) rfl (hb hby dc_124) tz kz) ?_
  show own_Win p e below s _ _ _ (T7.setTop (mkF m 127 Ls7 [(.double (4611686018427387904 : UInt64)), (.double z13), (.double z4)]))
  obtain ⟨z14, hz14⟩ : ∃ z, (FP.ddiv z13 (4611686018427387904 : UInt64)) = z := ⟨_, rfl⟩
  have dz14 := own_Hd dz13 (by decide)
  rw [hz14] at dz14
  refine own_st (fun _ kz => XS.ddivS X7.here hx rfl (hb hby dc_127) rfl (by rw [hz14]; exact own_Hn dz14) hz14 kz) ?_
  show own_Win p e below s _ _ _ (T7.setTop (mkF m 128 Ls7 [(.double z14), (.double z4)]))
  obtain ⟨z15, hz15⟩ : ∃ z, (FP.dadd z4 z14) = z := ⟨_, rfl⟩
  have dz15 := own_Ha (own_Nh dz4) dz14 (by decide)
  rw [hz15] at dz15
  refine own_st (fun _ kz => XS.daddS X7.here hx rfl (hb hby dc_128) rfl (by rw [hz15]; exact own_Hn dz15) hz15 kz) ?_
  show own_Win p e below s _ _ _ (T7.setTop (mkF m 129 Ls7 [(.double z15)]))
  obtain ⟨Ls8, hLs8⟩ : ∃ L : Array Slot, L = #[.val (.ref a), .val (.ref rs), .val (.double z15), .second, .val (.int (0 : Int32)), .val (.double (fY 0)), .second, .val (.double (fY 1)), .second, .val (.int (0 : Int32)), .unset, .unset, .unset, .unset] := ⟨_, rfl⟩
  refine own_st (fun _ kz => XS.dstoreN X7.here hx rfl (hb hby dc_129) rfl (l' := Ls8) (by show storeLocals Ls7 _ _ = _; rw [hLs7, hLs8]; rfl) kz) ?_
  show own_Win p e below s _ _ _ (T7.setTop (mkF m 130 Ls8 []))
  refine own_st (fun _ kz => XS.iload X7.here hx rfl (v := (0 : Int32)) (hb hby dc_130) (by show Ls8[_]? = _; rw [hLs8]; rfl) kz) ?_
  show own_Win p e below s _ _ _ (T7.setTop (mkF m 132 Ls8 [(.int (0 : Int32))]))
  refine own_st (fun _ kz => XS.iconst X7.here hx rfl (hb hby dc_132) kz) ?_
  show own_Win p e below s _ _ _ (T7.setTop (mkF m 133 Ls8 [(.int (1 : Int32)), (.int (0 : Int32))]))
  refine own_st (fun _ kz => XS.iadd X7.here hx rfl (hb hby dc_133) rfl kz) ?_
  show own_Win p e below s _ _ _ (T7.setTop (mkF m 134 Ls8 [(.int ((0 : Int32) + (1 : Int32)))]))
  show own_Win p e below s _ _ _ (T7.setTop (mkF m 134 Ls8 [(.int (1 : Int32))]))
  refine own_st (fun _ kz => XS.aloadN X7.here hx rfl (v := (.ref a)) (hb hby dc_134) (by show Ls8[_]? = _; rw [hLs8]; rfl) rfl kz) ?_
  show own_Win p e below s _ _ _ (T7.setTop (mkF m 135 Ls8 [(.ref a), (.int (1 : Int32))]))
  obtain ⟨T8, X8, e8, st8⟩ := getF X7 hx hZ hown (host := "") (Or.inl (hw _ (List.mem_of_getElem? (i := 14) rfl))) Via.refl e7 f_points (g := (mkF m 135 Ls8 [(.ref a), (.int (1 : Int32))])) rfl rfl (hb hby dc_135)
  refine own_st st8 ?_
  show own_Win p e below s _ _ _ (T8.setTop (mkF m 138 Ls8 [(.int (2 : Int32)), (.int (1 : Int32))]))
  refine own_st (fun _ kz => XS.icmpNo X8.here hx rfl (hb hby dc_138) rfl (by decide) kz) ?_
  show own_Win p e below s _ _ _ (T8.setTop (mkF m 141 Ls8 []))
  refine own_st (fun _ kz => XS.aloadN X8.here hx rfl (v := (.ref rs)) (hb hby dc_141) (by show Ls8[_]? = _; rw [hLs8]; rfl) rfl kz) ?_
  show own_Win p e below s _ _ _ (T8.setTop (mkF m 142 Ls8 [(.ref rs)]))
  refine own_st (fun _ kz => XS.iconst X8.here hx rfl (hb hby dc_142) kz) ?_
  show own_Win p e below s _ _ _ (T8.setTop (mkF m 143 Ls8 [(.int (2 : Int32)), (.ref rs)]))
  refine own_st (fun _ kz => XS.iload X8.here hx rfl (v := (0 : Int32)) (hb hby dc_143) (by show Ls8[_]? = _; rw [hLs8]; rfl) kz) ?_
  show own_Win p e below s _ _ _ (T8.setTop (mkF m 145 Ls8 [(.int (0 : Int32)), (.int (2 : Int32)), (.ref rs)]))
  refine own_st (fun _ kz => XS.imul X8.here hx rfl (hb hby dc_145) rfl kz) ?_
  show own_Win p e below s _ _ _ (T8.setTop (mkF m 146 Ls8 [(.int ((2 : Int32) * (0 : Int32))), (.ref rs)]))
  show own_Win p e below s _ _ _ (T8.setTop (mkF m 146 Ls8 [(.int (0 : Int32)), (.ref rs)]))
  refine own_st (fun _ kz => XS.iconst X8.here hx rfl (hb hby dc_146) kz) ?_
  show own_Win p e below s _ _ _ (T8.setTop (mkF m 147 Ls8 [(.int (2 : Int32)), (.int (0 : Int32)), (.ref rs)]))
  refine own_st (fun _ kz => XS.iadd X8.here hx rfl (hb hby dc_147) rfl kz) ?_
  show own_Win p e below s _ _ _ (T8.setTop (mkF m 148 Ls8 [(.int ((0 : Int32) + (2 : Int32))), (.ref rs)]))
  show own_Win p e below s _ _ _ (T8.setTop (mkF m 148 Ls8 [(.int (2 : Int32)), (.ref rs)]))
  show own_Win p e below s _ _ _ (T8.setTop (mkF m 148 Ls8 [(.int (2 : Int32)), (.ref rs)]))
  refine own_daload X8 hx hZ e8 F_Y (i := 2) rfl (by decide) (x := (fY 2)) rfl rfl rfl (hb hby dc_148) ?_
  show own_Win p e below s _ _ _ (T8.setTop (mkF m 149 Ls8 [(.double (fY 2))]))
  obtain ⟨Ls9, hLs9⟩ : ∃ L : Array Slot, L = #[.val (.ref a), .val (.ref rs), .val (.double z15), .second, .val (.int (0 : Int32)), .val (.double (fY 0)), .second, .val (.double (fY 1)), .second, .val (.int (0 : Int32)), .val (.double (fY 2)), .second, .unset, .unset] := ⟨_, rfl⟩
  refine own_st (fun _ kz => XS.dstore X8.here hx rfl (hb hby dc_149) rfl (l' := Ls9) (by show storeLocals Ls8 _ _ = _; rw [hLs8, hLs9]; rfl) kz) ?_
  show own_Win p e below s _ _ _ (T8.setTop (mkF m 151 Ls9 []))
  refine own_st (fun _ kz => XS.aloadN X8.here hx rfl (v := (.ref rs)) (hb hby dc_151) (by show Ls9[_]? = _; rw [hLs9]; rfl) rfl kz) ?_
  show own_Win p e below s _ _ _ (T8.setTop (mkF m 152 Ls9 [(.ref rs)]))
  refine own_st (fun _ kz => XS.iconst X8.here hx rfl (hb hby dc_152) kz) ?_
  show own_Win p e below s _ _ _ (T8.setTop (mkF m 153 Ls9 [(.int (2 : Int32)), (.ref rs)]))
  refine own_st (fun _ kz => XS.iload X8.here hx rfl (v := (0 : Int32)) (hb hby dc_153) (by show Ls9[_]? = _; rw [hLs9]; rfl) kz) ?_
  show own_Win p e below s _ _ _ (T8.setTop (mkF m 155 Ls9 [(.int (0 : Int32)), (.int (2 : Int32)), (.ref rs)]))
  refine own_st (fun _ kz => XS.imul X8.here hx rfl (hb hby dc_155) rfl kz) ?_
  show own_Win p e below s _ _ _ (T8.setTop (mkF m 156 Ls9 [(.int ((2 : Int32) * (0 : Int32))), (.ref rs)]))
  show own_Win p e below s _ _ _ (T8.setTop (mkF m 156 Ls9 [(.int (0 : Int32)), (.ref rs)]))
  refine own_st (fun _ kz => XS.iconst X8.here hx rfl (hb hby dc_156) kz) ?_
  show own_Win p e below s _ _ _ (T8.setTop (mkF m 157 Ls9 [(.int (3 : Int32)), (.int (0 : Int32)), (.ref rs)]))
  refine own_st (fun _ kz => XS.iadd X8.here hx rfl (hb hby dc_157) rfl kz) ?_
  show own_Win p e below s _ _ _ (T8.setTop (mkF m 158 Ls9 [(.int ((0 : Int32) + (3 : Int32))), (.ref rs)]))
  show own_Win p e below s _ _ _ (T8.setTop (mkF m 158 Ls9 [(.int (3 : Int32)), (.ref rs)]))
  show own_Win p e below s _ _ _ (T8.setTop (mkF m 158 Ls9 [(.int (3 : Int32)), (.ref rs)]))
  refine own_daload X8 hx hZ e8 F_Y (i := 3) rfl (by decide) (x := (fY 3)) rfl rfl rfl (hb hby dc_158) ?_
  show own_Win p e below s _ _ _ (T8.setTop (mkF m 159 Ls9 [(.double (fY 3))]))
  obtain ⟨Ls10, hLs10⟩ : ∃ L : Array Slot, L = #[.val (.ref a), .val (.ref rs), .val (.double z15), .second, .val (.int (0 : Int32)), .val (.double (fY 0)), .second, .val (.double (fY 1)), .second, .val (.int (0 : Int32)), .val (.double (fY 2)), .second, .val (.double (fY 3)), .second] := ⟨_, rfl⟩
  refine own_st (fun _ kz => XS.dstore X8.here hx rfl (hb hby dc_159) rfl (l' := Ls10) (by show storeLocals Ls9 _ _ = _; rw [hLs9, hLs10]; rfl) kz) ?_
  show own_Win p e below s _ _ _ (T8.setTop (mkF m 161 Ls10 []))
  refine own_st (fun _ kz => XS.dloadN X8.here hx rfl (v := z15) (hb hby dc_161) (by show Ls10[_]? = _; rw [hLs10]; rfl) kz) ?_
  show own_Win p e below s _ _ _ (T8.setTop (mkF m 162 Ls10 [(.double z15)]))
  refine own_st (fun _ kz => XS.dload X8.here hx rfl (v := (fY 0)) (hb hby dc_162) (by show Ls10[_]? = _; rw [hLs10]; rfl) kz) ?_
  show own_Win p e below s _ _ _ (T8.setTop (mkF m 164 Ls10 [(.double (fY 0)), (.double z15)]))
  refine own_st (fun _ kz => XS.aloadN X8.here hx rfl (v := (.ref a)) (hb hby dc_164) (by show Ls10[_]? = _; rw [hLs10]; rfl) rfl kz) ?_
  show own_Win p e below s _ _ _ (T8.setTop (mkF m 165 Ls10 [(.ref a), (.double (fY 0)), (.double z15)]))
  obtain ⟨T9, X9, e9, st9⟩ := getF X8 hx hZ hown (host := "") (Or.inl (hw _ (List.mem_of_getElem? (i := 21) rfl))) Via.refl e8 f_coupling (g := (mkF m 165 Ls10 [(.ref a), (.double (fY 0)), (.double z15)])) rfl rfl (hb hby dc_165)
  refine own_st st9 ?_
  show own_Win p e below s _ _ _ (T9.setTop (mkF m 168 Ls10 [(.ref rc), (.double (fY 0)), (.double z15)]))
  refine own_st (fun _ kz => XS.iload X9.here hx rfl (v := (0 : Int32)) (hb hby dc_168) (by show Ls10[_]? = _; rw [hLs10]; rfl) kz) ?_
  show own_Win p e below s _ _ _ (T9.setTop (mkF m 170 Ls10 [(.int (0 : Int32)), (.ref rc), (.double (fY 0)), (.double z15)]))
  show own_Win p e below s _ _ _ (T9.setTop (mkF m 170 Ls10 [(.int (0 : Int32)), (.ref rc), (.double (fY 0)), (.double z15)]))
  refine own_daload X9 hx hZ e9 F_C (i := 0) rfl (by decide) (x := (fC 0)) rfl rfl rfl (hb hby dc_170) ?_
  show own_Win p e below s _ _ _ (T9.setTop (mkF m 171 Ls10 [(.double (fC 0)), (.double (fY 0)), (.double z15)]))
  refine own_st (fun _ kz => XS.dload X9.here hx rfl (v := (fY 2)) (hb hby dc_171) (by show Ls10[_]? = _; rw [hLs10]; rfl) kz) ?_
  show own_Win p e below s _ _ _ (T9.setTop (mkF m 173 Ls10 [(.double (fY 2)), (.double (fC 0)), (.double (fY 0)), (.double z15)]))
  obtain ⟨z16, hz16⟩ : ∃ z, (FP.dmul (fC 0) (fY 2)) = z := ⟨_, rfl⟩
  have dz16 := own_Nm nC0 nY2 (by decide)
  rw [hz16] at dz16
  refine own_st (fun _ kz => XS.dmulS X9.here hx rfl (hb hby dc_173) rfl (by rw [hz16]; exact own_Nn dz16) hz16 kz) ?_
  show own_Win p e below s _ _ _ (T9.setTop (mkF m 174 Ls10 [(.double z16), (.double (fY 0)), (.double z15)]))
  refine own_st (fun _ kz => XS.aloadN X9.here hx rfl (v := (.ref a)) (hb hby dc_174) (by show Ls10[_]? = _; rw [hLs10]; rfl) rfl kz) ?_
  show own_Win p e below s _ _ _ (T9.setTop (mkF m 175 Ls10 [(.ref a), (.double z16), (.double (fY 0)), (.double z15)]))
  obtain ⟨T10, X10, e10, st10⟩ := getF X9 hx hZ hown (host := "") (Or.inl (hw _ (List.mem_of_getElem? (i := 21) rfl))) Via.refl e9 f_coupling (g := (mkF m 175 Ls10 [(.ref a), (.double z16), (.double (fY 0)), (.double z15)])) rfl rfl (hb hby dc_175)
  refine own_st st10 ?_
  show own_Win p e below s _ _ _ (T10.setTop (mkF m 178 Ls10 [(.ref rc), (.double z16), (.double (fY 0)), (.double z15)]))
  refine own_st (fun _ kz => XS.iload X10.here hx rfl (v := (0 : Int32)) (hb hby dc_178) (by show Ls10[_]? = _; rw [hLs10]; rfl) kz) ?_
  show own_Win p e below s _ _ _ (T10.setTop (mkF m 180 Ls10 [(.int (0 : Int32)), (.ref rc), (.double z16), (.double (fY 0)), (.double z15)]))
  refine own_st (fun _ kz => XS.iconst X10.here hx rfl (hb hby dc_180) kz) ?_
  show own_Win p e below s _ _ _ (T10.setTop (mkF m 181 Ls10 [(.int (1 : Int32)), (.int (0 : Int32)), (.ref rc), (.double z16), (.double (fY 0)), (.double z15)]))
  refine own_st (fun _ kz => XS.iadd X10.here hx rfl (hb hby dc_181) rfl kz) ?_
  show own_Win p e below s _ _ _ (T10.setTop (mkF m 182 Ls10 [(.int ((0 : Int32) + (1 : Int32))), (.ref rc), (.double z16), (.double (fY 0)), (.double z15)]))
  show own_Win p e below s _ _ _ (T10.setTop (mkF m 182 Ls10 [(.int (1 : Int32)), (.ref rc), (.double z16), (.double (fY 0)), (.double z15)]))
  show own_Win p e below s _ _ _ (T10.setTop (mkF m 182 Ls10 [(.int (1 : Int32)), (.ref rc), (.double z16), (.double (fY 0)), (.double z15)]))
  refine own_daload X10 hx hZ e10 F_C (i := 1) rfl (by decide) (x := (fC 1)) rfl rfl rfl (hb hby dc_182) ?_
  show own_Win p e below s _ _ _ (T10.setTop (mkF m 183 Ls10 [(.double (fC 1)), (.double z16), (.double (fY 0)), (.double z15)]))
  refine own_st (fun _ kz => XS.dload X10.here hx rfl (v := (fY 3)) (hb hby dc_183) (by show Ls10[_]? = _; rw [hLs10]; rfl) kz) ?_
  show own_Win p e below s _ _ _ (T10.setTop (mkF m 185 Ls10 [(.double (fY 3)), (.double (fC 1)), (.double z16), (.double (fY 0)), (.double z15)]))
  obtain ⟨z17, hz17⟩ : ∃ z, (FP.dmul (fC 1) (fY 3)) = z := ⟨_, rfl⟩
  have dz17 := own_Nm nC1 nY3 (by decide)
  rw [hz17] at dz17
  refine own_st (fun _ kz => XS.dmulS X10.here hx rfl (hb hby dc_185) rfl (by rw [hz17]; exact own_Nn dz17) hz17 kz) ?_
  show own_Win p e below s _ _ _ (T10.setTop (mkF m 186 Ls10 [(.double z17), (.double z16), (.double (fY 0)), (.double z15)]))
  obtain ⟨z18, hz18⟩ : ∃ z, (FP.dadd z16 z17) = z := ⟨_, rfl⟩
  have dz18 := own_Na dz16 dz17 (by decide)
  rw [hz18] at dz18
  refine own_st (fun _ kz => XS.daddS X10.here hx rfl (hb hby dc_186) rfl (by rw [hz18]; exact own_Nn dz18) hz18 kz) ?_
  show own_Win p e below s _ _ _ (T10.setTop (mkF m 187 Ls10 [(.double z18), (.double (fY 0)), (.double z15)]))
  obtain ⟨z19, hz19⟩ : ∃ z, (FP.dmul (fY 0) z18) = z := ⟨_, rfl⟩
  have dz19 := own_Nm nY0 dz18 (by decide)
  rw [hz19] at dz19
  refine own_st (fun _ kz => XS.dmulS X10.here hx rfl (hb hby dc_187) rfl (by rw [hz19]; exact own_Nn dz19) hz19 kz) ?_
  show own_Win p e below s _ _ _ (T10.setTop (mkF m 188 Ls10 [(.double z19), (.double z15)]))
  refine own_st (fun _ kz => XS.dload X10.here hx rfl (v := (fY 1)) (hb hby dc_188) (by show Ls10[_]? = _; rw [hLs10]; rfl) kz) ?_
  show own_Win p e below s _ _ _ (T10.setTop (mkF m 190 Ls10 [(.double (fY 1)), (.double z19), (.double z15)]))
  refine own_st (fun _ kz => XS.aloadN X10.here hx rfl (v := (.ref a)) (hb hby dc_190) (by show Ls10[_]? = _; rw [hLs10]; rfl) rfl kz) ?_
  show own_Win p e below s _ _ _ (T10.setTop (mkF m 191 Ls10 [(.ref a), (.double (fY 1)), (.double z19), (.double z15)]))
  obtain ⟨T11, X11, e11, st11⟩ := getF X10 hx hZ hown (host := "") (Or.inl (hw _ (List.mem_of_getElem? (i := 21) rfl))) Via.refl e10 f_coupling (g := (mkF m 191 Ls10 [(.ref a), (.double (fY 1)), (.double z19), (.double z15)])) rfl rfl (hb hby dc_191)
  refine own_st st11 ?_
  show own_Win p e below s _ _ _ (T11.setTop (mkF m 194 Ls10 [(.ref rc), (.double (fY 1)), (.double z19), (.double z15)]))
  refine own_st (fun _ kz => XS.iload X11.here hx rfl (v := (0 : Int32)) (hb hby dc_194) (by show Ls10[_]? = _; rw [hLs10]; rfl) kz) ?_
  show own_Win p e below s _ _ _ (T11.setTop (mkF m 196 Ls10 [(.int (0 : Int32)), (.ref rc), (.double (fY 1)), (.double z19), (.double z15)]))
  refine own_st (fun _ kz => XS.iconst X11.here hx rfl (hb hby dc_196) kz) ?_
  show own_Win p e below s _ _ _ (T11.setTop (mkF m 197 Ls10 [(.int (2 : Int32)), (.int (0 : Int32)), (.ref rc), (.double (fY 1)), (.double z19), (.double z15)]))
  refine own_st (fun _ kz => XS.iadd X11.here hx rfl (hb hby dc_197) rfl kz) ?_
  show own_Win p e below s _ _ _ (T11.setTop (mkF m 198 Ls10 [(.int ((0 : Int32) + (2 : Int32))), (.ref rc), (.double (fY 1)), (.double z19), (.double z15)]))
  show own_Win p e below s _ _ _ (T11.setTop (mkF m 198 Ls10 [(.int (2 : Int32)), (.ref rc), (.double (fY 1)), (.double z19), (.double z15)]))
  show own_Win p e below s _ _ _ (T11.setTop (mkF m 198 Ls10 [(.int (2 : Int32)), (.ref rc), (.double (fY 1)), (.double z19), (.double z15)]))
  refine own_daload X11 hx hZ e11 F_C (i := 2) rfl (by decide) (x := (fC 2)) rfl rfl rfl (hb hby dc_198) ?_
  show own_Win p e below s _ _ _ (T11.setTop (mkF m 199 Ls10 [(.double (fC 2)), (.double (fY 1)), (.double z19), (.double z15)]))
  refine own_st (fun _ kz => XS.dload X11.here hx rfl (v := (fY 2)) (hb hby dc_199) (by show Ls10[_]? = _; rw [hLs10]; rfl) kz) ?_
  show own_Win p e below s _ _ _ (T11.setTop (mkF m 201 Ls10 [(.double (fY 2)), (.double (fC 2)), (.double (fY 1)), (.double z19), (.double z15)]))
  obtain ⟨z20, hz20⟩ : ∃ z, (FP.dmul (fC 2) (fY 2)) = z := ⟨_, rfl⟩
  have dz20 := own_Nm nC2 nY2 (by decide)
  rw [hz20] at dz20
  refine own_st (fun _ kz => XS.dmulS X11.here hx rfl (hb hby dc_201) rfl (by rw [hz20]; exact own_Nn dz20) hz20 kz) ?_
  show own_Win p e below s _ _ _ (T11.setTop (mkF m 202 Ls10 [(.double z20), (.double (fY 1)), (.double z19), (.double z15)]))
  refine own_st (fun _ kz => XS.aloadN X11.here hx rfl (v := (.ref a)) (hb hby dc_202) (by show Ls10[_]? = _; rw [hLs10]; rfl) rfl kz) ?_
  show own_Win p e below s _ _ _ (T11.setTop (mkF m 203 Ls10 [(.ref a), (.double z20), (.double (fY 1)), (.double z19), (.double z15)]))
  obtain ⟨T12, X12, e12, st12⟩ := getF X11 hx hZ hown (host := "") (Or.inl (hw _ (List.mem_of_getElem? (i := 21) rfl))) Via.refl e11 f_coupling (g := (mkF m 203 Ls10 [(.ref a), (.double z20), (.double (fY 1)), (.double z19), (.double z15)])) rfl rfl (hb hby dc_203)
  refine own_st st12 ?_
  show own_Win p e below s _ _ _ (T12.setTop (mkF m 206 Ls10 [(.ref rc), (.double z20), (.double (fY 1)), (.double z19), (.double z15)]))
  refine own_st (fun _ kz => XS.iload X12.here hx rfl (v := (0 : Int32)) (hb hby dc_206) (by show Ls10[_]? = _; rw [hLs10]; rfl) kz) ?_
  show own_Win p e below s _ _ _ (T12.setTop (mkF m 208 Ls10 [(.int (0 : Int32)), (.ref rc), (.double z20), (.double (fY 1)), (.double z19), (.double z15)]))
  refine own_st (fun _ kz => XS.iconst X12.here hx rfl (hb hby dc_208) kz) ?_
  show own_Win p e below s _ _ _ (T12.setTop (mkF m 209 Ls10 [(.int (3 : Int32)), (.int (0 : Int32)), (.ref rc), (.double z20), (.double (fY 1)), (.double z19), (.double z15)]))
  refine own_st (fun _ kz => XS.iadd X12.here hx rfl (hb hby dc_209) rfl kz) ?_
  show own_Win p e below s _ _ _ (T12.setTop (mkF m 210 Ls10 [(.int ((0 : Int32) + (3 : Int32))), (.ref rc), (.double z20), (.double (fY 1)), (.double z19), (.double z15)]))
  show own_Win p e below s _ _ _ (T12.setTop (mkF m 210 Ls10 [(.int (3 : Int32)), (.ref rc), (.double z20), (.double (fY 1)), (.double z19), (.double z15)]))
  show own_Win p e below s _ _ _ (T12.setTop (mkF m 210 Ls10 [(.int (3 : Int32)), (.ref rc), (.double z20), (.double (fY 1)), (.double z19), (.double z15)]))
  refine own_daload X12 hx hZ e12 F_C (i := 3) rfl (by decide) (x := (fC 3)) rfl rfl rfl (hb hby dc_210) ?_
  show own_Win p e below s _ _ _ (T12.setTop (mkF m 211 Ls10 [(.double (fC 3)), (.double z20), (.double (fY 1)), (.double z19), (.double z15)]))
  refine own_st (fun _ kz => XS.dload X12.here hx rfl (v := (fY 3)) (hb hby dc_211) (by show Ls10[_]? = _; rw [hLs10]; rfl) kz) ?_
  show own_Win p e below s _ _ _ (T12.setTop (mkF m 213 Ls10 [(.double (fY 3)), (.double (fC 3)), (.double z20), (.double (fY 1)), (.double z19), (.double z15)]))
  obtain ⟨z21, hz21⟩ : ∃ z, (FP.dmul (fC 3) (fY 3)) = z := ⟨_, rfl⟩
  have dz21 := own_Nm nC3 nY3 (by decide)
  rw [hz21] at dz21
  refine own_st (fun _ kz => XS.dmulS X12.here hx rfl (hb hby dc_213) rfl (by rw [hz21]; exact own_Nn dz21) hz21 kz) ?_
  show own_Win p e below s _ _ _ (T12.setTop (mkF m 214 Ls10 [(.double z21), (.double z20), (.double (fY 1)), (.double z19), (.double z15)]))
  obtain ⟨z22, hz22⟩ : ∃ z, (FP.dadd z20 z21) = z := ⟨_, rfl⟩
  have dz22 := own_Na dz20 dz21 (by decide)
  rw [hz22] at dz22
  refine own_st (fun _ kz => XS.daddS X12.here hx rfl (hb hby dc_214) rfl (by rw [hz22]; exact own_Nn dz22) hz22 kz) ?_
  show own_Win p e below s _ _ _ (T12.setTop (mkF m 215 Ls10 [(.double z22), (.double (fY 1)), (.double z19), (.double z15)]))
  obtain ⟨z23, hz23⟩ : ∃ z, (FP.dmul (fY 1) z22) = z := ⟨_, rfl⟩
  have dz23 := own_Nm nY1 dz22 (by decide)
  rw [hz23] at dz23
  refine own_st (fun _ kz => XS.dmulS X12.here hx rfl (hb hby dc_215) rfl (by rw [hz23]; exact own_Nn dz23) hz23 kz) ?_
  show own_Win p e below s _ _ _ (T12.setTop (mkF m 216 Ls10 [(.double z23), (.double z19), (.double z15)]))
  obtain ⟨z24, hz24⟩ : ∃ z, (FP.dadd z19 z23) = z := ⟨_, rfl⟩
  have dz24 := own_Na dz19 dz23 (by decide)
  rw [hz24] at dz24
  refine own_st (fun _ kz => XS.daddS X12.here hx rfl (hb hby dc_216) rfl (by rw [hz24]; exact own_Nn dz24) hz24 kz) ?_
  show own_Win p e below s _ _ _ (T12.setTop (mkF m 217 Ls10 [(.double z24), (.double z15)]))
  obtain ⟨z25, hz25⟩ : ∃ z, (FP.dadd z15 z24) = z := ⟨_, rfl⟩
  have dz25 := own_Ha dz15 (own_Nh dz24) (by decide)
  rw [hz25] at dz25
  refine own_st (fun _ kz => XS.daddS X12.here hx rfl (hb hby dc_217) rfl (by rw [hz25]; exact own_Hn dz25) hz25 kz) ?_
  show own_Win p e below s _ _ _ (T12.setTop (mkF m 218 Ls10 [(.double z25)]))
  obtain ⟨Ls11, hLs11⟩ : ∃ L : Array Slot, L = #[.val (.ref a), .val (.ref rs), .val (.double z25), .second, .val (.int (0 : Int32)), .val (.double (fY 0)), .second, .val (.double (fY 1)), .second, .val (.int (0 : Int32)), .val (.double (fY 2)), .second, .val (.double (fY 3)), .second] := ⟨_, rfl⟩
  refine own_st (fun _ kz => XS.dstoreN X12.here hx rfl (hb hby dc_218) rfl (l' := Ls11) (by show storeLocals Ls10 _ _ = _; rw [hLs10, hLs11]; rfl) kz) ?_
  show own_Win p e below s _ _ _ (T12.setTop (mkF m 219 Ls11 []))
  obtain ⟨Ls12, hLs12⟩ : ∃ L : Array Slot, L = #[.val (.ref a), .val (.ref rs), .val (.double z25), .second, .val (.int (1 : Int32)), .val (.double (fY 0)), .second, .val (.double (fY 1)), .second, .val (.int (0 : Int32)), .val (.double (fY 2)), .second, .val (.double (fY 3)), .second] := ⟨_, rfl⟩
  refine own_st (fun _ kz => XS.iinc X12.here hx rfl (x := (0 : Int32)) (hb hby dc_219) (by show Ls11[_]? = _; rw [hLs11]; rfl) (l' := Ls12) (by show storeLocals Ls11 _ _ = _; rw [hLs11, hLs12]; rfl) kz) ?_
  show own_Win p e below s _ _ _ (T12.setTop (mkF m 222 Ls12 []))
  refine own_st (fun _ kz => XS.goto X12.here hx rfl (pc0 := 222) (pc' := 5) rfl (hb hby dc_222) (by decide) (by decide) kz) ?_
  show own_Win p e below s _ _ _ (T12.setTop (mkF m 5 Ls12 []))
  refine own_st (fun _ kz => XS.iload X12.here hx rfl (v := (1 : Int32)) (hb hby dc_5) (by show Ls12[_]? = _; rw [hLs12]; rfl) kz) ?_
  show own_Win p e below s _ _ _ (T12.setTop (mkF m 7 Ls12 [(.int (1 : Int32))]))
  refine own_st (fun _ kz => XS.aloadN X12.here hx rfl (v := (.ref a)) (hb hby dc_7) (by show Ls12[_]? = _; rw [hLs12]; rfl) rfl kz) ?_
  show own_Win p e below s _ _ _ (T12.setTop (mkF m 8 Ls12 [(.ref a), (.int (1 : Int32))]))
  obtain ⟨T13, X13, e13, st13⟩ := getF X12 hx hZ hown (host := "") (Or.inl (hw _ (List.mem_of_getElem? (i := 14) rfl))) Via.refl e12 f_points (g := (mkF m 8 Ls12 [(.ref a), (.int (1 : Int32))])) rfl rfl (hb hby dc_8)
  refine own_st st13 ?_
  show own_Win p e below s _ _ _ (T13.setTop (mkF m 11 Ls12 [(.int (2 : Int32)), (.int (1 : Int32))]))
  refine own_st (fun _ kz => XS.icmpNo X13.here hx rfl (hb hby dc_11) rfl (by decide) kz) ?_
  show own_Win p e below s _ _ _ (T13.setTop (mkF m 14 Ls12 []))
  refine own_st (fun _ kz => XS.aloadN X13.here hx rfl (v := (.ref rs)) (hb hby dc_14) (by show Ls12[_]? = _; rw [hLs12]; rfl) rfl kz) ?_
  show own_Win p e below s _ _ _ (T13.setTop (mkF m 15 Ls12 [(.ref rs)]))
  refine own_st (fun _ kz => XS.iconst X13.here hx rfl (hb hby dc_15) kz) ?_
  show own_Win p e below s _ _ _ (T13.setTop (mkF m 16 Ls12 [(.int (2 : Int32)), (.ref rs)]))
  refine own_st (fun _ kz => XS.iload X13.here hx rfl (v := (1 : Int32)) (hb hby dc_16) (by show Ls12[_]? = _; rw [hLs12]; rfl) kz) ?_
  show own_Win p e below s _ _ _ (T13.setTop (mkF m 18 Ls12 [(.int (1 : Int32)), (.int (2 : Int32)), (.ref rs)]))
  refine own_st (fun _ kz => XS.imul X13.here hx rfl (hb hby dc_18) rfl kz) ?_
  show own_Win p e below s _ _ _ (T13.setTop (mkF m 19 Ls12 [(.int ((2 : Int32) * (1 : Int32))), (.ref rs)]))
  show own_Win p e below s _ _ _ (T13.setTop (mkF m 19 Ls12 [(.int (2 : Int32)), (.ref rs)]))
  show own_Win p e below s _ _ _ (T13.setTop (mkF m 19 Ls12 [(.int (2 : Int32)), (.ref rs)]))
  refine own_daload X13 hx hZ e13 F_Y (i := 2) rfl (by decide) (x := (fY 2)) rfl rfl rfl (hb hby dc_19) ?_
  show own_Win p e below s _ _ _ (T13.setTop (mkF m 20 Ls12 [(.double (fY 2))]))
  obtain ⟨Ls13, hLs13⟩ : ∃ L : Array Slot, L = #[.val (.ref a), .val (.ref rs), .val (.double z25), .second, .val (.int (1 : Int32)), .val (.double (fY 2)), .second, .val (.double (fY 1)), .second, .val (.int (0 : Int32)), .val (.double (fY 2)), .second, .val (.double (fY 3)), .second] := ⟨_, rfl⟩
  refine own_st (fun _ kz => XS.dstore X13.here hx rfl (hb hby dc_20) rfl (l' := Ls13) (by show storeLocals Ls12 _ _ = _; rw [hLs12, hLs13]; rfl) kz) ?_
  show own_Win p e below s _ _ _ (T13.setTop (mkF m 22 Ls13 []))
  refine own_st (fun _ kz => XS.aloadN X13.here hx rfl (v := (.ref rs)) (hb hby dc_22) (by show Ls13[_]? = _; rw [hLs13]; rfl) rfl kz) ?_
  show own_Win p e below s _ _ _ (T13.setTop (mkF m 23 Ls13 [(.ref rs)]))
  refine own_st (fun _ kz => XS.iconst X13.here hx rfl (hb hby dc_23) kz) ?_
  show own_Win p e below s _ _ _ (T13.setTop (mkF m 24 Ls13 [(.int (2 : Int32)), (.ref rs)]))
  refine own_st (fun _ kz => XS.iload X13.here hx rfl (v := (1 : Int32)) (hb hby dc_24) (by show Ls13[_]? = _; rw [hLs13]; rfl) kz) ?_
  show own_Win p e below s _ _ _ (T13.setTop (mkF m 26 Ls13 [(.int (1 : Int32)), (.int (2 : Int32)), (.ref rs)]))
  refine own_st (fun _ kz => XS.imul X13.here hx rfl (hb hby dc_26) rfl kz) ?_
  show own_Win p e below s _ _ _ (T13.setTop (mkF m 27 Ls13 [(.int ((2 : Int32) * (1 : Int32))), (.ref rs)]))
  show own_Win p e below s _ _ _ (T13.setTop (mkF m 27 Ls13 [(.int (2 : Int32)), (.ref rs)]))
  refine own_st (fun _ kz => XS.iconst X13.here hx rfl (hb hby dc_27) kz) ?_
  show own_Win p e below s _ _ _ (T13.setTop (mkF m 28 Ls13 [(.int (1 : Int32)), (.int (2 : Int32)), (.ref rs)]))
  refine own_st (fun _ kz => XS.iadd X13.here hx rfl (hb hby dc_28) rfl kz) ?_
  show own_Win p e below s _ _ _ (T13.setTop (mkF m 29 Ls13 [(.int ((2 : Int32) + (1 : Int32))), (.ref rs)]))
  show own_Win p e below s _ _ _ (T13.setTop (mkF m 29 Ls13 [(.int (3 : Int32)), (.ref rs)]))
  show own_Win p e below s _ _ _ (T13.setTop (mkF m 29 Ls13 [(.int (3 : Int32)), (.ref rs)]))
  refine own_daload X13 hx hZ e13 F_Y (i := 3) rfl (by decide) (x := (fY 3)) rfl rfl rfl (hb hby dc_29) ?_
  show own_Win p e below s _ _ _ (T13.setTop (mkF m 30 Ls13 [(.double (fY 3))]))
  obtain ⟨Ls14, hLs14⟩ : ∃ L : Array Slot, L = #[.val (.ref a), .val (.ref rs), .val (.double z25), .second, .val (.int (1 : Int32)), .val (.double (fY 2)), .second, .val (.double (fY 3)), .second, .val (.int (0 : Int32)), .val (.double (fY 2)), .second, .val (.double (fY 3)), .second] := ⟨_, rfl⟩
  refine own_st (fun _ kz => XS.dstore X13.here hx rfl (hb hby dc_30) rfl (l' := Ls14) (by show storeLocals Ls13 _ _ = _; rw [hLs13, hLs14]; rfl) kz) ?_
  show own_Win p e below s _ _ _ (T13.setTop (mkF m 32 Ls14 []))
  refine own_st (fun _ kz => XS.iconst X13.here hx rfl (hb hby dc_32) kz) ?_
  show own_Win p e below s _ _ _ (T13.setTop (mkF m 33 Ls14 [(.int (4 : Int32))]))
  refine own_st (fun _ kz => XS.iload X13.here hx rfl (v := (1 : Int32)) (hb hby dc_33) (by show Ls14[_]? = _; rw [hLs14]; rfl) kz) ?_
  show own_Win p e below s _ _ _ (T13.setTop (mkF m 35 Ls14 [(.int (1 : Int32)), (.int (4 : Int32))]))
  refine own_st (fun _ kz => XS.imul X13.here hx rfl (hb hby dc_35) rfl kz) ?_
  show own_Win p e below s _ _ _ (T13.setTop (mkF m 36 Ls14 [(.int ((4 : Int32) * (1 : Int32)))]))
  show own_Win p e below s _ _ _ (T13.setTop (mkF m 36 Ls14 [(.int (4 : Int32))]))
  obtain ⟨Ls15, hLs15⟩ : ∃ L : Array Slot, L = #[.val (.ref a), .val (.ref rs), .val (.double z25), .second, .val (.int (1 : Int32)), .val (.double (fY 2)), .second, .val (.double (fY 3)), .second, .val (.int (4 : Int32)), .val (.double (fY 2)), .second, .val (.double (fY 3)), .second] := ⟨_, rfl⟩
  refine own_st (fun _ kz => XS.istore X13.here hx rfl (hb hby dc_36) rfl (l' := Ls15) (by show storeLocals Ls14 _ _ = _; rw [hLs14, hLs15]; rfl) kz) ?_
  show own_Win p e below s _ _ _ (T13.setTop (mkF m 38 Ls15 []))
  refine own_st (fun _ kz => XS.dloadN X13.here hx rfl (v := z25) (hb hby dc_38) (by show Ls15[_]? = _; rw [hLs15]; rfl) kz) ?_
  show own_Win p e below s _ _ _ (T13.setTop (mkF m 39 Ls15 [(.double z25)]))
  refine own_st (fun _ kz => XS.aloadN X13.here hx rfl (v := (.ref a)) (hb hby dc_39) (by show Ls15[_]? = _; rw [hLs15]; rfl) rfl kz) ?_
  show own_Win p e below s _ _ _ (T13.setTop (mkF m 40 Ls15 [(.ref a), (.double z25)]))
  obtain ⟨T14, X14, e14, st14⟩ := getF X13 hx hZ hown (host := "") (Or.inl (hw _ (List.mem_of_getElem? (i := 16) rfl))) Via.refl e13 f_gradient (g := (mkF m 40 Ls15 [(.ref a), (.double z25)])) rfl rfl (hb hby dc_40)
  refine own_st st14 ?_
  show own_Win p e below s _ _ _ (T14.setTop (mkF m 43 Ls15 [(.ref rg), (.double z25)]))
  refine own_st (fun _ kz => XS.iconst X14.here hx rfl (hb hby dc_43) kz) ?_
  show own_Win p e below s _ _ _ (T14.setTop (mkF m 44 Ls15 [(.int (2 : Int32)), (.ref rg), (.double z25)]))
  refine own_st (fun _ kz => XS.iload X14.here hx rfl (v := (1 : Int32)) (hb hby dc_44) (by show Ls15[_]? = _; rw [hLs15]; rfl) kz) ?_
  show own_Win p e below s _ _ _ (T14.setTop (mkF m 46 Ls15 [(.int (1 : Int32)), (.int (2 : Int32)), (.ref rg), (.double z25)]))
  refine own_st (fun _ kz => XS.imul X14.here hx rfl (hb hby dc_46) rfl kz) ?_
  show own_Win p e below s _ _ _ (T14.setTop (mkF m 47 Ls15 [(.int ((2 : Int32) * (1 : Int32))), (.ref rg), (.double z25)]))
  show own_Win p e below s _ _ _ (T14.setTop (mkF m 47 Ls15 [(.int (2 : Int32)), (.ref rg), (.double z25)]))
  show own_Win p e below s _ _ _ (T14.setTop (mkF m 47 Ls15 [(.int (2 : Int32)), (.ref rg), (.double z25)]))
  refine own_daload X14 hx hZ e14 F_G (i := 2) rfl (by decide) (x := (fG 2)) rfl rfl rfl (hb hby dc_47) ?_
  show own_Win p e below s _ _ _ (T14.setTop (mkF m 48 Ls15 [(.double (fG 2)), (.double z25)]))
  refine own_st (fun _ kz => XS.dload X14.here hx rfl (v := (fY 2)) (hb hby dc_48) (by show Ls15[_]? = _; rw [hLs15]; rfl) kz) ?_
  show own_Win p e below s _ _ _ (T14.setTop (mkF m 50 Ls15 [(.double (fY 2)), (.double (fG 2)), (.double z25)]))
  obtain ⟨z26, hz26⟩ : ∃ z, (FP.dmul (fG 2) (fY 2)) = z := ⟨_, rfl⟩
  have dz26 := own_Nm nG2 nY2 (by decide)
  rw [hz26] at dz26
  refine own_st (fun _ kz => XS.dmulS X14.here hx rfl (hb hby dc_50) rfl (by rw [hz26]; exact own_Nn dz26) hz26 kz) ?_
  show own_Win p e below s _ _ _ (T14.setTop (mkF m 51 Ls15 [(.double z26), (.double z25)]))
  refine own_st (fun _ kz => XS.aloadN X14.here hx rfl (v := (.ref a)) (hb hby dc_51) (by show Ls15[_]? = _; rw [hLs15]; rfl) rfl kz) ?_
  show own_Win p e below s _ _ _ (T14.setTop (mkF m 52 Ls15 [(.ref a), (.double z26), (.double z25)]))
  obtain ⟨T15, X15, e15, st15⟩ := getF X14 hx hZ hown (host := "") (Or.inl (hw _ (List.mem_of_getElem? (i := 16) rfl))) Via.refl e14 f_gradient (g := (mkF m 52 Ls15 [(.ref a), (.double z26), (.double z25)])) rfl rfl (hb hby dc_52)
  refine own_st st15 ?_
  show own_Win p e below s _ _ _ (T15.setTop (mkF m 55 Ls15 [(.ref rg), (.double z26), (.double z25)]))
  refine own_st (fun _ kz => XS.iconst X15.here hx rfl (hb hby dc_55) kz) ?_
  show own_Win p e below s _ _ _ (T15.setTop (mkF m 56 Ls15 [(.int (2 : Int32)), (.ref rg), (.double z26), (.double z25)]))
  refine own_st (fun _ kz => XS.iload X15.here hx rfl (v := (1 : Int32)) (hb hby dc_56) (by show Ls15[_]? = _; rw [hLs15]; rfl) kz) ?_
  show own_Win p e below s _ _ _ (T15.setTop (mkF m 58 Ls15 [(.int (1 : Int32)), (.int (2 : Int32)), (.ref rg), (.double z26), (.double z25)]))
  refine own_st (fun _ kz => XS.imul X15.here hx rfl (hb hby dc_58) rfl kz) ?_
  show own_Win p e below s _ _ _ (T15.setTop (mkF m 59 Ls15 [(.int ((2 : Int32) * (1 : Int32))), (.ref rg), (.double z26), (.double z25)]))
  show own_Win p e below s _ _ _ (T15.setTop (mkF m 59 Ls15 [(.int (2 : Int32)), (.ref rg), (.double z26), (.double z25)]))
  refine own_st (fun _ kz => XS.iconst X15.here hx rfl (hb hby dc_59) kz) ?_
  show own_Win p e below s _ _ _ (T15.setTop (mkF m 60 Ls15 [(.int (1 : Int32)), (.int (2 : Int32)), (.ref rg), (.double z26), (.double z25)]))
  refine own_st (fun _ kz => XS.iadd X15.here hx rfl (hb hby dc_60) rfl kz) ?_
  show own_Win p e below s _ _ _ (T15.setTop (mkF m 61 Ls15 [(.int ((2 : Int32) + (1 : Int32))), (.ref rg), (.double z26), (.double z25)]))
  show own_Win p e below s _ _ _ (T15.setTop (mkF m 61 Ls15 [(.int (3 : Int32)), (.ref rg), (.double z26), (.double z25)]))
  show own_Win p e below s _ _ _ (T15.setTop (mkF m 61 Ls15 [(.int (3 : Int32)), (.ref rg), (.double z26), (.double z25)]))
  refine own_daload X15 hx hZ e15 F_G (i := 3) rfl (by decide) (x := (fG 3)) rfl rfl rfl (hb hby dc_61) ?_
  show own_Win p e below s _ _ _ (T15.setTop (mkF m 62 Ls15 [(.double (fG 3)), (.double z26), (.double z25)]))
  refine own_st (fun _ kz => XS.dload X15.here hx rfl (v := (fY 3)) (hb hby dc_62) (by show Ls15[_]? = _; rw [hLs15]; rfl) kz) ?_
  show own_Win p e below s _ _ _ (T15.setTop (mkF m 64 Ls15 [(.double (fY 3)), (.double (fG 3)), (.double z26), (.double z25)]))
  obtain ⟨z27, hz27⟩ : ∃ z, (FP.dmul (fG 3) (fY 3)) = z := ⟨_, rfl⟩
  have dz27 := own_Nm nG3 nY3 (by decide)
  rw [hz27] at dz27
  refine own_st (fun _ kz => XS.dmulS X15.here hx rfl (hb hby dc_64) rfl (by rw [hz27]; exact own_Nn dz27) hz27 kz) ?_
  show own_Win p e below s _ _ _ (T15.setTop (mkF m 65 Ls15 [(.double z27), (.double z26), (.double z25)]))
  obtain ⟨z28, hz28⟩ : ∃ z, (FP.dadd z26 z27) = z := ⟨_, rfl⟩
  have dz28 := own_Na dz26 dz27 (by decide)
  rw [hz28] at dz28
  refine own_st (fun _ kz => XS.daddS X15.here hx rfl (hb hby dc_65) rfl (by rw [hz28]; exact own_Nn dz28) hz28 kz) ?_
  show own_Win p e below s _ _ _ (T15.setTop (mkF m 66 Ls15 [(.double z28), (.double z25)]))
  obtain ⟨z29, hz29⟩ : ∃ z, (FP.dadd z25 z28) = z := ⟨_, rfl⟩
  have dz29 := own_Ha dz25 (own_Nh dz28) (by decide)
  rw [hz29] at dz29
  refine own_st (fun _ kz => XS.daddS X15.here hx rfl (hb hby dc_66) rfl (by rw [hz29]; exact own_Hn dz29) hz29 kz) ?_
  show own_Win p e below s _ _ _ (T15.setTop (mkF m 67 Ls15 [(.double z29)]))
  obtain ⟨Ls16, hLs16⟩ : ∃ L : Array Slot, L = #[.val (.ref a), .val (.ref rs), .val (.double z29), .second, .val (.int (1 : Int32)), .val (.double (fY 2)), .second, .val (.double (fY 3)), .second, .val (.int (4 : Int32)), .val (.double (fY 2)), .second, .val (.double (fY 3)), .second] := ⟨_, rfl⟩
  refine own_st (fun _ kz => XS.dstoreN X15.here hx rfl (hb hby dc_67) rfl (l' := Ls16) (by show storeLocals Ls15 _ _ = _; rw [hLs15, hLs16]; rfl) kz) ?_
  show own_Win p e below s _ _ _ (T15.setTop (mkF m 68 Ls16 []))
  refine own_st (fun _ kz => XS.dloadN X15.here hx rfl (v := z29) (hb hby dc_68) (by show Ls16[_]? = _; rw [hLs16]; rfl) kz) ?_
  show own_Win p e below s _ _ _ (T15.setTop (mkF m 69 Ls16 [(.double z29)]))
  refine own_st (fun _ kz => XS.dload X15.here hx rfl (v := (fY 2)) (hb hby dc_69) (by show Ls16[_]? = _; rw [hLs16]; rfl) kz) ?_
  show own_Win p e below s _ _ _ (T15.setTop (mkF m 71 Ls16 [(.double (fY 2)), (.double z29)]))
  refine own_st (fun _ kz => XS.aloadN X15.here hx rfl (v := (.ref a)) (hb hby dc_71) (by show Ls16[_]? = _; rw [hLs16]; rfl) rfl kz) ?_
  show own_Win p e below s _ _ _ (T15.setTop (mkF m 72 Ls16 [(.ref a), (.double (fY 2)), (.double z29)]))
  obtain ⟨T16, X16, e16, st16⟩ := getF X15 hx hZ hown (host := "") (Or.inl (hw _ (List.mem_of_getElem? (i := 19) rfl))) Via.refl e15 f_blocks (g := (mkF m 72 Ls16 [(.ref a), (.double (fY 2)), (.double z29)])) rfl rfl (hb hby dc_72)
  refine own_st st16 ?_
  show own_Win p e below s _ _ _ (T16.setTop (mkF m 75 Ls16 [(.ref rb), (.double (fY 2)), (.double z29)]))
  refine own_st (fun _ kz => XS.iload X16.here hx rfl (v := (4 : Int32)) (hb hby dc_75) (by show Ls16[_]? = _; rw [hLs16]; rfl) kz) ?_
  show own_Win p e below s _ _ _ (T16.setTop (mkF m 77 Ls16 [(.int (4 : Int32)), (.ref rb), (.double (fY 2)), (.double z29)]))
  show own_Win p e below s _ _ _ (T16.setTop (mkF m 77 Ls16 [(.int (4 : Int32)), (.ref rb), (.double (fY 2)), (.double z29)]))
  refine own_daload X16 hx hZ e16 F_B (i := 4) rfl (by decide) (x := (fB 4)) rfl rfl rfl (hb hby dc_77) ?_
  show own_Win p e below s _ _ _ (T16.setTop (mkF m 78 Ls16 [(.double (fB 4)), (.double (fY 2)), (.double z29)]))
  refine own_st (fun _ kz => XS.dload X16.here hx rfl (v := (fY 2)) (hb hby dc_78) (by show Ls16[_]? = _; rw [hLs16]; rfl) kz) ?_
  show own_Win p e below s _ _ _ (T16.setTop (mkF m 80 Ls16 [(.double (fY 2)), (.double (fB 4)), (.double (fY 2)), (.double z29)]))
  obtain ⟨z30, hz30⟩ : ∃ z, (FP.dmul (fB 4) (fY 2)) = z := ⟨_, rfl⟩
  have dz30 := own_Nm nB4 nY2 (by decide)
  rw [hz30] at dz30
  refine own_st (fun _ kz => XS.dmulS X16.here hx rfl (hb hby dc_80) rfl (by rw [hz30]; exact own_Nn dz30) hz30 kz) ?_
  show own_Win p e below s _ _ _ (T16.setTop (mkF m 81 Ls16 [(.double z30), (.double (fY 2)), (.double z29)]))
  refine own_st (fun _ kz => XS.aloadN X16.here hx rfl (v := (.ref a)) (hb hby dc_81) (by show Ls16[_]? = _; rw [hLs16]; rfl) rfl kz) ?_
  show own_Win p e below s _ _ _ (T16.setTop (mkF m 82 Ls16 [(.ref a), (.double z30), (.double (fY 2)), (.double z29)]))
  obtain ⟨T17, X17, e17, st17⟩ := getF X16 hx hZ hown (host := "") (Or.inl (hw _ (List.mem_of_getElem? (i := 19) rfl))) Via.refl e16 f_blocks (g := (mkF m 82 Ls16 [(.ref a), (.double z30), (.double (fY 2)), (.double z29)])) rfl rfl (hb hby dc_82)
  refine own_st st17 ?_
  show own_Win p e below s _ _ _ (T17.setTop (mkF m 85 Ls16 [(.ref rb), (.double z30), (.double (fY 2)), (.double z29)]))
  refine own_st (fun _ kz => XS.iload X17.here hx rfl (v := (4 : Int32)) (hb hby dc_85) (by show Ls16[_]? = _; rw [hLs16]; rfl) kz) ?_
  show own_Win p e below s _ _ _ (T17.setTop (mkF m 87 Ls16 [(.int (4 : Int32)), (.ref rb), (.double z30), (.double (fY 2)), (.double z29)]))
  refine own_st (fun _ kz => XS.iconst X17.here hx rfl (hb hby dc_87) kz) ?_
  show own_Win p e below s _ _ _ (T17.setTop (mkF m 88 Ls16 [(.int (1 : Int32)), (.int (4 : Int32)), (.ref rb), (.double z30), (.double (fY 2)), (.double z29)]))
  refine own_st (fun _ kz => XS.iadd X17.here hx rfl (hb hby dc_88) rfl kz) ?_
  show own_Win p e below s _ _ _ (T17.setTop (mkF m 89 Ls16 [(.int ((4 : Int32) + (1 : Int32))), (.ref rb), (.double z30), (.double (fY 2)), (.double z29)]))
  show own_Win p e below s _ _ _ (T17.setTop (mkF m 89 Ls16 [(.int (5 : Int32)), (.ref rb), (.double z30), (.double (fY 2)), (.double z29)]))
  show own_Win p e below s _ _ _ (T17.setTop (mkF m 89 Ls16 [(.int (5 : Int32)), (.ref rb), (.double z30), (.double (fY 2)), (.double z29)]))
  refine own_daload X17 hx hZ e17 F_B (i := 5) rfl (by decide) (x := (fB 5)) rfl rfl rfl (hb hby dc_89) ?_
  show own_Win p e below s _ _ _ (T17.setTop (mkF m 90 Ls16 [(.double (fB 5)), (.double z30), (.double (fY 2)), (.double z29)]))
  refine own_st (fun _ kz => XS.dload X17.here hx rfl (v := (fY 3)) (hb hby dc_90) (by show Ls16[_]? = _; rw [hLs16]; rfl) kz) ?_
  show own_Win p e below s _ _ _ (T17.setTop (mkF m 92 Ls16 [(.double (fY 3)), (.double (fB 5)), (.double z30), (.double (fY 2)), (.double z29)]))
  obtain ⟨z31, hz31⟩ : ∃ z, (FP.dmul (fB 5) (fY 3)) = z := ⟨_, rfl⟩
  have dz31 := own_Nm nB5 nY3 (by decide)
  rw [hz31] at dz31
  refine own_st (fun _ kz => XS.dmulS X17.here hx rfl (hb hby dc_92) rfl (by rw [hz31]; exact own_Nn dz31) hz31 kz) ?_
  show own_Win p e below s _ _ _ (T17.setTop (mkF m 93 Ls16 [(.double z31), (.double z30), (.double (fY 2)), (.double z29)]))
  obtain ⟨z32, hz32⟩ : ∃ z, (FP.dadd z30 z31) = z := ⟨_, rfl⟩
  have dz32 := own_Na dz30 dz31 (by decide)
  rw [hz32] at dz32
  refine own_st (fun _ kz => XS.daddS X17.here hx rfl (hb hby dc_93) rfl (by rw [hz32]; exact own_Nn dz32) hz32 kz) ?_
  show own_Win p e below s _ _ _ (T17.setTop (mkF m 94 Ls16 [(.double z32), (.double (fY 2)), (.double z29)]))
  obtain ⟨z33, hz33⟩ : ∃ z, (FP.dmul (fY 2) z32) = z := ⟨_, rfl⟩
  have dz33 := own_Nm nY2 dz32 (by decide)
  rw [hz33] at dz33
  refine own_st (fun _ kz => XS.dmulS X17.here hx rfl (hb hby dc_94) rfl (by rw [hz33]; exact own_Nn dz33) hz33 kz) ?_
  show own_Win p e below s _ _ _ (T17.setTop (mkF m 95 Ls16 [(.double z33), (.double z29)]))
  refine own_st (fun _ kz => XS.dload X17.here hx rfl (v := (fY 3)) (hb hby dc_95) (by show Ls16[_]? = _; rw [hLs16]; rfl) kz) ?_
  show own_Win p e below s _ _ _ (T17.setTop (mkF m 97 Ls16 [(.double (fY 3)), (.double z33), (.double z29)]))
  refine own_st (fun _ kz => XS.aloadN X17.here hx rfl (v := (.ref a)) (hb hby dc_97) (by show Ls16[_]? = _; rw [hLs16]; rfl) rfl kz) ?_
  show own_Win p e below s _ _ _ (T17.setTop (mkF m 98 Ls16 [(.ref a), (.double (fY 3)), (.double z33), (.double z29)]))
  obtain ⟨T18, X18, e18, st18⟩ := getF X17 hx hZ hown (host := "") (Or.inl (hw _ (List.mem_of_getElem? (i := 19) rfl))) Via.refl e17 f_blocks (g := (mkF m 98 Ls16 [(.ref a), (.double (fY 3)), (.double z33), (.double z29)])) rfl rfl (hb hby dc_98)
  refine own_st st18 ?_
  show own_Win p e below s _ _ _ (T18.setTop (mkF m 101 Ls16 [(.ref rb), (.double (fY 3)), (.double z33), (.double z29)]))
  refine own_st (fun _ kz => XS.iload X18.here hx rfl (v := (4 : Int32)) (hb hby dc_101) (by show Ls16[_]? = _; rw [hLs16]; rfl) kz) ?_
  show own_Win p e below s _ _ _ (T18.setTop (mkF m 103 Ls16 [(.int (4 : Int32)), (.ref rb), (.double (fY 3)), (.double z33), (.double z29)]))
  refine own_st (fun _ kz => XS.iconst X18.here hx rfl (hb hby dc_103) kz) ?_
  show own_Win p e below s _ _ _ (T18.setTop (mkF m 104 Ls16 [(.int (2 : Int32)), (.int (4 : Int32)), (.ref rb), (.double (fY 3)), (.double z33), (.double z29)]))
  refine own_st (fun _ kz => XS.iadd X18.here hx rfl (hb hby dc_104) rfl kz) ?_
  show own_Win p e below s _ _ _ (T18.setTop (mkF m 105 Ls16 [(.int ((4 : Int32) + (2 : Int32))), (.ref rb), (.double (fY 3)), (.double z33), (.double z29)]))
  show own_Win p e below s _ _ _ (T18.setTop (mkF m 105 Ls16 [(.int (6 : Int32)), (.ref rb), (.double (fY 3)), (.double z33), (.double z29)]))
  show own_Win p e below s _ _ _ (T18.setTop (mkF m 105 Ls16 [(.int (6 : Int32)), (.ref rb), (.double (fY 3)), (.double z33), (.double z29)]))
  refine own_daload X18 hx hZ e18 F_B (i := 6) rfl (by decide) (x := (fB 6)) rfl rfl rfl (hb hby dc_105) ?_
  show own_Win p e below s _ _ _ (T18.setTop (mkF m 106 Ls16 [(.double (fB 6)), (.double (fY 3)), (.double z33), (.double z29)]))
  refine own_st (fun _ kz => XS.dload X18.here hx rfl (v := (fY 2)) (hb hby dc_106) (by show Ls16[_]? = _; rw [hLs16]; rfl) kz) ?_
  show own_Win p e below s _ _ _ (T18.setTop (mkF m 108 Ls16 [(.double (fY 2)), (.double (fB 6)), (.double (fY 3)), (.double z33), (.double z29)]))
  obtain ⟨z34, hz34⟩ : ∃ z, (FP.dmul (fB 6) (fY 2)) = z := ⟨_, rfl⟩
  have dz34 := own_Nm nB6 nY2 (by decide)
  rw [hz34] at dz34
  refine own_st (fun _ kz => XS.dmulS X18.here hx rfl (hb hby dc_108) rfl (by rw [hz34]; exact own_Nn dz34) hz34 kz) ?_
  show own_Win p e below s _ _ _ (T18.setTop (mkF m 109 Ls16 [(.double z34), (.double (fY 3)), (.double z33), (.double z29)]))
  refine own_st (fun _ kz => XS.aloadN X18.here hx rfl (v := (.ref a)) (hb hby dc_109) (by show Ls16[_]? = _; rw [hLs16]; rfl) rfl kz) ?_
  show own_Win p e below s _ _ _ (T18.setTop (mkF m 110 Ls16 [(.ref a), (.double z34), (.double (fY 3)), (.double z33), (.double z29)]))
  obtain ⟨T19, X19, e19, st19⟩ := getF X18 hx hZ hown (host := "") (Or.inl (hw _ (List.mem_of_getElem? (i := 19) rfl))) Via.refl e18 f_blocks (g := (mkF m 110 Ls16 [(.ref a), (.double z34), (.double (fY 3)), (.double z33), (.double z29)])) rfl rfl (hb hby dc_110)
  refine own_st st19 ?_
  show own_Win p e below s _ _ _ (T19.setTop (mkF m 113 Ls16 [(.ref rb), (.double z34), (.double (fY 3)), (.double z33), (.double z29)]))
  refine own_st (fun _ kz => XS.iload X19.here hx rfl (v := (4 : Int32)) (hb hby dc_113) (by show Ls16[_]? = _; rw [hLs16]; rfl) kz) ?_
  show own_Win p e below s _ _ _ (T19.setTop (mkF m 115 Ls16 [(.int (4 : Int32)), (.ref rb), (.double z34), (.double (fY 3)), (.double z33), (.double z29)]))
  refine own_st (fun _ kz => XS.iconst X19.here hx rfl (hb hby dc_115) kz) ?_
  show own_Win p e below s _ _ _ (T19.setTop (mkF m 116 Ls16 [(.int (3 : Int32)), (.int (4 : Int32)), (.ref rb), (.double z34), (.double (fY 3)), (.double z33), (.double z29)]))
  refine own_st (fun _ kz => XS.iadd X19.here hx rfl (hb hby dc_116) rfl kz) ?_
  show own_Win p e below s _ _ _ (T19.setTop (mkF m 117 Ls16 [(.int ((4 : Int32) + (3 : Int32))), (.ref rb), (.double z34), (.double (fY 3)), (.double z33), (.double z29)]))
  show own_Win p e below s _ _ _ (T19.setTop (mkF m 117 Ls16 [(.int (7 : Int32)), (.ref rb), (.double z34), (.double (fY 3)), (.double z33), (.double z29)]))
  show own_Win p e below s _ _ _ (T19.setTop (mkF m 117 Ls16 [(.int (7 : Int32)), (.ref rb), (.double z34), (.double (fY 3)), (.double z33), (.double z29)]))
  refine own_daload X19 hx hZ e19 F_B (i := 7) rfl (by decide) (x := (fB 7)) rfl rfl rfl (hb hby dc_117) ?_
  show own_Win p e below s _ _ _ (T19.setTop (mkF m 118 Ls16 [(.double (fB 7)), (.double z34), (.double (fY 3)), (.double z33), (.double z29)]))
  refine own_st (fun _ kz => XS.dload X19.here hx rfl (v := (fY 3)) (hb hby dc_118) (by show Ls16[_]? = _; rw [hLs16]; rfl) kz) ?_
  show own_Win p e below s _ _ _ (T19.setTop (mkF m 120 Ls16 [(.double (fY 3)), (.double (fB 7)), (.double z34), (.double (fY 3)), (.double z33), (.double z29)]))
  obtain ⟨z35, hz35⟩ : ∃ z, (FP.dmul (fB 7) (fY 3)) = z := ⟨_, rfl⟩
  have dz35 := own_Nm nB7 nY3 (by decide)
  rw [hz35] at dz35
  refine own_st (fun _ kz => XS.dmulS X19.here hx rfl (hb hby dc_120) rfl (by rw [hz35]; exact own_Nn dz35) hz35 kz) ?_
  show own_Win p e below s _ _ _ (T19.setTop (mkF m 121 Ls16 [(.double z35), (.double z34), (.double (fY 3)), (.double z33), (.double z29)]))
  obtain ⟨z36, hz36⟩ : ∃ z, (FP.dadd z34 z35) = z := ⟨_, rfl⟩
  have dz36 := own_Na dz34 dz35 (by decide)
  rw [hz36] at dz36
  refine own_st (fun _ kz => XS.daddS X19.here hx rfl (hb hby dc_121) rfl (by rw [hz36]; exact own_Nn dz36) hz36 kz) ?_
  show own_Win p e below s _ _ _ (T19.setTop (mkF m 122 Ls16 [(.double z36), (.double (fY 3)), (.double z33), (.double z29)]))
  obtain ⟨z37, hz37⟩ : ∃ z, (FP.dmul (fY 3) z36) = z := ⟨_, rfl⟩
  have dz37 := own_Nm nY3 dz36 (by decide)
  rw [hz37] at dz37
  refine own_st (fun _ kz => XS.dmulS X19.here hx rfl (hb hby dc_122) rfl (by rw [hz37]; exact own_Nn dz37) hz37 kz) ?_
  show own_Win p e below s _ _ _ (T19.setTop (mkF m 123 Ls16 [(.double z37), (.double z33), (.double z29)]))
  obtain ⟨z38, hz38⟩ : ∃ z, (FP.dadd z33 z37) = z := ⟨_, rfl⟩
  have dz38 := own_Na dz33 dz37 (by decide)
  rw [hz38] at dz38
  refine own_st (fun _ kz => XS.daddS X19.here hx rfl (hb hby dc_123) rfl (by rw [hz38]; exact own_Nn dz38) hz38 kz) ?_
  show own_Win p e below s _ _ _ (T19.setTop (mkF m 124 Ls16 [(.double z38), (.double z29)]))
  refine own_st (fun tz kz => X19.ldc2DoubleC hx hown (mvT hZ (hw _ (List.mem_of_getElem? (i := 44) rfl))) (g := (mkF m 124 Ls16 [(.double z38), (.double z29)])) rfl (hb hby dc_124) tz kz) ?_
  show own_Win p e below s _ _ _ (T19.setTop (mkF m 127 Ls16 [(.double (4611686018427387904 : UInt64)), (.double z38), (.double z29)]))
  obtain ⟨z39, hz39⟩ : ∃ z, (FP.ddiv z38 (4611686018427387904 : UInt64)) = z := ⟨_, rfl⟩
  have dz39 := own_Hd dz38 (by decide)
  rw [hz39] at dz39
  refine own_st (fun _ kz => XS.ddivS X19.here hx rfl (hb hby dc_127) rfl (by rw [hz39]; exact own_Hn dz39) hz39 kz) ?_
  show own_Win p e below s _ _ _ (T19.setTop (mkF m 128 Ls16 [(.double z39), (.double z29)]))
  obtain ⟨z40, hz40⟩ : ∃ z, (FP.dadd z29 z39) = z := ⟨_, rfl⟩
  have dz40 := own_Ha dz29 dz39 (by decide)
  rw [hz40] at dz40
  refine own_st (fun _ kz => XS.daddS X19.here hx rfl (hb hby dc_128) rfl (by rw [hz40]; exact own_Hn dz40) hz40 kz) ?_
  show own_Win p e below s _ _ _ (T19.setTop (mkF m 129 Ls16 [(.double z40)]))
  obtain ⟨Ls17, hLs17⟩ : ∃ L : Array Slot, L = #[.val (.ref a), .val (.ref rs), .val (.double z40), .second, .val (.int (1 : Int32)), .val (.double (fY 2)), .second, .val (.double (fY 3)), .second, .val (.int (4 : Int32)), .val (.double (fY 2)), .second, .val (.double (fY 3)), .second] := ⟨_, rfl⟩
  refine own_st (fun _ kz => XS.dstoreN X19.here hx rfl (hb hby dc_129) rfl (l' := Ls17) (by show storeLocals Ls16 _ _ = _; rw [hLs16, hLs17]; rfl) kz) ?_
  show own_Win p e below s _ _ _ (T19.setTop (mkF m 130 Ls17 []))
  refine own_st (fun _ kz => XS.iload X19.here hx rfl (v := (1 : Int32)) (hb hby dc_130) (by show Ls17[_]? = _; rw [hLs17]; rfl) kz) ?_
  show own_Win p e below s _ _ _ (T19.setTop (mkF m 132 Ls17 [(.int (1 : Int32))]))
  refine own_st (fun _ kz => XS.iconst X19.here hx rfl (hb hby dc_132) kz) ?_
  show own_Win p e below s _ _ _ (T19.setTop (mkF m 133 Ls17 [(.int (1 : Int32)), (.int (1 : Int32))]))
  refine own_st (fun _ kz => XS.iadd X19.here hx rfl (hb hby dc_133) rfl kz) ?_
  show own_Win p e below s _ _ _ (T19.setTop (mkF m 134 Ls17 [(.int ((1 : Int32) + (1 : Int32)))]))
  show own_Win p e below s _ _ _ (T19.setTop (mkF m 134 Ls17 [(.int (2 : Int32))]))
  refine own_st (fun _ kz => XS.aloadN X19.here hx rfl (v := (.ref a)) (hb hby dc_134) (by show Ls17[_]? = _; rw [hLs17]; rfl) rfl kz) ?_
  show own_Win p e below s _ _ _ (T19.setTop (mkF m 135 Ls17 [(.ref a), (.int (2 : Int32))]))
  obtain ⟨T20, X20, e20, st20⟩ := getF X19 hx hZ hown (host := "") (Or.inl (hw _ (List.mem_of_getElem? (i := 14) rfl))) Via.refl e19 f_points (g := (mkF m 135 Ls17 [(.ref a), (.int (2 : Int32))])) rfl rfl (hb hby dc_135)
  refine own_st st20 ?_
  show own_Win p e below s _ _ _ (T20.setTop (mkF m 138 Ls17 [(.int (2 : Int32)), (.int (2 : Int32))]))
  refine own_st (fun _ kz => XS.icmpYes X20.here hx rfl (pc0 := 138) (pc' := 219) rfl (hb hby dc_138) rfl (by decide) (by decide) (by decide) kz) ?_
  show own_Win p e below s _ _ _ (T20.setTop (mkF m 219 Ls17 []))
  obtain ⟨Ls18, hLs18⟩ : ∃ L : Array Slot, L = #[.val (.ref a), .val (.ref rs), .val (.double z40), .second, .val (.int (2 : Int32)), .val (.double (fY 2)), .second, .val (.double (fY 3)), .second, .val (.int (4 : Int32)), .val (.double (fY 2)), .second, .val (.double (fY 3)), .second] := ⟨_, rfl⟩
  refine own_st (fun _ kz => XS.iinc X20.here hx rfl (x := (1 : Int32)) (hb hby dc_219) (by show Ls17[_]? = _; rw [hLs17]; rfl) (l' := Ls18) (by show storeLocals Ls17 _ _ = _; rw [hLs17, hLs18]; rfl) kz) ?_
  show own_Win p e below s _ _ _ (T20.setTop (mkF m 222 Ls18 []))
  refine own_st (fun _ kz => XS.goto X20.here hx rfl (pc0 := 222) (pc' := 5) rfl (hb hby dc_222) (by decide) (by decide) kz) ?_
  show own_Win p e below s _ _ _ (T20.setTop (mkF m 5 Ls18 []))
  refine own_st (fun _ kz => XS.iload X20.here hx rfl (v := (2 : Int32)) (hb hby dc_5) (by show Ls18[_]? = _; rw [hLs18]; rfl) kz) ?_
  show own_Win p e below s _ _ _ (T20.setTop (mkF m 7 Ls18 [(.int (2 : Int32))]))
  refine own_st (fun _ kz => XS.aloadN X20.here hx rfl (v := (.ref a)) (hb hby dc_7) (by show Ls18[_]? = _; rw [hLs18]; rfl) rfl kz) ?_
  show own_Win p e below s _ _ _ (T20.setTop (mkF m 8 Ls18 [(.ref a), (.int (2 : Int32))]))
  obtain ⟨T21, X21, e21, st21⟩ := getF X20 hx hZ hown (host := "") (Or.inl (hw _ (List.mem_of_getElem? (i := 14) rfl))) Via.refl e20 f_points (g := (mkF m 8 Ls18 [(.ref a), (.int (2 : Int32))])) rfl rfl (hb hby dc_8)
  refine own_st st21 ?_
  show own_Win p e below s _ _ _ (T21.setTop (mkF m 11 Ls18 [(.int (2 : Int32)), (.int (2 : Int32))]))
  refine own_st (fun _ kz => XS.icmpYes X21.here hx rfl (pc0 := 11) (pc' := 225) rfl (hb hby dc_11) rfl (by decide) (by decide) (by decide) kz) ?_
  show own_Win p e below s _ _ _ (T21.setTop (mkF m 225 Ls18 []))
  refine own_st (fun _ kz => XS.dloadN X21.here hx rfl (v := z40) (hb hby dc_225) (by show Ls18[_]? = _; rw [hLs18]; rfl) kz) ?_
  show own_Win p e below s _ _ _ (T21.setTop (mkF m 226 Ls18 [(.double z40)]))
  exact own_ret X21 hx hlk Bd.returns rfl (Or.inr (Or.inr (Or.inl ⟨rfl, rfl, _, rfl⟩))) (hb hby dc_226) ⟨_, rfl, N0, e21, dz40⟩ (Nat.le_refl _) (Nat.le_refl _)
def Q_rmC3 (Z : State) (a rg rb rc rs : Addr) (fG fB fC fY : Nat → UInt64) (G0 G1 G2 G3 G4 G5 B0 B1 B2 B3 B4 B5 B6 B7 B8 B9 B10 B11 C0 C1 C2 C3 C4 C5 C6 C7 Y0 Y1 Y2 Y3 Y4 Y5 : Int) (h0 : Heap) (n0 : Nat) : Option Value → Heap → List Loc → Prop := fun v h L => ∃ z : UInt64, v = some (.double z) ∧ Fr n0 L ∧ h = h0 ∧ own_H ((((((((2 * (0 + ((G0 * Y0) + (G1 * Y1)))) + ((Y0 * ((B0 * Y0) + (B1 * Y1))) + (Y1 * ((B2 * Y0) + (B3 * Y1))))) + (2 * ((Y0 * ((C0 * Y2) + (C1 * Y3))) + (Y1 * ((C2 * Y2) + (C3 * Y3)))))) + (2 * ((G2 * Y2) + (G3 * Y3)))) + ((Y2 * ((B4 * Y2) + (B5 * Y3))) + (Y3 * ((B6 * Y2) + (B7 * Y3))))) + (2 * ((Y2 * ((C4 * Y4) + (C5 * Y5))) + (Y3 * ((C6 * Y4) + (C7 * Y5)))))) + (2 * ((G4 * Y4) + (G5 * Y5)))) + ((Y4 * ((B8 * Y4) + (B9 * Y5))) + (Y5 * ((B10 * Y4) + (B11 * Y5))))) z 58916864
set_option maxRecDepth 65536 in
set_option maxHeartbeats 40000000 in
theorem rmC3 (l : Launch) (Z : State) (a0 : Array Value) (hw : ∀ d ∈ tables_1, d.before a0 Z = true) (ws : List Jvm.Cond) (a rg rb rc rs : Addr) (fG fB fC fY : Nat → UInt64) (G0 G1 G2 G3 G4 G5 B0 B1 B2 B3 B4 B5 B6 B7 B8 B9 B10 B11 C0 C1 C2 C3 C4 C5 C6 C7 Y0 Y1 Y2 Y3 Y4 Y5 : Int) (h0 : Heap) (n0 : Nat) (Z0 : n0 ≤ h0.size) (f_points : Fld Z h0 a "com/example/mantleray/mantleray/QuadraticModel" "points" "I" (.int (3 : Int32))) (f_gradient : Fld Z h0 a "com/example/mantleray/mantleray/QuadraticModel" "gradient" "[D" (.ref rg)) (f_blocks : Fld Z h0 a "com/example/mantleray/mantleray/QuadraticModel" "blocks" "[D" (.ref rb)) (f_coupling : Fld Z h0 a "com/example/mantleray/mantleray/QuadraticModel" "coupling" "[D" (.ref rc)) (F_G : own_Da Z h0 rg 6 fG) (F_B : own_Da Z h0 rb 12 fB) (F_C : own_Da Z h0 rc 12 fC) (F_Y : own_Da Z h0 rs 6 fY) (nG0 : own_N G0 (fG 0) 128) (nG1 : own_N G1 (fG 1) 128) (nG2 : own_N G2 (fG 2) 128) (nG3 : own_N G3 (fG 3) 128) (nG4 : own_N G4 (fG 4) 128) (nG5 : own_N G5 (fG 5) 128) (nB0 : own_N B0 (fB 0) 128) (nB1 : own_N B1 (fB 1) 128) (nB2 : own_N B2 (fB 2) 128) (nB3 : own_N B3 (fB 3) 128) (nB4 : own_N B4 (fB 4) 128) (nB5 : own_N B5 (fB 5) 128) (nB6 : own_N B6 (fB 6) 128) (nB7 : own_N B7 (fB 7) 128) (nB8 : own_N B8 (fB 8) 128) (nB9 : own_N B9 (fB 9) 128) (nB10 : own_N B10 (fB 10) 128) (nB11 : own_N B11 (fB 11) 128) (nC0 : own_N C0 (fC 0) 128) (nC1 : own_N C1 (fC 1) 128) (nC2 : own_N C2 (fC 2) 128) (nC3 : own_N C3 (fC 3) 128) (nC4 : own_N C4 (fC 4) 128) (nC5 : own_N C5 (fC 5) 128) (nC6 : own_N C6 (fC 6) 128) (nC7 : own_N C7 (fC 7) 128) (nY0 : own_N Y0 (fY 0) 128) (nY1 : own_N Y1 (fY 1) 128) (nY2 : own_N Y2 (fY 2) 128) (nY3 : own_N Y3 (fY 3) 128) (nY4 : own_N Y4 (fY 4) 128) (nY5 : own_N Y5 (fY 5) 128) :
    MetFree l yC (head1 (Jvm.Cond.code yC prog_42_method_3_code 14 (some .double) :: ws) ({ frames := 0, cells := 0, slots := 0, locals := 0 } : Room)) (fun az Uz => az = #[(.ref a), (.ref rs)] ∧ Z.Warmed39 Uz.vm ∧ Uz.heap = h0) (fun _ _ _ _ _ => True) (fun _ Uz oz Vz => ∃ vz Lz, oz = .returned vz ∧ (Q_rmC3 Z a rg rb rc rs fG fB fC fY G0 G1 G2 G3 G4 G5 B0 B1 B2 B3 B4 B5 B6 B7 B8 B9 B10 B11 C0 C1 C2 C3 C4 C5 C6 C7 Y0 Y1 Y2 Y3 Y4 Y5 h0 n0) vz Vz.heap Lz ∧ FrameEnd Uz oz Vz Lz ({ frames := 0, cells := 0, slots := 0, locals := 0 } : Room).cells ({ frames := 0, cells := 0, slots := 0, locals := 0 } : Room).slots) := by
  refine MetFree.of_bodySF (plainFor_of_name pnQ) hisR ?_
  intro p e s m args below meth c s₁ Bd hml0 hP hK
  obtain ⟨rfl, hZ, hh⟩ := hP
  have hx := Bd.exec
  have hby := Bd.bytes
  have hlk := BodyLoose.notSynchronized Bd
  have hml : c.maxLocals = 14 := hml0
  have hown : s.vm.findClass "com/example/mantleray/mantleray/QuadraticModel" = some m.cls := findClass_of_methodNamed Bd.named
  have hnm := (name_of_methodNamed Bd.named Bd.method).1
  have X0 : Stand p l e ({ frames := 0, cells := 0, slots := 0, locals := 0 } : Room) s m #[(.ref a), (.ref rs)] below meth c s₁ [] 0 0 := Stand.of_body Bd
  have e0 : s₁.heap = h0 := by rw [← hh, Bd.state]; rfl
  have N0 := Fr.nil n0
  show own_Win p e below s (Q_rmC3 Z a rg rb rc rs fG fB fC fY G0 G1 G2 G3 G4 G5 B0 B1 B2 B3 B4 B5 B6 B7 B8 B9 B10 B11 C0 C1 C2 C3 C4 C5 C6 C7 Y0 Y1 Y2 Y3 Y4 Y5 h0 n0) _ _ _
  refine own_st (fun tz kz => castTop (efC m a rs) kz) ?_
  show own_Win p e below s _ _ _ (s₁.setTop (mkF m 0 #[.val (.ref a), .val (.ref rs), .unset, .unset, .unset, .unset, .unset, .unset, .unset, .unset, .unset, .unset, .unset, .unset] []))
  obtain ⟨Ls1, hLs1⟩ : ∃ L : Array Slot, L = #[.val (.ref a), .val (.ref rs), .unset, .unset, .unset, .unset, .unset, .unset, .unset, .unset, .unset, .unset, .unset, .unset] := ⟨_, rfl⟩
  rw [← hLs1]
  show own_Win p e below s _ _ _ (s₁.setTop (mkF m 0 Ls1 []))
  refine own_st (fun _ kz => XS.dconst0 X0.here hx rfl (hb hby dc_0) rfl kz) ?_
  show own_Win p e below s _ _ _ (s₁.setTop (mkF m 1 Ls1 [(.double (FP.dconst0))]))
  obtain ⟨Ls2, hLs2⟩ : ∃ L : Array Slot, L = #[.val (.ref a), .val (.ref rs), .val (.double (FP.dconst0)), .second, .unset, .unset, .unset, .unset, .unset, .unset, .unset, .unset, .unset, .unset] := ⟨_, rfl⟩
  refine own_st (fun _ kz => XS.dstoreN X0.here hx rfl (hb hby dc_1) rfl (l' := Ls2) (by show storeLocals Ls1 _ _ = _; rw [hLs1, hLs2]; rfl) kz) ?_
  show own_Win p e below s _ _ _ (s₁.setTop (mkF m 2 Ls2 []))
  refine own_st (fun _ kz => XS.iconst X0.here hx rfl (hb hby dc_2) kz) ?_
  show own_Win p e below s _ _ _ (s₁.setTop (mkF m 3 Ls2 [(.int (0 : Int32))]))
  obtain ⟨Ls3, hLs3⟩ : ∃ L : Array Slot, L = #[.val (.ref a), .val (.ref rs), .val (.double (FP.dconst0)), .second, .val (.int (0 : Int32)), .unset, .unset, .unset, .unset, .unset, .unset, .unset, .unset, .unset] := ⟨_, rfl⟩
  refine own_st (fun _ kz => XS.istore X0.here hx rfl (hb hby dc_3) rfl (l' := Ls3) (by show storeLocals Ls2 _ _ = _; rw [hLs2, hLs3]; rfl) kz) ?_
  show own_Win p e below s _ _ _ (s₁.setTop (mkF m 5 Ls3 []))
  refine own_st (fun _ kz => XS.iload X0.here hx rfl (v := (0 : Int32)) (hb hby dc_5) (by show Ls3[_]? = _; rw [hLs3]; rfl) kz) ?_
  show own_Win p e below s _ _ _ (s₁.setTop (mkF m 7 Ls3 [(.int (0 : Int32))]))
  refine own_st (fun _ kz => XS.aloadN X0.here hx rfl (v := (.ref a)) (hb hby dc_7) (by show Ls3[_]? = _; rw [hLs3]; rfl) rfl kz) ?_
  show own_Win p e below s _ _ _ (s₁.setTop (mkF m 8 Ls3 [(.ref a), (.int (0 : Int32))]))
  obtain ⟨T1, X1, e1, st1⟩ := getF X0 hx hZ hown (host := "") (Or.inl (hw _ (List.mem_of_getElem? (i := 14) rfl))) Via.refl e0 f_points (g := (mkF m 8 Ls3 [(.ref a), (.int (0 : Int32))])) rfl rfl (hb hby dc_8)
  refine own_st st1 ?_
  show own_Win p e below s _ _ _ (T1.setTop (mkF m 11 Ls3 [(.int (3 : Int32)), (.int (0 : Int32))]))
  refine own_st (fun _ kz => XS.icmpNo X1.here hx rfl (hb hby dc_11) rfl (by decide) kz) ?_
  show own_Win p e below s _ _ _ (T1.setTop (mkF m 14 Ls3 []))
  refine own_st (fun _ kz => XS.aloadN X1.here hx rfl (v := (.ref rs)) (hb hby dc_14) (by show Ls3[_]? = _; rw [hLs3]; rfl) rfl kz) ?_
  show own_Win p e below s _ _ _ (T1.setTop (mkF m 15 Ls3 [(.ref rs)]))
  refine own_st (fun _ kz => XS.iconst X1.here hx rfl (hb hby dc_15) kz) ?_
  show own_Win p e below s _ _ _ (T1.setTop (mkF m 16 Ls3 [(.int (2 : Int32)), (.ref rs)]))
  refine own_st (fun _ kz => XS.iload X1.here hx rfl (v := (0 : Int32)) (hb hby dc_16) (by show Ls3[_]? = _; rw [hLs3]; rfl) kz) ?_
  show own_Win p e below s _ _ _ (T1.setTop (mkF m 18 Ls3 [(.int (0 : Int32)), (.int (2 : Int32)), (.ref rs)]))
  refine own_st (fun _ kz => XS.imul X1.here hx rfl (hb hby dc_18) rfl kz) ?_
  show own_Win p e below s _ _ _ (T1.setTop (mkF m 19 Ls3 [(.int ((2 : Int32) * (0 : Int32))), (.ref rs)]))
  show own_Win p e below s _ _ _ (T1.setTop (mkF m 19 Ls3 [(.int (0 : Int32)), (.ref rs)]))
  show own_Win p e below s _ _ _ (T1.setTop (mkF m 19 Ls3 [(.int (0 : Int32)), (.ref rs)]))
  refine own_daload X1 hx hZ e1 F_Y (i := 0) rfl (by decide) (x := (fY 0)) rfl rfl rfl (hb hby dc_19) ?_
  show own_Win p e below s _ _ _ (T1.setTop (mkF m 20 Ls3 [(.double (fY 0))]))
  obtain ⟨Ls4, hLs4⟩ : ∃ L : Array Slot, L = #[.val (.ref a), .val (.ref rs), .val (.double (FP.dconst0)), .second, .val (.int (0 : Int32)), .val (.double (fY 0)), .second, .unset, .unset, .unset, .unset, .unset, .unset, .unset] := ⟨_, rfl⟩
  refine own_st (fun _ kz => XS.dstore X1.here hx rfl (hb hby dc_20) rfl (l' := Ls4) (by show storeLocals Ls3 _ _ = _; rw [hLs3, hLs4]; rfl) kz) ?_
  show own_Win p e below s _ _ _ (T1.setTop (mkF m 22 Ls4 []))
  refine own_st (fun _ kz => XS.aloadN X1.here hx rfl (v := (.ref rs)) (hb hby dc_22) (by show Ls4[_]? = _; rw [hLs4]; rfl) rfl kz) ?_
  show own_Win p e below s _ _ _ (T1.setTop (mkF m 23 Ls4 [(.ref rs)]))
  refine own_st (fun _ kz => XS.iconst X1.here hx rfl (hb hby dc_23) kz) ?_
  show own_Win p e below s _ _ _ (T1.setTop (mkF m 24 Ls4 [(.int (2 : Int32)), (.ref rs)]))
  refine own_st (fun _ kz => XS.iload X1.here hx rfl (v := (0 : Int32)) (hb hby dc_24) (by show Ls4[_]? = _; rw [hLs4]; rfl) kz) ?_
  show own_Win p e below s _ _ _ (T1.setTop (mkF m 26 Ls4 [(.int (0 : Int32)), (.int (2 : Int32)), (.ref rs)]))
  refine own_st (fun _ kz => XS.imul X1.here hx rfl (hb hby dc_26) rfl kz) ?_
  show own_Win p e below s _ _ _ (T1.setTop (mkF m 27 Ls4 [(.int ((2 : Int32) * (0 : Int32))), (.ref rs)]))
  show own_Win p e below s _ _ _ (T1.setTop (mkF m 27 Ls4 [(.int (0 : Int32)), (.ref rs)]))
  refine own_st (fun _ kz => XS.iconst X1.here hx rfl (hb hby dc_27) kz) ?_
  show own_Win p e below s _ _ _ (T1.setTop (mkF m 28 Ls4 [(.int (1 : Int32)), (.int (0 : Int32)), (.ref rs)]))
  refine own_st (fun _ kz => XS.iadd X1.here hx rfl (hb hby dc_28) rfl kz) ?_
  show own_Win p e below s _ _ _ (T1.setTop (mkF m 29 Ls4 [(.int ((0 : Int32) + (1 : Int32))), (.ref rs)]))
  show own_Win p e below s _ _ _ (T1.setTop (mkF m 29 Ls4 [(.int (1 : Int32)), (.ref rs)]))
  show own_Win p e below s _ _ _ (T1.setTop (mkF m 29 Ls4 [(.int (1 : Int32)), (.ref rs)]))
  refine own_daload X1 hx hZ e1 F_Y (i := 1) rfl (by decide) (x := (fY 1)) rfl rfl rfl (hb hby dc_29) ?_
  show own_Win p e below s _ _ _ (T1.setTop (mkF m 30 Ls4 [(.double (fY 1))]))
  obtain ⟨Ls5, hLs5⟩ : ∃ L : Array Slot, L = #[.val (.ref a), .val (.ref rs), .val (.double (FP.dconst0)), .second, .val (.int (0 : Int32)), .val (.double (fY 0)), .second, .val (.double (fY 1)), .second, .unset, .unset, .unset, .unset, .unset] := ⟨_, rfl⟩
  refine own_st (fun _ kz => XS.dstore X1.here hx rfl (hb hby dc_30) rfl (l' := Ls5) (by show storeLocals Ls4 _ _ = _; rw [hLs4, hLs5]; rfl) kz) ?_
  show own_Win p e below s _ _ _ (T1.setTop (mkF m 32 Ls5 []))
  refine own_st (fun _ kz => XS.iconst X1.here hx rfl (hb hby dc_32) kz) ?_
  show own_Win p e below s _ _ _ (T1.setTop (mkF m 33 Ls5 [(.int (4 : Int32))]))
  refine own_st (fun _ kz => XS.iload X1.here hx rfl (v := (0 : Int32)) (hb hby dc_33) (by show Ls5[_]? = _; rw [hLs5]; rfl) kz) ?_
  show own_Win p e below s _ _ _ (T1.setTop (mkF m 35 Ls5 [(.int (0 : Int32)), (.int (4 : Int32))]))
  refine own_st (fun _ kz => XS.imul X1.here hx rfl (hb hby dc_35) rfl kz) ?_
  show own_Win p e below s _ _ _ (T1.setTop (mkF m 36 Ls5 [(.int ((4 : Int32) * (0 : Int32)))]))
  show own_Win p e below s _ _ _ (T1.setTop (mkF m 36 Ls5 [(.int (0 : Int32))]))
  obtain ⟨Ls6, hLs6⟩ : ∃ L : Array Slot, L = #[.val (.ref a), .val (.ref rs), .val (.double (FP.dconst0)), .second, .val (.int (0 : Int32)), .val (.double (fY 0)), .second, .val (.double (fY 1)), .second, .val (.int (0 : Int32)), .unset, .unset, .unset, .unset] := ⟨_, rfl⟩
  refine own_st (fun _ kz => XS.istore X1.here hx rfl (hb hby dc_36) rfl (l' := Ls6) (by show storeLocals Ls5 _ _ = _; rw [hLs5, hLs6]; rfl) kz) ?_
  show own_Win p e below s _ _ _ (T1.setTop (mkF m 38 Ls6 []))
  refine own_st (fun _ kz => XS.dloadN X1.here hx rfl (v := (FP.dconst0)) (hb hby dc_38) (by show Ls6[_]? = _; rw [hLs6]; rfl) kz) ?_
  show own_Win p e below s _ _ _ (T1.setTop (mkF m 39 Ls6 [(.double (FP.dconst0))]))
  refine own_st (fun _ kz => XS.aloadN X1.here hx rfl (v := (.ref a)) (hb hby dc_39) (by show Ls6[_]? = _; rw [hLs6]; rfl) rfl kz) ?_
  show own_Win p e below s _ _ _ (T1.setTop (mkF m 40 Ls6 [(.ref a), (.double (FP.dconst0))]))
  obtain ⟨T2, X2, e2, st2⟩ := getF X1 hx hZ hown (host := "") (Or.inl (hw _ (List.mem_of_getElem? (i := 16) rfl))) Via.refl e1 f_gradient (g := (mkF m 40 Ls6 [(.ref a), (.double (FP.dconst0))])) rfl rfl (hb hby dc_40)
  refine own_st st2 ?_
  show own_Win p e below s _ _ _ (T2.setTop (mkF m 43 Ls6 [(.ref rg), (.double (FP.dconst0))]))
  refine own_st (fun _ kz => XS.iconst X2.here hx rfl (hb hby dc_43) kz) ?_
  show own_Win p e below s _ _ _ (T2.setTop (mkF m 44 Ls6 [(.int (2 : Int32)), (.ref rg), (.double (FP.dconst0))]))
  refine own_st (fun _ kz => XS.iload X2.here hx rfl (v := (0 : Int32)) (hb hby dc_44) (by show Ls6[_]? = _; rw [hLs6]; rfl) kz) ?_
  show own_Win p e below s _ _ _ (T2.setTop (mkF m 46 Ls6 [(.int (0 : Int32)), (.int (2 : Int32)), (.ref rg), (.double (FP.dconst0))]))
  refine own_st (fun _ kz => XS.imul X2.here hx rfl (hb hby dc_46) rfl kz) ?_
  show own_Win p e below s _ _ _ (T2.setTop (mkF m 47 Ls6 [(.int ((2 : Int32) * (0 : Int32))), (.ref rg), (.double (FP.dconst0))]))
  show own_Win p e below s _ _ _ (T2.setTop (mkF m 47 Ls6 [(.int (0 : Int32)), (.ref rg), (.double (FP.dconst0))]))
  show own_Win p e below s _ _ _ (T2.setTop (mkF m 47 Ls6 [(.int (0 : Int32)), (.ref rg), (.double (FP.dconst0))]))
  refine own_daload X2 hx hZ e2 F_G (i := 0) rfl (by decide) (x := (fG 0)) rfl rfl rfl (hb hby dc_47) ?_
  show own_Win p e below s _ _ _ (T2.setTop (mkF m 48 Ls6 [(.double (fG 0)), (.double (FP.dconst0))]))
  refine own_st (fun _ kz => XS.dload X2.here hx rfl (v := (fY 0)) (hb hby dc_48) (by show Ls6[_]? = _; rw [hLs6]; rfl) kz) ?_
  show own_Win p e below s _ _ _ (T2.setTop (mkF m 50 Ls6 [(.double (fY 0)), (.double (fG 0)), (.double (FP.dconst0))]))
  obtain ⟨z1, hz1⟩ : ∃ z, (FP.dmul (fG 0) (fY 0)) = z := ⟨_, rfl⟩
  have dz1 := own_Nm nG0 nY0 (by decide)
  rw [hz1] at dz1
  refine own_st (fun _ kz => XS.dmulS X2.here hx rfl (hb hby dc_50) rfl (by rw [hz1]; exact own_Nn dz1) hz1 kz) ?_
  show own_Win p e below s _ _ _ (T2.setTop (mkF m 51 Ls6 [(.double z1), (.double (FP.dconst0))]))
  refine own_st (fun _ kz => XS.aloadN X2.here hx rfl (v := (.ref a)) (hb hby dc_51) (by show Ls6[_]? = _; rw [hLs6]; rfl) rfl kz) ?_
  show own_Win p e below s _ _ _ (T2.setTop (mkF m 52 Ls6 [(.ref a), (.double z1), (.double (FP.dconst0))]))
  obtain ⟨T3, X3, e3, st3⟩ := getF X2 hx hZ hown (host := "") (Or.inl (hw _ (List.mem_of_getElem? (i := 16) rfl))) Via.refl e2 f_gradient (g := (mkF m 52 Ls6 [(.ref a), (.double z1), (.double (FP.dconst0))])) rfl rfl (hb hby dc_52)
  refine own_st st3 ?_
  show own_Win p e below s _ _ _ (T3.setTop (mkF m 55 Ls6 [(.ref rg), (.double z1), (.double (FP.dconst0))]))
  refine own_st (fun _ kz => XS.iconst X3.here hx rfl (hb hby dc_55) kz) ?_
  show own_Win p e below s _ _ _ (T3.setTop (mkF m 56 Ls6 [(.int (2 : Int32)), (.ref rg), (.double z1), (.double (FP.dconst0))]))
  refine own_st (fun _ kz => XS.iload X3.here hx rfl (v := (0 : Int32)) (hb hby dc_56) (by show Ls6[_]? = _; rw [hLs6]; rfl) kz) ?_
  show own_Win p e below s _ _ _ (T3.setTop (mkF m 58 Ls6 [(.int (0 : Int32)), (.int (2 : Int32)), (.ref rg), (.double z1), (.double (FP.dconst0))]))
  refine own_st (fun _ kz => XS.imul X3.here hx rfl (hb hby dc_58) rfl kz) ?_
  show own_Win p e below s _ _ _ (T3.setTop (mkF m 59 Ls6 [(.int ((2 : Int32) * (0 : Int32))), (.ref rg), (.double z1), (.double (FP.dconst0))]))
  show own_Win p e below s _ _ _ (T3.setTop (mkF m 59 Ls6 [(.int (0 : Int32)), (.ref rg), (.double z1), (.double (FP.dconst0))]))
  refine own_st (fun _ kz => XS.iconst X3.here hx rfl (hb hby dc_59) kz) ?_
  show own_Win p e below s _ _ _ (T3.setTop (mkF m 60 Ls6 [(.int (1 : Int32)), (.int (0 : Int32)), (.ref rg), (.double z1), (.double (FP.dconst0))]))
  refine own_st (fun _ kz => XS.iadd X3.here hx rfl (hb hby dc_60) rfl kz) ?_
  show own_Win p e below s _ _ _ (T3.setTop (mkF m 61 Ls6 [(.int ((0 : Int32) + (1 : Int32))), (.ref rg), (.double z1), (.double (FP.dconst0))]))
  show own_Win p e below s _ _ _ (T3.setTop (mkF m 61 Ls6 [(.int (1 : Int32)), (.ref rg), (.double z1), (.double (FP.dconst0))]))
  show own_Win p e below s _ _ _ (T3.setTop (mkF m 61 Ls6 [(.int (1 : Int32)), (.ref rg), (.double z1), (.double (FP.dconst0))]))
  refine own_daload X3 hx hZ e3 F_G (i := 1) rfl (by decide) (x := (fG 1)) rfl rfl rfl (hb hby dc_61) ?_
  show own_Win p e below s _ _ _ (T3.setTop (mkF m 62 Ls6 [(.double (fG 1)), (.double z1), (.double (FP.dconst0))]))
  refine own_st (fun _ kz => XS.dload X3.here hx rfl (v := (fY 1)) (hb hby dc_62) (by show Ls6[_]? = _; rw [hLs6]; rfl) kz) ?_
  show own_Win p e below s _ _ _ (T3.setTop (mkF m 64 Ls6 [(.double (fY 1)), (.double (fG 1)), (.double z1), (.double (FP.dconst0))]))
  obtain ⟨z2, hz2⟩ : ∃ z, (FP.dmul (fG 1) (fY 1)) = z := ⟨_, rfl⟩
  have dz2 := own_Nm nG1 nY1 (by decide)
  rw [hz2] at dz2
  refine own_st (fun _ kz => XS.dmulS X3.here hx rfl (hb hby dc_64) rfl (by rw [hz2]; exact own_Nn dz2) hz2 kz) ?_
  show own_Win p e below s _ _ _ (T3.setTop (mkF m 65 Ls6 [(.double z2), (.double z1), (.double (FP.dconst0))]))
  obtain ⟨z3, hz3⟩ : ∃ z, (FP.dadd z1 z2) = z := ⟨_, rfl⟩
  have dz3 := own_Na dz1 dz2 (by decide)
  rw [hz3] at dz3
  refine own_st (fun _ kz => XS.daddS X3.here hx rfl (hb hby dc_65) rfl (by rw [hz3]; exact own_Nn dz3) hz3 kz) ?_
  show own_Win p e below s _ _ _ (T3.setTop (mkF m 66 Ls6 [(.double z3), (.double (FP.dconst0))]))
  obtain ⟨z4, hz4⟩ : ∃ z, (FP.dadd (FP.dconst0) z3) = z := ⟨_, rfl⟩
  have dz4 := own_Na own_N0 dz3 (by decide)
  rw [hz4] at dz4
  refine own_st (fun _ kz => XS.daddS X3.here hx rfl (hb hby dc_66) rfl (by rw [hz4]; exact own_Nn dz4) hz4 kz) ?_
  show own_Win p e below s _ _ _ (T3.setTop (mkF m 67 Ls6 [(.double z4)]))
  obtain ⟨Ls7, hLs7⟩ : ∃ L : Array Slot, L = #[.val (.ref a), .val (.ref rs), .val (.double z4), .second, .val (.int (0 : Int32)), .val (.double (fY 0)), .second, .val (.double (fY 1)), .second, .val (.int (0 : Int32)), .unset, .unset, .unset, .unset] := ⟨_, rfl⟩
  refine own_st (fun _ kz => XS.dstoreN X3.here hx rfl (hb hby dc_67) rfl (l' := Ls7) (by show storeLocals Ls6 _ _ = _; rw [hLs6, hLs7]; rfl) kz) ?_
  show own_Win p e below s _ _ _ (T3.setTop (mkF m 68 Ls7 []))
  refine own_st (fun _ kz => XS.dloadN X3.here hx rfl (v := z4) (hb hby dc_68) (by show Ls7[_]? = _; rw [hLs7]; rfl) kz) ?_
  show own_Win p e below s _ _ _ (T3.setTop (mkF m 69 Ls7 [(.double z4)]))
  refine own_st (fun _ kz => XS.dload X3.here hx rfl (v := (fY 0)) (hb hby dc_69) (by show Ls7[_]? = _; rw [hLs7]; rfl) kz) ?_
  show own_Win p e below s _ _ _ (T3.setTop (mkF m 71 Ls7 [(.double (fY 0)), (.double z4)]))
  refine own_st (fun _ kz => XS.aloadN X3.here hx rfl (v := (.ref a)) (hb hby dc_71) (by show Ls7[_]? = _; rw [hLs7]; rfl) rfl kz) ?_
  show own_Win p e below s _ _ _ (T3.setTop (mkF m 72 Ls7 [(.ref a), (.double (fY 0)), (.double z4)]))
  obtain ⟨T4, X4, e4, st4⟩ := getF X3 hx hZ hown (host := "") (Or.inl (hw _ (List.mem_of_getElem? (i := 19) rfl))) Via.refl e3 f_blocks (g := (mkF m 72 Ls7 [(.ref a), (.double (fY 0)), (.double z4)])) rfl rfl (hb hby dc_72)
  refine own_st st4 ?_
  show own_Win p e below s _ _ _ (T4.setTop (mkF m 75 Ls7 [(.ref rb), (.double (fY 0)), (.double z4)]))
  refine own_st (fun _ kz => XS.iload X4.here hx rfl (v := (0 : Int32)) (hb hby dc_75) (by show Ls7[_]? = _; rw [hLs7]; rfl) kz) ?_
  show own_Win p e below s _ _ _ (T4.setTop (mkF m 77 Ls7 [(.int (0 : Int32)), (.ref rb), (.double (fY 0)), (.double z4)]))
  show own_Win p e below s _ _ _ (T4.setTop (mkF m 77 Ls7 [(.int (0 : Int32)), (.ref rb), (.double (fY 0)), (.double z4)]))
  refine own_daload X4 hx hZ e4 F_B (i := 0) rfl (by decide) (x := (fB 0)) rfl rfl rfl (hb hby dc_77) ?_
  show own_Win p e below s _ _ _ (T4.setTop (mkF m 78 Ls7 [(.double (fB 0)), (.double (fY 0)), (.double z4)]))
  refine own_st (fun _ kz => XS.dload X4.here hx rfl (v := (fY 0)) (hb hby dc_78) (by show Ls7[_]? = _; rw [hLs7]; rfl) kz) ?_
  show own_Win p e below s _ _ _ (T4.setTop (mkF m 80 Ls7 [(.double (fY 0)), (.double (fB 0)), (.double (fY 0)), (.double z4)]))
  obtain ⟨z5, hz5⟩ : ∃ z, (FP.dmul (fB 0) (fY 0)) = z := ⟨_, rfl⟩
  have dz5 := own_Nm nB0 nY0 (by decide)
  rw [hz5] at dz5
  refine own_st (fun _ kz => XS.dmulS X4.here hx rfl (hb hby dc_80) rfl (by rw [hz5]; exact own_Nn dz5) hz5 kz) ?_
  show own_Win p e below s _ _ _ (T4.setTop (mkF m 81 Ls7 [(.double z5), (.double (fY 0)), (.double z4)]))
  refine own_st (fun _ kz => XS.aloadN X4.here hx rfl (v := (.ref a)) (hb hby dc_81) (by show Ls7[_]? = _; rw [hLs7]; rfl) rfl kz) ?_
  show own_Win p e below s _ _ _ (T4.setTop (mkF m 82 Ls7 [(.ref a), (.double z5), (.double (fY 0)), (.double z4)]))
  obtain ⟨T5, X5, e5, st5⟩ := getF X4 hx hZ hown (host := "") (Or.inl (hw _ (List.mem_of_getElem? (i := 19) rfl))) Via.refl e4 f_blocks (g := (mkF m 82 Ls7 [(.ref a), (.double z5), (.double (fY 0)), (.double z4)])) rfl rfl (hb hby dc_82)
  refine own_st st5 ?_
  show own_Win p e below s _ _ _ (T5.setTop (mkF m 85 Ls7 [(.ref rb), (.double z5), (.double (fY 0)), (.double z4)]))
  refine own_st (fun _ kz => XS.iload X5.here hx rfl (v := (0 : Int32)) (hb hby dc_85) (by show Ls7[_]? = _; rw [hLs7]; rfl) kz) ?_
  show own_Win p e below s _ _ _ (T5.setTop (mkF m 87 Ls7 [(.int (0 : Int32)), (.ref rb), (.double z5), (.double (fY 0)), (.double z4)]))
  refine own_st (fun _ kz => XS.iconst X5.here hx rfl (hb hby dc_87) kz) ?_
  show own_Win p e below s _ _ _ (T5.setTop (mkF m 88 Ls7 [(.int (1 : Int32)), (.int (0 : Int32)), (.ref rb), (.double z5), (.double (fY 0)), (.double z4)]))
  refine own_st (fun _ kz => XS.iadd X5.here hx rfl (hb hby dc_88) rfl kz) ?_
  show own_Win p e below s _ _ _ (T5.setTop (mkF m 89 Ls7 [(.int ((0 : Int32) + (1 : Int32))), (.ref rb), (.double z5), (.double (fY 0)), (.double z4)]))
  show own_Win p e below s _ _ _ (T5.setTop (mkF m 89 Ls7 [(.int (1 : Int32)), (.ref rb), (.double z5), (.double (fY 0)), (.double z4)]))
  show own_Win p e below s _ _ _ (T5.setTop (mkF m 89 Ls7 [(.int (1 : Int32)), (.ref rb), (.double z5), (.double (fY 0)), (.double z4)]))
  refine own_daload X5 hx hZ e5 F_B (i := 1) rfl (by decide) (x := (fB 1)) rfl rfl rfl (hb hby dc_89) ?_
  show own_Win p e below s _ _ _ (T5.setTop (mkF m 90 Ls7 [(.double (fB 1)), (.double z5), (.double (fY 0)), (.double z4)]))
  refine own_st (fun _ kz => XS.dload X5.here hx rfl (v := (fY 1)) (hb hby dc_90) (by show Ls7[_]? = _; rw [hLs7]; rfl) kz) ?_
  show own_Win p e below s _ _ _ (T5.setTop (mkF m 92 Ls7 [(.double (fY 1)), (.double (fB 1)), (.double z5), (.double (fY 0)), (.double z4)]))
  obtain ⟨z6, hz6⟩ : ∃ z, (FP.dmul (fB 1) (fY 1)) = z := ⟨_, rfl⟩
  have dz6 := own_Nm nB1 nY1 (by decide)
  rw [hz6] at dz6
  refine own_st (fun _ kz => XS.dmulS X5.here hx rfl (hb hby dc_92) rfl (by rw [hz6]; exact own_Nn dz6) hz6 kz) ?_
  show own_Win p e below s _ _ _ (T5.setTop (mkF m 93 Ls7 [(.double z6), (.double z5), (.double (fY 0)), (.double z4)]))
  obtain ⟨z7, hz7⟩ : ∃ z, (FP.dadd z5 z6) = z := ⟨_, rfl⟩
  have dz7 := own_Na dz5 dz6 (by decide)
  rw [hz7] at dz7
  refine own_st (fun _ kz => XS.daddS X5.here hx rfl (hb hby dc_93) rfl (by rw [hz7]; exact own_Nn dz7) hz7 kz) ?_
  show own_Win p e below s _ _ _ (T5.setTop (mkF m 94 Ls7 [(.double z7), (.double (fY 0)), (.double z4)]))
  obtain ⟨z8, hz8⟩ : ∃ z, (FP.dmul (fY 0) z7) = z := ⟨_, rfl⟩
  have dz8 := own_Nm nY0 dz7 (by decide)
  rw [hz8] at dz8
  refine own_st (fun _ kz => XS.dmulS X5.here hx rfl (hb hby dc_94) rfl (by rw [hz8]; exact own_Nn dz8) hz8 kz) ?_
  show own_Win p e below s _ _ _ (T5.setTop (mkF m 95 Ls7 [(.double z8), (.double z4)]))
  refine own_st (fun _ kz => XS.dload X5.here hx rfl (v := (fY 1)) (hb hby dc_95) (by show Ls7[_]? = _; rw [hLs7]; rfl) kz) ?_
  show own_Win p e below s _ _ _ (T5.setTop (mkF m 97 Ls7 [(.double (fY 1)), (.double z8), (.double z4)]))
  refine own_st (fun _ kz => XS.aloadN X5.here hx rfl (v := (.ref a)) (hb hby dc_97) (by show Ls7[_]? = _; rw [hLs7]; rfl) rfl kz) ?_
  show own_Win p e below s _ _ _ (T5.setTop (mkF m 98 Ls7 [(.ref a), (.double (fY 1)), (.double z8), (.double z4)]))
  obtain ⟨T6, X6, e6, st6⟩ := getF X5 hx hZ hown (host := "") (Or.inl (hw _ (List.mem_of_getElem? (i := 19) rfl))) Via.refl e5 f_blocks (g := (mkF m 98 Ls7 [(.ref a), (.double (fY 1)), (.double z8), (.double z4)])) rfl rfl (hb hby dc_98)
  refine own_st st6 ?_
  show own_Win p e below s _ _ _ (T6.setTop (mkF m 101 Ls7 [(.ref rb), (.double (fY 1)), (.double z8), (.double z4)]))
  refine own_st (fun _ kz => XS.iload X6.here hx rfl (v := (0 : Int32)) (hb hby dc_101) (by show Ls7[_]? = _; rw [hLs7]; rfl) kz) ?_
  show own_Win p e below s _ _ _ (T6.setTop (mkF m 103 Ls7 [(.int (0 : Int32)), (.ref rb), (.double (fY 1)), (.double z8), (.double z4)]))
  refine own_st (fun _ kz => XS.iconst X6.here hx rfl (hb hby dc_103) kz) ?_
  show own_Win p e below s _ _ _ (T6.setTop (mkF m 104 Ls7 [(.int (2 : Int32)), (.int (0 : Int32)), (.ref rb), (.double (fY 1)), (.double z8), (.double z4)]))
  refine own_st (fun _ kz => XS.iadd X6.here hx rfl (hb hby dc_104) rfl kz) ?_
  show own_Win p e below s _ _ _ (T6.setTop (mkF m 105 Ls7 [(.int ((0 : Int32) + (2 : Int32))), (.ref rb), (.double (fY 1)), (.double z8), (.double z4)]))
  show own_Win p e below s _ _ _ (T6.setTop (mkF m 105 Ls7 [(.int (2 : Int32)), (.ref rb), (.double (fY 1)), (.double z8), (.double z4)]))
  show own_Win p e below s _ _ _ (T6.setTop (mkF m 105 Ls7 [(.int (2 : Int32)), (.ref rb), (.double (fY 1)), (.double z8), (.double z4)]))
  refine own_daload X6 hx hZ e6 F_B (i := 2) rfl (by decide) (x := (fB 2)) rfl rfl rfl (hb hby dc_105) ?_
  show own_Win p e below s _ _ _ (T6.setTop (mkF m 106 Ls7 [(.double (fB 2)), (.double (fY 1)), (.double z8), (.double z4)]))
  refine own_st (fun _ kz => XS.dload X6.here hx rfl (v := (fY 0)) (hb hby dc_106) (by show Ls7[_]? = _; rw [hLs7]; rfl) kz) ?_
  show own_Win p e below s _ _ _ (T6.setTop (mkF m 108 Ls7 [(.double (fY 0)), (.double (fB 2)), (.double (fY 1)), (.double z8), (.double z4)]))
  obtain ⟨z9, hz9⟩ : ∃ z, (FP.dmul (fB 2) (fY 0)) = z := ⟨_, rfl⟩
  have dz9 := own_Nm nB2 nY0 (by decide)
  rw [hz9] at dz9
  refine own_st (fun _ kz => XS.dmulS X6.here hx rfl (hb hby dc_108) rfl (by rw [hz9]; exact own_Nn dz9) hz9 kz) ?_
  show own_Win p e below s _ _ _ (T6.setTop (mkF m 109 Ls7 [(.double z9), (.double (fY 1)), (.double z8), (.double z4)]))
  refine own_st (fun _ kz => XS.aloadN X6.here hx rfl (v := (.ref a)) (hb hby dc_109) (by show Ls7[_]? = _; rw [hLs7]; rfl) rfl kz) ?_
  show own_Win p e below s _ _ _ (T6.setTop (mkF m 110 Ls7 [(.ref a), (.double z9), (.double (fY 1)), (.double z8), (.double z4)]))
  obtain ⟨T7, X7, e7, st7⟩ := getF X6 hx hZ hown (host := "") (Or.inl (hw _ (List.mem_of_getElem? (i := 19) rfl))) Via.refl e6 f_blocks (g := (mkF m 110 Ls7 [(.ref a), (.double z9), (.double (fY 1)), (.double z8), (.double z4)])) rfl rfl (hb hby dc_110)
  refine own_st st7 ?_
  show own_Win p e below s _ _ _ (T7.setTop (mkF m 113 Ls7 [(.ref rb), (.double z9), (.double (fY 1)), (.double z8), (.double z4)]))
  refine own_st (fun _ kz => XS.iload X7.here hx rfl (v := (0 : Int32)) (hb hby dc_113) (by show Ls7[_]? = _; rw [hLs7]; rfl) kz) ?_
  show own_Win p e below s _ _ _ (T7.setTop (mkF m 115 Ls7 [(.int (0 : Int32)), (.ref rb), (.double z9), (.double (fY 1)), (.double z8), (.double z4)]))
  refine own_st (fun _ kz => XS.iconst X7.here hx rfl (hb hby dc_115) kz) ?_
  show own_Win p e below s _ _ _ (T7.setTop (mkF m 116 Ls7 [(.int (3 : Int32)), (.int (0 : Int32)), (.ref rb), (.double z9), (.double (fY 1)), (.double z8), (.double z4)]))
  refine own_st (fun _ kz => XS.iadd X7.here hx rfl (hb hby dc_116) rfl kz) ?_
  show own_Win p e below s _ _ _ (T7.setTop (mkF m 117 Ls7 [(.int ((0 : Int32) + (3 : Int32))), (.ref rb), (.double z9), (.double (fY 1)), (.double z8), (.double z4)]))
  show own_Win p e below s _ _ _ (T7.setTop (mkF m 117 Ls7 [(.int (3 : Int32)), (.ref rb), (.double z9), (.double (fY 1)), (.double z8), (.double z4)]))
  show own_Win p e below s _ _ _ (T7.setTop (mkF m 117 Ls7 [(.int (3 : Int32)), (.ref rb), (.double z9), (.double (fY 1)), (.double z8), (.double z4)]))
  refine own_daload X7 hx hZ e7 F_B (i := 3) rfl (by decide) (x := (fB 3)) rfl rfl rfl (hb hby dc_117) ?_
  show own_Win p e below s _ _ _ (T7.setTop (mkF m 118 Ls7 [(.double (fB 3)), (.double z9), (.double (fY 1)), (.double z8), (.double z4)]))
  refine own_st (fun _ kz => XS.dload X7.here hx rfl (v := (fY 1)) (hb hby dc_118) (by show Ls7[_]? = _; rw [hLs7]; rfl) kz) ?_
  show own_Win p e below s _ _ _ (T7.setTop (mkF m 120 Ls7 [(.double (fY 1)), (.double (fB 3)), (.double z9), (.double (fY 1)), (.double z8), (.double z4)]))
  obtain ⟨z10, hz10⟩ : ∃ z, (FP.dmul (fB 3) (fY 1)) = z := ⟨_, rfl⟩
  have dz10 := own_Nm nB3 nY1 (by decide)
  rw [hz10] at dz10
  refine own_st (fun _ kz => XS.dmulS X7.here hx rfl (hb hby dc_120) rfl (by rw [hz10]; exact own_Nn dz10) hz10 kz) ?_
  show own_Win p e below s _ _ _ (T7.setTop (mkF m 121 Ls7 [(.double z10), (.double z9), (.double (fY 1)), (.double z8), (.double z4)]))
  obtain ⟨z11, hz11⟩ : ∃ z, (FP.dadd z9 z10) = z := ⟨_, rfl⟩
  have dz11 := own_Na dz9 dz10 (by decide)
  rw [hz11] at dz11
  refine own_st (fun _ kz => XS.daddS X7.here hx rfl (hb hby dc_121) rfl (by rw [hz11]; exact own_Nn dz11) hz11 kz) ?_
  show own_Win p e below s _ _ _ (T7.setTop (mkF m 122 Ls7 [(.double z11), (.double (fY 1)), (.double z8), (.double z4)]))
  obtain ⟨z12, hz12⟩ : ∃ z, (FP.dmul (fY 1) z11) = z := ⟨_, rfl⟩
  have dz12 := own_Nm nY1 dz11 (by decide)
  rw [hz12] at dz12
  refine own_st (fun _ kz => XS.dmulS X7.here hx rfl (hb hby dc_122) rfl (by rw [hz12]; exact own_Nn dz12) hz12 kz) ?_
  show own_Win p e below s _ _ _ (T7.setTop (mkF m 123 Ls7 [(.double z12), (.double z8), (.double z4)]))
  obtain ⟨z13, hz13⟩ : ∃ z, (FP.dadd z8 z12) = z := ⟨_, rfl⟩
  have dz13 := own_Na dz8 dz12 (by decide)
  rw [hz13] at dz13
  refine own_st (fun _ kz => XS.daddS X7.here hx rfl (hb hby dc_123) rfl (by rw [hz13]; exact own_Nn dz13) hz13 kz) ?_
  show own_Win p e below s _ _ _ (T7.setTop (mkF m 124 Ls7 [(.double z13), (.double z4)]))
  refine own_st (fun tz kz => X7.ldc2DoubleC hx hown (mvT hZ (hw _ (List.mem_of_getElem? (i := 44) rfl))) (g := (mkF m 124 Ls7 [(.double z13), (.double z4)])) rfl (hb hby dc_124) tz kz) ?_
  show own_Win p e below s _ _ _ (T7.setTop (mkF m 127 Ls7 [(.double (4611686018427387904 : UInt64)), (.double z13), (.double z4)]))
  obtain ⟨z14, hz14⟩ : ∃ z, (FP.ddiv z13 (4611686018427387904 : UInt64)) = z := ⟨_, rfl⟩
  have dz14 := own_Hd dz13 (by decide)
  rw [hz14] at dz14
  refine own_st (fun _ kz => XS.ddivS X7.here hx rfl (hb hby dc_127) rfl (by rw [hz14]; exact own_Hn dz14) hz14 kz) ?_
  show own_Win p e below s _ _ _ (T7.setTop (mkF m 128 Ls7 [(.double z14), (.double z4)]))
  obtain ⟨z15, hz15⟩ : ∃ z, (FP.dadd z4 z14) = z := ⟨_, rfl⟩
  have dz15 := own_Ha (own_Nh dz4) dz14 (by decide)
  rw [hz15] at dz15
  refine own_st (fun _ kz => XS.daddS X7.here hx rfl (hb hby dc_128) rfl (by rw [hz15]; exact own_Hn dz15) hz15 kz) ?_
  show own_Win p e below s _ _ _ (T7.setTop (mkF m 129 Ls7 [(.double z15)]))
  obtain ⟨Ls8, hLs8⟩ : ∃ L : Array Slot, L = #[.val (.ref a), .val (.ref rs), .val (.double z15), .second, .val (.int (0 : Int32)), .val (.double (fY 0)), .second, .val (.double (fY 1)), .second, .val (.int (0 : Int32)), .unset, .unset, .unset, .unset] := ⟨_, rfl⟩
  refine own_st (fun _ kz => XS.dstoreN X7.here hx rfl (hb hby dc_129) rfl (l' := Ls8) (by show storeLocals Ls7 _ _ = _; rw [hLs7, hLs8]; rfl) kz) ?_
  show own_Win p e below s _ _ _ (T7.setTop (mkF m 130 Ls8 []))
  refine own_st (fun _ kz => XS.iload X7.here hx rfl (v := (0 : Int32)) (hb hby dc_130) (by show Ls8[_]? = _; rw [hLs8]; rfl) kz) ?_
  show own_Win p e below s _ _ _ (T7.setTop (mkF m 132 Ls8 [(.int (0 : Int32))]))
  refine own_st (fun _ kz => XS.iconst X7.here hx rfl (hb hby dc_132) kz) ?_
  show own_Win p e below s _ _ _ (T7.setTop (mkF m 133 Ls8 [(.int (1 : Int32)), (.int (0 : Int32))]))
  refine own_st (fun _ kz => XS.iadd X7.here hx rfl (hb hby dc_133) rfl kz) ?_
  show own_Win p e below s _ _ _ (T7.setTop (mkF m 134 Ls8 [(.int ((0 : Int32) + (1 : Int32)))]))
  show own_Win p e below s _ _ _ (T7.setTop (mkF m 134 Ls8 [(.int (1 : Int32))]))
  refine own_st (fun _ kz => XS.aloadN X7.here hx rfl (v := (.ref a)) (hb hby dc_134) (by show Ls8[_]? = _; rw [hLs8]; rfl) rfl kz) ?_
  show own_Win p e below s _ _ _ (T7.setTop (mkF m 135 Ls8 [(.ref a), (.int (1 : Int32))]))
  obtain ⟨T8, X8, e8, st8⟩ := getF X7 hx hZ hown (host := "") (Or.inl (hw _ (List.mem_of_getElem? (i := 14) rfl))) Via.refl e7 f_points (g := (mkF m 135 Ls8 [(.ref a), (.int (1 : Int32))])) rfl rfl (hb hby dc_135)
  refine own_st st8 ?_
  show own_Win p e below s _ _ _ (T8.setTop (mkF m 138 Ls8 [(.int (3 : Int32)), (.int (1 : Int32))]))
  refine own_st (fun _ kz => XS.icmpNo X8.here hx rfl (hb hby dc_138) rfl (by decide) kz) ?_
  show own_Win p e below s _ _ _ (T8.setTop (mkF m 141 Ls8 []))
  refine own_st (fun _ kz => XS.aloadN X8.here hx rfl (v := (.ref rs)) (hb hby dc_141) (by show Ls8[_]? = _; rw [hLs8]; rfl) rfl kz) ?_
  show own_Win p e below s _ _ _ (T8.setTop (mkF m 142 Ls8 [(.ref rs)]))
  refine own_st (fun _ kz => XS.iconst X8.here hx rfl (hb hby dc_142) kz) ?_
  show own_Win p e below s _ _ _ (T8.setTop (mkF m 143 Ls8 [(.int (2 : Int32)), (.ref rs)]))
  refine own_st (fun _ kz => XS.iload X8.here hx rfl (v := (0 : Int32)) (hb hby dc_143) (by show Ls8[_]? = _; rw [hLs8]; rfl) kz) ?_
  show own_Win p e below s _ _ _ (T8.setTop (mkF m 145 Ls8 [(.int (0 : Int32)), (.int (2 : Int32)), (.ref rs)]))
  refine own_st (fun _ kz => XS.imul X8.here hx rfl (hb hby dc_145) rfl kz) ?_
  show own_Win p e below s _ _ _ (T8.setTop (mkF m 146 Ls8 [(.int ((2 : Int32) * (0 : Int32))), (.ref rs)]))
  show own_Win p e below s _ _ _ (T8.setTop (mkF m 146 Ls8 [(.int (0 : Int32)), (.ref rs)]))
  refine own_st (fun _ kz => XS.iconst X8.here hx rfl (hb hby dc_146) kz) ?_
  show own_Win p e below s _ _ _ (T8.setTop (mkF m 147 Ls8 [(.int (2 : Int32)), (.int (0 : Int32)), (.ref rs)]))
  refine own_st (fun _ kz => XS.iadd X8.here hx rfl (hb hby dc_147) rfl kz) ?_
  show own_Win p e below s _ _ _ (T8.setTop (mkF m 148 Ls8 [(.int ((0 : Int32) + (2 : Int32))), (.ref rs)]))
  show own_Win p e below s _ _ _ (T8.setTop (mkF m 148 Ls8 [(.int (2 : Int32)), (.ref rs)]))
  show own_Win p e below s _ _ _ (T8.setTop (mkF m 148 Ls8 [(.int (2 : Int32)), (.ref rs)]))
  refine own_daload X8 hx hZ e8 F_Y (i := 2) rfl (by decide) (x := (fY 2)) rfl rfl rfl (hb hby dc_148) ?_
  show own_Win p e below s _ _ _ (T8.setTop (mkF m 149 Ls8 [(.double (fY 2))]))
  obtain ⟨Ls9, hLs9⟩ : ∃ L : Array Slot, L = #[.val (.ref a), .val (.ref rs), .val (.double z15), .second, .val (.int (0 : Int32)), .val (.double (fY 0)), .second, .val (.double (fY 1)), .second, .val (.int (0 : Int32)), .val (.double (fY 2)), .second, .unset, .unset] := ⟨_, rfl⟩
  refine own_st (fun _ kz => XS.dstore X8.here hx rfl (hb hby dc_149) rfl (l' := Ls9) (by show storeLocals Ls8 _ _ = _; rw [hLs8, hLs9]; rfl) kz) ?_
  show own_Win p e below s _ _ _ (T8.setTop (mkF m 151 Ls9 []))
  refine own_st (fun _ kz => XS.aloadN X8.here hx rfl (v := (.ref rs)) (hb hby dc_151) (by show Ls9[_]? = _; rw [hLs9]; rfl) rfl kz) ?_
  show own_Win p e below s _ _ _ (T8.setTop (mkF m 152 Ls9 [(.ref rs)]))
  refine own_st (fun _ kz => XS.iconst X8.here hx rfl (hb hby dc_152) kz) ?_
  show own_Win p e below s _ _ _ (T8.setTop (mkF m 153 Ls9 [(.int (2 : Int32)), (.ref rs)]))
  refine own_st (fun _ kz => XS.iload X8.here hx rfl (v := (0 : Int32)) (hb hby dc_153) (by show Ls9[_]? = _; rw [hLs9]; rfl) kz) ?_
  show own_Win p e below s _ _ _ (T8.setTop (mkF m 155 Ls9 [(.int (0 : Int32)), (.int (2 : Int32)), (.ref rs)]))
  refine own_st (fun _ kz => XS.imul X8.here hx rfl (hb hby dc_155) rfl kz) ?_
  show own_Win p e below s _ _ _ (T8.setTop (mkF m 156 Ls9 [(.int ((2 : Int32) * (0 : Int32))), (.ref rs)]))
  show own_Win p e below s _ _ _ (T8.setTop (mkF m 156 Ls9 [(.int (0 : Int32)), (.ref rs)]))
  refine own_st (fun _ kz => XS.iconst X8.here hx rfl (hb hby dc_156) kz) ?_
  show own_Win p e below s _ _ _ (T8.setTop (mkF m 157 Ls9 [(.int (3 : Int32)), (.int (0 : Int32)), (.ref rs)]))
  refine own_st (fun _ kz => XS.iadd X8.here hx rfl (hb hby dc_157) rfl kz) ?_
  show own_Win p e below s _ _ _ (T8.setTop (mkF m 158 Ls9 [(.int ((0 : Int32) + (3 : Int32))), (.ref rs)]))
  show own_Win p e below s _ _ _ (T8.setTop (mkF m 158 Ls9 [(.int (3 : Int32)), (.ref rs)]))
  show own_Win p e below s _ _ _ (T8.setTop (mkF m 158 Ls9 [(.int (3 : Int32)), (.ref rs)]))
  refine own_daload X8 hx hZ e8 F_Y (i := 3) rfl (by decide) (x := (fY 3)) rfl rfl rfl (hb hby dc_158) ?_
  show own_Win p e below s _ _ _ (T8.setTop (mkF m 159 Ls9 [(.double (fY 3))]))
  obtain ⟨Ls10, hLs10⟩ : ∃ L : Array Slot, L = #[.val (.ref a), .val (.ref rs), .val (.double z15), .second, .val (.int (0 : Int32)), .val (.double (fY 0)), .second, .val (.double (fY 1)), .second, .val (.int (0 : Int32)), .val (.double (fY 2)), .second, .val (.double (fY 3)), .second] := ⟨_, rfl⟩
  refine own_st (fun _ kz => XS.dstore X8.here hx rfl (hb hby dc_159) rfl (l' := Ls10) (by show storeLocals Ls9 _ _ = _; rw [hLs9, hLs10]; rfl) kz) ?_
  show own_Win p e below s _ _ _ (T8.setTop (mkF m 161 Ls10 []))
  refine own_st (fun _ kz => XS.dloadN X8.here hx rfl (v := z15) (hb hby dc_161) (by show Ls10[_]? = _; rw [hLs10]; rfl) kz) ?_
  show own_Win p e below s _ _ _ (T8.setTop (mkF m 162 Ls10 [(.double z15)]))
  refine own_st (fun _ kz => XS.dload X8.here hx rfl (v := (fY 0)) (hb hby dc_162) (by show Ls10[_]? = _; rw [hLs10]; rfl) kz) ?_
  show own_Win p e below s _ _ _ (T8.setTop (mkF m 164 Ls10 [(.double (fY 0)), (.double z15)]))
  refine own_st (fun _ kz => XS.aloadN X8.here hx rfl (v := (.ref a)) (hb hby dc_164) (by show Ls10[_]? = _; rw [hLs10]; rfl) rfl kz) ?_
  show own_Win p e below s _ _ _ (T8.setTop (mkF m 165 Ls10 [(.ref a), (.double (fY 0)), (.double z15)]))
  obtain ⟨T9, X9, e9, st9⟩ := getF X8 hx hZ hown (host := "") (Or.inl (hw _ (List.mem_of_getElem? (i := 21) rfl))) Via.refl e8 f_coupling (g := (mkF m 165 Ls10 [(.ref a), (.double (fY 0)), (.double z15)])) rfl rfl (hb hby dc_165)
  refine own_st st9 ?_
  show own_Win p e below s _ _ _ (T9.setTop (mkF m 168 Ls10 [(.ref rc), (.double (fY 0)), (.double z15)]))
  refine own_st (fun _ kz => XS.iload X9.here hx rfl (v := (0 : Int32)) (hb hby dc_168) (by show Ls10[_]? = _; rw [hLs10]; rfl) kz) ?_
  show own_Win p e below s _ _ _ (T9.setTop (mkF m 170 Ls10 [(.int (0 : Int32)), (.ref rc), (.double (fY 0)), (.double z15)]))
  show own_Win p e below s _ _ _ (T9.setTop (mkF m 170 Ls10 [(.int (0 : Int32)), (.ref rc), (.double (fY 0)), (.double z15)]))
  refine own_daload X9 hx hZ e9 F_C (i := 0) rfl (by decide) (x := (fC 0)) rfl rfl rfl (hb hby dc_170) ?_
  show own_Win p e below s _ _ _ (T9.setTop (mkF m 171 Ls10 [(.double (fC 0)), (.double (fY 0)), (.double z15)]))
  refine own_st (fun _ kz => XS.dload X9.here hx rfl (v := (fY 2)) (hb hby dc_171) (by show Ls10[_]? = _; rw [hLs10]; rfl) kz) ?_
  show own_Win p e below s _ _ _ (T9.setTop (mkF m 173 Ls10 [(.double (fY 2)), (.double (fC 0)), (.double (fY 0)), (.double z15)]))
  obtain ⟨z16, hz16⟩ : ∃ z, (FP.dmul (fC 0) (fY 2)) = z := ⟨_, rfl⟩
  have dz16 := own_Nm nC0 nY2 (by decide)
  rw [hz16] at dz16
  refine own_st (fun _ kz => XS.dmulS X9.here hx rfl (hb hby dc_173) rfl (by rw [hz16]; exact own_Nn dz16) hz16 kz) ?_
  show own_Win p e below s _ _ _ (T9.setTop (mkF m 174 Ls10 [(.double z16), (.double (fY 0)), (.double z15)]))
  refine own_st (fun _ kz => XS.aloadN X9.here hx rfl (v := (.ref a)) (hb hby dc_174) (by show Ls10[_]? = _; rw [hLs10]; rfl) rfl kz) ?_
  show own_Win p e below s _ _ _ (T9.setTop (mkF m 175 Ls10 [(.ref a), (.double z16), (.double (fY 0)), (.double z15)]))
  obtain ⟨T10, X10, e10, st10⟩ := getF X9 hx hZ hown (host := "") (Or.inl (hw _ (List.mem_of_getElem? (i := 21) rfl))) Via.refl e9 f_coupling (g := (mkF m 175 Ls10 [(.ref a), (.double z16), (.double (fY 0)), (.double z15)])) rfl rfl (hb hby dc_175)
  refine own_st st10 ?_
  show own_Win p e below s _ _ _ (T10.setTop (mkF m 178 Ls10 [(.ref rc), (.double z16), (.double (fY 0)), (.double z15)]))
  refine own_st (fun _ kz => XS.iload X10.here hx rfl (v := (0 : Int32)) (hb hby dc_178) (by show Ls10[_]? = _; rw [hLs10]; rfl) kz) ?_
  show own_Win p e below s _ _ _ (T10.setTop (mkF m 180 Ls10 [(.int (0 : Int32)), (.ref rc), (.double z16), (.double (fY 0)), (.double z15)]))
  refine own_st (fun _ kz => XS.iconst X10.here hx rfl (hb hby dc_180) kz) ?_
  show own_Win p e below s _ _ _ (T10.setTop (mkF m 181 Ls10 [(.int (1 : Int32)), (.int (0 : Int32)), (.ref rc), (.double z16), (.double (fY 0)), (.double z15)]))
  refine own_st (fun _ kz => XS.iadd X10.here hx rfl (hb hby dc_181) rfl kz) ?_
  show own_Win p e below s _ _ _ (T10.setTop (mkF m 182 Ls10 [(.int ((0 : Int32) + (1 : Int32))), (.ref rc), (.double z16), (.double (fY 0)), (.double z15)]))
  show own_Win p e below s _ _ _ (T10.setTop (mkF m 182 Ls10 [(.int (1 : Int32)), (.ref rc), (.double z16), (.double (fY 0)), (.double z15)]))
  show own_Win p e below s _ _ _ (T10.setTop (mkF m 182 Ls10 [(.int (1 : Int32)), (.ref rc), (.double z16), (.double (fY 0)), (.double z15)]))
  refine own_daload X10 hx hZ e10 F_C (i := 1) rfl (by decide) (x := (fC 1)) rfl rfl rfl (hb hby dc_182) ?_
  show own_Win p e below s _ _ _ (T10.setTop (mkF m 183 Ls10 [(.double (fC 1)), (.double z16), (.double (fY 0)), (.double z15)]))
  refine own_st (fun _ kz => XS.dload X10.here hx rfl (v := (fY 3)) (hb hby dc_183) (by show Ls10[_]? = _; rw [hLs10]; rfl) kz) ?_
  show own_Win p e below s _ _ _ (T10.setTop (mkF m 185 Ls10 [(.double (fY 3)), (.double (fC 1)), (.double z16), (.double (fY 0)), (.double z15)]))
  obtain ⟨z17, hz17⟩ : ∃ z, (FP.dmul (fC 1) (fY 3)) = z := ⟨_, rfl⟩
  have dz17 := own_Nm nC1 nY3 (by decide)
  rw [hz17] at dz17
  refine own_st (fun _ kz => XS.dmulS X10.here hx rfl (hb hby dc_185) rfl (by rw [hz17]; exact own_Nn dz17) hz17 kz) ?_
  show own_Win p e below s _ _ _ (T10.setTop (mkF m 186 Ls10 [(.double z17), (.double z16), (.double (fY 0)), (.double z15)]))
  obtain ⟨z18, hz18⟩ : ∃ z, (FP.dadd z16 z17) = z := ⟨_, rfl⟩
  have dz18 := own_Na dz16 dz17 (by decide)
  rw [hz18] at dz18
  refine own_st (fun _ kz => XS.daddS X10.here hx rfl (hb hby dc_186) rfl (by rw [hz18]; exact own_Nn dz18) hz18 kz) ?_
  show own_Win p e below s _ _ _ (T10.setTop (mkF m 187 Ls10 [(.double z18), (.double (fY 0)), (.double z15)]))
  obtain ⟨z19, hz19⟩ : ∃ z, (FP.dmul (fY 0) z18) = z := ⟨_, rfl⟩
  have dz19 := own_Nm nY0 dz18 (by decide)
  rw [hz19] at dz19
  refine own_st (fun _ kz => XS.dmulS X10.here hx rfl (hb hby dc_187) rfl (by rw [hz19]; exact own_Nn dz19) hz19 kz) ?_
  show own_Win p e below s _ _ _ (T10.setTop (mkF m 188 Ls10 [(.double z19), (.double z15)]))
  refine own_st (fun _ kz => XS.dload X10.here hx rfl (v := (fY 1)) (hb hby dc_188) (by show Ls10[_]? = _; rw [hLs10]; rfl) kz) ?_
  show own_Win p e below s _ _ _ (T10.setTop (mkF m 190 Ls10 [(.double (fY 1)), (.double z19), (.double z15)]))
  refine own_st (fun _ kz => XS.aloadN X10.here hx rfl (v := (.ref a)) (hb hby dc_190) (by show Ls10[_]? = _; rw [hLs10]; rfl) rfl kz) ?_
  show own_Win p e below s _ _ _ (T10.setTop (mkF m 191 Ls10 [(.ref a), (.double (fY 1)), (.double z19), (.double z15)]))
  obtain ⟨T11, X11, e11, st11⟩ := getF X10 hx hZ hown (host := "") (Or.inl (hw _ (List.mem_of_getElem? (i := 21) rfl))) Via.refl e10 f_coupling (g := (mkF m 191 Ls10 [(.ref a), (.double (fY 1)), (.double z19), (.double z15)])) rfl rfl (hb hby dc_191)
  refine own_st st11 ?_
  show own_Win p e below s _ _ _ (T11.setTop (mkF m 194 Ls10 [(.ref rc), (.double (fY 1)), (.double z19), (.double z15)]))
  refine own_st (fun _ kz => XS.iload X11.here hx rfl (v := (0 : Int32)) (hb hby dc_194) (by show Ls10[_]? = _; rw [hLs10]; rfl) kz) ?_
  show own_Win p e below s _ _ _ (T11.setTop (mkF m 196 Ls10 [(.int (0 : Int32)), (.ref rc), (.double (fY 1)), (.double z19), (.double z15)]))
  refine own_st (fun _ kz => XS.iconst X11.here hx rfl (hb hby dc_196) kz) ?_
  show own_Win p e below s _ _ _ (T11.setTop (mkF m 197 Ls10 [(.int (2 : Int32)), (.int (0 : Int32)), (.ref rc), (.double (fY 1)), (.double z19), (.double z15)]))
  refine own_st (fun _ kz => XS.iadd X11.here hx rfl (hb hby dc_197) rfl kz) ?_
  show own_Win p e below s _ _ _ (T11.setTop (mkF m 198 Ls10 [(.int ((0 : Int32) + (2 : Int32))), (.ref rc), (.double (fY 1)), (.double z19), (.double z15)]))
  show own_Win p e below s _ _ _ (T11.setTop (mkF m 198 Ls10 [(.int (2 : Int32)), (.ref rc), (.double (fY 1)), (.double z19), (.double z15)]))
  show own_Win p e below s _ _ _ (T11.setTop (mkF m 198 Ls10 [(.int (2 : Int32)), (.ref rc), (.double (fY 1)), (.double z19), (.double z15)]))
  refine own_daload X11 hx hZ e11 F_C (i := 2) rfl (by decide) (x := (fC 2)) rfl rfl rfl (hb hby dc_198) ?_
  show own_Win p e below s _ _ _ (T11.setTop (mkF m 199 Ls10 [(.double (fC 2)), (.double (fY 1)), (.double z19), (.double z15)]))
  refine own_st (fun _ kz => XS.dload X11.here hx rfl (v := (fY 2)) (hb hby dc_199) (by show Ls10[_]? = _; rw [hLs10]; rfl) kz) ?_
  show own_Win p e below s _ _ _ (T11.setTop (mkF m 201 Ls10 [(.double (fY 2)), (.double (fC 2)), (.double (fY 1)), (.double z19), (.double z15)]))
  obtain ⟨z20, hz20⟩ : ∃ z, (FP.dmul (fC 2) (fY 2)) = z := ⟨_, rfl⟩
  have dz20 := own_Nm nC2 nY2 (by decide)
  rw [hz20] at dz20
  refine own_st (fun _ kz => XS.dmulS X11.here hx rfl (hb hby dc_201) rfl (by rw [hz20]; exact own_Nn dz20) hz20 kz) ?_
  show own_Win p e below s _ _ _ (T11.setTop (mkF m 202 Ls10 [(.double z20), (.double (fY 1)), (.double z19), (.double z15)]))
  refine own_st (fun _ kz => XS.aloadN X11.here hx rfl (v := (.ref a)) (hb hby dc_202) (by show Ls10[_]? = _; rw [hLs10]; rfl) rfl kz) ?_
  show own_Win p e below s _ _ _ (T11.setTop (mkF m 203 Ls10 [(.ref a), (.double z20), (.double (fY 1)), (.double z19), (.double z15)]))
  obtain ⟨T12, X12, e12, st12⟩ := getF X11 hx hZ hown (host := "") (Or.inl (hw _ (List.mem_of_getElem? (i := 21) rfl))) Via.refl e11 f_coupling (g := (mkF m 203 Ls10 [(.ref a), (.double z20), (.double (fY 1)), (.double z19), (.double z15)])) rfl rfl (hb hby dc_203)
  refine own_st st12 ?_
  show own_Win p e below s _ _ _ (T12.setTop (mkF m 206 Ls10 [(.ref rc), (.double z20), (.double (fY 1)), (.double z19), (.double z15)]))
  refine own_st (fun _ kz => XS.iload X12.here hx rfl (v := (0 : Int32)) (hb hby dc_206) (by show Ls10[_]? = _; rw [hLs10]; rfl) kz) ?_
  show own_Win p e below s _ _ _ (T12.setTop (mkF m 208 Ls10 [(.int (0 : Int32)), (.ref rc), (.double z20), (.double (fY 1)), (.double z19), (.double z15)]))
  refine own_st (fun _ kz => XS.iconst X12.here hx rfl (hb hby dc_208) kz) ?_
  show own_Win p e below s _ _ _ (T12.setTop (mkF m 209 Ls10 [(.int (3 : Int32)), (.int (0 : Int32)), (.ref rc), (.double z20), (.double (fY 1)), (.double z19), (.double z15)]))
  refine own_st (fun _ kz => XS.iadd X12.here hx rfl (hb hby dc_209) rfl kz) ?_
  show own_Win p e below s _ _ _ (T12.setTop (mkF m 210 Ls10 [(.int ((0 : Int32) + (3 : Int32))), (.ref rc), (.double z20), (.double (fY 1)), (.double z19), (.double z15)]))
  show own_Win p e below s _ _ _ (T12.setTop (mkF m 210 Ls10 [(.int (3 : Int32)), (.ref rc), (.double z20), (.double (fY 1)), (.double z19), (.double z15)]))
  show own_Win p e below s _ _ _ (T12.setTop (mkF m 210 Ls10 [(.int (3 : Int32)), (.ref rc), (.double z20), (.double (fY 1)), (.double z19), (.double z15)]))
  refine own_daload X12 hx hZ e12 F_C (i := 3) rfl (by decide) (x := (fC 3)) rfl rfl rfl (hb hby dc_210) ?_
  show own_Win p e below s _ _ _ (T12.setTop (mkF m 211 Ls10 [(.double (fC 3)), (.double z20), (.double (fY 1)), (.double z19), (.double z15)]))
  refine own_st (fun _ kz => XS.dload X12.here hx rfl (v := (fY 3)) (hb hby dc_211) (by show Ls10[_]? = _; rw [hLs10]; rfl) kz) ?_
  show own_Win p e below s _ _ _ (T12.setTop (mkF m 213 Ls10 [(.double (fY 3)), (.double (fC 3)), (.double z20), (.double (fY 1)), (.double z19), (.double z15)]))
  obtain ⟨z21, hz21⟩ : ∃ z, (FP.dmul (fC 3) (fY 3)) = z := ⟨_, rfl⟩
  have dz21 := own_Nm nC3 nY3 (by decide)
  rw [hz21] at dz21
  refine own_st (fun _ kz => XS.dmulS X12.here hx rfl (hb hby dc_213) rfl (by rw [hz21]; exact own_Nn dz21) hz21 kz) ?_
  show own_Win p e below s _ _ _ (T12.setTop (mkF m 214 Ls10 [(.double z21), (.double z20), (.double (fY 1)), (.double z19), (.double z15)]))
  obtain ⟨z22, hz22⟩ : ∃ z, (FP.dadd z20 z21) = z := ⟨_, rfl⟩
  have dz22 := own_Na dz20 dz21 (by decide)
  rw [hz22] at dz22
  refine own_st (fun _ kz => XS.daddS X12.here hx rfl (hb hby dc_214) rfl (by rw [hz22]; exact own_Nn dz22) hz22 kz) ?_
  show own_Win p e below s _ _ _ (T12.setTop (mkF m 215 Ls10 [(.double z22), (.double (fY 1)), (.double z19), (.double z15)]))
  obtain ⟨z23, hz23⟩ : ∃ z, (FP.dmul (fY 1) z22) = z := ⟨_, rfl⟩
  have dz23 := own_Nm nY1 dz22 (by decide)
  rw [hz23] at dz23
  refine own_st (fun _ kz => XS.dmulS X12.here hx rfl (hb hby dc_215) rfl (by rw [hz23]; exact own_Nn dz23) hz23 kz) ?_
  show own_Win p e below s _ _ _ (T12.setTop (mkF m 216 Ls10 [(.double z23), (.double z19), (.double z15)]))
  obtain ⟨z24, hz24⟩ : ∃ z, (FP.dadd z19 z23) = z := ⟨_, rfl⟩
  have dz24 := own_Na dz19 dz23 (by decide)
  rw [hz24] at dz24
  refine own_st (fun _ kz => XS.daddS X12.here hx rfl (hb hby dc_216) rfl (by rw [hz24]; exact own_Nn dz24) hz24 kz) ?_
  show own_Win p e below s _ _ _ (T12.setTop (mkF m 217 Ls10 [(.double z24), (.double z15)]))
  obtain ⟨z25, hz25⟩ : ∃ z, (FP.dadd z15 z24) = z := ⟨_, rfl⟩
  have dz25 := own_Ha dz15 (own_Nh dz24) (by decide)
  rw [hz25] at dz25
  refine own_st (fun _ kz => XS.daddS X12.here hx rfl (hb hby dc_217) rfl (by rw [hz25]; exact own_Hn dz25) hz25 kz) ?_
  show own_Win p e below s _ _ _ (T12.setTop (mkF m 218 Ls10 [(.double z25)]))
  obtain ⟨Ls11, hLs11⟩ : ∃ L : Array Slot, L = #[.val (.ref a), .val (.ref rs), .val (.double z25), .second, .val (.int (0 : Int32)), .val (.double (fY 0)), .second, .val (.double (fY 1)), .second, .val (.int (0 : Int32)), .val (.double (fY 2)), .second, .val (.double (fY 3)), .second] := ⟨_, rfl⟩
  refine own_st (fun _ kz => XS.dstoreN X12.here hx rfl (hb hby dc_218) rfl (l' := Ls11) (by show storeLocals Ls10 _ _ = _; rw [hLs10, hLs11]; rfl) kz) ?_
  show own_Win p e below s _ _ _ (T12.setTop (mkF m 219 Ls11 []))
  obtain ⟨Ls12, hLs12⟩ : ∃ L : Array Slot, L = #[.val (.ref a), .val (.ref rs), .val (.double z25), .second, .val (.int (1 : Int32)), .val (.double (fY 0)), .second, .val (.double (fY 1)), .second, .val (.int (0 : Int32)), .val (.double (fY 2)), .second, .val (.double (fY 3)), .second] := ⟨_, rfl⟩
  refine own_st (fun _ kz => XS.iinc X12.here hx rfl (x := (0 : Int32)) (hb hby dc_219) (by show Ls11[_]? = _; rw [hLs11]; rfl) (l' := Ls12) (by show storeLocals Ls11 _ _ = _; rw [hLs11, hLs12]; rfl) kz) ?_
  show own_Win p e below s _ _ _ (T12.setTop (mkF m 222 Ls12 []))
  refine own_st (fun _ kz => XS.goto X12.here hx rfl (pc0 := 222) (pc' := 5) rfl (hb hby dc_222) (by decide) (by decide) kz) ?_
  show own_Win p e below s _ _ _ (T12.setTop (mkF m 5 Ls12 []))
  refine own_st (fun _ kz => XS.iload X12.here hx rfl (v := (1 : Int32)) (hb hby dc_5) (by show Ls12[_]? = _; rw [hLs12]; rfl) kz) ?_
  show own_Win p e below s _ _ _ (T12.setTop (mkF m 7 Ls12 [(.int (1 : Int32))]))
  refine own_st (fun _ kz => XS.aloadN X12.here hx rfl (v := (.ref a)) (hb hby dc_7) (by show Ls12[_]? = _; rw [hLs12]; rfl) rfl kz) ?_
  show own_Win p e below s _ _ _ (T12.setTop (mkF m 8 Ls12 [(.ref a), (.int (1 : Int32))]))
  obtain ⟨T13, X13, e13, st13⟩ := getF X12 hx hZ hown (host := "") (Or.inl (hw _ (List.mem_of_getElem? (i := 14) rfl))) Via.refl e12 f_points (g := (mkF m 8 Ls12 [(.ref a), (.int (1 : Int32))])) rfl rfl (hb hby dc_8)
  refine own_st st13 ?_
  show own_Win p e below s _ _ _ (T13.setTop (mkF m 11 Ls12 [(.int (3 : Int32)), (.int (1 : Int32))]))
  refine own_st (fun _ kz => XS.icmpNo X13.here hx rfl (hb hby dc_11) rfl (by decide) kz) ?_
  show own_Win p e below s _ _ _ (T13.setTop (mkF m 14 Ls12 []))
  refine own_st (fun _ kz => XS.aloadN X13.here hx rfl (v := (.ref rs)) (hb hby dc_14) (by show Ls12[_]? = _; rw [hLs12]; rfl) rfl kz) ?_
  show own_Win p e below s _ _ _ (T13.setTop (mkF m 15 Ls12 [(.ref rs)]))
  refine own_st (fun _ kz => XS.iconst X13.here hx rfl (hb hby dc_15) kz) ?_
  show own_Win p e below s _ _ _ (T13.setTop (mkF m 16 Ls12 [(.int (2 : Int32)), (.ref rs)]))
  refine own_st (fun _ kz => XS.iload X13.here hx rfl (v := (1 : Int32)) (hb hby dc_16) (by show Ls12[_]? = _; rw [hLs12]; rfl) kz) ?_
  show own_Win p e below s _ _ _ (T13.setTop (mkF m 18 Ls12 [(.int (1 : Int32)), (.int (2 : Int32)), (.ref rs)]))
  refine own_st (fun _ kz => XS.imul X13.here hx rfl (hb hby dc_18) rfl kz) ?_
  show own_Win p e below s _ _ _ (T13.setTop (mkF m 19 Ls12 [(.int ((2 : Int32) * (1 : Int32))), (.ref rs)]))
  show own_Win p e below s _ _ _ (T13.setTop (mkF m 19 Ls12 [(.int (2 : Int32)), (.ref rs)]))
  show own_Win p e below s _ _ _ (T13.setTop (mkF m 19 Ls12 [(.int (2 : Int32)), (.ref rs)]))
  refine own_daload X13 hx hZ e13 F_Y (i := 2) rfl (by decide) (x := (fY 2)) rfl rfl rfl (hb hby dc_19) ?_
  show own_Win p e below s _ _ _ (T13.setTop (mkF m 20 Ls12 [(.double (fY 2))]))
  obtain ⟨Ls13, hLs13⟩ : ∃ L : Array Slot, L = #[.val (.ref a), .val (.ref rs), .val (.double z25), .second, .val (.int (1 : Int32)), .val (.double (fY 2)), .second, .val (.double (fY 1)), .second, .val (.int (0 : Int32)), .val (.double (fY 2)), .second, .val (.double (fY 3)), .second] := ⟨_, rfl⟩
  refine own_st (fun _ kz => XS.dstore X13.here hx rfl (hb hby dc_20) rfl (l' := Ls13) (by show storeLocals Ls12 _ _ = _; rw [hLs12, hLs13]; rfl) kz) ?_
  show own_Win p e below s _ _ _ (T13.setTop (mkF m 22 Ls13 []))
  refine own_st (fun _ kz => XS.aloadN X13.here hx rfl (v := (.ref rs)) (hb hby dc_22) (by show Ls13[_]? = _; rw [hLs13]; rfl) rfl kz) ?_
  show own_Win p e below s _ _ _ (T13.setTop (mkF m 23 Ls13 [(.ref rs)]))
  refine own_st (fun _ kz => XS.iconst X13.here hx rfl (hb hby dc_23) kz) ?_
  show own_Win p e below s _ _ _ (T13.setTop (mkF m 24 Ls13 [(.int (2 : Int32)), (.ref rs)]))
  refine own_st (fun _ kz => XS.iload X13.here hx rfl (v := (1 : Int32)) (hb hby dc_24) (by show Ls13[_]? = _; rw [hLs13]; rfl) kz) ?_
  show own_Win p e below s _ _ _ (T13.setTop (mkF m 26 Ls13 [(.int (1 : Int32)), (.int (2 : Int32)), (.ref rs)]))
  refine own_st (fun _ kz => XS.imul X13.here hx rfl (hb hby dc_26) rfl kz) ?_
  show own_Win p e below s _ _ _ (T13.setTop (mkF m 27 Ls13 [(.int ((2 : Int32) * (1 : Int32))), (.ref rs)]))
  show own_Win p e below s _ _ _ (T13.setTop (mkF m 27 Ls13 [(.int (2 : Int32)), (.ref rs)]))
  refine own_st (fun _ kz => XS.iconst X13.here hx rfl (hb hby dc_27) kz) ?_
  show own_Win p e below s _ _ _ (T13.setTop (mkF m 28 Ls13 [(.int (1 : Int32)), (.int (2 : Int32)), (.ref rs)]))
  refine own_st (fun _ kz => XS.iadd X13.here hx rfl (hb hby dc_28) rfl kz) ?_
  show own_Win p e below s _ _ _ (T13.setTop (mkF m 29 Ls13 [(.int ((2 : Int32) + (1 : Int32))), (.ref rs)]))
  show own_Win p e below s _ _ _ (T13.setTop (mkF m 29 Ls13 [(.int (3 : Int32)), (.ref rs)]))
  show own_Win p e below s _ _ _ (T13.setTop (mkF m 29 Ls13 [(.int (3 : Int32)), (.ref rs)]))
  refine own_daload X13 hx hZ e13 F_Y (i := 3) rfl (by decide) (x := (fY 3)) rfl rfl rfl (hb hby dc_29) ?_
  show own_Win p e below s _ _ _ (T13.setTop (mkF m 30 Ls13 [(.double (fY 3))]))
  obtain ⟨Ls14, hLs14⟩ : ∃ L : Array Slot, L = #[.val (.ref a), .val (.ref rs), .val (.double z25), .second, .val (.int (1 : Int32)), .val (.double (fY 2)), .second, .val (.double (fY 3)), .second, .val (.int (0 : Int32)), .val (.double (fY 2)), .second, .val (.double (fY 3)), .second] := ⟨_, rfl⟩
  refine own_st (fun _ kz => XS.dstore X13.here hx rfl (hb hby dc_30) rfl (l' := Ls14) (by show storeLocals Ls13 _ _ = _; rw [hLs13, hLs14]; rfl) kz) ?_
  show own_Win p e below s _ _ _ (T13.setTop (mkF m 32 Ls14 []))
  refine own_st (fun _ kz => XS.iconst X13.here hx rfl (hb hby dc_32) kz) ?_
  show own_Win p e below s _ _ _ (T13.setTop (mkF m 33 Ls14 [(.int (4 : Int32))]))
  refine own_st (fun _ kz => XS.iload X13.here hx rfl (v := (1 : Int32)) (hb hby dc_33) (by show Ls14[_]? = _; rw [hLs14]; rfl) kz) ?_
  show own_Win p e below s _ _ _ (T13.setTop (mkF m 35 Ls14 [(.int (1 : Int32)), (.int (4 : Int32))]))
  refine own_st (fun _ kz => XS.imul X13.here hx rfl (hb hby dc_35) rfl kz) ?_
  show own_Win p e below s _ _ _ (T13.setTop (mkF m 36 Ls14 [(.int ((4 : Int32) * (1 : Int32)))]))
  show own_Win p e below s _ _ _ (T13.setTop (mkF m 36 Ls14 [(.int (4 : Int32))]))
  obtain ⟨Ls15, hLs15⟩ : ∃ L : Array Slot, L = #[.val (.ref a), .val (.ref rs), .val (.double z25), .second, .val (.int (1 : Int32)), .val (.double (fY 2)), .second, .val (.double (fY 3)), .second, .val (.int (4 : Int32)), .val (.double (fY 2)), .second, .val (.double (fY 3)), .second] := ⟨_, rfl⟩
  refine own_st (fun _ kz => XS.istore X13.here hx rfl (hb hby dc_36) rfl (l' := Ls15) (by show storeLocals Ls14 _ _ = _; rw [hLs14, hLs15]; rfl) kz) ?_
  show own_Win p e below s _ _ _ (T13.setTop (mkF m 38 Ls15 []))
  refine own_st (fun _ kz => XS.dloadN X13.here hx rfl (v := z25) (hb hby dc_38) (by show Ls15[_]? = _; rw [hLs15]; rfl) kz) ?_
  show own_Win p e below s _ _ _ (T13.setTop (mkF m 39 Ls15 [(.double z25)]))
  refine own_st (fun _ kz => XS.aloadN X13.here hx rfl (v := (.ref a)) (hb hby dc_39) (by show Ls15[_]? = _; rw [hLs15]; rfl) rfl kz) ?_
  show own_Win p e below s _ _ _ (T13.setTop (mkF m 40 Ls15 [(.ref a), (.double z25)]))
  obtain ⟨T14, X14, e14, st14⟩ := getF X13 hx hZ hown (host := "") (Or.inl (hw _ (List.mem_of_getElem? (i := 16) rfl))) Via.refl e13 f_gradient (g := (mkF m 40 Ls15 [(.ref a), (.double z25)])) rfl rfl (hb hby dc_40)
  refine own_st st14 ?_
  show own_Win p e below s _ _ _ (T14.setTop (mkF m 43 Ls15 [(.ref rg), (.double z25)]))
  refine own_st (fun _ kz => XS.iconst X14.here hx rfl (hb hby dc_43) kz) ?_
  show own_Win p e below s _ _ _ (T14.setTop (mkF m 44 Ls15 [(.int (2 : Int32)), (.ref rg), (.double z25)]))
  refine own_st (fun _ kz => XS.iload X14.here hx rfl (v := (1 : Int32)) (hb hby dc_44) (by show Ls15[_]? = _; rw [hLs15]; rfl) kz) ?_
  show own_Win p e below s _ _ _ (T14.setTop (mkF m 46 Ls15 [(.int (1 : Int32)), (.int (2 : Int32)), (.ref rg), (.double z25)]))
  refine own_st (fun _ kz => XS.imul X14.here hx rfl (hb hby dc_46) rfl kz) ?_
  show own_Win p e below s _ _ _ (T14.setTop (mkF m 47 Ls15 [(.int ((2 : Int32) * (1 : Int32))), (.ref rg), (.double z25)]))
  show own_Win p e below s _ _ _ (T14.setTop (mkF m 47 Ls15 [(.int (2 : Int32)), (.ref rg), (.double z25)]))
  show own_Win p e below s _ _ _ (T14.setTop (mkF m 47 Ls15 [(.int (2 : Int32)), (.ref rg), (.double z25)]))
  refine own_daload X14 hx hZ e14 F_G (i := 2) rfl (by decide) (x := (fG 2)) rfl rfl rfl (hb hby dc_47) ?_
  show own_Win p e below s _ _ _ (T14.setTop (mkF m 48 Ls15 [(.double (fG 2)), (.double z25)]))
  refine own_st (fun _ kz => XS.dload X14.here hx rfl (v := (fY 2)) (hb hby dc_48) (by show Ls15[_]? = _; rw [hLs15]; rfl) kz) ?_
  show own_Win p e below s _ _ _ (T14.setTop (mkF m 50 Ls15 [(.double (fY 2)), (.double (fG 2)), (.double z25)]))
  obtain ⟨z26, hz26⟩ : ∃ z, (FP.dmul (fG 2) (fY 2)) = z := ⟨_, rfl⟩
  have dz26 := own_Nm nG2 nY2 (by decide)
  rw [hz26] at dz26
  refine own_st (fun _ kz => XS.dmulS X14.here hx rfl (hb hby dc_50) rfl (by rw [hz26]; exact own_Nn dz26) hz26 kz) ?_
  show own_Win p e below s _ _ _ (T14.setTop (mkF m 51 Ls15 [(.double z26), (.double z25)]))
  refine own_st (fun _ kz => XS.aloadN X14.here hx rfl (v := (.ref a)) (hb hby dc_51) (by show Ls15[_]? = _; rw [hLs15]; rfl) rfl kz) ?_
  show own_Win p e below s _ _ _ (T14.setTop (mkF m 52 Ls15 [(.ref a), (.double z26), (.double z25)]))
  obtain ⟨T15, X15, e15, st15⟩ := getF X14 hx hZ hown (host := "") (Or.inl (hw _ (List.mem_of_getElem? (i := 16) rfl))) Via.refl e14 f_gradient (g := (mkF m 52 Ls15 [(.ref a), (.double z26), (.double z25)])) rfl rfl (hb hby dc_52)
  refine own_st st15 ?_
  show own_Win p e below s _ _ _ (T15.setTop (mkF m 55 Ls15 [(.ref rg), (.double z26), (.double z25)]))
  refine own_st (fun _ kz => XS.iconst X15.here hx rfl (hb hby dc_55) kz) ?_
  show own_Win p e below s _ _ _ (T15.setTop (mkF m 56 Ls15 [(.int (2 : Int32)), (.ref rg), (.double z26), (.double z25)]))
  refine own_st (fun _ kz => XS.iload X15.here hx rfl (v := (1 : Int32)) (hb hby dc_56) (by show Ls15[_]? = _; rw [hLs15]; rfl) kz) ?_
  show own_Win p e below s _ _ _ (T15.setTop (mkF m 58 Ls15 [(.int (1 : Int32)), (.int (2 : Int32)), (.ref rg), (.double z26), (.double z25)]))
  refine own_st (fun _ kz => XS.imul X15.here hx rfl (hb hby dc_58) rfl kz) ?_
  show own_Win p e below s _ _ _ (T15.setTop (mkF m 59 Ls15 [(.int ((2 : Int32) * (1 : Int32))), (.ref rg), (.double z26), (.double z25)]))
  show own_Win p e below s _ _ _ (T15.setTop (mkF m 59 Ls15 [(.int (2 : Int32)), (.ref rg), (.double z26), (.double z25)]))
  refine own_st (fun _ kz => XS.iconst X15.here hx rfl (hb hby dc_59) kz) ?_
  show own_Win p e below s _ _ _ (T15.setTop (mkF m 60 Ls15 [(.int (1 : Int32)), (.int (2 : Int32)), (.ref rg), (.double z26), (.double z25)]))
  refine own_st (fun _ kz => XS.iadd X15.here hx rfl (hb hby dc_60) rfl kz) ?_
  show own_Win p e below s _ _ _ (T15.setTop (mkF m 61 Ls15 [(.int ((2 : Int32) + (1 : Int32))), (.ref rg), (.double z26), (.double z25)]))
  show own_Win p e below s _ _ _ (T15.setTop (mkF m 61 Ls15 [(.int (3 : Int32)), (.ref rg), (.double z26), (.double z25)]))
  show own_Win p e below s _ _ _ (T15.setTop (mkF m 61 Ls15 [(.int (3 : Int32)), (.ref rg), (.double z26), (.double z25)]))
  refine own_daload X15 hx hZ e15 F_G (i := 3) rfl (by decide) (x := (fG 3)) rfl rfl rfl (hb hby dc_61) ?_
  show own_Win p e below s _ _ _ (T15.setTop (mkF m 62 Ls15 [(.double (fG 3)), (.double z26), (.double z25)]))
  refine own_st (fun _ kz => XS.dload X15.here hx rfl (v := (fY 3)) (hb hby dc_62) (by show Ls15[_]? = _; rw [hLs15]; rfl) kz) ?_
  show own_Win p e below s _ _ _ (T15.setTop (mkF m 64 Ls15 [(.double (fY 3)), (.double (fG 3)), (.double z26), (.double z25)]))
  obtain ⟨z27, hz27⟩ : ∃ z, (FP.dmul (fG 3) (fY 3)) = z := ⟨_, rfl⟩
  have dz27 := own_Nm nG3 nY3 (by decide)
  rw [hz27] at dz27
  refine own_st (fun _ kz => XS.dmulS X15.here hx rfl (hb hby dc_64) rfl (by rw [hz27]; exact own_Nn dz27) hz27 kz) ?_
  show own_Win p e below s _ _ _ (T15.setTop (mkF m 65 Ls15 [(.double z27), (.double z26), (.double z25)]))
  obtain ⟨z28, hz28⟩ : ∃ z, (FP.dadd z26 z27) = z := ⟨_, rfl⟩
  have dz28 := own_Na dz26 dz27 (by decide)
  rw [hz28] at dz28
  refine own_st (fun _ kz => XS.daddS X15.here hx rfl (hb hby dc_65) rfl (by rw [hz28]; exact own_Nn dz28) hz28 kz) ?_
  show own_Win p e below s _ _ _ (T15.setTop (mkF m 66 Ls15 [(.double z28), (.double z25)]))
  obtain ⟨z29, hz29⟩ : ∃ z, (FP.dadd z25 z28) = z := ⟨_, rfl⟩
  have dz29 := own_Ha dz25 (own_Nh dz28) (by decide)
  rw [hz29] at dz29
  refine own_st (fun _ kz => XS.daddS X15.here hx rfl (hb hby dc_66) rfl (by rw [hz29]; exact own_Hn dz29) hz29 kz) ?_
  show own_Win p e below s _ _ _ (T15.setTop (mkF m 67 Ls15 [(.double z29)]))
  obtain ⟨Ls16, hLs16⟩ : ∃ L : Array Slot, L = #[.val (.ref a), .val (.ref rs), .val (.double z29), .second, .val (.int (1 : Int32)), .val (.double (fY 2)), .second, .val (.double (fY 3)), .second, .val (.int (4 : Int32)), .val (.double (fY 2)), .second, .val (.double (fY 3)), .second] := ⟨_, rfl⟩
  refine own_st (fun _ kz => XS.dstoreN X15.here hx rfl (hb hby dc_67) rfl (l' := Ls16) (by show storeLocals Ls15 _ _ = _; rw [hLs15, hLs16]; rfl) kz) ?_
  show own_Win p e below s _ _ _ (T15.setTop (mkF m 68 Ls16 []))
  refine own_st (fun _ kz => XS.dloadN X15.here hx rfl (v := z29) (hb hby dc_68) (by show Ls16[_]? = _; rw [hLs16]; rfl) kz) ?_
  show own_Win p e below s _ _ _ (T15.setTop (mkF m 69 Ls16 [(.double z29)]))
  refine own_st (fun _ kz => XS.dload X15.here hx rfl (v := (fY 2)) (hb hby dc_69) (by show Ls16[_]? = _; rw [hLs16]; rfl) kz) ?_
  show own_Win p e below s _ _ _ (T15.setTop (mkF m 71 Ls16 [(.double (fY 2)), (.double z29)]))
  refine own_st (fun _ kz => XS.aloadN X15.here hx rfl (v := (.ref a)) (hb hby dc_71) (by show Ls16[_]? = _; rw [hLs16]; rfl) rfl kz) ?_
  show own_Win p e below s _ _ _ (T15.setTop (mkF m 72 Ls16 [(.ref a), (.double (fY 2)), (.double z29)]))
  obtain ⟨T16, X16, e16, st16⟩ := getF X15 hx hZ hown (host := "") (Or.inl (hw _ (List.mem_of_getElem? (i := 19) rfl))) Via.refl e15 f_blocks (g := (mkF m 72 Ls16 [(.ref a), (.double (fY 2)), (.double z29)])) rfl rfl (hb hby dc_72)
  refine own_st st16 ?_
  show own_Win p e below s _ _ _ (T16.setTop (mkF m 75 Ls16 [(.ref rb), (.double (fY 2)), (.double z29)]))
  refine own_st (fun _ kz => XS.iload X16.here hx rfl (v := (4 : Int32)) (hb hby dc_75) (by show Ls16[_]? = _; rw [hLs16]; rfl) kz) ?_
  show own_Win p e below s _ _ _ (T16.setTop (mkF m 77 Ls16 [(.int (4 : Int32)), (.ref rb), (.double (fY 2)), (.double z29)]))
  show own_Win p e below s _ _ _ (T16.setTop (mkF m 77 Ls16 [(.int (4 : Int32)), (.ref rb), (.double (fY 2)), (.double z29)]))
  refine own_daload X16 hx hZ e16 F_B (i := 4) rfl (by decide) (x := (fB 4)) rfl rfl rfl (hb hby dc_77) ?_
  show own_Win p e below s _ _ _ (T16.setTop (mkF m 78 Ls16 [(.double (fB 4)), (.double (fY 2)), (.double z29)]))
  refine own_st (fun _ kz => XS.dload X16.here hx rfl (v := (fY 2)) (hb hby dc_78) (by show Ls16[_]? = _; rw [hLs16]; rfl) kz) ?_
  show own_Win p e below s _ _ _ (T16.setTop (mkF m 80 Ls16 [(.double (fY 2)), (.double (fB 4)), (.double (fY 2)), (.double z29)]))
  obtain ⟨z30, hz30⟩ : ∃ z, (FP.dmul (fB 4) (fY 2)) = z := ⟨_, rfl⟩
  have dz30 := own_Nm nB4 nY2 (by decide)
  rw [hz30] at dz30
  refine own_st (fun _ kz => XS.dmulS X16.here hx rfl (hb hby dc_80) rfl (by rw [hz30]; exact own_Nn dz30) hz30 kz) ?_
  show own_Win p e below s _ _ _ (T16.setTop (mkF m 81 Ls16 [(.double z30), (.double (fY 2)), (.double z29)]))
  refine own_st (fun _ kz => XS.aloadN X16.here hx rfl (v := (.ref a)) (hb hby dc_81) (by show Ls16[_]? = _; rw [hLs16]; rfl) rfl kz) ?_
  show own_Win p e below s _ _ _ (T16.setTop (mkF m 82 Ls16 [(.ref a), (.double z30), (.double (fY 2)), (.double z29)]))
  obtain ⟨T17, X17, e17, st17⟩ := getF X16 hx hZ hown (host := "") (Or.inl (hw _ (List.mem_of_getElem? (i := 19) rfl))) Via.refl e16 f_blocks (g := (mkF m 82 Ls16 [(.ref a), (.double z30), (.double (fY 2)), (.double z29)])) rfl rfl (hb hby dc_82)
  refine own_st st17 ?_
  show own_Win p e below s _ _ _ (T17.setTop (mkF m 85 Ls16 [(.ref rb), (.double z30), (.double (fY 2)), (.double z29)]))
  refine own_st (fun _ kz => XS.iload X17.here hx rfl (v := (4 : Int32)) (hb hby dc_85) (by show Ls16[_]? = _; rw [hLs16]; rfl) kz) ?_
  show own_Win p e below s _ _ _ (T17.setTop (mkF m 87 Ls16 [(.int (4 : Int32)), (.ref rb), (.double z30), (.double (fY 2)), (.double z29)]))
  refine own_st (fun _ kz => XS.iconst X17.here hx rfl (hb hby dc_87) kz) ?_
  show own_Win p e below s _ _ _ (T17.setTop (mkF m 88 Ls16 [(.int (1 : Int32)), (.int (4 : Int32)), (.ref rb), (.double z30), (.double (fY 2)), (.double z29)]))
  refine own_st (fun _ kz => XS.iadd X17.here hx rfl (hb hby dc_88) rfl kz) ?_
  show own_Win p e below s _ _ _ (T17.setTop (mkF m 89 Ls16 [(.int ((4 : Int32) + (1 : Int32))), (.ref rb), (.double z30), (.double (fY 2)), (.double z29)]))
  show own_Win p e below s _ _ _ (T17.setTop (mkF m 89 Ls16 [(.int (5 : Int32)), (.ref rb), (.double z30), (.double (fY 2)), (.double z29)]))
  show own_Win p e below s _ _ _ (T17.setTop (mkF m 89 Ls16 [(.int (5 : Int32)), (.ref rb), (.double z30), (.double (fY 2)), (.double z29)]))
  refine own_daload X17 hx hZ e17 F_B (i := 5) rfl (by decide) (x := (fB 5)) rfl rfl rfl (hb hby dc_89) ?_
  show own_Win p e below s _ _ _ (T17.setTop (mkF m 90 Ls16 [(.double (fB 5)), (.double z30), (.double (fY 2)), (.double z29)]))
  refine own_st (fun _ kz => XS.dload X17.here hx rfl (v := (fY 3)) (hb hby dc_90) (by show Ls16[_]? = _; rw [hLs16]; rfl) kz) ?_
  show own_Win p e below s _ _ _ (T17.setTop (mkF m 92 Ls16 [(.double (fY 3)), (.double (fB 5)), (.double z30), (.double (fY 2)), (.double z29)]))
  obtain ⟨z31, hz31⟩ : ∃ z, (FP.dmul (fB 5) (fY 3)) = z := ⟨_, rfl⟩
  have dz31 := own_Nm nB5 nY3 (by decide)
  rw [hz31] at dz31
  refine own_st (fun _ kz => XS.dmulS X17.here hx rfl (hb hby dc_92) rfl (by rw [hz31]; exact own_Nn dz31) hz31 kz) ?_
  show own_Win p e below s _ _ _ (T17.setTop (mkF m 93 Ls16 [(.double z31), (.double z30), (.double (fY 2)), (.double z29)]))
  obtain ⟨z32, hz32⟩ : ∃ z, (FP.dadd z30 z31) = z := ⟨_, rfl⟩
  have dz32 := own_Na dz30 dz31 (by decide)
  rw [hz32] at dz32
  refine own_st (fun _ kz => XS.daddS X17.here hx rfl (hb hby dc_93) rfl (by rw [hz32]; exact own_Nn dz32) hz32 kz) ?_
  show own_Win p e below s _ _ _ (T17.setTop (mkF m 94 Ls16 [(.double z32), (.double (fY 2)), (.double z29)]))
  obtain ⟨z33, hz33⟩ : ∃ z, (FP.dmul (fY 2) z32) = z := ⟨_, rfl⟩
  have dz33 := own_Nm nY2 dz32 (by decide)
  rw [hz33] at dz33
  refine own_st (fun _ kz => XS.dmulS X17.here hx rfl (hb hby dc_94) rfl (by rw [hz33]; exact own_Nn dz33) hz33 kz) ?_
  show own_Win p e below s _ _ _ (T17.setTop (mkF m 95 Ls16 [(.double z33), (.double z29)]))
  refine own_st (fun _ kz => XS.dload X17.here hx rfl (v := (fY 3)) (hb hby dc_95) (by show Ls16[_]? = _; rw [hLs16]; rfl) kz) ?_
  show own_Win p e below s _ _ _ (T17.setTop (mkF m 97 Ls16 [(.double (fY 3)), (.double z33), (.double z29)]))
  refine own_st (fun _ kz => XS.aloadN X17.here hx rfl (v := (.ref a)) (hb hby dc_97) (by show Ls16[_]? = _; rw [hLs16]; rfl) rfl kz) ?_
  show own_Win p e below s _ _ _ (T17.setTop (mkF m 98 Ls16 [(.ref a), (.double (fY 3)), (.double z33), (.double z29)]))
  obtain ⟨T18, X18, e18, st18⟩ := getF X17 hx hZ hown (host := "") (Or.inl (hw _ (List.mem_of_getElem? (i := 19) rfl))) Via.refl e17 f_blocks (g := (mkF m 98 Ls16 [(.ref a), (.double (fY 3)), (.double z33), (.double z29)])) rfl rfl (hb hby dc_98)
  refine own_st st18 ?_
  show own_Win p e below s _ _ _ (T18.setTop (mkF m 101 Ls16 [(.ref rb), (.double (fY 3)), (.double z33), (.double z29)]))
  refine own_st (fun _ kz => XS.iload X18.here hx rfl (v := (4 : Int32)) (hb hby dc_101) (by show Ls16[_]? = _; rw [hLs16]; rfl) kz) ?_
  show own_Win p e below s _ _ _ (T18.setTop (mkF m 103 Ls16 [(.int (4 : Int32)), (.ref rb), (.double (fY 3)), (.double z33), (.double z29)]))
  refine own_st (fun _ kz => XS.iconst X18.here hx rfl (hb hby dc_103) kz) ?_
  show own_Win p e below s _ _ _ (T18.setTop (mkF m 104 Ls16 [(.int (2 : Int32)), (.int (4 : Int32)), (.ref rb), (.double (fY 3)), (.double z33), (.double z29)]))
  refine own_st (fun _ kz => XS.iadd X18.here hx rfl (hb hby dc_104) rfl kz) ?_
  show own_Win p e below s _ _ _ (T18.setTop (mkF m 105 Ls16 [(.int ((4 : Int32) + (2 : Int32))), (.ref rb), (.double (fY 3)), (.double z33), (.double z29)]))
  show own_Win p e below s _ _ _ (T18.setTop (mkF m 105 Ls16 [(.int (6 : Int32)), (.ref rb), (.double (fY 3)), (.double z33), (.double z29)]))
  show own_Win p e below s _ _ _ (T18.setTop (mkF m 105 Ls16 [(.int (6 : Int32)), (.ref rb), (.double (fY 3)), (.double z33), (.double z29)]))
  refine own_daload X18 hx hZ e18 F_B (i := 6) rfl (by decide) (x := (fB 6)) rfl rfl rfl (hb hby dc_105) ?_
  show own_Win p e below s _ _ _ (T18.setTop (mkF m 106 Ls16 [(.double (fB 6)), (.double (fY 3)), (.double z33), (.double z29)]))
  refine own_st (fun _ kz => XS.dload X18.here hx rfl (v := (fY 2)) (hb hby dc_106) (by show Ls16[_]? = _; rw [hLs16]; rfl) kz) ?_
  show own_Win p e below s _ _ _ (T18.setTop (mkF m 108 Ls16 [(.double (fY 2)), (.double (fB 6)), (.double (fY 3)), (.double z33), (.double z29)]))
  obtain ⟨z34, hz34⟩ : ∃ z, (FP.dmul (fB 6) (fY 2)) = z := ⟨_, rfl⟩
  have dz34 := own_Nm nB6 nY2 (by decide)
  rw [hz34] at dz34
  refine own_st (fun _ kz => XS.dmulS X18.here hx rfl (hb hby dc_108) rfl (by rw [hz34]; exact own_Nn dz34) hz34 kz) ?_
  show own_Win p e below s _ _ _ (T18.setTop (mkF m 109 Ls16 [(.double z34), (.double (fY 3)), (.double z33), (.double z29)]))
  refine own_st (fun _ kz => XS.aloadN X18.here hx rfl (v := (.ref a)) (hb hby dc_109) (by show Ls16[_]? = _; rw [hLs16]; rfl) rfl kz) ?_
  show own_Win p e below s _ _ _ (T18.setTop (mkF m 110 Ls16 [(.ref a), (.double z34), (.double (fY 3)), (.double z33), (.double z29)]))
  obtain ⟨T19, X19, e19, st19⟩ := getF X18 hx hZ hown (host := "") (Or.inl (hw _ (List.mem_of_getElem? (i := 19) rfl))) Via.refl e18 f_blocks (g := (mkF m 110 Ls16 [(.ref a), (.double z34), (.double (fY 3)), (.double z33), (.double z29)])) rfl rfl (hb hby dc_110)
  refine own_st st19 ?_
  show own_Win p e below s _ _ _ (T19.setTop (mkF m 113 Ls16 [(.ref rb), (.double z34), (.double (fY 3)), (.double z33), (.double z29)]))
  refine own_st (fun _ kz => XS.iload X19.here hx rfl (v := (4 : Int32)) (hb hby dc_113) (by show Ls16[_]? = _; rw [hLs16]; rfl) kz) ?_
  show own_Win p e below s _ _ _ (T19.setTop (mkF m 115 Ls16 [(.int (4 : Int32)), (.ref rb), (.double z34), (.double (fY 3)), (.double z33), (.double z29)]))
  refine own_st (fun _ kz => XS.iconst X19.here hx rfl (hb hby dc_115) kz) ?_
  show own_Win p e below s _ _ _ (T19.setTop (mkF m 116 Ls16 [(.int (3 : Int32)), (.int (4 : Int32)), (.ref rb), (.double z34), (.double (fY 3)), (.double z33), (.double z29)]))
  refine own_st (fun _ kz => XS.iadd X19.here hx rfl (hb hby dc_116) rfl kz) ?_
  show own_Win p e below s _ _ _ (T19.setTop (mkF m 117 Ls16 [(.int ((4 : Int32) + (3 : Int32))), (.ref rb), (.double z34), (.double (fY 3)), (.double z33), (.double z29)]))
  show own_Win p e below s _ _ _ (T19.setTop (mkF m 117 Ls16 [(.int (7 : Int32)), (.ref rb), (.double z34), (.double (fY 3)), (.double z33), (.double z29)]))
  show own_Win p e below s _ _ _ (T19.setTop (mkF m 117 Ls16 [(.int (7 : Int32)), (.ref rb), (.double z34), (.double (fY 3)), (.double z33), (.double z29)]))
  refine own_daload X19 hx hZ e19 F_B (i := 7) rfl (by decide) (x := (fB 7)) rfl rfl rfl (hb hby dc_117) ?_
  show own_Win p e below s _ _ _ (T19.setTop (mkF m 118 Ls16 [(.double (fB 7)), (.double z34), (.double (fY 3)), (.double z33), (.double z29)]))
  refine own_st (fun _ kz => XS.dload X19.here hx rfl (v := (fY 3)) (hb hby dc_118) (by show Ls16[_]? = _; rw [hLs16]; rfl) kz) ?_
  show own_Win p e below s _ _ _ (T19.setTop (mkF m 120 Ls16 [(.double (fY 3)), (.double (fB 7)), (.double z34), (.double (fY 3)), (.double z33), (.double z29)]))
  obtain ⟨z35, hz35⟩ : ∃ z, (FP.dmul (fB 7) (fY 3)) = z := ⟨_, rfl⟩
  have dz35 := own_Nm nB7 nY3 (by decide)
  rw [hz35] at dz35
  refine own_st (fun _ kz => XS.dmulS X19.here hx rfl (hb hby dc_120) rfl (by rw [hz35]; exact own_Nn dz35) hz35 kz) ?_
  show own_Win p e below s _ _ _ (T19.setTop (mkF m 121 Ls16 [(.double z35), (.double z34), (.double (fY 3)), (.double z33), (.double z29)]))
  obtain ⟨z36, hz36⟩ : ∃ z, (FP.dadd z34 z35) = z := ⟨_, rfl⟩
  have dz36 := own_Na dz34 dz35 (by decide)
  rw [hz36] at dz36
  refine own_st (fun _ kz => XS.daddS X19.here hx rfl (hb hby dc_121) rfl (by rw [hz36]; exact own_Nn dz36) hz36 kz) ?_
  show own_Win p e below s _ _ _ (T19.setTop (mkF m 122 Ls16 [(.double z36), (.double (fY 3)), (.double z33), (.double z29)]))
  obtain ⟨z37, hz37⟩ : ∃ z, (FP.dmul (fY 3) z36) = z := ⟨_, rfl⟩
  have dz37 := own_Nm nY3 dz36 (by decide)
  rw [hz37] at dz37
  refine own_st (fun _ kz => XS.dmulS X19.here hx rfl (hb hby dc_122) rfl (by rw [hz37]; exact own_Nn dz37) hz37 kz) ?_
  show own_Win p e below s _ _ _ (T19.setTop (mkF m 123 Ls16 [(.double z37), (.double z33), (.double z29)]))
  obtain ⟨z38, hz38⟩ : ∃ z, (FP.dadd z33 z37) = z := ⟨_, rfl⟩
  have dz38 := own_Na dz33 dz37 (by decide)
  rw [hz38] at dz38
  refine own_st (fun _ kz => XS.daddS X19.here hx rfl (hb hby dc_123) rfl (by rw [hz38]; exact own_Nn dz38) hz38 kz) ?_
  show own_Win p e below s _ _ _ (T19.setTop (mkF m 124 Ls16 [(.double z38), (.double z29)]))
  refine own_st (fun tz kz => X19.ldc2DoubleC hx hown (mvT hZ (hw _ (List.mem_of_getElem? (i := 44) rfl))) (g := (mkF m 124 Ls16 [(.double z38), (.double z29)])) rfl (hb hby dc_124) tz kz) ?_
  show own_Win p e below s _ _ _ (T19.setTop (mkF m 127 Ls16 [(.double (4611686018427387904 : UInt64)), (.double z38), (.double z29)]))
  obtain ⟨z39, hz39⟩ : ∃ z, (FP.ddiv z38 (4611686018427387904 : UInt64)) = z := ⟨_, rfl⟩
  have dz39 := own_Hd dz38 (by decide)
  rw [hz39] at dz39
  refine own_st (fun _ kz => XS.ddivS X19.here hx rfl (hb hby dc_127) rfl (by rw [hz39]; exact own_Hn dz39) hz39 kz) ?_
  show own_Win p e below s _ _ _ (T19.setTop (mkF m 128 Ls16 [(.double z39), (.double z29)]))
  obtain ⟨z40, hz40⟩ : ∃ z, (FP.dadd z29 z39) = z := ⟨_, rfl⟩
  have dz40 := own_Ha dz29 dz39 (by decide)
  rw [hz40] at dz40
  refine own_st (fun _ kz => XS.daddS X19.here hx rfl (hb hby dc_128) rfl (by rw [hz40]; exact own_Hn dz40) hz40 kz) ?_
  show own_Win p e below s _ _ _ (T19.setTop (mkF m 129 Ls16 [(.double z40)]))
  obtain ⟨Ls17, hLs17⟩ : ∃ L : Array Slot, L = #[.val (.ref a), .val (.ref rs), .val (.double z40), .second, .val (.int (1 : Int32)), .val (.double (fY 2)), .second, .val (.double (fY 3)), .second, .val (.int (4 : Int32)), .val (.double (fY 2)), .second, .val (.double (fY 3)), .second] := ⟨_, rfl⟩
  refine own_st (fun _ kz => XS.dstoreN X19.here hx rfl (hb hby dc_129) rfl (l' := Ls17) (by show storeLocals Ls16 _ _ = _; rw [hLs16, hLs17]; rfl) kz) ?_
  show own_Win p e below s _ _ _ (T19.setTop (mkF m 130 Ls17 []))
  refine own_st (fun _ kz => XS.iload X19.here hx rfl (v := (1 : Int32)) (hb hby dc_130) (by show Ls17[_]? = _; rw [hLs17]; rfl) kz) ?_
  show own_Win p e below s _ _ _ (T19.setTop (mkF m 132 Ls17 [(.int (1 : Int32))]))
  refine own_st (fun _ kz => XS.iconst X19.here hx rfl (hb hby dc_132) kz) ?_
  show own_Win p e below s _ _ _ (T19.setTop (mkF m 133 Ls17 [(.int (1 : Int32)), (.int (1 : Int32))]))
  refine own_st (fun _ kz => XS.iadd X19.here hx rfl (hb hby dc_133) rfl kz) ?_
  show own_Win p e below s _ _ _ (T19.setTop (mkF m 134 Ls17 [(.int ((1 : Int32) + (1 : Int32)))]))
  show own_Win p e below s _ _ _ (T19.setTop (mkF m 134 Ls17 [(.int (2 : Int32))]))
  refine own_st (fun _ kz => XS.aloadN X19.here hx rfl (v := (.ref a)) (hb hby dc_134) (by show Ls17[_]? = _; rw [hLs17]; rfl) rfl kz) ?_
  show own_Win p e below s _ _ _ (T19.setTop (mkF m 135 Ls17 [(.ref a), (.int (2 : Int32))]))
  obtain ⟨T20, X20, e20, st20⟩ := getF X19 hx hZ hown (host := "") (Or.inl (hw _ (List.mem_of_getElem? (i := 14) rfl))) Via.refl e19 f_points (g := (mkF m 135 Ls17 [(.ref a), (.int (2 : Int32))])) rfl rfl (hb hby dc_135)
  refine own_st st20 ?_
  show own_Win p e below s _ _ _ (T20.setTop (mkF m 138 Ls17 [(.int (3 : Int32)), (.int (2 : Int32))]))
  refine own_st (fun _ kz => XS.icmpNo X20.here hx rfl (hb hby dc_138) rfl (by decide) kz) ?_
  show own_Win p e below s _ _ _ (T20.setTop (mkF m 141 Ls17 []))
  refine own_st (fun _ kz => XS.aloadN X20.here hx rfl (v := (.ref rs)) (hb hby dc_141) (by show Ls17[_]? = _; rw [hLs17]; rfl) rfl kz) ?_
  show own_Win p e below s _ _ _ (T20.setTop (mkF m 142 Ls17 [(.ref rs)]))
  refine own_st (fun _ kz => XS.iconst X20.here hx rfl (hb hby dc_142) kz) ?_
  show own_Win p e below s _ _ _ (T20.setTop (mkF m 143 Ls17 [(.int (2 : Int32)), (.ref rs)]))
  refine own_st (fun _ kz => XS.iload X20.here hx rfl (v := (1 : Int32)) (hb hby dc_143) (by show Ls17[_]? = _; rw [hLs17]; rfl) kz) ?_
  show own_Win p e below s _ _ _ (T20.setTop (mkF m 145 Ls17 [(.int (1 : Int32)), (.int (2 : Int32)), (.ref rs)]))
  refine own_st (fun _ kz => XS.imul X20.here hx rfl (hb hby dc_145) rfl kz) ?_
  show own_Win p e below s _ _ _ (T20.setTop (mkF m 146 Ls17 [(.int ((2 : Int32) * (1 : Int32))), (.ref rs)]))
  show own_Win p e below s _ _ _ (T20.setTop (mkF m 146 Ls17 [(.int (2 : Int32)), (.ref rs)]))
  refine own_st (fun _ kz => XS.iconst X20.here hx rfl (hb hby dc_146) kz) ?_
  show own_Win p e below s _ _ _ (T20.setTop (mkF m 147 Ls17 [(.int (2 : Int32)), (.int (2 : Int32)), (.ref rs)]))
  refine own_st (fun _ kz => XS.iadd X20.here hx rfl (hb hby dc_147) rfl kz) ?_
  show own_Win p e below s _ _ _ (T20.setTop (mkF m 148 Ls17 [(.int ((2 : Int32) + (2 : Int32))), (.ref rs)]))
  show own_Win p e below s _ _ _ (T20.setTop (mkF m 148 Ls17 [(.int (4 : Int32)), (.ref rs)]))
  show own_Win p e below s _ _ _ (T20.setTop (mkF m 148 Ls17 [(.int (4 : Int32)), (.ref rs)]))
  refine own_daload X20 hx hZ e20 F_Y (i := 4) rfl (by decide) (x := (fY 4)) rfl rfl rfl (hb hby dc_148) ?_
  show own_Win p e below s _ _ _ (T20.setTop (mkF m 149 Ls17 [(.double (fY 4))]))
  obtain ⟨Ls18, hLs18⟩ : ∃ L : Array Slot, L = #[.val (.ref a), .val (.ref rs), .val (.double z40), .second, .val (.int (1 : Int32)), .val (.double (fY 2)), .second, .val (.double (fY 3)), .second, .val (.int (4 : Int32)), .val (.double (fY 4)), .second, .val (.double (fY 3)), .second] := ⟨_, rfl⟩
  refine own_st (fun _ kz => XS.dstore X20.here hx rfl (hb hby dc_149) rfl (l' := Ls18) (by show storeLocals Ls17 _ _ = _; rw [hLs17, hLs18]; rfl) kz) ?_
  show own_Win p e below s _ _ _ (T20.setTop (mkF m 151 Ls18 []))
  refine own_st (fun _ kz => XS.aloadN X20.here hx rfl (v := (.ref rs)) (hb hby dc_151) (by show Ls18[_]? = _; rw [hLs18]; rfl) rfl kz) ?_
  show own_Win p e below s _ _ _ (T20.setTop (mkF m 152 Ls18 [(.ref rs)]))
  refine own_st (fun _ kz => XS.iconst X20.here hx rfl (hb hby dc_152) kz) ?_
  show own_Win p e below s _ _ _ (T20.setTop (mkF m 153 Ls18 [(.int (2 : Int32)), (.ref rs)]))
  refine own_st (fun _ kz => XS.iload X20.here hx rfl (v := (1 : Int32)) (hb hby dc_153) (by show Ls18[_]? = _; rw [hLs18]; rfl) kz) ?_
  show own_Win p e below s _ _ _ (T20.setTop (mkF m 155 Ls18 [(.int (1 : Int32)), (.int (2 : Int32)), (.ref rs)]))
  refine own_st (fun _ kz => XS.imul X20.here hx rfl (hb hby dc_155) rfl kz) ?_
  show own_Win p e below s _ _ _ (T20.setTop (mkF m 156 Ls18 [(.int ((2 : Int32) * (1 : Int32))), (.ref rs)]))
  show own_Win p e below s _ _ _ (T20.setTop (mkF m 156 Ls18 [(.int (2 : Int32)), (.ref rs)]))
  refine own_st (fun _ kz => XS.iconst X20.here hx rfl (hb hby dc_156) kz) ?_
  show own_Win p e below s _ _ _ (T20.setTop (mkF m 157 Ls18 [(.int (3 : Int32)), (.int (2 : Int32)), (.ref rs)]))
  refine own_st (fun _ kz => XS.iadd X20.here hx rfl (hb hby dc_157) rfl kz) ?_
  show own_Win p e below s _ _ _ (T20.setTop (mkF m 158 Ls18 [(.int ((2 : Int32) + (3 : Int32))), (.ref rs)]))
  show own_Win p e below s _ _ _ (T20.setTop (mkF m 158 Ls18 [(.int (5 : Int32)), (.ref rs)]))
  show own_Win p e below s _ _ _ (T20.setTop (mkF m 158 Ls18 [(.int (5 : Int32)), (.ref rs)]))
  refine own_daload X20 hx hZ e20 F_Y (i := 5) rfl (by decide) (x := (fY 5)) rfl rfl rfl (hb hby dc_158) ?_
  show own_Win p e below s _ _ _ (T20.setTop (mkF m 159 Ls18 [(.double (fY 5))]))
  obtain ⟨Ls19, hLs19⟩ : ∃ L : Array Slot, L = #[.val (.ref a), .val (.ref rs), .val (.double z40), .second, .val (.int (1 : Int32)), .val (.double (fY 2)), .second, .val (.double (fY 3)), .second, .val (.int (4 : Int32)), .val (.double (fY 4)), .second, .val (.double (fY 5)), .second] := ⟨_, rfl⟩
  refine own_st (fun _ kz => XS.dstore X20.here hx rfl (hb hby dc_159) rfl (l' := Ls19) (by show storeLocals Ls18 _ _ = _; rw [hLs18, hLs19]; rfl) kz) ?_
  show own_Win p e below s _ _ _ (T20.setTop (mkF m 161 Ls19 []))
  refine own_st (fun _ kz => XS.dloadN X20.here hx rfl (v := z40) (hb hby dc_161) (by show Ls19[_]? = _; rw [hLs19]; rfl) kz) ?_
  show own_Win p e below s _ _ _ (T20.setTop (mkF m 162 Ls19 [(.double z40)]))
  refine own_st (fun _ kz => XS.dload X20.here hx rfl (v := (fY 2)) (hb hby dc_162) (by show Ls19[_]? = _; rw [hLs19]; rfl) kz) ?_
  show own_Win p e below s _ _ _ (T20.setTop (mkF m 164 Ls19 [(.double (fY 2)), (.double z40)]))
  refine own_st (fun _ kz => XS.aloadN X20.here hx rfl (v := (.ref a)) (hb hby dc_164) (by show Ls19[_]? = _; rw [hLs19]; rfl) rfl kz) ?_
  show own_Win p e below s _ _ _ (T20.setTop (mkF m 165 Ls19 [(.ref a), (.double (fY 2)), (.double z40)]))
  obtain ⟨T21, X21, e21, st21⟩ := getF X20 hx hZ hown (host := "") (Or.inl (hw _ (List.mem_of_getElem? (i := 21) rfl))) Via.refl e20 f_coupling (g := (mkF m 165 Ls19 [(.ref a), (.double (fY 2)), (.double z40)])) rfl rfl (hb hby dc_165)
  refine own_st st21 ?_
  show own_Win p e below s _ _ _ (T21.setTop (mkF m 168 Ls19 [(.ref rc), (.double (fY 2)), (.double z40)]))
  refine own_st (fun _ kz => XS.iload X21.here hx rfl (v := (4 : Int32)) (hb hby dc_168) (by show Ls19[_]? = _; rw [hLs19]; rfl) kz) ?_
  show own_Win p e below s _ _ _ (T21.setTop (mkF m 170 Ls19 [(.int (4 : Int32)), (.ref rc), (.double (fY 2)), (.double z40)]))
  show own_Win p e below s _ _ _ (T21.setTop (mkF m 170 Ls19 [(.int (4 : Int32)), (.ref rc), (.double (fY 2)), (.double z40)]))
  refine own_daload X21 hx hZ e21 F_C (i := 4) rfl (by decide) (x := (fC 4)) rfl rfl rfl (hb hby dc_170) ?_
  show own_Win p e below s _ _ _ (T21.setTop (mkF m 171 Ls19 [(.double (fC 4)), (.double (fY 2)), (.double z40)]))
  refine own_st (fun _ kz => XS.dload X21.here hx rfl (v := (fY 4)) (hb hby dc_171) (by show Ls19[_]? = _; rw [hLs19]; rfl) kz) ?_
  show own_Win p e below s _ _ _ (T21.setTop (mkF m 173 Ls19 [(.double (fY 4)), (.double (fC 4)), (.double (fY 2)), (.double z40)]))
  obtain ⟨z41, hz41⟩ : ∃ z, (FP.dmul (fC 4) (fY 4)) = z := ⟨_, rfl⟩
  have dz41 := own_Nm nC4 nY4 (by decide)
  rw [hz41] at dz41
  refine own_st (fun _ kz => XS.dmulS X21.here hx rfl (hb hby dc_173) rfl (by rw [hz41]; exact own_Nn dz41) hz41 kz) ?_
  show own_Win p e below s _ _ _ (T21.setTop (mkF m 174 Ls19 [(.double z41), (.double (fY 2)), (.double z40)]))
  refine own_st (fun _ kz => XS.aloadN X21.here hx rfl (v := (.ref a)) (hb hby dc_174) (by show Ls19[_]? = _; rw [hLs19]; rfl) rfl kz) ?_
  show own_Win p e below s _ _ _ (T21.setTop (mkF m 175 Ls19 [(.ref a), (.double z41), (.double (fY 2)), (.double z40)]))
  obtain ⟨T22, X22, e22, st22⟩ := getF X21 hx hZ hown (host := "") (Or.inl (hw _ (List.mem_of_getElem? (i := 21) rfl))) Via.refl e21 f_coupling (g := (mkF m 175 Ls19 [(.ref a), (.double z41), (.double (fY 2)), (.double z40)])) rfl rfl (hb hby dc_175)
  refine own_st st22 ?_
  show own_Win p e below s _ _ _ (T22.setTop (mkF m 178 Ls19 [(.ref rc), (.double z41), (.double (fY 2)), (.double z40)]))
  refine own_st (fun _ kz => XS.iload X22.here hx rfl (v := (4 : Int32)) (hb hby dc_178) (by show Ls19[_]? = _; rw [hLs19]; rfl) kz) ?_
  show own_Win p e below s _ _ _ (T22.setTop (mkF m 180 Ls19 [(.int (4 : Int32)), (.ref rc), (.double z41), (.double (fY 2)), (.double z40)]))
  refine own_st (fun _ kz => XS.iconst X22.here hx rfl (hb hby dc_180) kz) ?_
  show own_Win p e below s _ _ _ (T22.setTop (mkF m 181 Ls19 [(.int (1 : Int32)), (.int (4 : Int32)), (.ref rc), (.double z41), (.double (fY 2)), (.double z40)]))
  refine own_st (fun _ kz => XS.iadd X22.here hx rfl (hb hby dc_181) rfl kz) ?_
  show own_Win p e below s _ _ _ (T22.setTop (mkF m 182 Ls19 [(.int ((4 : Int32) + (1 : Int32))), (.ref rc), (.double z41), (.double (fY 2)), (.double z40)]))
  show own_Win p e below s _ _ _ (T22.setTop (mkF m 182 Ls19 [(.int (5 : Int32)), (.ref rc), (.double z41), (.double (fY 2)), (.double z40)]))
  show own_Win p e below s _ _ _ (T22.setTop (mkF m 182 Ls19 [(.int (5 : Int32)), (.ref rc), (.double z41), (.double (fY 2)), (.double z40)]))
  refine own_daload X22 hx hZ e22 F_C (i := 5) rfl (by decide) (x := (fC 5)) rfl rfl rfl (hb hby dc_182) ?_
  show own_Win p e below s _ _ _ (T22.setTop (mkF m 183 Ls19 [(.double (fC 5)), (.double z41), (.double (fY 2)), (.double z40)]))
  refine own_st (fun _ kz => XS.dload X22.here hx rfl (v := (fY 5)) (hb hby dc_183) (by show Ls19[_]? = _; rw [hLs19]; rfl) kz) ?_
  show own_Win p e below s _ _ _ (T22.setTop (mkF m 185 Ls19 [(.double (fY 5)), (.double (fC 5)), (.double z41), (.double (fY 2)), (.double z40)]))
  obtain ⟨z42, hz42⟩ : ∃ z, (FP.dmul (fC 5) (fY 5)) = z := ⟨_, rfl⟩
  have dz42 := own_Nm nC5 nY5 (by decide)
  rw [hz42] at dz42
  refine own_st (fun _ kz => XS.dmulS X22.here hx rfl (hb hby dc_185) rfl (by rw [hz42]; exact own_Nn dz42) hz42 kz) ?_
  show own_Win p e below s _ _ _ (T22.setTop (mkF m 186 Ls19 [(.double z42), (.double z41), (.double (fY 2)), (.double z40)]))
  obtain ⟨z43, hz43⟩ : ∃ z, (FP.dadd z41 z42) = z := ⟨_, rfl⟩
  have dz43 := own_Na dz41 dz42 (by decide)
  rw [hz43] at dz43
  refine own_st (fun _ kz => XS.daddS X22.here hx rfl (hb hby dc_186) rfl (by rw [hz43]; exact own_Nn dz43) hz43 kz) ?_
  show own_Win p e below s _ _ _ (T22.setTop (mkF m 187 Ls19 [(.double z43), (.double (fY 2)), (.double z40)]))
  obtain ⟨z44, hz44⟩ : ∃ z, (FP.dmul (fY 2) z43) = z := ⟨_, rfl⟩
  have dz44 := own_Nm nY2 dz43 (by decide)
  rw [hz44] at dz44
  refine own_st (fun _ kz => XS.dmulS X22.here hx rfl (hb hby dc_187) rfl (by rw [hz44]; exact own_Nn dz44) hz44 kz) ?_
  show own_Win p e below s _ _ _ (T22.setTop (mkF m 188 Ls19 [(.double z44), (.double z40)]))
  refine own_st (fun _ kz => XS.dload X22.here hx rfl (v := (fY 3)) (hb hby dc_188) (by show Ls19[_]? = _; rw [hLs19]; rfl) kz) ?_
  show own_Win p e below s _ _ _ (T22.setTop (mkF m 190 Ls19 [(.double (fY 3)), (.double z44), (.double z40)]))
  refine own_st (fun _ kz => XS.aloadN X22.here hx rfl (v := (.ref a)) (hb hby dc_190) (by show Ls19[_]? = _; rw [hLs19]; rfl) rfl kz) ?_
  show own_Win p e below s _ _ _ (T22.setTop (mkF m 191 Ls19 [(.ref a), (.double (fY 3)), (.double z44), (.double z40)]))
  obtain ⟨T23, X23, e23, st23⟩ := getF X22 hx hZ hown (host := "") (Or.inl (hw _ (List.mem_of_getElem? (i := 21) rfl))) Via.refl e22 f_coupling (g := (mkF m 191 Ls19 [(.ref a), (.double (fY 3)), (.double z44), (.double z40)])) rfl rfl (hb hby dc_191)
  refine own_st st23 ?_
  show own_Win p e below s _ _ _ (T23.setTop (mkF m 194 Ls19 [(.ref rc), (.double (fY 3)), (.double z44), (.double z40)]))
  refine own_st (fun _ kz => XS.iload X23.here hx rfl (v := (4 : Int32)) (hb hby dc_194) (by show Ls19[_]? = _; rw [hLs19]; rfl) kz) ?_
  show own_Win p e below s _ _ _ (T23.setTop (mkF m 196 Ls19 [(.int (4 : Int32)), (.ref rc), (.double (fY 3)), (.double z44), (.double z40)]))
  refine own_st (fun _ kz => XS.iconst X23.here hx rfl (hb hby dc_196) kz) ?_
  show own_Win p e below s _ _ _ (T23.setTop (mkF m 197 Ls19 [(.int (2 : Int32)), (.int (4 : Int32)), (.ref rc), (.double (fY 3)), (.double z44), (.double z40)]))
  refine own_st (fun _ kz => XS.iadd X23.here hx rfl (hb hby dc_197) rfl kz) ?_
  show own_Win p e below s _ _ _ (T23.setTop (mkF m 198 Ls19 [(.int ((4 : Int32) + (2 : Int32))), (.ref rc), (.double (fY 3)), (.double z44), (.double z40)]))
  show own_Win p e below s _ _ _ (T23.setTop (mkF m 198 Ls19 [(.int (6 : Int32)), (.ref rc), (.double (fY 3)), (.double z44), (.double z40)]))
  show own_Win p e below s _ _ _ (T23.setTop (mkF m 198 Ls19 [(.int (6 : Int32)), (.ref rc), (.double (fY 3)), (.double z44), (.double z40)]))
  refine own_daload X23 hx hZ e23 F_C (i := 6) rfl (by decide) (x := (fC 6)) rfl rfl rfl (hb hby dc_198) ?_
  show own_Win p e below s _ _ _ (T23.setTop (mkF m 199 Ls19 [(.double (fC 6)), (.double (fY 3)), (.double z44), (.double z40)]))
  refine own_st (fun _ kz => XS.dload X23.here hx rfl (v := (fY 4)) (hb hby dc_199) (by show Ls19[_]? = _; rw [hLs19]; rfl) kz) ?_
  show own_Win p e below s _ _ _ (T23.setTop (mkF m 201 Ls19 [(.double (fY 4)), (.double (fC 6)), (.double (fY 3)), (.double z44), (.double z40)]))
  obtain ⟨z45, hz45⟩ : ∃ z, (FP.dmul (fC 6) (fY 4)) = z := ⟨_, rfl⟩
  have dz45 := own_Nm nC6 nY4 (by decide)
  rw [hz45] at dz45
  refine own_st (fun _ kz => XS.dmulS X23.here hx rfl (hb hby dc_201) rfl (by rw [hz45]; exact own_Nn dz45) hz45 kz) ?_
  show own_Win p e below s _ _ _ (T23.setTop (mkF m 202 Ls19 [(.double z45), (.double (fY 3)), (.double z44), (.double z40)]))
  refine own_st (fun _ kz => XS.aloadN X23.here hx rfl (v := (.ref a)) (hb hby dc_202) (by show Ls19[_]? = _; rw [hLs19]; rfl) rfl kz) ?_
  show own_Win p e below s _ _ _ (T23.setTop (mkF m 203 Ls19 [(.ref a), (.double z45), (.double (fY 3)), (.double z44), (.double z40)]))
  obtain ⟨T24, X24, e24, st24⟩ := getF X23 hx hZ hown (host := "") (Or.inl (hw _ (List.mem_of_getElem? (i := 21) rfl))) Via.refl e23 f_coupling (g := (mkF m 203 Ls19 [(.ref a), (.double z45), (.double (fY 3)), (.double z44), (.double z40)])) rfl rfl (hb hby dc_203)
  refine own_st st24 ?_
  show own_Win p e below s _ _ _ (T24.setTop (mkF m 206 Ls19 [(.ref rc), (.double z45), (.double (fY 3)), (.double z44), (.double z40)]))
  refine own_st (fun _ kz => XS.iload X24.here hx rfl (v := (4 : Int32)) (hb hby dc_206) (by show Ls19[_]? = _; rw [hLs19]; rfl) kz) ?_
  show own_Win p e below s _ _ _ (T24.setTop (mkF m 208 Ls19 [(.int (4 : Int32)), (.ref rc), (.double z45), (.double (fY 3)), (.double z44), (.double z40)]))
  refine own_st (fun _ kz => XS.iconst X24.here hx rfl (hb hby dc_208) kz) ?_
  show own_Win p e below s _ _ _ (T24.setTop (mkF m 209 Ls19 [(.int (3 : Int32)), (.int (4 : Int32)), (.ref rc), (.double z45), (.double (fY 3)), (.double z44), (.double z40)]))
  refine own_st (fun _ kz => XS.iadd X24.here hx rfl (hb hby dc_209) rfl kz) ?_
  show own_Win p e below s _ _ _ (T24.setTop (mkF m 210 Ls19 [(.int ((4 : Int32) + (3 : Int32))), (.ref rc), (.double z45), (.double (fY 3)), (.double z44), (.double z40)]))
  show own_Win p e below s _ _ _ (T24.setTop (mkF m 210 Ls19 [(.int (7 : Int32)), (.ref rc), (.double z45), (.double (fY 3)), (.double z44), (.double z40)]))
  show own_Win p e below s _ _ _ (T24.setTop (mkF m 210 Ls19 [(.int (7 : Int32)), (.ref rc), (.double z45), (.double (fY 3)), (.double z44), (.double z40)]))
  refine own_daload X24 hx hZ e24 F_C (i := 7) rfl (by decide) (x := (fC 7)) rfl rfl rfl (hb hby dc_210) ?_
  show own_Win p e below s _ _ _ (T24.setTop (mkF m 211 Ls19 [(.double (fC 7)), (.double z45), (.double (fY 3)), (.double z44), (.double z40)]))
  refine own_st (fun _ kz => XS.dload X24.here hx rfl (v := (fY 5)) (hb hby dc_211) (by show Ls19[_]? = _; rw [hLs19]; rfl) kz) ?_
  show own_Win p e below s _ _ _ (T24.setTop (mkF m 213 Ls19 [(.double (fY 5)), (.double (fC 7)), (.double z45), (.double (fY 3)), (.double z44), (.double z40)]))
  obtain ⟨z46, hz46⟩ : ∃ z, (FP.dmul (fC 7) (fY 5)) = z := ⟨_, rfl⟩
  have dz46 := own_Nm nC7 nY5 (by decide)
  rw [hz46] at dz46
  refine own_st (fun _ kz => XS.dmulS X24.here hx rfl (hb hby dc_213) rfl (by rw [hz46]; exact own_Nn dz46) hz46 kz) ?_
  show own_Win p e below s _ _ _ (T24.setTop (mkF m 214 Ls19 [(.double z46), (.double z45), (.double (fY 3)), (.double z44), (.double z40)]))
  obtain ⟨z47, hz47⟩ : ∃ z, (FP.dadd z45 z46) = z := ⟨_, rfl⟩
  have dz47 := own_Na dz45 dz46 (by decide)
  rw [hz47] at dz47
  refine own_st (fun _ kz => XS.daddS X24.here hx rfl (hb hby dc_214) rfl (by rw [hz47]; exact own_Nn dz47) hz47 kz) ?_
  show own_Win p e below s _ _ _ (T24.setTop (mkF m 215 Ls19 [(.double z47), (.double (fY 3)), (.double z44), (.double z40)]))
  obtain ⟨z48, hz48⟩ : ∃ z, (FP.dmul (fY 3) z47) = z := ⟨_, rfl⟩
  have dz48 := own_Nm nY3 dz47 (by decide)
  rw [hz48] at dz48
  refine own_st (fun _ kz => XS.dmulS X24.here hx rfl (hb hby dc_215) rfl (by rw [hz48]; exact own_Nn dz48) hz48 kz) ?_
  show own_Win p e below s _ _ _ (T24.setTop (mkF m 216 Ls19 [(.double z48), (.double z44), (.double z40)]))
  obtain ⟨z49, hz49⟩ : ∃ z, (FP.dadd z44 z48) = z := ⟨_, rfl⟩
  have dz49 := own_Na dz44 dz48 (by decide)
  rw [hz49] at dz49
  refine own_st (fun _ kz => XS.daddS X24.here hx rfl (hb hby dc_216) rfl (by rw [hz49]; exact own_Nn dz49) hz49 kz) ?_
  show own_Win p e below s _ _ _ (T24.setTop (mkF m 217 Ls19 [(.double z49), (.double z40)]))
  obtain ⟨z50, hz50⟩ : ∃ z, (FP.dadd z40 z49) = z := ⟨_, rfl⟩
  have dz50 := own_Ha dz40 (own_Nh dz49) (by decide)
  rw [hz50] at dz50
  refine own_st (fun _ kz => XS.daddS X24.here hx rfl (hb hby dc_217) rfl (by rw [hz50]; exact own_Hn dz50) hz50 kz) ?_
  show own_Win p e below s _ _ _ (T24.setTop (mkF m 218 Ls19 [(.double z50)]))
  obtain ⟨Ls20, hLs20⟩ : ∃ L : Array Slot, L = #[.val (.ref a), .val (.ref rs), .val (.double z50), .second, .val (.int (1 : Int32)), .val (.double (fY 2)), .second, .val (.double (fY 3)), .second, .val (.int (4 : Int32)), .val (.double (fY 4)), .second, .val (.double (fY 5)), .second] := ⟨_, rfl⟩
  refine own_st (fun _ kz => XS.dstoreN X24.here hx rfl (hb hby dc_218) rfl (l' := Ls20) (by show storeLocals Ls19 _ _ = _; rw [hLs19, hLs20]; rfl) kz) ?_
  show own_Win p e below s _ _ _ (T24.setTop (mkF m 219 Ls20 []))
  obtain ⟨Ls21, hLs21⟩ : ∃ L : Array Slot, L = #[.val (.ref a), .val (.ref rs), .val (.double z50), .second, .val (.int (2 : Int32)), .val (.double (fY 2)), .second, .val (.double (fY 3)), .second, .val (.int (4 : Int32)), .val (.double (fY 4)), .second, .val (.double (fY 5)), .second] := ⟨_, rfl⟩
  refine own_st (fun _ kz => XS.iinc X24.here hx rfl (x := (1 : Int32)) (hb hby dc_219) (by show Ls20[_]? = _; rw [hLs20]; rfl) (l' := Ls21) (by show storeLocals Ls20 _ _ = _; rw [hLs20, hLs21]; rfl) kz) ?_
  show own_Win p e below s _ _ _ (T24.setTop (mkF m 222 Ls21 []))
  refine own_st (fun _ kz => XS.goto X24.here hx rfl (pc0 := 222) (pc' := 5) rfl (hb hby dc_222) (by decide) (by decide) kz) ?_
  show own_Win p e below s _ _ _ (T24.setTop (mkF m 5 Ls21 []))
  refine own_st (fun _ kz => XS.iload X24.here hx rfl (v := (2 : Int32)) (hb hby dc_5) (by show Ls21[_]? = _; rw [hLs21]; rfl) kz) ?_
  show own_Win p e below s _ _ _ (T24.setTop (mkF m 7 Ls21 [(.int (2 : Int32))]))
  refine own_st (fun _ kz => XS.aloadN X24.here hx rfl (v := (.ref a)) (hb hby dc_7) (by show Ls21[_]? = _; rw [hLs21]; rfl) rfl kz) ?_
  show own_Win p e below s _ _ _ (T24.setTop (mkF m 8 Ls21 [(.ref a), (.int (2 : Int32))]))
  obtain ⟨T25, X25, e25, st25⟩ := getF X24 hx hZ hown (host := "") (Or.inl (hw _ (List.mem_of_getElem? (i := 14) rfl))) Via.refl e24 f_points (g := (mkF m 8 Ls21 [(.ref a), (.int (2 : Int32))])) rfl rfl (hb hby dc_8)
  refine own_st st25 ?_
  show own_Win p e below s _ _ _ (T25.setTop (mkF m 11 Ls21 [(.int (3 : Int32)), (.int (2 : Int32))]))
  refine own_st (fun _ kz => XS.icmpNo X25.here hx rfl (hb hby dc_11) rfl (by decide) kz) ?_
  show own_Win p e below s _ _ _ (T25.setTop (mkF m 14 Ls21 []))
  refine own_st (fun _ kz => XS.aloadN X25.here hx rfl (v := (.ref rs)) (hb hby dc_14) (by show Ls21[_]? = _; rw [hLs21]; rfl) rfl kz) ?_
  show own_Win p e below s _ _ _ (T25.setTop (mkF m 15 Ls21 [(.ref rs)]))
  refine own_st (fun _ kz => XS.iconst X25.here hx rfl (hb hby dc_15) kz) ?_
  show own_Win p e below s _ _ _ (T25.setTop (mkF m 16 Ls21 [(.int (2 : Int32)), (.ref rs)]))
  refine own_st (fun _ kz => XS.iload X25.here hx rfl (v := (2 : Int32)) (hb hby dc_16) (by show Ls21[_]? = _; rw [hLs21]; rfl) kz) ?_
  show own_Win p e below s _ _ _ (T25.setTop (mkF m 18 Ls21 [(.int (2 : Int32)), (.int (2 : Int32)), (.ref rs)]))
  refine own_st (fun _ kz => XS.imul X25.here hx rfl (hb hby dc_18) rfl kz) ?_
  show own_Win p e below s _ _ _ (T25.setTop (mkF m 19 Ls21 [(.int ((2 : Int32) * (2 : Int32))), (.ref rs)]))
  show own_Win p e below s _ _ _ (T25.setTop (mkF m 19 Ls21 [(.int (4 : Int32)), (.ref rs)]))
  show own_Win p e below s _ _ _ (T25.setTop (mkF m 19 Ls21 [(.int (4 : Int32)), (.ref rs)]))
  refine own_daload X25 hx hZ e25 F_Y (i := 4) rfl (by decide) (x := (fY 4)) rfl rfl rfl (hb hby dc_19) ?_
  show own_Win p e below s _ _ _ (T25.setTop (mkF m 20 Ls21 [(.double (fY 4))]))
  obtain ⟨Ls22, hLs22⟩ : ∃ L : Array Slot, L = #[.val (.ref a), .val (.ref rs), .val (.double z50), .second, .val (.int (2 : Int32)), .val (.double (fY 4)), .second, .val (.double (fY 3)), .second, .val (.int (4 : Int32)), .val (.double (fY 4)), .second, .val (.double (fY 5)), .second] := ⟨_, rfl⟩
  refine own_st (fun _ kz => XS.dstore X25.here hx rfl (hb hby dc_20) rfl (l' := Ls22) (by show storeLocals Ls21 _ _ = _; rw [hLs21, hLs22]; rfl) kz) ?_
  show own_Win p e below s _ _ _ (T25.setTop (mkF m 22 Ls22 []))
  refine own_st (fun _ kz => XS.aloadN X25.here hx rfl (v := (.ref rs)) (hb hby dc_22) (by show Ls22[_]? = _; rw [hLs22]; rfl) rfl kz) ?_
  show own_Win p e below s _ _ _ (T25.setTop (mkF m 23 Ls22 [(.ref rs)]))
  refine own_st (fun _ kz => XS.iconst X25.here hx rfl (hb hby dc_23) kz) ?_
  show own_Win p e below s _ _ _ (T25.setTop (mkF m 24 Ls22 [(.int (2 : Int32)), (.ref rs)]))
  refine own_st (fun _ kz => XS.iload X25.here hx rfl (v := (2 : Int32)) (hb hby dc_24) (by show Ls22[_]? = _; rw [hLs22]; rfl) kz) ?_
  show own_Win p e below s _ _ _ (T25.setTop (mkF m 26 Ls22 [(.int (2 : Int32)), (.int (2 : Int32)), (.ref rs)]))
  refine own_st (fun _ kz => XS.imul X25.here hx rfl (hb hby dc_26) rfl kz) ?_
  show own_Win p e below s _ _ _ (T25.setTop (mkF m 27 Ls22 [(.int ((2 : Int32) * (2 : Int32))), (.ref rs)]))
  show own_Win p e below s _ _ _ (T25.setTop (mkF m 27 Ls22 [(.int (4 : Int32)), (.ref rs)]))
  refine own_st (fun _ kz => XS.iconst X25.here hx rfl (hb hby dc_27) kz) ?_
  show own_Win p e below s _ _ _ (T25.setTop (mkF m 28 Ls22 [(.int (1 : Int32)), (.int (4 : Int32)), (.ref rs)]))
  refine own_st (fun _ kz => XS.iadd X25.here hx rfl (hb hby dc_28) rfl kz) ?_
  show own_Win p e below s _ _ _ (T25.setTop (mkF m 29 Ls22 [(.int ((4 : Int32) + (1 : Int32))), (.ref rs)]))
  show own_Win p e below s _ _ _ (T25.setTop (mkF m 29 Ls22 [(.int (5 : Int32)), (.ref rs)]))
  show own_Win p e below s _ _ _ (T25.setTop (mkF m 29 Ls22 [(.int (5 : Int32)), (.ref rs)]))
  refine own_daload X25 hx hZ e25 F_Y (i := 5) rfl (by decide) (x := (fY 5)) rfl rfl rfl (hb hby dc_29) ?_
  show own_Win p e below s _ _ _ (T25.setTop (mkF m 30 Ls22 [(.double (fY 5))]))
  obtain ⟨Ls23, hLs23⟩ : ∃ L : Array Slot, L = #[.val (.ref a), .val (.ref rs), .val (.double z50), .second, .val (.int (2 : Int32)), .val (.double (fY 4)), .second, .val (.double (fY 5)), .second, .val (.int (4 : Int32)), .val (.double (fY 4)), .second, .val (.double (fY 5)), .second] := ⟨_, rfl⟩
  refine own_st (fun _ kz => XS.dstore X25.here hx rfl (hb hby dc_30) rfl (l' := Ls23) (by show storeLocals Ls22 _ _ = _; rw [hLs22, hLs23]; rfl) kz) ?_
  show own_Win p e below s _ _ _ (T25.setTop (mkF m 32 Ls23 []))
  refine own_st (fun _ kz => XS.iconst X25.here hx rfl (hb hby dc_32) kz) ?_
  show own_Win p e below s _ _ _ (T25.setTop (mkF m 33 Ls23 [(.int (4 : Int32))]))
  refine own_st (fun _ kz => XS.iload X25.here hx rfl (v := (2 : Int32)) (hb hby dc_33) (by show Ls23[_]? = _; rw [hLs23]; rfl) kz) ?_
  show own_Win p e below s _ _ _ (T25.setTop (mkF m 35 Ls23 [(.int (2 : Int32)), (.int (4 : Int32))]))
  refine own_st (fun _ kz => XS.imul X25.here hx rfl (hb hby dc_35) rfl kz) ?_
  show own_Win p e below s _ _ _ (T25.setTop (mkF m 36 Ls23 [(.int ((4 : Int32) * (2 : Int32)))]))
  show own_Win p e below s _ _ _ (T25.setTop (mkF m 36 Ls23 [(.int (8 : Int32))]))
  obtain ⟨Ls24, hLs24⟩ : ∃ L : Array Slot, L = #[.val (.ref a), .val (.ref rs), .val (.double z50), .second, .val (.int (2 : Int32)), .val (.double (fY 4)), .second, .val (.double (fY 5)), .second, .val (.int (8 : Int32)), .val (.double (fY 4)), .second, .val (.double (fY 5)), .second] := ⟨_, rfl⟩
  refine own_st (fun _ kz => XS.istore X25.here hx rfl (hb hby dc_36) rfl (l' := Ls24) (by show storeLocals Ls23 _ _ = _; rw [hLs23, hLs24]; rfl) kz) ?_
  show own_Win p e below s _ _ _ (T25.setTop (mkF m 38 Ls24 []))
  refine own_st (fun _ kz => XS.dloadN X25.here hx rfl (v := z50) (hb hby dc_38) (by show Ls24[_]? = _; rw [hLs24]; rfl) kz) ?_
  show own_Win p e below s _ _ _ (T25.setTop (mkF m 39 Ls24 [(.double z50)]))
  refine own_st (fun _ kz => XS.aloadN X25.here hx rfl (v := (.ref a)) (hb hby dc_39) (by show Ls24[_]? = _; rw [hLs24]; rfl) rfl kz) ?_
  show own_Win p e below s _ _ _ (T25.setTop (mkF m 40 Ls24 [(.ref a), (.double z50)]))
  obtain ⟨T26, X26, e26, st26⟩ := getF X25 hx hZ hown (host := "") (Or.inl (hw _ (List.mem_of_getElem? (i := 16) rfl))) Via.refl e25 f_gradient (g := (mkF m 40 Ls24 [(.ref a), (.double z50)])) rfl rfl (hb hby dc_40)
  refine own_st st26 ?_
  show own_Win p e below s _ _ _ (T26.setTop (mkF m 43 Ls24 [(.ref rg), (.double z50)]))
  refine own_st (fun _ kz => XS.iconst X26.here hx rfl (hb hby dc_43) kz) ?_
  show own_Win p e below s _ _ _ (T26.setTop (mkF m 44 Ls24 [(.int (2 : Int32)), (.ref rg), (.double z50)]))
  refine own_st (fun _ kz => XS.iload X26.here hx rfl (v := (2 : Int32)) (hb hby dc_44) (by show Ls24[_]? = _; rw [hLs24]; rfl) kz) ?_
  show own_Win p e below s _ _ _ (T26.setTop (mkF m 46 Ls24 [(.int (2 : Int32)), (.int (2 : Int32)), (.ref rg), (.double z50)]))
  refine own_st (fun _ kz => XS.imul X26.here hx rfl (hb hby dc_46) rfl kz) ?_
  show own_Win p e below s _ _ _ (T26.setTop (mkF m 47 Ls24 [(.int ((2 : Int32) * (2 : Int32))), (.ref rg), (.double z50)]))
  show own_Win p e below s _ _ _ (T26.setTop (mkF m 47 Ls24 [(.int (4 : Int32)), (.ref rg), (.double z50)]))
  show own_Win p e below s _ _ _ (T26.setTop (mkF m 47 Ls24 [(.int (4 : Int32)), (.ref rg), (.double z50)]))
  refine own_daload X26 hx hZ e26 F_G (i := 4) rfl (by decide) (x := (fG 4)) rfl rfl rfl (hb hby dc_47) ?_
  show own_Win p e below s _ _ _ (T26.setTop (mkF m 48 Ls24 [(.double (fG 4)), (.double z50)]))
  refine own_st (fun _ kz => XS.dload X26.here hx rfl (v := (fY 4)) (hb hby dc_48) (by show Ls24[_]? = _; rw [hLs24]; rfl) kz) ?_
  show own_Win p e below s _ _ _ (T26.setTop (mkF m 50 Ls24 [(.double (fY 4)), (.double (fG 4)), (.double z50)]))
  obtain ⟨z51, hz51⟩ : ∃ z, (FP.dmul (fG 4) (fY 4)) = z := ⟨_, rfl⟩
  have dz51 := own_Nm nG4 nY4 (by decide)
  rw [hz51] at dz51
  refine own_st (fun _ kz => XS.dmulS X26.here hx rfl (hb hby dc_50) rfl (by rw [hz51]; exact own_Nn dz51) hz51 kz) ?_
  show own_Win p e below s _ _ _ (T26.setTop (mkF m 51 Ls24 [(.double z51), (.double z50)]))
  refine own_st (fun _ kz => XS.aloadN X26.here hx rfl (v := (.ref a)) (hb hby dc_51) (by show Ls24[_]? = _; rw [hLs24]; rfl) rfl kz) ?_
  show own_Win p e below s _ _ _ (T26.setTop (mkF m 52 Ls24 [(.ref a), (.double z51), (.double z50)]))
  obtain ⟨T27, X27, e27, st27⟩ := getF X26 hx hZ hown (host := "") (Or.inl (hw _ (List.mem_of_getElem? (i := 16) rfl))) Via.refl e26 f_gradient (g := (mkF m 52 Ls24 [(.ref a), (.double z51), (.double z50)])) rfl rfl (hb hby dc_52)
  refine own_st st27 ?_
  show own_Win p e below s _ _ _ (T27.setTop (mkF m 55 Ls24 [(.ref rg), (.double z51), (.double z50)]))
  refine own_st (fun _ kz => XS.iconst X27.here hx rfl (hb hby dc_55) kz) ?_
  show own_Win p e below s _ _ _ (T27.setTop (mkF m 56 Ls24 [(.int (2 : Int32)), (.ref rg), (.double z51), (.double z50)]))
  refine own_st (fun _ kz => XS.iload X27.here hx rfl (v := (2 : Int32)) (hb hby dc_56) (by show Ls24[_]? = _; rw [hLs24]; rfl) kz) ?_
  show own_Win p e below s _ _ _ (T27.setTop (mkF m 58 Ls24 [(.int (2 : Int32)), (.int (2 : Int32)), (.ref rg), (.double z51), (.double z50)]))
  refine own_st (fun _ kz => XS.imul X27.here hx rfl (hb hby dc_58) rfl kz) ?_
  show own_Win p e below s _ _ _ (T27.setTop (mkF m 59 Ls24 [(.int ((2 : Int32) * (2 : Int32))), (.ref rg), (.double z51), (.double z50)]))
  show own_Win p e below s _ _ _ (T27.setTop (mkF m 59 Ls24 [(.int (4 : Int32)), (.ref rg), (.double z51), (.double z50)]))
  refine own_st (fun _ kz => XS.iconst X27.here hx rfl (hb hby dc_59) kz) ?_
  show own_Win p e below s _ _ _ (T27.setTop (mkF m 60 Ls24 [(.int (1 : Int32)), (.int (4 : Int32)), (.ref rg), (.double z51), (.double z50)]))
  refine own_st (fun _ kz => XS.iadd X27.here hx rfl (hb hby dc_60) rfl kz) ?_
  show own_Win p e below s _ _ _ (T27.setTop (mkF m 61 Ls24 [(.int ((4 : Int32) + (1 : Int32))), (.ref rg), (.double z51), (.double z50)]))
  show own_Win p e below s _ _ _ (T27.setTop (mkF m 61 Ls24 [(.int (5 : Int32)), (.ref rg), (.double z51), (.double z50)]))
  show own_Win p e below s _ _ _ (T27.setTop (mkF m 61 Ls24 [(.int (5 : Int32)), (.ref rg), (.double z51), (.double z50)]))
  refine own_daload X27 hx hZ e27 F_G (i := 5) rfl (by decide) (x := (fG 5)) rfl rfl rfl (hb hby dc_61) ?_
  show own_Win p e below s _ _ _ (T27.setTop (mkF m 62 Ls24 [(.double (fG 5)), (.double z51), (.double z50)]))
  refine own_st (fun _ kz => XS.dload X27.here hx rfl (v := (fY 5)) (hb hby dc_62) (by show Ls24[_]? = _; rw [hLs24]; rfl) kz) ?_
  show own_Win p e below s _ _ _ (T27.setTop (mkF m 64 Ls24 [(.double (fY 5)), (.double (fG 5)), (.double z51), (.double z50)]))
  obtain ⟨z52, hz52⟩ : ∃ z, (FP.dmul (fG 5) (fY 5)) = z := ⟨_, rfl⟩
  have dz52 := own_Nm nG5 nY5 (by decide)
  rw [hz52] at dz52
  refine own_st (fun _ kz => XS.dmulS X27.here hx rfl (hb hby dc_64) rfl (by rw [hz52]; exact own_Nn dz52) hz52 kz) ?_
  show own_Win p e below s _ _ _ (T27.setTop (mkF m 65 Ls24 [(.double z52), (.double z51), (.double z50)]))
  obtain ⟨z53, hz53⟩ : ∃ z, (FP.dadd z51 z52) = z := ⟨_, rfl⟩
  have dz53 := own_Na dz51 dz52 (by decide)
  rw [hz53] at dz53
  refine own_st (fun _ kz => XS.daddS X27.here hx rfl (hb hby dc_65) rfl (by rw [hz53]; exact own_Nn dz53) hz53 kz) ?_
  show own_Win p e below s _ _ _ (T27.setTop (mkF m 66 Ls24 [(.double z53), (.double z50)]))
  obtain ⟨z54, hz54⟩ : ∃ z, (FP.dadd z50 z53) = z := ⟨_, rfl⟩
  have dz54 := own_Ha dz50 (own_Nh dz53) (by decide)
  rw [hz54] at dz54
  refine own_st (fun _ kz => XS.daddS X27.here hx rfl (hb hby dc_66) rfl (by rw [hz54]; exact own_Hn dz54) hz54 kz) ?_
  show own_Win p e below s _ _ _ (T27.setTop (mkF m 67 Ls24 [(.double z54)]))
  obtain ⟨Ls25, hLs25⟩ : ∃ L : Array Slot, L = #[.val (.ref a), .val (.ref rs), .val (.double z54), .second, .val (.int (2 : Int32)), .val (.double (fY 4)), .second, .val (.double (fY 5)), .second, .val (.int (8 : Int32)), .val (.double (fY 4)), .second, .val (.double (fY 5)), .second] := ⟨_, rfl⟩
  refine own_st (fun _ kz => XS.dstoreN X27.here hx rfl (hb hby dc_67) rfl (l' := Ls25) (by show storeLocals Ls24 _ _ = _; rw [hLs24, hLs25]; rfl) kz) ?_
  show own_Win p e below s _ _ _ (T27.setTop (mkF m 68 Ls25 []))
  refine own_st (fun _ kz => XS.dloadN X27.here hx rfl (v := z54) (hb hby dc_68) (by show Ls25[_]? = _; rw [hLs25]; rfl) kz) ?_
  show own_Win p e below s _ _ _ (T27.setTop (mkF m 69 Ls25 [(.double z54)]))
  refine own_st (fun _ kz => XS.dload X27.here hx rfl (v := (fY 4)) (hb hby dc_69) (by show Ls25[_]? = _; rw [hLs25]; rfl) kz) ?_
  show own_Win p e below s _ _ _ (T27.setTop (mkF m 71 Ls25 [(.double (fY 4)), (.double z54)]))
  refine own_st (fun _ kz => XS.aloadN X27.here hx rfl (v := (.ref a)) (hb hby dc_71) (by show Ls25[_]? = _; rw [hLs25]; rfl) rfl kz) ?_
  show own_Win p e below s _ _ _ (T27.setTop (mkF m 72 Ls25 [(.ref a), (.double (fY 4)), (.double z54)]))
  obtain ⟨T28, X28, e28, st28⟩ := getF X27 hx hZ hown (host := "") (Or.inl (hw _ (List.mem_of_getElem? (i := 19) rfl))) Via.refl e27 f_blocks (g := (mkF m 72 Ls25 [(.ref a), (.double (fY 4)), (.double z54)])) rfl rfl (hb hby dc_72)
  refine own_st st28 ?_
  show own_Win p e below s _ _ _ (T28.setTop (mkF m 75 Ls25 [(.ref rb), (.double (fY 4)), (.double z54)]))
  refine own_st (fun _ kz => XS.iload X28.here hx rfl (v := (8 : Int32)) (hb hby dc_75) (by show Ls25[_]? = _; rw [hLs25]; rfl) kz) ?_
  show own_Win p e below s _ _ _ (T28.setTop (mkF m 77 Ls25 [(.int (8 : Int32)), (.ref rb), (.double (fY 4)), (.double z54)]))
  show own_Win p e below s _ _ _ (T28.setTop (mkF m 77 Ls25 [(.int (8 : Int32)), (.ref rb), (.double (fY 4)), (.double z54)]))
  refine own_daload X28 hx hZ e28 F_B (i := 8) rfl (by decide) (x := (fB 8)) rfl rfl rfl (hb hby dc_77) ?_
  show own_Win p e below s _ _ _ (T28.setTop (mkF m 78 Ls25 [(.double (fB 8)), (.double (fY 4)), (.double z54)]))
  refine own_st (fun _ kz => XS.dload X28.here hx rfl (v := (fY 4)) (hb hby dc_78) (by show Ls25[_]? = _; rw [hLs25]; rfl) kz) ?_
  show own_Win p e below s _ _ _ (T28.setTop (mkF m 80 Ls25 [(.double (fY 4)), (.double (fB 8)), (.double (fY 4)), (.double z54)]))
  obtain ⟨z55, hz55⟩ : ∃ z, (FP.dmul (fB 8) (fY 4)) = z := ⟨_, rfl⟩
  have dz55 := own_Nm nB8 nY4 (by decide)
  rw [hz55] at dz55
  refine own_st (fun _ kz => XS.dmulS X28.here hx rfl (hb hby dc_80) rfl (by rw [hz55]; exact own_Nn dz55) hz55 kz) ?_
  show own_Win p e below s _ _ _ (T28.setTop (mkF m 81 Ls25 [(.double z55), (.double (fY 4)), (.double z54)]))
  refine own_st (fun _ kz => XS.aloadN X28.here hx rfl (v := (.ref a)) (hb hby dc_81) (by show Ls25[_]? = _; rw [hLs25]; rfl) rfl kz) ?_
  show own_Win p e below s _ _ _ (T28.setTop (mkF m 82 Ls25 [(.ref a), (.double z55), (.double (fY 4)), (.double z54)]))
  obtain ⟨T29, X29, e29, st29⟩ := getF X28 hx hZ hown (host := "") (Or.inl (hw _ (List.mem_of_getElem? (i := 19) rfl))) Via.refl e28 f_blocks (g := (mkF m 82 Ls25 [(.ref a), (.double z55), (.double (fY 4)), (.double z54)])) rfl rfl (hb hby dc_82)
  refine own_st st29 ?_
  show own_Win p e below s _ _ _ (T29.setTop (mkF m 85 Ls25 [(.ref rb), (.double z55), (.double (fY 4)), (.double z54)]))
  refine own_st (fun _ kz => XS.iload X29.here hx rfl (v := (8 : Int32)) (hb hby dc_85) (by show Ls25[_]? = _; rw [hLs25]; rfl) kz) ?_
  show own_Win p e below s _ _ _ (T29.setTop (mkF m 87 Ls25 [(.int (8 : Int32)), (.ref rb), (.double z55), (.double (fY 4)), (.double z54)]))
  refine own_st (fun _ kz => XS.iconst X29.here hx rfl (hb hby dc_87) kz) ?_
  show own_Win p e below s _ _ _ (T29.setTop (mkF m 88 Ls25 [(.int (1 : Int32)), (.int (8 : Int32)), (.ref rb), (.double z55), (.double (fY 4)), (.double z54)]))
  refine own_st (fun _ kz => XS.iadd X29.here hx rfl (hb hby dc_88) rfl kz) ?_
  show own_Win p e below s _ _ _ (T29.setTop (mkF m 89 Ls25 [(.int ((8 : Int32) + (1 : Int32))), (.ref rb), (.double z55), (.double (fY 4)), (.double z54)]))
  show own_Win p e below s _ _ _ (T29.setTop (mkF m 89 Ls25 [(.int (9 : Int32)), (.ref rb), (.double z55), (.double (fY 4)), (.double z54)]))
  show own_Win p e below s _ _ _ (T29.setTop (mkF m 89 Ls25 [(.int (9 : Int32)), (.ref rb), (.double z55), (.double (fY 4)), (.double z54)]))
  refine own_daload X29 hx hZ e29 F_B (i := 9) rfl (by decide) (x := (fB 9)) rfl rfl rfl (hb hby dc_89) ?_
  show own_Win p e below s _ _ _ (T29.setTop (mkF m 90 Ls25 [(.double (fB 9)), (.double z55), (.double (fY 4)), (.double z54)]))
  refine own_st (fun _ kz => XS.dload X29.here hx rfl (v := (fY 5)) (hb hby dc_90) (by show Ls25[_]? = _; rw [hLs25]; rfl) kz) ?_
  show own_Win p e below s _ _ _ (T29.setTop (mkF m 92 Ls25 [(.double (fY 5)), (.double (fB 9)), (.double z55), (.double (fY 4)), (.double z54)]))
  obtain ⟨z56, hz56⟩ : ∃ z, (FP.dmul (fB 9) (fY 5)) = z := ⟨_, rfl⟩
  have dz56 := own_Nm nB9 nY5 (by decide)
  rw [hz56] at dz56
  refine own_st (fun _ kz => XS.dmulS X29.here hx rfl (hb hby dc_92) rfl (by rw [hz56]; exact own_Nn dz56) hz56 kz) ?_
  show own_Win p e below s _ _ _ (T29.setTop (mkF m 93 Ls25 [(.double z56), (.double z55), (.double (fY 4)), (.double z54)]))
  obtain ⟨z57, hz57⟩ : ∃ z, (FP.dadd z55 z56) = z := ⟨_, rfl⟩
  have dz57 := own_Na dz55 dz56 (by decide)
  rw [hz57] at dz57
  refine own_st (fun _ kz => XS.daddS X29.here hx rfl (hb hby dc_93) rfl (by rw [hz57]; exact own_Nn dz57) hz57 kz) ?_
  show own_Win p e below s _ _ _ (T29.setTop (mkF m 94 Ls25 [(.double z57), (.double (fY 4)), (.double z54)]))
  obtain ⟨z58, hz58⟩ : ∃ z, (FP.dmul (fY 4) z57) = z := ⟨_, rfl⟩
  have dz58 := own_Nm nY4 dz57 (by decide)
  rw [hz58] at dz58
  refine own_st (fun _ kz => XS.dmulS X29.here hx rfl (hb hby dc_94) rfl (by rw [hz58]; exact own_Nn dz58) hz58 kz) ?_
  show own_Win p e below s _ _ _ (T29.setTop (mkF m 95 Ls25 [(.double z58), (.double z54)]))
  refine own_st (fun _ kz => XS.dload X29.here hx rfl (v := (fY 5)) (hb hby dc_95) (by show Ls25[_]? = _; rw [hLs25]; rfl) kz) ?_
  show own_Win p e below s _ _ _ (T29.setTop (mkF m 97 Ls25 [(.double (fY 5)), (.double z58), (.double z54)]))
  refine own_st (fun _ kz => XS.aloadN X29.here hx rfl (v := (.ref a)) (hb hby dc_97) (by show Ls25[_]? = _; rw [hLs25]; rfl) rfl kz) ?_
  show own_Win p e below s _ _ _ (T29.setTop (mkF m 98 Ls25 [(.ref a), (.double (fY 5)), (.double z58), (.double z54)]))
  obtain ⟨T30, X30, e30, st30⟩ := getF X29 hx hZ hown (host := "") (Or.inl (hw _ (List.mem_of_getElem? (i := 19) rfl))) Via.refl e29 f_blocks (g := (mkF m 98 Ls25 [(.ref a), (.double (fY 5)), (.double z58), (.double z54)])) rfl rfl (hb hby dc_98)
  refine own_st st30 ?_
  show own_Win p e below s _ _ _ (T30.setTop (mkF m 101 Ls25 [(.ref rb), (.double (fY 5)), (.double z58), (.double z54)]))
  refine own_st (fun _ kz => XS.iload X30.here hx rfl (v := (8 : Int32)) (hb hby dc_101) (by show Ls25[_]? = _; rw [hLs25]; rfl) kz) ?_
  show own_Win p e below s _ _ _ (T30.setTop (mkF m 103 Ls25 [(.int (8 : Int32)), (.ref rb), (.double (fY 5)), (.double z58), (.double z54)]))
  refine own_st (fun _ kz => XS.iconst X30.here hx rfl (hb hby dc_103) kz) ?_
  show own_Win p e below s _ _ _ (T30.setTop (mkF m 104 Ls25 [(.int (2 : Int32)), (.int (8 : Int32)), (.ref rb), (.double (fY 5)), (.double z58), (.double z54)]))
  refine own_st (fun _ kz => XS.iadd X30.here hx rfl (hb hby dc_104) rfl kz) ?_
  show own_Win p e below s _ _ _ (T30.setTop (mkF m 105 Ls25 [(.int ((8 : Int32) + (2 : Int32))), (.ref rb), (.double (fY 5)), (.double z58), (.double z54)]))
  show own_Win p e below s _ _ _ (T30.setTop (mkF m 105 Ls25 [(.int (10 : Int32)), (.ref rb), (.double (fY 5)), (.double z58), (.double z54)]))
  show own_Win p e below s _ _ _ (T30.setTop (mkF m 105 Ls25 [(.int (10 : Int32)), (.ref rb), (.double (fY 5)), (.double z58), (.double z54)]))
  refine own_daload X30 hx hZ e30 F_B (i := 10) rfl (by decide) (x := (fB 10)) rfl rfl rfl (hb hby dc_105) ?_
  show own_Win p e below s _ _ _ (T30.setTop (mkF m 106 Ls25 [(.double (fB 10)), (.double (fY 5)), (.double z58), (.double z54)]))
  refine own_st (fun _ kz => XS.dload X30.here hx rfl (v := (fY 4)) (hb hby dc_106) (by show Ls25[_]? = _; rw [hLs25]; rfl) kz) ?_
  show own_Win p e below s _ _ _ (T30.setTop (mkF m 108 Ls25 [(.double (fY 4)), (.double (fB 10)), (.double (fY 5)), (.double z58), (.double z54)]))
  obtain ⟨z59, hz59⟩ : ∃ z, (FP.dmul (fB 10) (fY 4)) = z := ⟨_, rfl⟩
  have dz59 := own_Nm nB10 nY4 (by decide)
  rw [hz59] at dz59
  refine own_st (fun _ kz => XS.dmulS X30.here hx rfl (hb hby dc_108) rfl (by rw [hz59]; exact own_Nn dz59) hz59 kz) ?_
  show own_Win p e below s _ _ _ (T30.setTop (mkF m 109 Ls25 [(.double z59), (.double (fY 5)), (.double z58), (.double z54)]))
  refine own_st (fun _ kz => XS.aloadN X30.here hx rfl (v := (.ref a)) (hb hby dc_109) (by show Ls25[_]? = _; rw [hLs25]; rfl) rfl kz) ?_
  show own_Win p e below s _ _ _ (T30.setTop (mkF m 110 Ls25 [(.ref a), (.double z59), (.double (fY 5)), (.double z58), (.double z54)]))
  obtain ⟨T31, X31, e31, st31⟩ := getF X30 hx hZ hown (host := "") (Or.inl (hw _ (List.mem_of_getElem? (i := 19) rfl))) Via.refl e30 f_blocks (g := (mkF m 110 Ls25 [(.ref a), (.double z59), (.double (fY 5)), (.double z58), (.double z54)])) rfl rfl (hb hby dc_110)
  refine own_st st31 ?_
  show own_Win p e below s _ _ _ (T31.setTop (mkF m 113 Ls25 [(.ref rb), (.double z59), (.double (fY 5)), (.double z58), (.double z54)]))
  refine own_st (fun _ kz => XS.iload X31.here hx rfl (v := (8 : Int32)) (hb hby dc_113) (by show Ls25[_]? = _; rw [hLs25]; rfl) kz) ?_
  show own_Win p e below s _ _ _ (T31.setTop (mkF m 115 Ls25 [(.int (8 : Int32)), (.ref rb), (.double z59), (.double (fY 5)), (.double z58), (.double z54)]))
  refine own_st (fun _ kz => XS.iconst X31.here hx rfl (hb hby dc_115) kz) ?_
  show own_Win p e below s _ _ _ (T31.setTop (mkF m 116 Ls25 [(.int (3 : Int32)), (.int (8 : Int32)), (.ref rb), (.double z59), (.double (fY 5)), (.double z58), (.double z54)]))
  refine own_st (fun _ kz => XS.iadd X31.here hx rfl (hb hby dc_116) rfl kz) ?_
  show own_Win p e below s _ _ _ (T31.setTop (mkF m 117 Ls25 [(.int ((8 : Int32) + (3 : Int32))), (.ref rb), (.double z59), (.double (fY 5)), (.double z58), (.double z54)]))
  show own_Win p e below s _ _ _ (T31.setTop (mkF m 117 Ls25 [(.int (11 : Int32)), (.ref rb), (.double z59), (.double (fY 5)), (.double z58), (.double z54)]))
  show own_Win p e below s _ _ _ (T31.setTop (mkF m 117 Ls25 [(.int (11 : Int32)), (.ref rb), (.double z59), (.double (fY 5)), (.double z58), (.double z54)]))
  refine own_daload X31 hx hZ e31 F_B (i := 11) rfl (by decide) (x := (fB 11)) rfl rfl rfl (hb hby dc_117) ?_
  show own_Win p e below s _ _ _ (T31.setTop (mkF m 118 Ls25 [(.double (fB 11)), (.double z59), (.double (fY 5)), (.double z58), (.double z54)]))
  refine own_st (fun _ kz => XS.dload X31.here hx rfl (v := (fY 5)) (hb hby dc_118) (by show Ls25[_]? = _; rw [hLs25]; rfl) kz) ?_
  show own_Win p e below s _ _ _ (T31.setTop (mkF m 120 Ls25 [(.double (fY 5)), (.double (fB 11)), (.double z59), (.double (fY 5)), (.double z58), (.double z54)]))
  obtain ⟨z60, hz60⟩ : ∃ z, (FP.dmul (fB 11) (fY 5)) = z := ⟨_, rfl⟩
  have dz60 := own_Nm nB11 nY5 (by decide)
  rw [hz60] at dz60
  refine own_st (fun _ kz => XS.dmulS X31.here hx rfl (hb hby dc_120) rfl (by rw [hz60]; exact own_Nn dz60) hz60 kz) ?_
  show own_Win p e below s _ _ _ (T31.setTop (mkF m 121 Ls25 [(.double z60), (.double z59), (.double (fY 5)), (.double z58), (.double z54)]))
  obtain ⟨z61, hz61⟩ : ∃ z, (FP.dadd z59 z60) = z := ⟨_, rfl⟩
  have dz61 := own_Na dz59 dz60 (by decide)
  rw [hz61] at dz61
  refine own_st (fun _ kz => XS.daddS X31.here hx rfl (hb hby dc_121) rfl (by rw [hz61]; exact own_Nn dz61) hz61 kz) ?_
  show own_Win p e below s _ _ _ (T31.setTop (mkF m 122 Ls25 [(.double z61), (.double (fY 5)), (.double z58), (.double z54)]))
  obtain ⟨z62, hz62⟩ : ∃ z, (FP.dmul (fY 5) z61) = z := ⟨_, rfl⟩
  have dz62 := own_Nm nY5 dz61 (by decide)
  rw [hz62] at dz62
  refine own_st (fun _ kz => XS.dmulS X31.here hx rfl (hb hby dc_122) rfl (by rw [hz62]; exact own_Nn dz62) hz62 kz) ?_
  show own_Win p e below s _ _ _ (T31.setTop (mkF m 123 Ls25 [(.double z62), (.double z58), (.double z54)]))
  obtain ⟨z63, hz63⟩ : ∃ z, (FP.dadd z58 z62) = z := ⟨_, rfl⟩
  have dz63 := own_Na dz58 dz62 (by decide)
  rw [hz63] at dz63
  refine own_st (fun _ kz => XS.daddS X31.here hx rfl (hb hby dc_123) rfl (by rw [hz63]; exact own_Nn dz63) hz63 kz) ?_
  show own_Win p e below s _ _ _ (T31.setTop (mkF m 124 Ls25 [(.double z63), (.double z54)]))
  refine own_st (fun tz kz => X31.ldc2DoubleC hx hown (mvT hZ (hw _ (List.mem_of_getElem? (i := 44) rfl))) (g := (mkF m 124 Ls25 [(.double z63), (.double z54)])) rfl (hb hby dc_124) tz kz) ?_
  show own_Win p e below s _ _ _ (T31.setTop (mkF m 127 Ls25 [(.double (4611686018427387904 : UInt64)), (.double z63), (.double z54)]))
  obtain ⟨z64, hz64⟩ : ∃ z, (FP.ddiv z63 (4611686018427387904 : UInt64)) = z := ⟨_, rfl⟩
  have dz64 := own_Hd dz63 (by decide)
  rw [hz64] at dz64
  refine own_st (fun _ kz => XS.ddivS X31.here hx rfl (hb hby dc_127) rfl (by rw [hz64]; exact own_Hn dz64) hz64 kz) ?_
  show own_Win p e below s _ _ _ (T31.setTop (mkF m 128 Ls25 [(.double z64), (.double z54)]))
  obtain ⟨z65, hz65⟩ : ∃ z, (FP.dadd z54 z64) = z := ⟨_, rfl⟩
  have dz65 := own_Ha dz54 dz64 (by decide)
  rw [hz65] at dz65
  refine own_st (fun _ kz => XS.daddS X31.here hx rfl (hb hby dc_128) rfl (by rw [hz65]; exact own_Hn dz65) hz65 kz) ?_
  show own_Win p e below s _ _ _ (T31.setTop (mkF m 129 Ls25 [(.double z65)]))
  obtain ⟨Ls26, hLs26⟩ : ∃ L : Array Slot, L = #[.val (.ref a), .val (.ref rs), .val (.double z65), .second, .val (.int (2 : Int32)), .val (.double (fY 4)), .second, .val (.double (fY 5)), .second, .val (.int (8 : Int32)), .val (.double (fY 4)), .second, .val (.double (fY 5)), .second] := ⟨_, rfl⟩
  refine own_st (fun _ kz => XS.dstoreN X31.here hx rfl (hb hby dc_129) rfl (l' := Ls26) (by show storeLocals Ls25 _ _ = _; rw [hLs25, hLs26]; rfl) kz) ?_
  show own_Win p e below s _ _ _ (T31.setTop (mkF m 130 Ls26 []))
  refine own_st (fun _ kz => XS.iload X31.here hx rfl (v := (2 : Int32)) (hb hby dc_130) (by show Ls26[_]? = _; rw [hLs26]; rfl) kz) ?_
  show own_Win p e below s _ _ _ (T31.setTop (mkF m 132 Ls26 [(.int (2 : Int32))]))
  refine own_st (fun _ kz => XS.iconst X31.here hx rfl (hb hby dc_132) kz) ?_
  show own_Win p e below s _ _ _ (T31.setTop (mkF m 133 Ls26 [(.int (1 : Int32)), (.int (2 : Int32))]))
  refine own_st (fun _ kz => XS.iadd X31.here hx rfl (hb hby dc_133) rfl kz) ?_
  show own_Win p e below s _ _ _ (T31.setTop (mkF m 134 Ls26 [(.int ((2 : Int32) + (1 : Int32)))]))
  show own_Win p e below s _ _ _ (T31.setTop (mkF m 134 Ls26 [(.int (3 : Int32))]))
  refine own_st (fun _ kz => XS.aloadN X31.here hx rfl (v := (.ref a)) (hb hby dc_134) (by show Ls26[_]? = _; rw [hLs26]; rfl) rfl kz) ?_
  show own_Win p e below s _ _ _ (T31.setTop (mkF m 135 Ls26 [(.ref a), (.int (3 : Int32))]))
  obtain ⟨T32, X32, e32, st32⟩ := getF X31 hx hZ hown (host := "") (Or.inl (hw _ (List.mem_of_getElem? (i := 14) rfl))) Via.refl e31 f_points (g := (mkF m 135 Ls26 [(.ref a), (.int (3 : Int32))])) rfl rfl (hb hby dc_135)
  refine own_st st32 ?_
  show own_Win p e below s _ _ _ (T32.setTop (mkF m 138 Ls26 [(.int (3 : Int32)), (.int (3 : Int32))]))
  refine own_st (fun _ kz => XS.icmpYes X32.here hx rfl (pc0 := 138) (pc' := 219) rfl (hb hby dc_138) rfl (by decide) (by decide) (by decide) kz) ?_
  show own_Win p e below s _ _ _ (T32.setTop (mkF m 219 Ls26 []))
  obtain ⟨Ls27, hLs27⟩ : ∃ L : Array Slot, L = #[.val (.ref a), .val (.ref rs), .val (.double z65), .second, .val (.int (3 : Int32)), .val (.double (fY 4)), .second, .val (.double (fY 5)), .second, .val (.int (8 : Int32)), .val (.double (fY 4)), .second, .val (.double (fY 5)), .second] := ⟨_, rfl⟩
  refine own_st (fun _ kz => XS.iinc X32.here hx rfl (x := (2 : Int32)) (hb hby dc_219) (by show Ls26[_]? = _; rw [hLs26]; rfl) (l' := Ls27) (by show storeLocals Ls26 _ _ = _; rw [hLs26, hLs27]; rfl) kz) ?_
  show own_Win p e below s _ _ _ (T32.setTop (mkF m 222 Ls27 []))
  refine own_st (fun _ kz => XS.goto X32.here hx rfl (pc0 := 222) (pc' := 5) rfl (hb hby dc_222) (by decide) (by decide) kz) ?_
  show own_Win p e below s _ _ _ (T32.setTop (mkF m 5 Ls27 []))
  refine own_st (fun _ kz => XS.iload X32.here hx rfl (v := (3 : Int32)) (hb hby dc_5) (by show Ls27[_]? = _; rw [hLs27]; rfl) kz) ?_
  show own_Win p e below s _ _ _ (T32.setTop (mkF m 7 Ls27 [(.int (3 : Int32))]))
  refine own_st (fun _ kz => XS.aloadN X32.here hx rfl (v := (.ref a)) (hb hby dc_7) (by show Ls27[_]? = _; rw [hLs27]; rfl) rfl kz) ?_
  show own_Win p e below s _ _ _ (T32.setTop (mkF m 8 Ls27 [(.ref a), (.int (3 : Int32))]))
  obtain ⟨T33, X33, e33, st33⟩ := getF X32 hx hZ hown (host := "") (Or.inl (hw _ (List.mem_of_getElem? (i := 14) rfl))) Via.refl e32 f_points (g := (mkF m 8 Ls27 [(.ref a), (.int (3 : Int32))])) rfl rfl (hb hby dc_8)
  refine own_st st33 ?_
  show own_Win p e below s _ _ _ (T33.setTop (mkF m 11 Ls27 [(.int (3 : Int32)), (.int (3 : Int32))]))
  refine own_st (fun _ kz => XS.icmpYes X33.here hx rfl (pc0 := 11) (pc' := 225) rfl (hb hby dc_11) rfl (by decide) (by decide) (by decide) kz) ?_
  show own_Win p e below s _ _ _ (T33.setTop (mkF m 225 Ls27 []))
  refine own_st (fun _ kz => XS.dloadN X33.here hx rfl (v := z65) (hb hby dc_225) (by show Ls27[_]? = _; rw [hLs27]; rfl) kz) ?_
  show own_Win p e below s _ _ _ (T33.setTop (mkF m 226 Ls27 [(.double z65)]))
  exact own_ret X33 hx hlk Bd.returns rfl (Or.inr (Or.inr (Or.inl ⟨rfl, rfl, _, rfl⟩))) (hb hby dc_226) ⟨_, rfl, N0, e33, dz65⟩ (Nat.le_refl _) (Nat.le_refl _)
def Q_rm0 (Z : State) (p1 p2 p3 p4 p5 : Int64) (p6 : Int32) (h0 : Heap) (n0 : Nat) : Option Value → Heap → List Loc → Prop := fun v h L => v = some (.int 1) ∧ Fr n0 L
set_option maxRecDepth 65536 in
set_option maxHeartbeats 40000000 in
theorem rm0 (l : Launch) (Z : State) (a0 : Array Value) (hw : ∀ d ∈ tables_1, d.before a0 Z = true) (ws : List Jvm.Cond) (p1 p2 p3 p4 p5 : Int64) (p6 : Int32) (h0 : Heap) (n0 : Nat) (Z0 : n0 ≤ h0.size)  :
    MetFree l x (head1 (Jvm.Cond.code x code maxLocals ret :: ws) room_1) (fun az Uz => az = #[(.long p1), (.long p2), (.long p3), (.long p4), (.long p5), (.int p6)] ∧ Z.Warmed39 Uz.vm ∧ Uz.heap = h0) (fun _ _ _ _ _ => True) (fun _ Uz oz Vz => ∃ vz Lz, oz = .returned vz ∧ (Q_rm0 Z p1 p2 p3 p4 p5 p6 h0 n0) vz Vz.heap Lz ∧ FrameEnd Uz oz Vz Lz room_1.cells room_1.slots) := by
  refine MetFree.of_bodySF (plainFor_of_name pnL) hisR ?_
  intro p e s m args below meth c s₁ Bd hml0 hP hK
  obtain ⟨rfl, hZ, hh⟩ := hP
  have hx := Bd.exec
  have hby := Bd.bytes
  have hlk := BodyLoose.notSynchronized Bd
  have hml : c.maxLocals = maxLocals := hml0
  have hown : s.vm.findClass "com/example/mantleray/mantleray/QuadraticModelChangePinLaw" = some m.cls := findClass_of_methodNamed Bd.named
  have hnm := (name_of_methodNamed Bd.named Bd.method).1
  have X0 : Stand p l e room_1 s m #[(.long p1), (.long p2), (.long p3), (.long p4), (.long p5), (.int p6)] below meth c s₁ [] 0 0 := Stand.of_body Bd
  have e0 : s₁.heap = h0 := by rw [← hh, Bd.state]; rfl
  have N0 := Fr.nil n0
  show own_Win p e below s (Q_rm0 Z p1 p2 p3 p4 p5 p6 h0 n0) _ _ _
  refine own_st (fun tz kz => castTop (efL m p1 p2 p3 p4 p5 p6) kz) ?_
  obtain ⟨g0, G0, hg0, ng0⟩ := own_vx p1 (0 : Int32)
  obtain ⟨g1, G1, hg1, ng1⟩ := own_vx p1 (1 : Int32)
  obtain ⟨g2, G2, hg2, ng2⟩ := own_vx p1 (2 : Int32)
  obtain ⟨g3, G3, hg3, ng3⟩ := own_vx p1 (3 : Int32)
  obtain ⟨g4, G4, hg4, ng4⟩ := own_vx p1 (4 : Int32)
  obtain ⟨g5, G5, hg5, ng5⟩ := own_vx p1 (5 : Int32)
  obtain ⟨y0, Y0, hy0, ny0⟩ := own_vx p2 (0 : Int32)
  obtain ⟨y1, Y1, hy1, ny1⟩ := own_vx p2 (1 : Int32)
  obtain ⟨y2, Y2, hy2, ny2⟩ := own_vx p2 (2 : Int32)
  obtain ⟨y3, Y3, hy3, ny3⟩ := own_vx p2 (3 : Int32)
  obtain ⟨y4, Y4, hy4, ny4⟩ := own_vx p2 (4 : Int32)
  obtain ⟨y5, Y5, hy5, ny5⟩ := own_vx p2 (5 : Int32)
  obtain ⟨b0, B0, hb0, nb0⟩ := own_vx p3 (0 : Int32)
  obtain ⟨b1, B1, hb1, nb1⟩ := own_vx p3 (1 : Int32)
  obtain ⟨b2, B2, hb2, nb2⟩ := own_vx p3 (2 : Int32)
  obtain ⟨b3, B3, hb3, nb3⟩ := own_vx p3 (3 : Int32)
  obtain ⟨b4, B4, hb4, nb4⟩ := own_vx p3 (4 : Int32)
  obtain ⟨b5, B5, hb5, nb5⟩ := own_vx p3 (5 : Int32)
  obtain ⟨b6, B6, hb6, nb6⟩ := own_vx p3 (6 : Int32)
  obtain ⟨b7, B7, hb7, nb7⟩ := own_vx p3 (7 : Int32)
  obtain ⟨c0, C0, hc0, nc0⟩ := own_vx p5 (0 : Int32)
  obtain ⟨c1, C1, hc1, nc1⟩ := own_vx p5 (1 : Int32)
  obtain ⟨c2, C2, hc2, nc2⟩ := own_vx p5 (2 : Int32)
  obtain ⟨c3, C3, hc3, nc3⟩ := own_vx p5 (3 : Int32)
  obtain ⟨c4, C4, hc4, nc4⟩ := own_vx p5 (4 : Int32)
  obtain ⟨c5, C5, hc5, nc5⟩ := own_vx p5 (5 : Int32)
  obtain ⟨c6, C6, hc6, nc6⟩ := own_vx p5 (6 : Int32)
  obtain ⟨c7, C7, hc7, nc7⟩ := own_vx p5 (7 : Int32)
  obtain ⟨b8, B8, hb8, nb8⟩ := own_vx p4 (0 : Int32)
  obtain ⟨b9, B9, hb9, nb9⟩ := own_vx p4 (1 : Int32)
  obtain ⟨b10, B10, hb10, nb10⟩ := own_vx p4 (2 : Int32)
  obtain ⟨b11, B11, hb11, nb11⟩ := own_vx p4 (3 : Int32)
  obtain ⟨c8, C8, hc8, nc8⟩ := own_vx p4 (4 : Int32)
  obtain ⟨c9, C9, hc9, nc9⟩ := own_vx p4 (5 : Int32)
  obtain ⟨c10, C10, hc10, nc10⟩ := own_vx p4 (6 : Int32)
  obtain ⟨c11, C11, hc11, nc11⟩ := own_vx p4 (7 : Int32)
  show own_Win p e below s _ _ _ (s₁.setTop (mkF m 0 #[.val (.long p1), .second, .val (.long p2), .second, .val (.long p3), .second, .val (.long p4), .second, .val (.long p5), .second, .val (.int p6), .unset, .unset, .unset, .unset, .unset, .unset, .unset, .unset, .unset, .unset, .unset, .unset, .unset, .unset, .unset, .unset, .unset, .unset, .unset, .unset, .unset, .unset, .unset, .unset, .unset, .unset, .unset, .unset, .unset, .unset, .unset, .unset, .unset, .unset, .unset, .unset, .unset, .unset, .unset, .unset, .unset, .unset, .unset, .unset, .unset, .unset, .unset, .unset, .unset, .unset, .unset, .unset, .unset, .unset, .unset, .unset, .unset, .unset, .unset, .unset, .unset, .unset, .unset, .unset, .unset, .unset, .unset, .unset, .unset, .unset, .unset, .unset, .unset, .unset, .unset, .unset, .unset, .unset] []))
  obtain ⟨Ls1, hLs1⟩ : ∃ L : Array Slot, L = #[.val (.long p1), .second, .val (.long p2), .second, .val (.long p3), .second, .val (.long p4), .second, .val (.long p5), .second, .val (.int p6), .unset, .unset, .unset, .unset, .unset, .unset, .unset, .unset, .unset, .unset, .unset, .unset, .unset, .unset, .unset, .unset, .unset, .unset, .unset, .unset, .unset, .unset, .unset, .unset, .unset, .unset, .unset, .unset, .unset, .unset, .unset, .unset, .unset, .unset, .unset, .unset, .unset, .unset, .unset, .unset, .unset, .unset, .unset, .unset, .unset, .unset, .unset, .unset, .unset, .unset, .unset, .unset, .unset, .unset, .unset, .unset, .unset, .unset, .unset, .unset, .unset, .unset, .unset, .unset, .unset, .unset, .unset, .unset, .unset, .unset, .unset, .unset, .unset, .unset, .unset, .unset, .unset, .unset] := ⟨_, rfl⟩
  rw [← hLs1]
  show own_Win p e below s _ _ _ (s₁.setTop (mkF m 0 Ls1 []))
  refine own_st (fun _ kz => XS.iload X0.here hx rfl (v := p6) (hb hby at_0) (by show Ls1[_]? = _; rw [hLs1]; rfl) kz) ?_
  show own_Win p e below s _ _ _ (s₁.setTop (mkF m 2 Ls1 [(.int p6)]))
  refine own_st (fun _ kz => XS.iconst X0.here hx rfl (hb hby at_2) kz) ?_
  show own_Win p e below s _ _ _ (s₁.setTop (mkF m 3 Ls1 [(.int (3 : Int32)), (.int p6)]))
  refine own_st (fun _ kz => XS.iand X0.here hx rfl (hb hby at_3) rfl kz) ?_
  show own_Win p e below s _ _ _ (s₁.setTop (mkF m 4 Ls1 [(.int (p6 &&& (3 : Int32)))]))
  have hn := own_n p6
  generalize hpv : (p6 &&& (3 : Int32)) = pv at hn ⊢
  show own_Win p e below s _ _ _ (s₁.setTop (mkF m 4 Ls1 [(.int pv)]))
  obtain ⟨Ls2, hLs2⟩ : ∃ L : Array Slot, L = #[.val (.long p1), .second, .val (.long p2), .second, .val (.long p3), .second, .val (.long p4), .second, .val (.long p5), .second, .val (.int p6), .val (.int pv), .unset, .unset, .unset, .unset, .unset, .unset, .unset, .unset, .unset, .unset, .unset, .unset, .unset, .unset, .unset, .unset, .unset, .unset, .unset, .unset, .unset, .unset, .unset, .unset, .unset, .unset, .unset, .unset, .unset, .unset, .unset, .unset, .unset, .unset, .unset, .unset, .unset, .unset, .unset, .unset, .unset, .unset, .unset, .unset, .unset, .unset, .unset, .unset, .unset, .unset, .unset, .unset, .unset, .unset, .unset, .unset, .unset, .unset, .unset, .unset, .unset, .unset, .unset, .unset, .unset, .unset, .unset, .unset, .unset, .unset, .unset, .unset, .unset, .unset, .unset, .unset, .unset] := ⟨_, rfl⟩
  refine own_st (fun _ kz => XS.istore X0.here hx rfl (hb hby at_4) rfl (l' := Ls2) (by show storeLocals Ls1 _ _ = _; rw [hLs1, hLs2]; rfl) kz) ?_
  show own_Win p e below s _ _ _ (s₁.setTop (mkF m 6 Ls2 []))
  obtain ⟨T1, h1, X1, e1, E1, A1, D1, -, st1⟩ := newO X0 hx hZ hown (hw _ (List.mem_of_getElem? (i := 0) rfl)) (hw _ (List.mem_of_getElem? (i := 1) rfl)) (hw _ (List.mem_of_getElem? (i := 2) rfl)) e0 (g := (mkF m 6 Ls2 [])) rfl (hb hby at_6) (by decide) (by decide)
  obtain ⟨am, gm⟩ : ∃ z, z = h0.size := ⟨_, rfl⟩
  rw [← gm] at A1 D1 st1
  refine own_st st1 ?_
  have Z1 : n0 ≤ h1.size := Nat.le_trans Z0 E1.1
  have q_am : n0 ≤ am := by rw [gm]; exact Z0
  have f1_points : Fld Z h1 am "com/example/mantleray/mantleray/QuadraticModel" "points" "I" (.int (0 : Int32)) := D1 (Or.inl (hw _ (List.mem_of_getElem? (i := 15) rfl))) (ty := .int) (by decide)
  have f1_gradient : Fld Z h1 am "com/example/mantleray/mantleray/QuadraticModel" "gradient" "[D" .null := D1 (Or.inl (hw _ (List.mem_of_getElem? (i := 17) rfl))) (ty := (.array .double)) (by decide)
  have f1_blocks : Fld Z h1 am "com/example/mantleray/mantleray/QuadraticModel" "blocks" "[D" .null := D1 (Or.inl (hw _ (List.mem_of_getElem? (i := 20) rfl))) (ty := (.array .double)) (by decide)
  have f1_coupling : Fld Z h1 am "com/example/mantleray/mantleray/QuadraticModel" "coupling" "[D" .null := D1 (Or.inl (hw _ (List.mem_of_getElem? (i := 22) rfl))) (ty := (.array .double)) (by decide)
  have f1_inverses : Fld Z h1 am "com/example/mantleray/mantleray/QuadraticModel" "inverses" "[D" .null := D1 (Or.inl (hw _ (List.mem_of_getElem? (i := 24) rfl))) (ty := (.array .double)) (by decide)
  have f1_best : Fld Z h1 am "com/example/mantleray/mantleray/QuadraticModel" "best" "[D" .null := D1 (Or.inl (hw _ (List.mem_of_getElem? (i := 26) rfl))) (ty := (.array .double)) (by decide)
  have f1_candidate : Fld Z h1 am "com/example/mantleray/mantleray/QuadraticModel" "candidate" "[D" .null := D1 (Or.inl (hw _ (List.mem_of_getElem? (i := 28) rfl))) (ty := (.array .double)) (by decide)
  have f1_solution : Fld Z h1 am "com/example/mantleray/mantleray/QuadraticModel" "solution" "[D" .null := D1 (Or.inl (hw _ (List.mem_of_getElem? (i := 30) rfl))) (ty := (.array .double)) (by decide)
  show own_Win p e below s _ _ _ (T1.setTop (mkF m 9 Ls2 [(.ref am)]))
  refine own_st (fun _ kz => XS.dup X1.here hx rfl (hb hby at_9) rfl rfl kz) ?_
  show own_Win p e below s _ _ _ (T1.setTop (mkF m 10 Ls2 [(.ref am), (.ref am)]))
  refine own_callI X1 hx hZ (y := yI) rfl hown (hw _ (List.mem_of_getElem? (i := 3) rfl)) (hw _ (List.mem_of_getElem? (i := 4) rfl)) (hw _ (List.mem_of_getElem? (i := 5) rfl)) (hw _ (List.mem_of_getElem? (i := 2) rfl)) (by decide) e1 (a := am) (rmI l Z a0 hw [] am h1 n0 Z1 A1 q_am f1_points f1_gradient f1_blocks f1_coupling f1_inverses f1_best f1_candidate f1_solution) (by decide) (W := 1) (by decide) rfl (by rw [hml]; show Ls2.size = _; rw [hLs2]; rfl) (argsL := []) (rest := [(.ref am)]) (lenOf pdI rfl) rfl (Nat.le_of_eq rfl) (hb hby at_10) rfl (by decide) (by decide) ?_
  intro T2 v2 L2 X2 hQ2
  obtain ⟨h2, e2⟩ : ∃ z, T2.heap = z := ⟨_, rfl⟩
  rw [e2] at hQ2
  obtain ⟨rfl, M2, K2, E2, r_gradient, r_blocks, r_coupling, r_inverses, r_best, r_candidate, r_solution, b_points, b_gradient, b_blocks, b_coupling, b_inverses, b_best, b_candidate, b_solution, FO2⟩ := hQ2
  have N2 := Fr.app N0 M2
  have Z2 : n0 ≤ h2.size := Nat.le_trans Z1 K2.1
  show own_Win p e below s _ _ _ (T2.setTop (mkF m 13 Ls2 [(.ref am)]))
  obtain ⟨Ls3, hLs3⟩ : ∃ L : Array Slot, L = #[.val (.long p1), .second, .val (.long p2), .second, .val (.long p3), .second, .val (.long p4), .second, .val (.long p5), .second, .val (.int p6), .val (.int pv), .val (.ref am), .unset, .unset, .unset, .unset, .unset, .unset, .unset, .unset, .unset, .unset, .unset, .unset, .unset, .unset, .unset, .unset, .unset, .unset, .unset, .unset, .unset, .unset, .unset, .unset, .unset, .unset, .unset, .unset, .unset, .unset, .unset, .unset, .unset, .unset, .unset, .unset, .unset, .unset, .unset, .unset, .unset, .unset, .unset, .unset, .unset, .unset, .unset, .unset, .unset, .unset, .unset, .unset, .unset, .unset, .unset, .unset, .unset, .unset, .unset, .unset, .unset, .unset, .unset, .unset, .unset, .unset, .unset, .unset, .unset, .unset, .unset, .unset, .unset, .unset, .unset, .unset] := ⟨_, rfl⟩
  refine own_st (fun _ kz => XS.astore X2.here hx rfl (hb hby at_13) rfl rfl (l' := Ls3) (by show storeLocals Ls2 _ _ = _; rw [hLs2, hLs3]; rfl) kz) ?_
  show own_Win p e below s _ _ _ (T2.setTop (mkF m 15 Ls3 []))
  refine own_st (fun _ kz => XS.aload X2.here hx rfl (v := (.ref am)) (hb hby at_15) (by show Ls3[_]? = _; rw [hLs3]; rfl) rfl kz) ?_
  show own_Win p e below s _ _ _ (T2.setTop (mkF m 17 Ls3 [(.ref am)]))
  refine own_st (fun _ kz => XS.iconst X2.here hx rfl (hb hby at_17) kz) ?_
  show own_Win p e below s _ _ _ (T2.setTop (mkF m 18 Ls3 [(.int (3 : Int32)), (.ref am)]))
  refine own_callV X2 hx hZ hown (C := "com/example/mantleray/mantleray/QuadraticModel") (y := yR) (hw _ (List.mem_of_getElem? (i := 31) rfl)) (hw _ (List.mem_of_getElem? (i := 10) rfl)) (hw _ (List.mem_of_getElem? (i := 12) rfl)) (hw _ (List.mem_of_getElem? (i := 11) rfl)) (hw _ (List.mem_of_getElem? (i := 13) rfl)) (hw _ (List.mem_of_getElem? (i := 2) rfl)) (by decide) e2 E2 (rmR3 l Z a0 hw [] am r_gradient r_blocks r_coupling r_inverses r_best r_candidate r_solution h2 n0 Z2 E2 q_am b_points b_gradient b_blocks b_coupling b_inverses b_best b_candidate b_solution FO2) (by decide) (W := 0) (by decide) rfl (by rw [hml]; show Ls3.size = _; rw [hLs3]; rfl) (argsL := [.int (3 : Int32)]) (rest := []) (lenOf pdR rfl) rfl (Nat.le_of_eq rfl) (hb hby at_18) rfl (by decide) (by decide) ?_
  intro T3 v3 L3 X3 hQ3
  obtain ⟨h3, e3⟩ : ∃ z, T3.heap = z := ⟨_, rfl⟩
  rw [e3] at hQ3
  obtain ⟨rfl, M3, K3, E3, rg, rb, rc, s_1, s_2, s_3, s_4, d_points, d_gradient, d_blocks, d_coupling, -, -, -, -, F_G, F_B, F_C, q_rg, q_rb, q_rc, ne_gb, ne_gc, ne_bc, ne_ag, ne_ab, ne_ac⟩ := hQ3
  have N3 := Fr.app N2 M3
  have Z3 : n0 ≤ h3.size := Nat.le_trans Z2 K3.1
  show own_Win p e below s _ _ _ (T3.setTop (mkF m 21 Ls3 []))
  refine own_st (fun _ kz => XS.aload X3.here hx rfl (v := (.ref am)) (hb hby at_21) (by show Ls3[_]? = _; rw [hLs3]; rfl) rfl kz) ?_
  show own_Win p e below s _ _ _ (T3.setTop (mkF m 23 Ls3 [(.ref am)]))
  refine own_st (fun _ kz => XS.iload X3.here hx rfl (v := pv) (hb hby at_23) (by show Ls3[_]? = _; rw [hLs3]; rfl) kz) ?_
  show own_Win p e below s _ _ _ (T3.setTop (mkF m 25 Ls3 [(.int pv), (.ref am)]))
  obtain ⟨N, hN, NB3⟩ : ∃ N : Nat, pv.toInt = (N : Int) ∧ N ≤ 3 := by
    rcases hn with q | q | q | q
    · exact ⟨0, by rw [q]; rfl, by decide⟩
    · exact ⟨1, by rw [q]; rfl, by decide⟩
    · exact ⟨2, by rw [q]; rfl, by decide⟩
    · exact ⟨3, by rw [q]; rfl, by decide⟩
  refine own_callV X3 hx hZ hown (C := "com/example/mantleray/mantleray/QuadraticModel") (y := yR) (hw _ (List.mem_of_getElem? (i := 31) rfl)) (hw _ (List.mem_of_getElem? (i := 10) rfl)) (hw _ (List.mem_of_getElem? (i := 12) rfl)) (hw _ (List.mem_of_getElem? (i := 11) rfl)) (hw _ (List.mem_of_getElem? (i := 13) rfl)) (hw _ (List.mem_of_getElem? (i := 2) rfl)) (by decide) e3 E3 (rmRN l Z a0 hw [] am rg rb rc pv N (fun _ => 0) h3 n0 Z3 E3 q_am hN NB3 d_points d_gradient d_blocks d_coupling F_G) (by decide) (W := 0) (by decide) rfl (by rw [hml]; show Ls3.size = _; rw [hLs3]; rfl) (argsL := [.int pv]) (rest := []) (lenOf pdR rfl) rfl (Nat.le_of_eq rfl) (hb hby at_25) rfl (by decide) (by decide) ?_
  intro T4 v4 L4 X4 hQ4
  obtain ⟨h4, e4⟩ : ∃ z, T4.heap = z := ⟨_, rfl⟩
  rw [e4] at hQ4
  obtain ⟨rfl, M4, K4, f_points, f_gradient, f_blocks, f_coupling⟩ := hQ4
  have N4 := Fr.app N3 M4
  have Z4 : n0 ≤ h4.size := Nat.le_trans Z3 K4.1
  have E4 : Exa Z h4 am "com/example/mantleray/mantleray/QuadraticModel" := E3.keep K4
  have F4_G : own_Da Z h4 rg 6 (fun _ => 0) := own_Av.keep K4 F_G (ninS (Ne.symm ne_ag) nin0)
  have F4_B : own_Da Z h4 rb 12 (fun _ => 0) := own_Av.keep K4 F_B (ninS (Ne.symm ne_ab) nin0)
  have F4_C : own_Da Z h4 rc 12 (fun _ => 0) := own_Av.keep K4 F_C (ninS (Ne.symm ne_ac) nin0)
  show own_Win p e below s _ _ _ (T4.setTop (mkF m 28 Ls3 []))
  refine own_st (fun _ kz => XS.aload X4.here hx rfl (v := (.ref am)) (hb hby at_28) (by show Ls3[_]? = _; rw [hLs3]; rfl) rfl kz) ?_
  show own_Win p e below s _ _ _ (T4.setTop (mkF m 30 Ls3 [(.ref am)]))
  obtain ⟨T5, X5, e5, st5⟩ := getF X4 hx hZ hown (host := "") (Or.inl (hw _ (List.mem_of_getElem? (i := 32) rfl))) Via.refl e4 f_gradient (g := (mkF m 30 Ls3 [(.ref am)])) rfl rfl (hb hby at_30)
  refine own_st st5 ?_
  show own_Win p e below s _ _ _ (T5.setTop (mkF m 33 Ls3 [(.ref rg)]))
  obtain ⟨Ls4, hLs4⟩ : ∃ L : Array Slot, L = #[.val (.long p1), .second, .val (.long p2), .second, .val (.long p3), .second, .val (.long p4), .second, .val (.long p5), .second, .val (.int p6), .val (.int pv), .val (.ref am), .val (.ref rg), .unset, .unset, .unset, .unset, .unset, .unset, .unset, .unset, .unset, .unset, .unset, .unset, .unset, .unset, .unset, .unset, .unset, .unset, .unset, .unset, .unset, .unset, .unset, .unset, .unset, .unset, .unset, .unset, .unset, .unset, .unset, .unset, .unset, .unset, .unset, .unset, .unset, .unset, .unset, .unset, .unset, .unset, .unset, .unset, .unset, .unset, .unset, .unset, .unset, .unset, .unset, .unset, .unset, .unset, .unset, .unset, .unset, .unset, .unset, .unset, .unset, .unset, .unset, .unset, .unset, .unset, .unset, .unset, .unset, .unset, .unset, .unset, .unset, .unset, .unset] := ⟨_, rfl⟩
  refine own_st (fun _ kz => XS.astore X5.here hx rfl (hb hby at_33) rfl rfl (l' := Ls4) (by show storeLocals Ls3 _ _ = _; rw [hLs3, hLs4]; rfl) kz) ?_
  show own_Win p e below s _ _ _ (T5.setTop (mkF m 35 Ls4 []))
  refine own_st (fun _ kz => XS.aload X5.here hx rfl (v := (.ref am)) (hb hby at_35) (by show Ls4[_]? = _; rw [hLs4]; rfl) rfl kz) ?_
  show own_Win p e below s _ _ _ (T5.setTop (mkF m 37 Ls4 [(.ref am)]))
  obtain ⟨T6, X6, e6, st6⟩ := getF X5 hx hZ hown (host := "") (Or.inl (hw _ (List.mem_of_getElem? (i := 33) rfl))) Via.refl e5 f_blocks (g := (mkF m 37 Ls4 [(.ref am)])) rfl rfl (hb hby at_37)
  refine own_st st6 ?_
  show own_Win p e below s _ _ _ (T6.setTop (mkF m 40 Ls4 [(.ref rb)]))
  obtain ⟨Ls5, hLs5⟩ : ∃ L : Array Slot, L = #[.val (.long p1), .second, .val (.long p2), .second, .val (.long p3), .second, .val (.long p4), .second, .val (.long p5), .second, .val (.int p6), .val (.int pv), .val (.ref am), .val (.ref rg), .val (.ref rb), .unset, .unset, .unset, .unset, .unset, .unset, .unset, .unset, .unset, .unset, .unset, .unset, .unset, .unset, .unset, .unset, .unset, .unset, .unset, .unset, .unset, .unset, .unset, .unset, .unset, .unset, .unset, .unset, .unset, .unset, .unset, .unset, .unset, .unset, .unset, .unset, .unset, .unset, .unset, .unset, .unset, .unset, .unset, .unset, .unset, .unset, .unset, .unset, .unset, .unset, .unset, .unset, .unset, .unset, .unset, .unset, .unset, .unset, .unset, .unset, .unset, .unset, .unset, .unset, .unset, .unset, .unset, .unset, .unset, .unset, .unset, .unset, .unset, .unset] := ⟨_, rfl⟩
  refine own_st (fun _ kz => XS.astore X6.here hx rfl (hb hby at_40) rfl rfl (l' := Ls5) (by show storeLocals Ls4 _ _ = _; rw [hLs4, hLs5]; rfl) kz) ?_
  show own_Win p e below s _ _ _ (T6.setTop (mkF m 42 Ls5 []))
  refine own_st (fun _ kz => XS.aload X6.here hx rfl (v := (.ref am)) (hb hby at_42) (by show Ls5[_]? = _; rw [hLs5]; rfl) rfl kz) ?_
  show own_Win p e below s _ _ _ (T6.setTop (mkF m 44 Ls5 [(.ref am)]))
  obtain ⟨T7, X7, e7, st7⟩ := getF X6 hx hZ hown (host := "") (Or.inl (hw _ (List.mem_of_getElem? (i := 34) rfl))) Via.refl e6 f_coupling (g := (mkF m 44 Ls5 [(.ref am)])) rfl rfl (hb hby at_44)
  refine own_st st7 ?_
  show own_Win p e below s _ _ _ (T7.setTop (mkF m 47 Ls5 [(.ref rc)]))
  obtain ⟨Ls6, hLs6⟩ : ∃ L : Array Slot, L = #[.val (.long p1), .second, .val (.long p2), .second, .val (.long p3), .second, .val (.long p4), .second, .val (.long p5), .second, .val (.int p6), .val (.int pv), .val (.ref am), .val (.ref rg), .val (.ref rb), .val (.ref rc), .unset, .unset, .unset, .unset, .unset, .unset, .unset, .unset, .unset, .unset, .unset, .unset, .unset, .unset, .unset, .unset, .unset, .unset, .unset, .unset, .unset, .unset, .unset, .unset, .unset, .unset, .unset, .unset, .unset, .unset, .unset, .unset, .unset, .unset, .unset, .unset, .unset, .unset, .unset, .unset, .unset, .unset, .unset, .unset, .unset, .unset, .unset, .unset, .unset, .unset, .unset, .unset, .unset, .unset, .unset, .unset, .unset, .unset, .unset, .unset, .unset, .unset, .unset, .unset, .unset, .unset, .unset, .unset, .unset, .unset, .unset, .unset, .unset] := ⟨_, rfl⟩
  refine own_st (fun _ kz => XS.astore X7.here hx rfl (hb hby at_47) rfl rfl (l' := Ls6) (by show storeLocals Ls5 _ _ = _; rw [hLs5, hLs6]; rfl) kz) ?_
  show own_Win p e below s _ _ _ (T7.setTop (mkF m 49 Ls6 []))
  refine own_st (fun _ kz => XS.aload X7.here hx rfl (v := (.ref rg)) (hb hby at_49) (by show Ls6[_]? = _; rw [hLs6]; rfl) rfl kz) ?_
  show own_Win p e below s _ _ _ (T7.setTop (mkF m 51 Ls6 [(.ref rg)]))
  refine own_st (fun _ kz => XS.iconst X7.here hx rfl (hb hby at_51) kz) ?_
  show own_Win p e below s _ _ _ (T7.setTop (mkF m 52 Ls6 [(.int (0 : Int32)), (.ref rg)]))
  refine own_st (fun _ kz => XT.lloadN X7.here hx rfl (v := p1) (hb hby at_52) (by show Ls6[_]? = _; rw [hLs6]; rfl) kz) ?_
  show own_Win p e below s _ _ _ (T7.setTop (mkF m 53 Ls6 [(.long p1), (.int (0 : Int32)), (.ref rg)]))
  refine own_st (fun _ kz => XS.iconst X7.here hx rfl (hb hby at_53) kz) ?_
  show own_Win p e below s _ _ _ (T7.setTop (mkF m 54 Ls6 [(.int (0 : Int32)), (.long p1), (.int (0 : Int32)), (.ref rg)]))
  refine own_callS X7 hx hZ hown (y := yV) (hw _ (List.mem_of_getElem? (i := 35) rfl)) (hw _ (List.mem_of_getElem? (i := 36) rfl)) (hw _ (List.mem_of_getElem? (i := 37) rfl)) (hw _ (List.mem_of_getElem? (i := 38) rfl)) (by decide) e7 (rmV l Z a0 hw [] p1 (0 : Int32) g0 h4 n0 Z4 hg0) (by decide) (W := 2) (by decide) rfl (by rw [hml]; show Ls6.size = _; rw [hLs6]; rfl) (argsL := [.long p1, .int (0 : Int32)]) (rest := [(.int (0 : Int32)), (.ref rg)]) (lenOf pdV rfl) rfl (Nat.le_of_eq rfl) (hb hby at_54) rfl (by decide) (by decide) ?_
  intro T100 v100 L100 X100 hQ100
  obtain ⟨rfl, M100, e100⟩ := hQ100
  have N100 := Fr.app N4 M100
  show own_Win p e below s _ _ _ (T100.setTop (mkF m 57 Ls6 [(.double g0), (.int (0 : Int32)), (.ref rg)]))
  refine own_dastore X100 hx hZ e100 F4_G (i := 0) rfl (by decide) N100 q_rg rfl rfl (hb hby at_57) ?_
  intro T301 h301 L301 X301 e301 N301 W301 F301
  show own_Win p e below s _ _ _ (T301.setTop (mkF m 58 Ls6 []))
  have Z301 : n0 ≤ h301.size := by rw [Wr.size W301]; exact Z4
  have c_E_h301 : Exa Z h301 am "com/example/mantleray/mantleray/QuadraticModel" := Exa.wr W301 E4
  have c_points_h301 : Fld Z h301 am "com/example/mantleray/mantleray/QuadraticModel" "points" "I" (.int pv) := Fld.other W301 f_points (Or.inl ne_ag)
  have c_gradient_h301 : Fld Z h301 am "com/example/mantleray/mantleray/QuadraticModel" "gradient" "[D" (.ref rg) := Fld.other W301 f_gradient (Or.inl ne_ag)
  have c_blocks_h301 : Fld Z h301 am "com/example/mantleray/mantleray/QuadraticModel" "blocks" "[D" (.ref rb) := Fld.other W301 f_blocks (Or.inl ne_ag)
  have c_coupling_h301 : Fld Z h301 am "com/example/mantleray/mantleray/QuadraticModel" "coupling" "[D" (.ref rc) := Fld.other W301 f_coupling (Or.inl ne_ag)
  have c_B_h301 : own_Da Z h301 rb 12 (fun _ => 0) := own_Av.other W301 F4_B (Ne.symm ne_gb)
  have c_C_h301 : own_Da Z h301 rc 12 (fun _ => 0) := own_Av.other W301 F4_C (Ne.symm ne_gc)
  refine own_st (fun _ kz => XS.aload X301.here hx rfl (v := (.ref rg)) (hb hby at_58) (by show Ls6[_]? = _; rw [hLs6]; rfl) rfl kz) ?_
  show own_Win p e below s _ _ _ (T301.setTop (mkF m 60 Ls6 [(.ref rg)]))
  refine own_st (fun _ kz => XS.iconst X301.here hx rfl (hb hby at_60) kz) ?_
  show own_Win p e below s _ _ _ (T301.setTop (mkF m 61 Ls6 [(.int (1 : Int32)), (.ref rg)]))
  refine own_st (fun _ kz => XT.lloadN X301.here hx rfl (v := p1) (hb hby at_61) (by show Ls6[_]? = _; rw [hLs6]; rfl) kz) ?_
  show own_Win p e below s _ _ _ (T301.setTop (mkF m 62 Ls6 [(.long p1), (.int (1 : Int32)), (.ref rg)]))
  refine own_st (fun _ kz => XS.iconst X301.here hx rfl (hb hby at_62) kz) ?_
  show own_Win p e below s _ _ _ (T301.setTop (mkF m 63 Ls6 [(.int (1 : Int32)), (.long p1), (.int (1 : Int32)), (.ref rg)]))
  refine own_callS X301 hx hZ hown (y := yV) (hw _ (List.mem_of_getElem? (i := 35) rfl)) (hw _ (List.mem_of_getElem? (i := 36) rfl)) (hw _ (List.mem_of_getElem? (i := 37) rfl)) (hw _ (List.mem_of_getElem? (i := 38) rfl)) (by decide) e301 (rmV l Z a0 hw [] p1 (1 : Int32) g1 h301 n0 Z301 hg1) (by decide) (W := 2) (by decide) rfl (by rw [hml]; show Ls6.size = _; rw [hLs6]; rfl) (argsL := [.long p1, .int (1 : Int32)]) (rest := [(.int (1 : Int32)), (.ref rg)]) (lenOf pdV rfl) rfl (Nat.le_of_eq rfl) (hb hby at_63) rfl (by decide) (by decide) ?_
  intro T101 v101 L101 X101 hQ101
  obtain ⟨rfl, M101, e101⟩ := hQ101
  have N101 := Fr.app N301 M101
  show own_Win p e below s _ _ _ (T101.setTop (mkF m 66 Ls6 [(.double g1), (.int (1 : Int32)), (.ref rg)]))
  refine own_dastore X101 hx hZ e101 F301 (i := 1) rfl (by decide) N101 q_rg rfl rfl (hb hby at_66) ?_
  intro T302 h302 L302 X302 e302 N302 W302 F302
  show own_Win p e below s _ _ _ (T302.setTop (mkF m 67 Ls6 []))
  have Z302 : n0 ≤ h302.size := by rw [Wr.size W302]; exact Z301
  have c_E_h302 : Exa Z h302 am "com/example/mantleray/mantleray/QuadraticModel" := Exa.wr W302 c_E_h301
  have c_points_h302 : Fld Z h302 am "com/example/mantleray/mantleray/QuadraticModel" "points" "I" (.int pv) := Fld.other W302 c_points_h301 (Or.inl ne_ag)
  have c_gradient_h302 : Fld Z h302 am "com/example/mantleray/mantleray/QuadraticModel" "gradient" "[D" (.ref rg) := Fld.other W302 c_gradient_h301 (Or.inl ne_ag)
  have c_blocks_h302 : Fld Z h302 am "com/example/mantleray/mantleray/QuadraticModel" "blocks" "[D" (.ref rb) := Fld.other W302 c_blocks_h301 (Or.inl ne_ag)
  have c_coupling_h302 : Fld Z h302 am "com/example/mantleray/mantleray/QuadraticModel" "coupling" "[D" (.ref rc) := Fld.other W302 c_coupling_h301 (Or.inl ne_ag)
  have c_B_h302 : own_Da Z h302 rb 12 (fun _ => 0) := own_Av.other W302 c_B_h301 (Ne.symm ne_gb)
  have c_C_h302 : own_Da Z h302 rc 12 (fun _ => 0) := own_Av.other W302 c_C_h301 (Ne.symm ne_gc)
  refine own_st (fun _ kz => XS.aload X302.here hx rfl (v := (.ref rg)) (hb hby at_67) (by show Ls6[_]? = _; rw [hLs6]; rfl) rfl kz) ?_
  show own_Win p e below s _ _ _ (T302.setTop (mkF m 69 Ls6 [(.ref rg)]))
  refine own_st (fun _ kz => XS.iconst X302.here hx rfl (hb hby at_69) kz) ?_
  show own_Win p e below s _ _ _ (T302.setTop (mkF m 70 Ls6 [(.int (2 : Int32)), (.ref rg)]))
  refine own_st (fun _ kz => XT.lloadN X302.here hx rfl (v := p1) (hb hby at_70) (by show Ls6[_]? = _; rw [hLs6]; rfl) kz) ?_
  show own_Win p e below s _ _ _ (T302.setTop (mkF m 71 Ls6 [(.long p1), (.int (2 : Int32)), (.ref rg)]))
  refine own_st (fun _ kz => XS.iconst X302.here hx rfl (hb hby at_71) kz) ?_
  show own_Win p e below s _ _ _ (T302.setTop (mkF m 72 Ls6 [(.int (2 : Int32)), (.long p1), (.int (2 : Int32)), (.ref rg)]))
  refine own_callS X302 hx hZ hown (y := yV) (hw _ (List.mem_of_getElem? (i := 35) rfl)) (hw _ (List.mem_of_getElem? (i := 36) rfl)) (hw _ (List.mem_of_getElem? (i := 37) rfl)) (hw _ (List.mem_of_getElem? (i := 38) rfl)) (by decide) e302 (rmV l Z a0 hw [] p1 (2 : Int32) g2 h302 n0 Z302 hg2) (by decide) (W := 2) (by decide) rfl (by rw [hml]; show Ls6.size = _; rw [hLs6]; rfl) (argsL := [.long p1, .int (2 : Int32)]) (rest := [(.int (2 : Int32)), (.ref rg)]) (lenOf pdV rfl) rfl (Nat.le_of_eq rfl) (hb hby at_72) rfl (by decide) (by decide) ?_
  intro T102 v102 L102 X102 hQ102
  obtain ⟨rfl, M102, e102⟩ := hQ102
  have N102 := Fr.app N302 M102
  show own_Win p e below s _ _ _ (T102.setTop (mkF m 75 Ls6 [(.double g2), (.int (2 : Int32)), (.ref rg)]))
  refine own_dastore X102 hx hZ e102 F302 (i := 2) rfl (by decide) N102 q_rg rfl rfl (hb hby at_75) ?_
  intro T303 h303 L303 X303 e303 N303 W303 F303
  show own_Win p e below s _ _ _ (T303.setTop (mkF m 76 Ls6 []))
  have Z303 : n0 ≤ h303.size := by rw [Wr.size W303]; exact Z302
  have c_E_h303 : Exa Z h303 am "com/example/mantleray/mantleray/QuadraticModel" := Exa.wr W303 c_E_h302
  have c_points_h303 : Fld Z h303 am "com/example/mantleray/mantleray/QuadraticModel" "points" "I" (.int pv) := Fld.other W303 c_points_h302 (Or.inl ne_ag)
  have c_gradient_h303 : Fld Z h303 am "com/example/mantleray/mantleray/QuadraticModel" "gradient" "[D" (.ref rg) := Fld.other W303 c_gradient_h302 (Or.inl ne_ag)
  have c_blocks_h303 : Fld Z h303 am "com/example/mantleray/mantleray/QuadraticModel" "blocks" "[D" (.ref rb) := Fld.other W303 c_blocks_h302 (Or.inl ne_ag)
  have c_coupling_h303 : Fld Z h303 am "com/example/mantleray/mantleray/QuadraticModel" "coupling" "[D" (.ref rc) := Fld.other W303 c_coupling_h302 (Or.inl ne_ag)
  have c_B_h303 : own_Da Z h303 rb 12 (fun _ => 0) := own_Av.other W303 c_B_h302 (Ne.symm ne_gb)
  have c_C_h303 : own_Da Z h303 rc 12 (fun _ => 0) := own_Av.other W303 c_C_h302 (Ne.symm ne_gc)
  refine own_st (fun _ kz => XS.aload X303.here hx rfl (v := (.ref rg)) (hb hby at_76) (by show Ls6[_]? = _; rw [hLs6]; rfl) rfl kz) ?_
  show own_Win p e below s _ _ _ (T303.setTop (mkF m 78 Ls6 [(.ref rg)]))
  refine own_st (fun _ kz => XS.iconst X303.here hx rfl (hb hby at_78) kz) ?_
  show own_Win p e below s _ _ _ (T303.setTop (mkF m 79 Ls6 [(.int (3 : Int32)), (.ref rg)]))
  refine own_st (fun _ kz => XT.lloadN X303.here hx rfl (v := p1) (hb hby at_79) (by show Ls6[_]? = _; rw [hLs6]; rfl) kz) ?_
  show own_Win p e below s _ _ _ (T303.setTop (mkF m 80 Ls6 [(.long p1), (.int (3 : Int32)), (.ref rg)]))
  refine own_st (fun _ kz => XS.iconst X303.here hx rfl (hb hby at_80) kz) ?_
  show own_Win p e below s _ _ _ (T303.setTop (mkF m 81 Ls6 [(.int (3 : Int32)), (.long p1), (.int (3 : Int32)), (.ref rg)]))
  refine own_callS X303 hx hZ hown (y := yV) (hw _ (List.mem_of_getElem? (i := 35) rfl)) (hw _ (List.mem_of_getElem? (i := 36) rfl)) (hw _ (List.mem_of_getElem? (i := 37) rfl)) (hw _ (List.mem_of_getElem? (i := 38) rfl)) (by decide) e303 (rmV l Z a0 hw [] p1 (3 : Int32) g3 h303 n0 Z303 hg3) (by decide) (W := 2) (by decide) rfl (by rw [hml]; show Ls6.size = _; rw [hLs6]; rfl) (argsL := [.long p1, .int (3 : Int32)]) (rest := [(.int (3 : Int32)), (.ref rg)]) (lenOf pdV rfl) rfl (Nat.le_of_eq rfl) (hb hby at_81) rfl (by decide) (by decide) ?_
  intro T103 v103 L103 X103 hQ103
  obtain ⟨rfl, M103, e103⟩ := hQ103
  have N103 := Fr.app N303 M103
  show own_Win p e below s _ _ _ (T103.setTop (mkF m 84 Ls6 [(.double g3), (.int (3 : Int32)), (.ref rg)]))
  refine own_dastore X103 hx hZ e103 F303 (i := 3) rfl (by decide) N103 q_rg rfl rfl (hb hby at_84) ?_
  intro T304 h304 L304 X304 e304 N304 W304 F304
  show own_Win p e below s _ _ _ (T304.setTop (mkF m 85 Ls6 []))
  have Z304 : n0 ≤ h304.size := by rw [Wr.size W304]; exact Z303
  have c_E_h304 : Exa Z h304 am "com/example/mantleray/mantleray/QuadraticModel" := Exa.wr W304 c_E_h303
  have c_points_h304 : Fld Z h304 am "com/example/mantleray/mantleray/QuadraticModel" "points" "I" (.int pv) := Fld.other W304 c_points_h303 (Or.inl ne_ag)
  have c_gradient_h304 : Fld Z h304 am "com/example/mantleray/mantleray/QuadraticModel" "gradient" "[D" (.ref rg) := Fld.other W304 c_gradient_h303 (Or.inl ne_ag)
  have c_blocks_h304 : Fld Z h304 am "com/example/mantleray/mantleray/QuadraticModel" "blocks" "[D" (.ref rb) := Fld.other W304 c_blocks_h303 (Or.inl ne_ag)
  have c_coupling_h304 : Fld Z h304 am "com/example/mantleray/mantleray/QuadraticModel" "coupling" "[D" (.ref rc) := Fld.other W304 c_coupling_h303 (Or.inl ne_ag)
  have c_B_h304 : own_Da Z h304 rb 12 (fun _ => 0) := own_Av.other W304 c_B_h303 (Ne.symm ne_gb)
  have c_C_h304 : own_Da Z h304 rc 12 (fun _ => 0) := own_Av.other W304 c_C_h303 (Ne.symm ne_gc)
  refine own_st (fun _ kz => XS.aload X304.here hx rfl (v := (.ref rg)) (hb hby at_85) (by show Ls6[_]? = _; rw [hLs6]; rfl) rfl kz) ?_
  show own_Win p e below s _ _ _ (T304.setTop (mkF m 87 Ls6 [(.ref rg)]))
  refine own_st (fun _ kz => XS.iconst X304.here hx rfl (hb hby at_87) kz) ?_
  show own_Win p e below s _ _ _ (T304.setTop (mkF m 88 Ls6 [(.int (4 : Int32)), (.ref rg)]))
  refine own_st (fun _ kz => XT.lloadN X304.here hx rfl (v := p1) (hb hby at_88) (by show Ls6[_]? = _; rw [hLs6]; rfl) kz) ?_
  show own_Win p e below s _ _ _ (T304.setTop (mkF m 89 Ls6 [(.long p1), (.int (4 : Int32)), (.ref rg)]))
  refine own_st (fun _ kz => XS.iconst X304.here hx rfl (hb hby at_89) kz) ?_
  show own_Win p e below s _ _ _ (T304.setTop (mkF m 90 Ls6 [(.int (4 : Int32)), (.long p1), (.int (4 : Int32)), (.ref rg)]))
  refine own_callS X304 hx hZ hown (y := yV) (hw _ (List.mem_of_getElem? (i := 35) rfl)) (hw _ (List.mem_of_getElem? (i := 36) rfl)) (hw _ (List.mem_of_getElem? (i := 37) rfl)) (hw _ (List.mem_of_getElem? (i := 38) rfl)) (by decide) e304 (rmV l Z a0 hw [] p1 (4 : Int32) g4 h304 n0 Z304 hg4) (by decide) (W := 2) (by decide) rfl (by rw [hml]; show Ls6.size = _; rw [hLs6]; rfl) (argsL := [.long p1, .int (4 : Int32)]) (rest := [(.int (4 : Int32)), (.ref rg)]) (lenOf pdV rfl) rfl (Nat.le_of_eq rfl) (hb hby at_90) rfl (by decide) (by decide) ?_
  intro T104 v104 L104 X104 hQ104
  obtain ⟨rfl, M104, e104⟩ := hQ104
  have N104 := Fr.app N304 M104
  show own_Win p e below s _ _ _ (T104.setTop (mkF m 93 Ls6 [(.double g4), (.int (4 : Int32)), (.ref rg)]))
  refine own_dastore X104 hx hZ e104 F304 (i := 4) rfl (by decide) N104 q_rg rfl rfl (hb hby at_93) ?_
  intro T305 h305 L305 X305 e305 N305 W305 F305
  show own_Win p e below s _ _ _ (T305.setTop (mkF m 94 Ls6 []))
  have Z305 : n0 ≤ h305.size := by rw [Wr.size W305]; exact Z304
  have c_E_h305 : Exa Z h305 am "com/example/mantleray/mantleray/QuadraticModel" := Exa.wr W305 c_E_h304
  have c_points_h305 : Fld Z h305 am "com/example/mantleray/mantleray/QuadraticModel" "points" "I" (.int pv) := Fld.other W305 c_points_h304 (Or.inl ne_ag)
  have c_gradient_h305 : Fld Z h305 am "com/example/mantleray/mantleray/QuadraticModel" "gradient" "[D" (.ref rg) := Fld.other W305 c_gradient_h304 (Or.inl ne_ag)
  have c_blocks_h305 : Fld Z h305 am "com/example/mantleray/mantleray/QuadraticModel" "blocks" "[D" (.ref rb) := Fld.other W305 c_blocks_h304 (Or.inl ne_ag)
  have c_coupling_h305 : Fld Z h305 am "com/example/mantleray/mantleray/QuadraticModel" "coupling" "[D" (.ref rc) := Fld.other W305 c_coupling_h304 (Or.inl ne_ag)
  have c_B_h305 : own_Da Z h305 rb 12 (fun _ => 0) := own_Av.other W305 c_B_h304 (Ne.symm ne_gb)
  have c_C_h305 : own_Da Z h305 rc 12 (fun _ => 0) := own_Av.other W305 c_C_h304 (Ne.symm ne_gc)
  refine own_st (fun _ kz => XS.aload X305.here hx rfl (v := (.ref rg)) (hb hby at_94) (by show Ls6[_]? = _; rw [hLs6]; rfl) rfl kz) ?_
  show own_Win p e below s _ _ _ (T305.setTop (mkF m 96 Ls6 [(.ref rg)]))
  refine own_st (fun _ kz => XS.iconst X305.here hx rfl (hb hby at_96) kz) ?_
  show own_Win p e below s _ _ _ (T305.setTop (mkF m 97 Ls6 [(.int (5 : Int32)), (.ref rg)]))
  refine own_st (fun _ kz => XT.lloadN X305.here hx rfl (v := p1) (hb hby at_97) (by show Ls6[_]? = _; rw [hLs6]; rfl) kz) ?_
  show own_Win p e below s _ _ _ (T305.setTop (mkF m 98 Ls6 [(.long p1), (.int (5 : Int32)), (.ref rg)]))
  refine own_st (fun _ kz => XS.iconst X305.here hx rfl (hb hby at_98) kz) ?_
  show own_Win p e below s _ _ _ (T305.setTop (mkF m 99 Ls6 [(.int (5 : Int32)), (.long p1), (.int (5 : Int32)), (.ref rg)]))
  refine own_callS X305 hx hZ hown (y := yV) (hw _ (List.mem_of_getElem? (i := 35) rfl)) (hw _ (List.mem_of_getElem? (i := 36) rfl)) (hw _ (List.mem_of_getElem? (i := 37) rfl)) (hw _ (List.mem_of_getElem? (i := 38) rfl)) (by decide) e305 (rmV l Z a0 hw [] p1 (5 : Int32) g5 h305 n0 Z305 hg5) (by decide) (W := 2) (by decide) rfl (by rw [hml]; show Ls6.size = _; rw [hLs6]; rfl) (argsL := [.long p1, .int (5 : Int32)]) (rest := [(.int (5 : Int32)), (.ref rg)]) (lenOf pdV rfl) rfl (Nat.le_of_eq rfl) (hb hby at_99) rfl (by decide) (by decide) ?_
  intro T105 v105 L105 X105 hQ105
  obtain ⟨rfl, M105, e105⟩ := hQ105
  have N105 := Fr.app N305 M105
  show own_Win p e below s _ _ _ (T105.setTop (mkF m 102 Ls6 [(.double g5), (.int (5 : Int32)), (.ref rg)]))
  refine own_dastore X105 hx hZ e105 F305 (i := 5) rfl (by decide) N105 q_rg rfl rfl (hb hby at_102) ?_
  intro T306 h306 L306 X306 e306 N306 W306 F306
  show own_Win p e below s _ _ _ (T306.setTop (mkF m 103 Ls6 []))
  have Z306 : n0 ≤ h306.size := by rw [Wr.size W306]; exact Z305
  have c_E_h306 : Exa Z h306 am "com/example/mantleray/mantleray/QuadraticModel" := Exa.wr W306 c_E_h305
  have c_points_h306 : Fld Z h306 am "com/example/mantleray/mantleray/QuadraticModel" "points" "I" (.int pv) := Fld.other W306 c_points_h305 (Or.inl ne_ag)
  have c_gradient_h306 : Fld Z h306 am "com/example/mantleray/mantleray/QuadraticModel" "gradient" "[D" (.ref rg) := Fld.other W306 c_gradient_h305 (Or.inl ne_ag)
  have c_blocks_h306 : Fld Z h306 am "com/example/mantleray/mantleray/QuadraticModel" "blocks" "[D" (.ref rb) := Fld.other W306 c_blocks_h305 (Or.inl ne_ag)
  have c_coupling_h306 : Fld Z h306 am "com/example/mantleray/mantleray/QuadraticModel" "coupling" "[D" (.ref rc) := Fld.other W306 c_coupling_h305 (Or.inl ne_ag)
  have c_B_h306 : own_Da Z h306 rb 12 (fun _ => 0) := own_Av.other W306 c_B_h305 (Ne.symm ne_gb)
  have c_C_h306 : own_Da Z h306 rc 12 (fun _ => 0) := own_Av.other W306 c_C_h305 (Ne.symm ne_gc)
  refine own_st (fun _ kz => XS.aload X306.here hx rfl (v := (.ref rb)) (hb hby at_103) (by show Ls6[_]? = _; rw [hLs6]; rfl) rfl kz) ?_
  show own_Win p e below s _ _ _ (T306.setTop (mkF m 105 Ls6 [(.ref rb)]))
  refine own_st (fun _ kz => XS.iconst X306.here hx rfl (hb hby at_105) kz) ?_
  show own_Win p e below s _ _ _ (T306.setTop (mkF m 106 Ls6 [(.int (0 : Int32)), (.ref rb)]))
  refine own_st (fun _ kz => XT.lload X306.here hx rfl (v := p3) (hb hby at_106) (by show Ls6[_]? = _; rw [hLs6]; rfl) kz) ?_
  show own_Win p e below s _ _ _ (T306.setTop (mkF m 108 Ls6 [(.long p3), (.int (0 : Int32)), (.ref rb)]))
  refine own_st (fun _ kz => XS.iconst X306.here hx rfl (hb hby at_108) kz) ?_
  show own_Win p e below s _ _ _ (T306.setTop (mkF m 109 Ls6 [(.int (0 : Int32)), (.long p3), (.int (0 : Int32)), (.ref rb)]))
  refine own_callS X306 hx hZ hown (y := yV) (hw _ (List.mem_of_getElem? (i := 35) rfl)) (hw _ (List.mem_of_getElem? (i := 36) rfl)) (hw _ (List.mem_of_getElem? (i := 37) rfl)) (hw _ (List.mem_of_getElem? (i := 38) rfl)) (by decide) e306 (rmV l Z a0 hw [] p3 (0 : Int32) b0 h306 n0 Z306 hb0) (by decide) (W := 2) (by decide) rfl (by rw [hml]; show Ls6.size = _; rw [hLs6]; rfl) (argsL := [.long p3, .int (0 : Int32)]) (rest := [(.int (0 : Int32)), (.ref rb)]) (lenOf pdV rfl) rfl (Nat.le_of_eq rfl) (hb hby at_109) rfl (by decide) (by decide) ?_
  intro T106 v106 L106 X106 hQ106
  obtain ⟨rfl, M106, e106⟩ := hQ106
  have N106 := Fr.app N306 M106
  show own_Win p e below s _ _ _ (T106.setTop (mkF m 112 Ls6 [(.double b0), (.int (0 : Int32)), (.ref rb)]))
  refine own_dastore X106 hx hZ e106 c_B_h306 (i := 0) rfl (by decide) N106 q_rb rfl rfl (hb hby at_112) ?_
  intro T307 h307 L307 X307 e307 N307 W307 F307
  show own_Win p e below s _ _ _ (T307.setTop (mkF m 113 Ls6 []))
  have Z307 : n0 ≤ h307.size := by rw [Wr.size W307]; exact Z306
  have c_E_h307 : Exa Z h307 am "com/example/mantleray/mantleray/QuadraticModel" := Exa.wr W307 c_E_h306
  have c_points_h307 : Fld Z h307 am "com/example/mantleray/mantleray/QuadraticModel" "points" "I" (.int pv) := Fld.other W307 c_points_h306 (Or.inl ne_ab)
  have c_gradient_h307 : Fld Z h307 am "com/example/mantleray/mantleray/QuadraticModel" "gradient" "[D" (.ref rg) := Fld.other W307 c_gradient_h306 (Or.inl ne_ab)
  have c_blocks_h307 : Fld Z h307 am "com/example/mantleray/mantleray/QuadraticModel" "blocks" "[D" (.ref rb) := Fld.other W307 c_blocks_h306 (Or.inl ne_ab)
  have c_coupling_h307 : Fld Z h307 am "com/example/mantleray/mantleray/QuadraticModel" "coupling" "[D" (.ref rc) := Fld.other W307 c_coupling_h306 (Or.inl ne_ab)
  have c_G_h307 : own_Da Z h307 rg 6 (own_up (own_up (own_up (own_up (own_up (own_up (fun _ => 0) 0 g0) 1 g1) 2 g2) 3 g3) 4 g4) 5 g5) := own_Av.other W307 F306 ne_gb
  have c_C_h307 : own_Da Z h307 rc 12 (fun _ => 0) := own_Av.other W307 c_C_h306 (Ne.symm ne_bc)
  refine own_st (fun _ kz => XS.aload X307.here hx rfl (v := (.ref rb)) (hb hby at_113) (by show Ls6[_]? = _; rw [hLs6]; rfl) rfl kz) ?_
  show own_Win p e below s _ _ _ (T307.setTop (mkF m 115 Ls6 [(.ref rb)]))
  refine own_st (fun _ kz => XS.iconst X307.here hx rfl (hb hby at_115) kz) ?_
  show own_Win p e below s _ _ _ (T307.setTop (mkF m 116 Ls6 [(.int (1 : Int32)), (.ref rb)]))
  refine own_st (fun _ kz => XT.lload X307.here hx rfl (v := p3) (hb hby at_116) (by show Ls6[_]? = _; rw [hLs6]; rfl) kz) ?_
  show own_Win p e below s _ _ _ (T307.setTop (mkF m 118 Ls6 [(.long p3), (.int (1 : Int32)), (.ref rb)]))
  refine own_st (fun _ kz => XS.iconst X307.here hx rfl (hb hby at_118) kz) ?_
  show own_Win p e below s _ _ _ (T307.setTop (mkF m 119 Ls6 [(.int (1 : Int32)), (.long p3), (.int (1 : Int32)), (.ref rb)]))
  refine own_callS X307 hx hZ hown (y := yV) (hw _ (List.mem_of_getElem? (i := 35) rfl)) (hw _ (List.mem_of_getElem? (i := 36) rfl)) (hw _ (List.mem_of_getElem? (i := 37) rfl)) (hw _ (List.mem_of_getElem? (i := 38) rfl)) (by decide) e307 (rmV l Z a0 hw [] p3 (1 : Int32) b1 h307 n0 Z307 hb1) (by decide) (W := 2) (by decide) rfl (by rw [hml]; show Ls6.size = _; rw [hLs6]; rfl) (argsL := [.long p3, .int (1 : Int32)]) (rest := [(.int (1 : Int32)), (.ref rb)]) (lenOf pdV rfl) rfl (Nat.le_of_eq rfl) (hb hby at_119) rfl (by decide) (by decide) ?_
  intro T107 v107 L107 X107 hQ107
  obtain ⟨rfl, M107, e107⟩ := hQ107
  have N107 := Fr.app N307 M107
  show own_Win p e below s _ _ _ (T107.setTop (mkF m 122 Ls6 [(.double b1), (.int (1 : Int32)), (.ref rb)]))
  refine own_dastore X107 hx hZ e107 F307 (i := 1) rfl (by decide) N107 q_rb rfl rfl (hb hby at_122) ?_
  intro T308 h308 L308 X308 e308 N308 W308 F308
  show own_Win p e below s _ _ _ (T308.setTop (mkF m 123 Ls6 []))
  have Z308 : n0 ≤ h308.size := by rw [Wr.size W308]; exact Z307
  have c_E_h308 : Exa Z h308 am "com/example/mantleray/mantleray/QuadraticModel" := Exa.wr W308 c_E_h307
  have c_points_h308 : Fld Z h308 am "com/example/mantleray/mantleray/QuadraticModel" "points" "I" (.int pv) := Fld.other W308 c_points_h307 (Or.inl ne_ab)
  have c_gradient_h308 : Fld Z h308 am "com/example/mantleray/mantleray/QuadraticModel" "gradient" "[D" (.ref rg) := Fld.other W308 c_gradient_h307 (Or.inl ne_ab)
  have c_blocks_h308 : Fld Z h308 am "com/example/mantleray/mantleray/QuadraticModel" "blocks" "[D" (.ref rb) := Fld.other W308 c_blocks_h307 (Or.inl ne_ab)
  have c_coupling_h308 : Fld Z h308 am "com/example/mantleray/mantleray/QuadraticModel" "coupling" "[D" (.ref rc) := Fld.other W308 c_coupling_h307 (Or.inl ne_ab)
  have c_G_h308 : own_Da Z h308 rg 6 (own_up (own_up (own_up (own_up (own_up (own_up (fun _ => 0) 0 g0) 1 g1) 2 g2) 3 g3) 4 g4) 5 g5) := own_Av.other W308 c_G_h307 ne_gb
  have c_C_h308 : own_Da Z h308 rc 12 (fun _ => 0) := own_Av.other W308 c_C_h307 (Ne.symm ne_bc)
  refine own_st (fun _ kz => XS.aload X308.here hx rfl (v := (.ref rb)) (hb hby at_123) (by show Ls6[_]? = _; rw [hLs6]; rfl) rfl kz) ?_
  show own_Win p e below s _ _ _ (T308.setTop (mkF m 125 Ls6 [(.ref rb)]))
  refine own_st (fun _ kz => XS.iconst X308.here hx rfl (hb hby at_125) kz) ?_
  show own_Win p e below s _ _ _ (T308.setTop (mkF m 126 Ls6 [(.int (2 : Int32)), (.ref rb)]))
  refine own_st (fun _ kz => XT.lload X308.here hx rfl (v := p3) (hb hby at_126) (by show Ls6[_]? = _; rw [hLs6]; rfl) kz) ?_
  show own_Win p e below s _ _ _ (T308.setTop (mkF m 128 Ls6 [(.long p3), (.int (2 : Int32)), (.ref rb)]))
  refine own_st (fun _ kz => XS.iconst X308.here hx rfl (hb hby at_128) kz) ?_
  show own_Win p e below s _ _ _ (T308.setTop (mkF m 129 Ls6 [(.int (2 : Int32)), (.long p3), (.int (2 : Int32)), (.ref rb)]))
  refine own_callS X308 hx hZ hown (y := yV) (hw _ (List.mem_of_getElem? (i := 35) rfl)) (hw _ (List.mem_of_getElem? (i := 36) rfl)) (hw _ (List.mem_of_getElem? (i := 37) rfl)) (hw _ (List.mem_of_getElem? (i := 38) rfl)) (by decide) e308 (rmV l Z a0 hw [] p3 (2 : Int32) b2 h308 n0 Z308 hb2) (by decide) (W := 2) (by decide) rfl (by rw [hml]; show Ls6.size = _; rw [hLs6]; rfl) (argsL := [.long p3, .int (2 : Int32)]) (rest := [(.int (2 : Int32)), (.ref rb)]) (lenOf pdV rfl) rfl (Nat.le_of_eq rfl) (hb hby at_129) rfl (by decide) (by decide) ?_
  intro T108 v108 L108 X108 hQ108
  obtain ⟨rfl, M108, e108⟩ := hQ108
  have N108 := Fr.app N308 M108
  show own_Win p e below s _ _ _ (T108.setTop (mkF m 132 Ls6 [(.double b2), (.int (2 : Int32)), (.ref rb)]))
  refine own_dastore X108 hx hZ e108 F308 (i := 2) rfl (by decide) N108 q_rb rfl rfl (hb hby at_132) ?_
  intro T309 h309 L309 X309 e309 N309 W309 F309
  show own_Win p e below s _ _ _ (T309.setTop (mkF m 133 Ls6 []))
  have Z309 : n0 ≤ h309.size := by rw [Wr.size W309]; exact Z308
  have c_E_h309 : Exa Z h309 am "com/example/mantleray/mantleray/QuadraticModel" := Exa.wr W309 c_E_h308
  have c_points_h309 : Fld Z h309 am "com/example/mantleray/mantleray/QuadraticModel" "points" "I" (.int pv) := Fld.other W309 c_points_h308 (Or.inl ne_ab)
  have c_gradient_h309 : Fld Z h309 am "com/example/mantleray/mantleray/QuadraticModel" "gradient" "[D" (.ref rg) := Fld.other W309 c_gradient_h308 (Or.inl ne_ab)
  have c_blocks_h309 : Fld Z h309 am "com/example/mantleray/mantleray/QuadraticModel" "blocks" "[D" (.ref rb) := Fld.other W309 c_blocks_h308 (Or.inl ne_ab)
  have c_coupling_h309 : Fld Z h309 am "com/example/mantleray/mantleray/QuadraticModel" "coupling" "[D" (.ref rc) := Fld.other W309 c_coupling_h308 (Or.inl ne_ab)
  have c_G_h309 : own_Da Z h309 rg 6 (own_up (own_up (own_up (own_up (own_up (own_up (fun _ => 0) 0 g0) 1 g1) 2 g2) 3 g3) 4 g4) 5 g5) := own_Av.other W309 c_G_h308 ne_gb
  have c_C_h309 : own_Da Z h309 rc 12 (fun _ => 0) := own_Av.other W309 c_C_h308 (Ne.symm ne_bc)
  refine own_st (fun _ kz => XS.aload X309.here hx rfl (v := (.ref rb)) (hb hby at_133) (by show Ls6[_]? = _; rw [hLs6]; rfl) rfl kz) ?_
  show own_Win p e below s _ _ _ (T309.setTop (mkF m 135 Ls6 [(.ref rb)]))
  refine own_st (fun _ kz => XS.iconst X309.here hx rfl (hb hby at_135) kz) ?_
  show own_Win p e below s _ _ _ (T309.setTop (mkF m 136 Ls6 [(.int (3 : Int32)), (.ref rb)]))
  refine own_st (fun _ kz => XT.lload X309.here hx rfl (v := p3) (hb hby at_136) (by show Ls6[_]? = _; rw [hLs6]; rfl) kz) ?_
  show own_Win p e below s _ _ _ (T309.setTop (mkF m 138 Ls6 [(.long p3), (.int (3 : Int32)), (.ref rb)]))
  refine own_st (fun _ kz => XS.iconst X309.here hx rfl (hb hby at_138) kz) ?_
  show own_Win p e below s _ _ _ (T309.setTop (mkF m 139 Ls6 [(.int (3 : Int32)), (.long p3), (.int (3 : Int32)), (.ref rb)]))
  refine own_callS X309 hx hZ hown (y := yV) (hw _ (List.mem_of_getElem? (i := 35) rfl)) (hw _ (List.mem_of_getElem? (i := 36) rfl)) (hw _ (List.mem_of_getElem? (i := 37) rfl)) (hw _ (List.mem_of_getElem? (i := 38) rfl)) (by decide) e309 (rmV l Z a0 hw [] p3 (3 : Int32) b3 h309 n0 Z309 hb3) (by decide) (W := 2) (by decide) rfl (by rw [hml]; show Ls6.size = _; rw [hLs6]; rfl) (argsL := [.long p3, .int (3 : Int32)]) (rest := [(.int (3 : Int32)), (.ref rb)]) (lenOf pdV rfl) rfl (Nat.le_of_eq rfl) (hb hby at_139) rfl (by decide) (by decide) ?_
  intro T109 v109 L109 X109 hQ109
  obtain ⟨rfl, M109, e109⟩ := hQ109
  have N109 := Fr.app N309 M109
  show own_Win p e below s _ _ _ (T109.setTop (mkF m 142 Ls6 [(.double b3), (.int (3 : Int32)), (.ref rb)]))
  refine own_dastore X109 hx hZ e109 F309 (i := 3) rfl (by decide) N109 q_rb rfl rfl (hb hby at_142) ?_
  intro T310 h310 L310 X310 e310 N310 W310 F310
  show own_Win p e below s _ _ _ (T310.setTop (mkF m 143 Ls6 []))
  have Z310 : n0 ≤ h310.size := by rw [Wr.size W310]; exact Z309
  have c_E_h310 : Exa Z h310 am "com/example/mantleray/mantleray/QuadraticModel" := Exa.wr W310 c_E_h309
  have c_points_h310 : Fld Z h310 am "com/example/mantleray/mantleray/QuadraticModel" "points" "I" (.int pv) := Fld.other W310 c_points_h309 (Or.inl ne_ab)
  have c_gradient_h310 : Fld Z h310 am "com/example/mantleray/mantleray/QuadraticModel" "gradient" "[D" (.ref rg) := Fld.other W310 c_gradient_h309 (Or.inl ne_ab)
  have c_blocks_h310 : Fld Z h310 am "com/example/mantleray/mantleray/QuadraticModel" "blocks" "[D" (.ref rb) := Fld.other W310 c_blocks_h309 (Or.inl ne_ab)
  have c_coupling_h310 : Fld Z h310 am "com/example/mantleray/mantleray/QuadraticModel" "coupling" "[D" (.ref rc) := Fld.other W310 c_coupling_h309 (Or.inl ne_ab)
  have c_G_h310 : own_Da Z h310 rg 6 (own_up (own_up (own_up (own_up (own_up (own_up (fun _ => 0) 0 g0) 1 g1) 2 g2) 3 g3) 4 g4) 5 g5) := own_Av.other W310 c_G_h309 ne_gb
  have c_C_h310 : own_Da Z h310 rc 12 (fun _ => 0) := own_Av.other W310 c_C_h309 (Ne.symm ne_bc)
  refine own_st (fun _ kz => XS.aload X310.here hx rfl (v := (.ref rb)) (hb hby at_143) (by show Ls6[_]? = _; rw [hLs6]; rfl) rfl kz) ?_
  show own_Win p e below s _ _ _ (T310.setTop (mkF m 145 Ls6 [(.ref rb)]))
  refine own_st (fun _ kz => XS.iconst X310.here hx rfl (hb hby at_145) kz) ?_
  show own_Win p e below s _ _ _ (T310.setTop (mkF m 146 Ls6 [(.int (4 : Int32)), (.ref rb)]))
  refine own_st (fun _ kz => XT.lload X310.here hx rfl (v := p3) (hb hby at_146) (by show Ls6[_]? = _; rw [hLs6]; rfl) kz) ?_
  show own_Win p e below s _ _ _ (T310.setTop (mkF m 148 Ls6 [(.long p3), (.int (4 : Int32)), (.ref rb)]))
  refine own_st (fun _ kz => XS.iconst X310.here hx rfl (hb hby at_148) kz) ?_
  show own_Win p e below s _ _ _ (T310.setTop (mkF m 149 Ls6 [(.int (4 : Int32)), (.long p3), (.int (4 : Int32)), (.ref rb)]))
  refine own_callS X310 hx hZ hown (y := yV) (hw _ (List.mem_of_getElem? (i := 35) rfl)) (hw _ (List.mem_of_getElem? (i := 36) rfl)) (hw _ (List.mem_of_getElem? (i := 37) rfl)) (hw _ (List.mem_of_getElem? (i := 38) rfl)) (by decide) e310 (rmV l Z a0 hw [] p3 (4 : Int32) b4 h310 n0 Z310 hb4) (by decide) (W := 2) (by decide) rfl (by rw [hml]; show Ls6.size = _; rw [hLs6]; rfl) (argsL := [.long p3, .int (4 : Int32)]) (rest := [(.int (4 : Int32)), (.ref rb)]) (lenOf pdV rfl) rfl (Nat.le_of_eq rfl) (hb hby at_149) rfl (by decide) (by decide) ?_
  intro T110 v110 L110 X110 hQ110
  obtain ⟨rfl, M110, e110⟩ := hQ110
  have N110 := Fr.app N310 M110
  show own_Win p e below s _ _ _ (T110.setTop (mkF m 152 Ls6 [(.double b4), (.int (4 : Int32)), (.ref rb)]))
  refine own_dastore X110 hx hZ e110 F310 (i := 4) rfl (by decide) N110 q_rb rfl rfl (hb hby at_152) ?_
  intro T311 h311 L311 X311 e311 N311 W311 F311
  show own_Win p e below s _ _ _ (T311.setTop (mkF m 153 Ls6 []))
  have Z311 : n0 ≤ h311.size := by rw [Wr.size W311]; exact Z310
  have c_E_h311 : Exa Z h311 am "com/example/mantleray/mantleray/QuadraticModel" := Exa.wr W311 c_E_h310
  have c_points_h311 : Fld Z h311 am "com/example/mantleray/mantleray/QuadraticModel" "points" "I" (.int pv) := Fld.other W311 c_points_h310 (Or.inl ne_ab)
  have c_gradient_h311 : Fld Z h311 am "com/example/mantleray/mantleray/QuadraticModel" "gradient" "[D" (.ref rg) := Fld.other W311 c_gradient_h310 (Or.inl ne_ab)
  have c_blocks_h311 : Fld Z h311 am "com/example/mantleray/mantleray/QuadraticModel" "blocks" "[D" (.ref rb) := Fld.other W311 c_blocks_h310 (Or.inl ne_ab)
  have c_coupling_h311 : Fld Z h311 am "com/example/mantleray/mantleray/QuadraticModel" "coupling" "[D" (.ref rc) := Fld.other W311 c_coupling_h310 (Or.inl ne_ab)
  have c_G_h311 : own_Da Z h311 rg 6 (own_up (own_up (own_up (own_up (own_up (own_up (fun _ => 0) 0 g0) 1 g1) 2 g2) 3 g3) 4 g4) 5 g5) := own_Av.other W311 c_G_h310 ne_gb
  have c_C_h311 : own_Da Z h311 rc 12 (fun _ => 0) := own_Av.other W311 c_C_h310 (Ne.symm ne_bc)
  refine own_st (fun _ kz => XS.aload X311.here hx rfl (v := (.ref rb)) (hb hby at_153) (by show Ls6[_]? = _; rw [hLs6]; rfl) rfl kz) ?_
  show own_Win p e below s _ _ _ (T311.setTop (mkF m 155 Ls6 [(.ref rb)]))
  refine own_st (fun _ kz => XS.iconst X311.here hx rfl (hb hby at_155) kz) ?_
  show own_Win p e below s _ _ _ (T311.setTop (mkF m 156 Ls6 [(.int (5 : Int32)), (.ref rb)]))
  refine own_st (fun _ kz => XT.lload X311.here hx rfl (v := p3) (hb hby at_156) (by show Ls6[_]? = _; rw [hLs6]; rfl) kz) ?_
  show own_Win p e below s _ _ _ (T311.setTop (mkF m 158 Ls6 [(.long p3), (.int (5 : Int32)), (.ref rb)]))
  refine own_st (fun _ kz => XS.iconst X311.here hx rfl (hb hby at_158) kz) ?_
  show own_Win p e below s _ _ _ (T311.setTop (mkF m 159 Ls6 [(.int (5 : Int32)), (.long p3), (.int (5 : Int32)), (.ref rb)]))
  refine own_callS X311 hx hZ hown (y := yV) (hw _ (List.mem_of_getElem? (i := 35) rfl)) (hw _ (List.mem_of_getElem? (i := 36) rfl)) (hw _ (List.mem_of_getElem? (i := 37) rfl)) (hw _ (List.mem_of_getElem? (i := 38) rfl)) (by decide) e311 (rmV l Z a0 hw [] p3 (5 : Int32) b5 h311 n0 Z311 hb5) (by decide) (W := 2) (by decide) rfl (by rw [hml]; show Ls6.size = _; rw [hLs6]; rfl) (argsL := [.long p3, .int (5 : Int32)]) (rest := [(.int (5 : Int32)), (.ref rb)]) (lenOf pdV rfl) rfl (Nat.le_of_eq rfl) (hb hby at_159) rfl (by decide) (by decide) ?_
  intro T111 v111 L111 X111 hQ111
  obtain ⟨rfl, M111, e111⟩ := hQ111
  have N111 := Fr.app N311 M111
  show own_Win p e below s _ _ _ (T111.setTop (mkF m 162 Ls6 [(.double b5), (.int (5 : Int32)), (.ref rb)]))
  refine own_dastore X111 hx hZ e111 F311 (i := 5) rfl (by decide) N111 q_rb rfl rfl (hb hby at_162) ?_
  intro T312 h312 L312 X312 e312 N312 W312 F312
  show own_Win p e below s _ _ _ (T312.setTop (mkF m 163 Ls6 []))
  have Z312 : n0 ≤ h312.size := by rw [Wr.size W312]; exact Z311
  have c_E_h312 : Exa Z h312 am "com/example/mantleray/mantleray/QuadraticModel" := Exa.wr W312 c_E_h311
  have c_points_h312 : Fld Z h312 am "com/example/mantleray/mantleray/QuadraticModel" "points" "I" (.int pv) := Fld.other W312 c_points_h311 (Or.inl ne_ab)
  have c_gradient_h312 : Fld Z h312 am "com/example/mantleray/mantleray/QuadraticModel" "gradient" "[D" (.ref rg) := Fld.other W312 c_gradient_h311 (Or.inl ne_ab)
  have c_blocks_h312 : Fld Z h312 am "com/example/mantleray/mantleray/QuadraticModel" "blocks" "[D" (.ref rb) := Fld.other W312 c_blocks_h311 (Or.inl ne_ab)
  have c_coupling_h312 : Fld Z h312 am "com/example/mantleray/mantleray/QuadraticModel" "coupling" "[D" (.ref rc) := Fld.other W312 c_coupling_h311 (Or.inl ne_ab)
  have c_G_h312 : own_Da Z h312 rg 6 (own_up (own_up (own_up (own_up (own_up (own_up (fun _ => 0) 0 g0) 1 g1) 2 g2) 3 g3) 4 g4) 5 g5) := own_Av.other W312 c_G_h311 ne_gb
  have c_C_h312 : own_Da Z h312 rc 12 (fun _ => 0) := own_Av.other W312 c_C_h311 (Ne.symm ne_bc)
  refine own_st (fun _ kz => XS.aload X312.here hx rfl (v := (.ref rb)) (hb hby at_163) (by show Ls6[_]? = _; rw [hLs6]; rfl) rfl kz) ?_
  show own_Win p e below s _ _ _ (T312.setTop (mkF m 165 Ls6 [(.ref rb)]))
  refine own_st (fun _ kz => XS.bipush X312.here hx rfl (hb hby at_165) kz) ?_
  show own_Win p e below s _ _ _ (T312.setTop (mkF m 167 Ls6 [(.int (6 : Int32)), (.ref rb)]))
  refine own_st (fun _ kz => XT.lload X312.here hx rfl (v := p3) (hb hby at_167) (by show Ls6[_]? = _; rw [hLs6]; rfl) kz) ?_
  show own_Win p e below s _ _ _ (T312.setTop (mkF m 169 Ls6 [(.long p3), (.int (6 : Int32)), (.ref rb)]))
  refine own_st (fun _ kz => XS.bipush X312.here hx rfl (hb hby at_169) kz) ?_
  show own_Win p e below s _ _ _ (T312.setTop (mkF m 171 Ls6 [(.int (6 : Int32)), (.long p3), (.int (6 : Int32)), (.ref rb)]))
  refine own_callS X312 hx hZ hown (y := yV) (hw _ (List.mem_of_getElem? (i := 35) rfl)) (hw _ (List.mem_of_getElem? (i := 36) rfl)) (hw _ (List.mem_of_getElem? (i := 37) rfl)) (hw _ (List.mem_of_getElem? (i := 38) rfl)) (by decide) e312 (rmV l Z a0 hw [] p3 (6 : Int32) b6 h312 n0 Z312 hb6) (by decide) (W := 2) (by decide) rfl (by rw [hml]; show Ls6.size = _; rw [hLs6]; rfl) (argsL := [.long p3, .int (6 : Int32)]) (rest := [(.int (6 : Int32)), (.ref rb)]) (lenOf pdV rfl) rfl (Nat.le_of_eq rfl) (hb hby at_171) rfl (by decide) (by decide) ?_
  intro T112 v112 L112 X112 hQ112
  obtain ⟨rfl, M112, e112⟩ := hQ112
  have N112 := Fr.app N312 M112
  show own_Win p e below s _ _ _ (T112.setTop (mkF m 174 Ls6 [(.double b6), (.int (6 : Int32)), (.ref rb)]))
  refine own_dastore X112 hx hZ e112 F312 (i := 6) rfl (by decide) N112 q_rb rfl rfl (hb hby at_174) ?_
  intro T313 h313 L313 X313 e313 N313 W313 F313
  show own_Win p e below s _ _ _ (T313.setTop (mkF m 175 Ls6 []))
  have Z313 : n0 ≤ h313.size := by rw [Wr.size W313]; exact Z312
  have c_E_h313 : Exa Z h313 am "com/example/mantleray/mantleray/QuadraticModel" := Exa.wr W313 c_E_h312
  have c_points_h313 : Fld Z h313 am "com/example/mantleray/mantleray/QuadraticModel" "points" "I" (.int pv) := Fld.other W313 c_points_h312 (Or.inl ne_ab)
  have c_gradient_h313 : Fld Z h313 am "com/example/mantleray/mantleray/QuadraticModel" "gradient" "[D" (.ref rg) := Fld.other W313 c_gradient_h312 (Or.inl ne_ab)
  have c_blocks_h313 : Fld Z h313 am "com/example/mantleray/mantleray/QuadraticModel" "blocks" "[D" (.ref rb) := Fld.other W313 c_blocks_h312 (Or.inl ne_ab)
  have c_coupling_h313 : Fld Z h313 am "com/example/mantleray/mantleray/QuadraticModel" "coupling" "[D" (.ref rc) := Fld.other W313 c_coupling_h312 (Or.inl ne_ab)
  have c_G_h313 : own_Da Z h313 rg 6 (own_up (own_up (own_up (own_up (own_up (own_up (fun _ => 0) 0 g0) 1 g1) 2 g2) 3 g3) 4 g4) 5 g5) := own_Av.other W313 c_G_h312 ne_gb
  have c_C_h313 : own_Da Z h313 rc 12 (fun _ => 0) := own_Av.other W313 c_C_h312 (Ne.symm ne_bc)
  refine own_st (fun _ kz => XS.aload X313.here hx rfl (v := (.ref rb)) (hb hby at_175) (by show Ls6[_]? = _; rw [hLs6]; rfl) rfl kz) ?_
  show own_Win p e below s _ _ _ (T313.setTop (mkF m 177 Ls6 [(.ref rb)]))
  refine own_st (fun _ kz => XS.bipush X313.here hx rfl (hb hby at_177) kz) ?_
  show own_Win p e below s _ _ _ (T313.setTop (mkF m 179 Ls6 [(.int (7 : Int32)), (.ref rb)]))
  refine own_st (fun _ kz => XT.lload X313.here hx rfl (v := p3) (hb hby at_179) (by show Ls6[_]? = _; rw [hLs6]; rfl) kz) ?_
  show own_Win p e below s _ _ _ (T313.setTop (mkF m 181 Ls6 [(.long p3), (.int (7 : Int32)), (.ref rb)]))
  refine own_st (fun _ kz => XS.bipush X313.here hx rfl (hb hby at_181) kz) ?_
  show own_Win p e below s _ _ _ (T313.setTop (mkF m 183 Ls6 [(.int (7 : Int32)), (.long p3), (.int (7 : Int32)), (.ref rb)]))
  refine own_callS X313 hx hZ hown (y := yV) (hw _ (List.mem_of_getElem? (i := 35) rfl)) (hw _ (List.mem_of_getElem? (i := 36) rfl)) (hw _ (List.mem_of_getElem? (i := 37) rfl)) (hw _ (List.mem_of_getElem? (i := 38) rfl)) (by decide) e313 (rmV l Z a0 hw [] p3 (7 : Int32) b7 h313 n0 Z313 hb7) (by decide) (W := 2) (by decide) rfl (by rw [hml]; show Ls6.size = _; rw [hLs6]; rfl) (argsL := [.long p3, .int (7 : Int32)]) (rest := [(.int (7 : Int32)), (.ref rb)]) (lenOf pdV rfl) rfl (Nat.le_of_eq rfl) (hb hby at_183) rfl (by decide) (by decide) ?_
  intro T113 v113 L113 X113 hQ113
  obtain ⟨rfl, M113, e113⟩ := hQ113
  have N113 := Fr.app N313 M113
  show own_Win p e below s _ _ _ (T113.setTop (mkF m 186 Ls6 [(.double b7), (.int (7 : Int32)), (.ref rb)]))
  refine own_dastore X113 hx hZ e113 F313 (i := 7) rfl (by decide) N113 q_rb rfl rfl (hb hby at_186) ?_
  intro T314 h314 L314 X314 e314 N314 W314 F314
  show own_Win p e below s _ _ _ (T314.setTop (mkF m 187 Ls6 []))
  have Z314 : n0 ≤ h314.size := by rw [Wr.size W314]; exact Z313
  have c_E_h314 : Exa Z h314 am "com/example/mantleray/mantleray/QuadraticModel" := Exa.wr W314 c_E_h313
  have c_points_h314 : Fld Z h314 am "com/example/mantleray/mantleray/QuadraticModel" "points" "I" (.int pv) := Fld.other W314 c_points_h313 (Or.inl ne_ab)
  have c_gradient_h314 : Fld Z h314 am "com/example/mantleray/mantleray/QuadraticModel" "gradient" "[D" (.ref rg) := Fld.other W314 c_gradient_h313 (Or.inl ne_ab)
  have c_blocks_h314 : Fld Z h314 am "com/example/mantleray/mantleray/QuadraticModel" "blocks" "[D" (.ref rb) := Fld.other W314 c_blocks_h313 (Or.inl ne_ab)
  have c_coupling_h314 : Fld Z h314 am "com/example/mantleray/mantleray/QuadraticModel" "coupling" "[D" (.ref rc) := Fld.other W314 c_coupling_h313 (Or.inl ne_ab)
  have c_G_h314 : own_Da Z h314 rg 6 (own_up (own_up (own_up (own_up (own_up (own_up (fun _ => 0) 0 g0) 1 g1) 2 g2) 3 g3) 4 g4) 5 g5) := own_Av.other W314 c_G_h313 ne_gb
  have c_C_h314 : own_Da Z h314 rc 12 (fun _ => 0) := own_Av.other W314 c_C_h313 (Ne.symm ne_bc)
  refine own_st (fun _ kz => XS.aload X314.here hx rfl (v := (.ref rb)) (hb hby at_187) (by show Ls6[_]? = _; rw [hLs6]; rfl) rfl kz) ?_
  show own_Win p e below s _ _ _ (T314.setTop (mkF m 189 Ls6 [(.ref rb)]))
  refine own_st (fun _ kz => XS.bipush X314.here hx rfl (hb hby at_189) kz) ?_
  show own_Win p e below s _ _ _ (T314.setTop (mkF m 191 Ls6 [(.int (8 : Int32)), (.ref rb)]))
  refine own_st (fun _ kz => XT.lload X314.here hx rfl (v := p4) (hb hby at_191) (by show Ls6[_]? = _; rw [hLs6]; rfl) kz) ?_
  show own_Win p e below s _ _ _ (T314.setTop (mkF m 193 Ls6 [(.long p4), (.int (8 : Int32)), (.ref rb)]))
  refine own_st (fun _ kz => XS.iconst X314.here hx rfl (hb hby at_193) kz) ?_
  show own_Win p e below s _ _ _ (T314.setTop (mkF m 194 Ls6 [(.int (0 : Int32)), (.long p4), (.int (8 : Int32)), (.ref rb)]))
  refine own_callS X314 hx hZ hown (y := yV) (hw _ (List.mem_of_getElem? (i := 35) rfl)) (hw _ (List.mem_of_getElem? (i := 36) rfl)) (hw _ (List.mem_of_getElem? (i := 37) rfl)) (hw _ (List.mem_of_getElem? (i := 38) rfl)) (by decide) e314 (rmV l Z a0 hw [] p4 (0 : Int32) b8 h314 n0 Z314 hb8) (by decide) (W := 2) (by decide) rfl (by rw [hml]; show Ls6.size = _; rw [hLs6]; rfl) (argsL := [.long p4, .int (0 : Int32)]) (rest := [(.int (8 : Int32)), (.ref rb)]) (lenOf pdV rfl) rfl (Nat.le_of_eq rfl) (hb hby at_194) rfl (by decide) (by decide) ?_
  intro T114 v114 L114 X114 hQ114
  obtain ⟨rfl, M114, e114⟩ := hQ114
  have N114 := Fr.app N314 M114
  show own_Win p e below s _ _ _ (T114.setTop (mkF m 197 Ls6 [(.double b8), (.int (8 : Int32)), (.ref rb)]))
  refine own_dastore X114 hx hZ e114 F314 (i := 8) rfl (by decide) N114 q_rb rfl rfl (hb hby at_197) ?_
  intro T315 h315 L315 X315 e315 N315 W315 F315
  show own_Win p e below s _ _ _ (T315.setTop (mkF m 198 Ls6 []))
  have Z315 : n0 ≤ h315.size := by rw [Wr.size W315]; exact Z314
  have c_E_h315 : Exa Z h315 am "com/example/mantleray/mantleray/QuadraticModel" := Exa.wr W315 c_E_h314
  have c_points_h315 : Fld Z h315 am "com/example/mantleray/mantleray/QuadraticModel" "points" "I" (.int pv) := Fld.other W315 c_points_h314 (Or.inl ne_ab)
  have c_gradient_h315 : Fld Z h315 am "com/example/mantleray/mantleray/QuadraticModel" "gradient" "[D" (.ref rg) := Fld.other W315 c_gradient_h314 (Or.inl ne_ab)
  have c_blocks_h315 : Fld Z h315 am "com/example/mantleray/mantleray/QuadraticModel" "blocks" "[D" (.ref rb) := Fld.other W315 c_blocks_h314 (Or.inl ne_ab)
  have c_coupling_h315 : Fld Z h315 am "com/example/mantleray/mantleray/QuadraticModel" "coupling" "[D" (.ref rc) := Fld.other W315 c_coupling_h314 (Or.inl ne_ab)
  have c_G_h315 : own_Da Z h315 rg 6 (own_up (own_up (own_up (own_up (own_up (own_up (fun _ => 0) 0 g0) 1 g1) 2 g2) 3 g3) 4 g4) 5 g5) := own_Av.other W315 c_G_h314 ne_gb
  have c_C_h315 : own_Da Z h315 rc 12 (fun _ => 0) := own_Av.other W315 c_C_h314 (Ne.symm ne_bc)
  refine own_st (fun _ kz => XS.aload X315.here hx rfl (v := (.ref rb)) (hb hby at_198) (by show Ls6[_]? = _; rw [hLs6]; rfl) rfl kz) ?_
  show own_Win p e below s _ _ _ (T315.setTop (mkF m 200 Ls6 [(.ref rb)]))
  refine own_st (fun _ kz => XS.bipush X315.here hx rfl (hb hby at_200) kz) ?_
  show own_Win p e below s _ _ _ (T315.setTop (mkF m 202 Ls6 [(.int (9 : Int32)), (.ref rb)]))
  refine own_st (fun _ kz => XT.lload X315.here hx rfl (v := p4) (hb hby at_202) (by show Ls6[_]? = _; rw [hLs6]; rfl) kz) ?_
  show own_Win p e below s _ _ _ (T315.setTop (mkF m 204 Ls6 [(.long p4), (.int (9 : Int32)), (.ref rb)]))
  refine own_st (fun _ kz => XS.iconst X315.here hx rfl (hb hby at_204) kz) ?_
  show own_Win p e below s _ _ _ (T315.setTop (mkF m 205 Ls6 [(.int (1 : Int32)), (.long p4), (.int (9 : Int32)), (.ref rb)]))
  refine own_callS X315 hx hZ hown (y := yV) (hw _ (List.mem_of_getElem? (i := 35) rfl)) (hw _ (List.mem_of_getElem? (i := 36) rfl)) (hw _ (List.mem_of_getElem? (i := 37) rfl)) (hw _ (List.mem_of_getElem? (i := 38) rfl)) (by decide) e315 (rmV l Z a0 hw [] p4 (1 : Int32) b9 h315 n0 Z315 hb9) (by decide) (W := 2) (by decide) rfl (by rw [hml]; show Ls6.size = _; rw [hLs6]; rfl) (argsL := [.long p4, .int (1 : Int32)]) (rest := [(.int (9 : Int32)), (.ref rb)]) (lenOf pdV rfl) rfl (Nat.le_of_eq rfl) (hb hby at_205) rfl (by decide) (by decide) ?_
  intro T115 v115 L115 X115 hQ115
  obtain ⟨rfl, M115, e115⟩ := hQ115
  have N115 := Fr.app N315 M115
  show own_Win p e below s _ _ _ (T115.setTop (mkF m 208 Ls6 [(.double b9), (.int (9 : Int32)), (.ref rb)]))
  refine own_dastore X115 hx hZ e115 F315 (i := 9) rfl (by decide) N115 q_rb rfl rfl (hb hby at_208) ?_
  intro T316 h316 L316 X316 e316 N316 W316 F316
  show own_Win p e below s _ _ _ (T316.setTop (mkF m 209 Ls6 []))
  have Z316 : n0 ≤ h316.size := by rw [Wr.size W316]; exact Z315
  have c_E_h316 : Exa Z h316 am "com/example/mantleray/mantleray/QuadraticModel" := Exa.wr W316 c_E_h315
  have c_points_h316 : Fld Z h316 am "com/example/mantleray/mantleray/QuadraticModel" "points" "I" (.int pv) := Fld.other W316 c_points_h315 (Or.inl ne_ab)
  have c_gradient_h316 : Fld Z h316 am "com/example/mantleray/mantleray/QuadraticModel" "gradient" "[D" (.ref rg) := Fld.other W316 c_gradient_h315 (Or.inl ne_ab)
  have c_blocks_h316 : Fld Z h316 am "com/example/mantleray/mantleray/QuadraticModel" "blocks" "[D" (.ref rb) := Fld.other W316 c_blocks_h315 (Or.inl ne_ab)
  have c_coupling_h316 : Fld Z h316 am "com/example/mantleray/mantleray/QuadraticModel" "coupling" "[D" (.ref rc) := Fld.other W316 c_coupling_h315 (Or.inl ne_ab)
  have c_G_h316 : own_Da Z h316 rg 6 (own_up (own_up (own_up (own_up (own_up (own_up (fun _ => 0) 0 g0) 1 g1) 2 g2) 3 g3) 4 g4) 5 g5) := own_Av.other W316 c_G_h315 ne_gb
  have c_C_h316 : own_Da Z h316 rc 12 (fun _ => 0) := own_Av.other W316 c_C_h315 (Ne.symm ne_bc)
  refine own_st (fun _ kz => XS.aload X316.here hx rfl (v := (.ref rb)) (hb hby at_209) (by show Ls6[_]? = _; rw [hLs6]; rfl) rfl kz) ?_
  show own_Win p e below s _ _ _ (T316.setTop (mkF m 211 Ls6 [(.ref rb)]))
  refine own_st (fun _ kz => XS.bipush X316.here hx rfl (hb hby at_211) kz) ?_
  show own_Win p e below s _ _ _ (T316.setTop (mkF m 213 Ls6 [(.int (10 : Int32)), (.ref rb)]))
  refine own_st (fun _ kz => XT.lload X316.here hx rfl (v := p4) (hb hby at_213) (by show Ls6[_]? = _; rw [hLs6]; rfl) kz) ?_
  show own_Win p e below s _ _ _ (T316.setTop (mkF m 215 Ls6 [(.long p4), (.int (10 : Int32)), (.ref rb)]))
  refine own_st (fun _ kz => XS.iconst X316.here hx rfl (hb hby at_215) kz) ?_
  show own_Win p e below s _ _ _ (T316.setTop (mkF m 216 Ls6 [(.int (2 : Int32)), (.long p4), (.int (10 : Int32)), (.ref rb)]))
  refine own_callS X316 hx hZ hown (y := yV) (hw _ (List.mem_of_getElem? (i := 35) rfl)) (hw _ (List.mem_of_getElem? (i := 36) rfl)) (hw _ (List.mem_of_getElem? (i := 37) rfl)) (hw _ (List.mem_of_getElem? (i := 38) rfl)) (by decide) e316 (rmV l Z a0 hw [] p4 (2 : Int32) b10 h316 n0 Z316 hb10) (by decide) (W := 2) (by decide) rfl (by rw [hml]; show Ls6.size = _; rw [hLs6]; rfl) (argsL := [.long p4, .int (2 : Int32)]) (rest := [(.int (10 : Int32)), (.ref rb)]) (lenOf pdV rfl) rfl (Nat.le_of_eq rfl) (hb hby at_216) rfl (by decide) (by decide) ?_
  intro T116 v116 L116 X116 hQ116
  obtain ⟨rfl, M116, e116⟩ := hQ116
  have N116 := Fr.app N316 M116
  show own_Win p e below s _ _ _ (T116.setTop (mkF m 219 Ls6 [(.double b10), (.int (10 : Int32)), (.ref rb)]))
  refine own_dastore X116 hx hZ e116 F316 (i := 10) rfl (by decide) N116 q_rb rfl rfl (hb hby at_219) ?_
  intro T317 h317 L317 X317 e317 N317 W317 F317
  show own_Win p e below s _ _ _ (T317.setTop (mkF m 220 Ls6 []))
  have Z317 : n0 ≤ h317.size := by rw [Wr.size W317]; exact Z316
  have c_E_h317 : Exa Z h317 am "com/example/mantleray/mantleray/QuadraticModel" := Exa.wr W317 c_E_h316
  have c_points_h317 : Fld Z h317 am "com/example/mantleray/mantleray/QuadraticModel" "points" "I" (.int pv) := Fld.other W317 c_points_h316 (Or.inl ne_ab)
  have c_gradient_h317 : Fld Z h317 am "com/example/mantleray/mantleray/QuadraticModel" "gradient" "[D" (.ref rg) := Fld.other W317 c_gradient_h316 (Or.inl ne_ab)
  have c_blocks_h317 : Fld Z h317 am "com/example/mantleray/mantleray/QuadraticModel" "blocks" "[D" (.ref rb) := Fld.other W317 c_blocks_h316 (Or.inl ne_ab)
  have c_coupling_h317 : Fld Z h317 am "com/example/mantleray/mantleray/QuadraticModel" "coupling" "[D" (.ref rc) := Fld.other W317 c_coupling_h316 (Or.inl ne_ab)
  have c_G_h317 : own_Da Z h317 rg 6 (own_up (own_up (own_up (own_up (own_up (own_up (fun _ => 0) 0 g0) 1 g1) 2 g2) 3 g3) 4 g4) 5 g5) := own_Av.other W317 c_G_h316 ne_gb
  have c_C_h317 : own_Da Z h317 rc 12 (fun _ => 0) := own_Av.other W317 c_C_h316 (Ne.symm ne_bc)
  refine own_st (fun _ kz => XS.aload X317.here hx rfl (v := (.ref rb)) (hb hby at_220) (by show Ls6[_]? = _; rw [hLs6]; rfl) rfl kz) ?_
  show own_Win p e below s _ _ _ (T317.setTop (mkF m 222 Ls6 [(.ref rb)]))
  refine own_st (fun _ kz => XS.bipush X317.here hx rfl (hb hby at_222) kz) ?_
  show own_Win p e below s _ _ _ (T317.setTop (mkF m 224 Ls6 [(.int (11 : Int32)), (.ref rb)]))
  refine own_st (fun _ kz => XT.lload X317.here hx rfl (v := p4) (hb hby at_224) (by show Ls6[_]? = _; rw [hLs6]; rfl) kz) ?_
  show own_Win p e below s _ _ _ (T317.setTop (mkF m 226 Ls6 [(.long p4), (.int (11 : Int32)), (.ref rb)]))
  refine own_st (fun _ kz => XS.iconst X317.here hx rfl (hb hby at_226) kz) ?_
  show own_Win p e below s _ _ _ (T317.setTop (mkF m 227 Ls6 [(.int (3 : Int32)), (.long p4), (.int (11 : Int32)), (.ref rb)]))
  refine own_callS X317 hx hZ hown (y := yV) (hw _ (List.mem_of_getElem? (i := 35) rfl)) (hw _ (List.mem_of_getElem? (i := 36) rfl)) (hw _ (List.mem_of_getElem? (i := 37) rfl)) (hw _ (List.mem_of_getElem? (i := 38) rfl)) (by decide) e317 (rmV l Z a0 hw [] p4 (3 : Int32) b11 h317 n0 Z317 hb11) (by decide) (W := 2) (by decide) rfl (by rw [hml]; show Ls6.size = _; rw [hLs6]; rfl) (argsL := [.long p4, .int (3 : Int32)]) (rest := [(.int (11 : Int32)), (.ref rb)]) (lenOf pdV rfl) rfl (Nat.le_of_eq rfl) (hb hby at_227) rfl (by decide) (by decide) ?_
  intro T117 v117 L117 X117 hQ117
  obtain ⟨rfl, M117, e117⟩ := hQ117
  have N117 := Fr.app N317 M117
  show own_Win p e below s _ _ _ (T117.setTop (mkF m 230 Ls6 [(.double b11), (.int (11 : Int32)), (.ref rb)]))
  refine own_dastore X117 hx hZ e117 F317 (i := 11) rfl (by decide) N117 q_rb rfl rfl (hb hby at_230) ?_
  intro T318 h318 L318 X318 e318 N318 W318 F318
  show own_Win p e below s _ _ _ (T318.setTop (mkF m 231 Ls6 []))
  have Z318 : n0 ≤ h318.size := by rw [Wr.size W318]; exact Z317
  have c_E_h318 : Exa Z h318 am "com/example/mantleray/mantleray/QuadraticModel" := Exa.wr W318 c_E_h317
  have c_points_h318 : Fld Z h318 am "com/example/mantleray/mantleray/QuadraticModel" "points" "I" (.int pv) := Fld.other W318 c_points_h317 (Or.inl ne_ab)
  have c_gradient_h318 : Fld Z h318 am "com/example/mantleray/mantleray/QuadraticModel" "gradient" "[D" (.ref rg) := Fld.other W318 c_gradient_h317 (Or.inl ne_ab)
  have c_blocks_h318 : Fld Z h318 am "com/example/mantleray/mantleray/QuadraticModel" "blocks" "[D" (.ref rb) := Fld.other W318 c_blocks_h317 (Or.inl ne_ab)
  have c_coupling_h318 : Fld Z h318 am "com/example/mantleray/mantleray/QuadraticModel" "coupling" "[D" (.ref rc) := Fld.other W318 c_coupling_h317 (Or.inl ne_ab)
  have c_G_h318 : own_Da Z h318 rg 6 (own_up (own_up (own_up (own_up (own_up (own_up (fun _ => 0) 0 g0) 1 g1) 2 g2) 3 g3) 4 g4) 5 g5) := own_Av.other W318 c_G_h317 ne_gb
  have c_C_h318 : own_Da Z h318 rc 12 (fun _ => 0) := own_Av.other W318 c_C_h317 (Ne.symm ne_bc)
  refine own_st (fun _ kz => XS.aload X318.here hx rfl (v := (.ref rc)) (hb hby at_231) (by show Ls6[_]? = _; rw [hLs6]; rfl) rfl kz) ?_
  show own_Win p e below s _ _ _ (T318.setTop (mkF m 233 Ls6 [(.ref rc)]))
  refine own_st (fun _ kz => XS.iconst X318.here hx rfl (hb hby at_233) kz) ?_
  show own_Win p e below s _ _ _ (T318.setTop (mkF m 234 Ls6 [(.int (0 : Int32)), (.ref rc)]))
  refine own_st (fun _ kz => XT.lload X318.here hx rfl (v := p5) (hb hby at_234) (by show Ls6[_]? = _; rw [hLs6]; rfl) kz) ?_
  show own_Win p e below s _ _ _ (T318.setTop (mkF m 236 Ls6 [(.long p5), (.int (0 : Int32)), (.ref rc)]))
  refine own_st (fun _ kz => XS.iconst X318.here hx rfl (hb hby at_236) kz) ?_
  show own_Win p e below s _ _ _ (T318.setTop (mkF m 237 Ls6 [(.int (0 : Int32)), (.long p5), (.int (0 : Int32)), (.ref rc)]))
  refine own_callS X318 hx hZ hown (y := yV) (hw _ (List.mem_of_getElem? (i := 35) rfl)) (hw _ (List.mem_of_getElem? (i := 36) rfl)) (hw _ (List.mem_of_getElem? (i := 37) rfl)) (hw _ (List.mem_of_getElem? (i := 38) rfl)) (by decide) e318 (rmV l Z a0 hw [] p5 (0 : Int32) c0 h318 n0 Z318 hc0) (by decide) (W := 2) (by decide) rfl (by rw [hml]; show Ls6.size = _; rw [hLs6]; rfl) (argsL := [.long p5, .int (0 : Int32)]) (rest := [(.int (0 : Int32)), (.ref rc)]) (lenOf pdV rfl) rfl (Nat.le_of_eq rfl) (hb hby at_237) rfl (by decide) (by decide) ?_
  intro T118 v118 L118 X118 hQ118
  obtain ⟨rfl, M118, e118⟩ := hQ118
  have N118 := Fr.app N318 M118
  show own_Win p e below s _ _ _ (T118.setTop (mkF m 240 Ls6 [(.double c0), (.int (0 : Int32)), (.ref rc)]))
  refine own_dastore X118 hx hZ e118 c_C_h318 (i := 0) rfl (by decide) N118 q_rc rfl rfl (hb hby at_240) ?_
  intro T319 h319 L319 X319 e319 N319 W319 F319
  show own_Win p e below s _ _ _ (T319.setTop (mkF m 241 Ls6 []))
  have Z319 : n0 ≤ h319.size := by rw [Wr.size W319]; exact Z318
  have c_E_h319 : Exa Z h319 am "com/example/mantleray/mantleray/QuadraticModel" := Exa.wr W319 c_E_h318
  have c_points_h319 : Fld Z h319 am "com/example/mantleray/mantleray/QuadraticModel" "points" "I" (.int pv) := Fld.other W319 c_points_h318 (Or.inl ne_ac)
  have c_gradient_h319 : Fld Z h319 am "com/example/mantleray/mantleray/QuadraticModel" "gradient" "[D" (.ref rg) := Fld.other W319 c_gradient_h318 (Or.inl ne_ac)
  have c_blocks_h319 : Fld Z h319 am "com/example/mantleray/mantleray/QuadraticModel" "blocks" "[D" (.ref rb) := Fld.other W319 c_blocks_h318 (Or.inl ne_ac)
  have c_coupling_h319 : Fld Z h319 am "com/example/mantleray/mantleray/QuadraticModel" "coupling" "[D" (.ref rc) := Fld.other W319 c_coupling_h318 (Or.inl ne_ac)
  have c_G_h319 : own_Da Z h319 rg 6 (own_up (own_up (own_up (own_up (own_up (own_up (fun _ => 0) 0 g0) 1 g1) 2 g2) 3 g3) 4 g4) 5 g5) := own_Av.other W319 c_G_h318 ne_gc
  have c_B_h319 : own_Da Z h319 rb 12 (own_up (own_up (own_up (own_up (own_up (own_up (own_up (own_up (own_up (own_up (own_up (own_up (fun _ => 0) 0 b0) 1 b1) 2 b2) 3 b3) 4 b4) 5 b5) 6 b6) 7 b7) 8 b8) 9 b9) 10 b10) 11 b11) := own_Av.other W319 F318 ne_bc
  refine own_st (fun _ kz => XS.aload X319.here hx rfl (v := (.ref rc)) (hb hby at_241) (by show Ls6[_]? = _; rw [hLs6]; rfl) rfl kz) ?_
  show own_Win p e below s _ _ _ (T319.setTop (mkF m 243 Ls6 [(.ref rc)]))
  refine own_st (fun _ kz => XS.iconst X319.here hx rfl (hb hby at_243) kz) ?_
  show own_Win p e below s _ _ _ (T319.setTop (mkF m 244 Ls6 [(.int (1 : Int32)), (.ref rc)]))
  refine own_st (fun _ kz => XT.lload X319.here hx rfl (v := p5) (hb hby at_244) (by show Ls6[_]? = _; rw [hLs6]; rfl) kz) ?_
  show own_Win p e below s _ _ _ (T319.setTop (mkF m 246 Ls6 [(.long p5), (.int (1 : Int32)), (.ref rc)]))
  refine own_st (fun _ kz => XS.iconst X319.here hx rfl (hb hby at_246) kz) ?_
  show own_Win p e below s _ _ _ (T319.setTop (mkF m 247 Ls6 [(.int (1 : Int32)), (.long p5), (.int (1 : Int32)), (.ref rc)]))
  refine own_callS X319 hx hZ hown (y := yV) (hw _ (List.mem_of_getElem? (i := 35) rfl)) (hw _ (List.mem_of_getElem? (i := 36) rfl)) (hw _ (List.mem_of_getElem? (i := 37) rfl)) (hw _ (List.mem_of_getElem? (i := 38) rfl)) (by decide) e319 (rmV l Z a0 hw [] p5 (1 : Int32) c1 h319 n0 Z319 hc1) (by decide) (W := 2) (by decide) rfl (by rw [hml]; show Ls6.size = _; rw [hLs6]; rfl) (argsL := [.long p5, .int (1 : Int32)]) (rest := [(.int (1 : Int32)), (.ref rc)]) (lenOf pdV rfl) rfl (Nat.le_of_eq rfl) (hb hby at_247) rfl (by decide) (by decide) ?_
  intro T119 v119 L119 X119 hQ119
  obtain ⟨rfl, M119, e119⟩ := hQ119
  have N119 := Fr.app N319 M119
  show own_Win p e below s _ _ _ (T119.setTop (mkF m 250 Ls6 [(.double c1), (.int (1 : Int32)), (.ref rc)]))
  refine own_dastore X119 hx hZ e119 F319 (i := 1) rfl (by decide) N119 q_rc rfl rfl (hb hby at_250) ?_
  intro T320 h320 L320 X320 e320 N320 W320 F320
  show own_Win p e below s _ _ _ (T320.setTop (mkF m 251 Ls6 []))
  have Z320 : n0 ≤ h320.size := by rw [Wr.size W320]; exact Z319
  have c_E_h320 : Exa Z h320 am "com/example/mantleray/mantleray/QuadraticModel" := Exa.wr W320 c_E_h319
  have c_points_h320 : Fld Z h320 am "com/example/mantleray/mantleray/QuadraticModel" "points" "I" (.int pv) := Fld.other W320 c_points_h319 (Or.inl ne_ac)
  have c_gradient_h320 : Fld Z h320 am "com/example/mantleray/mantleray/QuadraticModel" "gradient" "[D" (.ref rg) := Fld.other W320 c_gradient_h319 (Or.inl ne_ac)
  have c_blocks_h320 : Fld Z h320 am "com/example/mantleray/mantleray/QuadraticModel" "blocks" "[D" (.ref rb) := Fld.other W320 c_blocks_h319 (Or.inl ne_ac)
  have c_coupling_h320 : Fld Z h320 am "com/example/mantleray/mantleray/QuadraticModel" "coupling" "[D" (.ref rc) := Fld.other W320 c_coupling_h319 (Or.inl ne_ac)
  have c_G_h320 : own_Da Z h320 rg 6 (own_up (own_up (own_up (own_up (own_up (own_up (fun _ => 0) 0 g0) 1 g1) 2 g2) 3 g3) 4 g4) 5 g5) := own_Av.other W320 c_G_h319 ne_gc
  have c_B_h320 : own_Da Z h320 rb 12 (own_up (own_up (own_up (own_up (own_up (own_up (own_up (own_up (own_up (own_up (own_up (own_up (fun _ => 0) 0 b0) 1 b1) 2 b2) 3 b3) 4 b4) 5 b5) 6 b6) 7 b7) 8 b8) 9 b9) 10 b10) 11 b11) := own_Av.other W320 c_B_h319 ne_bc
  refine own_st (fun _ kz => XS.aload X320.here hx rfl (v := (.ref rc)) (hb hby at_251) (by show Ls6[_]? = _; rw [hLs6]; rfl) rfl kz) ?_
  show own_Win p e below s _ _ _ (T320.setTop (mkF m 253 Ls6 [(.ref rc)]))
  refine own_st (fun _ kz => XS.iconst X320.here hx rfl (hb hby at_253) kz) ?_
  show own_Win p e below s _ _ _ (T320.setTop (mkF m 254 Ls6 [(.int (2 : Int32)), (.ref rc)]))
  refine own_st (fun _ kz => XT.lload X320.here hx rfl (v := p5) (hb hby at_254) (by show Ls6[_]? = _; rw [hLs6]; rfl) kz) ?_
  show own_Win p e below s _ _ _ (T320.setTop (mkF m 256 Ls6 [(.long p5), (.int (2 : Int32)), (.ref rc)]))
  refine own_st (fun _ kz => XS.iconst X320.here hx rfl (hb hby at_256) kz) ?_
  show own_Win p e below s _ _ _ (T320.setTop (mkF m 257 Ls6 [(.int (2 : Int32)), (.long p5), (.int (2 : Int32)), (.ref rc)]))
  refine own_callS X320 hx hZ hown (y := yV) (hw _ (List.mem_of_getElem? (i := 35) rfl)) (hw _ (List.mem_of_getElem? (i := 36) rfl)) (hw _ (List.mem_of_getElem? (i := 37) rfl)) (hw _ (List.mem_of_getElem? (i := 38) rfl)) (by decide) e320 (rmV l Z a0 hw [] p5 (2 : Int32) c2 h320 n0 Z320 hc2) (by decide) (W := 2) (by decide) rfl (by rw [hml]; show Ls6.size = _; rw [hLs6]; rfl) (argsL := [.long p5, .int (2 : Int32)]) (rest := [(.int (2 : Int32)), (.ref rc)]) (lenOf pdV rfl) rfl (Nat.le_of_eq rfl) (hb hby at_257) rfl (by decide) (by decide) ?_
  intro T120 v120 L120 X120 hQ120
  obtain ⟨rfl, M120, e120⟩ := hQ120
  have N120 := Fr.app N320 M120
  show own_Win p e below s _ _ _ (T120.setTop (mkF m 260 Ls6 [(.double c2), (.int (2 : Int32)), (.ref rc)]))
  refine own_dastore X120 hx hZ e120 F320 (i := 2) rfl (by decide) N120 q_rc rfl rfl (hb hby at_260) ?_
  intro T321 h321 L321 X321 e321 N321 W321 F321
  show own_Win p e below s _ _ _ (T321.setTop (mkF m 261 Ls6 []))
  have Z321 : n0 ≤ h321.size := by rw [Wr.size W321]; exact Z320
  have c_E_h321 : Exa Z h321 am "com/example/mantleray/mantleray/QuadraticModel" := Exa.wr W321 c_E_h320
  have c_points_h321 : Fld Z h321 am "com/example/mantleray/mantleray/QuadraticModel" "points" "I" (.int pv) := Fld.other W321 c_points_h320 (Or.inl ne_ac)
  have c_gradient_h321 : Fld Z h321 am "com/example/mantleray/mantleray/QuadraticModel" "gradient" "[D" (.ref rg) := Fld.other W321 c_gradient_h320 (Or.inl ne_ac)
  have c_blocks_h321 : Fld Z h321 am "com/example/mantleray/mantleray/QuadraticModel" "blocks" "[D" (.ref rb) := Fld.other W321 c_blocks_h320 (Or.inl ne_ac)
  have c_coupling_h321 : Fld Z h321 am "com/example/mantleray/mantleray/QuadraticModel" "coupling" "[D" (.ref rc) := Fld.other W321 c_coupling_h320 (Or.inl ne_ac)
  have c_G_h321 : own_Da Z h321 rg 6 (own_up (own_up (own_up (own_up (own_up (own_up (fun _ => 0) 0 g0) 1 g1) 2 g2) 3 g3) 4 g4) 5 g5) := own_Av.other W321 c_G_h320 ne_gc
  have c_B_h321 : own_Da Z h321 rb 12 (own_up (own_up (own_up (own_up (own_up (own_up (own_up (own_up (own_up (own_up (own_up (own_up (fun _ => 0) 0 b0) 1 b1) 2 b2) 3 b3) 4 b4) 5 b5) 6 b6) 7 b7) 8 b8) 9 b9) 10 b10) 11 b11) := own_Av.other W321 c_B_h320 ne_bc
  refine own_st (fun _ kz => XS.aload X321.here hx rfl (v := (.ref rc)) (hb hby at_261) (by show Ls6[_]? = _; rw [hLs6]; rfl) rfl kz) ?_
  show own_Win p e below s _ _ _ (T321.setTop (mkF m 263 Ls6 [(.ref rc)]))
  refine own_st (fun _ kz => XS.iconst X321.here hx rfl (hb hby at_263) kz) ?_
  show own_Win p e below s _ _ _ (T321.setTop (mkF m 264 Ls6 [(.int (3 : Int32)), (.ref rc)]))
  refine own_st (fun _ kz => XT.lload X321.here hx rfl (v := p5) (hb hby at_264) (by show Ls6[_]? = _; rw [hLs6]; rfl) kz) ?_
  show own_Win p e below s _ _ _ (T321.setTop (mkF m 266 Ls6 [(.long p5), (.int (3 : Int32)), (.ref rc)]))
  refine own_st (fun _ kz => XS.iconst X321.here hx rfl (hb hby at_266) kz) ?_
  show own_Win p e below s _ _ _ (T321.setTop (mkF m 267 Ls6 [(.int (3 : Int32)), (.long p5), (.int (3 : Int32)), (.ref rc)]))
  refine own_callS X321 hx hZ hown (y := yV) (hw _ (List.mem_of_getElem? (i := 35) rfl)) (hw _ (List.mem_of_getElem? (i := 36) rfl)) (hw _ (List.mem_of_getElem? (i := 37) rfl)) (hw _ (List.mem_of_getElem? (i := 38) rfl)) (by decide) e321 (rmV l Z a0 hw [] p5 (3 : Int32) c3 h321 n0 Z321 hc3) (by decide) (W := 2) (by decide) rfl (by rw [hml]; show Ls6.size = _; rw [hLs6]; rfl) (argsL := [.long p5, .int (3 : Int32)]) (rest := [(.int (3 : Int32)), (.ref rc)]) (lenOf pdV rfl) rfl (Nat.le_of_eq rfl) (hb hby at_267) rfl (by decide) (by decide) ?_
  intro T121 v121 L121 X121 hQ121
  obtain ⟨rfl, M121, e121⟩ := hQ121
  have N121 := Fr.app N321 M121
  show own_Win p e below s _ _ _ (T121.setTop (mkF m 270 Ls6 [(.double c3), (.int (3 : Int32)), (.ref rc)]))
  refine own_dastore X121 hx hZ e121 F321 (i := 3) rfl (by decide) N121 q_rc rfl rfl (hb hby at_270) ?_
  intro T322 h322 L322 X322 e322 N322 W322 F322
  show own_Win p e below s _ _ _ (T322.setTop (mkF m 271 Ls6 []))
  have Z322 : n0 ≤ h322.size := by rw [Wr.size W322]; exact Z321
  have c_E_h322 : Exa Z h322 am "com/example/mantleray/mantleray/QuadraticModel" := Exa.wr W322 c_E_h321
  have c_points_h322 : Fld Z h322 am "com/example/mantleray/mantleray/QuadraticModel" "points" "I" (.int pv) := Fld.other W322 c_points_h321 (Or.inl ne_ac)
  have c_gradient_h322 : Fld Z h322 am "com/example/mantleray/mantleray/QuadraticModel" "gradient" "[D" (.ref rg) := Fld.other W322 c_gradient_h321 (Or.inl ne_ac)
  have c_blocks_h322 : Fld Z h322 am "com/example/mantleray/mantleray/QuadraticModel" "blocks" "[D" (.ref rb) := Fld.other W322 c_blocks_h321 (Or.inl ne_ac)
  have c_coupling_h322 : Fld Z h322 am "com/example/mantleray/mantleray/QuadraticModel" "coupling" "[D" (.ref rc) := Fld.other W322 c_coupling_h321 (Or.inl ne_ac)
  have c_G_h322 : own_Da Z h322 rg 6 (own_up (own_up (own_up (own_up (own_up (own_up (fun _ => 0) 0 g0) 1 g1) 2 g2) 3 g3) 4 g4) 5 g5) := own_Av.other W322 c_G_h321 ne_gc
  have c_B_h322 : own_Da Z h322 rb 12 (own_up (own_up (own_up (own_up (own_up (own_up (own_up (own_up (own_up (own_up (own_up (own_up (fun _ => 0) 0 b0) 1 b1) 2 b2) 3 b3) 4 b4) 5 b5) 6 b6) 7 b7) 8 b8) 9 b9) 10 b10) 11 b11) := own_Av.other W322 c_B_h321 ne_bc
  refine own_st (fun _ kz => XS.aload X322.here hx rfl (v := (.ref rc)) (hb hby at_271) (by show Ls6[_]? = _; rw [hLs6]; rfl) rfl kz) ?_
  show own_Win p e below s _ _ _ (T322.setTop (mkF m 273 Ls6 [(.ref rc)]))
  refine own_st (fun _ kz => XS.iconst X322.here hx rfl (hb hby at_273) kz) ?_
  show own_Win p e below s _ _ _ (T322.setTop (mkF m 274 Ls6 [(.int (4 : Int32)), (.ref rc)]))
  refine own_st (fun _ kz => XT.lload X322.here hx rfl (v := p5) (hb hby at_274) (by show Ls6[_]? = _; rw [hLs6]; rfl) kz) ?_
  show own_Win p e below s _ _ _ (T322.setTop (mkF m 276 Ls6 [(.long p5), (.int (4 : Int32)), (.ref rc)]))
  refine own_st (fun _ kz => XS.iconst X322.here hx rfl (hb hby at_276) kz) ?_
  show own_Win p e below s _ _ _ (T322.setTop (mkF m 277 Ls6 [(.int (4 : Int32)), (.long p5), (.int (4 : Int32)), (.ref rc)]))
  refine own_callS X322 hx hZ hown (y := yV) (hw _ (List.mem_of_getElem? (i := 35) rfl)) (hw _ (List.mem_of_getElem? (i := 36) rfl)) (hw _ (List.mem_of_getElem? (i := 37) rfl)) (hw _ (List.mem_of_getElem? (i := 38) rfl)) (by decide) e322 (rmV l Z a0 hw [] p5 (4 : Int32) c4 h322 n0 Z322 hc4) (by decide) (W := 2) (by decide) rfl (by rw [hml]; show Ls6.size = _; rw [hLs6]; rfl) (argsL := [.long p5, .int (4 : Int32)]) (rest := [(.int (4 : Int32)), (.ref rc)]) (lenOf pdV rfl) rfl (Nat.le_of_eq rfl) (hb hby at_277) rfl (by decide) (by decide) ?_
  intro T122 v122 L122 X122 hQ122
  obtain ⟨rfl, M122, e122⟩ := hQ122
  have N122 := Fr.app N322 M122
  show own_Win p e below s _ _ _ (T122.setTop (mkF m 280 Ls6 [(.double c4), (.int (4 : Int32)), (.ref rc)]))
  refine own_dastore X122 hx hZ e122 F322 (i := 4) rfl (by decide) N122 q_rc rfl rfl (hb hby at_280) ?_
  intro T323 h323 L323 X323 e323 N323 W323 F323
  show own_Win p e below s _ _ _ (T323.setTop (mkF m 281 Ls6 []))
  have Z323 : n0 ≤ h323.size := by rw [Wr.size W323]; exact Z322
  have c_E_h323 : Exa Z h323 am "com/example/mantleray/mantleray/QuadraticModel" := Exa.wr W323 c_E_h322
  have c_points_h323 : Fld Z h323 am "com/example/mantleray/mantleray/QuadraticModel" "points" "I" (.int pv) := Fld.other W323 c_points_h322 (Or.inl ne_ac)
  have c_gradient_h323 : Fld Z h323 am "com/example/mantleray/mantleray/QuadraticModel" "gradient" "[D" (.ref rg) := Fld.other W323 c_gradient_h322 (Or.inl ne_ac)
  have c_blocks_h323 : Fld Z h323 am "com/example/mantleray/mantleray/QuadraticModel" "blocks" "[D" (.ref rb) := Fld.other W323 c_blocks_h322 (Or.inl ne_ac)
  have c_coupling_h323 : Fld Z h323 am "com/example/mantleray/mantleray/QuadraticModel" "coupling" "[D" (.ref rc) := Fld.other W323 c_coupling_h322 (Or.inl ne_ac)
  have c_G_h323 : own_Da Z h323 rg 6 (own_up (own_up (own_up (own_up (own_up (own_up (fun _ => 0) 0 g0) 1 g1) 2 g2) 3 g3) 4 g4) 5 g5) := own_Av.other W323 c_G_h322 ne_gc
  have c_B_h323 : own_Da Z h323 rb 12 (own_up (own_up (own_up (own_up (own_up (own_up (own_up (own_up (own_up (own_up (own_up (own_up (fun _ => 0) 0 b0) 1 b1) 2 b2) 3 b3) 4 b4) 5 b5) 6 b6) 7 b7) 8 b8) 9 b9) 10 b10) 11 b11) := own_Av.other W323 c_B_h322 ne_bc
  refine own_st (fun _ kz => XS.aload X323.here hx rfl (v := (.ref rc)) (hb hby at_281) (by show Ls6[_]? = _; rw [hLs6]; rfl) rfl kz) ?_
  show own_Win p e below s _ _ _ (T323.setTop (mkF m 283 Ls6 [(.ref rc)]))
  refine own_st (fun _ kz => XS.iconst X323.here hx rfl (hb hby at_283) kz) ?_
  show own_Win p e below s _ _ _ (T323.setTop (mkF m 284 Ls6 [(.int (5 : Int32)), (.ref rc)]))
  refine own_st (fun _ kz => XT.lload X323.here hx rfl (v := p5) (hb hby at_284) (by show Ls6[_]? = _; rw [hLs6]; rfl) kz) ?_
  show own_Win p e below s _ _ _ (T323.setTop (mkF m 286 Ls6 [(.long p5), (.int (5 : Int32)), (.ref rc)]))
  refine own_st (fun _ kz => XS.iconst X323.here hx rfl (hb hby at_286) kz) ?_
  show own_Win p e below s _ _ _ (T323.setTop (mkF m 287 Ls6 [(.int (5 : Int32)), (.long p5), (.int (5 : Int32)), (.ref rc)]))
  refine own_callS X323 hx hZ hown (y := yV) (hw _ (List.mem_of_getElem? (i := 35) rfl)) (hw _ (List.mem_of_getElem? (i := 36) rfl)) (hw _ (List.mem_of_getElem? (i := 37) rfl)) (hw _ (List.mem_of_getElem? (i := 38) rfl)) (by decide) e323 (rmV l Z a0 hw [] p5 (5 : Int32) c5 h323 n0 Z323 hc5) (by decide) (W := 2) (by decide) rfl (by rw [hml]; show Ls6.size = _; rw [hLs6]; rfl) (argsL := [.long p5, .int (5 : Int32)]) (rest := [(.int (5 : Int32)), (.ref rc)]) (lenOf pdV rfl) rfl (Nat.le_of_eq rfl) (hb hby at_287) rfl (by decide) (by decide) ?_
  intro T123 v123 L123 X123 hQ123
  obtain ⟨rfl, M123, e123⟩ := hQ123
  have N123 := Fr.app N323 M123
  show own_Win p e below s _ _ _ (T123.setTop (mkF m 290 Ls6 [(.double c5), (.int (5 : Int32)), (.ref rc)]))
  refine own_dastore X123 hx hZ e123 F323 (i := 5) rfl (by decide) N123 q_rc rfl rfl (hb hby at_290) ?_
  intro T324 h324 L324 X324 e324 N324 W324 F324
  show own_Win p e below s _ _ _ (T324.setTop (mkF m 291 Ls6 []))
  have Z324 : n0 ≤ h324.size := by rw [Wr.size W324]; exact Z323
  have c_E_h324 : Exa Z h324 am "com/example/mantleray/mantleray/QuadraticModel" := Exa.wr W324 c_E_h323
  have c_points_h324 : Fld Z h324 am "com/example/mantleray/mantleray/QuadraticModel" "points" "I" (.int pv) := Fld.other W324 c_points_h323 (Or.inl ne_ac)
  have c_gradient_h324 : Fld Z h324 am "com/example/mantleray/mantleray/QuadraticModel" "gradient" "[D" (.ref rg) := Fld.other W324 c_gradient_h323 (Or.inl ne_ac)
  have c_blocks_h324 : Fld Z h324 am "com/example/mantleray/mantleray/QuadraticModel" "blocks" "[D" (.ref rb) := Fld.other W324 c_blocks_h323 (Or.inl ne_ac)
  have c_coupling_h324 : Fld Z h324 am "com/example/mantleray/mantleray/QuadraticModel" "coupling" "[D" (.ref rc) := Fld.other W324 c_coupling_h323 (Or.inl ne_ac)
  have c_G_h324 : own_Da Z h324 rg 6 (own_up (own_up (own_up (own_up (own_up (own_up (fun _ => 0) 0 g0) 1 g1) 2 g2) 3 g3) 4 g4) 5 g5) := own_Av.other W324 c_G_h323 ne_gc
  have c_B_h324 : own_Da Z h324 rb 12 (own_up (own_up (own_up (own_up (own_up (own_up (own_up (own_up (own_up (own_up (own_up (own_up (fun _ => 0) 0 b0) 1 b1) 2 b2) 3 b3) 4 b4) 5 b5) 6 b6) 7 b7) 8 b8) 9 b9) 10 b10) 11 b11) := own_Av.other W324 c_B_h323 ne_bc
  refine own_st (fun _ kz => XS.aload X324.here hx rfl (v := (.ref rc)) (hb hby at_291) (by show Ls6[_]? = _; rw [hLs6]; rfl) rfl kz) ?_
  show own_Win p e below s _ _ _ (T324.setTop (mkF m 293 Ls6 [(.ref rc)]))
  refine own_st (fun _ kz => XS.bipush X324.here hx rfl (hb hby at_293) kz) ?_
  show own_Win p e below s _ _ _ (T324.setTop (mkF m 295 Ls6 [(.int (6 : Int32)), (.ref rc)]))
  refine own_st (fun _ kz => XT.lload X324.here hx rfl (v := p5) (hb hby at_295) (by show Ls6[_]? = _; rw [hLs6]; rfl) kz) ?_
  show own_Win p e below s _ _ _ (T324.setTop (mkF m 297 Ls6 [(.long p5), (.int (6 : Int32)), (.ref rc)]))
  refine own_st (fun _ kz => XS.bipush X324.here hx rfl (hb hby at_297) kz) ?_
  show own_Win p e below s _ _ _ (T324.setTop (mkF m 299 Ls6 [(.int (6 : Int32)), (.long p5), (.int (6 : Int32)), (.ref rc)]))
  refine own_callS X324 hx hZ hown (y := yV) (hw _ (List.mem_of_getElem? (i := 35) rfl)) (hw _ (List.mem_of_getElem? (i := 36) rfl)) (hw _ (List.mem_of_getElem? (i := 37) rfl)) (hw _ (List.mem_of_getElem? (i := 38) rfl)) (by decide) e324 (rmV l Z a0 hw [] p5 (6 : Int32) c6 h324 n0 Z324 hc6) (by decide) (W := 2) (by decide) rfl (by rw [hml]; show Ls6.size = _; rw [hLs6]; rfl) (argsL := [.long p5, .int (6 : Int32)]) (rest := [(.int (6 : Int32)), (.ref rc)]) (lenOf pdV rfl) rfl (Nat.le_of_eq rfl) (hb hby at_299) rfl (by decide) (by decide) ?_
  intro T124 v124 L124 X124 hQ124
  obtain ⟨rfl, M124, e124⟩ := hQ124
  have N124 := Fr.app N324 M124
  show own_Win p e below s _ _ _ (T124.setTop (mkF m 302 Ls6 [(.double c6), (.int (6 : Int32)), (.ref rc)]))
  refine own_dastore X124 hx hZ e124 F324 (i := 6) rfl (by decide) N124 q_rc rfl rfl (hb hby at_302) ?_
  intro T325 h325 L325 X325 e325 N325 W325 F325
  show own_Win p e below s _ _ _ (T325.setTop (mkF m 303 Ls6 []))
  have Z325 : n0 ≤ h325.size := by rw [Wr.size W325]; exact Z324
  have c_E_h325 : Exa Z h325 am "com/example/mantleray/mantleray/QuadraticModel" := Exa.wr W325 c_E_h324
  have c_points_h325 : Fld Z h325 am "com/example/mantleray/mantleray/QuadraticModel" "points" "I" (.int pv) := Fld.other W325 c_points_h324 (Or.inl ne_ac)
  have c_gradient_h325 : Fld Z h325 am "com/example/mantleray/mantleray/QuadraticModel" "gradient" "[D" (.ref rg) := Fld.other W325 c_gradient_h324 (Or.inl ne_ac)
  have c_blocks_h325 : Fld Z h325 am "com/example/mantleray/mantleray/QuadraticModel" "blocks" "[D" (.ref rb) := Fld.other W325 c_blocks_h324 (Or.inl ne_ac)
  have c_coupling_h325 : Fld Z h325 am "com/example/mantleray/mantleray/QuadraticModel" "coupling" "[D" (.ref rc) := Fld.other W325 c_coupling_h324 (Or.inl ne_ac)
  have c_G_h325 : own_Da Z h325 rg 6 (own_up (own_up (own_up (own_up (own_up (own_up (fun _ => 0) 0 g0) 1 g1) 2 g2) 3 g3) 4 g4) 5 g5) := own_Av.other W325 c_G_h324 ne_gc
  have c_B_h325 : own_Da Z h325 rb 12 (own_up (own_up (own_up (own_up (own_up (own_up (own_up (own_up (own_up (own_up (own_up (own_up (fun _ => 0) 0 b0) 1 b1) 2 b2) 3 b3) 4 b4) 5 b5) 6 b6) 7 b7) 8 b8) 9 b9) 10 b10) 11 b11) := own_Av.other W325 c_B_h324 ne_bc
  refine own_st (fun _ kz => XS.aload X325.here hx rfl (v := (.ref rc)) (hb hby at_303) (by show Ls6[_]? = _; rw [hLs6]; rfl) rfl kz) ?_
  show own_Win p e below s _ _ _ (T325.setTop (mkF m 305 Ls6 [(.ref rc)]))
  refine own_st (fun _ kz => XS.bipush X325.here hx rfl (hb hby at_305) kz) ?_
  show own_Win p e below s _ _ _ (T325.setTop (mkF m 307 Ls6 [(.int (7 : Int32)), (.ref rc)]))
  refine own_st (fun _ kz => XT.lload X325.here hx rfl (v := p5) (hb hby at_307) (by show Ls6[_]? = _; rw [hLs6]; rfl) kz) ?_
  show own_Win p e below s _ _ _ (T325.setTop (mkF m 309 Ls6 [(.long p5), (.int (7 : Int32)), (.ref rc)]))
  refine own_st (fun _ kz => XS.bipush X325.here hx rfl (hb hby at_309) kz) ?_
  show own_Win p e below s _ _ _ (T325.setTop (mkF m 311 Ls6 [(.int (7 : Int32)), (.long p5), (.int (7 : Int32)), (.ref rc)]))
  refine own_callS X325 hx hZ hown (y := yV) (hw _ (List.mem_of_getElem? (i := 35) rfl)) (hw _ (List.mem_of_getElem? (i := 36) rfl)) (hw _ (List.mem_of_getElem? (i := 37) rfl)) (hw _ (List.mem_of_getElem? (i := 38) rfl)) (by decide) e325 (rmV l Z a0 hw [] p5 (7 : Int32) c7 h325 n0 Z325 hc7) (by decide) (W := 2) (by decide) rfl (by rw [hml]; show Ls6.size = _; rw [hLs6]; rfl) (argsL := [.long p5, .int (7 : Int32)]) (rest := [(.int (7 : Int32)), (.ref rc)]) (lenOf pdV rfl) rfl (Nat.le_of_eq rfl) (hb hby at_311) rfl (by decide) (by decide) ?_
  intro T125 v125 L125 X125 hQ125
  obtain ⟨rfl, M125, e125⟩ := hQ125
  have N125 := Fr.app N325 M125
  show own_Win p e below s _ _ _ (T125.setTop (mkF m 314 Ls6 [(.double c7), (.int (7 : Int32)), (.ref rc)]))
  refine own_dastore X125 hx hZ e125 F325 (i := 7) rfl (by decide) N125 q_rc rfl rfl (hb hby at_314) ?_
  intro T326 h326 L326 X326 e326 N326 W326 F326
  show own_Win p e below s _ _ _ (T326.setTop (mkF m 315 Ls6 []))
  have Z326 : n0 ≤ h326.size := by rw [Wr.size W326]; exact Z325
  have c_E_h326 : Exa Z h326 am "com/example/mantleray/mantleray/QuadraticModel" := Exa.wr W326 c_E_h325
  have c_points_h326 : Fld Z h326 am "com/example/mantleray/mantleray/QuadraticModel" "points" "I" (.int pv) := Fld.other W326 c_points_h325 (Or.inl ne_ac)
  have c_gradient_h326 : Fld Z h326 am "com/example/mantleray/mantleray/QuadraticModel" "gradient" "[D" (.ref rg) := Fld.other W326 c_gradient_h325 (Or.inl ne_ac)
  have c_blocks_h326 : Fld Z h326 am "com/example/mantleray/mantleray/QuadraticModel" "blocks" "[D" (.ref rb) := Fld.other W326 c_blocks_h325 (Or.inl ne_ac)
  have c_coupling_h326 : Fld Z h326 am "com/example/mantleray/mantleray/QuadraticModel" "coupling" "[D" (.ref rc) := Fld.other W326 c_coupling_h325 (Or.inl ne_ac)
  have c_G_h326 : own_Da Z h326 rg 6 (own_up (own_up (own_up (own_up (own_up (own_up (fun _ => 0) 0 g0) 1 g1) 2 g2) 3 g3) 4 g4) 5 g5) := own_Av.other W326 c_G_h325 ne_gc
  have c_B_h326 : own_Da Z h326 rb 12 (own_up (own_up (own_up (own_up (own_up (own_up (own_up (own_up (own_up (own_up (own_up (own_up (fun _ => 0) 0 b0) 1 b1) 2 b2) 3 b3) 4 b4) 5 b5) 6 b6) 7 b7) 8 b8) 9 b9) 10 b10) 11 b11) := own_Av.other W326 c_B_h325 ne_bc
  refine own_st (fun _ kz => XS.aload X326.here hx rfl (v := (.ref rc)) (hb hby at_315) (by show Ls6[_]? = _; rw [hLs6]; rfl) rfl kz) ?_
  show own_Win p e below s _ _ _ (T326.setTop (mkF m 317 Ls6 [(.ref rc)]))
  refine own_st (fun _ kz => XS.bipush X326.here hx rfl (hb hby at_317) kz) ?_
  show own_Win p e below s _ _ _ (T326.setTop (mkF m 319 Ls6 [(.int (8 : Int32)), (.ref rc)]))
  refine own_st (fun _ kz => XT.lload X326.here hx rfl (v := p4) (hb hby at_319) (by show Ls6[_]? = _; rw [hLs6]; rfl) kz) ?_
  show own_Win p e below s _ _ _ (T326.setTop (mkF m 321 Ls6 [(.long p4), (.int (8 : Int32)), (.ref rc)]))
  refine own_st (fun _ kz => XS.iconst X326.here hx rfl (hb hby at_321) kz) ?_
  show own_Win p e below s _ _ _ (T326.setTop (mkF m 322 Ls6 [(.int (4 : Int32)), (.long p4), (.int (8 : Int32)), (.ref rc)]))
  refine own_callS X326 hx hZ hown (y := yV) (hw _ (List.mem_of_getElem? (i := 35) rfl)) (hw _ (List.mem_of_getElem? (i := 36) rfl)) (hw _ (List.mem_of_getElem? (i := 37) rfl)) (hw _ (List.mem_of_getElem? (i := 38) rfl)) (by decide) e326 (rmV l Z a0 hw [] p4 (4 : Int32) c8 h326 n0 Z326 hc8) (by decide) (W := 2) (by decide) rfl (by rw [hml]; show Ls6.size = _; rw [hLs6]; rfl) (argsL := [.long p4, .int (4 : Int32)]) (rest := [(.int (8 : Int32)), (.ref rc)]) (lenOf pdV rfl) rfl (Nat.le_of_eq rfl) (hb hby at_322) rfl (by decide) (by decide) ?_
  intro T126 v126 L126 X126 hQ126
  obtain ⟨rfl, M126, e126⟩ := hQ126
  have N126 := Fr.app N326 M126
  show own_Win p e below s _ _ _ (T126.setTop (mkF m 325 Ls6 [(.double c8), (.int (8 : Int32)), (.ref rc)]))
  refine own_dastore X126 hx hZ e126 F326 (i := 8) rfl (by decide) N126 q_rc rfl rfl (hb hby at_325) ?_
  intro T327 h327 L327 X327 e327 N327 W327 F327
  show own_Win p e below s _ _ _ (T327.setTop (mkF m 326 Ls6 []))
  have Z327 : n0 ≤ h327.size := by rw [Wr.size W327]; exact Z326
  have c_E_h327 : Exa Z h327 am "com/example/mantleray/mantleray/QuadraticModel" := Exa.wr W327 c_E_h326
  have c_points_h327 : Fld Z h327 am "com/example/mantleray/mantleray/QuadraticModel" "points" "I" (.int pv) := Fld.other W327 c_points_h326 (Or.inl ne_ac)
  have c_gradient_h327 : Fld Z h327 am "com/example/mantleray/mantleray/QuadraticModel" "gradient" "[D" (.ref rg) := Fld.other W327 c_gradient_h326 (Or.inl ne_ac)
  have c_blocks_h327 : Fld Z h327 am "com/example/mantleray/mantleray/QuadraticModel" "blocks" "[D" (.ref rb) := Fld.other W327 c_blocks_h326 (Or.inl ne_ac)
  have c_coupling_h327 : Fld Z h327 am "com/example/mantleray/mantleray/QuadraticModel" "coupling" "[D" (.ref rc) := Fld.other W327 c_coupling_h326 (Or.inl ne_ac)
  have c_G_h327 : own_Da Z h327 rg 6 (own_up (own_up (own_up (own_up (own_up (own_up (fun _ => 0) 0 g0) 1 g1) 2 g2) 3 g3) 4 g4) 5 g5) := own_Av.other W327 c_G_h326 ne_gc
  have c_B_h327 : own_Da Z h327 rb 12 (own_up (own_up (own_up (own_up (own_up (own_up (own_up (own_up (own_up (own_up (own_up (own_up (fun _ => 0) 0 b0) 1 b1) 2 b2) 3 b3) 4 b4) 5 b5) 6 b6) 7 b7) 8 b8) 9 b9) 10 b10) 11 b11) := own_Av.other W327 c_B_h326 ne_bc
  refine own_st (fun _ kz => XS.aload X327.here hx rfl (v := (.ref rc)) (hb hby at_326) (by show Ls6[_]? = _; rw [hLs6]; rfl) rfl kz) ?_
  show own_Win p e below s _ _ _ (T327.setTop (mkF m 328 Ls6 [(.ref rc)]))
  refine own_st (fun _ kz => XS.bipush X327.here hx rfl (hb hby at_328) kz) ?_
  show own_Win p e below s _ _ _ (T327.setTop (mkF m 330 Ls6 [(.int (9 : Int32)), (.ref rc)]))
  refine own_st (fun _ kz => XT.lload X327.here hx rfl (v := p4) (hb hby at_330) (by show Ls6[_]? = _; rw [hLs6]; rfl) kz) ?_
  show own_Win p e below s _ _ _ (T327.setTop (mkF m 332 Ls6 [(.long p4), (.int (9 : Int32)), (.ref rc)]))
  refine own_st (fun _ kz => XS.iconst X327.here hx rfl (hb hby at_332) kz) ?_
  show own_Win p e below s _ _ _ (T327.setTop (mkF m 333 Ls6 [(.int (5 : Int32)), (.long p4), (.int (9 : Int32)), (.ref rc)]))
  refine own_callS X327 hx hZ hown (y := yV) (hw _ (List.mem_of_getElem? (i := 35) rfl)) (hw _ (List.mem_of_getElem? (i := 36) rfl)) (hw _ (List.mem_of_getElem? (i := 37) rfl)) (hw _ (List.mem_of_getElem? (i := 38) rfl)) (by decide) e327 (rmV l Z a0 hw [] p4 (5 : Int32) c9 h327 n0 Z327 hc9) (by decide) (W := 2) (by decide) rfl (by rw [hml]; show Ls6.size = _; rw [hLs6]; rfl) (argsL := [.long p4, .int (5 : Int32)]) (rest := [(.int (9 : Int32)), (.ref rc)]) (lenOf pdV rfl) rfl (Nat.le_of_eq rfl) (hb hby at_333) rfl (by decide) (by decide) ?_
  intro T127 v127 L127 X127 hQ127
  obtain ⟨rfl, M127, e127⟩ := hQ127
  have N127 := Fr.app N327 M127
  show own_Win p e below s _ _ _ (T127.setTop (mkF m 336 Ls6 [(.double c9), (.int (9 : Int32)), (.ref rc)]))
  refine own_dastore X127 hx hZ e127 F327 (i := 9) rfl (by decide) N127 q_rc rfl rfl (hb hby at_336) ?_
  intro T328 h328 L328 X328 e328 N328 W328 F328
  show own_Win p e below s _ _ _ (T328.setTop (mkF m 337 Ls6 []))
  have Z328 : n0 ≤ h328.size := by rw [Wr.size W328]; exact Z327
  have c_E_h328 : Exa Z h328 am "com/example/mantleray/mantleray/QuadraticModel" := Exa.wr W328 c_E_h327
  have c_points_h328 : Fld Z h328 am "com/example/mantleray/mantleray/QuadraticModel" "points" "I" (.int pv) := Fld.other W328 c_points_h327 (Or.inl ne_ac)
  have c_gradient_h328 : Fld Z h328 am "com/example/mantleray/mantleray/QuadraticModel" "gradient" "[D" (.ref rg) := Fld.other W328 c_gradient_h327 (Or.inl ne_ac)
  have c_blocks_h328 : Fld Z h328 am "com/example/mantleray/mantleray/QuadraticModel" "blocks" "[D" (.ref rb) := Fld.other W328 c_blocks_h327 (Or.inl ne_ac)
  have c_coupling_h328 : Fld Z h328 am "com/example/mantleray/mantleray/QuadraticModel" "coupling" "[D" (.ref rc) := Fld.other W328 c_coupling_h327 (Or.inl ne_ac)
  have c_G_h328 : own_Da Z h328 rg 6 (own_up (own_up (own_up (own_up (own_up (own_up (fun _ => 0) 0 g0) 1 g1) 2 g2) 3 g3) 4 g4) 5 g5) := own_Av.other W328 c_G_h327 ne_gc
  have c_B_h328 : own_Da Z h328 rb 12 (own_up (own_up (own_up (own_up (own_up (own_up (own_up (own_up (own_up (own_up (own_up (own_up (fun _ => 0) 0 b0) 1 b1) 2 b2) 3 b3) 4 b4) 5 b5) 6 b6) 7 b7) 8 b8) 9 b9) 10 b10) 11 b11) := own_Av.other W328 c_B_h327 ne_bc
  refine own_st (fun _ kz => XS.aload X328.here hx rfl (v := (.ref rc)) (hb hby at_337) (by show Ls6[_]? = _; rw [hLs6]; rfl) rfl kz) ?_
  show own_Win p e below s _ _ _ (T328.setTop (mkF m 339 Ls6 [(.ref rc)]))
  refine own_st (fun _ kz => XS.bipush X328.here hx rfl (hb hby at_339) kz) ?_
  show own_Win p e below s _ _ _ (T328.setTop (mkF m 341 Ls6 [(.int (10 : Int32)), (.ref rc)]))
  refine own_st (fun _ kz => XT.lload X328.here hx rfl (v := p4) (hb hby at_341) (by show Ls6[_]? = _; rw [hLs6]; rfl) kz) ?_
  show own_Win p e below s _ _ _ (T328.setTop (mkF m 343 Ls6 [(.long p4), (.int (10 : Int32)), (.ref rc)]))
  refine own_st (fun _ kz => XS.bipush X328.here hx rfl (hb hby at_343) kz) ?_
  show own_Win p e below s _ _ _ (T328.setTop (mkF m 345 Ls6 [(.int (6 : Int32)), (.long p4), (.int (10 : Int32)), (.ref rc)]))
  refine own_callS X328 hx hZ hown (y := yV) (hw _ (List.mem_of_getElem? (i := 35) rfl)) (hw _ (List.mem_of_getElem? (i := 36) rfl)) (hw _ (List.mem_of_getElem? (i := 37) rfl)) (hw _ (List.mem_of_getElem? (i := 38) rfl)) (by decide) e328 (rmV l Z a0 hw [] p4 (6 : Int32) c10 h328 n0 Z328 hc10) (by decide) (W := 2) (by decide) rfl (by rw [hml]; show Ls6.size = _; rw [hLs6]; rfl) (argsL := [.long p4, .int (6 : Int32)]) (rest := [(.int (10 : Int32)), (.ref rc)]) (lenOf pdV rfl) rfl (Nat.le_of_eq rfl) (hb hby at_345) rfl (by decide) (by decide) ?_
  intro T128 v128 L128 X128 hQ128
  obtain ⟨rfl, M128, e128⟩ := hQ128
  have N128 := Fr.app N328 M128
  show own_Win p e below s _ _ _ (T128.setTop (mkF m 348 Ls6 [(.double c10), (.int (10 : Int32)), (.ref rc)]))
  refine own_dastore X128 hx hZ e128 F328 (i := 10) rfl (by decide) N128 q_rc rfl rfl (hb hby at_348) ?_
  intro T329 h329 L329 X329 e329 N329 W329 F329
  show own_Win p e below s _ _ _ (T329.setTop (mkF m 349 Ls6 []))
  have Z329 : n0 ≤ h329.size := by rw [Wr.size W329]; exact Z328
  have c_E_h329 : Exa Z h329 am "com/example/mantleray/mantleray/QuadraticModel" := Exa.wr W329 c_E_h328
  have c_points_h329 : Fld Z h329 am "com/example/mantleray/mantleray/QuadraticModel" "points" "I" (.int pv) := Fld.other W329 c_points_h328 (Or.inl ne_ac)
  have c_gradient_h329 : Fld Z h329 am "com/example/mantleray/mantleray/QuadraticModel" "gradient" "[D" (.ref rg) := Fld.other W329 c_gradient_h328 (Or.inl ne_ac)
  have c_blocks_h329 : Fld Z h329 am "com/example/mantleray/mantleray/QuadraticModel" "blocks" "[D" (.ref rb) := Fld.other W329 c_blocks_h328 (Or.inl ne_ac)
  have c_coupling_h329 : Fld Z h329 am "com/example/mantleray/mantleray/QuadraticModel" "coupling" "[D" (.ref rc) := Fld.other W329 c_coupling_h328 (Or.inl ne_ac)
  have c_G_h329 : own_Da Z h329 rg 6 (own_up (own_up (own_up (own_up (own_up (own_up (fun _ => 0) 0 g0) 1 g1) 2 g2) 3 g3) 4 g4) 5 g5) := own_Av.other W329 c_G_h328 ne_gc
  have c_B_h329 : own_Da Z h329 rb 12 (own_up (own_up (own_up (own_up (own_up (own_up (own_up (own_up (own_up (own_up (own_up (own_up (fun _ => 0) 0 b0) 1 b1) 2 b2) 3 b3) 4 b4) 5 b5) 6 b6) 7 b7) 8 b8) 9 b9) 10 b10) 11 b11) := own_Av.other W329 c_B_h328 ne_bc
  refine own_st (fun _ kz => XS.aload X329.here hx rfl (v := (.ref rc)) (hb hby at_349) (by show Ls6[_]? = _; rw [hLs6]; rfl) rfl kz) ?_
  show own_Win p e below s _ _ _ (T329.setTop (mkF m 351 Ls6 [(.ref rc)]))
  refine own_st (fun _ kz => XS.bipush X329.here hx rfl (hb hby at_351) kz) ?_
  show own_Win p e below s _ _ _ (T329.setTop (mkF m 353 Ls6 [(.int (11 : Int32)), (.ref rc)]))
  refine own_st (fun _ kz => XT.lload X329.here hx rfl (v := p4) (hb hby at_353) (by show Ls6[_]? = _; rw [hLs6]; rfl) kz) ?_
  show own_Win p e below s _ _ _ (T329.setTop (mkF m 355 Ls6 [(.long p4), (.int (11 : Int32)), (.ref rc)]))
  refine own_st (fun _ kz => XS.bipush X329.here hx rfl (hb hby at_355) kz) ?_
  show own_Win p e below s _ _ _ (T329.setTop (mkF m 357 Ls6 [(.int (7 : Int32)), (.long p4), (.int (11 : Int32)), (.ref rc)]))
  refine own_callS X329 hx hZ hown (y := yV) (hw _ (List.mem_of_getElem? (i := 35) rfl)) (hw _ (List.mem_of_getElem? (i := 36) rfl)) (hw _ (List.mem_of_getElem? (i := 37) rfl)) (hw _ (List.mem_of_getElem? (i := 38) rfl)) (by decide) e329 (rmV l Z a0 hw [] p4 (7 : Int32) c11 h329 n0 Z329 hc11) (by decide) (W := 2) (by decide) rfl (by rw [hml]; show Ls6.size = _; rw [hLs6]; rfl) (argsL := [.long p4, .int (7 : Int32)]) (rest := [(.int (11 : Int32)), (.ref rc)]) (lenOf pdV rfl) rfl (Nat.le_of_eq rfl) (hb hby at_357) rfl (by decide) (by decide) ?_
  intro T129 v129 L129 X129 hQ129
  obtain ⟨rfl, M129, e129⟩ := hQ129
  have N129 := Fr.app N329 M129
  show own_Win p e below s _ _ _ (T129.setTop (mkF m 360 Ls6 [(.double c11), (.int (11 : Int32)), (.ref rc)]))
  refine own_dastore X129 hx hZ e129 F329 (i := 11) rfl (by decide) N129 q_rc rfl rfl (hb hby at_360) ?_
  intro T330 h330 L330 X330 e330 N330 W330 F330
  show own_Win p e below s _ _ _ (T330.setTop (mkF m 361 Ls6 []))
  have Z330 : n0 ≤ h330.size := by rw [Wr.size W330]; exact Z329
  have c_E_h330 : Exa Z h330 am "com/example/mantleray/mantleray/QuadraticModel" := Exa.wr W330 c_E_h329
  have c_points_h330 : Fld Z h330 am "com/example/mantleray/mantleray/QuadraticModel" "points" "I" (.int pv) := Fld.other W330 c_points_h329 (Or.inl ne_ac)
  have c_gradient_h330 : Fld Z h330 am "com/example/mantleray/mantleray/QuadraticModel" "gradient" "[D" (.ref rg) := Fld.other W330 c_gradient_h329 (Or.inl ne_ac)
  have c_blocks_h330 : Fld Z h330 am "com/example/mantleray/mantleray/QuadraticModel" "blocks" "[D" (.ref rb) := Fld.other W330 c_blocks_h329 (Or.inl ne_ac)
  have c_coupling_h330 : Fld Z h330 am "com/example/mantleray/mantleray/QuadraticModel" "coupling" "[D" (.ref rc) := Fld.other W330 c_coupling_h329 (Or.inl ne_ac)
  have c_G_h330 : own_Da Z h330 rg 6 (own_up (own_up (own_up (own_up (own_up (own_up (fun _ => 0) 0 g0) 1 g1) 2 g2) 3 g3) 4 g4) 5 g5) := own_Av.other W330 c_G_h329 ne_gc
  have c_B_h330 : own_Da Z h330 rb 12 (own_up (own_up (own_up (own_up (own_up (own_up (own_up (own_up (own_up (own_up (own_up (own_up (fun _ => 0) 0 b0) 1 b1) 2 b2) 3 b3) 4 b4) 5 b5) 6 b6) 7 b7) 8 b8) 9 b9) 10 b10) 11 b11) := own_Av.other W330 c_B_h329 ne_bc
  refine own_st (fun _ kz => XS.bipush X330.here hx rfl (hb hby at_361) kz) ?_
  show own_Win p e below s _ _ _ (T330.setTop (mkF m 363 Ls6 [(.int (6 : Int32))]))
  refine own_newD X330 hx hZ (hw _ (List.mem_of_getElem? (i := 18) rfl)) e330 (n := 6) (cap := 6) rfl (Nat.le_refl _) (by decide) (by decide) (by decide) rfl rfl (hb hby at_363) ?_
  intro T331 h331 a331 X331 e331 g331 E331 F331 Ex331
  show own_Win p e below s _ _ _ (T331.setTop (mkF m 365 Ls6 [(.ref a331)]))
  have ne_am_a331 : am ≠ a331 := by rw [g331]; exact Nat.ne_of_lt (Exa.lt c_E_h330)
  have ne_rg_a331 : rg ≠ a331 := by rw [g331]; exact Nat.ne_of_lt (own_Av.lt c_G_h330)
  have ne_rb_a331 : rb ≠ a331 := by rw [g331]; exact Nat.ne_of_lt (own_Av.lt c_B_h330)
  have ne_rc_a331 : rc ≠ a331 := by rw [g331]; exact Nat.ne_of_lt (own_Av.lt F330)
  have Z331 : n0 ≤ h331.size := Nat.le_trans Z330 E331.1
  have q_a331 : n0 ≤ a331 := by rw [g331]; exact Z330
  have c_E_h331 : Exa Z h331 am "com/example/mantleray/mantleray/QuadraticModel" := Exa.ext E331 c_E_h330
  have c_points_h331 : Fld Z h331 am "com/example/mantleray/mantleray/QuadraticModel" "points" "I" (.int pv) := Fld.ext E331 c_points_h330
  have c_gradient_h331 : Fld Z h331 am "com/example/mantleray/mantleray/QuadraticModel" "gradient" "[D" (.ref rg) := Fld.ext E331 c_gradient_h330
  have c_blocks_h331 : Fld Z h331 am "com/example/mantleray/mantleray/QuadraticModel" "blocks" "[D" (.ref rb) := Fld.ext E331 c_blocks_h330
  have c_coupling_h331 : Fld Z h331 am "com/example/mantleray/mantleray/QuadraticModel" "coupling" "[D" (.ref rc) := Fld.ext E331 c_coupling_h330
  have c_G_h331 : own_Da Z h331 rg 6 (own_up (own_up (own_up (own_up (own_up (own_up (fun _ => 0) 0 g0) 1 g1) 2 g2) 3 g3) 4 g4) 5 g5) := own_Av.ext E331 c_G_h330
  have c_B_h331 : own_Da Z h331 rb 12 (own_up (own_up (own_up (own_up (own_up (own_up (own_up (own_up (own_up (own_up (own_up (own_up (fun _ => 0) 0 b0) 1 b1) 2 b2) 3 b3) 4 b4) 5 b5) 6 b6) 7 b7) 8 b8) 9 b9) 10 b10) 11 b11) := own_Av.ext E331 c_B_h330
  have c_C_h331 : own_Da Z h331 rc 12 (own_up (own_up (own_up (own_up (own_up (own_up (own_up (own_up (own_up (own_up (own_up (own_up (fun _ => 0) 0 c0) 1 c1) 2 c2) 3 c3) 4 c4) 5 c5) 6 c6) 7 c7) 8 c8) 9 c9) 10 c10) 11 c11) := own_Av.ext E331 F330
  obtain ⟨Ls7, hLs7⟩ : ∃ L : Array Slot, L = #[.val (.long p1), .second, .val (.long p2), .second, .val (.long p3), .second, .val (.long p4), .second, .val (.long p5), .second, .val (.int p6), .val (.int pv), .val (.ref am), .val (.ref rg), .val (.ref rb), .val (.ref rc), .val (.ref a331), .unset, .unset, .unset, .unset, .unset, .unset, .unset, .unset, .unset, .unset, .unset, .unset, .unset, .unset, .unset, .unset, .unset, .unset, .unset, .unset, .unset, .unset, .unset, .unset, .unset, .unset, .unset, .unset, .unset, .unset, .unset, .unset, .unset, .unset, .unset, .unset, .unset, .unset, .unset, .unset, .unset, .unset, .unset, .unset, .unset, .unset, .unset, .unset, .unset, .unset, .unset, .unset, .unset, .unset, .unset, .unset, .unset, .unset, .unset, .unset, .unset, .unset, .unset, .unset, .unset, .unset, .unset, .unset, .unset, .unset, .unset, .unset] := ⟨_, rfl⟩
  refine own_st (fun _ kz => XS.astore X331.here hx rfl (hb hby at_365) rfl rfl (l' := Ls7) (by show storeLocals Ls6 _ _ = _; rw [hLs6, hLs7]; rfl) kz) ?_
  show own_Win p e below s _ _ _ (T331.setTop (mkF m 367 Ls7 []))
  refine own_st (fun _ kz => XS.aload X331.here hx rfl (v := (.ref a331)) (hb hby at_367) (by show Ls7[_]? = _; rw [hLs7]; rfl) rfl kz) ?_
  show own_Win p e below s _ _ _ (T331.setTop (mkF m 369 Ls7 [(.ref a331)]))
  refine own_st (fun _ kz => XS.iconst X331.here hx rfl (hb hby at_369) kz) ?_
  show own_Win p e below s _ _ _ (T331.setTop (mkF m 370 Ls7 [(.int (0 : Int32)), (.ref a331)]))
  refine own_st (fun _ kz => XT.lloadN X331.here hx rfl (v := p2) (hb hby at_370) (by show Ls7[_]? = _; rw [hLs7]; rfl) kz) ?_
  show own_Win p e below s _ _ _ (T331.setTop (mkF m 371 Ls7 [(.long p2), (.int (0 : Int32)), (.ref a331)]))
  refine own_st (fun _ kz => XS.iconst X331.here hx rfl (hb hby at_371) kz) ?_
  show own_Win p e below s _ _ _ (T331.setTop (mkF m 372 Ls7 [(.int (0 : Int32)), (.long p2), (.int (0 : Int32)), (.ref a331)]))
  refine own_callS X331 hx hZ hown (y := yV) (hw _ (List.mem_of_getElem? (i := 35) rfl)) (hw _ (List.mem_of_getElem? (i := 36) rfl)) (hw _ (List.mem_of_getElem? (i := 37) rfl)) (hw _ (List.mem_of_getElem? (i := 38) rfl)) (by decide) e331 (rmV l Z a0 hw [] p2 (0 : Int32) y0 h331 n0 Z331 hy0) (by decide) (W := 2) (by decide) rfl (by rw [hml]; show Ls7.size = _; rw [hLs7]; rfl) (argsL := [.long p2, .int (0 : Int32)]) (rest := [(.int (0 : Int32)), (.ref a331)]) (lenOf pdV rfl) rfl (Nat.le_of_eq rfl) (hb hby at_372) rfl (by decide) (by decide) ?_
  intro T130 v130 L130 X130 hQ130
  obtain ⟨rfl, M130, e130⟩ := hQ130
  have N130 := Fr.app N330 M130
  show own_Win p e below s _ _ _ (T130.setTop (mkF m 375 Ls7 [(.double y0), (.int (0 : Int32)), (.ref a331)]))
  refine own_dastore X130 hx hZ e130 F331 (i := 0) rfl (by decide) N130 q_a331 rfl rfl (hb hby at_375) ?_
  intro T332 h332 L332 X332 e332 N332 W332 F332
  show own_Win p e below s _ _ _ (T332.setTop (mkF m 376 Ls7 []))
  have Z332 : n0 ≤ h332.size := by rw [Wr.size W332]; exact Z331
  have c_E_h332 : Exa Z h332 am "com/example/mantleray/mantleray/QuadraticModel" := Exa.wr W332 c_E_h331
  have c_points_h332 : Fld Z h332 am "com/example/mantleray/mantleray/QuadraticModel" "points" "I" (.int pv) := Fld.other W332 c_points_h331 (Or.inl ne_am_a331)
  have c_gradient_h332 : Fld Z h332 am "com/example/mantleray/mantleray/QuadraticModel" "gradient" "[D" (.ref rg) := Fld.other W332 c_gradient_h331 (Or.inl ne_am_a331)
  have c_blocks_h332 : Fld Z h332 am "com/example/mantleray/mantleray/QuadraticModel" "blocks" "[D" (.ref rb) := Fld.other W332 c_blocks_h331 (Or.inl ne_am_a331)
  have c_coupling_h332 : Fld Z h332 am "com/example/mantleray/mantleray/QuadraticModel" "coupling" "[D" (.ref rc) := Fld.other W332 c_coupling_h331 (Or.inl ne_am_a331)
  have c_G_h332 : own_Da Z h332 rg 6 (own_up (own_up (own_up (own_up (own_up (own_up (fun _ => 0) 0 g0) 1 g1) 2 g2) 3 g3) 4 g4) 5 g5) := own_Av.other W332 c_G_h331 ne_rg_a331
  have c_B_h332 : own_Da Z h332 rb 12 (own_up (own_up (own_up (own_up (own_up (own_up (own_up (own_up (own_up (own_up (own_up (own_up (fun _ => 0) 0 b0) 1 b1) 2 b2) 3 b3) 4 b4) 5 b5) 6 b6) 7 b7) 8 b8) 9 b9) 10 b10) 11 b11) := own_Av.other W332 c_B_h331 ne_rb_a331
  have c_C_h332 : own_Da Z h332 rc 12 (own_up (own_up (own_up (own_up (own_up (own_up (own_up (own_up (own_up (own_up (own_up (own_up (fun _ => 0) 0 c0) 1 c1) 2 c2) 3 c3) 4 c4) 5 c5) 6 c6) 7 c7) 8 c8) 9 c9) 10 c10) 11 c11) := own_Av.other W332 c_C_h331 ne_rc_a331
  refine own_st (fun _ kz => XS.aload X332.here hx rfl (v := (.ref a331)) (hb hby at_376) (by show Ls7[_]? = _; rw [hLs7]; rfl) rfl kz) ?_
  show own_Win p e below s _ _ _ (T332.setTop (mkF m 378 Ls7 [(.ref a331)]))
  refine own_st (fun _ kz => XS.iconst X332.here hx rfl (hb hby at_378) kz) ?_
  show own_Win p e below s _ _ _ (T332.setTop (mkF m 379 Ls7 [(.int (1 : Int32)), (.ref a331)]))
  refine own_st (fun _ kz => XT.lloadN X332.here hx rfl (v := p2) (hb hby at_379) (by show Ls7[_]? = _; rw [hLs7]; rfl) kz) ?_
  show own_Win p e below s _ _ _ (T332.setTop (mkF m 380 Ls7 [(.long p2), (.int (1 : Int32)), (.ref a331)]))
  refine own_st (fun _ kz => XS.iconst X332.here hx rfl (hb hby at_380) kz) ?_
  show own_Win p e below s _ _ _ (T332.setTop (mkF m 381 Ls7 [(.int (1 : Int32)), (.long p2), (.int (1 : Int32)), (.ref a331)]))
  refine own_callS X332 hx hZ hown (y := yV) (hw _ (List.mem_of_getElem? (i := 35) rfl)) (hw _ (List.mem_of_getElem? (i := 36) rfl)) (hw _ (List.mem_of_getElem? (i := 37) rfl)) (hw _ (List.mem_of_getElem? (i := 38) rfl)) (by decide) e332 (rmV l Z a0 hw [] p2 (1 : Int32) y1 h332 n0 Z332 hy1) (by decide) (W := 2) (by decide) rfl (by rw [hml]; show Ls7.size = _; rw [hLs7]; rfl) (argsL := [.long p2, .int (1 : Int32)]) (rest := [(.int (1 : Int32)), (.ref a331)]) (lenOf pdV rfl) rfl (Nat.le_of_eq rfl) (hb hby at_381) rfl (by decide) (by decide) ?_
  intro T131 v131 L131 X131 hQ131
  obtain ⟨rfl, M131, e131⟩ := hQ131
  have N131 := Fr.app N332 M131
  show own_Win p e below s _ _ _ (T131.setTop (mkF m 384 Ls7 [(.double y1), (.int (1 : Int32)), (.ref a331)]))
  refine own_dastore X131 hx hZ e131 F332 (i := 1) rfl (by decide) N131 q_a331 rfl rfl (hb hby at_384) ?_
  intro T333 h333 L333 X333 e333 N333 W333 F333
  show own_Win p e below s _ _ _ (T333.setTop (mkF m 385 Ls7 []))
  have Z333 : n0 ≤ h333.size := by rw [Wr.size W333]; exact Z332
  have c_E_h333 : Exa Z h333 am "com/example/mantleray/mantleray/QuadraticModel" := Exa.wr W333 c_E_h332
  have c_points_h333 : Fld Z h333 am "com/example/mantleray/mantleray/QuadraticModel" "points" "I" (.int pv) := Fld.other W333 c_points_h332 (Or.inl ne_am_a331)
  have c_gradient_h333 : Fld Z h333 am "com/example/mantleray/mantleray/QuadraticModel" "gradient" "[D" (.ref rg) := Fld.other W333 c_gradient_h332 (Or.inl ne_am_a331)
  have c_blocks_h333 : Fld Z h333 am "com/example/mantleray/mantleray/QuadraticModel" "blocks" "[D" (.ref rb) := Fld.other W333 c_blocks_h332 (Or.inl ne_am_a331)
  have c_coupling_h333 : Fld Z h333 am "com/example/mantleray/mantleray/QuadraticModel" "coupling" "[D" (.ref rc) := Fld.other W333 c_coupling_h332 (Or.inl ne_am_a331)
  have c_G_h333 : own_Da Z h333 rg 6 (own_up (own_up (own_up (own_up (own_up (own_up (fun _ => 0) 0 g0) 1 g1) 2 g2) 3 g3) 4 g4) 5 g5) := own_Av.other W333 c_G_h332 ne_rg_a331
  have c_B_h333 : own_Da Z h333 rb 12 (own_up (own_up (own_up (own_up (own_up (own_up (own_up (own_up (own_up (own_up (own_up (own_up (fun _ => 0) 0 b0) 1 b1) 2 b2) 3 b3) 4 b4) 5 b5) 6 b6) 7 b7) 8 b8) 9 b9) 10 b10) 11 b11) := own_Av.other W333 c_B_h332 ne_rb_a331
  have c_C_h333 : own_Da Z h333 rc 12 (own_up (own_up (own_up (own_up (own_up (own_up (own_up (own_up (own_up (own_up (own_up (own_up (fun _ => 0) 0 c0) 1 c1) 2 c2) 3 c3) 4 c4) 5 c5) 6 c6) 7 c7) 8 c8) 9 c9) 10 c10) 11 c11) := own_Av.other W333 c_C_h332 ne_rc_a331
  refine own_st (fun _ kz => XS.aload X333.here hx rfl (v := (.ref a331)) (hb hby at_385) (by show Ls7[_]? = _; rw [hLs7]; rfl) rfl kz) ?_
  show own_Win p e below s _ _ _ (T333.setTop (mkF m 387 Ls7 [(.ref a331)]))
  refine own_st (fun _ kz => XS.iconst X333.here hx rfl (hb hby at_387) kz) ?_
  show own_Win p e below s _ _ _ (T333.setTop (mkF m 388 Ls7 [(.int (2 : Int32)), (.ref a331)]))
  refine own_st (fun _ kz => XT.lloadN X333.here hx rfl (v := p2) (hb hby at_388) (by show Ls7[_]? = _; rw [hLs7]; rfl) kz) ?_
  show own_Win p e below s _ _ _ (T333.setTop (mkF m 389 Ls7 [(.long p2), (.int (2 : Int32)), (.ref a331)]))
  refine own_st (fun _ kz => XS.iconst X333.here hx rfl (hb hby at_389) kz) ?_
  show own_Win p e below s _ _ _ (T333.setTop (mkF m 390 Ls7 [(.int (2 : Int32)), (.long p2), (.int (2 : Int32)), (.ref a331)]))
  refine own_callS X333 hx hZ hown (y := yV) (hw _ (List.mem_of_getElem? (i := 35) rfl)) (hw _ (List.mem_of_getElem? (i := 36) rfl)) (hw _ (List.mem_of_getElem? (i := 37) rfl)) (hw _ (List.mem_of_getElem? (i := 38) rfl)) (by decide) e333 (rmV l Z a0 hw [] p2 (2 : Int32) y2 h333 n0 Z333 hy2) (by decide) (W := 2) (by decide) rfl (by rw [hml]; show Ls7.size = _; rw [hLs7]; rfl) (argsL := [.long p2, .int (2 : Int32)]) (rest := [(.int (2 : Int32)), (.ref a331)]) (lenOf pdV rfl) rfl (Nat.le_of_eq rfl) (hb hby at_390) rfl (by decide) (by decide) ?_
  intro T132 v132 L132 X132 hQ132
  obtain ⟨rfl, M132, e132⟩ := hQ132
  have N132 := Fr.app N333 M132
  show own_Win p e below s _ _ _ (T132.setTop (mkF m 393 Ls7 [(.double y2), (.int (2 : Int32)), (.ref a331)]))
  refine own_dastore X132 hx hZ e132 F333 (i := 2) rfl (by decide) N132 q_a331 rfl rfl (hb hby at_393) ?_
  intro T334 h334 L334 X334 e334 N334 W334 F334
  show own_Win p e below s _ _ _ (T334.setTop (mkF m 394 Ls7 []))
  have Z334 : n0 ≤ h334.size := by rw [Wr.size W334]; exact Z333
  have c_E_h334 : Exa Z h334 am "com/example/mantleray/mantleray/QuadraticModel" := Exa.wr W334 c_E_h333
  have c_points_h334 : Fld Z h334 am "com/example/mantleray/mantleray/QuadraticModel" "points" "I" (.int pv) := Fld.other W334 c_points_h333 (Or.inl ne_am_a331)
  have c_gradient_h334 : Fld Z h334 am "com/example/mantleray/mantleray/QuadraticModel" "gradient" "[D" (.ref rg) := Fld.other W334 c_gradient_h333 (Or.inl ne_am_a331)
  have c_blocks_h334 : Fld Z h334 am "com/example/mantleray/mantleray/QuadraticModel" "blocks" "[D" (.ref rb) := Fld.other W334 c_blocks_h333 (Or.inl ne_am_a331)
  have c_coupling_h334 : Fld Z h334 am "com/example/mantleray/mantleray/QuadraticModel" "coupling" "[D" (.ref rc) := Fld.other W334 c_coupling_h333 (Or.inl ne_am_a331)
  have c_G_h334 : own_Da Z h334 rg 6 (own_up (own_up (own_up (own_up (own_up (own_up (fun _ => 0) 0 g0) 1 g1) 2 g2) 3 g3) 4 g4) 5 g5) := own_Av.other W334 c_G_h333 ne_rg_a331
  have c_B_h334 : own_Da Z h334 rb 12 (own_up (own_up (own_up (own_up (own_up (own_up (own_up (own_up (own_up (own_up (own_up (own_up (fun _ => 0) 0 b0) 1 b1) 2 b2) 3 b3) 4 b4) 5 b5) 6 b6) 7 b7) 8 b8) 9 b9) 10 b10) 11 b11) := own_Av.other W334 c_B_h333 ne_rb_a331
  have c_C_h334 : own_Da Z h334 rc 12 (own_up (own_up (own_up (own_up (own_up (own_up (own_up (own_up (own_up (own_up (own_up (own_up (fun _ => 0) 0 c0) 1 c1) 2 c2) 3 c3) 4 c4) 5 c5) 6 c6) 7 c7) 8 c8) 9 c9) 10 c10) 11 c11) := own_Av.other W334 c_C_h333 ne_rc_a331
  refine own_st (fun _ kz => XS.aload X334.here hx rfl (v := (.ref a331)) (hb hby at_394) (by show Ls7[_]? = _; rw [hLs7]; rfl) rfl kz) ?_
  show own_Win p e below s _ _ _ (T334.setTop (mkF m 396 Ls7 [(.ref a331)]))
  refine own_st (fun _ kz => XS.iconst X334.here hx rfl (hb hby at_396) kz) ?_
  show own_Win p e below s _ _ _ (T334.setTop (mkF m 397 Ls7 [(.int (3 : Int32)), (.ref a331)]))
  refine own_st (fun _ kz => XT.lloadN X334.here hx rfl (v := p2) (hb hby at_397) (by show Ls7[_]? = _; rw [hLs7]; rfl) kz) ?_
  show own_Win p e below s _ _ _ (T334.setTop (mkF m 398 Ls7 [(.long p2), (.int (3 : Int32)), (.ref a331)]))
  refine own_st (fun _ kz => XS.iconst X334.here hx rfl (hb hby at_398) kz) ?_
  show own_Win p e below s _ _ _ (T334.setTop (mkF m 399 Ls7 [(.int (3 : Int32)), (.long p2), (.int (3 : Int32)), (.ref a331)]))
  refine own_callS X334 hx hZ hown (y := yV) (hw _ (List.mem_of_getElem? (i := 35) rfl)) (hw _ (List.mem_of_getElem? (i := 36) rfl)) (hw _ (List.mem_of_getElem? (i := 37) rfl)) (hw _ (List.mem_of_getElem? (i := 38) rfl)) (by decide) e334 (rmV l Z a0 hw [] p2 (3 : Int32) y3 h334 n0 Z334 hy3) (by decide) (W := 2) (by decide) rfl (by rw [hml]; show Ls7.size = _; rw [hLs7]; rfl) (argsL := [.long p2, .int (3 : Int32)]) (rest := [(.int (3 : Int32)), (.ref a331)]) (lenOf pdV rfl) rfl (Nat.le_of_eq rfl) (hb hby at_399) rfl (by decide) (by decide) ?_
  intro T133 v133 L133 X133 hQ133
  obtain ⟨rfl, M133, e133⟩ := hQ133
  have N133 := Fr.app N334 M133
  show own_Win p e below s _ _ _ (T133.setTop (mkF m 402 Ls7 [(.double y3), (.int (3 : Int32)), (.ref a331)]))
  refine own_dastore X133 hx hZ e133 F334 (i := 3) rfl (by decide) N133 q_a331 rfl rfl (hb hby at_402) ?_
  intro T335 h335 L335 X335 e335 N335 W335 F335
  show own_Win p e below s _ _ _ (T335.setTop (mkF m 403 Ls7 []))
  have Z335 : n0 ≤ h335.size := by rw [Wr.size W335]; exact Z334
  have c_E_h335 : Exa Z h335 am "com/example/mantleray/mantleray/QuadraticModel" := Exa.wr W335 c_E_h334
  have c_points_h335 : Fld Z h335 am "com/example/mantleray/mantleray/QuadraticModel" "points" "I" (.int pv) := Fld.other W335 c_points_h334 (Or.inl ne_am_a331)
  have c_gradient_h335 : Fld Z h335 am "com/example/mantleray/mantleray/QuadraticModel" "gradient" "[D" (.ref rg) := Fld.other W335 c_gradient_h334 (Or.inl ne_am_a331)
  have c_blocks_h335 : Fld Z h335 am "com/example/mantleray/mantleray/QuadraticModel" "blocks" "[D" (.ref rb) := Fld.other W335 c_blocks_h334 (Or.inl ne_am_a331)
  have c_coupling_h335 : Fld Z h335 am "com/example/mantleray/mantleray/QuadraticModel" "coupling" "[D" (.ref rc) := Fld.other W335 c_coupling_h334 (Or.inl ne_am_a331)
  have c_G_h335 : own_Da Z h335 rg 6 (own_up (own_up (own_up (own_up (own_up (own_up (fun _ => 0) 0 g0) 1 g1) 2 g2) 3 g3) 4 g4) 5 g5) := own_Av.other W335 c_G_h334 ne_rg_a331
  have c_B_h335 : own_Da Z h335 rb 12 (own_up (own_up (own_up (own_up (own_up (own_up (own_up (own_up (own_up (own_up (own_up (own_up (fun _ => 0) 0 b0) 1 b1) 2 b2) 3 b3) 4 b4) 5 b5) 6 b6) 7 b7) 8 b8) 9 b9) 10 b10) 11 b11) := own_Av.other W335 c_B_h334 ne_rb_a331
  have c_C_h335 : own_Da Z h335 rc 12 (own_up (own_up (own_up (own_up (own_up (own_up (own_up (own_up (own_up (own_up (own_up (own_up (fun _ => 0) 0 c0) 1 c1) 2 c2) 3 c3) 4 c4) 5 c5) 6 c6) 7 c7) 8 c8) 9 c9) 10 c10) 11 c11) := own_Av.other W335 c_C_h334 ne_rc_a331
  refine own_st (fun _ kz => XS.aload X335.here hx rfl (v := (.ref a331)) (hb hby at_403) (by show Ls7[_]? = _; rw [hLs7]; rfl) rfl kz) ?_
  show own_Win p e below s _ _ _ (T335.setTop (mkF m 405 Ls7 [(.ref a331)]))
  refine own_st (fun _ kz => XS.iconst X335.here hx rfl (hb hby at_405) kz) ?_
  show own_Win p e below s _ _ _ (T335.setTop (mkF m 406 Ls7 [(.int (4 : Int32)), (.ref a331)]))
  refine own_st (fun _ kz => XT.lloadN X335.here hx rfl (v := p2) (hb hby at_406) (by show Ls7[_]? = _; rw [hLs7]; rfl) kz) ?_
  show own_Win p e below s _ _ _ (T335.setTop (mkF m 407 Ls7 [(.long p2), (.int (4 : Int32)), (.ref a331)]))
  refine own_st (fun _ kz => XS.iconst X335.here hx rfl (hb hby at_407) kz) ?_
  show own_Win p e below s _ _ _ (T335.setTop (mkF m 408 Ls7 [(.int (4 : Int32)), (.long p2), (.int (4 : Int32)), (.ref a331)]))
  refine own_callS X335 hx hZ hown (y := yV) (hw _ (List.mem_of_getElem? (i := 35) rfl)) (hw _ (List.mem_of_getElem? (i := 36) rfl)) (hw _ (List.mem_of_getElem? (i := 37) rfl)) (hw _ (List.mem_of_getElem? (i := 38) rfl)) (by decide) e335 (rmV l Z a0 hw [] p2 (4 : Int32) y4 h335 n0 Z335 hy4) (by decide) (W := 2) (by decide) rfl (by rw [hml]; show Ls7.size = _; rw [hLs7]; rfl) (argsL := [.long p2, .int (4 : Int32)]) (rest := [(.int (4 : Int32)), (.ref a331)]) (lenOf pdV rfl) rfl (Nat.le_of_eq rfl) (hb hby at_408) rfl (by decide) (by decide) ?_
  intro T134 v134 L134 X134 hQ134
  obtain ⟨rfl, M134, e134⟩ := hQ134
  have N134 := Fr.app N335 M134
  show own_Win p e below s _ _ _ (T134.setTop (mkF m 411 Ls7 [(.double y4), (.int (4 : Int32)), (.ref a331)]))
  refine own_dastore X134 hx hZ e134 F335 (i := 4) rfl (by decide) N134 q_a331 rfl rfl (hb hby at_411) ?_
  intro T336 h336 L336 X336 e336 N336 W336 F336
  show own_Win p e below s _ _ _ (T336.setTop (mkF m 412 Ls7 []))
  have Z336 : n0 ≤ h336.size := by rw [Wr.size W336]; exact Z335
  have c_E_h336 : Exa Z h336 am "com/example/mantleray/mantleray/QuadraticModel" := Exa.wr W336 c_E_h335
  have c_points_h336 : Fld Z h336 am "com/example/mantleray/mantleray/QuadraticModel" "points" "I" (.int pv) := Fld.other W336 c_points_h335 (Or.inl ne_am_a331)
  have c_gradient_h336 : Fld Z h336 am "com/example/mantleray/mantleray/QuadraticModel" "gradient" "[D" (.ref rg) := Fld.other W336 c_gradient_h335 (Or.inl ne_am_a331)
  have c_blocks_h336 : Fld Z h336 am "com/example/mantleray/mantleray/QuadraticModel" "blocks" "[D" (.ref rb) := Fld.other W336 c_blocks_h335 (Or.inl ne_am_a331)
  have c_coupling_h336 : Fld Z h336 am "com/example/mantleray/mantleray/QuadraticModel" "coupling" "[D" (.ref rc) := Fld.other W336 c_coupling_h335 (Or.inl ne_am_a331)
  have c_G_h336 : own_Da Z h336 rg 6 (own_up (own_up (own_up (own_up (own_up (own_up (fun _ => 0) 0 g0) 1 g1) 2 g2) 3 g3) 4 g4) 5 g5) := own_Av.other W336 c_G_h335 ne_rg_a331
  have c_B_h336 : own_Da Z h336 rb 12 (own_up (own_up (own_up (own_up (own_up (own_up (own_up (own_up (own_up (own_up (own_up (own_up (fun _ => 0) 0 b0) 1 b1) 2 b2) 3 b3) 4 b4) 5 b5) 6 b6) 7 b7) 8 b8) 9 b9) 10 b10) 11 b11) := own_Av.other W336 c_B_h335 ne_rb_a331
  have c_C_h336 : own_Da Z h336 rc 12 (own_up (own_up (own_up (own_up (own_up (own_up (own_up (own_up (own_up (own_up (own_up (own_up (fun _ => 0) 0 c0) 1 c1) 2 c2) 3 c3) 4 c4) 5 c5) 6 c6) 7 c7) 8 c8) 9 c9) 10 c10) 11 c11) := own_Av.other W336 c_C_h335 ne_rc_a331
  refine own_st (fun _ kz => XS.aload X336.here hx rfl (v := (.ref a331)) (hb hby at_412) (by show Ls7[_]? = _; rw [hLs7]; rfl) rfl kz) ?_
  show own_Win p e below s _ _ _ (T336.setTop (mkF m 414 Ls7 [(.ref a331)]))
  refine own_st (fun _ kz => XS.iconst X336.here hx rfl (hb hby at_414) kz) ?_
  show own_Win p e below s _ _ _ (T336.setTop (mkF m 415 Ls7 [(.int (5 : Int32)), (.ref a331)]))
  refine own_st (fun _ kz => XT.lloadN X336.here hx rfl (v := p2) (hb hby at_415) (by show Ls7[_]? = _; rw [hLs7]; rfl) kz) ?_
  show own_Win p e below s _ _ _ (T336.setTop (mkF m 416 Ls7 [(.long p2), (.int (5 : Int32)), (.ref a331)]))
  refine own_st (fun _ kz => XS.iconst X336.here hx rfl (hb hby at_416) kz) ?_
  show own_Win p e below s _ _ _ (T336.setTop (mkF m 417 Ls7 [(.int (5 : Int32)), (.long p2), (.int (5 : Int32)), (.ref a331)]))
  refine own_callS X336 hx hZ hown (y := yV) (hw _ (List.mem_of_getElem? (i := 35) rfl)) (hw _ (List.mem_of_getElem? (i := 36) rfl)) (hw _ (List.mem_of_getElem? (i := 37) rfl)) (hw _ (List.mem_of_getElem? (i := 38) rfl)) (by decide) e336 (rmV l Z a0 hw [] p2 (5 : Int32) y5 h336 n0 Z336 hy5) (by decide) (W := 2) (by decide) rfl (by rw [hml]; show Ls7.size = _; rw [hLs7]; rfl) (argsL := [.long p2, .int (5 : Int32)]) (rest := [(.int (5 : Int32)), (.ref a331)]) (lenOf pdV rfl) rfl (Nat.le_of_eq rfl) (hb hby at_417) rfl (by decide) (by decide) ?_
  intro T135 v135 L135 X135 hQ135
  obtain ⟨rfl, M135, e135⟩ := hQ135
  have N135 := Fr.app N336 M135
  show own_Win p e below s _ _ _ (T135.setTop (mkF m 420 Ls7 [(.double y5), (.int (5 : Int32)), (.ref a331)]))
  refine own_dastore X135 hx hZ e135 F336 (i := 5) rfl (by decide) N135 q_a331 rfl rfl (hb hby at_420) ?_
  intro T337 h337 L337 X337 e337 N337 W337 F337
  show own_Win p e below s _ _ _ (T337.setTop (mkF m 421 Ls7 []))
  have Z337 : n0 ≤ h337.size := by rw [Wr.size W337]; exact Z336
  have c_E_h337 : Exa Z h337 am "com/example/mantleray/mantleray/QuadraticModel" := Exa.wr W337 c_E_h336
  have c_points_h337 : Fld Z h337 am "com/example/mantleray/mantleray/QuadraticModel" "points" "I" (.int pv) := Fld.other W337 c_points_h336 (Or.inl ne_am_a331)
  have c_gradient_h337 : Fld Z h337 am "com/example/mantleray/mantleray/QuadraticModel" "gradient" "[D" (.ref rg) := Fld.other W337 c_gradient_h336 (Or.inl ne_am_a331)
  have c_blocks_h337 : Fld Z h337 am "com/example/mantleray/mantleray/QuadraticModel" "blocks" "[D" (.ref rb) := Fld.other W337 c_blocks_h336 (Or.inl ne_am_a331)
  have c_coupling_h337 : Fld Z h337 am "com/example/mantleray/mantleray/QuadraticModel" "coupling" "[D" (.ref rc) := Fld.other W337 c_coupling_h336 (Or.inl ne_am_a331)
  have c_G_h337 : own_Da Z h337 rg 6 (own_up (own_up (own_up (own_up (own_up (own_up (fun _ => 0) 0 g0) 1 g1) 2 g2) 3 g3) 4 g4) 5 g5) := own_Av.other W337 c_G_h336 ne_rg_a331
  have c_B_h337 : own_Da Z h337 rb 12 (own_up (own_up (own_up (own_up (own_up (own_up (own_up (own_up (own_up (own_up (own_up (own_up (fun _ => 0) 0 b0) 1 b1) 2 b2) 3 b3) 4 b4) 5 b5) 6 b6) 7 b7) 8 b8) 9 b9) 10 b10) 11 b11) := own_Av.other W337 c_B_h336 ne_rb_a331
  have c_C_h337 : own_Da Z h337 rc 12 (own_up (own_up (own_up (own_up (own_up (own_up (own_up (own_up (own_up (own_up (own_up (own_up (fun _ => 0) 0 c0) 1 c1) 2 c2) 3 c3) 4 c4) 5 c5) 6 c6) 7 c7) 8 c8) 9 c9) 10 c10) 11 c11) := own_Av.other W337 c_C_h336 ne_rc_a331
  refine own_st (fun _ kz => XS.aload X337.here hx rfl (v := (.ref am)) (hb hby at_421) (by show Ls7[_]? = _; rw [hLs7]; rfl) rfl kz) ?_
  show own_Win p e below s _ _ _ (T337.setTop (mkF m 423 Ls7 [(.ref am)]))
  refine own_st (fun _ kz => XS.aload X337.here hx rfl (v := (.ref a331)) (hb hby at_423) (by show Ls7[_]? = _; rw [hLs7]; rfl) rfl kz) ?_
  show own_Win p e below s _ _ _ (T337.setTop (mkF m 425 Ls7 [(.ref a331), (.ref am)]))
  obtain ⟨rs, hrs⟩ : ∃ z, z = a331 := ⟨_, rfl⟩
  obtain ⟨fG, hfG⟩ : ∃ f : Nat → UInt64, f = (own_up (own_up (own_up (own_up (own_up (own_up (fun _ => 0) 0 g0) 1 g1) 2 g2) 3 g3) 4 g4) 5 g5) := ⟨_, rfl⟩
  have F9_G : own_Da Z h337 rg 6 fG := by rw [hfG]; exact c_G_h337
  have n9G0 : own_N G0 (fG 0) 128 := by rw [hfG]; exact ng0
  have n9G1 : own_N G1 (fG 1) 128 := by rw [hfG]; exact ng1
  have n9G2 : own_N G2 (fG 2) 128 := by rw [hfG]; exact ng2
  have n9G3 : own_N G3 (fG 3) 128 := by rw [hfG]; exact ng3
  have n9G4 : own_N G4 (fG 4) 128 := by rw [hfG]; exact ng4
  have n9G5 : own_N G5 (fG 5) 128 := by rw [hfG]; exact ng5
  obtain ⟨fB, hfB⟩ : ∃ f : Nat → UInt64, f = (own_up (own_up (own_up (own_up (own_up (own_up (own_up (own_up (own_up (own_up (own_up (own_up (fun _ => 0) 0 b0) 1 b1) 2 b2) 3 b3) 4 b4) 5 b5) 6 b6) 7 b7) 8 b8) 9 b9) 10 b10) 11 b11) := ⟨_, rfl⟩
  have F9_B : own_Da Z h337 rb 12 fB := by rw [hfB]; exact c_B_h337
  have n9B0 : own_N B0 (fB 0) 128 := by rw [hfB]; exact nb0
  have n9B1 : own_N B1 (fB 1) 128 := by rw [hfB]; exact nb1
  have n9B2 : own_N B2 (fB 2) 128 := by rw [hfB]; exact nb2
  have n9B3 : own_N B3 (fB 3) 128 := by rw [hfB]; exact nb3
  have n9B4 : own_N B4 (fB 4) 128 := by rw [hfB]; exact nb4
  have n9B5 : own_N B5 (fB 5) 128 := by rw [hfB]; exact nb5
  have n9B6 : own_N B6 (fB 6) 128 := by rw [hfB]; exact nb6
  have n9B7 : own_N B7 (fB 7) 128 := by rw [hfB]; exact nb7
  have n9B8 : own_N B8 (fB 8) 128 := by rw [hfB]; exact nb8
  have n9B9 : own_N B9 (fB 9) 128 := by rw [hfB]; exact nb9
  have n9B10 : own_N B10 (fB 10) 128 := by rw [hfB]; exact nb10
  have n9B11 : own_N B11 (fB 11) 128 := by rw [hfB]; exact nb11
  obtain ⟨fC, hfC⟩ : ∃ f : Nat → UInt64, f = (own_up (own_up (own_up (own_up (own_up (own_up (own_up (own_up (own_up (own_up (own_up (own_up (fun _ => 0) 0 c0) 1 c1) 2 c2) 3 c3) 4 c4) 5 c5) 6 c6) 7 c7) 8 c8) 9 c9) 10 c10) 11 c11) := ⟨_, rfl⟩
  have F9_C : own_Da Z h337 rc 12 fC := by rw [hfC]; exact c_C_h337
  have n9C0 : own_N C0 (fC 0) 128 := by rw [hfC]; exact nc0
  have n9C1 : own_N C1 (fC 1) 128 := by rw [hfC]; exact nc1
  have n9C2 : own_N C2 (fC 2) 128 := by rw [hfC]; exact nc2
  have n9C3 : own_N C3 (fC 3) 128 := by rw [hfC]; exact nc3
  have n9C4 : own_N C4 (fC 4) 128 := by rw [hfC]; exact nc4
  have n9C5 : own_N C5 (fC 5) 128 := by rw [hfC]; exact nc5
  have n9C6 : own_N C6 (fC 6) 128 := by rw [hfC]; exact nc6
  have n9C7 : own_N C7 (fC 7) 128 := by rw [hfC]; exact nc7
  obtain ⟨fY, hfY⟩ : ∃ f : Nat → UInt64, f = (own_up (own_up (own_up (own_up (own_up (own_up (fun _ => 0) 0 y0) 1 y1) 2 y2) 3 y3) 4 y4) 5 y5) := ⟨_, rfl⟩
  have F9_Y : own_Da Z h337 a331 6 fY := by rw [hfY]; exact F337
  have n9Y0 : own_N Y0 (fY 0) 128 := by rw [hfY]; exact ny0
  have n9Y1 : own_N Y1 (fY 1) 128 := by rw [hfY]; exact ny1
  have n9Y2 : own_N Y2 (fY 2) 128 := by rw [hfY]; exact ny2
  have n9Y3 : own_N Y3 (fY 3) 128 := by rw [hfY]; exact ny3
  have n9Y4 : own_N Y4 (fY 4) 128 := by rw [hfY]; exact ny4
  have n9Y5 : own_N Y5 (fY 5) 128 := by rw [hfY]; exact ny5
  have tl : ∀ (T : State) (locs : List Loc), Stand p l e room_1 s m #[(.long p1), (.long p2), (.long p3), (.long p4), (.long p5), (.int p6)] below meth c T locs 16 75 → T.heap = h337 → Fr n0 locs → ∀ (got u0 u1 u2 u3 u4 u5 : UInt64) (E U0 U1 U2 U3 U4 U5 : Int) (Bd0 : Nat), own_H E got Bd0 → own_N U0 u0 128 → own_N U1 u1 128 → own_N U2 u2 128 → own_N U3 u3 128 → own_N U4 u4 128 → own_N U5 u5 128 → E = ((2 * ((((((G0 * U0) + (G1 * U1)) + (G2 * U2)) + (G3 * U3)) + (G4 * U4)) + (G5 * U5))) + ((((((U0 * ((((B0 * U0) + (B1 * U1)) + (C0 * U2)) + (C1 * U3))) + (U1 * ((((B2 * U0) + (B3 * U1)) + (C2 * U2)) + (C3 * U3)))) + (U2 * ((((((C0 * U0) + (C2 * U1)) + (B4 * U2)) + (B5 * U3)) + (C4 * U4)) + (C5 * U5)))) + (U3 * ((((((C1 * U0) + (C3 * U1)) + (B6 * U2)) + (B7 * U3)) + (C6 * U4)) + (C7 * U5)))) + (U4 * ((((C4 * U2) + (C6 * U3)) + (B8 * U4)) + (B9 * U5)))) + (U5 * ((((C5 * U2) + (C7 * U3)) + (B10 * U4)) + (B11 * U5))))) → own_Win p e below s (Q_rm0 Z p1 p2 p3 p4 p5 p6 h0 n0) room_1.cells room_1.slots (T.setTop (mkF m 524 #[.val (.long p1), .second, .val (.long p2), .second, .val (.long p3), .second, .val (.long p4), .second, .val (.long p5), .second, .val (.int p6), .val (.int pv), .val (.ref am), .val (.ref rg), .val (.ref rb), .val (.ref rc), .val (.ref a331), .val (.double got), .second, .val (.double u0), .second, .val (.double u1), .second, .val (.double u2), .second, .val (.double u3), .second, .val (.double u4), .second, .val (.double u5), .second, .unset, .unset, .unset, .unset, .unset, .unset, .unset, .unset, .unset, .unset, .unset, .unset, .unset, .unset, .unset, .unset, .unset, .unset, .unset, .unset, .unset, .unset, .unset, .unset, .unset, .unset, .unset, .unset, .unset, .unset, .unset, .unset, .unset, .unset, .unset, .unset, .unset, .unset, .unset, .unset, .unset, .unset, .unset, .unset, .unset, .unset, .unset, .unset, .unset, .unset, .unset, .unset, .unset, .unset, .unset, .unset, .unset, .unset] [])) := by
    intro T locs X eT N got u0 u1 u2 u3 u4 u5 E U0 U1 U2 U3 U4 U5 Bd0 dgot nu0 nu1 nu2 nu3 nu4 nu5 hE
    show own_Win p e below s _ _ _ (T.setTop (mkF m 524 #[.val (.long p1), .second, .val (.long p2), .second, .val (.long p3), .second, .val (.long p4), .second, .val (.long p5), .second, .val (.int p6), .val (.int pv), .val (.ref am), .val (.ref rg), .val (.ref rb), .val (.ref rc), .val (.ref a331), .val (.double got), .second, .val (.double u0), .second, .val (.double u1), .second, .val (.double u2), .second, .val (.double u3), .second, .val (.double u4), .second, .val (.double u5), .second, .unset, .unset, .unset, .unset, .unset, .unset, .unset, .unset, .unset, .unset, .unset, .unset, .unset, .unset, .unset, .unset, .unset, .unset, .unset, .unset, .unset, .unset, .unset, .unset, .unset, .unset, .unset, .unset, .unset, .unset, .unset, .unset, .unset, .unset, .unset, .unset, .unset, .unset, .unset, .unset, .unset, .unset, .unset, .unset, .unset, .unset, .unset, .unset, .unset, .unset, .unset, .unset, .unset, .unset, .unset, .unset, .unset, .unset] []))
    obtain ⟨Lt1, hLt1⟩ : ∃ L : Array Slot, L = #[.val (.long p1), .second, .val (.long p2), .second, .val (.long p3), .second, .val (.long p4), .second, .val (.long p5), .second, .val (.int p6), .val (.int pv), .val (.ref am), .val (.ref rg), .val (.ref rb), .val (.ref rc), .val (.ref a331), .val (.double got), .second, .val (.double u0), .second, .val (.double u1), .second, .val (.double u2), .second, .val (.double u3), .second, .val (.double u4), .second, .val (.double u5), .second, .unset, .unset, .unset, .unset, .unset, .unset, .unset, .unset, .unset, .unset, .unset, .unset, .unset, .unset, .unset, .unset, .unset, .unset, .unset, .unset, .unset, .unset, .unset, .unset, .unset, .unset, .unset, .unset, .unset, .unset, .unset, .unset, .unset, .unset, .unset, .unset, .unset, .unset, .unset, .unset, .unset, .unset, .unset, .unset, .unset, .unset, .unset, .unset, .unset, .unset, .unset, .unset, .unset, .unset, .unset, .unset, .unset, .unset] := ⟨_, rfl⟩
    rw [← hLt1]
    show own_Win p e below s _ _ _ (T.setTop (mkF m 524 Lt1 []))
    refine own_st (fun _ kz => XT.lload X.here hx rfl (v := p3) (hb hby at_524) (by show Lt1[_]? = _; rw [hLt1]; rfl) kz) ?_
    show own_Win p e below s _ _ _ (T.setTop (mkF m 526 Lt1 [(.long p3)]))
    refine own_st (fun _ kz => XS.iconst X.here hx rfl (hb hby at_526) kz) ?_
    show own_Win p e below s _ _ _ (T.setTop (mkF m 527 Lt1 [(.int (0 : Int32)), (.long p3)]))
    refine own_callS X hx hZ hown (y := yV) (hw _ (List.mem_of_getElem? (i := 35) rfl)) (hw _ (List.mem_of_getElem? (i := 36) rfl)) (hw _ (List.mem_of_getElem? (i := 37) rfl)) (hw _ (List.mem_of_getElem? (i := 38) rfl)) (by decide) eT (rmV l Z a0 hw [] p3 (0 : Int32) b0 h337 n0 Z337 hb0) (by decide) (W := 0) (by decide) rfl (by rw [hml]; show Lt1.size = _; rw [hLt1]; rfl) (argsL := [.long p3, .int (0 : Int32)]) (rest := []) (lenOf pdV rfl) rfl (Nat.le_of_eq rfl) (hb hby at_527) rfl (by decide) (by decide) ?_
    intro T136 v136 L136 X136 hQ136
    obtain ⟨rfl, M136, e136⟩ := hQ136
    have N136 := Fr.app N M136
    show own_Win p e below s _ _ _ (T136.setTop (mkF m 530 Lt1 [(.double b0)]))
    obtain ⟨Lt2, hLt2⟩ : ∃ L : Array Slot, L = #[.val (.long p1), .second, .val (.long p2), .second, .val (.long p3), .second, .val (.long p4), .second, .val (.long p5), .second, .val (.int p6), .val (.int pv), .val (.ref am), .val (.ref rg), .val (.ref rb), .val (.ref rc), .val (.ref a331), .val (.double got), .second, .val (.double u0), .second, .val (.double u1), .second, .val (.double u2), .second, .val (.double u3), .second, .val (.double u4), .second, .val (.double u5), .second, .val (.double b0), .second, .unset, .unset, .unset, .unset, .unset, .unset, .unset, .unset, .unset, .unset, .unset, .unset, .unset, .unset, .unset, .unset, .unset, .unset, .unset, .unset, .unset, .unset, .unset, .unset, .unset, .unset, .unset, .unset, .unset, .unset, .unset, .unset, .unset, .unset, .unset, .unset, .unset, .unset, .unset, .unset, .unset, .unset, .unset, .unset, .unset, .unset, .unset, .unset, .unset, .unset, .unset, .unset, .unset, .unset, .unset, .unset] := ⟨_, rfl⟩
    refine own_st (fun _ kz => XS.dstore X136.here hx rfl (hb hby at_530) rfl (l' := Lt2) (by show storeLocals Lt1 _ _ = _; rw [hLt1, hLt2]; rfl) kz) ?_
    show own_Win p e below s _ _ _ (T136.setTop (mkF m 532 Lt2 []))
    refine own_st (fun _ kz => XT.lload X136.here hx rfl (v := p3) (hb hby at_532) (by show Lt2[_]? = _; rw [hLt2]; rfl) kz) ?_
    show own_Win p e below s _ _ _ (T136.setTop (mkF m 534 Lt2 [(.long p3)]))
    refine own_st (fun _ kz => XS.iconst X136.here hx rfl (hb hby at_534) kz) ?_
    show own_Win p e below s _ _ _ (T136.setTop (mkF m 535 Lt2 [(.int (1 : Int32)), (.long p3)]))
    refine own_callS X136 hx hZ hown (y := yV) (hw _ (List.mem_of_getElem? (i := 35) rfl)) (hw _ (List.mem_of_getElem? (i := 36) rfl)) (hw _ (List.mem_of_getElem? (i := 37) rfl)) (hw _ (List.mem_of_getElem? (i := 38) rfl)) (by decide) e136 (rmV l Z a0 hw [] p3 (1 : Int32) b1 h337 n0 Z337 hb1) (by decide) (W := 0) (by decide) rfl (by rw [hml]; show Lt2.size = _; rw [hLt2]; rfl) (argsL := [.long p3, .int (1 : Int32)]) (rest := []) (lenOf pdV rfl) rfl (Nat.le_of_eq rfl) (hb hby at_535) rfl (by decide) (by decide) ?_
    intro T137 v137 L137 X137 hQ137
    obtain ⟨rfl, M137, e137⟩ := hQ137
    have N137 := Fr.app N136 M137
    show own_Win p e below s _ _ _ (T137.setTop (mkF m 538 Lt2 [(.double b1)]))
    obtain ⟨Lt3, hLt3⟩ : ∃ L : Array Slot, L = #[.val (.long p1), .second, .val (.long p2), .second, .val (.long p3), .second, .val (.long p4), .second, .val (.long p5), .second, .val (.int p6), .val (.int pv), .val (.ref am), .val (.ref rg), .val (.ref rb), .val (.ref rc), .val (.ref a331), .val (.double got), .second, .val (.double u0), .second, .val (.double u1), .second, .val (.double u2), .second, .val (.double u3), .second, .val (.double u4), .second, .val (.double u5), .second, .val (.double b0), .second, .val (.double b1), .second, .unset, .unset, .unset, .unset, .unset, .unset, .unset, .unset, .unset, .unset, .unset, .unset, .unset, .unset, .unset, .unset, .unset, .unset, .unset, .unset, .unset, .unset, .unset, .unset, .unset, .unset, .unset, .unset, .unset, .unset, .unset, .unset, .unset, .unset, .unset, .unset, .unset, .unset, .unset, .unset, .unset, .unset, .unset, .unset, .unset, .unset, .unset, .unset, .unset, .unset, .unset, .unset, .unset, .unset] := ⟨_, rfl⟩
    refine own_st (fun _ kz => XS.dstore X137.here hx rfl (hb hby at_538) rfl (l' := Lt3) (by show storeLocals Lt2 _ _ = _; rw [hLt2, hLt3]; rfl) kz) ?_
    show own_Win p e below s _ _ _ (T137.setTop (mkF m 540 Lt3 []))
    refine own_st (fun _ kz => XT.lload X137.here hx rfl (v := p3) (hb hby at_540) (by show Lt3[_]? = _; rw [hLt3]; rfl) kz) ?_
    show own_Win p e below s _ _ _ (T137.setTop (mkF m 542 Lt3 [(.long p3)]))
    refine own_st (fun _ kz => XS.iconst X137.here hx rfl (hb hby at_542) kz) ?_
    show own_Win p e below s _ _ _ (T137.setTop (mkF m 543 Lt3 [(.int (2 : Int32)), (.long p3)]))
    refine own_callS X137 hx hZ hown (y := yV) (hw _ (List.mem_of_getElem? (i := 35) rfl)) (hw _ (List.mem_of_getElem? (i := 36) rfl)) (hw _ (List.mem_of_getElem? (i := 37) rfl)) (hw _ (List.mem_of_getElem? (i := 38) rfl)) (by decide) e137 (rmV l Z a0 hw [] p3 (2 : Int32) b2 h337 n0 Z337 hb2) (by decide) (W := 0) (by decide) rfl (by rw [hml]; show Lt3.size = _; rw [hLt3]; rfl) (argsL := [.long p3, .int (2 : Int32)]) (rest := []) (lenOf pdV rfl) rfl (Nat.le_of_eq rfl) (hb hby at_543) rfl (by decide) (by decide) ?_
    intro T138 v138 L138 X138 hQ138
    obtain ⟨rfl, M138, e138⟩ := hQ138
    have N138 := Fr.app N137 M138
    show own_Win p e below s _ _ _ (T138.setTop (mkF m 546 Lt3 [(.double b2)]))
    obtain ⟨Lt4, hLt4⟩ : ∃ L : Array Slot, L = #[.val (.long p1), .second, .val (.long p2), .second, .val (.long p3), .second, .val (.long p4), .second, .val (.long p5), .second, .val (.int p6), .val (.int pv), .val (.ref am), .val (.ref rg), .val (.ref rb), .val (.ref rc), .val (.ref a331), .val (.double got), .second, .val (.double u0), .second, .val (.double u1), .second, .val (.double u2), .second, .val (.double u3), .second, .val (.double u4), .second, .val (.double u5), .second, .val (.double b0), .second, .val (.double b1), .second, .val (.double b2), .second, .unset, .unset, .unset, .unset, .unset, .unset, .unset, .unset, .unset, .unset, .unset, .unset, .unset, .unset, .unset, .unset, .unset, .unset, .unset, .unset, .unset, .unset, .unset, .unset, .unset, .unset, .unset, .unset, .unset, .unset, .unset, .unset, .unset, .unset, .unset, .unset, .unset, .unset, .unset, .unset, .unset, .unset, .unset, .unset, .unset, .unset, .unset, .unset, .unset, .unset, .unset, .unset] := ⟨_, rfl⟩
    refine own_st (fun _ kz => XS.dstore X138.here hx rfl (hb hby at_546) rfl (l' := Lt4) (by show storeLocals Lt3 _ _ = _; rw [hLt3, hLt4]; rfl) kz) ?_
    show own_Win p e below s _ _ _ (T138.setTop (mkF m 548 Lt4 []))
    refine own_st (fun _ kz => XT.lload X138.here hx rfl (v := p3) (hb hby at_548) (by show Lt4[_]? = _; rw [hLt4]; rfl) kz) ?_
    show own_Win p e below s _ _ _ (T138.setTop (mkF m 550 Lt4 [(.long p3)]))
    refine own_st (fun _ kz => XS.iconst X138.here hx rfl (hb hby at_550) kz) ?_
    show own_Win p e below s _ _ _ (T138.setTop (mkF m 551 Lt4 [(.int (3 : Int32)), (.long p3)]))
    refine own_callS X138 hx hZ hown (y := yV) (hw _ (List.mem_of_getElem? (i := 35) rfl)) (hw _ (List.mem_of_getElem? (i := 36) rfl)) (hw _ (List.mem_of_getElem? (i := 37) rfl)) (hw _ (List.mem_of_getElem? (i := 38) rfl)) (by decide) e138 (rmV l Z a0 hw [] p3 (3 : Int32) b3 h337 n0 Z337 hb3) (by decide) (W := 0) (by decide) rfl (by rw [hml]; show Lt4.size = _; rw [hLt4]; rfl) (argsL := [.long p3, .int (3 : Int32)]) (rest := []) (lenOf pdV rfl) rfl (Nat.le_of_eq rfl) (hb hby at_551) rfl (by decide) (by decide) ?_
    intro T139 v139 L139 X139 hQ139
    obtain ⟨rfl, M139, e139⟩ := hQ139
    have N139 := Fr.app N138 M139
    show own_Win p e below s _ _ _ (T139.setTop (mkF m 554 Lt4 [(.double b3)]))
    obtain ⟨Lt5, hLt5⟩ : ∃ L : Array Slot, L = #[.val (.long p1), .second, .val (.long p2), .second, .val (.long p3), .second, .val (.long p4), .second, .val (.long p5), .second, .val (.int p6), .val (.int pv), .val (.ref am), .val (.ref rg), .val (.ref rb), .val (.ref rc), .val (.ref a331), .val (.double got), .second, .val (.double u0), .second, .val (.double u1), .second, .val (.double u2), .second, .val (.double u3), .second, .val (.double u4), .second, .val (.double u5), .second, .val (.double b0), .second, .val (.double b1), .second, .val (.double b2), .second, .val (.double b3), .second, .unset, .unset, .unset, .unset, .unset, .unset, .unset, .unset, .unset, .unset, .unset, .unset, .unset, .unset, .unset, .unset, .unset, .unset, .unset, .unset, .unset, .unset, .unset, .unset, .unset, .unset, .unset, .unset, .unset, .unset, .unset, .unset, .unset, .unset, .unset, .unset, .unset, .unset, .unset, .unset, .unset, .unset, .unset, .unset, .unset, .unset, .unset, .unset, .unset, .unset] := ⟨_, rfl⟩
    refine own_st (fun _ kz => XS.dstore X139.here hx rfl (hb hby at_554) rfl (l' := Lt5) (by show storeLocals Lt4 _ _ = _; rw [hLt4, hLt5]; rfl) kz) ?_
    show own_Win p e below s _ _ _ (T139.setTop (mkF m 556 Lt5 []))
    refine own_st (fun _ kz => XT.lload X139.here hx rfl (v := p3) (hb hby at_556) (by show Lt5[_]? = _; rw [hLt5]; rfl) kz) ?_
    show own_Win p e below s _ _ _ (T139.setTop (mkF m 558 Lt5 [(.long p3)]))
    refine own_st (fun _ kz => XS.iconst X139.here hx rfl (hb hby at_558) kz) ?_
    show own_Win p e below s _ _ _ (T139.setTop (mkF m 559 Lt5 [(.int (4 : Int32)), (.long p3)]))
    refine own_callS X139 hx hZ hown (y := yV) (hw _ (List.mem_of_getElem? (i := 35) rfl)) (hw _ (List.mem_of_getElem? (i := 36) rfl)) (hw _ (List.mem_of_getElem? (i := 37) rfl)) (hw _ (List.mem_of_getElem? (i := 38) rfl)) (by decide) e139 (rmV l Z a0 hw [] p3 (4 : Int32) b4 h337 n0 Z337 hb4) (by decide) (W := 0) (by decide) rfl (by rw [hml]; show Lt5.size = _; rw [hLt5]; rfl) (argsL := [.long p3, .int (4 : Int32)]) (rest := []) (lenOf pdV rfl) rfl (Nat.le_of_eq rfl) (hb hby at_559) rfl (by decide) (by decide) ?_
    intro T140 v140 L140 X140 hQ140
    obtain ⟨rfl, M140, e140⟩ := hQ140
    have N140 := Fr.app N139 M140
    show own_Win p e below s _ _ _ (T140.setTop (mkF m 562 Lt5 [(.double b4)]))
    obtain ⟨Lt6, hLt6⟩ : ∃ L : Array Slot, L = #[.val (.long p1), .second, .val (.long p2), .second, .val (.long p3), .second, .val (.long p4), .second, .val (.long p5), .second, .val (.int p6), .val (.int pv), .val (.ref am), .val (.ref rg), .val (.ref rb), .val (.ref rc), .val (.ref a331), .val (.double got), .second, .val (.double u0), .second, .val (.double u1), .second, .val (.double u2), .second, .val (.double u3), .second, .val (.double u4), .second, .val (.double u5), .second, .val (.double b0), .second, .val (.double b1), .second, .val (.double b2), .second, .val (.double b3), .second, .val (.double b4), .second, .unset, .unset, .unset, .unset, .unset, .unset, .unset, .unset, .unset, .unset, .unset, .unset, .unset, .unset, .unset, .unset, .unset, .unset, .unset, .unset, .unset, .unset, .unset, .unset, .unset, .unset, .unset, .unset, .unset, .unset, .unset, .unset, .unset, .unset, .unset, .unset, .unset, .unset, .unset, .unset, .unset, .unset, .unset, .unset, .unset, .unset, .unset, .unset] := ⟨_, rfl⟩
    refine own_st (fun _ kz => XS.dstore X140.here hx rfl (hb hby at_562) rfl (l' := Lt6) (by show storeLocals Lt5 _ _ = _; rw [hLt5, hLt6]; rfl) kz) ?_
    show own_Win p e below s _ _ _ (T140.setTop (mkF m 564 Lt6 []))
    refine own_st (fun _ kz => XT.lload X140.here hx rfl (v := p3) (hb hby at_564) (by show Lt6[_]? = _; rw [hLt6]; rfl) kz) ?_
    show own_Win p e below s _ _ _ (T140.setTop (mkF m 566 Lt6 [(.long p3)]))
    refine own_st (fun _ kz => XS.iconst X140.here hx rfl (hb hby at_566) kz) ?_
    show own_Win p e below s _ _ _ (T140.setTop (mkF m 567 Lt6 [(.int (5 : Int32)), (.long p3)]))
    refine own_callS X140 hx hZ hown (y := yV) (hw _ (List.mem_of_getElem? (i := 35) rfl)) (hw _ (List.mem_of_getElem? (i := 36) rfl)) (hw _ (List.mem_of_getElem? (i := 37) rfl)) (hw _ (List.mem_of_getElem? (i := 38) rfl)) (by decide) e140 (rmV l Z a0 hw [] p3 (5 : Int32) b5 h337 n0 Z337 hb5) (by decide) (W := 0) (by decide) rfl (by rw [hml]; show Lt6.size = _; rw [hLt6]; rfl) (argsL := [.long p3, .int (5 : Int32)]) (rest := []) (lenOf pdV rfl) rfl (Nat.le_of_eq rfl) (hb hby at_567) rfl (by decide) (by decide) ?_
    intro T141 v141 L141 X141 hQ141
    obtain ⟨rfl, M141, e141⟩ := hQ141
    have N141 := Fr.app N140 M141
    show own_Win p e below s _ _ _ (T141.setTop (mkF m 570 Lt6 [(.double b5)]))
    obtain ⟨Lt7, hLt7⟩ : ∃ L : Array Slot, L = #[.val (.long p1), .second, .val (.long p2), .second, .val (.long p3), .second, .val (.long p4), .second, .val (.long p5), .second, .val (.int p6), .val (.int pv), .val (.ref am), .val (.ref rg), .val (.ref rb), .val (.ref rc), .val (.ref a331), .val (.double got), .second, .val (.double u0), .second, .val (.double u1), .second, .val (.double u2), .second, .val (.double u3), .second, .val (.double u4), .second, .val (.double u5), .second, .val (.double b0), .second, .val (.double b1), .second, .val (.double b2), .second, .val (.double b3), .second, .val (.double b4), .second, .val (.double b5), .second, .unset, .unset, .unset, .unset, .unset, .unset, .unset, .unset, .unset, .unset, .unset, .unset, .unset, .unset, .unset, .unset, .unset, .unset, .unset, .unset, .unset, .unset, .unset, .unset, .unset, .unset, .unset, .unset, .unset, .unset, .unset, .unset, .unset, .unset, .unset, .unset, .unset, .unset, .unset, .unset, .unset, .unset, .unset, .unset, .unset, .unset] := ⟨_, rfl⟩
    refine own_st (fun _ kz => XS.dstore X141.here hx rfl (hb hby at_570) rfl (l' := Lt7) (by show storeLocals Lt6 _ _ = _; rw [hLt6, hLt7]; rfl) kz) ?_
    show own_Win p e below s _ _ _ (T141.setTop (mkF m 572 Lt7 []))
    refine own_st (fun _ kz => XT.lload X141.here hx rfl (v := p3) (hb hby at_572) (by show Lt7[_]? = _; rw [hLt7]; rfl) kz) ?_
    show own_Win p e below s _ _ _ (T141.setTop (mkF m 574 Lt7 [(.long p3)]))
    refine own_st (fun _ kz => XS.bipush X141.here hx rfl (hb hby at_574) kz) ?_
    show own_Win p e below s _ _ _ (T141.setTop (mkF m 576 Lt7 [(.int (6 : Int32)), (.long p3)]))
    refine own_callS X141 hx hZ hown (y := yV) (hw _ (List.mem_of_getElem? (i := 35) rfl)) (hw _ (List.mem_of_getElem? (i := 36) rfl)) (hw _ (List.mem_of_getElem? (i := 37) rfl)) (hw _ (List.mem_of_getElem? (i := 38) rfl)) (by decide) e141 (rmV l Z a0 hw [] p3 (6 : Int32) b6 h337 n0 Z337 hb6) (by decide) (W := 0) (by decide) rfl (by rw [hml]; show Lt7.size = _; rw [hLt7]; rfl) (argsL := [.long p3, .int (6 : Int32)]) (rest := []) (lenOf pdV rfl) rfl (Nat.le_of_eq rfl) (hb hby at_576) rfl (by decide) (by decide) ?_
    intro T142 v142 L142 X142 hQ142
    obtain ⟨rfl, M142, e142⟩ := hQ142
    have N142 := Fr.app N141 M142
    show own_Win p e below s _ _ _ (T142.setTop (mkF m 579 Lt7 [(.double b6)]))
    obtain ⟨Lt8, hLt8⟩ : ∃ L : Array Slot, L = #[.val (.long p1), .second, .val (.long p2), .second, .val (.long p3), .second, .val (.long p4), .second, .val (.long p5), .second, .val (.int p6), .val (.int pv), .val (.ref am), .val (.ref rg), .val (.ref rb), .val (.ref rc), .val (.ref a331), .val (.double got), .second, .val (.double u0), .second, .val (.double u1), .second, .val (.double u2), .second, .val (.double u3), .second, .val (.double u4), .second, .val (.double u5), .second, .val (.double b0), .second, .val (.double b1), .second, .val (.double b2), .second, .val (.double b3), .second, .val (.double b4), .second, .val (.double b5), .second, .val (.double b6), .second, .unset, .unset, .unset, .unset, .unset, .unset, .unset, .unset, .unset, .unset, .unset, .unset, .unset, .unset, .unset, .unset, .unset, .unset, .unset, .unset, .unset, .unset, .unset, .unset, .unset, .unset, .unset, .unset, .unset, .unset, .unset, .unset, .unset, .unset, .unset, .unset, .unset, .unset, .unset, .unset, .unset, .unset, .unset, .unset] := ⟨_, rfl⟩
    refine own_st (fun _ kz => XS.dstore X142.here hx rfl (hb hby at_579) rfl (l' := Lt8) (by show storeLocals Lt7 _ _ = _; rw [hLt7, hLt8]; rfl) kz) ?_
    show own_Win p e below s _ _ _ (T142.setTop (mkF m 581 Lt8 []))
    refine own_st (fun _ kz => XT.lload X142.here hx rfl (v := p3) (hb hby at_581) (by show Lt8[_]? = _; rw [hLt8]; rfl) kz) ?_
    show own_Win p e below s _ _ _ (T142.setTop (mkF m 583 Lt8 [(.long p3)]))
    refine own_st (fun _ kz => XS.bipush X142.here hx rfl (hb hby at_583) kz) ?_
    show own_Win p e below s _ _ _ (T142.setTop (mkF m 585 Lt8 [(.int (7 : Int32)), (.long p3)]))
    refine own_callS X142 hx hZ hown (y := yV) (hw _ (List.mem_of_getElem? (i := 35) rfl)) (hw _ (List.mem_of_getElem? (i := 36) rfl)) (hw _ (List.mem_of_getElem? (i := 37) rfl)) (hw _ (List.mem_of_getElem? (i := 38) rfl)) (by decide) e142 (rmV l Z a0 hw [] p3 (7 : Int32) b7 h337 n0 Z337 hb7) (by decide) (W := 0) (by decide) rfl (by rw [hml]; show Lt8.size = _; rw [hLt8]; rfl) (argsL := [.long p3, .int (7 : Int32)]) (rest := []) (lenOf pdV rfl) rfl (Nat.le_of_eq rfl) (hb hby at_585) rfl (by decide) (by decide) ?_
    intro T143 v143 L143 X143 hQ143
    obtain ⟨rfl, M143, e143⟩ := hQ143
    have N143 := Fr.app N142 M143
    show own_Win p e below s _ _ _ (T143.setTop (mkF m 588 Lt8 [(.double b7)]))
    obtain ⟨Lt9, hLt9⟩ : ∃ L : Array Slot, L = #[.val (.long p1), .second, .val (.long p2), .second, .val (.long p3), .second, .val (.long p4), .second, .val (.long p5), .second, .val (.int p6), .val (.int pv), .val (.ref am), .val (.ref rg), .val (.ref rb), .val (.ref rc), .val (.ref a331), .val (.double got), .second, .val (.double u0), .second, .val (.double u1), .second, .val (.double u2), .second, .val (.double u3), .second, .val (.double u4), .second, .val (.double u5), .second, .val (.double b0), .second, .val (.double b1), .second, .val (.double b2), .second, .val (.double b3), .second, .val (.double b4), .second, .val (.double b5), .second, .val (.double b6), .second, .val (.double b7), .second, .unset, .unset, .unset, .unset, .unset, .unset, .unset, .unset, .unset, .unset, .unset, .unset, .unset, .unset, .unset, .unset, .unset, .unset, .unset, .unset, .unset, .unset, .unset, .unset, .unset, .unset, .unset, .unset, .unset, .unset, .unset, .unset, .unset, .unset, .unset, .unset, .unset, .unset, .unset, .unset, .unset, .unset] := ⟨_, rfl⟩
    refine own_st (fun _ kz => XS.dstore X143.here hx rfl (hb hby at_588) rfl (l' := Lt9) (by show storeLocals Lt8 _ _ = _; rw [hLt8, hLt9]; rfl) kz) ?_
    show own_Win p e below s _ _ _ (T143.setTop (mkF m 590 Lt9 []))
    refine own_st (fun _ kz => XT.lload X143.here hx rfl (v := p4) (hb hby at_590) (by show Lt9[_]? = _; rw [hLt9]; rfl) kz) ?_
    show own_Win p e below s _ _ _ (T143.setTop (mkF m 592 Lt9 [(.long p4)]))
    refine own_st (fun _ kz => XS.iconst X143.here hx rfl (hb hby at_592) kz) ?_
    show own_Win p e below s _ _ _ (T143.setTop (mkF m 593 Lt9 [(.int (0 : Int32)), (.long p4)]))
    refine own_callS X143 hx hZ hown (y := yV) (hw _ (List.mem_of_getElem? (i := 35) rfl)) (hw _ (List.mem_of_getElem? (i := 36) rfl)) (hw _ (List.mem_of_getElem? (i := 37) rfl)) (hw _ (List.mem_of_getElem? (i := 38) rfl)) (by decide) e143 (rmV l Z a0 hw [] p4 (0 : Int32) b8 h337 n0 Z337 hb8) (by decide) (W := 0) (by decide) rfl (by rw [hml]; show Lt9.size = _; rw [hLt9]; rfl) (argsL := [.long p4, .int (0 : Int32)]) (rest := []) (lenOf pdV rfl) rfl (Nat.le_of_eq rfl) (hb hby at_593) rfl (by decide) (by decide) ?_
    intro T144 v144 L144 X144 hQ144
    obtain ⟨rfl, M144, e144⟩ := hQ144
    have N144 := Fr.app N143 M144
    show own_Win p e below s _ _ _ (T144.setTop (mkF m 596 Lt9 [(.double b8)]))
    obtain ⟨Lt10, hLt10⟩ : ∃ L : Array Slot, L = #[.val (.long p1), .second, .val (.long p2), .second, .val (.long p3), .second, .val (.long p4), .second, .val (.long p5), .second, .val (.int p6), .val (.int pv), .val (.ref am), .val (.ref rg), .val (.ref rb), .val (.ref rc), .val (.ref a331), .val (.double got), .second, .val (.double u0), .second, .val (.double u1), .second, .val (.double u2), .second, .val (.double u3), .second, .val (.double u4), .second, .val (.double u5), .second, .val (.double b0), .second, .val (.double b1), .second, .val (.double b2), .second, .val (.double b3), .second, .val (.double b4), .second, .val (.double b5), .second, .val (.double b6), .second, .val (.double b7), .second, .val (.double b8), .second, .unset, .unset, .unset, .unset, .unset, .unset, .unset, .unset, .unset, .unset, .unset, .unset, .unset, .unset, .unset, .unset, .unset, .unset, .unset, .unset, .unset, .unset, .unset, .unset, .unset, .unset, .unset, .unset, .unset, .unset, .unset, .unset, .unset, .unset, .unset, .unset, .unset, .unset, .unset, .unset] := ⟨_, rfl⟩
    refine own_st (fun _ kz => XS.dstore X144.here hx rfl (hb hby at_596) rfl (l' := Lt10) (by show storeLocals Lt9 _ _ = _; rw [hLt9, hLt10]; rfl) kz) ?_
    show own_Win p e below s _ _ _ (T144.setTop (mkF m 598 Lt10 []))
    refine own_st (fun _ kz => XT.lload X144.here hx rfl (v := p4) (hb hby at_598) (by show Lt10[_]? = _; rw [hLt10]; rfl) kz) ?_
    show own_Win p e below s _ _ _ (T144.setTop (mkF m 600 Lt10 [(.long p4)]))
    refine own_st (fun _ kz => XS.iconst X144.here hx rfl (hb hby at_600) kz) ?_
    show own_Win p e below s _ _ _ (T144.setTop (mkF m 601 Lt10 [(.int (1 : Int32)), (.long p4)]))
    refine own_callS X144 hx hZ hown (y := yV) (hw _ (List.mem_of_getElem? (i := 35) rfl)) (hw _ (List.mem_of_getElem? (i := 36) rfl)) (hw _ (List.mem_of_getElem? (i := 37) rfl)) (hw _ (List.mem_of_getElem? (i := 38) rfl)) (by decide) e144 (rmV l Z a0 hw [] p4 (1 : Int32) b9 h337 n0 Z337 hb9) (by decide) (W := 0) (by decide) rfl (by rw [hml]; show Lt10.size = _; rw [hLt10]; rfl) (argsL := [.long p4, .int (1 : Int32)]) (rest := []) (lenOf pdV rfl) rfl (Nat.le_of_eq rfl) (hb hby at_601) rfl (by decide) (by decide) ?_
    intro T145 v145 L145 X145 hQ145
    obtain ⟨rfl, M145, e145⟩ := hQ145
    have N145 := Fr.app N144 M145
    show own_Win p e below s _ _ _ (T145.setTop (mkF m 604 Lt10 [(.double b9)]))
    obtain ⟨Lt11, hLt11⟩ : ∃ L : Array Slot, L = #[.val (.long p1), .second, .val (.long p2), .second, .val (.long p3), .second, .val (.long p4), .second, .val (.long p5), .second, .val (.int p6), .val (.int pv), .val (.ref am), .val (.ref rg), .val (.ref rb), .val (.ref rc), .val (.ref a331), .val (.double got), .second, .val (.double u0), .second, .val (.double u1), .second, .val (.double u2), .second, .val (.double u3), .second, .val (.double u4), .second, .val (.double u5), .second, .val (.double b0), .second, .val (.double b1), .second, .val (.double b2), .second, .val (.double b3), .second, .val (.double b4), .second, .val (.double b5), .second, .val (.double b6), .second, .val (.double b7), .second, .val (.double b8), .second, .val (.double b9), .second, .unset, .unset, .unset, .unset, .unset, .unset, .unset, .unset, .unset, .unset, .unset, .unset, .unset, .unset, .unset, .unset, .unset, .unset, .unset, .unset, .unset, .unset, .unset, .unset, .unset, .unset, .unset, .unset, .unset, .unset, .unset, .unset, .unset, .unset, .unset, .unset, .unset, .unset] := ⟨_, rfl⟩
    refine own_st (fun _ kz => XS.dstore X145.here hx rfl (hb hby at_604) rfl (l' := Lt11) (by show storeLocals Lt10 _ _ = _; rw [hLt10, hLt11]; rfl) kz) ?_
    show own_Win p e below s _ _ _ (T145.setTop (mkF m 606 Lt11 []))
    refine own_st (fun _ kz => XT.lload X145.here hx rfl (v := p4) (hb hby at_606) (by show Lt11[_]? = _; rw [hLt11]; rfl) kz) ?_
    show own_Win p e below s _ _ _ (T145.setTop (mkF m 608 Lt11 [(.long p4)]))
    refine own_st (fun _ kz => XS.iconst X145.here hx rfl (hb hby at_608) kz) ?_
    show own_Win p e below s _ _ _ (T145.setTop (mkF m 609 Lt11 [(.int (2 : Int32)), (.long p4)]))
    refine own_callS X145 hx hZ hown (y := yV) (hw _ (List.mem_of_getElem? (i := 35) rfl)) (hw _ (List.mem_of_getElem? (i := 36) rfl)) (hw _ (List.mem_of_getElem? (i := 37) rfl)) (hw _ (List.mem_of_getElem? (i := 38) rfl)) (by decide) e145 (rmV l Z a0 hw [] p4 (2 : Int32) b10 h337 n0 Z337 hb10) (by decide) (W := 0) (by decide) rfl (by rw [hml]; show Lt11.size = _; rw [hLt11]; rfl) (argsL := [.long p4, .int (2 : Int32)]) (rest := []) (lenOf pdV rfl) rfl (Nat.le_of_eq rfl) (hb hby at_609) rfl (by decide) (by decide) ?_
    intro T146 v146 L146 X146 hQ146
    obtain ⟨rfl, M146, e146⟩ := hQ146
    have N146 := Fr.app N145 M146
    show own_Win p e below s _ _ _ (T146.setTop (mkF m 612 Lt11 [(.double b10)]))
    obtain ⟨Lt12, hLt12⟩ : ∃ L : Array Slot, L = #[.val (.long p1), .second, .val (.long p2), .second, .val (.long p3), .second, .val (.long p4), .second, .val (.long p5), .second, .val (.int p6), .val (.int pv), .val (.ref am), .val (.ref rg), .val (.ref rb), .val (.ref rc), .val (.ref a331), .val (.double got), .second, .val (.double u0), .second, .val (.double u1), .second, .val (.double u2), .second, .val (.double u3), .second, .val (.double u4), .second, .val (.double u5), .second, .val (.double b0), .second, .val (.double b1), .second, .val (.double b2), .second, .val (.double b3), .second, .val (.double b4), .second, .val (.double b5), .second, .val (.double b6), .second, .val (.double b7), .second, .val (.double b8), .second, .val (.double b9), .second, .val (.double b10), .second, .unset, .unset, .unset, .unset, .unset, .unset, .unset, .unset, .unset, .unset, .unset, .unset, .unset, .unset, .unset, .unset, .unset, .unset, .unset, .unset, .unset, .unset, .unset, .unset, .unset, .unset, .unset, .unset, .unset, .unset, .unset, .unset, .unset, .unset, .unset, .unset] := ⟨_, rfl⟩
    refine own_st (fun _ kz => XS.dstore X146.here hx rfl (hb hby at_612) rfl (l' := Lt12) (by show storeLocals Lt11 _ _ = _; rw [hLt11, hLt12]; rfl) kz) ?_
    show own_Win p e below s _ _ _ (T146.setTop (mkF m 614 Lt12 []))
    refine own_st (fun _ kz => XT.lload X146.here hx rfl (v := p4) (hb hby at_614) (by show Lt12[_]? = _; rw [hLt12]; rfl) kz) ?_
    show own_Win p e below s _ _ _ (T146.setTop (mkF m 616 Lt12 [(.long p4)]))
    refine own_st (fun _ kz => XS.iconst X146.here hx rfl (hb hby at_616) kz) ?_
    show own_Win p e below s _ _ _ (T146.setTop (mkF m 617 Lt12 [(.int (3 : Int32)), (.long p4)]))
    refine own_callS X146 hx hZ hown (y := yV) (hw _ (List.mem_of_getElem? (i := 35) rfl)) (hw _ (List.mem_of_getElem? (i := 36) rfl)) (hw _ (List.mem_of_getElem? (i := 37) rfl)) (hw _ (List.mem_of_getElem? (i := 38) rfl)) (by decide) e146 (rmV l Z a0 hw [] p4 (3 : Int32) b11 h337 n0 Z337 hb11) (by decide) (W := 0) (by decide) rfl (by rw [hml]; show Lt12.size = _; rw [hLt12]; rfl) (argsL := [.long p4, .int (3 : Int32)]) (rest := []) (lenOf pdV rfl) rfl (Nat.le_of_eq rfl) (hb hby at_617) rfl (by decide) (by decide) ?_
    intro T147 v147 L147 X147 hQ147
    obtain ⟨rfl, M147, e147⟩ := hQ147
    have N147 := Fr.app N146 M147
    show own_Win p e below s _ _ _ (T147.setTop (mkF m 620 Lt12 [(.double b11)]))
    obtain ⟨Lt13, hLt13⟩ : ∃ L : Array Slot, L = #[.val (.long p1), .second, .val (.long p2), .second, .val (.long p3), .second, .val (.long p4), .second, .val (.long p5), .second, .val (.int p6), .val (.int pv), .val (.ref am), .val (.ref rg), .val (.ref rb), .val (.ref rc), .val (.ref a331), .val (.double got), .second, .val (.double u0), .second, .val (.double u1), .second, .val (.double u2), .second, .val (.double u3), .second, .val (.double u4), .second, .val (.double u5), .second, .val (.double b0), .second, .val (.double b1), .second, .val (.double b2), .second, .val (.double b3), .second, .val (.double b4), .second, .val (.double b5), .second, .val (.double b6), .second, .val (.double b7), .second, .val (.double b8), .second, .val (.double b9), .second, .val (.double b10), .second, .val (.double b11), .second, .unset, .unset, .unset, .unset, .unset, .unset, .unset, .unset, .unset, .unset, .unset, .unset, .unset, .unset, .unset, .unset, .unset, .unset, .unset, .unset, .unset, .unset, .unset, .unset, .unset, .unset, .unset, .unset, .unset, .unset, .unset, .unset, .unset, .unset] := ⟨_, rfl⟩
    refine own_st (fun _ kz => XS.dstore X147.here hx rfl (hb hby at_620) rfl (l' := Lt13) (by show storeLocals Lt12 _ _ = _; rw [hLt12, hLt13]; rfl) kz) ?_
    show own_Win p e below s _ _ _ (T147.setTop (mkF m 622 Lt13 []))
    refine own_st (fun _ kz => XT.lload X147.here hx rfl (v := p5) (hb hby at_622) (by show Lt13[_]? = _; rw [hLt13]; rfl) kz) ?_
    show own_Win p e below s _ _ _ (T147.setTop (mkF m 624 Lt13 [(.long p5)]))
    refine own_st (fun _ kz => XS.iconst X147.here hx rfl (hb hby at_624) kz) ?_
    show own_Win p e below s _ _ _ (T147.setTop (mkF m 625 Lt13 [(.int (0 : Int32)), (.long p5)]))
    refine own_callS X147 hx hZ hown (y := yV) (hw _ (List.mem_of_getElem? (i := 35) rfl)) (hw _ (List.mem_of_getElem? (i := 36) rfl)) (hw _ (List.mem_of_getElem? (i := 37) rfl)) (hw _ (List.mem_of_getElem? (i := 38) rfl)) (by decide) e147 (rmV l Z a0 hw [] p5 (0 : Int32) c0 h337 n0 Z337 hc0) (by decide) (W := 0) (by decide) rfl (by rw [hml]; show Lt13.size = _; rw [hLt13]; rfl) (argsL := [.long p5, .int (0 : Int32)]) (rest := []) (lenOf pdV rfl) rfl (Nat.le_of_eq rfl) (hb hby at_625) rfl (by decide) (by decide) ?_
    intro T148 v148 L148 X148 hQ148
    obtain ⟨rfl, M148, e148⟩ := hQ148
    have N148 := Fr.app N147 M148
    show own_Win p e below s _ _ _ (T148.setTop (mkF m 628 Lt13 [(.double c0)]))
    obtain ⟨Lt14, hLt14⟩ : ∃ L : Array Slot, L = #[.val (.long p1), .second, .val (.long p2), .second, .val (.long p3), .second, .val (.long p4), .second, .val (.long p5), .second, .val (.int p6), .val (.int pv), .val (.ref am), .val (.ref rg), .val (.ref rb), .val (.ref rc), .val (.ref a331), .val (.double got), .second, .val (.double u0), .second, .val (.double u1), .second, .val (.double u2), .second, .val (.double u3), .second, .val (.double u4), .second, .val (.double u5), .second, .val (.double b0), .second, .val (.double b1), .second, .val (.double b2), .second, .val (.double b3), .second, .val (.double b4), .second, .val (.double b5), .second, .val (.double b6), .second, .val (.double b7), .second, .val (.double b8), .second, .val (.double b9), .second, .val (.double b10), .second, .val (.double b11), .second, .val (.double c0), .second, .unset, .unset, .unset, .unset, .unset, .unset, .unset, .unset, .unset, .unset, .unset, .unset, .unset, .unset, .unset, .unset, .unset, .unset, .unset, .unset, .unset, .unset, .unset, .unset, .unset, .unset, .unset, .unset, .unset, .unset, .unset, .unset] := ⟨_, rfl⟩
    refine own_st (fun _ kz => XS.dstore X148.here hx rfl (hb hby at_628) rfl (l' := Lt14) (by show storeLocals Lt13 _ _ = _; rw [hLt13, hLt14]; rfl) kz) ?_
    show own_Win p e below s _ _ _ (T148.setTop (mkF m 630 Lt14 []))
    refine own_st (fun _ kz => XT.lload X148.here hx rfl (v := p5) (hb hby at_630) (by show Lt14[_]? = _; rw [hLt14]; rfl) kz) ?_
    show own_Win p e below s _ _ _ (T148.setTop (mkF m 632 Lt14 [(.long p5)]))
    refine own_st (fun _ kz => XS.iconst X148.here hx rfl (hb hby at_632) kz) ?_
    show own_Win p e below s _ _ _ (T148.setTop (mkF m 633 Lt14 [(.int (1 : Int32)), (.long p5)]))
    refine own_callS X148 hx hZ hown (y := yV) (hw _ (List.mem_of_getElem? (i := 35) rfl)) (hw _ (List.mem_of_getElem? (i := 36) rfl)) (hw _ (List.mem_of_getElem? (i := 37) rfl)) (hw _ (List.mem_of_getElem? (i := 38) rfl)) (by decide) e148 (rmV l Z a0 hw [] p5 (1 : Int32) c1 h337 n0 Z337 hc1) (by decide) (W := 0) (by decide) rfl (by rw [hml]; show Lt14.size = _; rw [hLt14]; rfl) (argsL := [.long p5, .int (1 : Int32)]) (rest := []) (lenOf pdV rfl) rfl (Nat.le_of_eq rfl) (hb hby at_633) rfl (by decide) (by decide) ?_
    intro T149 v149 L149 X149 hQ149
    obtain ⟨rfl, M149, e149⟩ := hQ149
    have N149 := Fr.app N148 M149
    show own_Win p e below s _ _ _ (T149.setTop (mkF m 636 Lt14 [(.double c1)]))
    obtain ⟨Lt15, hLt15⟩ : ∃ L : Array Slot, L = #[.val (.long p1), .second, .val (.long p2), .second, .val (.long p3), .second, .val (.long p4), .second, .val (.long p5), .second, .val (.int p6), .val (.int pv), .val (.ref am), .val (.ref rg), .val (.ref rb), .val (.ref rc), .val (.ref a331), .val (.double got), .second, .val (.double u0), .second, .val (.double u1), .second, .val (.double u2), .second, .val (.double u3), .second, .val (.double u4), .second, .val (.double u5), .second, .val (.double b0), .second, .val (.double b1), .second, .val (.double b2), .second, .val (.double b3), .second, .val (.double b4), .second, .val (.double b5), .second, .val (.double b6), .second, .val (.double b7), .second, .val (.double b8), .second, .val (.double b9), .second, .val (.double b10), .second, .val (.double b11), .second, .val (.double c0), .second, .val (.double c1), .second, .unset, .unset, .unset, .unset, .unset, .unset, .unset, .unset, .unset, .unset, .unset, .unset, .unset, .unset, .unset, .unset, .unset, .unset, .unset, .unset, .unset, .unset, .unset, .unset, .unset, .unset, .unset, .unset, .unset, .unset] := ⟨_, rfl⟩
    refine own_st (fun _ kz => XS.dstore X149.here hx rfl (hb hby at_636) rfl (l' := Lt15) (by show storeLocals Lt14 _ _ = _; rw [hLt14, hLt15]; rfl) kz) ?_
    show own_Win p e below s _ _ _ (T149.setTop (mkF m 638 Lt15 []))
    refine own_st (fun _ kz => XT.lload X149.here hx rfl (v := p5) (hb hby at_638) (by show Lt15[_]? = _; rw [hLt15]; rfl) kz) ?_
    show own_Win p e below s _ _ _ (T149.setTop (mkF m 640 Lt15 [(.long p5)]))
    refine own_st (fun _ kz => XS.iconst X149.here hx rfl (hb hby at_640) kz) ?_
    show own_Win p e below s _ _ _ (T149.setTop (mkF m 641 Lt15 [(.int (2 : Int32)), (.long p5)]))
    refine own_callS X149 hx hZ hown (y := yV) (hw _ (List.mem_of_getElem? (i := 35) rfl)) (hw _ (List.mem_of_getElem? (i := 36) rfl)) (hw _ (List.mem_of_getElem? (i := 37) rfl)) (hw _ (List.mem_of_getElem? (i := 38) rfl)) (by decide) e149 (rmV l Z a0 hw [] p5 (2 : Int32) c2 h337 n0 Z337 hc2) (by decide) (W := 0) (by decide) rfl (by rw [hml]; show Lt15.size = _; rw [hLt15]; rfl) (argsL := [.long p5, .int (2 : Int32)]) (rest := []) (lenOf pdV rfl) rfl (Nat.le_of_eq rfl) (hb hby at_641) rfl (by decide) (by decide) ?_
    intro T150 v150 L150 X150 hQ150
    obtain ⟨rfl, M150, e150⟩ := hQ150
    have N150 := Fr.app N149 M150
    show own_Win p e below s _ _ _ (T150.setTop (mkF m 644 Lt15 [(.double c2)]))
    obtain ⟨Lt16, hLt16⟩ : ∃ L : Array Slot, L = #[.val (.long p1), .second, .val (.long p2), .second, .val (.long p3), .second, .val (.long p4), .second, .val (.long p5), .second, .val (.int p6), .val (.int pv), .val (.ref am), .val (.ref rg), .val (.ref rb), .val (.ref rc), .val (.ref a331), .val (.double got), .second, .val (.double u0), .second, .val (.double u1), .second, .val (.double u2), .second, .val (.double u3), .second, .val (.double u4), .second, .val (.double u5), .second, .val (.double b0), .second, .val (.double b1), .second, .val (.double b2), .second, .val (.double b3), .second, .val (.double b4), .second, .val (.double b5), .second, .val (.double b6), .second, .val (.double b7), .second, .val (.double b8), .second, .val (.double b9), .second, .val (.double b10), .second, .val (.double b11), .second, .val (.double c0), .second, .val (.double c1), .second, .val (.double c2), .second, .unset, .unset, .unset, .unset, .unset, .unset, .unset, .unset, .unset, .unset, .unset, .unset, .unset, .unset, .unset, .unset, .unset, .unset, .unset, .unset, .unset, .unset, .unset, .unset, .unset, .unset, .unset, .unset] := ⟨_, rfl⟩
    refine own_st (fun _ kz => XS.dstore X150.here hx rfl (hb hby at_644) rfl (l' := Lt16) (by show storeLocals Lt15 _ _ = _; rw [hLt15, hLt16]; rfl) kz) ?_
    show own_Win p e below s _ _ _ (T150.setTop (mkF m 646 Lt16 []))
    refine own_st (fun _ kz => XT.lload X150.here hx rfl (v := p5) (hb hby at_646) (by show Lt16[_]? = _; rw [hLt16]; rfl) kz) ?_
    show own_Win p e below s _ _ _ (T150.setTop (mkF m 648 Lt16 [(.long p5)]))
    refine own_st (fun _ kz => XS.iconst X150.here hx rfl (hb hby at_648) kz) ?_
    show own_Win p e below s _ _ _ (T150.setTop (mkF m 649 Lt16 [(.int (3 : Int32)), (.long p5)]))
    refine own_callS X150 hx hZ hown (y := yV) (hw _ (List.mem_of_getElem? (i := 35) rfl)) (hw _ (List.mem_of_getElem? (i := 36) rfl)) (hw _ (List.mem_of_getElem? (i := 37) rfl)) (hw _ (List.mem_of_getElem? (i := 38) rfl)) (by decide) e150 (rmV l Z a0 hw [] p5 (3 : Int32) c3 h337 n0 Z337 hc3) (by decide) (W := 0) (by decide) rfl (by rw [hml]; show Lt16.size = _; rw [hLt16]; rfl) (argsL := [.long p5, .int (3 : Int32)]) (rest := []) (lenOf pdV rfl) rfl (Nat.le_of_eq rfl) (hb hby at_649) rfl (by decide) (by decide) ?_
    intro T151 v151 L151 X151 hQ151
    obtain ⟨rfl, M151, e151⟩ := hQ151
    have N151 := Fr.app N150 M151
    show own_Win p e below s _ _ _ (T151.setTop (mkF m 652 Lt16 [(.double c3)]))
    obtain ⟨Lt17, hLt17⟩ : ∃ L : Array Slot, L = #[.val (.long p1), .second, .val (.long p2), .second, .val (.long p3), .second, .val (.long p4), .second, .val (.long p5), .second, .val (.int p6), .val (.int pv), .val (.ref am), .val (.ref rg), .val (.ref rb), .val (.ref rc), .val (.ref a331), .val (.double got), .second, .val (.double u0), .second, .val (.double u1), .second, .val (.double u2), .second, .val (.double u3), .second, .val (.double u4), .second, .val (.double u5), .second, .val (.double b0), .second, .val (.double b1), .second, .val (.double b2), .second, .val (.double b3), .second, .val (.double b4), .second, .val (.double b5), .second, .val (.double b6), .second, .val (.double b7), .second, .val (.double b8), .second, .val (.double b9), .second, .val (.double b10), .second, .val (.double b11), .second, .val (.double c0), .second, .val (.double c1), .second, .val (.double c2), .second, .val (.double c3), .second, .unset, .unset, .unset, .unset, .unset, .unset, .unset, .unset, .unset, .unset, .unset, .unset, .unset, .unset, .unset, .unset, .unset, .unset, .unset, .unset, .unset, .unset, .unset, .unset, .unset, .unset] := ⟨_, rfl⟩
    refine own_st (fun _ kz => XS.dstore X151.here hx rfl (hb hby at_652) rfl (l' := Lt17) (by show storeLocals Lt16 _ _ = _; rw [hLt16, hLt17]; rfl) kz) ?_
    show own_Win p e below s _ _ _ (T151.setTop (mkF m 654 Lt17 []))
    refine own_st (fun _ kz => XT.lload X151.here hx rfl (v := p5) (hb hby at_654) (by show Lt17[_]? = _; rw [hLt17]; rfl) kz) ?_
    show own_Win p e below s _ _ _ (T151.setTop (mkF m 656 Lt17 [(.long p5)]))
    refine own_st (fun _ kz => XS.iconst X151.here hx rfl (hb hby at_656) kz) ?_
    show own_Win p e below s _ _ _ (T151.setTop (mkF m 657 Lt17 [(.int (4 : Int32)), (.long p5)]))
    refine own_callS X151 hx hZ hown (y := yV) (hw _ (List.mem_of_getElem? (i := 35) rfl)) (hw _ (List.mem_of_getElem? (i := 36) rfl)) (hw _ (List.mem_of_getElem? (i := 37) rfl)) (hw _ (List.mem_of_getElem? (i := 38) rfl)) (by decide) e151 (rmV l Z a0 hw [] p5 (4 : Int32) c4 h337 n0 Z337 hc4) (by decide) (W := 0) (by decide) rfl (by rw [hml]; show Lt17.size = _; rw [hLt17]; rfl) (argsL := [.long p5, .int (4 : Int32)]) (rest := []) (lenOf pdV rfl) rfl (Nat.le_of_eq rfl) (hb hby at_657) rfl (by decide) (by decide) ?_
    intro T152 v152 L152 X152 hQ152
    obtain ⟨rfl, M152, e152⟩ := hQ152
    have N152 := Fr.app N151 M152
    show own_Win p e below s _ _ _ (T152.setTop (mkF m 660 Lt17 [(.double c4)]))
    obtain ⟨Lt18, hLt18⟩ : ∃ L : Array Slot, L = #[.val (.long p1), .second, .val (.long p2), .second, .val (.long p3), .second, .val (.long p4), .second, .val (.long p5), .second, .val (.int p6), .val (.int pv), .val (.ref am), .val (.ref rg), .val (.ref rb), .val (.ref rc), .val (.ref a331), .val (.double got), .second, .val (.double u0), .second, .val (.double u1), .second, .val (.double u2), .second, .val (.double u3), .second, .val (.double u4), .second, .val (.double u5), .second, .val (.double b0), .second, .val (.double b1), .second, .val (.double b2), .second, .val (.double b3), .second, .val (.double b4), .second, .val (.double b5), .second, .val (.double b6), .second, .val (.double b7), .second, .val (.double b8), .second, .val (.double b9), .second, .val (.double b10), .second, .val (.double b11), .second, .val (.double c0), .second, .val (.double c1), .second, .val (.double c2), .second, .val (.double c3), .second, .val (.double c4), .second, .unset, .unset, .unset, .unset, .unset, .unset, .unset, .unset, .unset, .unset, .unset, .unset, .unset, .unset, .unset, .unset, .unset, .unset, .unset, .unset, .unset, .unset, .unset, .unset] := ⟨_, rfl⟩
    refine own_st (fun _ kz => XS.dstore X152.here hx rfl (hb hby at_660) rfl (l' := Lt18) (by show storeLocals Lt17 _ _ = _; rw [hLt17, hLt18]; rfl) kz) ?_
    show own_Win p e below s _ _ _ (T152.setTop (mkF m 662 Lt18 []))
    refine own_st (fun _ kz => XT.lload X152.here hx rfl (v := p5) (hb hby at_662) (by show Lt18[_]? = _; rw [hLt18]; rfl) kz) ?_
    show own_Win p e below s _ _ _ (T152.setTop (mkF m 664 Lt18 [(.long p5)]))
    refine own_st (fun _ kz => XS.iconst X152.here hx rfl (hb hby at_664) kz) ?_
    show own_Win p e below s _ _ _ (T152.setTop (mkF m 665 Lt18 [(.int (5 : Int32)), (.long p5)]))
    refine own_callS X152 hx hZ hown (y := yV) (hw _ (List.mem_of_getElem? (i := 35) rfl)) (hw _ (List.mem_of_getElem? (i := 36) rfl)) (hw _ (List.mem_of_getElem? (i := 37) rfl)) (hw _ (List.mem_of_getElem? (i := 38) rfl)) (by decide) e152 (rmV l Z a0 hw [] p5 (5 : Int32) c5 h337 n0 Z337 hc5) (by decide) (W := 0) (by decide) rfl (by rw [hml]; show Lt18.size = _; rw [hLt18]; rfl) (argsL := [.long p5, .int (5 : Int32)]) (rest := []) (lenOf pdV rfl) rfl (Nat.le_of_eq rfl) (hb hby at_665) rfl (by decide) (by decide) ?_
    intro T153 v153 L153 X153 hQ153
    obtain ⟨rfl, M153, e153⟩ := hQ153
    have N153 := Fr.app N152 M153
    show own_Win p e below s _ _ _ (T153.setTop (mkF m 668 Lt18 [(.double c5)]))
    obtain ⟨Lt19, hLt19⟩ : ∃ L : Array Slot, L = #[.val (.long p1), .second, .val (.long p2), .second, .val (.long p3), .second, .val (.long p4), .second, .val (.long p5), .second, .val (.int p6), .val (.int pv), .val (.ref am), .val (.ref rg), .val (.ref rb), .val (.ref rc), .val (.ref a331), .val (.double got), .second, .val (.double u0), .second, .val (.double u1), .second, .val (.double u2), .second, .val (.double u3), .second, .val (.double u4), .second, .val (.double u5), .second, .val (.double b0), .second, .val (.double b1), .second, .val (.double b2), .second, .val (.double b3), .second, .val (.double b4), .second, .val (.double b5), .second, .val (.double b6), .second, .val (.double b7), .second, .val (.double b8), .second, .val (.double b9), .second, .val (.double b10), .second, .val (.double b11), .second, .val (.double c0), .second, .val (.double c1), .second, .val (.double c2), .second, .val (.double c3), .second, .val (.double c4), .second, .val (.double c5), .second, .unset, .unset, .unset, .unset, .unset, .unset, .unset, .unset, .unset, .unset, .unset, .unset, .unset, .unset, .unset, .unset, .unset, .unset, .unset, .unset, .unset, .unset] := ⟨_, rfl⟩
    refine own_st (fun _ kz => XS.dstore X153.here hx rfl (hb hby at_668) rfl (l' := Lt19) (by show storeLocals Lt18 _ _ = _; rw [hLt18, hLt19]; rfl) kz) ?_
    show own_Win p e below s _ _ _ (T153.setTop (mkF m 670 Lt19 []))
    refine own_st (fun _ kz => XT.lload X153.here hx rfl (v := p5) (hb hby at_670) (by show Lt19[_]? = _; rw [hLt19]; rfl) kz) ?_
    show own_Win p e below s _ _ _ (T153.setTop (mkF m 672 Lt19 [(.long p5)]))
    refine own_st (fun _ kz => XS.bipush X153.here hx rfl (hb hby at_672) kz) ?_
    show own_Win p e below s _ _ _ (T153.setTop (mkF m 674 Lt19 [(.int (6 : Int32)), (.long p5)]))
    refine own_callS X153 hx hZ hown (y := yV) (hw _ (List.mem_of_getElem? (i := 35) rfl)) (hw _ (List.mem_of_getElem? (i := 36) rfl)) (hw _ (List.mem_of_getElem? (i := 37) rfl)) (hw _ (List.mem_of_getElem? (i := 38) rfl)) (by decide) e153 (rmV l Z a0 hw [] p5 (6 : Int32) c6 h337 n0 Z337 hc6) (by decide) (W := 0) (by decide) rfl (by rw [hml]; show Lt19.size = _; rw [hLt19]; rfl) (argsL := [.long p5, .int (6 : Int32)]) (rest := []) (lenOf pdV rfl) rfl (Nat.le_of_eq rfl) (hb hby at_674) rfl (by decide) (by decide) ?_
    intro T154 v154 L154 X154 hQ154
    obtain ⟨rfl, M154, e154⟩ := hQ154
    have N154 := Fr.app N153 M154
    show own_Win p e below s _ _ _ (T154.setTop (mkF m 677 Lt19 [(.double c6)]))
    obtain ⟨Lt20, hLt20⟩ : ∃ L : Array Slot, L = #[.val (.long p1), .second, .val (.long p2), .second, .val (.long p3), .second, .val (.long p4), .second, .val (.long p5), .second, .val (.int p6), .val (.int pv), .val (.ref am), .val (.ref rg), .val (.ref rb), .val (.ref rc), .val (.ref a331), .val (.double got), .second, .val (.double u0), .second, .val (.double u1), .second, .val (.double u2), .second, .val (.double u3), .second, .val (.double u4), .second, .val (.double u5), .second, .val (.double b0), .second, .val (.double b1), .second, .val (.double b2), .second, .val (.double b3), .second, .val (.double b4), .second, .val (.double b5), .second, .val (.double b6), .second, .val (.double b7), .second, .val (.double b8), .second, .val (.double b9), .second, .val (.double b10), .second, .val (.double b11), .second, .val (.double c0), .second, .val (.double c1), .second, .val (.double c2), .second, .val (.double c3), .second, .val (.double c4), .second, .val (.double c5), .second, .val (.double c6), .second, .unset, .unset, .unset, .unset, .unset, .unset, .unset, .unset, .unset, .unset, .unset, .unset, .unset, .unset, .unset, .unset, .unset, .unset, .unset, .unset] := ⟨_, rfl⟩
    refine own_st (fun _ kz => XS.dstore X154.here hx rfl (hb hby at_677) rfl (l' := Lt20) (by show storeLocals Lt19 _ _ = _; rw [hLt19, hLt20]; rfl) kz) ?_
    show own_Win p e below s _ _ _ (T154.setTop (mkF m 679 Lt20 []))
    refine own_st (fun _ kz => XT.lload X154.here hx rfl (v := p5) (hb hby at_679) (by show Lt20[_]? = _; rw [hLt20]; rfl) kz) ?_
    show own_Win p e below s _ _ _ (T154.setTop (mkF m 681 Lt20 [(.long p5)]))
    refine own_st (fun _ kz => XS.bipush X154.here hx rfl (hb hby at_681) kz) ?_
    show own_Win p e below s _ _ _ (T154.setTop (mkF m 683 Lt20 [(.int (7 : Int32)), (.long p5)]))
    refine own_callS X154 hx hZ hown (y := yV) (hw _ (List.mem_of_getElem? (i := 35) rfl)) (hw _ (List.mem_of_getElem? (i := 36) rfl)) (hw _ (List.mem_of_getElem? (i := 37) rfl)) (hw _ (List.mem_of_getElem? (i := 38) rfl)) (by decide) e154 (rmV l Z a0 hw [] p5 (7 : Int32) c7 h337 n0 Z337 hc7) (by decide) (W := 0) (by decide) rfl (by rw [hml]; show Lt20.size = _; rw [hLt20]; rfl) (argsL := [.long p5, .int (7 : Int32)]) (rest := []) (lenOf pdV rfl) rfl (Nat.le_of_eq rfl) (hb hby at_683) rfl (by decide) (by decide) ?_
    intro T155 v155 L155 X155 hQ155
    obtain ⟨rfl, M155, e155⟩ := hQ155
    have N155 := Fr.app N154 M155
    show own_Win p e below s _ _ _ (T155.setTop (mkF m 686 Lt20 [(.double c7)]))
    obtain ⟨Lt21, hLt21⟩ : ∃ L : Array Slot, L = #[.val (.long p1), .second, .val (.long p2), .second, .val (.long p3), .second, .val (.long p4), .second, .val (.long p5), .second, .val (.int p6), .val (.int pv), .val (.ref am), .val (.ref rg), .val (.ref rb), .val (.ref rc), .val (.ref a331), .val (.double got), .second, .val (.double u0), .second, .val (.double u1), .second, .val (.double u2), .second, .val (.double u3), .second, .val (.double u4), .second, .val (.double u5), .second, .val (.double b0), .second, .val (.double b1), .second, .val (.double b2), .second, .val (.double b3), .second, .val (.double b4), .second, .val (.double b5), .second, .val (.double b6), .second, .val (.double b7), .second, .val (.double b8), .second, .val (.double b9), .second, .val (.double b10), .second, .val (.double b11), .second, .val (.double c0), .second, .val (.double c1), .second, .val (.double c2), .second, .val (.double c3), .second, .val (.double c4), .second, .val (.double c5), .second, .val (.double c6), .second, .val (.double c7), .second, .unset, .unset, .unset, .unset, .unset, .unset, .unset, .unset, .unset, .unset, .unset, .unset, .unset, .unset, .unset, .unset, .unset, .unset] := ⟨_, rfl⟩
    refine own_st (fun _ kz => XS.dstore X155.here hx rfl (hb hby at_686) rfl (l' := Lt21) (by show storeLocals Lt20 _ _ = _; rw [hLt20, hLt21]; rfl) kz) ?_
    show own_Win p e below s _ _ _ (T155.setTop (mkF m 688 Lt21 []))
    refine own_st (fun _ kz => XS.dload X155.here hx rfl (v := b0) (hb hby at_688) (by show Lt21[_]? = _; rw [hLt21]; rfl) kz) ?_
    show own_Win p e below s _ _ _ (T155.setTop (mkF m 690 Lt21 [(.double b0)]))
    refine own_st (fun _ kz => XS.dload X155.here hx rfl (v := u0) (hb hby at_690) (by show Lt21[_]? = _; rw [hLt21]; rfl) kz) ?_
    show own_Win p e below s _ _ _ (T155.setTop (mkF m 692 Lt21 [(.double u0), (.double b0)]))
    obtain ⟨z1, hz1⟩ : ∃ z, (FP.dmul b0 u0) = z := ⟨_, rfl⟩
    have dz1 := own_Nm nb0 nu0 (by decide)
    rw [hz1] at dz1
    refine own_st (fun _ kz => XS.dmulS X155.here hx rfl (hb hby at_692) rfl (by rw [hz1]; exact own_Nn dz1) hz1 kz) ?_
    show own_Win p e below s _ _ _ (T155.setTop (mkF m 693 Lt21 [(.double z1)]))
    refine own_st (fun _ kz => XS.dload X155.here hx rfl (v := b1) (hb hby at_693) (by show Lt21[_]? = _; rw [hLt21]; rfl) kz) ?_
    show own_Win p e below s _ _ _ (T155.setTop (mkF m 695 Lt21 [(.double b1), (.double z1)]))
    refine own_st (fun _ kz => XS.dload X155.here hx rfl (v := u1) (hb hby at_695) (by show Lt21[_]? = _; rw [hLt21]; rfl) kz) ?_
    show own_Win p e below s _ _ _ (T155.setTop (mkF m 697 Lt21 [(.double u1), (.double b1), (.double z1)]))
    obtain ⟨z2, hz2⟩ : ∃ z, (FP.dmul b1 u1) = z := ⟨_, rfl⟩
    have dz2 := own_Nm nb1 nu1 (by decide)
    rw [hz2] at dz2
    refine own_st (fun _ kz => XS.dmulS X155.here hx rfl (hb hby at_697) rfl (by rw [hz2]; exact own_Nn dz2) hz2 kz) ?_
    show own_Win p e below s _ _ _ (T155.setTop (mkF m 698 Lt21 [(.double z2), (.double z1)]))
    obtain ⟨z3, hz3⟩ : ∃ z, (FP.dadd z1 z2) = z := ⟨_, rfl⟩
    have dz3 := own_Na dz1 dz2 (by decide)
    rw [hz3] at dz3
    refine own_st (fun _ kz => XS.daddS X155.here hx rfl (hb hby at_698) rfl (by rw [hz3]; exact own_Nn dz3) hz3 kz) ?_
    show own_Win p e below s _ _ _ (T155.setTop (mkF m 699 Lt21 [(.double z3)]))
    refine own_st (fun _ kz => XS.dload X155.here hx rfl (v := c0) (hb hby at_699) (by show Lt21[_]? = _; rw [hLt21]; rfl) kz) ?_
    show own_Win p e below s _ _ _ (T155.setTop (mkF m 701 Lt21 [(.double c0), (.double z3)]))
    refine own_st (fun _ kz => XS.dload X155.here hx rfl (v := u2) (hb hby at_701) (by show Lt21[_]? = _; rw [hLt21]; rfl) kz) ?_
    show own_Win p e below s _ _ _ (T155.setTop (mkF m 703 Lt21 [(.double u2), (.double c0), (.double z3)]))
    obtain ⟨z4, hz4⟩ : ∃ z, (FP.dmul c0 u2) = z := ⟨_, rfl⟩
    have dz4 := own_Nm nc0 nu2 (by decide)
    rw [hz4] at dz4
    refine own_st (fun _ kz => XS.dmulS X155.here hx rfl (hb hby at_703) rfl (by rw [hz4]; exact own_Nn dz4) hz4 kz) ?_
    show own_Win p e below s _ _ _ (T155.setTop (mkF m 704 Lt21 [(.double z4), (.double z3)]))
    obtain ⟨z5, hz5⟩ : ∃ z, (FP.dadd z3 z4) = z := ⟨_, rfl⟩
    have dz5 := own_Na dz3 dz4 (by decide)
    rw [hz5] at dz5
    refine own_st (fun _ kz => XS.daddS X155.here hx rfl (hb hby at_704) rfl (by rw [hz5]; exact own_Nn dz5) hz5 kz) ?_
    show own_Win p e below s _ _ _ (T155.setTop (mkF m 705 Lt21 [(.double z5)]))
    refine own_st (fun _ kz => XS.dload X155.here hx rfl (v := c1) (hb hby at_705) (by show Lt21[_]? = _; rw [hLt21]; rfl) kz) ?_
    show own_Win p e below s _ _ _ (T155.setTop (mkF m 707 Lt21 [(.double c1), (.double z5)]))
    refine own_st (fun _ kz => XS.dload X155.here hx rfl (v := u3) (hb hby at_707) (by show Lt21[_]? = _; rw [hLt21]; rfl) kz) ?_
    show own_Win p e below s _ _ _ (T155.setTop (mkF m 709 Lt21 [(.double u3), (.double c1), (.double z5)]))
    obtain ⟨z6, hz6⟩ : ∃ z, (FP.dmul c1 u3) = z := ⟨_, rfl⟩
    have dz6 := own_Nm nc1 nu3 (by decide)
    rw [hz6] at dz6
    refine own_st (fun _ kz => XS.dmulS X155.here hx rfl (hb hby at_709) rfl (by rw [hz6]; exact own_Nn dz6) hz6 kz) ?_
    show own_Win p e below s _ _ _ (T155.setTop (mkF m 710 Lt21 [(.double z6), (.double z5)]))
    obtain ⟨z7, hz7⟩ : ∃ z, (FP.dadd z5 z6) = z := ⟨_, rfl⟩
    have dz7 := own_Na dz5 dz6 (by decide)
    rw [hz7] at dz7
    refine own_st (fun _ kz => XS.daddS X155.here hx rfl (hb hby at_710) rfl (by rw [hz7]; exact own_Nn dz7) hz7 kz) ?_
    show own_Win p e below s _ _ _ (T155.setTop (mkF m 711 Lt21 [(.double z7)]))
    obtain ⟨Lt22, hLt22⟩ : ∃ L : Array Slot, L = #[.val (.long p1), .second, .val (.long p2), .second, .val (.long p3), .second, .val (.long p4), .second, .val (.long p5), .second, .val (.int p6), .val (.int pv), .val (.ref am), .val (.ref rg), .val (.ref rb), .val (.ref rc), .val (.ref a331), .val (.double got), .second, .val (.double u0), .second, .val (.double u1), .second, .val (.double u2), .second, .val (.double u3), .second, .val (.double u4), .second, .val (.double u5), .second, .val (.double b0), .second, .val (.double b1), .second, .val (.double b2), .second, .val (.double b3), .second, .val (.double b4), .second, .val (.double b5), .second, .val (.double b6), .second, .val (.double b7), .second, .val (.double b8), .second, .val (.double b9), .second, .val (.double b10), .second, .val (.double b11), .second, .val (.double c0), .second, .val (.double c1), .second, .val (.double c2), .second, .val (.double c3), .second, .val (.double c4), .second, .val (.double c5), .second, .val (.double c6), .second, .val (.double c7), .second, .val (.double z7), .second, .unset, .unset, .unset, .unset, .unset, .unset, .unset, .unset, .unset, .unset, .unset, .unset, .unset, .unset, .unset, .unset] := ⟨_, rfl⟩
    refine own_st (fun _ kz => XS.dstore X155.here hx rfl (hb hby at_711) rfl (l' := Lt22) (by show storeLocals Lt21 _ _ = _; rw [hLt21, hLt22]; rfl) kz) ?_
    show own_Win p e below s _ _ _ (T155.setTop (mkF m 713 Lt22 []))
    refine own_st (fun _ kz => XS.dload X155.here hx rfl (v := b2) (hb hby at_713) (by show Lt22[_]? = _; rw [hLt22]; rfl) kz) ?_
    show own_Win p e below s _ _ _ (T155.setTop (mkF m 715 Lt22 [(.double b2)]))
    refine own_st (fun _ kz => XS.dload X155.here hx rfl (v := u0) (hb hby at_715) (by show Lt22[_]? = _; rw [hLt22]; rfl) kz) ?_
    show own_Win p e below s _ _ _ (T155.setTop (mkF m 717 Lt22 [(.double u0), (.double b2)]))
    obtain ⟨z8, hz8⟩ : ∃ z, (FP.dmul b2 u0) = z := ⟨_, rfl⟩
    have dz8 := own_Nm nb2 nu0 (by decide)
    rw [hz8] at dz8
    refine own_st (fun _ kz => XS.dmulS X155.here hx rfl (hb hby at_717) rfl (by rw [hz8]; exact own_Nn dz8) hz8 kz) ?_
    show own_Win p e below s _ _ _ (T155.setTop (mkF m 718 Lt22 [(.double z8)]))
    refine own_st (fun _ kz => XS.dload X155.here hx rfl (v := b3) (hb hby at_718) (by show Lt22[_]? = _; rw [hLt22]; rfl) kz) ?_
    show own_Win p e below s _ _ _ (T155.setTop (mkF m 720 Lt22 [(.double b3), (.double z8)]))
    refine own_st (fun _ kz => XS.dload X155.here hx rfl (v := u1) (hb hby at_720) (by show Lt22[_]? = _; rw [hLt22]; rfl) kz) ?_
    show own_Win p e below s _ _ _ (T155.setTop (mkF m 722 Lt22 [(.double u1), (.double b3), (.double z8)]))
    obtain ⟨z9, hz9⟩ : ∃ z, (FP.dmul b3 u1) = z := ⟨_, rfl⟩
    have dz9 := own_Nm nb3 nu1 (by decide)
    rw [hz9] at dz9
    refine own_st (fun _ kz => XS.dmulS X155.here hx rfl (hb hby at_722) rfl (by rw [hz9]; exact own_Nn dz9) hz9 kz) ?_
    show own_Win p e below s _ _ _ (T155.setTop (mkF m 723 Lt22 [(.double z9), (.double z8)]))
    obtain ⟨z10, hz10⟩ : ∃ z, (FP.dadd z8 z9) = z := ⟨_, rfl⟩
    have dz10 := own_Na dz8 dz9 (by decide)
    rw [hz10] at dz10
    refine own_st (fun _ kz => XS.daddS X155.here hx rfl (hb hby at_723) rfl (by rw [hz10]; exact own_Nn dz10) hz10 kz) ?_
    show own_Win p e below s _ _ _ (T155.setTop (mkF m 724 Lt22 [(.double z10)]))
    refine own_st (fun _ kz => XS.dload X155.here hx rfl (v := c2) (hb hby at_724) (by show Lt22[_]? = _; rw [hLt22]; rfl) kz) ?_
    show own_Win p e below s _ _ _ (T155.setTop (mkF m 726 Lt22 [(.double c2), (.double z10)]))
    refine own_st (fun _ kz => XS.dload X155.here hx rfl (v := u2) (hb hby at_726) (by show Lt22[_]? = _; rw [hLt22]; rfl) kz) ?_
    show own_Win p e below s _ _ _ (T155.setTop (mkF m 728 Lt22 [(.double u2), (.double c2), (.double z10)]))
    obtain ⟨z11, hz11⟩ : ∃ z, (FP.dmul c2 u2) = z := ⟨_, rfl⟩
    have dz11 := own_Nm nc2 nu2 (by decide)
    rw [hz11] at dz11
    refine own_st (fun _ kz => XS.dmulS X155.here hx rfl (hb hby at_728) rfl (by rw [hz11]; exact own_Nn dz11) hz11 kz) ?_
    show own_Win p e below s _ _ _ (T155.setTop (mkF m 729 Lt22 [(.double z11), (.double z10)]))
    obtain ⟨z12, hz12⟩ : ∃ z, (FP.dadd z10 z11) = z := ⟨_, rfl⟩
    have dz12 := own_Na dz10 dz11 (by decide)
    rw [hz12] at dz12
    refine own_st (fun _ kz => XS.daddS X155.here hx rfl (hb hby at_729) rfl (by rw [hz12]; exact own_Nn dz12) hz12 kz) ?_
    show own_Win p e below s _ _ _ (T155.setTop (mkF m 730 Lt22 [(.double z12)]))
    refine own_st (fun _ kz => XS.dload X155.here hx rfl (v := c3) (hb hby at_730) (by show Lt22[_]? = _; rw [hLt22]; rfl) kz) ?_
    show own_Win p e below s _ _ _ (T155.setTop (mkF m 732 Lt22 [(.double c3), (.double z12)]))
    refine own_st (fun _ kz => XS.dload X155.here hx rfl (v := u3) (hb hby at_732) (by show Lt22[_]? = _; rw [hLt22]; rfl) kz) ?_
    show own_Win p e below s _ _ _ (T155.setTop (mkF m 734 Lt22 [(.double u3), (.double c3), (.double z12)]))
    obtain ⟨z13, hz13⟩ : ∃ z, (FP.dmul c3 u3) = z := ⟨_, rfl⟩
    have dz13 := own_Nm nc3 nu3 (by decide)
    rw [hz13] at dz13
    refine own_st (fun _ kz => XS.dmulS X155.here hx rfl (hb hby at_734) rfl (by rw [hz13]; exact own_Nn dz13) hz13 kz) ?_
    show own_Win p e below s _ _ _ (T155.setTop (mkF m 735 Lt22 [(.double z13), (.double z12)]))
    obtain ⟨z14, hz14⟩ : ∃ z, (FP.dadd z12 z13) = z := ⟨_, rfl⟩
    have dz14 := own_Na dz12 dz13 (by decide)
    rw [hz14] at dz14
    refine own_st (fun _ kz => XS.daddS X155.here hx rfl (hb hby at_735) rfl (by rw [hz14]; exact own_Nn dz14) hz14 kz) ?_
    show own_Win p e below s _ _ _ (T155.setTop (mkF m 736 Lt22 [(.double z14)]))
    obtain ⟨Lt23, hLt23⟩ : ∃ L : Array Slot, L = #[.val (.long p1), .second, .val (.long p2), .second, .val (.long p3), .second, .val (.long p4), .second, .val (.long p5), .second, .val (.int p6), .val (.int pv), .val (.ref am), .val (.ref rg), .val (.ref rb), .val (.ref rc), .val (.ref a331), .val (.double got), .second, .val (.double u0), .second, .val (.double u1), .second, .val (.double u2), .second, .val (.double u3), .second, .val (.double u4), .second, .val (.double u5), .second, .val (.double b0), .second, .val (.double b1), .second, .val (.double b2), .second, .val (.double b3), .second, .val (.double b4), .second, .val (.double b5), .second, .val (.double b6), .second, .val (.double b7), .second, .val (.double b8), .second, .val (.double b9), .second, .val (.double b10), .second, .val (.double b11), .second, .val (.double c0), .second, .val (.double c1), .second, .val (.double c2), .second, .val (.double c3), .second, .val (.double c4), .second, .val (.double c5), .second, .val (.double c6), .second, .val (.double c7), .second, .val (.double z7), .second, .val (.double z14), .second, .unset, .unset, .unset, .unset, .unset, .unset, .unset, .unset, .unset, .unset, .unset, .unset, .unset, .unset] := ⟨_, rfl⟩
    refine own_st (fun _ kz => XS.dstore X155.here hx rfl (hb hby at_736) rfl (l' := Lt23) (by show storeLocals Lt22 _ _ = _; rw [hLt22, hLt23]; rfl) kz) ?_
    show own_Win p e below s _ _ _ (T155.setTop (mkF m 738 Lt23 []))
    refine own_st (fun _ kz => XS.dload X155.here hx rfl (v := c0) (hb hby at_738) (by show Lt23[_]? = _; rw [hLt23]; rfl) kz) ?_
    show own_Win p e below s _ _ _ (T155.setTop (mkF m 740 Lt23 [(.double c0)]))
    refine own_st (fun _ kz => XS.dload X155.here hx rfl (v := u0) (hb hby at_740) (by show Lt23[_]? = _; rw [hLt23]; rfl) kz) ?_
    show own_Win p e below s _ _ _ (T155.setTop (mkF m 742 Lt23 [(.double u0), (.double c0)]))
    obtain ⟨z15, hz15⟩ : ∃ z, (FP.dmul c0 u0) = z := ⟨_, rfl⟩
    have dz15 := own_Nm nc0 nu0 (by decide)
    rw [hz15] at dz15
    refine own_st (fun _ kz => XS.dmulS X155.here hx rfl (hb hby at_742) rfl (by rw [hz15]; exact own_Nn dz15) hz15 kz) ?_
    show own_Win p e below s _ _ _ (T155.setTop (mkF m 743 Lt23 [(.double z15)]))
    refine own_st (fun _ kz => XS.dload X155.here hx rfl (v := c2) (hb hby at_743) (by show Lt23[_]? = _; rw [hLt23]; rfl) kz) ?_
    show own_Win p e below s _ _ _ (T155.setTop (mkF m 745 Lt23 [(.double c2), (.double z15)]))
    refine own_st (fun _ kz => XS.dload X155.here hx rfl (v := u1) (hb hby at_745) (by show Lt23[_]? = _; rw [hLt23]; rfl) kz) ?_
    show own_Win p e below s _ _ _ (T155.setTop (mkF m 747 Lt23 [(.double u1), (.double c2), (.double z15)]))
    obtain ⟨z16, hz16⟩ : ∃ z, (FP.dmul c2 u1) = z := ⟨_, rfl⟩
    have dz16 := own_Nm nc2 nu1 (by decide)
    rw [hz16] at dz16
    refine own_st (fun _ kz => XS.dmulS X155.here hx rfl (hb hby at_747) rfl (by rw [hz16]; exact own_Nn dz16) hz16 kz) ?_
    show own_Win p e below s _ _ _ (T155.setTop (mkF m 748 Lt23 [(.double z16), (.double z15)]))
    obtain ⟨z17, hz17⟩ : ∃ z, (FP.dadd z15 z16) = z := ⟨_, rfl⟩
    have dz17 := own_Na dz15 dz16 (by decide)
    rw [hz17] at dz17
    refine own_st (fun _ kz => XS.daddS X155.here hx rfl (hb hby at_748) rfl (by rw [hz17]; exact own_Nn dz17) hz17 kz) ?_
    show own_Win p e below s _ _ _ (T155.setTop (mkF m 749 Lt23 [(.double z17)]))
    refine own_st (fun _ kz => XS.dload X155.here hx rfl (v := b4) (hb hby at_749) (by show Lt23[_]? = _; rw [hLt23]; rfl) kz) ?_
    show own_Win p e below s _ _ _ (T155.setTop (mkF m 751 Lt23 [(.double b4), (.double z17)]))
    refine own_st (fun _ kz => XS.dload X155.here hx rfl (v := u2) (hb hby at_751) (by show Lt23[_]? = _; rw [hLt23]; rfl) kz) ?_
    show own_Win p e below s _ _ _ (T155.setTop (mkF m 753 Lt23 [(.double u2), (.double b4), (.double z17)]))
    obtain ⟨z18, hz18⟩ : ∃ z, (FP.dmul b4 u2) = z := ⟨_, rfl⟩
    have dz18 := own_Nm nb4 nu2 (by decide)
    rw [hz18] at dz18
    refine own_st (fun _ kz => XS.dmulS X155.here hx rfl (hb hby at_753) rfl (by rw [hz18]; exact own_Nn dz18) hz18 kz) ?_
    show own_Win p e below s _ _ _ (T155.setTop (mkF m 754 Lt23 [(.double z18), (.double z17)]))
    obtain ⟨z19, hz19⟩ : ∃ z, (FP.dadd z17 z18) = z := ⟨_, rfl⟩
    have dz19 := own_Na dz17 dz18 (by decide)
    rw [hz19] at dz19
    refine own_st (fun _ kz => XS.daddS X155.here hx rfl (hb hby at_754) rfl (by rw [hz19]; exact own_Nn dz19) hz19 kz) ?_
    show own_Win p e below s _ _ _ (T155.setTop (mkF m 755 Lt23 [(.double z19)]))
    refine own_st (fun _ kz => XS.dload X155.here hx rfl (v := b5) (hb hby at_755) (by show Lt23[_]? = _; rw [hLt23]; rfl) kz) ?_
    show own_Win p e below s _ _ _ (T155.setTop (mkF m 757 Lt23 [(.double b5), (.double z19)]))
    refine own_st (fun _ kz => XS.dload X155.here hx rfl (v := u3) (hb hby at_757) (by show Lt23[_]? = _; rw [hLt23]; rfl) kz) ?_
    show own_Win p e below s _ _ _ (T155.setTop (mkF m 759 Lt23 [(.double u3), (.double b5), (.double z19)]))
    obtain ⟨z20, hz20⟩ : ∃ z, (FP.dmul b5 u3) = z := ⟨_, rfl⟩
    have dz20 := own_Nm nb5 nu3 (by decide)
    rw [hz20] at dz20
    refine own_st (fun _ kz => XS.dmulS X155.here hx rfl (hb hby at_759) rfl (by rw [hz20]; exact own_Nn dz20) hz20 kz) ?_
    show own_Win p e below s _ _ _ (T155.setTop (mkF m 760 Lt23 [(.double z20), (.double z19)]))
    obtain ⟨z21, hz21⟩ : ∃ z, (FP.dadd z19 z20) = z := ⟨_, rfl⟩
    have dz21 := own_Na dz19 dz20 (by decide)
    rw [hz21] at dz21
    refine own_st (fun _ kz => XS.daddS X155.here hx rfl (hb hby at_760) rfl (by rw [hz21]; exact own_Nn dz21) hz21 kz) ?_
    show own_Win p e below s _ _ _ (T155.setTop (mkF m 761 Lt23 [(.double z21)]))
    refine own_st (fun _ kz => XS.dload X155.here hx rfl (v := c4) (hb hby at_761) (by show Lt23[_]? = _; rw [hLt23]; rfl) kz) ?_
    show own_Win p e below s _ _ _ (T155.setTop (mkF m 763 Lt23 [(.double c4), (.double z21)]))
    refine own_st (fun _ kz => XS.dload X155.here hx rfl (v := u4) (hb hby at_763) (by show Lt23[_]? = _; rw [hLt23]; rfl) kz) ?_
    show own_Win p e below s _ _ _ (T155.setTop (mkF m 765 Lt23 [(.double u4), (.double c4), (.double z21)]))
    obtain ⟨z22, hz22⟩ : ∃ z, (FP.dmul c4 u4) = z := ⟨_, rfl⟩
    have dz22 := own_Nm nc4 nu4 (by decide)
    rw [hz22] at dz22
    refine own_st (fun _ kz => XS.dmulS X155.here hx rfl (hb hby at_765) rfl (by rw [hz22]; exact own_Nn dz22) hz22 kz) ?_
    show own_Win p e below s _ _ _ (T155.setTop (mkF m 766 Lt23 [(.double z22), (.double z21)]))
    obtain ⟨z23, hz23⟩ : ∃ z, (FP.dadd z21 z22) = z := ⟨_, rfl⟩
    have dz23 := own_Na dz21 dz22 (by decide)
    rw [hz23] at dz23
    refine own_st (fun _ kz => XS.daddS X155.here hx rfl (hb hby at_766) rfl (by rw [hz23]; exact own_Nn dz23) hz23 kz) ?_
    show own_Win p e below s _ _ _ (T155.setTop (mkF m 767 Lt23 [(.double z23)]))
    refine own_st (fun _ kz => XS.dload X155.here hx rfl (v := c5) (hb hby at_767) (by show Lt23[_]? = _; rw [hLt23]; rfl) kz) ?_
    show own_Win p e below s _ _ _ (T155.setTop (mkF m 769 Lt23 [(.double c5), (.double z23)]))
    refine own_st (fun _ kz => XS.dload X155.here hx rfl (v := u5) (hb hby at_769) (by show Lt23[_]? = _; rw [hLt23]; rfl) kz) ?_
    show own_Win p e below s _ _ _ (T155.setTop (mkF m 771 Lt23 [(.double u5), (.double c5), (.double z23)]))
    obtain ⟨z24, hz24⟩ : ∃ z, (FP.dmul c5 u5) = z := ⟨_, rfl⟩
    have dz24 := own_Nm nc5 nu5 (by decide)
    rw [hz24] at dz24
    refine own_st (fun _ kz => XS.dmulS X155.here hx rfl (hb hby at_771) rfl (by rw [hz24]; exact own_Nn dz24) hz24 kz) ?_
    show own_Win p e below s _ _ _ (T155.setTop (mkF m 772 Lt23 [(.double z24), (.double z23)]))
    obtain ⟨z25, hz25⟩ : ∃ z, (FP.dadd z23 z24) = z := ⟨_, rfl⟩
    have dz25 := own_Na dz23 dz24 (by decide)
    rw [hz25] at dz25
    refine own_st (fun _ kz => XS.daddS X155.here hx rfl (hb hby at_772) rfl (by rw [hz25]; exact own_Nn dz25) hz25 kz) ?_
    show own_Win p e below s _ _ _ (T155.setTop (mkF m 773 Lt23 [(.double z25)]))
    obtain ⟨Lt24, hLt24⟩ : ∃ L : Array Slot, L = #[.val (.long p1), .second, .val (.long p2), .second, .val (.long p3), .second, .val (.long p4), .second, .val (.long p5), .second, .val (.int p6), .val (.int pv), .val (.ref am), .val (.ref rg), .val (.ref rb), .val (.ref rc), .val (.ref a331), .val (.double got), .second, .val (.double u0), .second, .val (.double u1), .second, .val (.double u2), .second, .val (.double u3), .second, .val (.double u4), .second, .val (.double u5), .second, .val (.double b0), .second, .val (.double b1), .second, .val (.double b2), .second, .val (.double b3), .second, .val (.double b4), .second, .val (.double b5), .second, .val (.double b6), .second, .val (.double b7), .second, .val (.double b8), .second, .val (.double b9), .second, .val (.double b10), .second, .val (.double b11), .second, .val (.double c0), .second, .val (.double c1), .second, .val (.double c2), .second, .val (.double c3), .second, .val (.double c4), .second, .val (.double c5), .second, .val (.double c6), .second, .val (.double c7), .second, .val (.double z7), .second, .val (.double z14), .second, .val (.double z25), .second, .unset, .unset, .unset, .unset, .unset, .unset, .unset, .unset, .unset, .unset, .unset, .unset] := ⟨_, rfl⟩
    refine own_st (fun _ kz => XS.dstore X155.here hx rfl (hb hby at_773) rfl (l' := Lt24) (by show storeLocals Lt23 _ _ = _; rw [hLt23, hLt24]; rfl) kz) ?_
    show own_Win p e below s _ _ _ (T155.setTop (mkF m 775 Lt24 []))
    refine own_st (fun _ kz => XS.dload X155.here hx rfl (v := c1) (hb hby at_775) (by show Lt24[_]? = _; rw [hLt24]; rfl) kz) ?_
    show own_Win p e below s _ _ _ (T155.setTop (mkF m 777 Lt24 [(.double c1)]))
    refine own_st (fun _ kz => XS.dload X155.here hx rfl (v := u0) (hb hby at_777) (by show Lt24[_]? = _; rw [hLt24]; rfl) kz) ?_
    show own_Win p e below s _ _ _ (T155.setTop (mkF m 779 Lt24 [(.double u0), (.double c1)]))
    obtain ⟨z26, hz26⟩ : ∃ z, (FP.dmul c1 u0) = z := ⟨_, rfl⟩
    have dz26 := own_Nm nc1 nu0 (by decide)
    rw [hz26] at dz26
    refine own_st (fun _ kz => XS.dmulS X155.here hx rfl (hb hby at_779) rfl (by rw [hz26]; exact own_Nn dz26) hz26 kz) ?_
    show own_Win p e below s _ _ _ (T155.setTop (mkF m 780 Lt24 [(.double z26)]))
    refine own_st (fun _ kz => XS.dload X155.here hx rfl (v := c3) (hb hby at_780) (by show Lt24[_]? = _; rw [hLt24]; rfl) kz) ?_
    show own_Win p e below s _ _ _ (T155.setTop (mkF m 782 Lt24 [(.double c3), (.double z26)]))
    refine own_st (fun _ kz => XS.dload X155.here hx rfl (v := u1) (hb hby at_782) (by show Lt24[_]? = _; rw [hLt24]; rfl) kz) ?_
    show own_Win p e below s _ _ _ (T155.setTop (mkF m 784 Lt24 [(.double u1), (.double c3), (.double z26)]))
    obtain ⟨z27, hz27⟩ : ∃ z, (FP.dmul c3 u1) = z := ⟨_, rfl⟩
    have dz27 := own_Nm nc3 nu1 (by decide)
    rw [hz27] at dz27
    refine own_st (fun _ kz => XS.dmulS X155.here hx rfl (hb hby at_784) rfl (by rw [hz27]; exact own_Nn dz27) hz27 kz) ?_
    show own_Win p e below s _ _ _ (T155.setTop (mkF m 785 Lt24 [(.double z27), (.double z26)]))
    obtain ⟨z28, hz28⟩ : ∃ z, (FP.dadd z26 z27) = z := ⟨_, rfl⟩
    have dz28 := own_Na dz26 dz27 (by decide)
    rw [hz28] at dz28
    refine own_st (fun _ kz => XS.daddS X155.here hx rfl (hb hby at_785) rfl (by rw [hz28]; exact own_Nn dz28) hz28 kz) ?_
    show own_Win p e below s _ _ _ (T155.setTop (mkF m 786 Lt24 [(.double z28)]))
    refine own_st (fun _ kz => XS.dload X155.here hx rfl (v := b6) (hb hby at_786) (by show Lt24[_]? = _; rw [hLt24]; rfl) kz) ?_
    show own_Win p e below s _ _ _ (T155.setTop (mkF m 788 Lt24 [(.double b6), (.double z28)]))
    refine own_st (fun _ kz => XS.dload X155.here hx rfl (v := u2) (hb hby at_788) (by show Lt24[_]? = _; rw [hLt24]; rfl) kz) ?_
    show own_Win p e below s _ _ _ (T155.setTop (mkF m 790 Lt24 [(.double u2), (.double b6), (.double z28)]))
    obtain ⟨z29, hz29⟩ : ∃ z, (FP.dmul b6 u2) = z := ⟨_, rfl⟩
    have dz29 := own_Nm nb6 nu2 (by decide)
    rw [hz29] at dz29
    refine own_st (fun _ kz => XS.dmulS X155.here hx rfl (hb hby at_790) rfl (by rw [hz29]; exact own_Nn dz29) hz29 kz) ?_
    show own_Win p e below s _ _ _ (T155.setTop (mkF m 791 Lt24 [(.double z29), (.double z28)]))
    obtain ⟨z30, hz30⟩ : ∃ z, (FP.dadd z28 z29) = z := ⟨_, rfl⟩
    have dz30 := own_Na dz28 dz29 (by decide)
    rw [hz30] at dz30
    refine own_st (fun _ kz => XS.daddS X155.here hx rfl (hb hby at_791) rfl (by rw [hz30]; exact own_Nn dz30) hz30 kz) ?_
    show own_Win p e below s _ _ _ (T155.setTop (mkF m 792 Lt24 [(.double z30)]))
    refine own_st (fun _ kz => XS.dload X155.here hx rfl (v := b7) (hb hby at_792) (by show Lt24[_]? = _; rw [hLt24]; rfl) kz) ?_
    show own_Win p e below s _ _ _ (T155.setTop (mkF m 794 Lt24 [(.double b7), (.double z30)]))
    refine own_st (fun _ kz => XS.dload X155.here hx rfl (v := u3) (hb hby at_794) (by show Lt24[_]? = _; rw [hLt24]; rfl) kz) ?_
    show own_Win p e below s _ _ _ (T155.setTop (mkF m 796 Lt24 [(.double u3), (.double b7), (.double z30)]))
    obtain ⟨z31, hz31⟩ : ∃ z, (FP.dmul b7 u3) = z := ⟨_, rfl⟩
    have dz31 := own_Nm nb7 nu3 (by decide)
    rw [hz31] at dz31
    refine own_st (fun _ kz => XS.dmulS X155.here hx rfl (hb hby at_796) rfl (by rw [hz31]; exact own_Nn dz31) hz31 kz) ?_
    show own_Win p e below s _ _ _ (T155.setTop (mkF m 797 Lt24 [(.double z31), (.double z30)]))
    obtain ⟨z32, hz32⟩ : ∃ z, (FP.dadd z30 z31) = z := ⟨_, rfl⟩
    have dz32 := own_Na dz30 dz31 (by decide)
    rw [hz32] at dz32
    refine own_st (fun _ kz => XS.daddS X155.here hx rfl (hb hby at_797) rfl (by rw [hz32]; exact own_Nn dz32) hz32 kz) ?_
    show own_Win p e below s _ _ _ (T155.setTop (mkF m 798 Lt24 [(.double z32)]))
    refine own_st (fun _ kz => XS.dload X155.here hx rfl (v := c6) (hb hby at_798) (by show Lt24[_]? = _; rw [hLt24]; rfl) kz) ?_
    show own_Win p e below s _ _ _ (T155.setTop (mkF m 800 Lt24 [(.double c6), (.double z32)]))
    refine own_st (fun _ kz => XS.dload X155.here hx rfl (v := u4) (hb hby at_800) (by show Lt24[_]? = _; rw [hLt24]; rfl) kz) ?_
    show own_Win p e below s _ _ _ (T155.setTop (mkF m 802 Lt24 [(.double u4), (.double c6), (.double z32)]))
    obtain ⟨z33, hz33⟩ : ∃ z, (FP.dmul c6 u4) = z := ⟨_, rfl⟩
    have dz33 := own_Nm nc6 nu4 (by decide)
    rw [hz33] at dz33
    refine own_st (fun _ kz => XS.dmulS X155.here hx rfl (hb hby at_802) rfl (by rw [hz33]; exact own_Nn dz33) hz33 kz) ?_
    show own_Win p e below s _ _ _ (T155.setTop (mkF m 803 Lt24 [(.double z33), (.double z32)]))
    obtain ⟨z34, hz34⟩ : ∃ z, (FP.dadd z32 z33) = z := ⟨_, rfl⟩
    have dz34 := own_Na dz32 dz33 (by decide)
    rw [hz34] at dz34
    refine own_st (fun _ kz => XS.daddS X155.here hx rfl (hb hby at_803) rfl (by rw [hz34]; exact own_Nn dz34) hz34 kz) ?_
    show own_Win p e below s _ _ _ (T155.setTop (mkF m 804 Lt24 [(.double z34)]))
    refine own_st (fun _ kz => XS.dload X155.here hx rfl (v := c7) (hb hby at_804) (by show Lt24[_]? = _; rw [hLt24]; rfl) kz) ?_
    show own_Win p e below s _ _ _ (T155.setTop (mkF m 806 Lt24 [(.double c7), (.double z34)]))
    refine own_st (fun _ kz => XS.dload X155.here hx rfl (v := u5) (hb hby at_806) (by show Lt24[_]? = _; rw [hLt24]; rfl) kz) ?_
    show own_Win p e below s _ _ _ (T155.setTop (mkF m 808 Lt24 [(.double u5), (.double c7), (.double z34)]))
    obtain ⟨z35, hz35⟩ : ∃ z, (FP.dmul c7 u5) = z := ⟨_, rfl⟩
    have dz35 := own_Nm nc7 nu5 (by decide)
    rw [hz35] at dz35
    refine own_st (fun _ kz => XS.dmulS X155.here hx rfl (hb hby at_808) rfl (by rw [hz35]; exact own_Nn dz35) hz35 kz) ?_
    show own_Win p e below s _ _ _ (T155.setTop (mkF m 809 Lt24 [(.double z35), (.double z34)]))
    obtain ⟨z36, hz36⟩ : ∃ z, (FP.dadd z34 z35) = z := ⟨_, rfl⟩
    have dz36 := own_Na dz34 dz35 (by decide)
    rw [hz36] at dz36
    refine own_st (fun _ kz => XS.daddS X155.here hx rfl (hb hby at_809) rfl (by rw [hz36]; exact own_Nn dz36) hz36 kz) ?_
    show own_Win p e below s _ _ _ (T155.setTop (mkF m 810 Lt24 [(.double z36)]))
    obtain ⟨Lt25, hLt25⟩ : ∃ L : Array Slot, L = #[.val (.long p1), .second, .val (.long p2), .second, .val (.long p3), .second, .val (.long p4), .second, .val (.long p5), .second, .val (.int p6), .val (.int pv), .val (.ref am), .val (.ref rg), .val (.ref rb), .val (.ref rc), .val (.ref a331), .val (.double got), .second, .val (.double u0), .second, .val (.double u1), .second, .val (.double u2), .second, .val (.double u3), .second, .val (.double u4), .second, .val (.double u5), .second, .val (.double b0), .second, .val (.double b1), .second, .val (.double b2), .second, .val (.double b3), .second, .val (.double b4), .second, .val (.double b5), .second, .val (.double b6), .second, .val (.double b7), .second, .val (.double b8), .second, .val (.double b9), .second, .val (.double b10), .second, .val (.double b11), .second, .val (.double c0), .second, .val (.double c1), .second, .val (.double c2), .second, .val (.double c3), .second, .val (.double c4), .second, .val (.double c5), .second, .val (.double c6), .second, .val (.double c7), .second, .val (.double z7), .second, .val (.double z14), .second, .val (.double z25), .second, .val (.double z36), .second, .unset, .unset, .unset, .unset, .unset, .unset, .unset, .unset, .unset, .unset] := ⟨_, rfl⟩
    refine own_st (fun _ kz => XS.dstore X155.here hx rfl (hb hby at_810) rfl (l' := Lt25) (by show storeLocals Lt24 _ _ = _; rw [hLt24, hLt25]; rfl) kz) ?_
    show own_Win p e below s _ _ _ (T155.setTop (mkF m 812 Lt25 []))
    refine own_st (fun _ kz => XS.dload X155.here hx rfl (v := c4) (hb hby at_812) (by show Lt25[_]? = _; rw [hLt25]; rfl) kz) ?_
    show own_Win p e below s _ _ _ (T155.setTop (mkF m 814 Lt25 [(.double c4)]))
    refine own_st (fun _ kz => XS.dload X155.here hx rfl (v := u2) (hb hby at_814) (by show Lt25[_]? = _; rw [hLt25]; rfl) kz) ?_
    show own_Win p e below s _ _ _ (T155.setTop (mkF m 816 Lt25 [(.double u2), (.double c4)]))
    obtain ⟨z37, hz37⟩ : ∃ z, (FP.dmul c4 u2) = z := ⟨_, rfl⟩
    have dz37 := own_Nm nc4 nu2 (by decide)
    rw [hz37] at dz37
    refine own_st (fun _ kz => XS.dmulS X155.here hx rfl (hb hby at_816) rfl (by rw [hz37]; exact own_Nn dz37) hz37 kz) ?_
    show own_Win p e below s _ _ _ (T155.setTop (mkF m 817 Lt25 [(.double z37)]))
    refine own_st (fun _ kz => XS.dload X155.here hx rfl (v := c6) (hb hby at_817) (by show Lt25[_]? = _; rw [hLt25]; rfl) kz) ?_
    show own_Win p e below s _ _ _ (T155.setTop (mkF m 819 Lt25 [(.double c6), (.double z37)]))
    refine own_st (fun _ kz => XS.dload X155.here hx rfl (v := u3) (hb hby at_819) (by show Lt25[_]? = _; rw [hLt25]; rfl) kz) ?_
    show own_Win p e below s _ _ _ (T155.setTop (mkF m 821 Lt25 [(.double u3), (.double c6), (.double z37)]))
    obtain ⟨z38, hz38⟩ : ∃ z, (FP.dmul c6 u3) = z := ⟨_, rfl⟩
    have dz38 := own_Nm nc6 nu3 (by decide)
    rw [hz38] at dz38
    refine own_st (fun _ kz => XS.dmulS X155.here hx rfl (hb hby at_821) rfl (by rw [hz38]; exact own_Nn dz38) hz38 kz) ?_
    show own_Win p e below s _ _ _ (T155.setTop (mkF m 822 Lt25 [(.double z38), (.double z37)]))
    obtain ⟨z39, hz39⟩ : ∃ z, (FP.dadd z37 z38) = z := ⟨_, rfl⟩
    have dz39 := own_Na dz37 dz38 (by decide)
    rw [hz39] at dz39
    refine own_st (fun _ kz => XS.daddS X155.here hx rfl (hb hby at_822) rfl (by rw [hz39]; exact own_Nn dz39) hz39 kz) ?_
    show own_Win p e below s _ _ _ (T155.setTop (mkF m 823 Lt25 [(.double z39)]))
    refine own_st (fun _ kz => XS.dload X155.here hx rfl (v := b8) (hb hby at_823) (by show Lt25[_]? = _; rw [hLt25]; rfl) kz) ?_
    show own_Win p e below s _ _ _ (T155.setTop (mkF m 825 Lt25 [(.double b8), (.double z39)]))
    refine own_st (fun _ kz => XS.dload X155.here hx rfl (v := u4) (hb hby at_825) (by show Lt25[_]? = _; rw [hLt25]; rfl) kz) ?_
    show own_Win p e below s _ _ _ (T155.setTop (mkF m 827 Lt25 [(.double u4), (.double b8), (.double z39)]))
    obtain ⟨z40, hz40⟩ : ∃ z, (FP.dmul b8 u4) = z := ⟨_, rfl⟩
    have dz40 := own_Nm nb8 nu4 (by decide)
    rw [hz40] at dz40
    refine own_st (fun _ kz => XS.dmulS X155.here hx rfl (hb hby at_827) rfl (by rw [hz40]; exact own_Nn dz40) hz40 kz) ?_
    show own_Win p e below s _ _ _ (T155.setTop (mkF m 828 Lt25 [(.double z40), (.double z39)]))
    obtain ⟨z41, hz41⟩ : ∃ z, (FP.dadd z39 z40) = z := ⟨_, rfl⟩
    have dz41 := own_Na dz39 dz40 (by decide)
    rw [hz41] at dz41
    refine own_st (fun _ kz => XS.daddS X155.here hx rfl (hb hby at_828) rfl (by rw [hz41]; exact own_Nn dz41) hz41 kz) ?_
    show own_Win p e below s _ _ _ (T155.setTop (mkF m 829 Lt25 [(.double z41)]))
    refine own_st (fun _ kz => XS.dload X155.here hx rfl (v := b9) (hb hby at_829) (by show Lt25[_]? = _; rw [hLt25]; rfl) kz) ?_
    show own_Win p e below s _ _ _ (T155.setTop (mkF m 831 Lt25 [(.double b9), (.double z41)]))
    refine own_st (fun _ kz => XS.dload X155.here hx rfl (v := u5) (hb hby at_831) (by show Lt25[_]? = _; rw [hLt25]; rfl) kz) ?_
    show own_Win p e below s _ _ _ (T155.setTop (mkF m 833 Lt25 [(.double u5), (.double b9), (.double z41)]))
    obtain ⟨z42, hz42⟩ : ∃ z, (FP.dmul b9 u5) = z := ⟨_, rfl⟩
    have dz42 := own_Nm nb9 nu5 (by decide)
    rw [hz42] at dz42
    refine own_st (fun _ kz => XS.dmulS X155.here hx rfl (hb hby at_833) rfl (by rw [hz42]; exact own_Nn dz42) hz42 kz) ?_
    show own_Win p e below s _ _ _ (T155.setTop (mkF m 834 Lt25 [(.double z42), (.double z41)]))
    obtain ⟨z43, hz43⟩ : ∃ z, (FP.dadd z41 z42) = z := ⟨_, rfl⟩
    have dz43 := own_Na dz41 dz42 (by decide)
    rw [hz43] at dz43
    refine own_st (fun _ kz => XS.daddS X155.here hx rfl (hb hby at_834) rfl (by rw [hz43]; exact own_Nn dz43) hz43 kz) ?_
    show own_Win p e below s _ _ _ (T155.setTop (mkF m 835 Lt25 [(.double z43)]))
    obtain ⟨Lt26, hLt26⟩ : ∃ L : Array Slot, L = #[.val (.long p1), .second, .val (.long p2), .second, .val (.long p3), .second, .val (.long p4), .second, .val (.long p5), .second, .val (.int p6), .val (.int pv), .val (.ref am), .val (.ref rg), .val (.ref rb), .val (.ref rc), .val (.ref a331), .val (.double got), .second, .val (.double u0), .second, .val (.double u1), .second, .val (.double u2), .second, .val (.double u3), .second, .val (.double u4), .second, .val (.double u5), .second, .val (.double b0), .second, .val (.double b1), .second, .val (.double b2), .second, .val (.double b3), .second, .val (.double b4), .second, .val (.double b5), .second, .val (.double b6), .second, .val (.double b7), .second, .val (.double b8), .second, .val (.double b9), .second, .val (.double b10), .second, .val (.double b11), .second, .val (.double c0), .second, .val (.double c1), .second, .val (.double c2), .second, .val (.double c3), .second, .val (.double c4), .second, .val (.double c5), .second, .val (.double c6), .second, .val (.double c7), .second, .val (.double z7), .second, .val (.double z14), .second, .val (.double z25), .second, .val (.double z36), .second, .val (.double z43), .second, .unset, .unset, .unset, .unset, .unset, .unset, .unset, .unset] := ⟨_, rfl⟩
    refine own_st (fun _ kz => XS.dstore X155.here hx rfl (hb hby at_835) rfl (l' := Lt26) (by show storeLocals Lt25 _ _ = _; rw [hLt25, hLt26]; rfl) kz) ?_
    show own_Win p e below s _ _ _ (T155.setTop (mkF m 837 Lt26 []))
    refine own_st (fun _ kz => XS.dload X155.here hx rfl (v := c5) (hb hby at_837) (by show Lt26[_]? = _; rw [hLt26]; rfl) kz) ?_
    show own_Win p e below s _ _ _ (T155.setTop (mkF m 839 Lt26 [(.double c5)]))
    refine own_st (fun _ kz => XS.dload X155.here hx rfl (v := u2) (hb hby at_839) (by show Lt26[_]? = _; rw [hLt26]; rfl) kz) ?_
    show own_Win p e below s _ _ _ (T155.setTop (mkF m 841 Lt26 [(.double u2), (.double c5)]))
    obtain ⟨z44, hz44⟩ : ∃ z, (FP.dmul c5 u2) = z := ⟨_, rfl⟩
    have dz44 := own_Nm nc5 nu2 (by decide)
    rw [hz44] at dz44
    refine own_st (fun _ kz => XS.dmulS X155.here hx rfl (hb hby at_841) rfl (by rw [hz44]; exact own_Nn dz44) hz44 kz) ?_
    show own_Win p e below s _ _ _ (T155.setTop (mkF m 842 Lt26 [(.double z44)]))
    refine own_st (fun _ kz => XS.dload X155.here hx rfl (v := c7) (hb hby at_842) (by show Lt26[_]? = _; rw [hLt26]; rfl) kz) ?_
    show own_Win p e below s _ _ _ (T155.setTop (mkF m 844 Lt26 [(.double c7), (.double z44)]))
    refine own_st (fun _ kz => XS.dload X155.here hx rfl (v := u3) (hb hby at_844) (by show Lt26[_]? = _; rw [hLt26]; rfl) kz) ?_
    show own_Win p e below s _ _ _ (T155.setTop (mkF m 846 Lt26 [(.double u3), (.double c7), (.double z44)]))
    obtain ⟨z45, hz45⟩ : ∃ z, (FP.dmul c7 u3) = z := ⟨_, rfl⟩
    have dz45 := own_Nm nc7 nu3 (by decide)
    rw [hz45] at dz45
    refine own_st (fun _ kz => XS.dmulS X155.here hx rfl (hb hby at_846) rfl (by rw [hz45]; exact own_Nn dz45) hz45 kz) ?_
    show own_Win p e below s _ _ _ (T155.setTop (mkF m 847 Lt26 [(.double z45), (.double z44)]))
    obtain ⟨z46, hz46⟩ : ∃ z, (FP.dadd z44 z45) = z := ⟨_, rfl⟩
    have dz46 := own_Na dz44 dz45 (by decide)
    rw [hz46] at dz46
    refine own_st (fun _ kz => XS.daddS X155.here hx rfl (hb hby at_847) rfl (by rw [hz46]; exact own_Nn dz46) hz46 kz) ?_
    show own_Win p e below s _ _ _ (T155.setTop (mkF m 848 Lt26 [(.double z46)]))
    refine own_st (fun _ kz => XS.dload X155.here hx rfl (v := b10) (hb hby at_848) (by show Lt26[_]? = _; rw [hLt26]; rfl) kz) ?_
    show own_Win p e below s _ _ _ (T155.setTop (mkF m 850 Lt26 [(.double b10), (.double z46)]))
    refine own_st (fun _ kz => XS.dload X155.here hx rfl (v := u4) (hb hby at_850) (by show Lt26[_]? = _; rw [hLt26]; rfl) kz) ?_
    show own_Win p e below s _ _ _ (T155.setTop (mkF m 852 Lt26 [(.double u4), (.double b10), (.double z46)]))
    obtain ⟨z47, hz47⟩ : ∃ z, (FP.dmul b10 u4) = z := ⟨_, rfl⟩
    have dz47 := own_Nm nb10 nu4 (by decide)
    rw [hz47] at dz47
    refine own_st (fun _ kz => XS.dmulS X155.here hx rfl (hb hby at_852) rfl (by rw [hz47]; exact own_Nn dz47) hz47 kz) ?_
    show own_Win p e below s _ _ _ (T155.setTop (mkF m 853 Lt26 [(.double z47), (.double z46)]))
    obtain ⟨z48, hz48⟩ : ∃ z, (FP.dadd z46 z47) = z := ⟨_, rfl⟩
    have dz48 := own_Na dz46 dz47 (by decide)
    rw [hz48] at dz48
    refine own_st (fun _ kz => XS.daddS X155.here hx rfl (hb hby at_853) rfl (by rw [hz48]; exact own_Nn dz48) hz48 kz) ?_
    show own_Win p e below s _ _ _ (T155.setTop (mkF m 854 Lt26 [(.double z48)]))
    refine own_st (fun _ kz => XS.dload X155.here hx rfl (v := b11) (hb hby at_854) (by show Lt26[_]? = _; rw [hLt26]; rfl) kz) ?_
    show own_Win p e below s _ _ _ (T155.setTop (mkF m 856 Lt26 [(.double b11), (.double z48)]))
    refine own_st (fun _ kz => XS.dload X155.here hx rfl (v := u5) (hb hby at_856) (by show Lt26[_]? = _; rw [hLt26]; rfl) kz) ?_
    show own_Win p e below s _ _ _ (T155.setTop (mkF m 858 Lt26 [(.double u5), (.double b11), (.double z48)]))
    obtain ⟨z49, hz49⟩ : ∃ z, (FP.dmul b11 u5) = z := ⟨_, rfl⟩
    have dz49 := own_Nm nb11 nu5 (by decide)
    rw [hz49] at dz49
    refine own_st (fun _ kz => XS.dmulS X155.here hx rfl (hb hby at_858) rfl (by rw [hz49]; exact own_Nn dz49) hz49 kz) ?_
    show own_Win p e below s _ _ _ (T155.setTop (mkF m 859 Lt26 [(.double z49), (.double z48)]))
    obtain ⟨z50, hz50⟩ : ∃ z, (FP.dadd z48 z49) = z := ⟨_, rfl⟩
    have dz50 := own_Na dz48 dz49 (by decide)
    rw [hz50] at dz50
    refine own_st (fun _ kz => XS.daddS X155.here hx rfl (hb hby at_859) rfl (by rw [hz50]; exact own_Nn dz50) hz50 kz) ?_
    show own_Win p e below s _ _ _ (T155.setTop (mkF m 860 Lt26 [(.double z50)]))
    obtain ⟨Lt27, hLt27⟩ : ∃ L : Array Slot, L = #[.val (.long p1), .second, .val (.long p2), .second, .val (.long p3), .second, .val (.long p4), .second, .val (.long p5), .second, .val (.int p6), .val (.int pv), .val (.ref am), .val (.ref rg), .val (.ref rb), .val (.ref rc), .val (.ref a331), .val (.double got), .second, .val (.double u0), .second, .val (.double u1), .second, .val (.double u2), .second, .val (.double u3), .second, .val (.double u4), .second, .val (.double u5), .second, .val (.double b0), .second, .val (.double b1), .second, .val (.double b2), .second, .val (.double b3), .second, .val (.double b4), .second, .val (.double b5), .second, .val (.double b6), .second, .val (.double b7), .second, .val (.double b8), .second, .val (.double b9), .second, .val (.double b10), .second, .val (.double b11), .second, .val (.double c0), .second, .val (.double c1), .second, .val (.double c2), .second, .val (.double c3), .second, .val (.double c4), .second, .val (.double c5), .second, .val (.double c6), .second, .val (.double c7), .second, .val (.double z7), .second, .val (.double z14), .second, .val (.double z25), .second, .val (.double z36), .second, .val (.double z43), .second, .val (.double z50), .second, .unset, .unset, .unset, .unset, .unset, .unset] := ⟨_, rfl⟩
    refine own_st (fun _ kz => XS.dstore X155.here hx rfl (hb hby at_860) rfl (l' := Lt27) (by show storeLocals Lt26 _ _ = _; rw [hLt26, hLt27]; rfl) kz) ?_
    show own_Win p e below s _ _ _ (T155.setTop (mkF m 862 Lt27 []))
    refine own_st (fun _ kz => XT.lloadN X155.here hx rfl (v := p1) (hb hby at_862) (by show Lt27[_]? = _; rw [hLt27]; rfl) kz) ?_
    show own_Win p e below s _ _ _ (T155.setTop (mkF m 863 Lt27 [(.long p1)]))
    refine own_st (fun _ kz => XS.iconst X155.here hx rfl (hb hby at_863) kz) ?_
    show own_Win p e below s _ _ _ (T155.setTop (mkF m 864 Lt27 [(.int (0 : Int32)), (.long p1)]))
    refine own_callS X155 hx hZ hown (y := yV) (hw _ (List.mem_of_getElem? (i := 35) rfl)) (hw _ (List.mem_of_getElem? (i := 36) rfl)) (hw _ (List.mem_of_getElem? (i := 37) rfl)) (hw _ (List.mem_of_getElem? (i := 38) rfl)) (by decide) e155 (rmV l Z a0 hw [] p1 (0 : Int32) g0 h337 n0 Z337 hg0) (by decide) (W := 0) (by decide) rfl (by rw [hml]; show Lt27.size = _; rw [hLt27]; rfl) (argsL := [.long p1, .int (0 : Int32)]) (rest := []) (lenOf pdV rfl) rfl (Nat.le_of_eq rfl) (hb hby at_864) rfl (by decide) (by decide) ?_
    intro T156 v156 L156 X156 hQ156
    obtain ⟨rfl, M156, e156⟩ := hQ156
    have N156 := Fr.app N155 M156
    show own_Win p e below s _ _ _ (T156.setTop (mkF m 867 Lt27 [(.double g0)]))
    refine own_st (fun _ kz => XS.dload X156.here hx rfl (v := u0) (hb hby at_867) (by show Lt27[_]? = _; rw [hLt27]; rfl) kz) ?_
    show own_Win p e below s _ _ _ (T156.setTop (mkF m 869 Lt27 [(.double u0), (.double g0)]))
    obtain ⟨z51, hz51⟩ : ∃ z, (FP.dmul g0 u0) = z := ⟨_, rfl⟩
    have dz51 := own_Nm ng0 nu0 (by decide)
    rw [hz51] at dz51
    refine own_st (fun _ kz => XS.dmulS X156.here hx rfl (hb hby at_869) rfl (by rw [hz51]; exact own_Nn dz51) hz51 kz) ?_
    show own_Win p e below s _ _ _ (T156.setTop (mkF m 870 Lt27 [(.double z51)]))
    refine own_st (fun _ kz => XT.lloadN X156.here hx rfl (v := p1) (hb hby at_870) (by show Lt27[_]? = _; rw [hLt27]; rfl) kz) ?_
    show own_Win p e below s _ _ _ (T156.setTop (mkF m 871 Lt27 [(.long p1), (.double z51)]))
    refine own_st (fun _ kz => XS.iconst X156.here hx rfl (hb hby at_871) kz) ?_
    show own_Win p e below s _ _ _ (T156.setTop (mkF m 872 Lt27 [(.int (1 : Int32)), (.long p1), (.double z51)]))
    refine own_callS X156 hx hZ hown (y := yV) (hw _ (List.mem_of_getElem? (i := 35) rfl)) (hw _ (List.mem_of_getElem? (i := 36) rfl)) (hw _ (List.mem_of_getElem? (i := 37) rfl)) (hw _ (List.mem_of_getElem? (i := 38) rfl)) (by decide) e156 (rmV l Z a0 hw [] p1 (1 : Int32) g1 h337 n0 Z337 hg1) (by decide) (W := 2) (by decide) rfl (by rw [hml]; show Lt27.size = _; rw [hLt27]; rfl) (argsL := [.long p1, .int (1 : Int32)]) (rest := [(.double z51)]) (lenOf pdV rfl) rfl (Nat.le_of_eq rfl) (hb hby at_872) rfl (by decide) (by decide) ?_
    intro T157 v157 L157 X157 hQ157
    obtain ⟨rfl, M157, e157⟩ := hQ157
    have N157 := Fr.app N156 M157
    show own_Win p e below s _ _ _ (T157.setTop (mkF m 875 Lt27 [(.double g1), (.double z51)]))
    refine own_st (fun _ kz => XS.dload X157.here hx rfl (v := u1) (hb hby at_875) (by show Lt27[_]? = _; rw [hLt27]; rfl) kz) ?_
    show own_Win p e below s _ _ _ (T157.setTop (mkF m 877 Lt27 [(.double u1), (.double g1), (.double z51)]))
    obtain ⟨z52, hz52⟩ : ∃ z, (FP.dmul g1 u1) = z := ⟨_, rfl⟩
    have dz52 := own_Nm ng1 nu1 (by decide)
    rw [hz52] at dz52
    refine own_st (fun _ kz => XS.dmulS X157.here hx rfl (hb hby at_877) rfl (by rw [hz52]; exact own_Nn dz52) hz52 kz) ?_
    show own_Win p e below s _ _ _ (T157.setTop (mkF m 878 Lt27 [(.double z52), (.double z51)]))
    obtain ⟨z53, hz53⟩ : ∃ z, (FP.dadd z51 z52) = z := ⟨_, rfl⟩
    have dz53 := own_Na dz51 dz52 (by decide)
    rw [hz53] at dz53
    refine own_st (fun _ kz => XS.daddS X157.here hx rfl (hb hby at_878) rfl (by rw [hz53]; exact own_Nn dz53) hz53 kz) ?_
    show own_Win p e below s _ _ _ (T157.setTop (mkF m 879 Lt27 [(.double z53)]))
    refine own_st (fun _ kz => XT.lloadN X157.here hx rfl (v := p1) (hb hby at_879) (by show Lt27[_]? = _; rw [hLt27]; rfl) kz) ?_
    show own_Win p e below s _ _ _ (T157.setTop (mkF m 880 Lt27 [(.long p1), (.double z53)]))
    refine own_st (fun _ kz => XS.iconst X157.here hx rfl (hb hby at_880) kz) ?_
    show own_Win p e below s _ _ _ (T157.setTop (mkF m 881 Lt27 [(.int (2 : Int32)), (.long p1), (.double z53)]))
    refine own_callS X157 hx hZ hown (y := yV) (hw _ (List.mem_of_getElem? (i := 35) rfl)) (hw _ (List.mem_of_getElem? (i := 36) rfl)) (hw _ (List.mem_of_getElem? (i := 37) rfl)) (hw _ (List.mem_of_getElem? (i := 38) rfl)) (by decide) e157 (rmV l Z a0 hw [] p1 (2 : Int32) g2 h337 n0 Z337 hg2) (by decide) (W := 2) (by decide) rfl (by rw [hml]; show Lt27.size = _; rw [hLt27]; rfl) (argsL := [.long p1, .int (2 : Int32)]) (rest := [(.double z53)]) (lenOf pdV rfl) rfl (Nat.le_of_eq rfl) (hb hby at_881) rfl (by decide) (by decide) ?_
    intro T158 v158 L158 X158 hQ158
    obtain ⟨rfl, M158, e158⟩ := hQ158
    have N158 := Fr.app N157 M158
    show own_Win p e below s _ _ _ (T158.setTop (mkF m 884 Lt27 [(.double g2), (.double z53)]))
    refine own_st (fun _ kz => XS.dload X158.here hx rfl (v := u2) (hb hby at_884) (by show Lt27[_]? = _; rw [hLt27]; rfl) kz) ?_
    show own_Win p e below s _ _ _ (T158.setTop (mkF m 886 Lt27 [(.double u2), (.double g2), (.double z53)]))
    obtain ⟨z54, hz54⟩ : ∃ z, (FP.dmul g2 u2) = z := ⟨_, rfl⟩
    have dz54 := own_Nm ng2 nu2 (by decide)
    rw [hz54] at dz54
    refine own_st (fun _ kz => XS.dmulS X158.here hx rfl (hb hby at_886) rfl (by rw [hz54]; exact own_Nn dz54) hz54 kz) ?_
    show own_Win p e below s _ _ _ (T158.setTop (mkF m 887 Lt27 [(.double z54), (.double z53)]))
    obtain ⟨z55, hz55⟩ : ∃ z, (FP.dadd z53 z54) = z := ⟨_, rfl⟩
    have dz55 := own_Na dz53 dz54 (by decide)
    rw [hz55] at dz55
    refine own_st (fun _ kz => XS.daddS X158.here hx rfl (hb hby at_887) rfl (by rw [hz55]; exact own_Nn dz55) hz55 kz) ?_
    show own_Win p e below s _ _ _ (T158.setTop (mkF m 888 Lt27 [(.double z55)]))
    refine own_st (fun _ kz => XT.lloadN X158.here hx rfl (v := p1) (hb hby at_888) (by show Lt27[_]? = _; rw [hLt27]; rfl) kz) ?_
    show own_Win p e below s _ _ _ (T158.setTop (mkF m 889 Lt27 [(.long p1), (.double z55)]))
    refine own_st (fun _ kz => XS.iconst X158.here hx rfl (hb hby at_889) kz) ?_
    show own_Win p e below s _ _ _ (T158.setTop (mkF m 890 Lt27 [(.int (3 : Int32)), (.long p1), (.double z55)]))
    refine own_callS X158 hx hZ hown (y := yV) (hw _ (List.mem_of_getElem? (i := 35) rfl)) (hw _ (List.mem_of_getElem? (i := 36) rfl)) (hw _ (List.mem_of_getElem? (i := 37) rfl)) (hw _ (List.mem_of_getElem? (i := 38) rfl)) (by decide) e158 (rmV l Z a0 hw [] p1 (3 : Int32) g3 h337 n0 Z337 hg3) (by decide) (W := 2) (by decide) rfl (by rw [hml]; show Lt27.size = _; rw [hLt27]; rfl) (argsL := [.long p1, .int (3 : Int32)]) (rest := [(.double z55)]) (lenOf pdV rfl) rfl (Nat.le_of_eq rfl) (hb hby at_890) rfl (by decide) (by decide) ?_
    intro T159 v159 L159 X159 hQ159
    obtain ⟨rfl, M159, e159⟩ := hQ159
    have N159 := Fr.app N158 M159
    show own_Win p e below s _ _ _ (T159.setTop (mkF m 893 Lt27 [(.double g3), (.double z55)]))
    refine own_st (fun _ kz => XS.dload X159.here hx rfl (v := u3) (hb hby at_893) (by show Lt27[_]? = _; rw [hLt27]; rfl) kz) ?_
    show own_Win p e below s _ _ _ (T159.setTop (mkF m 895 Lt27 [(.double u3), (.double g3), (.double z55)]))
    obtain ⟨z56, hz56⟩ : ∃ z, (FP.dmul g3 u3) = z := ⟨_, rfl⟩
    have dz56 := own_Nm ng3 nu3 (by decide)
    rw [hz56] at dz56
    refine own_st (fun _ kz => XS.dmulS X159.here hx rfl (hb hby at_895) rfl (by rw [hz56]; exact own_Nn dz56) hz56 kz) ?_
    show own_Win p e below s _ _ _ (T159.setTop (mkF m 896 Lt27 [(.double z56), (.double z55)]))
    obtain ⟨z57, hz57⟩ : ∃ z, (FP.dadd z55 z56) = z := ⟨_, rfl⟩
    have dz57 := own_Na dz55 dz56 (by decide)
    rw [hz57] at dz57
    refine own_st (fun _ kz => XS.daddS X159.here hx rfl (hb hby at_896) rfl (by rw [hz57]; exact own_Nn dz57) hz57 kz) ?_
    show own_Win p e below s _ _ _ (T159.setTop (mkF m 897 Lt27 [(.double z57)]))
    refine own_st (fun _ kz => XT.lloadN X159.here hx rfl (v := p1) (hb hby at_897) (by show Lt27[_]? = _; rw [hLt27]; rfl) kz) ?_
    show own_Win p e below s _ _ _ (T159.setTop (mkF m 898 Lt27 [(.long p1), (.double z57)]))
    refine own_st (fun _ kz => XS.iconst X159.here hx rfl (hb hby at_898) kz) ?_
    show own_Win p e below s _ _ _ (T159.setTop (mkF m 899 Lt27 [(.int (4 : Int32)), (.long p1), (.double z57)]))
    refine own_callS X159 hx hZ hown (y := yV) (hw _ (List.mem_of_getElem? (i := 35) rfl)) (hw _ (List.mem_of_getElem? (i := 36) rfl)) (hw _ (List.mem_of_getElem? (i := 37) rfl)) (hw _ (List.mem_of_getElem? (i := 38) rfl)) (by decide) e159 (rmV l Z a0 hw [] p1 (4 : Int32) g4 h337 n0 Z337 hg4) (by decide) (W := 2) (by decide) rfl (by rw [hml]; show Lt27.size = _; rw [hLt27]; rfl) (argsL := [.long p1, .int (4 : Int32)]) (rest := [(.double z57)]) (lenOf pdV rfl) rfl (Nat.le_of_eq rfl) (hb hby at_899) rfl (by decide) (by decide) ?_
    intro T160 v160 L160 X160 hQ160
    obtain ⟨rfl, M160, e160⟩ := hQ160
    have N160 := Fr.app N159 M160
    show own_Win p e below s _ _ _ (T160.setTop (mkF m 902 Lt27 [(.double g4), (.double z57)]))
    refine own_st (fun _ kz => XS.dload X160.here hx rfl (v := u4) (hb hby at_902) (by show Lt27[_]? = _; rw [hLt27]; rfl) kz) ?_
    show own_Win p e below s _ _ _ (T160.setTop (mkF m 904 Lt27 [(.double u4), (.double g4), (.double z57)]))
    obtain ⟨z58, hz58⟩ : ∃ z, (FP.dmul g4 u4) = z := ⟨_, rfl⟩
    have dz58 := own_Nm ng4 nu4 (by decide)
    rw [hz58] at dz58
    refine own_st (fun _ kz => XS.dmulS X160.here hx rfl (hb hby at_904) rfl (by rw [hz58]; exact own_Nn dz58) hz58 kz) ?_
    show own_Win p e below s _ _ _ (T160.setTop (mkF m 905 Lt27 [(.double z58), (.double z57)]))
    obtain ⟨z59, hz59⟩ : ∃ z, (FP.dadd z57 z58) = z := ⟨_, rfl⟩
    have dz59 := own_Na dz57 dz58 (by decide)
    rw [hz59] at dz59
    refine own_st (fun _ kz => XS.daddS X160.here hx rfl (hb hby at_905) rfl (by rw [hz59]; exact own_Nn dz59) hz59 kz) ?_
    show own_Win p e below s _ _ _ (T160.setTop (mkF m 906 Lt27 [(.double z59)]))
    refine own_st (fun _ kz => XT.lloadN X160.here hx rfl (v := p1) (hb hby at_906) (by show Lt27[_]? = _; rw [hLt27]; rfl) kz) ?_
    show own_Win p e below s _ _ _ (T160.setTop (mkF m 907 Lt27 [(.long p1), (.double z59)]))
    refine own_st (fun _ kz => XS.iconst X160.here hx rfl (hb hby at_907) kz) ?_
    show own_Win p e below s _ _ _ (T160.setTop (mkF m 908 Lt27 [(.int (5 : Int32)), (.long p1), (.double z59)]))
    refine own_callS X160 hx hZ hown (y := yV) (hw _ (List.mem_of_getElem? (i := 35) rfl)) (hw _ (List.mem_of_getElem? (i := 36) rfl)) (hw _ (List.mem_of_getElem? (i := 37) rfl)) (hw _ (List.mem_of_getElem? (i := 38) rfl)) (by decide) e160 (rmV l Z a0 hw [] p1 (5 : Int32) g5 h337 n0 Z337 hg5) (by decide) (W := 2) (by decide) rfl (by rw [hml]; show Lt27.size = _; rw [hLt27]; rfl) (argsL := [.long p1, .int (5 : Int32)]) (rest := [(.double z59)]) (lenOf pdV rfl) rfl (Nat.le_of_eq rfl) (hb hby at_908) rfl (by decide) (by decide) ?_
    intro T161 v161 L161 X161 hQ161
    obtain ⟨rfl, M161, e161⟩ := hQ161
    have N161 := Fr.app N160 M161
    show own_Win p e below s _ _ _ (T161.setTop (mkF m 911 Lt27 [(.double g5), (.double z59)]))
    refine own_st (fun _ kz => XS.dload X161.here hx rfl (v := u5) (hb hby at_911) (by show Lt27[_]? = _; rw [hLt27]; rfl) kz) ?_
    show own_Win p e below s _ _ _ (T161.setTop (mkF m 913 Lt27 [(.double u5), (.double g5), (.double z59)]))
    obtain ⟨z60, hz60⟩ : ∃ z, (FP.dmul g5 u5) = z := ⟨_, rfl⟩
    have dz60 := own_Nm ng5 nu5 (by decide)
    rw [hz60] at dz60
    refine own_st (fun _ kz => XS.dmulS X161.here hx rfl (hb hby at_913) rfl (by rw [hz60]; exact own_Nn dz60) hz60 kz) ?_
    show own_Win p e below s _ _ _ (T161.setTop (mkF m 914 Lt27 [(.double z60), (.double z59)]))
    obtain ⟨z61, hz61⟩ : ∃ z, (FP.dadd z59 z60) = z := ⟨_, rfl⟩
    have dz61 := own_Na dz59 dz60 (by decide)
    rw [hz61] at dz61
    refine own_st (fun _ kz => XS.daddS X161.here hx rfl (hb hby at_914) rfl (by rw [hz61]; exact own_Nn dz61) hz61 kz) ?_
    show own_Win p e below s _ _ _ (T161.setTop (mkF m 915 Lt27 [(.double z61)]))
    obtain ⟨Lt28, hLt28⟩ : ∃ L : Array Slot, L = #[.val (.long p1), .second, .val (.long p2), .second, .val (.long p3), .second, .val (.long p4), .second, .val (.long p5), .second, .val (.int p6), .val (.int pv), .val (.ref am), .val (.ref rg), .val (.ref rb), .val (.ref rc), .val (.ref a331), .val (.double got), .second, .val (.double u0), .second, .val (.double u1), .second, .val (.double u2), .second, .val (.double u3), .second, .val (.double u4), .second, .val (.double u5), .second, .val (.double b0), .second, .val (.double b1), .second, .val (.double b2), .second, .val (.double b3), .second, .val (.double b4), .second, .val (.double b5), .second, .val (.double b6), .second, .val (.double b7), .second, .val (.double b8), .second, .val (.double b9), .second, .val (.double b10), .second, .val (.double b11), .second, .val (.double c0), .second, .val (.double c1), .second, .val (.double c2), .second, .val (.double c3), .second, .val (.double c4), .second, .val (.double c5), .second, .val (.double c6), .second, .val (.double c7), .second, .val (.double z7), .second, .val (.double z14), .second, .val (.double z25), .second, .val (.double z36), .second, .val (.double z43), .second, .val (.double z50), .second, .val (.double z61), .second, .unset, .unset, .unset, .unset] := ⟨_, rfl⟩
    refine own_st (fun _ kz => XS.dstore X161.here hx rfl (hb hby at_915) rfl (l' := Lt28) (by show storeLocals Lt27 _ _ = _; rw [hLt27, hLt28]; rfl) kz) ?_
    show own_Win p e below s _ _ _ (T161.setTop (mkF m 917 Lt28 []))
    refine own_st (fun _ kz => XS.dload X161.here hx rfl (v := u0) (hb hby at_917) (by show Lt28[_]? = _; rw [hLt28]; rfl) kz) ?_
    show own_Win p e below s _ _ _ (T161.setTop (mkF m 919 Lt28 [(.double u0)]))
    refine own_st (fun _ kz => XS.dload X161.here hx rfl (v := z7) (hb hby at_919) (by show Lt28[_]? = _; rw [hLt28]; rfl) kz) ?_
    show own_Win p e below s _ _ _ (T161.setTop (mkF m 921 Lt28 [(.double z7), (.double u0)]))
    obtain ⟨z62, hz62⟩ : ∃ z, (FP.dmul u0 z7) = z := ⟨_, rfl⟩
    have dz62 := own_Nm nu0 dz7 (by decide)
    rw [hz62] at dz62
    refine own_st (fun _ kz => XS.dmulS X161.here hx rfl (hb hby at_921) rfl (by rw [hz62]; exact own_Nn dz62) hz62 kz) ?_
    show own_Win p e below s _ _ _ (T161.setTop (mkF m 922 Lt28 [(.double z62)]))
    refine own_st (fun _ kz => XS.dload X161.here hx rfl (v := u1) (hb hby at_922) (by show Lt28[_]? = _; rw [hLt28]; rfl) kz) ?_
    show own_Win p e below s _ _ _ (T161.setTop (mkF m 924 Lt28 [(.double u1), (.double z62)]))
    refine own_st (fun _ kz => XS.dload X161.here hx rfl (v := z14) (hb hby at_924) (by show Lt28[_]? = _; rw [hLt28]; rfl) kz) ?_
    show own_Win p e below s _ _ _ (T161.setTop (mkF m 926 Lt28 [(.double z14), (.double u1), (.double z62)]))
    obtain ⟨z63, hz63⟩ : ∃ z, (FP.dmul u1 z14) = z := ⟨_, rfl⟩
    have dz63 := own_Nm nu1 dz14 (by decide)
    rw [hz63] at dz63
    refine own_st (fun _ kz => XS.dmulS X161.here hx rfl (hb hby at_926) rfl (by rw [hz63]; exact own_Nn dz63) hz63 kz) ?_
    show own_Win p e below s _ _ _ (T161.setTop (mkF m 927 Lt28 [(.double z63), (.double z62)]))
    obtain ⟨z64, hz64⟩ : ∃ z, (FP.dadd z62 z63) = z := ⟨_, rfl⟩
    have dz64 := own_Na dz62 dz63 (by decide)
    rw [hz64] at dz64
    refine own_st (fun _ kz => XS.daddS X161.here hx rfl (hb hby at_927) rfl (by rw [hz64]; exact own_Nn dz64) hz64 kz) ?_
    show own_Win p e below s _ _ _ (T161.setTop (mkF m 928 Lt28 [(.double z64)]))
    refine own_st (fun _ kz => XS.dload X161.here hx rfl (v := u2) (hb hby at_928) (by show Lt28[_]? = _; rw [hLt28]; rfl) kz) ?_
    show own_Win p e below s _ _ _ (T161.setTop (mkF m 930 Lt28 [(.double u2), (.double z64)]))
    refine own_st (fun _ kz => XS.dload X161.here hx rfl (v := z25) (hb hby at_930) (by show Lt28[_]? = _; rw [hLt28]; rfl) kz) ?_
    show own_Win p e below s _ _ _ (T161.setTop (mkF m 932 Lt28 [(.double z25), (.double u2), (.double z64)]))
    obtain ⟨z65, hz65⟩ : ∃ z, (FP.dmul u2 z25) = z := ⟨_, rfl⟩
    have dz65 := own_Nm nu2 dz25 (by decide)
    rw [hz65] at dz65
    refine own_st (fun _ kz => XS.dmulS X161.here hx rfl (hb hby at_932) rfl (by rw [hz65]; exact own_Nn dz65) hz65 kz) ?_
    show own_Win p e below s _ _ _ (T161.setTop (mkF m 933 Lt28 [(.double z65), (.double z64)]))
    obtain ⟨z66, hz66⟩ : ∃ z, (FP.dadd z64 z65) = z := ⟨_, rfl⟩
    have dz66 := own_Na dz64 dz65 (by decide)
    rw [hz66] at dz66
    refine own_st (fun _ kz => XS.daddS X161.here hx rfl (hb hby at_933) rfl (by rw [hz66]; exact own_Nn dz66) hz66 kz) ?_
    show own_Win p e below s _ _ _ (T161.setTop (mkF m 934 Lt28 [(.double z66)]))
    refine own_st (fun _ kz => XS.dload X161.here hx rfl (v := u3) (hb hby at_934) (by show Lt28[_]? = _; rw [hLt28]; rfl) kz) ?_
    show own_Win p e below s _ _ _ (T161.setTop (mkF m 936 Lt28 [(.double u3), (.double z66)]))
    refine own_st (fun _ kz => XS.dload X161.here hx rfl (v := z36) (hb hby at_936) (by show Lt28[_]? = _; rw [hLt28]; rfl) kz) ?_
    show own_Win p e below s _ _ _ (T161.setTop (mkF m 938 Lt28 [(.double z36), (.double u3), (.double z66)]))
    obtain ⟨z67, hz67⟩ : ∃ z, (FP.dmul u3 z36) = z := ⟨_, rfl⟩
    have dz67 := own_Nm nu3 dz36 (by decide)
    rw [hz67] at dz67
    refine own_st (fun _ kz => XS.dmulS X161.here hx rfl (hb hby at_938) rfl (by rw [hz67]; exact own_Nn dz67) hz67 kz) ?_
    show own_Win p e below s _ _ _ (T161.setTop (mkF m 939 Lt28 [(.double z67), (.double z66)]))
    obtain ⟨z68, hz68⟩ : ∃ z, (FP.dadd z66 z67) = z := ⟨_, rfl⟩
    have dz68 := own_Na dz66 dz67 (by decide)
    rw [hz68] at dz68
    refine own_st (fun _ kz => XS.daddS X161.here hx rfl (hb hby at_939) rfl (by rw [hz68]; exact own_Nn dz68) hz68 kz) ?_
    show own_Win p e below s _ _ _ (T161.setTop (mkF m 940 Lt28 [(.double z68)]))
    refine own_st (fun _ kz => XS.dload X161.here hx rfl (v := u4) (hb hby at_940) (by show Lt28[_]? = _; rw [hLt28]; rfl) kz) ?_
    show own_Win p e below s _ _ _ (T161.setTop (mkF m 942 Lt28 [(.double u4), (.double z68)]))
    refine own_st (fun _ kz => XS.dload X161.here hx rfl (v := z43) (hb hby at_942) (by show Lt28[_]? = _; rw [hLt28]; rfl) kz) ?_
    show own_Win p e below s _ _ _ (T161.setTop (mkF m 944 Lt28 [(.double z43), (.double u4), (.double z68)]))
    obtain ⟨z69, hz69⟩ : ∃ z, (FP.dmul u4 z43) = z := ⟨_, rfl⟩
    have dz69 := own_Nm nu4 dz43 (by decide)
    rw [hz69] at dz69
    refine own_st (fun _ kz => XS.dmulS X161.here hx rfl (hb hby at_944) rfl (by rw [hz69]; exact own_Nn dz69) hz69 kz) ?_
    show own_Win p e below s _ _ _ (T161.setTop (mkF m 945 Lt28 [(.double z69), (.double z68)]))
    obtain ⟨z70, hz70⟩ : ∃ z, (FP.dadd z68 z69) = z := ⟨_, rfl⟩
    have dz70 := own_Na dz68 dz69 (by decide)
    rw [hz70] at dz70
    refine own_st (fun _ kz => XS.daddS X161.here hx rfl (hb hby at_945) rfl (by rw [hz70]; exact own_Nn dz70) hz70 kz) ?_
    show own_Win p e below s _ _ _ (T161.setTop (mkF m 946 Lt28 [(.double z70)]))
    refine own_st (fun _ kz => XS.dload X161.here hx rfl (v := u5) (hb hby at_946) (by show Lt28[_]? = _; rw [hLt28]; rfl) kz) ?_
    show own_Win p e below s _ _ _ (T161.setTop (mkF m 948 Lt28 [(.double u5), (.double z70)]))
    refine own_st (fun _ kz => XS.dload X161.here hx rfl (v := z50) (hb hby at_948) (by show Lt28[_]? = _; rw [hLt28]; rfl) kz) ?_
    show own_Win p e below s _ _ _ (T161.setTop (mkF m 950 Lt28 [(.double z50), (.double u5), (.double z70)]))
    obtain ⟨z71, hz71⟩ : ∃ z, (FP.dmul u5 z50) = z := ⟨_, rfl⟩
    have dz71 := own_Nm nu5 dz50 (by decide)
    rw [hz71] at dz71
    refine own_st (fun _ kz => XS.dmulS X161.here hx rfl (hb hby at_950) rfl (by rw [hz71]; exact own_Nn dz71) hz71 kz) ?_
    show own_Win p e below s _ _ _ (T161.setTop (mkF m 951 Lt28 [(.double z71), (.double z70)]))
    obtain ⟨z72, hz72⟩ : ∃ z, (FP.dadd z70 z71) = z := ⟨_, rfl⟩
    have dz72 := own_Na dz70 dz71 (by decide)
    rw [hz72] at dz72
    refine own_st (fun _ kz => XS.daddS X161.here hx rfl (hb hby at_951) rfl (by rw [hz72]; exact own_Nn dz72) hz72 kz) ?_
    show own_Win p e below s _ _ _ (T161.setTop (mkF m 952 Lt28 [(.double z72)]))
    obtain ⟨Lt29, hLt29⟩ : ∃ L : Array Slot, L = #[.val (.long p1), .second, .val (.long p2), .second, .val (.long p3), .second, .val (.long p4), .second, .val (.long p5), .second, .val (.int p6), .val (.int pv), .val (.ref am), .val (.ref rg), .val (.ref rb), .val (.ref rc), .val (.ref a331), .val (.double got), .second, .val (.double u0), .second, .val (.double u1), .second, .val (.double u2), .second, .val (.double u3), .second, .val (.double u4), .second, .val (.double u5), .second, .val (.double b0), .second, .val (.double b1), .second, .val (.double b2), .second, .val (.double b3), .second, .val (.double b4), .second, .val (.double b5), .second, .val (.double b6), .second, .val (.double b7), .second, .val (.double b8), .second, .val (.double b9), .second, .val (.double b10), .second, .val (.double b11), .second, .val (.double c0), .second, .val (.double c1), .second, .val (.double c2), .second, .val (.double c3), .second, .val (.double c4), .second, .val (.double c5), .second, .val (.double c6), .second, .val (.double c7), .second, .val (.double z7), .second, .val (.double z14), .second, .val (.double z25), .second, .val (.double z36), .second, .val (.double z43), .second, .val (.double z50), .second, .val (.double z61), .second, .val (.double z72), .second, .unset, .unset] := ⟨_, rfl⟩
    refine own_st (fun _ kz => XS.dstore X161.here hx rfl (hb hby at_952) rfl (l' := Lt29) (by show storeLocals Lt28 _ _ = _; rw [hLt28, hLt29]; rfl) kz) ?_
    show own_Win p e below s _ _ _ (T161.setTop (mkF m 954 Lt29 []))
    refine own_st (fun _ kz => XS.dload X161.here hx rfl (v := z61) (hb hby at_954) (by show Lt29[_]? = _; rw [hLt29]; rfl) kz) ?_
    show own_Win p e below s _ _ _ (T161.setTop (mkF m 956 Lt29 [(.double z61)]))
    refine own_st (fun _ kz => XS.dload X161.here hx rfl (v := z72) (hb hby at_956) (by show Lt29[_]? = _; rw [hLt29]; rfl) kz) ?_
    show own_Win p e below s _ _ _ (T161.setTop (mkF m 958 Lt29 [(.double z72), (.double z61)]))
    refine own_st (fun tz kz => X161.ldc2DoubleC hx hown (mvT hZ (hw _ (List.mem_of_getElem? (i := 45) rfl))) (g := (mkF m 958 Lt29 [(.double z72), (.double z61)])) rfl (hb hby at_958) tz kz) ?_
    show own_Win p e below s _ _ _ (T161.setTop (mkF m 961 Lt29 [(.double (4611686018427387904 : UInt64)), (.double z72), (.double z61)]))
    obtain ⟨z73, hz73⟩ : ∃ z, (FP.ddiv z72 (4611686018427387904 : UInt64)) = z := ⟨_, rfl⟩
    have dz73 := own_Hd dz72 (by decide)
    rw [hz73] at dz73
    refine own_st (fun _ kz => XS.ddivS X161.here hx rfl (hb hby at_961) rfl (by rw [hz73]; exact own_Hn dz73) hz73 kz) ?_
    show own_Win p e below s _ _ _ (T161.setTop (mkF m 962 Lt29 [(.double z73), (.double z61)]))
    obtain ⟨z74, hz74⟩ : ∃ z, (FP.dadd z61 z73) = z := ⟨_, rfl⟩
    have dz74 := own_Ha (own_Nh dz61) dz73 (by decide)
    rw [hz74] at dz74
    refine own_st (fun _ kz => XS.daddS X161.here hx rfl (hb hby at_962) rfl (by rw [hz74]; exact own_Hn dz74) hz74 kz) ?_
    show own_Win p e below s _ _ _ (T161.setTop (mkF m 963 Lt29 [(.double z74)]))
    obtain ⟨Lt30, hLt30⟩ : ∃ L : Array Slot, L = #[.val (.long p1), .second, .val (.long p2), .second, .val (.long p3), .second, .val (.long p4), .second, .val (.long p5), .second, .val (.int p6), .val (.int pv), .val (.ref am), .val (.ref rg), .val (.ref rb), .val (.ref rc), .val (.ref a331), .val (.double got), .second, .val (.double u0), .second, .val (.double u1), .second, .val (.double u2), .second, .val (.double u3), .second, .val (.double u4), .second, .val (.double u5), .second, .val (.double b0), .second, .val (.double b1), .second, .val (.double b2), .second, .val (.double b3), .second, .val (.double b4), .second, .val (.double b5), .second, .val (.double b6), .second, .val (.double b7), .second, .val (.double b8), .second, .val (.double b9), .second, .val (.double b10), .second, .val (.double b11), .second, .val (.double c0), .second, .val (.double c1), .second, .val (.double c2), .second, .val (.double c3), .second, .val (.double c4), .second, .val (.double c5), .second, .val (.double c6), .second, .val (.double c7), .second, .val (.double z7), .second, .val (.double z14), .second, .val (.double z25), .second, .val (.double z36), .second, .val (.double z43), .second, .val (.double z50), .second, .val (.double z61), .second, .val (.double z72), .second, .val (.double z74), .second] := ⟨_, rfl⟩
    refine own_st (fun _ kz => XS.dstore X161.here hx rfl (hb hby at_963) rfl (l' := Lt30) (by show storeLocals Lt29 _ _ = _; rw [hLt29, hLt30]; rfl) kz) ?_
    show own_Win p e below s _ _ _ (T161.setTop (mkF m 965 Lt30 []))
    refine own_st (fun _ kz => XS.dload X161.here hx rfl (v := got) (hb hby at_965) (by show Lt30[_]? = _; rw [hLt30]; rfl) kz) ?_
    show own_Win p e below s _ _ _ (T161.setTop (mkF m 967 Lt30 [(.double got)]))
    refine own_st (fun _ kz => XS.dload X161.here hx rfl (v := z74) (hb hby at_967) (by show Lt30[_]? = _; rw [hLt30]; rfl) kz) ?_
    show own_Win p e below s _ _ _ (T161.setTop (mkF m 969 Lt30 [(.double z74), (.double got)]))
    have hc : cmpValue (FP.dcmp got z74) .l = 0 := own_Hc dgot dz74 hE .l
    refine own_st (fun _ kz => XS.dcmpS X161.here hx rfl (hb hby at_969) rfl rfl kz) ?_
    show own_Win p e below s _ _ _ (T161.setTop (mkF m 970 Lt30 [(.int (cmpValue (FP.dcmp got z74) .l))]))
    refine own_st (fun _ kz => XS.ifNo X161.here hx rfl (hb hby at_970) rfl (by rw [hc]; decide) kz) ?_
    show own_Win p e below s _ _ _ (T161.setTop (mkF m 973 Lt30 []))
    refine own_st (fun _ kz => XS.iconst X161.here hx rfl (hb hby at_973) kz) ?_
    show own_Win p e below s _ _ _ (T161.setTop (mkF m 974 Lt30 [(.int (1 : Int32))]))
    refine own_st (fun _ kz => XS.goto X161.here hx rfl (pc0 := 974) (pc' := 978) rfl (hb hby at_974) (by decide) (by decide) kz) ?_
    show own_Win p e below s _ _ _ (T161.setTop (mkF m 978 Lt30 [(.int (1 : Int32))]))
    exact own_ret X161 hx hlk Bd.returns rfl (Or.inl ⟨rfl, Or.inr (Or.inl rfl), _, rfl⟩) (hb hby at_978) ⟨rfl, N161⟩ (by decide) (by decide)
  rcases hn with q | q | q | q
  ·
    subst q
    refine own_callV X337 hx hZ hown (C := "com/example/mantleray/mantleray/QuadraticModel") (y := yC) (hw _ (List.mem_of_getElem? (i := 39) rfl)) (hw _ (List.mem_of_getElem? (i := 40) rfl)) (hw _ (List.mem_of_getElem? (i := 42) rfl)) (hw _ (List.mem_of_getElem? (i := 41) rfl)) (hw _ (List.mem_of_getElem? (i := 43) rfl)) (hw _ (List.mem_of_getElem? (i := 2) rfl)) (by decide) e337 c_E_h337 (rmC0 l Z a0 hw [] am rg rb rc a331 fG fB fC fY G0 G1 G2 G3 G4 G5 B0 B1 B2 B3 B4 B5 B6 B7 B8 B9 B10 B11 C0 C1 C2 C3 C4 C5 C6 C7 Y0 Y1 Y2 Y3 Y4 Y5 h337 n0 Z337 c_points_h337 c_gradient_h337 c_blocks_h337 c_coupling_h337 F9_G F9_B F9_C F9_Y n9G0 n9G1 n9G2 n9G3 n9G4 n9G5 n9B0 n9B1 n9B2 n9B3 n9B4 n9B5 n9B6 n9B7 n9B8 n9B9 n9B10 n9B11 n9C0 n9C1 n9C2 n9C3 n9C4 n9C5 n9C6 n9C7 n9Y0 n9Y1 n9Y2 n9Y3 n9Y4 n9Y5) (by decide) (W := 0) (by decide) rfl (by rw [hml]; show Ls7.size = _; rw [hLs7]; rfl) (argsL := [.ref a331]) (rest := []) (lenOf pdC rfl) rfl (Nat.le_of_eq rfl) (hb hby at_425) rfl (by decide) (by decide) ?_
    intro T90 v90 L90 X90 hQ90
    obtain ⟨got, rfl, M90, e90, dgot⟩ := hQ90
    have N90 := Fr.app N337 M90
    show own_Win p e below s _ _ _ (T90.setTop (mkF m 428 Ls7 [(.double got)]))
    obtain ⟨Ls8, hLs8⟩ : ∃ L : Array Slot, L = #[.val (.long p1), .second, .val (.long p2), .second, .val (.long p3), .second, .val (.long p4), .second, .val (.long p5), .second, .val (.int p6), .val (.int (0 : Int32)), .val (.ref am), .val (.ref rg), .val (.ref rb), .val (.ref rc), .val (.ref a331), .val (.double got), .second, .unset, .unset, .unset, .unset, .unset, .unset, .unset, .unset, .unset, .unset, .unset, .unset, .unset, .unset, .unset, .unset, .unset, .unset, .unset, .unset, .unset, .unset, .unset, .unset, .unset, .unset, .unset, .unset, .unset, .unset, .unset, .unset, .unset, .unset, .unset, .unset, .unset, .unset, .unset, .unset, .unset, .unset, .unset, .unset, .unset, .unset, .unset, .unset, .unset, .unset, .unset, .unset, .unset, .unset, .unset, .unset, .unset, .unset, .unset, .unset, .unset, .unset, .unset, .unset, .unset, .unset, .unset, .unset, .unset, .unset] := ⟨_, rfl⟩
    refine own_st (fun _ kz => XS.dstore X90.here hx rfl (hb hby at_428) rfl (l' := Ls8) (by show storeLocals Ls7 _ _ = _; rw [hLs7, hLs8]; rfl) kz) ?_
    show own_Win p e below s _ _ _ (T90.setTop (mkF m 430 Ls8 []))
    refine own_st (fun _ kz => XS.iload X90.here hx rfl (v := (0 : Int32)) (hb hby at_430) (by show Ls8[_]? = _; rw [hLs8]; rfl) kz) ?_
    show own_Win p e below s _ _ _ (T90.setTop (mkF m 432 Ls8 [(.int (0 : Int32))]))
    refine own_st (fun _ kz => XS.ifYes X90.here hx rfl (pc0 := 432) (pc' := 442) rfl (hb hby at_432) rfl (by decide) (by decide) (by decide) kz) ?_
    show own_Win p e below s _ _ _ (T90.setTop (mkF m 442 Ls8 []))
    refine own_st (fun _ kz => XS.dconst0 X90.here hx rfl (hb hby at_442) rfl kz) ?_
    show own_Win p e below s _ _ _ (T90.setTop (mkF m 443 Ls8 [(.double (FP.dconst0))]))
    obtain ⟨Ls9, hLs9⟩ : ∃ L : Array Slot, L = #[.val (.long p1), .second, .val (.long p2), .second, .val (.long p3), .second, .val (.long p4), .second, .val (.long p5), .second, .val (.int p6), .val (.int (0 : Int32)), .val (.ref am), .val (.ref rg), .val (.ref rb), .val (.ref rc), .val (.ref a331), .val (.double got), .second, .val (.double (FP.dconst0)), .second, .unset, .unset, .unset, .unset, .unset, .unset, .unset, .unset, .unset, .unset, .unset, .unset, .unset, .unset, .unset, .unset, .unset, .unset, .unset, .unset, .unset, .unset, .unset, .unset, .unset, .unset, .unset, .unset, .unset, .unset, .unset, .unset, .unset, .unset, .unset, .unset, .unset, .unset, .unset, .unset, .unset, .unset, .unset, .unset, .unset, .unset, .unset, .unset, .unset, .unset, .unset, .unset, .unset, .unset, .unset, .unset, .unset, .unset, .unset, .unset, .unset, .unset, .unset, .unset, .unset, .unset, .unset, .unset] := ⟨_, rfl⟩
    refine own_st (fun _ kz => XS.dstore X90.here hx rfl (hb hby at_443) rfl (l' := Ls9) (by show storeLocals Ls8 _ _ = _; rw [hLs8, hLs9]; rfl) kz) ?_
    show own_Win p e below s _ _ _ (T90.setTop (mkF m 445 Ls9 []))
    refine own_st (fun _ kz => XS.iload X90.here hx rfl (v := (0 : Int32)) (hb hby at_445) (by show Ls9[_]? = _; rw [hLs9]; rfl) kz) ?_
    show own_Win p e below s _ _ _ (T90.setTop (mkF m 447 Ls9 [(.int (0 : Int32))]))
    refine own_st (fun _ kz => XS.ifYes X90.here hx rfl (pc0 := 447) (pc' := 457) rfl (hb hby at_447) rfl (by decide) (by decide) (by decide) kz) ?_
    show own_Win p e below s _ _ _ (T90.setTop (mkF m 457 Ls9 []))
    refine own_st (fun _ kz => XS.dconst0 X90.here hx rfl (hb hby at_457) rfl kz) ?_
    show own_Win p e below s _ _ _ (T90.setTop (mkF m 458 Ls9 [(.double (FP.dconst0))]))
    obtain ⟨Ls10, hLs10⟩ : ∃ L : Array Slot, L = #[.val (.long p1), .second, .val (.long p2), .second, .val (.long p3), .second, .val (.long p4), .second, .val (.long p5), .second, .val (.int p6), .val (.int (0 : Int32)), .val (.ref am), .val (.ref rg), .val (.ref rb), .val (.ref rc), .val (.ref a331), .val (.double got), .second, .val (.double (FP.dconst0)), .second, .val (.double (FP.dconst0)), .second, .unset, .unset, .unset, .unset, .unset, .unset, .unset, .unset, .unset, .unset, .unset, .unset, .unset, .unset, .unset, .unset, .unset, .unset, .unset, .unset, .unset, .unset, .unset, .unset, .unset, .unset, .unset, .unset, .unset, .unset, .unset, .unset, .unset, .unset, .unset, .unset, .unset, .unset, .unset, .unset, .unset, .unset, .unset, .unset, .unset, .unset, .unset, .unset, .unset, .unset, .unset, .unset, .unset, .unset, .unset, .unset, .unset, .unset, .unset, .unset, .unset, .unset, .unset, .unset, .unset, .unset] := ⟨_, rfl⟩
    refine own_st (fun _ kz => XS.dstore X90.here hx rfl (hb hby at_458) rfl (l' := Ls10) (by show storeLocals Ls9 _ _ = _; rw [hLs9, hLs10]; rfl) kz) ?_
    show own_Win p e below s _ _ _ (T90.setTop (mkF m 460 Ls10 []))
    refine own_st (fun _ kz => XS.iload X90.here hx rfl (v := (0 : Int32)) (hb hby at_460) (by show Ls10[_]? = _; rw [hLs10]; rfl) kz) ?_
    show own_Win p e below s _ _ _ (T90.setTop (mkF m 462 Ls10 [(.int (0 : Int32))]))
    refine own_st (fun _ kz => XS.iconst X90.here hx rfl (hb hby at_462) kz) ?_
    show own_Win p e below s _ _ _ (T90.setTop (mkF m 463 Ls10 [(.int (1 : Int32)), (.int (0 : Int32))]))
    refine own_st (fun _ kz => XS.icmpYes X90.here hx rfl (pc0 := 463) (pc' := 473) rfl (hb hby at_463) rfl (by decide) (by decide) (by decide) kz) ?_
    show own_Win p e below s _ _ _ (T90.setTop (mkF m 473 Ls10 []))
    refine own_st (fun _ kz => XS.dconst0 X90.here hx rfl (hb hby at_473) rfl kz) ?_
    show own_Win p e below s _ _ _ (T90.setTop (mkF m 474 Ls10 [(.double (FP.dconst0))]))
    obtain ⟨Ls11, hLs11⟩ : ∃ L : Array Slot, L = #[.val (.long p1), .second, .val (.long p2), .second, .val (.long p3), .second, .val (.long p4), .second, .val (.long p5), .second, .val (.int p6), .val (.int (0 : Int32)), .val (.ref am), .val (.ref rg), .val (.ref rb), .val (.ref rc), .val (.ref a331), .val (.double got), .second, .val (.double (FP.dconst0)), .second, .val (.double (FP.dconst0)), .second, .val (.double (FP.dconst0)), .second, .unset, .unset, .unset, .unset, .unset, .unset, .unset, .unset, .unset, .unset, .unset, .unset, .unset, .unset, .unset, .unset, .unset, .unset, .unset, .unset, .unset, .unset, .unset, .unset, .unset, .unset, .unset, .unset, .unset, .unset, .unset, .unset, .unset, .unset, .unset, .unset, .unset, .unset, .unset, .unset, .unset, .unset, .unset, .unset, .unset, .unset, .unset, .unset, .unset, .unset, .unset, .unset, .unset, .unset, .unset, .unset, .unset, .unset, .unset, .unset, .unset, .unset, .unset, .unset] := ⟨_, rfl⟩
    refine own_st (fun _ kz => XS.dstore X90.here hx rfl (hb hby at_474) rfl (l' := Ls11) (by show storeLocals Ls10 _ _ = _; rw [hLs10, hLs11]; rfl) kz) ?_
    show own_Win p e below s _ _ _ (T90.setTop (mkF m 476 Ls11 []))
    refine own_st (fun _ kz => XS.iload X90.here hx rfl (v := (0 : Int32)) (hb hby at_476) (by show Ls11[_]? = _; rw [hLs11]; rfl) kz) ?_
    show own_Win p e below s _ _ _ (T90.setTop (mkF m 478 Ls11 [(.int (0 : Int32))]))
    refine own_st (fun _ kz => XS.iconst X90.here hx rfl (hb hby at_478) kz) ?_
    show own_Win p e below s _ _ _ (T90.setTop (mkF m 479 Ls11 [(.int (1 : Int32)), (.int (0 : Int32))]))
    refine own_st (fun _ kz => XS.icmpYes X90.here hx rfl (pc0 := 479) (pc' := 489) rfl (hb hby at_479) rfl (by decide) (by decide) (by decide) kz) ?_
    show own_Win p e below s _ _ _ (T90.setTop (mkF m 489 Ls11 []))
    refine own_st (fun _ kz => XS.dconst0 X90.here hx rfl (hb hby at_489) rfl kz) ?_
    show own_Win p e below s _ _ _ (T90.setTop (mkF m 490 Ls11 [(.double (FP.dconst0))]))
    obtain ⟨Ls12, hLs12⟩ : ∃ L : Array Slot, L = #[.val (.long p1), .second, .val (.long p2), .second, .val (.long p3), .second, .val (.long p4), .second, .val (.long p5), .second, .val (.int p6), .val (.int (0 : Int32)), .val (.ref am), .val (.ref rg), .val (.ref rb), .val (.ref rc), .val (.ref a331), .val (.double got), .second, .val (.double (FP.dconst0)), .second, .val (.double (FP.dconst0)), .second, .val (.double (FP.dconst0)), .second, .val (.double (FP.dconst0)), .second, .unset, .unset, .unset, .unset, .unset, .unset, .unset, .unset, .unset, .unset, .unset, .unset, .unset, .unset, .unset, .unset, .unset, .unset, .unset, .unset, .unset, .unset, .unset, .unset, .unset, .unset, .unset, .unset, .unset, .unset, .unset, .unset, .unset, .unset, .unset, .unset, .unset, .unset, .unset, .unset, .unset, .unset, .unset, .unset, .unset, .unset, .unset, .unset, .unset, .unset, .unset, .unset, .unset, .unset, .unset, .unset, .unset, .unset, .unset, .unset, .unset, .unset] := ⟨_, rfl⟩
    refine own_st (fun _ kz => XS.dstore X90.here hx rfl (hb hby at_490) rfl (l' := Ls12) (by show storeLocals Ls11 _ _ = _; rw [hLs11, hLs12]; rfl) kz) ?_
    show own_Win p e below s _ _ _ (T90.setTop (mkF m 492 Ls12 []))
    refine own_st (fun _ kz => XS.iload X90.here hx rfl (v := (0 : Int32)) (hb hby at_492) (by show Ls12[_]? = _; rw [hLs12]; rfl) kz) ?_
    show own_Win p e below s _ _ _ (T90.setTop (mkF m 494 Ls12 [(.int (0 : Int32))]))
    refine own_st (fun _ kz => XS.iconst X90.here hx rfl (hb hby at_494) kz) ?_
    show own_Win p e below s _ _ _ (T90.setTop (mkF m 495 Ls12 [(.int (2 : Int32)), (.int (0 : Int32))]))
    refine own_st (fun _ kz => XS.icmpYes X90.here hx rfl (pc0 := 495) (pc' := 505) rfl (hb hby at_495) rfl (by decide) (by decide) (by decide) kz) ?_
    show own_Win p e below s _ _ _ (T90.setTop (mkF m 505 Ls12 []))
    refine own_st (fun _ kz => XS.dconst0 X90.here hx rfl (hb hby at_505) rfl kz) ?_
    show own_Win p e below s _ _ _ (T90.setTop (mkF m 506 Ls12 [(.double (FP.dconst0))]))
    obtain ⟨Ls13, hLs13⟩ : ∃ L : Array Slot, L = #[.val (.long p1), .second, .val (.long p2), .second, .val (.long p3), .second, .val (.long p4), .second, .val (.long p5), .second, .val (.int p6), .val (.int (0 : Int32)), .val (.ref am), .val (.ref rg), .val (.ref rb), .val (.ref rc), .val (.ref a331), .val (.double got), .second, .val (.double (FP.dconst0)), .second, .val (.double (FP.dconst0)), .second, .val (.double (FP.dconst0)), .second, .val (.double (FP.dconst0)), .second, .val (.double (FP.dconst0)), .second, .unset, .unset, .unset, .unset, .unset, .unset, .unset, .unset, .unset, .unset, .unset, .unset, .unset, .unset, .unset, .unset, .unset, .unset, .unset, .unset, .unset, .unset, .unset, .unset, .unset, .unset, .unset, .unset, .unset, .unset, .unset, .unset, .unset, .unset, .unset, .unset, .unset, .unset, .unset, .unset, .unset, .unset, .unset, .unset, .unset, .unset, .unset, .unset, .unset, .unset, .unset, .unset, .unset, .unset, .unset, .unset, .unset, .unset, .unset, .unset] := ⟨_, rfl⟩
    refine own_st (fun _ kz => XS.dstore X90.here hx rfl (hb hby at_506) rfl (l' := Ls13) (by show storeLocals Ls12 _ _ = _; rw [hLs12, hLs13]; rfl) kz) ?_
    show own_Win p e below s _ _ _ (T90.setTop (mkF m 508 Ls13 []))
    refine own_st (fun _ kz => XS.iload X90.here hx rfl (v := (0 : Int32)) (hb hby at_508) (by show Ls13[_]? = _; rw [hLs13]; rfl) kz) ?_
    show own_Win p e below s _ _ _ (T90.setTop (mkF m 510 Ls13 [(.int (0 : Int32))]))
    refine own_st (fun _ kz => XS.iconst X90.here hx rfl (hb hby at_510) kz) ?_
    show own_Win p e below s _ _ _ (T90.setTop (mkF m 511 Ls13 [(.int (2 : Int32)), (.int (0 : Int32))]))
    refine own_st (fun _ kz => XS.icmpYes X90.here hx rfl (pc0 := 511) (pc' := 521) rfl (hb hby at_511) rfl (by decide) (by decide) (by decide) kz) ?_
    show own_Win p e below s _ _ _ (T90.setTop (mkF m 521 Ls13 []))
    refine own_st (fun _ kz => XS.dconst0 X90.here hx rfl (hb hby at_521) rfl kz) ?_
    show own_Win p e below s _ _ _ (T90.setTop (mkF m 522 Ls13 [(.double (FP.dconst0))]))
    obtain ⟨Ls14, hLs14⟩ : ∃ L : Array Slot, L = #[.val (.long p1), .second, .val (.long p2), .second, .val (.long p3), .second, .val (.long p4), .second, .val (.long p5), .second, .val (.int p6), .val (.int (0 : Int32)), .val (.ref am), .val (.ref rg), .val (.ref rb), .val (.ref rc), .val (.ref a331), .val (.double got), .second, .val (.double (FP.dconst0)), .second, .val (.double (FP.dconst0)), .second, .val (.double (FP.dconst0)), .second, .val (.double (FP.dconst0)), .second, .val (.double (FP.dconst0)), .second, .val (.double (FP.dconst0)), .second, .unset, .unset, .unset, .unset, .unset, .unset, .unset, .unset, .unset, .unset, .unset, .unset, .unset, .unset, .unset, .unset, .unset, .unset, .unset, .unset, .unset, .unset, .unset, .unset, .unset, .unset, .unset, .unset, .unset, .unset, .unset, .unset, .unset, .unset, .unset, .unset, .unset, .unset, .unset, .unset, .unset, .unset, .unset, .unset, .unset, .unset, .unset, .unset, .unset, .unset, .unset, .unset, .unset, .unset, .unset, .unset, .unset, .unset] := ⟨_, rfl⟩
    refine own_st (fun _ kz => XS.dstore X90.here hx rfl (hb hby at_522) rfl (l' := Ls14) (by show storeLocals Ls13 _ _ = _; rw [hLs13, hLs14]; rfl) kz) ?_
    show own_Win p e below s _ _ _ (T90.setTop (mkF m 524 Ls14 []))
    rw [hLs14]
    exact tl T90 _ X90 e90 N90 got (FP.dconst0) (FP.dconst0) (FP.dconst0) (FP.dconst0) (FP.dconst0) (FP.dconst0) _ 0 0 0 0 0 0 _ dgot own_z0 own_z0 own_z0 own_z0 own_z0 own_z0 (by grind)
  ·
    subst q
    refine own_callV X337 hx hZ hown (C := "com/example/mantleray/mantleray/QuadraticModel") (y := yC) (hw _ (List.mem_of_getElem? (i := 39) rfl)) (hw _ (List.mem_of_getElem? (i := 40) rfl)) (hw _ (List.mem_of_getElem? (i := 42) rfl)) (hw _ (List.mem_of_getElem? (i := 41) rfl)) (hw _ (List.mem_of_getElem? (i := 43) rfl)) (hw _ (List.mem_of_getElem? (i := 2) rfl)) (by decide) e337 c_E_h337 (rmC1 l Z a0 hw [] am rg rb rc a331 fG fB fC fY G0 G1 G2 G3 G4 G5 B0 B1 B2 B3 B4 B5 B6 B7 B8 B9 B10 B11 C0 C1 C2 C3 C4 C5 C6 C7 Y0 Y1 Y2 Y3 Y4 Y5 h337 n0 Z337 c_points_h337 c_gradient_h337 c_blocks_h337 c_coupling_h337 F9_G F9_B F9_C F9_Y n9G0 n9G1 n9G2 n9G3 n9G4 n9G5 n9B0 n9B1 n9B2 n9B3 n9B4 n9B5 n9B6 n9B7 n9B8 n9B9 n9B10 n9B11 n9C0 n9C1 n9C2 n9C3 n9C4 n9C5 n9C6 n9C7 n9Y0 n9Y1 n9Y2 n9Y3 n9Y4 n9Y5) (by decide) (W := 0) (by decide) rfl (by rw [hml]; show Ls7.size = _; rw [hLs7]; rfl) (argsL := [.ref a331]) (rest := []) (lenOf pdC rfl) rfl (Nat.le_of_eq rfl) (hb hby at_425) rfl (by decide) (by decide) ?_
    intro T90 v90 L90 X90 hQ90
    obtain ⟨got, rfl, M90, e90, dgot⟩ := hQ90
    have N90 := Fr.app N337 M90
    show own_Win p e below s _ _ _ (T90.setTop (mkF m 428 Ls7 [(.double got)]))
    obtain ⟨Ls8, hLs8⟩ : ∃ L : Array Slot, L = #[.val (.long p1), .second, .val (.long p2), .second, .val (.long p3), .second, .val (.long p4), .second, .val (.long p5), .second, .val (.int p6), .val (.int (1 : Int32)), .val (.ref am), .val (.ref rg), .val (.ref rb), .val (.ref rc), .val (.ref a331), .val (.double got), .second, .unset, .unset, .unset, .unset, .unset, .unset, .unset, .unset, .unset, .unset, .unset, .unset, .unset, .unset, .unset, .unset, .unset, .unset, .unset, .unset, .unset, .unset, .unset, .unset, .unset, .unset, .unset, .unset, .unset, .unset, .unset, .unset, .unset, .unset, .unset, .unset, .unset, .unset, .unset, .unset, .unset, .unset, .unset, .unset, .unset, .unset, .unset, .unset, .unset, .unset, .unset, .unset, .unset, .unset, .unset, .unset, .unset, .unset, .unset, .unset, .unset, .unset, .unset, .unset, .unset, .unset, .unset, .unset, .unset, .unset] := ⟨_, rfl⟩
    refine own_st (fun _ kz => XS.dstore X90.here hx rfl (hb hby at_428) rfl (l' := Ls8) (by show storeLocals Ls7 _ _ = _; rw [hLs7, hLs8]; rfl) kz) ?_
    show own_Win p e below s _ _ _ (T90.setTop (mkF m 430 Ls8 []))
    refine own_st (fun _ kz => XS.iload X90.here hx rfl (v := (1 : Int32)) (hb hby at_430) (by show Ls8[_]? = _; rw [hLs8]; rfl) kz) ?_
    show own_Win p e below s _ _ _ (T90.setTop (mkF m 432 Ls8 [(.int (1 : Int32))]))
    refine own_st (fun _ kz => XS.ifNo X90.here hx rfl (hb hby at_432) rfl (by decide) kz) ?_
    show own_Win p e below s _ _ _ (T90.setTop (mkF m 435 Ls8 []))
    refine own_st (fun _ kz => XS.aload X90.here hx rfl (v := (.ref a331)) (hb hby at_435) (by show Ls8[_]? = _; rw [hLs8]; rfl) rfl kz) ?_
    show own_Win p e below s _ _ _ (T90.setTop (mkF m 437 Ls8 [(.ref a331)]))
    refine own_st (fun _ kz => XS.iconst X90.here hx rfl (hb hby at_437) kz) ?_
    show own_Win p e below s _ _ _ (T90.setTop (mkF m 438 Ls8 [(.int (0 : Int32)), (.ref a331)]))
    refine own_daload X90 hx hZ e90 F9_Y (i := 0) rfl (by decide) (x := y0) (by rw [hfY]; rfl) rfl rfl (hb hby at_438) ?_
    show own_Win p e below s _ _ _ (T90.setTop (mkF m 439 Ls8 [(.double y0)]))
    refine own_st (fun _ kz => XS.goto X90.here hx rfl (pc0 := 439) (pc' := 443) rfl (hb hby at_439) (by decide) (by decide) kz) ?_
    show own_Win p e below s _ _ _ (T90.setTop (mkF m 443 Ls8 [(.double y0)]))
    obtain ⟨Ls9, hLs9⟩ : ∃ L : Array Slot, L = #[.val (.long p1), .second, .val (.long p2), .second, .val (.long p3), .second, .val (.long p4), .second, .val (.long p5), .second, .val (.int p6), .val (.int (1 : Int32)), .val (.ref am), .val (.ref rg), .val (.ref rb), .val (.ref rc), .val (.ref a331), .val (.double got), .second, .val (.double y0), .second, .unset, .unset, .unset, .unset, .unset, .unset, .unset, .unset, .unset, .unset, .unset, .unset, .unset, .unset, .unset, .unset, .unset, .unset, .unset, .unset, .unset, .unset, .unset, .unset, .unset, .unset, .unset, .unset, .unset, .unset, .unset, .unset, .unset, .unset, .unset, .unset, .unset, .unset, .unset, .unset, .unset, .unset, .unset, .unset, .unset, .unset, .unset, .unset, .unset, .unset, .unset, .unset, .unset, .unset, .unset, .unset, .unset, .unset, .unset, .unset, .unset, .unset, .unset, .unset, .unset, .unset, .unset, .unset] := ⟨_, rfl⟩
    refine own_st (fun _ kz => XS.dstore X90.here hx rfl (hb hby at_443) rfl (l' := Ls9) (by show storeLocals Ls8 _ _ = _; rw [hLs8, hLs9]; rfl) kz) ?_
    show own_Win p e below s _ _ _ (T90.setTop (mkF m 445 Ls9 []))
    refine own_st (fun _ kz => XS.iload X90.here hx rfl (v := (1 : Int32)) (hb hby at_445) (by show Ls9[_]? = _; rw [hLs9]; rfl) kz) ?_
    show own_Win p e below s _ _ _ (T90.setTop (mkF m 447 Ls9 [(.int (1 : Int32))]))
    refine own_st (fun _ kz => XS.ifNo X90.here hx rfl (hb hby at_447) rfl (by decide) kz) ?_
    show own_Win p e below s _ _ _ (T90.setTop (mkF m 450 Ls9 []))
    refine own_st (fun _ kz => XS.aload X90.here hx rfl (v := (.ref a331)) (hb hby at_450) (by show Ls9[_]? = _; rw [hLs9]; rfl) rfl kz) ?_
    show own_Win p e below s _ _ _ (T90.setTop (mkF m 452 Ls9 [(.ref a331)]))
    refine own_st (fun _ kz => XS.iconst X90.here hx rfl (hb hby at_452) kz) ?_
    show own_Win p e below s _ _ _ (T90.setTop (mkF m 453 Ls9 [(.int (1 : Int32)), (.ref a331)]))
    refine own_daload X90 hx hZ e90 F9_Y (i := 1) rfl (by decide) (x := y1) (by rw [hfY]; rfl) rfl rfl (hb hby at_453) ?_
    show own_Win p e below s _ _ _ (T90.setTop (mkF m 454 Ls9 [(.double y1)]))
    refine own_st (fun _ kz => XS.goto X90.here hx rfl (pc0 := 454) (pc' := 458) rfl (hb hby at_454) (by decide) (by decide) kz) ?_
    show own_Win p e below s _ _ _ (T90.setTop (mkF m 458 Ls9 [(.double y1)]))
    obtain ⟨Ls10, hLs10⟩ : ∃ L : Array Slot, L = #[.val (.long p1), .second, .val (.long p2), .second, .val (.long p3), .second, .val (.long p4), .second, .val (.long p5), .second, .val (.int p6), .val (.int (1 : Int32)), .val (.ref am), .val (.ref rg), .val (.ref rb), .val (.ref rc), .val (.ref a331), .val (.double got), .second, .val (.double y0), .second, .val (.double y1), .second, .unset, .unset, .unset, .unset, .unset, .unset, .unset, .unset, .unset, .unset, .unset, .unset, .unset, .unset, .unset, .unset, .unset, .unset, .unset, .unset, .unset, .unset, .unset, .unset, .unset, .unset, .unset, .unset, .unset, .unset, .unset, .unset, .unset, .unset, .unset, .unset, .unset, .unset, .unset, .unset, .unset, .unset, .unset, .unset, .unset, .unset, .unset, .unset, .unset, .unset, .unset, .unset, .unset, .unset, .unset, .unset, .unset, .unset, .unset, .unset, .unset, .unset, .unset, .unset, .unset, .unset] := ⟨_, rfl⟩
    refine own_st (fun _ kz => XS.dstore X90.here hx rfl (hb hby at_458) rfl (l' := Ls10) (by show storeLocals Ls9 _ _ = _; rw [hLs9, hLs10]; rfl) kz) ?_
    show own_Win p e below s _ _ _ (T90.setTop (mkF m 460 Ls10 []))
    refine own_st (fun _ kz => XS.iload X90.here hx rfl (v := (1 : Int32)) (hb hby at_460) (by show Ls10[_]? = _; rw [hLs10]; rfl) kz) ?_
    show own_Win p e below s _ _ _ (T90.setTop (mkF m 462 Ls10 [(.int (1 : Int32))]))
    refine own_st (fun _ kz => XS.iconst X90.here hx rfl (hb hby at_462) kz) ?_
    show own_Win p e below s _ _ _ (T90.setTop (mkF m 463 Ls10 [(.int (1 : Int32)), (.int (1 : Int32))]))
    refine own_st (fun _ kz => XS.icmpYes X90.here hx rfl (pc0 := 463) (pc' := 473) rfl (hb hby at_463) rfl (by decide) (by decide) (by decide) kz) ?_
    show own_Win p e below s _ _ _ (T90.setTop (mkF m 473 Ls10 []))
    refine own_st (fun _ kz => XS.dconst0 X90.here hx rfl (hb hby at_473) rfl kz) ?_
    show own_Win p e below s _ _ _ (T90.setTop (mkF m 474 Ls10 [(.double (FP.dconst0))]))
    obtain ⟨Ls11, hLs11⟩ : ∃ L : Array Slot, L = #[.val (.long p1), .second, .val (.long p2), .second, .val (.long p3), .second, .val (.long p4), .second, .val (.long p5), .second, .val (.int p6), .val (.int (1 : Int32)), .val (.ref am), .val (.ref rg), .val (.ref rb), .val (.ref rc), .val (.ref a331), .val (.double got), .second, .val (.double y0), .second, .val (.double y1), .second, .val (.double (FP.dconst0)), .second, .unset, .unset, .unset, .unset, .unset, .unset, .unset, .unset, .unset, .unset, .unset, .unset, .unset, .unset, .unset, .unset, .unset, .unset, .unset, .unset, .unset, .unset, .unset, .unset, .unset, .unset, .unset, .unset, .unset, .unset, .unset, .unset, .unset, .unset, .unset, .unset, .unset, .unset, .unset, .unset, .unset, .unset, .unset, .unset, .unset, .unset, .unset, .unset, .unset, .unset, .unset, .unset, .unset, .unset, .unset, .unset, .unset, .unset, .unset, .unset, .unset, .unset, .unset, .unset] := ⟨_, rfl⟩
    refine own_st (fun _ kz => XS.dstore X90.here hx rfl (hb hby at_474) rfl (l' := Ls11) (by show storeLocals Ls10 _ _ = _; rw [hLs10, hLs11]; rfl) kz) ?_
    show own_Win p e below s _ _ _ (T90.setTop (mkF m 476 Ls11 []))
    refine own_st (fun _ kz => XS.iload X90.here hx rfl (v := (1 : Int32)) (hb hby at_476) (by show Ls11[_]? = _; rw [hLs11]; rfl) kz) ?_
    show own_Win p e below s _ _ _ (T90.setTop (mkF m 478 Ls11 [(.int (1 : Int32))]))
    refine own_st (fun _ kz => XS.iconst X90.here hx rfl (hb hby at_478) kz) ?_
    show own_Win p e below s _ _ _ (T90.setTop (mkF m 479 Ls11 [(.int (1 : Int32)), (.int (1 : Int32))]))
    refine own_st (fun _ kz => XS.icmpYes X90.here hx rfl (pc0 := 479) (pc' := 489) rfl (hb hby at_479) rfl (by decide) (by decide) (by decide) kz) ?_
    show own_Win p e below s _ _ _ (T90.setTop (mkF m 489 Ls11 []))
    refine own_st (fun _ kz => XS.dconst0 X90.here hx rfl (hb hby at_489) rfl kz) ?_
    show own_Win p e below s _ _ _ (T90.setTop (mkF m 490 Ls11 [(.double (FP.dconst0))]))
    obtain ⟨Ls12, hLs12⟩ : ∃ L : Array Slot, L = #[.val (.long p1), .second, .val (.long p2), .second, .val (.long p3), .second, .val (.long p4), .second, .val (.long p5), .second, .val (.int p6), .val (.int (1 : Int32)), .val (.ref am), .val (.ref rg), .val (.ref rb), .val (.ref rc), .val (.ref a331), .val (.double got), .second, .val (.double y0), .second, .val (.double y1), .second, .val (.double (FP.dconst0)), .second, .val (.double (FP.dconst0)), .second, .unset, .unset, .unset, .unset, .unset, .unset, .unset, .unset, .unset, .unset, .unset, .unset, .unset, .unset, .unset, .unset, .unset, .unset, .unset, .unset, .unset, .unset, .unset, .unset, .unset, .unset, .unset, .unset, .unset, .unset, .unset, .unset, .unset, .unset, .unset, .unset, .unset, .unset, .unset, .unset, .unset, .unset, .unset, .unset, .unset, .unset, .unset, .unset, .unset, .unset, .unset, .unset, .unset, .unset, .unset, .unset, .unset, .unset, .unset, .unset, .unset, .unset] := ⟨_, rfl⟩
    refine own_st (fun _ kz => XS.dstore X90.here hx rfl (hb hby at_490) rfl (l' := Ls12) (by show storeLocals Ls11 _ _ = _; rw [hLs11, hLs12]; rfl) kz) ?_
    show own_Win p e below s _ _ _ (T90.setTop (mkF m 492 Ls12 []))
    refine own_st (fun _ kz => XS.iload X90.here hx rfl (v := (1 : Int32)) (hb hby at_492) (by show Ls12[_]? = _; rw [hLs12]; rfl) kz) ?_
    show own_Win p e below s _ _ _ (T90.setTop (mkF m 494 Ls12 [(.int (1 : Int32))]))
    refine own_st (fun _ kz => XS.iconst X90.here hx rfl (hb hby at_494) kz) ?_
    show own_Win p e below s _ _ _ (T90.setTop (mkF m 495 Ls12 [(.int (2 : Int32)), (.int (1 : Int32))]))
    refine own_st (fun _ kz => XS.icmpYes X90.here hx rfl (pc0 := 495) (pc' := 505) rfl (hb hby at_495) rfl (by decide) (by decide) (by decide) kz) ?_
    show own_Win p e below s _ _ _ (T90.setTop (mkF m 505 Ls12 []))
    refine own_st (fun _ kz => XS.dconst0 X90.here hx rfl (hb hby at_505) rfl kz) ?_
    show own_Win p e below s _ _ _ (T90.setTop (mkF m 506 Ls12 [(.double (FP.dconst0))]))
    obtain ⟨Ls13, hLs13⟩ : ∃ L : Array Slot, L = #[.val (.long p1), .second, .val (.long p2), .second, .val (.long p3), .second, .val (.long p4), .second, .val (.long p5), .second, .val (.int p6), .val (.int (1 : Int32)), .val (.ref am), .val (.ref rg), .val (.ref rb), .val (.ref rc), .val (.ref a331), .val (.double got), .second, .val (.double y0), .second, .val (.double y1), .second, .val (.double (FP.dconst0)), .second, .val (.double (FP.dconst0)), .second, .val (.double (FP.dconst0)), .second, .unset, .unset, .unset, .unset, .unset, .unset, .unset, .unset, .unset, .unset, .unset, .unset, .unset, .unset, .unset, .unset, .unset, .unset, .unset, .unset, .unset, .unset, .unset, .unset, .unset, .unset, .unset, .unset, .unset, .unset, .unset, .unset, .unset, .unset, .unset, .unset, .unset, .unset, .unset, .unset, .unset, .unset, .unset, .unset, .unset, .unset, .unset, .unset, .unset, .unset, .unset, .unset, .unset, .unset, .unset, .unset, .unset, .unset, .unset, .unset] := ⟨_, rfl⟩
    refine own_st (fun _ kz => XS.dstore X90.here hx rfl (hb hby at_506) rfl (l' := Ls13) (by show storeLocals Ls12 _ _ = _; rw [hLs12, hLs13]; rfl) kz) ?_
    show own_Win p e below s _ _ _ (T90.setTop (mkF m 508 Ls13 []))
    refine own_st (fun _ kz => XS.iload X90.here hx rfl (v := (1 : Int32)) (hb hby at_508) (by show Ls13[_]? = _; rw [hLs13]; rfl) kz) ?_
    show own_Win p e below s _ _ _ (T90.setTop (mkF m 510 Ls13 [(.int (1 : Int32))]))
    refine own_st (fun _ kz => XS.iconst X90.here hx rfl (hb hby at_510) kz) ?_
    show own_Win p e below s _ _ _ (T90.setTop (mkF m 511 Ls13 [(.int (2 : Int32)), (.int (1 : Int32))]))
    refine own_st (fun _ kz => XS.icmpYes X90.here hx rfl (pc0 := 511) (pc' := 521) rfl (hb hby at_511) rfl (by decide) (by decide) (by decide) kz) ?_
    show own_Win p e below s _ _ _ (T90.setTop (mkF m 521 Ls13 []))
    refine own_st (fun _ kz => XS.dconst0 X90.here hx rfl (hb hby at_521) rfl kz) ?_
    show own_Win p e below s _ _ _ (T90.setTop (mkF m 522 Ls13 [(.double (FP.dconst0))]))
    obtain ⟨Ls14, hLs14⟩ : ∃ L : Array Slot, L = #[.val (.long p1), .second, .val (.long p2), .second, .val (.long p3), .second, .val (.long p4), .second, .val (.long p5), .second, .val (.int p6), .val (.int (1 : Int32)), .val (.ref am), .val (.ref rg), .val (.ref rb), .val (.ref rc), .val (.ref a331), .val (.double got), .second, .val (.double y0), .second, .val (.double y1), .second, .val (.double (FP.dconst0)), .second, .val (.double (FP.dconst0)), .second, .val (.double (FP.dconst0)), .second, .val (.double (FP.dconst0)), .second, .unset, .unset, .unset, .unset, .unset, .unset, .unset, .unset, .unset, .unset, .unset, .unset, .unset, .unset, .unset, .unset, .unset, .unset, .unset, .unset, .unset, .unset, .unset, .unset, .unset, .unset, .unset, .unset, .unset, .unset, .unset, .unset, .unset, .unset, .unset, .unset, .unset, .unset, .unset, .unset, .unset, .unset, .unset, .unset, .unset, .unset, .unset, .unset, .unset, .unset, .unset, .unset, .unset, .unset, .unset, .unset, .unset, .unset] := ⟨_, rfl⟩
    refine own_st (fun _ kz => XS.dstore X90.here hx rfl (hb hby at_522) rfl (l' := Ls14) (by show storeLocals Ls13 _ _ = _; rw [hLs13, hLs14]; rfl) kz) ?_
    show own_Win p e below s _ _ _ (T90.setTop (mkF m 524 Ls14 []))
    rw [hLs14]
    exact tl T90 _ X90 e90 N90 got y0 y1 (FP.dconst0) (FP.dconst0) (FP.dconst0) (FP.dconst0) _ Y0 Y1 0 0 0 0 _ dgot ny0 ny1 own_z0 own_z0 own_z0 own_z0 (by grind)
  ·
    subst q
    refine own_callV X337 hx hZ hown (C := "com/example/mantleray/mantleray/QuadraticModel") (y := yC) (hw _ (List.mem_of_getElem? (i := 39) rfl)) (hw _ (List.mem_of_getElem? (i := 40) rfl)) (hw _ (List.mem_of_getElem? (i := 42) rfl)) (hw _ (List.mem_of_getElem? (i := 41) rfl)) (hw _ (List.mem_of_getElem? (i := 43) rfl)) (hw _ (List.mem_of_getElem? (i := 2) rfl)) (by decide) e337 c_E_h337 (rmC2 l Z a0 hw [] am rg rb rc a331 fG fB fC fY G0 G1 G2 G3 G4 G5 B0 B1 B2 B3 B4 B5 B6 B7 B8 B9 B10 B11 C0 C1 C2 C3 C4 C5 C6 C7 Y0 Y1 Y2 Y3 Y4 Y5 h337 n0 Z337 c_points_h337 c_gradient_h337 c_blocks_h337 c_coupling_h337 F9_G F9_B F9_C F9_Y n9G0 n9G1 n9G2 n9G3 n9G4 n9G5 n9B0 n9B1 n9B2 n9B3 n9B4 n9B5 n9B6 n9B7 n9B8 n9B9 n9B10 n9B11 n9C0 n9C1 n9C2 n9C3 n9C4 n9C5 n9C6 n9C7 n9Y0 n9Y1 n9Y2 n9Y3 n9Y4 n9Y5) (by decide) (W := 0) (by decide) rfl (by rw [hml]; show Ls7.size = _; rw [hLs7]; rfl) (argsL := [.ref a331]) (rest := []) (lenOf pdC rfl) rfl (Nat.le_of_eq rfl) (hb hby at_425) rfl (by decide) (by decide) ?_
    intro T90 v90 L90 X90 hQ90
    obtain ⟨got, rfl, M90, e90, dgot⟩ := hQ90
    have N90 := Fr.app N337 M90
    show own_Win p e below s _ _ _ (T90.setTop (mkF m 428 Ls7 [(.double got)]))
    obtain ⟨Ls8, hLs8⟩ : ∃ L : Array Slot, L = #[.val (.long p1), .second, .val (.long p2), .second, .val (.long p3), .second, .val (.long p4), .second, .val (.long p5), .second, .val (.int p6), .val (.int (2 : Int32)), .val (.ref am), .val (.ref rg), .val (.ref rb), .val (.ref rc), .val (.ref a331), .val (.double got), .second, .unset, .unset, .unset, .unset, .unset, .unset, .unset, .unset, .unset, .unset, .unset, .unset, .unset, .unset, .unset, .unset, .unset, .unset, .unset, .unset, .unset, .unset, .unset, .unset, .unset, .unset, .unset, .unset, .unset, .unset, .unset, .unset, .unset, .unset, .unset, .unset, .unset, .unset, .unset, .unset, .unset, .unset, .unset, .unset, .unset, .unset, .unset, .unset, .unset, .unset, .unset, .unset, .unset, .unset, .unset, .unset, .unset, .unset, .unset, .unset, .unset, .unset, .unset, .unset, .unset, .unset, .unset, .unset, .unset, .unset] := ⟨_, rfl⟩
    refine own_st (fun _ kz => XS.dstore X90.here hx rfl (hb hby at_428) rfl (l' := Ls8) (by show storeLocals Ls7 _ _ = _; rw [hLs7, hLs8]; rfl) kz) ?_
    show own_Win p e below s _ _ _ (T90.setTop (mkF m 430 Ls8 []))
    refine own_st (fun _ kz => XS.iload X90.here hx rfl (v := (2 : Int32)) (hb hby at_430) (by show Ls8[_]? = _; rw [hLs8]; rfl) kz) ?_
    show own_Win p e below s _ _ _ (T90.setTop (mkF m 432 Ls8 [(.int (2 : Int32))]))
    refine own_st (fun _ kz => XS.ifNo X90.here hx rfl (hb hby at_432) rfl (by decide) kz) ?_
    show own_Win p e below s _ _ _ (T90.setTop (mkF m 435 Ls8 []))
    refine own_st (fun _ kz => XS.aload X90.here hx rfl (v := (.ref a331)) (hb hby at_435) (by show Ls8[_]? = _; rw [hLs8]; rfl) rfl kz) ?_
    show own_Win p e below s _ _ _ (T90.setTop (mkF m 437 Ls8 [(.ref a331)]))
    refine own_st (fun _ kz => XS.iconst X90.here hx rfl (hb hby at_437) kz) ?_
    show own_Win p e below s _ _ _ (T90.setTop (mkF m 438 Ls8 [(.int (0 : Int32)), (.ref a331)]))
    refine own_daload X90 hx hZ e90 F9_Y (i := 0) rfl (by decide) (x := y0) (by rw [hfY]; rfl) rfl rfl (hb hby at_438) ?_
    show own_Win p e below s _ _ _ (T90.setTop (mkF m 439 Ls8 [(.double y0)]))
    refine own_st (fun _ kz => XS.goto X90.here hx rfl (pc0 := 439) (pc' := 443) rfl (hb hby at_439) (by decide) (by decide) kz) ?_
    show own_Win p e below s _ _ _ (T90.setTop (mkF m 443 Ls8 [(.double y0)]))
    obtain ⟨Ls9, hLs9⟩ : ∃ L : Array Slot, L = #[.val (.long p1), .second, .val (.long p2), .second, .val (.long p3), .second, .val (.long p4), .second, .val (.long p5), .second, .val (.int p6), .val (.int (2 : Int32)), .val (.ref am), .val (.ref rg), .val (.ref rb), .val (.ref rc), .val (.ref a331), .val (.double got), .second, .val (.double y0), .second, .unset, .unset, .unset, .unset, .unset, .unset, .unset, .unset, .unset, .unset, .unset, .unset, .unset, .unset, .unset, .unset, .unset, .unset, .unset, .unset, .unset, .unset, .unset, .unset, .unset, .unset, .unset, .unset, .unset, .unset, .unset, .unset, .unset, .unset, .unset, .unset, .unset, .unset, .unset, .unset, .unset, .unset, .unset, .unset, .unset, .unset, .unset, .unset, .unset, .unset, .unset, .unset, .unset, .unset, .unset, .unset, .unset, .unset, .unset, .unset, .unset, .unset, .unset, .unset, .unset, .unset, .unset, .unset] := ⟨_, rfl⟩
    refine own_st (fun _ kz => XS.dstore X90.here hx rfl (hb hby at_443) rfl (l' := Ls9) (by show storeLocals Ls8 _ _ = _; rw [hLs8, hLs9]; rfl) kz) ?_
    show own_Win p e below s _ _ _ (T90.setTop (mkF m 445 Ls9 []))
    refine own_st (fun _ kz => XS.iload X90.here hx rfl (v := (2 : Int32)) (hb hby at_445) (by show Ls9[_]? = _; rw [hLs9]; rfl) kz) ?_
    show own_Win p e below s _ _ _ (T90.setTop (mkF m 447 Ls9 [(.int (2 : Int32))]))
    refine own_st (fun _ kz => XS.ifNo X90.here hx rfl (hb hby at_447) rfl (by decide) kz) ?_
    show own_Win p e below s _ _ _ (T90.setTop (mkF m 450 Ls9 []))
    refine own_st (fun _ kz => XS.aload X90.here hx rfl (v := (.ref a331)) (hb hby at_450) (by show Ls9[_]? = _; rw [hLs9]; rfl) rfl kz) ?_
    show own_Win p e below s _ _ _ (T90.setTop (mkF m 452 Ls9 [(.ref a331)]))
    refine own_st (fun _ kz => XS.iconst X90.here hx rfl (hb hby at_452) kz) ?_
    show own_Win p e below s _ _ _ (T90.setTop (mkF m 453 Ls9 [(.int (1 : Int32)), (.ref a331)]))
    refine own_daload X90 hx hZ e90 F9_Y (i := 1) rfl (by decide) (x := y1) (by rw [hfY]; rfl) rfl rfl (hb hby at_453) ?_
    show own_Win p e below s _ _ _ (T90.setTop (mkF m 454 Ls9 [(.double y1)]))
    refine own_st (fun _ kz => XS.goto X90.here hx rfl (pc0 := 454) (pc' := 458) rfl (hb hby at_454) (by decide) (by decide) kz) ?_
    show own_Win p e below s _ _ _ (T90.setTop (mkF m 458 Ls9 [(.double y1)]))
    obtain ⟨Ls10, hLs10⟩ : ∃ L : Array Slot, L = #[.val (.long p1), .second, .val (.long p2), .second, .val (.long p3), .second, .val (.long p4), .second, .val (.long p5), .second, .val (.int p6), .val (.int (2 : Int32)), .val (.ref am), .val (.ref rg), .val (.ref rb), .val (.ref rc), .val (.ref a331), .val (.double got), .second, .val (.double y0), .second, .val (.double y1), .second, .unset, .unset, .unset, .unset, .unset, .unset, .unset, .unset, .unset, .unset, .unset, .unset, .unset, .unset, .unset, .unset, .unset, .unset, .unset, .unset, .unset, .unset, .unset, .unset, .unset, .unset, .unset, .unset, .unset, .unset, .unset, .unset, .unset, .unset, .unset, .unset, .unset, .unset, .unset, .unset, .unset, .unset, .unset, .unset, .unset, .unset, .unset, .unset, .unset, .unset, .unset, .unset, .unset, .unset, .unset, .unset, .unset, .unset, .unset, .unset, .unset, .unset, .unset, .unset, .unset, .unset] := ⟨_, rfl⟩
    refine own_st (fun _ kz => XS.dstore X90.here hx rfl (hb hby at_458) rfl (l' := Ls10) (by show storeLocals Ls9 _ _ = _; rw [hLs9, hLs10]; rfl) kz) ?_
    show own_Win p e below s _ _ _ (T90.setTop (mkF m 460 Ls10 []))
    refine own_st (fun _ kz => XS.iload X90.here hx rfl (v := (2 : Int32)) (hb hby at_460) (by show Ls10[_]? = _; rw [hLs10]; rfl) kz) ?_
    show own_Win p e below s _ _ _ (T90.setTop (mkF m 462 Ls10 [(.int (2 : Int32))]))
    refine own_st (fun _ kz => XS.iconst X90.here hx rfl (hb hby at_462) kz) ?_
    show own_Win p e below s _ _ _ (T90.setTop (mkF m 463 Ls10 [(.int (1 : Int32)), (.int (2 : Int32))]))
    refine own_st (fun _ kz => XS.icmpNo X90.here hx rfl (hb hby at_463) rfl (by decide) kz) ?_
    show own_Win p e below s _ _ _ (T90.setTop (mkF m 466 Ls10 []))
    refine own_st (fun _ kz => XS.aload X90.here hx rfl (v := (.ref a331)) (hb hby at_466) (by show Ls10[_]? = _; rw [hLs10]; rfl) rfl kz) ?_
    show own_Win p e below s _ _ _ (T90.setTop (mkF m 468 Ls10 [(.ref a331)]))
    refine own_st (fun _ kz => XS.iconst X90.here hx rfl (hb hby at_468) kz) ?_
    show own_Win p e below s _ _ _ (T90.setTop (mkF m 469 Ls10 [(.int (2 : Int32)), (.ref a331)]))
    refine own_daload X90 hx hZ e90 F9_Y (i := 2) rfl (by decide) (x := y2) (by rw [hfY]; rfl) rfl rfl (hb hby at_469) ?_
    show own_Win p e below s _ _ _ (T90.setTop (mkF m 470 Ls10 [(.double y2)]))
    refine own_st (fun _ kz => XS.goto X90.here hx rfl (pc0 := 470) (pc' := 474) rfl (hb hby at_470) (by decide) (by decide) kz) ?_
    show own_Win p e below s _ _ _ (T90.setTop (mkF m 474 Ls10 [(.double y2)]))
    obtain ⟨Ls11, hLs11⟩ : ∃ L : Array Slot, L = #[.val (.long p1), .second, .val (.long p2), .second, .val (.long p3), .second, .val (.long p4), .second, .val (.long p5), .second, .val (.int p6), .val (.int (2 : Int32)), .val (.ref am), .val (.ref rg), .val (.ref rb), .val (.ref rc), .val (.ref a331), .val (.double got), .second, .val (.double y0), .second, .val (.double y1), .second, .val (.double y2), .second, .unset, .unset, .unset, .unset, .unset, .unset, .unset, .unset, .unset, .unset, .unset, .unset, .unset, .unset, .unset, .unset, .unset, .unset, .unset, .unset, .unset, .unset, .unset, .unset, .unset, .unset, .unset, .unset, .unset, .unset, .unset, .unset, .unset, .unset, .unset, .unset, .unset, .unset, .unset, .unset, .unset, .unset, .unset, .unset, .unset, .unset, .unset, .unset, .unset, .unset, .unset, .unset, .unset, .unset, .unset, .unset, .unset, .unset, .unset, .unset, .unset, .unset, .unset, .unset] := ⟨_, rfl⟩
    refine own_st (fun _ kz => XS.dstore X90.here hx rfl (hb hby at_474) rfl (l' := Ls11) (by show storeLocals Ls10 _ _ = _; rw [hLs10, hLs11]; rfl) kz) ?_
    show own_Win p e below s _ _ _ (T90.setTop (mkF m 476 Ls11 []))
    refine own_st (fun _ kz => XS.iload X90.here hx rfl (v := (2 : Int32)) (hb hby at_476) (by show Ls11[_]? = _; rw [hLs11]; rfl) kz) ?_
    show own_Win p e below s _ _ _ (T90.setTop (mkF m 478 Ls11 [(.int (2 : Int32))]))
    refine own_st (fun _ kz => XS.iconst X90.here hx rfl (hb hby at_478) kz) ?_
    show own_Win p e below s _ _ _ (T90.setTop (mkF m 479 Ls11 [(.int (1 : Int32)), (.int (2 : Int32))]))
    refine own_st (fun _ kz => XS.icmpNo X90.here hx rfl (hb hby at_479) rfl (by decide) kz) ?_
    show own_Win p e below s _ _ _ (T90.setTop (mkF m 482 Ls11 []))
    refine own_st (fun _ kz => XS.aload X90.here hx rfl (v := (.ref a331)) (hb hby at_482) (by show Ls11[_]? = _; rw [hLs11]; rfl) rfl kz) ?_
    show own_Win p e below s _ _ _ (T90.setTop (mkF m 484 Ls11 [(.ref a331)]))
    refine own_st (fun _ kz => XS.iconst X90.here hx rfl (hb hby at_484) kz) ?_
    show own_Win p e below s _ _ _ (T90.setTop (mkF m 485 Ls11 [(.int (3 : Int32)), (.ref a331)]))
    refine own_daload X90 hx hZ e90 F9_Y (i := 3) rfl (by decide) (x := y3) (by rw [hfY]; rfl) rfl rfl (hb hby at_485) ?_
    show own_Win p e below s _ _ _ (T90.setTop (mkF m 486 Ls11 [(.double y3)]))
    refine own_st (fun _ kz => XS.goto X90.here hx rfl (pc0 := 486) (pc' := 490) rfl (hb hby at_486) (by decide) (by decide) kz) ?_
    show own_Win p e below s _ _ _ (T90.setTop (mkF m 490 Ls11 [(.double y3)]))
    obtain ⟨Ls12, hLs12⟩ : ∃ L : Array Slot, L = #[.val (.long p1), .second, .val (.long p2), .second, .val (.long p3), .second, .val (.long p4), .second, .val (.long p5), .second, .val (.int p6), .val (.int (2 : Int32)), .val (.ref am), .val (.ref rg), .val (.ref rb), .val (.ref rc), .val (.ref a331), .val (.double got), .second, .val (.double y0), .second, .val (.double y1), .second, .val (.double y2), .second, .val (.double y3), .second, .unset, .unset, .unset, .unset, .unset, .unset, .unset, .unset, .unset, .unset, .unset, .unset, .unset, .unset, .unset, .unset, .unset, .unset, .unset, .unset, .unset, .unset, .unset, .unset, .unset, .unset, .unset, .unset, .unset, .unset, .unset, .unset, .unset, .unset, .unset, .unset, .unset, .unset, .unset, .unset, .unset, .unset, .unset, .unset, .unset, .unset, .unset, .unset, .unset, .unset, .unset, .unset, .unset, .unset, .unset, .unset, .unset, .unset, .unset, .unset, .unset, .unset] := ⟨_, rfl⟩
    refine own_st (fun _ kz => XS.dstore X90.here hx rfl (hb hby at_490) rfl (l' := Ls12) (by show storeLocals Ls11 _ _ = _; rw [hLs11, hLs12]; rfl) kz) ?_
    show own_Win p e below s _ _ _ (T90.setTop (mkF m 492 Ls12 []))
    refine own_st (fun _ kz => XS.iload X90.here hx rfl (v := (2 : Int32)) (hb hby at_492) (by show Ls12[_]? = _; rw [hLs12]; rfl) kz) ?_
    show own_Win p e below s _ _ _ (T90.setTop (mkF m 494 Ls12 [(.int (2 : Int32))]))
    refine own_st (fun _ kz => XS.iconst X90.here hx rfl (hb hby at_494) kz) ?_
    show own_Win p e below s _ _ _ (T90.setTop (mkF m 495 Ls12 [(.int (2 : Int32)), (.int (2 : Int32))]))
    refine own_st (fun _ kz => XS.icmpYes X90.here hx rfl (pc0 := 495) (pc' := 505) rfl (hb hby at_495) rfl (by decide) (by decide) (by decide) kz) ?_
    show own_Win p e below s _ _ _ (T90.setTop (mkF m 505 Ls12 []))
    refine own_st (fun _ kz => XS.dconst0 X90.here hx rfl (hb hby at_505) rfl kz) ?_
    show own_Win p e below s _ _ _ (T90.setTop (mkF m 506 Ls12 [(.double (FP.dconst0))]))
    obtain ⟨Ls13, hLs13⟩ : ∃ L : Array Slot, L = #[.val (.long p1), .second, .val (.long p2), .second, .val (.long p3), .second, .val (.long p4), .second, .val (.long p5), .second, .val (.int p6), .val (.int (2 : Int32)), .val (.ref am), .val (.ref rg), .val (.ref rb), .val (.ref rc), .val (.ref a331), .val (.double got), .second, .val (.double y0), .second, .val (.double y1), .second, .val (.double y2), .second, .val (.double y3), .second, .val (.double (FP.dconst0)), .second, .unset, .unset, .unset, .unset, .unset, .unset, .unset, .unset, .unset, .unset, .unset, .unset, .unset, .unset, .unset, .unset, .unset, .unset, .unset, .unset, .unset, .unset, .unset, .unset, .unset, .unset, .unset, .unset, .unset, .unset, .unset, .unset, .unset, .unset, .unset, .unset, .unset, .unset, .unset, .unset, .unset, .unset, .unset, .unset, .unset, .unset, .unset, .unset, .unset, .unset, .unset, .unset, .unset, .unset, .unset, .unset, .unset, .unset, .unset, .unset] := ⟨_, rfl⟩
    refine own_st (fun _ kz => XS.dstore X90.here hx rfl (hb hby at_506) rfl (l' := Ls13) (by show storeLocals Ls12 _ _ = _; rw [hLs12, hLs13]; rfl) kz) ?_
    show own_Win p e below s _ _ _ (T90.setTop (mkF m 508 Ls13 []))
    refine own_st (fun _ kz => XS.iload X90.here hx rfl (v := (2 : Int32)) (hb hby at_508) (by show Ls13[_]? = _; rw [hLs13]; rfl) kz) ?_
    show own_Win p e below s _ _ _ (T90.setTop (mkF m 510 Ls13 [(.int (2 : Int32))]))
    refine own_st (fun _ kz => XS.iconst X90.here hx rfl (hb hby at_510) kz) ?_
    show own_Win p e below s _ _ _ (T90.setTop (mkF m 511 Ls13 [(.int (2 : Int32)), (.int (2 : Int32))]))
    refine own_st (fun _ kz => XS.icmpYes X90.here hx rfl (pc0 := 511) (pc' := 521) rfl (hb hby at_511) rfl (by decide) (by decide) (by decide) kz) ?_
    show own_Win p e below s _ _ _ (T90.setTop (mkF m 521 Ls13 []))
    refine own_st (fun _ kz => XS.dconst0 X90.here hx rfl (hb hby at_521) rfl kz) ?_
    show own_Win p e below s _ _ _ (T90.setTop (mkF m 522 Ls13 [(.double (FP.dconst0))]))
    obtain ⟨Ls14, hLs14⟩ : ∃ L : Array Slot, L = #[.val (.long p1), .second, .val (.long p2), .second, .val (.long p3), .second, .val (.long p4), .second, .val (.long p5), .second, .val (.int p6), .val (.int (2 : Int32)), .val (.ref am), .val (.ref rg), .val (.ref rb), .val (.ref rc), .val (.ref a331), .val (.double got), .second, .val (.double y0), .second, .val (.double y1), .second, .val (.double y2), .second, .val (.double y3), .second, .val (.double (FP.dconst0)), .second, .val (.double (FP.dconst0)), .second, .unset, .unset, .unset, .unset, .unset, .unset, .unset, .unset, .unset, .unset, .unset, .unset, .unset, .unset, .unset, .unset, .unset, .unset, .unset, .unset, .unset, .unset, .unset, .unset, .unset, .unset, .unset, .unset, .unset, .unset, .unset, .unset, .unset, .unset, .unset, .unset, .unset, .unset, .unset, .unset, .unset, .unset, .unset, .unset, .unset, .unset, .unset, .unset, .unset, .unset, .unset, .unset, .unset, .unset, .unset, .unset, .unset, .unset] := ⟨_, rfl⟩
    refine own_st (fun _ kz => XS.dstore X90.here hx rfl (hb hby at_522) rfl (l' := Ls14) (by show storeLocals Ls13 _ _ = _; rw [hLs13, hLs14]; rfl) kz) ?_
    show own_Win p e below s _ _ _ (T90.setTop (mkF m 524 Ls14 []))
    rw [hLs14]
    exact tl T90 _ X90 e90 N90 got y0 y1 y2 y3 (FP.dconst0) (FP.dconst0) _ Y0 Y1 Y2 Y3 0 0 _ dgot ny0 ny1 ny2 ny3 own_z0 own_z0 (by grind)
  ·
    subst q
    refine own_callV X337 hx hZ hown (C := "com/example/mantleray/mantleray/QuadraticModel") (y := yC) (hw _ (List.mem_of_getElem? (i := 39) rfl)) (hw _ (List.mem_of_getElem? (i := 40) rfl)) (hw _ (List.mem_of_getElem? (i := 42) rfl)) (hw _ (List.mem_of_getElem? (i := 41) rfl)) (hw _ (List.mem_of_getElem? (i := 43) rfl)) (hw _ (List.mem_of_getElem? (i := 2) rfl)) (by decide) e337 c_E_h337 (rmC3 l Z a0 hw [] am rg rb rc a331 fG fB fC fY G0 G1 G2 G3 G4 G5 B0 B1 B2 B3 B4 B5 B6 B7 B8 B9 B10 B11 C0 C1 C2 C3 C4 C5 C6 C7 Y0 Y1 Y2 Y3 Y4 Y5 h337 n0 Z337 c_points_h337 c_gradient_h337 c_blocks_h337 c_coupling_h337 F9_G F9_B F9_C F9_Y n9G0 n9G1 n9G2 n9G3 n9G4 n9G5 n9B0 n9B1 n9B2 n9B3 n9B4 n9B5 n9B6 n9B7 n9B8 n9B9 n9B10 n9B11 n9C0 n9C1 n9C2 n9C3 n9C4 n9C5 n9C6 n9C7 n9Y0 n9Y1 n9Y2 n9Y3 n9Y4 n9Y5) (by decide) (W := 0) (by decide) rfl (by rw [hml]; show Ls7.size = _; rw [hLs7]; rfl) (argsL := [.ref a331]) (rest := []) (lenOf pdC rfl) rfl (Nat.le_of_eq rfl) (hb hby at_425) rfl (by decide) (by decide) ?_
    intro T90 v90 L90 X90 hQ90
    obtain ⟨got, rfl, M90, e90, dgot⟩ := hQ90
    have N90 := Fr.app N337 M90
    show own_Win p e below s _ _ _ (T90.setTop (mkF m 428 Ls7 [(.double got)]))
    obtain ⟨Ls8, hLs8⟩ : ∃ L : Array Slot, L = #[.val (.long p1), .second, .val (.long p2), .second, .val (.long p3), .second, .val (.long p4), .second, .val (.long p5), .second, .val (.int p6), .val (.int (3 : Int32)), .val (.ref am), .val (.ref rg), .val (.ref rb), .val (.ref rc), .val (.ref a331), .val (.double got), .second, .unset, .unset, .unset, .unset, .unset, .unset, .unset, .unset, .unset, .unset, .unset, .unset, .unset, .unset, .unset, .unset, .unset, .unset, .unset, .unset, .unset, .unset, .unset, .unset, .unset, .unset, .unset, .unset, .unset, .unset, .unset, .unset, .unset, .unset, .unset, .unset, .unset, .unset, .unset, .unset, .unset, .unset, .unset, .unset, .unset, .unset, .unset, .unset, .unset, .unset, .unset, .unset, .unset, .unset, .unset, .unset, .unset, .unset, .unset, .unset, .unset, .unset, .unset, .unset, .unset, .unset, .unset, .unset, .unset, .unset] := ⟨_, rfl⟩
    refine own_st (fun _ kz => XS.dstore X90.here hx rfl (hb hby at_428) rfl (l' := Ls8) (by show storeLocals Ls7 _ _ = _; rw [hLs7, hLs8]; rfl) kz) ?_
    show own_Win p e below s _ _ _ (T90.setTop (mkF m 430 Ls8 []))
    refine own_st (fun _ kz => XS.iload X90.here hx rfl (v := (3 : Int32)) (hb hby at_430) (by show Ls8[_]? = _; rw [hLs8]; rfl) kz) ?_
    show own_Win p e below s _ _ _ (T90.setTop (mkF m 432 Ls8 [(.int (3 : Int32))]))
    refine own_st (fun _ kz => XS.ifNo X90.here hx rfl (hb hby at_432) rfl (by decide) kz) ?_
    show own_Win p e below s _ _ _ (T90.setTop (mkF m 435 Ls8 []))
    refine own_st (fun _ kz => XS.aload X90.here hx rfl (v := (.ref a331)) (hb hby at_435) (by show Ls8[_]? = _; rw [hLs8]; rfl) rfl kz) ?_
    show own_Win p e below s _ _ _ (T90.setTop (mkF m 437 Ls8 [(.ref a331)]))
    refine own_st (fun _ kz => XS.iconst X90.here hx rfl (hb hby at_437) kz) ?_
    show own_Win p e below s _ _ _ (T90.setTop (mkF m 438 Ls8 [(.int (0 : Int32)), (.ref a331)]))
    refine own_daload X90 hx hZ e90 F9_Y (i := 0) rfl (by decide) (x := y0) (by rw [hfY]; rfl) rfl rfl (hb hby at_438) ?_
    show own_Win p e below s _ _ _ (T90.setTop (mkF m 439 Ls8 [(.double y0)]))
    refine own_st (fun _ kz => XS.goto X90.here hx rfl (pc0 := 439) (pc' := 443) rfl (hb hby at_439) (by decide) (by decide) kz) ?_
    show own_Win p e below s _ _ _ (T90.setTop (mkF m 443 Ls8 [(.double y0)]))
    obtain ⟨Ls9, hLs9⟩ : ∃ L : Array Slot, L = #[.val (.long p1), .second, .val (.long p2), .second, .val (.long p3), .second, .val (.long p4), .second, .val (.long p5), .second, .val (.int p6), .val (.int (3 : Int32)), .val (.ref am), .val (.ref rg), .val (.ref rb), .val (.ref rc), .val (.ref a331), .val (.double got), .second, .val (.double y0), .second, .unset, .unset, .unset, .unset, .unset, .unset, .unset, .unset, .unset, .unset, .unset, .unset, .unset, .unset, .unset, .unset, .unset, .unset, .unset, .unset, .unset, .unset, .unset, .unset, .unset, .unset, .unset, .unset, .unset, .unset, .unset, .unset, .unset, .unset, .unset, .unset, .unset, .unset, .unset, .unset, .unset, .unset, .unset, .unset, .unset, .unset, .unset, .unset, .unset, .unset, .unset, .unset, .unset, .unset, .unset, .unset, .unset, .unset, .unset, .unset, .unset, .unset, .unset, .unset, .unset, .unset, .unset, .unset] := ⟨_, rfl⟩
    refine own_st (fun _ kz => XS.dstore X90.here hx rfl (hb hby at_443) rfl (l' := Ls9) (by show storeLocals Ls8 _ _ = _; rw [hLs8, hLs9]; rfl) kz) ?_
    show own_Win p e below s _ _ _ (T90.setTop (mkF m 445 Ls9 []))
    refine own_st (fun _ kz => XS.iload X90.here hx rfl (v := (3 : Int32)) (hb hby at_445) (by show Ls9[_]? = _; rw [hLs9]; rfl) kz) ?_
    show own_Win p e below s _ _ _ (T90.setTop (mkF m 447 Ls9 [(.int (3 : Int32))]))
    refine own_st (fun _ kz => XS.ifNo X90.here hx rfl (hb hby at_447) rfl (by decide) kz) ?_
    show own_Win p e below s _ _ _ (T90.setTop (mkF m 450 Ls9 []))
    refine own_st (fun _ kz => XS.aload X90.here hx rfl (v := (.ref a331)) (hb hby at_450) (by show Ls9[_]? = _; rw [hLs9]; rfl) rfl kz) ?_
    show own_Win p e below s _ _ _ (T90.setTop (mkF m 452 Ls9 [(.ref a331)]))
    refine own_st (fun _ kz => XS.iconst X90.here hx rfl (hb hby at_452) kz) ?_
    show own_Win p e below s _ _ _ (T90.setTop (mkF m 453 Ls9 [(.int (1 : Int32)), (.ref a331)]))
    refine own_daload X90 hx hZ e90 F9_Y (i := 1) rfl (by decide) (x := y1) (by rw [hfY]; rfl) rfl rfl (hb hby at_453) ?_
    show own_Win p e below s _ _ _ (T90.setTop (mkF m 454 Ls9 [(.double y1)]))
    refine own_st (fun _ kz => XS.goto X90.here hx rfl (pc0 := 454) (pc' := 458) rfl (hb hby at_454) (by decide) (by decide) kz) ?_
    show own_Win p e below s _ _ _ (T90.setTop (mkF m 458 Ls9 [(.double y1)]))
    obtain ⟨Ls10, hLs10⟩ : ∃ L : Array Slot, L = #[.val (.long p1), .second, .val (.long p2), .second, .val (.long p3), .second, .val (.long p4), .second, .val (.long p5), .second, .val (.int p6), .val (.int (3 : Int32)), .val (.ref am), .val (.ref rg), .val (.ref rb), .val (.ref rc), .val (.ref a331), .val (.double got), .second, .val (.double y0), .second, .val (.double y1), .second, .unset, .unset, .unset, .unset, .unset, .unset, .unset, .unset, .unset, .unset, .unset, .unset, .unset, .unset, .unset, .unset, .unset, .unset, .unset, .unset, .unset, .unset, .unset, .unset, .unset, .unset, .unset, .unset, .unset, .unset, .unset, .unset, .unset, .unset, .unset, .unset, .unset, .unset, .unset, .unset, .unset, .unset, .unset, .unset, .unset, .unset, .unset, .unset, .unset, .unset, .unset, .unset, .unset, .unset, .unset, .unset, .unset, .unset, .unset, .unset, .unset, .unset, .unset, .unset, .unset, .unset] := ⟨_, rfl⟩
    refine own_st (fun _ kz => XS.dstore X90.here hx rfl (hb hby at_458) rfl (l' := Ls10) (by show storeLocals Ls9 _ _ = _; rw [hLs9, hLs10]; rfl) kz) ?_
    show own_Win p e below s _ _ _ (T90.setTop (mkF m 460 Ls10 []))
    refine own_st (fun _ kz => XS.iload X90.here hx rfl (v := (3 : Int32)) (hb hby at_460) (by show Ls10[_]? = _; rw [hLs10]; rfl) kz) ?_
    show own_Win p e below s _ _ _ (T90.setTop (mkF m 462 Ls10 [(.int (3 : Int32))]))
    refine own_st (fun _ kz => XS.iconst X90.here hx rfl (hb hby at_462) kz) ?_
    show own_Win p e below s _ _ _ (T90.setTop (mkF m 463 Ls10 [(.int (1 : Int32)), (.int (3 : Int32))]))
    refine own_st (fun _ kz => XS.icmpNo X90.here hx rfl (hb hby at_463) rfl (by decide) kz) ?_
    show own_Win p e below s _ _ _ (T90.setTop (mkF m 466 Ls10 []))
    refine own_st (fun _ kz => XS.aload X90.here hx rfl (v := (.ref a331)) (hb hby at_466) (by show Ls10[_]? = _; rw [hLs10]; rfl) rfl kz) ?_
    show own_Win p e below s _ _ _ (T90.setTop (mkF m 468 Ls10 [(.ref a331)]))
    refine own_st (fun _ kz => XS.iconst X90.here hx rfl (hb hby at_468) kz) ?_
    show own_Win p e below s _ _ _ (T90.setTop (mkF m 469 Ls10 [(.int (2 : Int32)), (.ref a331)]))
    refine own_daload X90 hx hZ e90 F9_Y (i := 2) rfl (by decide) (x := y2) (by rw [hfY]; rfl) rfl rfl (hb hby at_469) ?_
    show own_Win p e below s _ _ _ (T90.setTop (mkF m 470 Ls10 [(.double y2)]))
    refine own_st (fun _ kz => XS.goto X90.here hx rfl (pc0 := 470) (pc' := 474) rfl (hb hby at_470) (by decide) (by decide) kz) ?_
    show own_Win p e below s _ _ _ (T90.setTop (mkF m 474 Ls10 [(.double y2)]))
    obtain ⟨Ls11, hLs11⟩ : ∃ L : Array Slot, L = #[.val (.long p1), .second, .val (.long p2), .second, .val (.long p3), .second, .val (.long p4), .second, .val (.long p5), .second, .val (.int p6), .val (.int (3 : Int32)), .val (.ref am), .val (.ref rg), .val (.ref rb), .val (.ref rc), .val (.ref a331), .val (.double got), .second, .val (.double y0), .second, .val (.double y1), .second, .val (.double y2), .second, .unset, .unset, .unset, .unset, .unset, .unset, .unset, .unset, .unset, .unset, .unset, .unset, .unset, .unset, .unset, .unset, .unset, .unset, .unset, .unset, .unset, .unset, .unset, .unset, .unset, .unset, .unset, .unset, .unset, .unset, .unset, .unset, .unset, .unset, .unset, .unset, .unset, .unset, .unset, .unset, .unset, .unset, .unset, .unset, .unset, .unset, .unset, .unset, .unset, .unset, .unset, .unset, .unset, .unset, .unset, .unset, .unset, .unset, .unset, .unset, .unset, .unset, .unset, .unset] := ⟨_, rfl⟩
    refine own_st (fun _ kz => XS.dstore X90.here hx rfl (hb hby at_474) rfl (l' := Ls11) (by show storeLocals Ls10 _ _ = _; rw [hLs10, hLs11]; rfl) kz) ?_
    show own_Win p e below s _ _ _ (T90.setTop (mkF m 476 Ls11 []))
    refine own_st (fun _ kz => XS.iload X90.here hx rfl (v := (3 : Int32)) (hb hby at_476) (by show Ls11[_]? = _; rw [hLs11]; rfl) kz) ?_
    show own_Win p e below s _ _ _ (T90.setTop (mkF m 478 Ls11 [(.int (3 : Int32))]))
    refine own_st (fun _ kz => XS.iconst X90.here hx rfl (hb hby at_478) kz) ?_
    show own_Win p e below s _ _ _ (T90.setTop (mkF m 479 Ls11 [(.int (1 : Int32)), (.int (3 : Int32))]))
    refine own_st (fun _ kz => XS.icmpNo X90.here hx rfl (hb hby at_479) rfl (by decide) kz) ?_
    show own_Win p e below s _ _ _ (T90.setTop (mkF m 482 Ls11 []))
    refine own_st (fun _ kz => XS.aload X90.here hx rfl (v := (.ref a331)) (hb hby at_482) (by show Ls11[_]? = _; rw [hLs11]; rfl) rfl kz) ?_
    show own_Win p e below s _ _ _ (T90.setTop (mkF m 484 Ls11 [(.ref a331)]))
    refine own_st (fun _ kz => XS.iconst X90.here hx rfl (hb hby at_484) kz) ?_
    show own_Win p e below s _ _ _ (T90.setTop (mkF m 485 Ls11 [(.int (3 : Int32)), (.ref a331)]))
    refine own_daload X90 hx hZ e90 F9_Y (i := 3) rfl (by decide) (x := y3) (by rw [hfY]; rfl) rfl rfl (hb hby at_485) ?_
    show own_Win p e below s _ _ _ (T90.setTop (mkF m 486 Ls11 [(.double y3)]))
    refine own_st (fun _ kz => XS.goto X90.here hx rfl (pc0 := 486) (pc' := 490) rfl (hb hby at_486) (by decide) (by decide) kz) ?_
    show own_Win p e below s _ _ _ (T90.setTop (mkF m 490 Ls11 [(.double y3)]))
    obtain ⟨Ls12, hLs12⟩ : ∃ L : Array Slot, L = #[.val (.long p1), .second, .val (.long p2), .second, .val (.long p3), .second, .val (.long p4), .second, .val (.long p5), .second, .val (.int p6), .val (.int (3 : Int32)), .val (.ref am), .val (.ref rg), .val (.ref rb), .val (.ref rc), .val (.ref a331), .val (.double got), .second, .val (.double y0), .second, .val (.double y1), .second, .val (.double y2), .second, .val (.double y3), .second, .unset, .unset, .unset, .unset, .unset, .unset, .unset, .unset, .unset, .unset, .unset, .unset, .unset, .unset, .unset, .unset, .unset, .unset, .unset, .unset, .unset, .unset, .unset, .unset, .unset, .unset, .unset, .unset, .unset, .unset, .unset, .unset, .unset, .unset, .unset, .unset, .unset, .unset, .unset, .unset, .unset, .unset, .unset, .unset, .unset, .unset, .unset, .unset, .unset, .unset, .unset, .unset, .unset, .unset, .unset, .unset, .unset, .unset, .unset, .unset, .unset, .unset] := ⟨_, rfl⟩
    refine own_st (fun _ kz => XS.dstore X90.here hx rfl (hb hby at_490) rfl (l' := Ls12) (by show storeLocals Ls11 _ _ = _; rw [hLs11, hLs12]; rfl) kz) ?_
    show own_Win p e below s _ _ _ (T90.setTop (mkF m 492 Ls12 []))
    refine own_st (fun _ kz => XS.iload X90.here hx rfl (v := (3 : Int32)) (hb hby at_492) (by show Ls12[_]? = _; rw [hLs12]; rfl) kz) ?_
    show own_Win p e below s _ _ _ (T90.setTop (mkF m 494 Ls12 [(.int (3 : Int32))]))
    refine own_st (fun _ kz => XS.iconst X90.here hx rfl (hb hby at_494) kz) ?_
    show own_Win p e below s _ _ _ (T90.setTop (mkF m 495 Ls12 [(.int (2 : Int32)), (.int (3 : Int32))]))
    refine own_st (fun _ kz => XS.icmpNo X90.here hx rfl (hb hby at_495) rfl (by decide) kz) ?_
    show own_Win p e below s _ _ _ (T90.setTop (mkF m 498 Ls12 []))
    refine own_st (fun _ kz => XS.aload X90.here hx rfl (v := (.ref a331)) (hb hby at_498) (by show Ls12[_]? = _; rw [hLs12]; rfl) rfl kz) ?_
    show own_Win p e below s _ _ _ (T90.setTop (mkF m 500 Ls12 [(.ref a331)]))
    refine own_st (fun _ kz => XS.iconst X90.here hx rfl (hb hby at_500) kz) ?_
    show own_Win p e below s _ _ _ (T90.setTop (mkF m 501 Ls12 [(.int (4 : Int32)), (.ref a331)]))
    refine own_daload X90 hx hZ e90 F9_Y (i := 4) rfl (by decide) (x := y4) (by rw [hfY]; rfl) rfl rfl (hb hby at_501) ?_
    show own_Win p e below s _ _ _ (T90.setTop (mkF m 502 Ls12 [(.double y4)]))
    refine own_st (fun _ kz => XS.goto X90.here hx rfl (pc0 := 502) (pc' := 506) rfl (hb hby at_502) (by decide) (by decide) kz) ?_
    show own_Win p e below s _ _ _ (T90.setTop (mkF m 506 Ls12 [(.double y4)]))
    obtain ⟨Ls13, hLs13⟩ : ∃ L : Array Slot, L = #[.val (.long p1), .second, .val (.long p2), .second, .val (.long p3), .second, .val (.long p4), .second, .val (.long p5), .second, .val (.int p6), .val (.int (3 : Int32)), .val (.ref am), .val (.ref rg), .val (.ref rb), .val (.ref rc), .val (.ref a331), .val (.double got), .second, .val (.double y0), .second, .val (.double y1), .second, .val (.double y2), .second, .val (.double y3), .second, .val (.double y4), .second, .unset, .unset, .unset, .unset, .unset, .unset, .unset, .unset, .unset, .unset, .unset, .unset, .unset, .unset, .unset, .unset, .unset, .unset, .unset, .unset, .unset, .unset, .unset, .unset, .unset, .unset, .unset, .unset, .unset, .unset, .unset, .unset, .unset, .unset, .unset, .unset, .unset, .unset, .unset, .unset, .unset, .unset, .unset, .unset, .unset, .unset, .unset, .unset, .unset, .unset, .unset, .unset, .unset, .unset, .unset, .unset, .unset, .unset, .unset, .unset] := ⟨_, rfl⟩
    refine own_st (fun _ kz => XS.dstore X90.here hx rfl (hb hby at_506) rfl (l' := Ls13) (by show storeLocals Ls12 _ _ = _; rw [hLs12, hLs13]; rfl) kz) ?_
    show own_Win p e below s _ _ _ (T90.setTop (mkF m 508 Ls13 []))
    refine own_st (fun _ kz => XS.iload X90.here hx rfl (v := (3 : Int32)) (hb hby at_508) (by show Ls13[_]? = _; rw [hLs13]; rfl) kz) ?_
    show own_Win p e below s _ _ _ (T90.setTop (mkF m 510 Ls13 [(.int (3 : Int32))]))
    refine own_st (fun _ kz => XS.iconst X90.here hx rfl (hb hby at_510) kz) ?_
    show own_Win p e below s _ _ _ (T90.setTop (mkF m 511 Ls13 [(.int (2 : Int32)), (.int (3 : Int32))]))
    refine own_st (fun _ kz => XS.icmpNo X90.here hx rfl (hb hby at_511) rfl (by decide) kz) ?_
    show own_Win p e below s _ _ _ (T90.setTop (mkF m 514 Ls13 []))
    refine own_st (fun _ kz => XS.aload X90.here hx rfl (v := (.ref a331)) (hb hby at_514) (by show Ls13[_]? = _; rw [hLs13]; rfl) rfl kz) ?_
    show own_Win p e below s _ _ _ (T90.setTop (mkF m 516 Ls13 [(.ref a331)]))
    refine own_st (fun _ kz => XS.iconst X90.here hx rfl (hb hby at_516) kz) ?_
    show own_Win p e below s _ _ _ (T90.setTop (mkF m 517 Ls13 [(.int (5 : Int32)), (.ref a331)]))
    refine own_daload X90 hx hZ e90 F9_Y (i := 5) rfl (by decide) (x := y5) (by rw [hfY]; rfl) rfl rfl (hb hby at_517) ?_
    show own_Win p e below s _ _ _ (T90.setTop (mkF m 518 Ls13 [(.double y5)]))
    refine own_st (fun _ kz => XS.goto X90.here hx rfl (pc0 := 518) (pc' := 522) rfl (hb hby at_518) (by decide) (by decide) kz) ?_
    show own_Win p e below s _ _ _ (T90.setTop (mkF m 522 Ls13 [(.double y5)]))
    obtain ⟨Ls14, hLs14⟩ : ∃ L : Array Slot, L = #[.val (.long p1), .second, .val (.long p2), .second, .val (.long p3), .second, .val (.long p4), .second, .val (.long p5), .second, .val (.int p6), .val (.int (3 : Int32)), .val (.ref am), .val (.ref rg), .val (.ref rb), .val (.ref rc), .val (.ref a331), .val (.double got), .second, .val (.double y0), .second, .val (.double y1), .second, .val (.double y2), .second, .val (.double y3), .second, .val (.double y4), .second, .val (.double y5), .second, .unset, .unset, .unset, .unset, .unset, .unset, .unset, .unset, .unset, .unset, .unset, .unset, .unset, .unset, .unset, .unset, .unset, .unset, .unset, .unset, .unset, .unset, .unset, .unset, .unset, .unset, .unset, .unset, .unset, .unset, .unset, .unset, .unset, .unset, .unset, .unset, .unset, .unset, .unset, .unset, .unset, .unset, .unset, .unset, .unset, .unset, .unset, .unset, .unset, .unset, .unset, .unset, .unset, .unset, .unset, .unset, .unset, .unset] := ⟨_, rfl⟩
    refine own_st (fun _ kz => XS.dstore X90.here hx rfl (hb hby at_522) rfl (l' := Ls14) (by show storeLocals Ls13 _ _ = _; rw [hLs13, hLs14]; rfl) kz) ?_
    show own_Win p e below s _ _ _ (T90.setTop (mkF m 524 Ls14 []))
    rw [hLs14]
    exact tl T90 _ X90 e90 N90 got y0 y1 y2 y3 y4 y5 _ Y0 Y1 Y2 Y3 Y4 Y5 _ dgot ny0 ny1 ny2 ny3 ny4 ny5 (by grind)
set_option maxRecDepth 65536 in
set_option maxHeartbeats 40000000 in
theorem comes_1 {Post : Tables → Env → Array Value → State → Outcome → State → Prop} (hpost : ∀ tb e args s v u, (limb_1_1.after args s (.returned v) u = true ∧ limb_1_2.after args s (.returned v) u = true ∧ True) → FrameEnd s (.returned v) u (Jvm.fieldLocs frame_1_writes args s ++ Jvm.arrayLocs frame_1_arrays args s ++ Jvm.staticLocs frame_1_statics s) 40 256 → Post tb e args s (.returned v) u) :
    ArmFor flags0 classFile x code maxLocals ret World_1 tables_1 room_1 Calls_1 rest_1 Pre_1 Post := by
  intro l hfl _ _ p e ha hc hk s m args below hf hA hF happ hP
  obtain ⟨hcalls, hrest, hpre⟩ := hP
  obtain ⟨-, -, -, hnamed, -, -, -, hat⟩ := (Spec.applies_iff hf).mp happ
  obtain ⟨hg, hn⟩ := and_e (Cond.before_iff.mp (show (Jvm.Cond.and given_1 narrow_1).before args s = true from hpre))
  obtain ⟨h1, g1⟩ := and_e hg
  obtain ⟨k1, g2⟩ := and_e g1
  obtain ⟨k2, g3⟩ := and_e g2
  obtain ⟨k3, g4⟩ := and_e g3
  obtain ⟨k4, g5⟩ := and_e g4
  obtain ⟨k5, g6⟩ := and_e g5
  obtain ⟨w0, w1, w2, w3, w4, w5, rfl⟩ : ∃ w0 w1 w2 w3 w4 w5 : Value, args = #[w0, w1, w2, w3, w4, w5] := by
    have hs : args.size = 6 := by simpa [Cond.value, given_1] using h1
    obtain ⟨L⟩ := args
    match L, hs with
    | [w0, w1, w2, w3, w4, w5], _ => exact ⟨w0, w1, w2, w3, w4, w5, rfl⟩
  have hw := fun d (hd : d ∈ tables_1) => atoms_spec (ws := Jvm.Cond.code x code maxLocals ret :: tables_1) hat d (List.mem_cons_of_mem _ hd)
  obtain ⟨i0, e0⟩ := isL_v k1
  obtain rfl : w0 = (.long i0) := Option.some.inj e0
  obtain ⟨i1, e1⟩ := isL_v k2
  obtain rfl : w1 = (.long i1) := Option.some.inj e1
  obtain ⟨i2, e2⟩ := isL_v k3
  obtain rfl : w2 = (.long i2) := Option.some.inj e2
  obtain ⟨i3, e3⟩ := isL_v k4
  obtain rfl : w3 = (.long i3) := Option.some.inj e3
  obtain ⟨i4, e4⟩ := isL_v k5
  obtain rfl : w4 = (.long i4) := Option.some.inj e4
  obtain ⟨i5, e5⟩ := is_v g6
  obtain rfl : w5 = (.int i5) := Option.some.inj e5
  obtain ⟨n, o, h1, h2, h3, _, L, rfl, ⟨rfl, N⟩, hq⟩ := rm0 l s _ hw tables_1 i0 i1 i2 i3 i4 i5 s.heap s.heap.size (Nat.le_refl _) p e ha hc hk s m _ below hf ((Spec.applies_iff_loose hf).mp happ).1 ⟨rfl, State.Warmed39.refl s, rfl⟩ trivial
  refine ⟨n, _, h1, h2, h3, hpost _ _ _ _ _ _ ⟨Cond.after_iff.mpr rfl, Cond.after_iff.mpr (eq_i res_at (Term.int_eval (1)) rfl), trivial⟩ ⟨hq.1, hq.2.1, (hq.2.2.sift fun y hy => Or.inr (N y hy)).mono (by decide) (by decide)⟩⟩
theorem main_1_1 : Claimed_1_1 := comes_1 fun _ _ _ _ _ _ h hF => ⟨h.1, hF⟩
theorem main_1_2 : Claimed_1_2 := comes_1 fun _ _ _ _ _ _ h hF => ⟨h.2.1, hF⟩
end Jvm.Pilot.@@N@@
namespace Jvm.Pilot.@@N@@
open Jvm Jvm.ClassFile Sem Op Lib Jvm.Free Jvm.Stand Jvm.Pilot.@@N@@.Jvm.D
/-! MADE BY PROGRAM (witnessworld.py) out of the Statement's table words and the real class files: 9 classes; the members and pool entries that the words name. The judged class is class 1, her method 2. -/
namespace start1
open Jvm.ClassFile
def u (s : String) : CpInfo := .utf8 (stringToUtf16 s)
/-- a pool by its gaps: so many unusable entries, then the entry; so many at the end -/
def gap : Nat → List CpInfo → List CpInfo
  | 0, r => r
  | n + 1, r => .unusable :: gap n r
def poolList (es : List (Nat × CpInfo)) (last : Nat) : List CpInfo := es.foldr (fun e r => gap e.1 (e.2 :: r)) (gap last [])
def pool (es : List (Nat × CpInfo)) (last : Nat) : Array CpInfo := ⟨poolList es last⟩
def fileOf (pool : Array CpInfo) (this : Nat) (attrs : Array Attribute := #[]) (ms : Array MethodInfo := #[]) (fl : Nat := 33) (sup : Nat := 0) (ifs : Array Nat := #[]) (fds : Array FieldInfo := #[]) : ClassFile where
  minorVersion := 0
  majorVersion := 65
  constantPool := pool
  accessFlags := fl
  thisClass := this
  superClass := sup
  interfaces := ifs
  fields := fds
  methods := ms
  attributes := attrs
def plain (name : String) (sup : Option ClassId) : Class where
  name := name
  kind := .ordinary
  loader := none
  accessFlags := 33
  super := sup
  interfaces := #[]
  cf := none
  fields := #[]
  methods := #[]
  instanceTypes := #[]
  staticTypes := #[]
  resolved := #[]
  callSites := []
  init := .initialized
  statics := none
  mirror := none

def pool0 : Array CpInfo := pool [(5, u "<init>"), (0, u "()V"), (1, .class_ 10), (1, u "java/lang/Object")] 113

def k0c0 : Code := { maxStack := 0, maxLocals := 1, code := object_method_1_code, exceptionTable := #[], attributes := #[] }
def k0m0 : Method := { name := "<init>", desc := "()V", sig := { parameters := [], returnType := none }, accessFlags := 1, code := some k0c0 }
/-- java/lang/Object -/
def k0 : Class := { plain "java/lang/Object" none with
  accessFlags := 33
  interfaces := #[]
  cf := some (fileOf pool0 8 #[] #[{ accessFlags := 1, nameIndex := 5, descriptorIndex := 6, attributes := #[] }] 33 0 #[] #[])
  fields := #[]
  methods := #[k0m0]
  instanceTypes := #[]
  staticTypes := #[]
  resolved := Array.replicate 124 none
  statics := none }

def pool1 : Array CpInfo := pool [(2, .class_ 4), (0, .nameAndType 5 6), (0, u "java/lang/Object"), (0, u "<init>"), (0, u "()V"), (0, .class_ 8), (0, u "com/example/mantleray/mantleray/QuadraticModel"), (0, .methodref 7 3), (0, .methodref 7 11), (0, .nameAndType 12 13), (0, u "resize"), (0, u "(I)V"), (0, .fieldref 7 15), (0, .nameAndType 16 17), (0, u "gradient"), (0, u "[D"), (0, .fieldref 7 19), (0, .nameAndType 20 17), (0, u "blocks"), (0, .fieldref 7 22), (0, .nameAndType 23 17), (0, u "coupling"), (0, .methodref 25 26), (0, .class_ 27), (0, .nameAndType 28 29), (0, u "com/example/mantleray/mantleray/QuadraticModelChangePinLaw"), (0, u "v"), (0, u "(JI)D"), (0, .methodref 7 31), (0, .nameAndType 32 33), (0, u "change"), (0, u "([D)D"), (0, .double 4611686018427387904), (3, u "law"), (0, u "(JJJJJI)Z")] 4

def k1m0 : Method := { name := "<init>", desc := "()V", sig := { parameters := [], returnType := none }, accessFlags := 1, code := none }
def k1c1 : Code := { maxStack := 4, maxLocals := 3, code := method_2_code, exceptionTable := #[], attributes := #[] }
def k1m1 : Method := { name := "v", desc := "(JI)D", sig := { parameters := [.long, .int], returnType := some .double }, accessFlags := 10, code := some k1c1 }
def k1c2 : Code := { maxStack := 6, maxLocals := 89, code := code, exceptionTable := #[], attributes := #[] }
def k1m2 : Method := { name := "law", desc := "(JJJJJI)Z", sig := { parameters := [.long, .long, .long, .long, .long, .int], returnType := some .boolean }, accessFlags := 9, code := some k1c2 }
/-- com/example/mantleray/mantleray/QuadraticModelChangePinLaw -/
def k1 : Class := { plain "com/example/mantleray/mantleray/QuadraticModelChangePinLaw" (some 0) with
  accessFlags := 49
  interfaces := #[]
  cf := some (fileOf pool1 25 #[] #[{ accessFlags := 1, nameIndex := 5, descriptorIndex := 6, attributes := #[] }, { accessFlags := 10, nameIndex := 28, descriptorIndex := 29, attributes := #[] }, { accessFlags := 9, nameIndex := 38, descriptorIndex := 39, attributes := #[] }] 49 2 #[] #[])
  fields := #[]
  methods := #[k1m0, k1m1, k1m2]
  instanceTypes := #[]
  staticTypes := #[]
  resolved := Array.replicate 44 none
  statics := none }

def pool2 : Array CpInfo := pool [(1, .class_ 2), (0, u "com/example/mantleray/mantleray/QuadraticModel"), (0, .methodref 4 5), (0, .class_ 6), (0, .nameAndType 7 8), (0, u "java/lang/Object"), (0, u "<init>"), (0, u "()V"), (0, .methodref 1 10), (0, .nameAndType 11 12), (0, u "resize"), (0, u "(I)V"), (0, .fieldref 1 14), (0, .nameAndType 15 16), (0, u "points"), (0, u "I"), (0, .fieldref 1 18), (0, .nameAndType 19 20), (0, u "gradient"), (0, u "[D"), (0, .fieldref 1 22), (0, .nameAndType 23 20), (0, u "blocks"), (0, .fieldref 1 25), (0, .nameAndType 26 20), (0, u "coupling"), (0, .fieldref 1 28), (0, .nameAndType 29 20), (0, u "inverses"), (0, .fieldref 1 31), (0, .nameAndType 32 20), (0, u "best"), (0, .fieldref 1 34), (0, .nameAndType 35 20), (0, u "candidate"), (0, .fieldref 1 37), (0, .nameAndType 38 20), (0, u "solution"), (0, .double 4611686018427387904), (3, u "least"), (0, u "Z"), (15, u "([D)D"), (31, u "NEAR_REACH"), (0, u "D"), (1, u "AIM"), (0, u "SEARCHES"), (4, u "change")] 7

def k2c0 : Code := { maxStack := 2, maxLocals := 1, code := prog_42_method_1_code, exceptionTable := #[], attributes := #[] }
def k2m0 : Method := { name := "<init>", desc := "()V", sig := { parameters := [], returnType := none }, accessFlags := 0, code := some k2c0 }
def k2c1 : Code := { maxStack := 3, maxLocals := 2, code := prog_42_method_2_code, exceptionTable := #[], attributes := #[] }
def k2m1 : Method := { name := "resize", desc := "(I)V", sig := { parameters := [.int], returnType := none }, accessFlags := 0, code := some k2c1 }
def k2c2 : Code := { maxStack := 12, maxLocals := 14, code := prog_42_method_3_code, exceptionTable := #[], attributes := #[] }
def k2m2 : Method := { name := "change", desc := "([D)D", sig := { parameters := [(.array .double)], returnType := some .double }, accessFlags := 0, code := some k2c2 }
/-- com/example/mantleray/mantleray/QuadraticModel -/
def k2 : Class := { plain "com/example/mantleray/mantleray/QuadraticModel" (some 0) with
  accessFlags := 48
  interfaces := #[]
  cf := some (fileOf pool2 1 #[] #[{ accessFlags := 0, nameIndex := 7, descriptorIndex := 8, attributes := #[] }, { accessFlags := 0, nameIndex := 11, descriptorIndex := 12, attributes := #[] }, { accessFlags := 0, nameIndex := 101, descriptorIndex := 60, attributes := #[] }] 48 4 #[] #[{ accessFlags := 26, nameIndex := 92, descriptorIndex := 93, attributes := #[] }, { accessFlags := 26, nameIndex := 95, descriptorIndex := 93, attributes := #[] }, { accessFlags := 26, nameIndex := 96, descriptorIndex := 16, attributes := #[] }, { accessFlags := 0, nameIndex := 19, descriptorIndex := 20, attributes := #[] }, { accessFlags := 0, nameIndex := 23, descriptorIndex := 20, attributes := #[] }, { accessFlags := 0, nameIndex := 26, descriptorIndex := 20, attributes := #[] }, { accessFlags := 2, nameIndex := 15, descriptorIndex := 16, attributes := #[] }, { accessFlags := 2, nameIndex := 43, descriptorIndex := 44, attributes := #[] }, { accessFlags := 2, nameIndex := 29, descriptorIndex := 20, attributes := #[] }, { accessFlags := 2, nameIndex := 32, descriptorIndex := 20, attributes := #[] }, { accessFlags := 2, nameIndex := 35, descriptorIndex := 20, attributes := #[] }, { accessFlags := 2, nameIndex := 38, descriptorIndex := 20, attributes := #[] }])
  fields := #[{ name := "NEAR_REACH", type := .double, accessFlags := 26, slot := 0, constantValue := 0 }, { name := "AIM", type := .double, accessFlags := 26, slot := 1, constantValue := 0 }, { name := "SEARCHES", type := .int, accessFlags := 26, slot := 2, constantValue := 0 }, { name := "gradient", type := (.array .double), accessFlags := 0, slot := 0, constantValue := 0 }, { name := "blocks", type := (.array .double), accessFlags := 0, slot := 1, constantValue := 0 }, { name := "coupling", type := (.array .double), accessFlags := 0, slot := 2, constantValue := 0 }, { name := "points", type := .int, accessFlags := 2, slot := 3, constantValue := 0 }, { name := "least", type := .boolean, accessFlags := 2, slot := 4, constantValue := 0 }, { name := "inverses", type := (.array .double), accessFlags := 2, slot := 5, constantValue := 0 }, { name := "best", type := (.array .double), accessFlags := 2, slot := 6, constantValue := 0 }, { name := "candidate", type := (.array .double), accessFlags := 2, slot := 7, constantValue := 0 }, { name := "solution", type := (.array .double), accessFlags := 2, slot := 8, constantValue := 0 }]
  methods := #[k2m0, k2m1, k2m2]
  instanceTypes := #[(.array .double), (.array .double), (.array .double), .int, .boolean, (.array .double), (.array .double), (.array .double), (.array .double)]
  staticTypes := #[.double, .double, .int]
  resolved := Array.replicate 109 none
  statics := none }

def pool3 : Array CpInfo := pool [(1, u "java/lang/Cloneable"), (0, .class_ 1), (0, u "java/lang/Object"), (0, .class_ 3)] 3

/-- java/lang/Cloneable -/
def k3 : Class := { plain "java/lang/Cloneable" (some 0) with
  accessFlags := 1537
  interfaces := #[]
  cf := some (fileOf pool3 2 #[] #[] 1537 4 #[] #[])
  fields := #[]
  methods := #[]
  instanceTypes := #[]
  staticTypes := #[]
  resolved := Array.replicate 8 none
  statics := none }

def pool4 : Array CpInfo := pool [(1, u "java/io/Serializable"), (0, .class_ 1), (0, u "java/lang/Object"), (0, .class_ 3)] 3

/-- java/io/Serializable -/
def k4 : Class := { plain "java/io/Serializable" (some 0) with
  accessFlags := 1537
  interfaces := #[]
  cf := some (fileOf pool4 2 #[] #[] 1537 4 #[] #[])
  fields := #[]
  methods := #[]
  instanceTypes := #[]
  staticTypes := #[]
  resolved := Array.replicate 8 none
  statics := none }

/-- the primitive byte -/
def k5 : Class := { plain "byte" none with kind := .primitive 'B', accessFlags := 0x411 }
/-- [B -/
def k6 : Class := { plain "[B" (some 0) with kind := .array 5 .byte, interfaces := #[3, 4], accessFlags := 1041 }

/-- the primitive double -/
def k7 : Class := { plain "double" none with kind := .primitive 'D', accessFlags := 0x411 }
/-- [D -/
def k8 : Class := { plain "[D" (some 0) with kind := .array 7 .double, interfaces := #[3, 4], accessFlags := 1041 }

def heap : Heap := #[]
def classes : Array Class := #[k0, k1, k2, k3, k4, k5, k6, k7, k8]
def interned : List (Array UInt16 × Addr) := []
def slotsUsed : Nat := 0
def theMethod : MethodId := ⟨1, 2⟩
def args0 : Array Value := #[.long 1, .long 2, .long 3, .long 4, .long 5, .int 5]
def aboutOver (below : List Frame) : State where
  vm := { classes := classes, interned := interned.toArray }
  heap := heap
  slotsUsed := slotsUsed
  threads := #[{ frames := .invoking theMethod args0 :: below }]
def below0 : List Frame := [.native { method := ⟨0, 0⟩, args := #[] }]
def about1 : State := aboutOver below0
def p0 : Program := .bare "" "" ""
def e0 : Env := launch0.env 0 0 0
theorem w_frames : about1.frames = Frame.invoking theMethod args0 :: below0 := rfl
set_option maxRecDepth 65536 in
theorem w_args : argsFit about1.vm theMethod args0 = true := by decide +kernel
set_option maxRecDepth 65536 in
theorem w_heap : heapFits about1 = true := by decide +kernel
set_option maxRecDepth 65536 in
theorem w_runnable : about1.curStatus? = some .runnable := by decide +kernel
set_option maxRecDepth 65536 in
theorem w_alone : about1.alone = true := by decide +kernel
set_option maxRecDepth 65536 in
theorem w_named : about1.methodNamed? x = some theMethod := by decide +kernel
set_option maxRecDepth 65536 in
theorem w_hears : about1.hears theMethod below0 = true := by decide +kernel
set_option maxRecDepth 65536 in
theorem w_ripe : about1.ripe theMethod args0 below0 = true := by decide +kernel
theorem w_running : about1.status = .running := rfl
set_option maxRecDepth 65536 in
theorem w_room : about1.hasRoom e0.platform room_1 = true :=
  launch0.hasRoom_least _ room_1 (by decide +kernel) (by decide +kernel) (by decide +kernel) (by decide +kernel) (by decide +kernel) (by decide +kernel)
theorem allAtoms_all (ts : List Jvm.Cond) (a : Array Jvm.Value) (st : Jvm.State) : (allAtoms ts).before a st = ts.all (fun c => c.before a st) := by
  induction ts with
  | nil => rfl
  | cons c t ih =>
    show (Jvm.Cond.and c (allAtoms t)).before a st = _
    rw [Jvm.Cond.before_and, ih, List.all_cons]
def words1 : List Jvm.Cond := Jvm.Cond.code x code maxLocals ret :: tables_1
/-- a 'code' word, met by the world's own term for the bytes: nothing is compared byte by byte -/
theorem code_word {y : MethodName} {bytes : ByteArray} {mx : Nat} {rt : Option FieldType} {a : Array Value} {s : State} {m : MethodId} {meth : Method} {c : Code} (h1 : s.methodNamed? y = some m) (h2 : s.vm.method? m = some meth) (h3 : meth.code = some c) (h4 : c.code = bytes)
    (h5 : (c.maxLocals == mx && c.exceptionTable.isEmpty && decide (c.maxStack ≤ mostOperands) && decide (meth.sig.returnType = rt) && !meth.locks && decide (parseMethodDescriptor y.desc = some meth.sig)) = true) : (Jvm.Cond.code y bytes mx rt).before a s = true := by
  simp only [Bool.and_eq_true, beq_iff_eq, Bool.not_eq_true', decide_eq_true_eq] at h5
  obtain ⟨⟨⟨⟨⟨g1, g2⟩, g3⟩, g4⟩, g5⟩, g6⟩ := h5
  simp [Cond.before, Cond.holds, Cond.value, h1, h2, h3, h4, g1, g2, g3, g4, g5, g6]
def isCode : Jvm.Cond → Bool
  | .code _ _ _ _ => true
  | _ => false
theorem all_split {L : List Jvm.Cond} {P : Jvm.Cond → Bool} (h1 : L.all (fun c => isCode c || P c) = true) (h2 : ∀ c ∈ L.filter isCode, P c = true) : L.all P = true := by
  refine List.all_eq_true.mpr fun c hc => ?_
  have h := List.all_eq_true.mp h1 c hc
  rcases Bool.eq_false_or_eq_true (isCode c) with hi | hi
  · exact h2 c (List.mem_filter.mpr ⟨hc, hi⟩)
  · simpa [hi] using h
set_option maxRecDepth 65536 in
theorem w_c0 : (Jvm.Cond.code x code maxLocals ret).before args0 about1 = true := code_word (m := ⟨1, 2⟩) (meth := k1m2) (c := k1c2) (by decide +kernel) rfl rfl rfl (by decide +kernel)
set_option maxRecDepth 65536 in
theorem w_c1 : (Jvm.Cond.code ({ cls := "com/example/mantleray/mantleray/QuadraticModel", name := "<init>", desc := "()V" } : Jvm.MethodName) prog_42_method_1_code (1 : Nat) (Option.none : Option Jvm.ClassFile.FieldType)).before args0 about1 = true := code_word (m := ⟨2, 0⟩) (meth := k2m0) (c := k2c0) (by decide +kernel) rfl rfl rfl (by decide +kernel)
set_option maxRecDepth 65536 in
theorem w_c2 : (Jvm.Cond.code ({ cls := "java/lang/Object", name := "<init>", desc := "()V" } : Jvm.MethodName) object_method_1_code (1 : Nat) (Option.none : Option Jvm.ClassFile.FieldType)).before args0 about1 = true := code_word (m := ⟨0, 0⟩) (meth := k0m0) (c := k0c0) (by decide +kernel) rfl rfl rfl (by decide +kernel)
set_option maxRecDepth 65536 in
theorem w_c3 : (Jvm.Cond.code ({ cls := "com/example/mantleray/mantleray/QuadraticModel", name := "resize", desc := "(I)V" } : Jvm.MethodName) prog_42_method_2_code (2 : Nat) (Option.none : Option Jvm.ClassFile.FieldType)).before args0 about1 = true := code_word (m := ⟨2, 1⟩) (meth := k2m1) (c := k2c1) (by decide +kernel) rfl rfl rfl (by decide +kernel)
set_option maxRecDepth 65536 in
theorem w_c4 : (Jvm.Cond.code ({ cls := "com/example/mantleray/mantleray/QuadraticModelChangePinLaw", name := "v", desc := "(JI)D" } : Jvm.MethodName) method_2_code (3 : Nat) (Option.some Jvm.ClassFile.FieldType.double)).before args0 about1 = true := code_word (m := ⟨1, 1⟩) (meth := k1m1) (c := k1c1) (by decide +kernel) rfl rfl rfl (by decide +kernel)
set_option maxRecDepth 65536 in
theorem w_c5 : (Jvm.Cond.code ({ cls := "com/example/mantleray/mantleray/QuadraticModel", name := "change", desc := "([D)D" } : Jvm.MethodName) prog_42_method_3_code (14 : Nat) (Option.some Jvm.ClassFile.FieldType.double)).before args0 about1 = true := code_word (m := ⟨2, 2⟩) (meth := k2m2) (c := k2c2) (by decide +kernel) rfl rfl rfl (by decide +kernel)
def codes1 : List Jvm.Cond := [Jvm.Cond.code x code maxLocals ret, Jvm.Cond.code ({ cls := "com/example/mantleray/mantleray/QuadraticModel", name := "<init>", desc := "()V" } : Jvm.MethodName) prog_42_method_1_code (1 : Nat) (Option.none : Option Jvm.ClassFile.FieldType), Jvm.Cond.code ({ cls := "java/lang/Object", name := "<init>", desc := "()V" } : Jvm.MethodName) object_method_1_code (1 : Nat) (Option.none : Option Jvm.ClassFile.FieldType), Jvm.Cond.code ({ cls := "com/example/mantleray/mantleray/QuadraticModel", name := "resize", desc := "(I)V" } : Jvm.MethodName) prog_42_method_2_code (2 : Nat) (Option.none : Option Jvm.ClassFile.FieldType), Jvm.Cond.code ({ cls := "com/example/mantleray/mantleray/QuadraticModelChangePinLaw", name := "v", desc := "(JI)D" } : Jvm.MethodName) method_2_code (3 : Nat) (Option.some Jvm.ClassFile.FieldType.double), Jvm.Cond.code ({ cls := "com/example/mantleray/mantleray/QuadraticModel", name := "change", desc := "([D)D" } : Jvm.MethodName) prog_42_method_3_code (14 : Nat) (Option.some Jvm.ClassFile.FieldType.double)]
set_option maxRecDepth 65536 in
theorem codes_eq : words1.filter isCode = codes1 := rfl
theorem w_codes : ∀ c ∈ words1.filter isCode, c.before args0 about1 = true := by
  rw [codes_eq]
  intro c hc
  simp only [codes1, List.mem_cons, List.not_mem_nil, or_false] at hc
  rcases hc with rfl | rfl | rfl | rfl | rfl | rfl
  · exact w_c0
  · exact w_c1
  · exact w_c2
  · exact w_c3
  · exact w_c4
  · exact w_c5
set_option maxRecDepth 65536 in
theorem w_t1 : (words1.take 24).all (fun c => isCode c || c.before args0 about1) = true := by decide +kernel
set_option maxRecDepth 65536 in
theorem w_t2 : (words1.drop 24).all (fun c => isCode c || c.before args0 about1) = true := by decide +kernel
theorem w_tables : (allAtoms (Jvm.Cond.code x code maxLocals ret :: tables_1)).before args0 about1 = true := by
  rw [allAtoms_all]
  show words1.all (fun c => c.before args0 about1) = true
  refine all_split ?_ w_codes
  rw [← List.take_append_drop 24 words1, List.all_append, w_t1, w_t2]
  rfl
set_option maxRecDepth 65536 in
theorem w_case : (Jvm.Cond.and given_1 narrow_1).before args0 about1 = true := by decide +kernel
theorem w_applies : (headSpec (Jvm.Cond.code x code maxLocals ret :: tables_1) room_1).applies x e0.platform about1 = true :=
  (Spec.applies_iff w_frames).mpr ⟨w_running, w_runnable, w_alone, w_named, w_hears, w_ripe, w_room, w_tables⟩
theorem atStart : AtStart classFile x code maxLocals ret World_1 tables_1 room_1 Calls_1 rest_1 Pre_1 launch0 p0 e0 about1 theMethod args0 below0 :=
  ⟨lists_1, trivial, launch0.admits_env _ _ _, launch0.least_env, fairChoices_fair.cas, fairChoices_fair.clock, w_frames, w_args, w_heap, w_applies, trivial, trivial, w_case⟩
end start1
theorem witness_1 : WitnessClaimed_1 := ⟨start1.p0, start1.e0, start1.about1, start1.theMethod, start1.args0, start1.below0, start1.atStart⟩
end Jvm.Pilot.@@N@@
