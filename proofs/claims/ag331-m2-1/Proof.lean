import JvmDerived
import JvmDerived.Pilot.@@N@@Statement
import JvmDerived.Pilot.@@N@@Code
set_option linter.unusedVariables false
set_option linter.unusedSimpArgs false

namespace Jvm.RoadKit
open Sem ClassFile Op Lib Jvm.Stand Jvm.Free Jvm.LawKit
section Own
variable {p : Program} {l : Launch} {e : Env} {R : Room} {s : State} {m : MethodId} {args : Array Value} {below : List Frame} {meth : Method} {c : Code} {T : State} {locs : List Loc} {cells slots : Nat} {Z : State} {a0 : Array Value} {h h' : Heap} {Q : Option Value → Heap → List Loc → Prop} {kc ks : Nat}
/-- the body comes back from S, with what Q says -/
def own_Win (p : Program) (e : Env) (below : List Frame) (s : State) (Q : Option Value → Heap → List Loc → Prop) (kc ks : Nat) (S : State) : Prop :=
  ∃ U o, Steps p.tables e below S U ∧ U.status = .running ∧ Ended U below o ∧ ∃ v L, o = .returned v ∧ Q v U.heap L ∧ FrameEnd s o U L kc ks
theorem own_st {S S' : State} (st : ∀ t, Steps p.tables e below S' t → Steps p.tables e below S t) (w : own_Win p e below s Q kc ks S') : own_Win p e below s Q kc ks S := by
  obtain ⟨U, o, h1, h2⟩ := w
  exact ⟨U, o, st U h1, h2⟩
theorem own_ret (X : Stand p l e R s m args below meth c T locs cells slots) (hx : p.tables.exec = Jvm.exec) (hlk : meth.locks = false) {pc : Nat} {Ls : Array Slot} {w : Value} {t : FieldType} {i : Instr} {rest : List Value} (hret : meth.sig.returnType = some t) (hn : narrow t w = w)
    (hi : (i = .ireturn ∧ (t = .int ∨ t = .boolean ∨ t = .byte ∨ t = .char ∨ t = .short) ∧ ∃ z, w = .int z) ∨ (i = .lreturn ∧ t = .long ∧ ∃ z, w = .long z) ∨ (i = .dreturn ∧ t = .double ∧ ∃ z, w = .double z) ∨ (i = .freturn ∧ t = .float ∧ ∃ z, w = .float z) ∨ (i = .areturn ∧ t.isReference = true ∧ w.isRef = true))
    (hd : decode c.code pc = .ok (i, 1)) (hQ : Q (some w) T.heap locs) (hc : cells ≤ kc) (hs : slots ≤ ks) :
    own_Win p e below s Q kc ks (T.setTop (mkF m pc Ls (w :: rest))) := by
  obtain ⟨fs, hr, hrun, hended, hW, hsame⟩ := X.leave (v := some w) (fun h => by rw [hret] at h; cases h) hlk
  exact ⟨_, _, retOut X hx hret hn hi hd hr, hrun, hended, _, _, rfl, hQ, ⟨_, rfl⟩, hW, hsame.mono hc hs⟩
theorem own_retV (X : Stand p l e R s m args below meth c T locs cells slots) (hx : p.tables.exec = Jvm.exec) (hlk : meth.locks = false) {pc : Nat} {Ls : Array Slot} (hret : meth.sig.returnType = none)
    (hd : decode c.code pc = .ok (.return_, 1)) (hQ : Q none T.heap locs) (hc : cells ≤ kc) (hs : slots ≤ ks) :
    own_Win p e below s Q kc ks (T.setTop (mkF m pc Ls [])) := by
  obtain ⟨fs, hr, hrun, hended, hW, hsame⟩ := X.leave (v := none) (fun _ => rfl) hlk
  exact ⟨_, _, X.returnOut hx hret hd hr, hrun, hended, _, _, rfl, hQ, ⟨_, rfl⟩, hW, hsame.mono hc hs⟩
/-- what a callee's contract is -/
abbrev own_Met (l : Launch) (Z : State) (y : MethodName) (bytes : ByteArray) (maxL : Nat) (ret : Option FieldType) (rm : Room) (as' : Array Value) (h : Heap) (Q' : Option Value → Heap → List Loc → Prop) : Prop :=
  MetFree l y (head1 [Cond.code y bytes maxL ret] rm) (fun a U => a = as' ∧ Z.Warmed39 U.vm ∧ U.heap = h) (fun _ _ _ _ _ => True) (fun _ U o U' => ∃ v L, o = .returned v ∧ Q' v U'.heap L ∧ FrameEnd U o U' L rm.cells rm.slots)
theorem own_callS (X : Stand p l e R s m args below meth c T locs cells slots) (hx : p.tables.exec = Jvm.exec) (hZ : Z.Warmed39 s.vm) {own : String} {index : Nat} {y : MethodName} {bytes : ByteArray} {maxL : Nat} {ret : Option FieldType} {rm : Room} {as' : Array Value} {Q' : Option Value → Heap → List Loc → Prop} {W : Nat}
    (hown : s.vm.findClass own = some m.cls) (w1 : (Cond.methodLink own index y).before a0 Z = true) (w2 : (Cond.static y).before a0 Z = true) (w3 : (Cond.initialized y.cls).before a0 Z = true) (w4 : (Cond.code y bytes maxL ret).before a0 Z = true)
    (hy : y.cls ≠ "java/lang/invoke/MethodHandle" ∧ y.cls ≠ "java/lang/invoke/VarHandle") (eT : T.heap = h) (hM : own_Met l Z y bytes maxL ret rm as' h Q') (hf : rm.frames + 1 ≤ R.frames) (hl : W + (maxL + 11) + rm.locals ≤ R.locals)
    {g : JFrame} (hg : g.method = m) (hsize : g.locals.size = c.maxLocals) {argsL rest : List Value} (hlen : ∀ sig, parseMethodDescriptor y.desc = some sig → argsL.length = sig.parameters.length)
    (hst : g.stack = argsL.reverse ++ rest) (hW : 2 * g.monitorRoom + (rest.map fun v => v.category).sum ≤ W) (hd : decode c.code g.pc = .ok (.invokestatic index, 3)) (has : argsL.toArray = as') (hc : cells + rm.cells ≤ R.cells) (hs : slots + rm.slots ≤ R.slots)
    (k : ∀ (T' : State) (v : Option Value) (L : List Loc), Stand p l e R s m args below meth c T' (locs ++ L) (cells + rm.cells) (slots + rm.slots) → Q' v T'.heap L → own_Win p e below s Q kc ks (T'.setTop { g with pc := g.pc + 3, stack := v.toList ++ rest })) :
    own_Win p e below s Q kc ks (T.setTop g) := by
  obtain ⟨v, vm1, ⟨T', L', c', n'⟩, -, X', ⟨L, hQ, l1, y1, z1⟩, st⟩ := Jvm.LawKit.callS X hx (y := y) (W := W) hown (mvT hZ w1) (mvT hZ w2) (mvT hZ w3) (mvT hZ w4) hy (backOf (W := W) hM hZ w4 w3 hf hl) hg hsize (argsL := argsL) (rest := rest) hlen hst hW hd (fun _ _ => ⟨has, eT, hc, hs⟩)
  dsimp only [Pt.U, Pt.locs, Pt.cells, Pt.slots] at X' l1 y1 z1 st hQ
  subst l1 y1 z1
  exact own_st st (k _ _ _ X' hQ)
theorem own_callV (X : Stand p l e R s m args below meth c T locs cells slots) (hx : p.tables.exec = Jvm.exec) (hZ : Z.Warmed39 s.vm) {own C : String} {index : Nat} {y : MethodName} {bytes : ByteArray} {maxL : Nat} {ret : Option FieldType} {rm : Room} {as' : Array Value} {Q' : Option Value → Heap → List Loc → Prop} {W : Nat}
    (hown : s.vm.findClass own = some m.cls) (w1 : (Cond.methodLink own index y).before a0 Z = true) (w2 : (Cond.declares y).before a0 Z = true) (w3 : (Cond.selects C y y).before a0 Z = true) (w5 : (Cond.instanceMethod y).before a0 Z = true) (w4 : (Cond.code y bytes maxL ret).before a0 Z = true) (w6 : (Cond.initialized y.cls).before a0 Z = true)
    (hy : y.cls ≠ "java/lang/invoke/MethodHandle" ∧ y.cls ≠ "java/lang/invoke/VarHandle") (eT : T.heap = h) {a : Addr} (E : Exa Z h a C) (hM : own_Met l Z y bytes maxL ret rm as' h Q') (hf : rm.frames + 1 ≤ R.frames) (hl : W + (maxL + 11) + rm.locals ≤ R.locals)
    {g : JFrame} (hg : g.method = m) (hsize : g.locals.size = c.maxLocals) {argsL rest : List Value} (hlen : ∀ sig, parseMethodDescriptor y.desc = some sig → argsL.length = sig.parameters.length)
    (hst : g.stack = argsL.reverse ++ .ref a :: rest) (hW : 2 * g.monitorRoom + (rest.map fun v => v.category).sum ≤ W) (hd : decode c.code g.pc = .ok (.invokevirtual index, 3)) (has : (.ref a :: argsL).toArray = as') (hc : cells + rm.cells ≤ R.cells) (hs : slots + rm.slots ≤ R.slots)
    (k : ∀ (T' : State) (v : Option Value) (L : List Loc), Stand p l e R s m args below meth c T' (locs ++ L) (cells + rm.cells) (slots + rm.slots) → Q' v T'.heap L → own_Win p e below s Q kc ks (T'.setTop { g with pc := g.pc + 3, stack := v.toList ++ rest })) :
    own_Win p e below s Q kc ks (T.setTop g) := by
  obtain ⟨cB, kB, q1, q2, q3⟩ := isOf (T := T) hZ eT E
  obtain ⟨v, vm1, ⟨T', L', c', n'⟩, -, X', ⟨L, hQ, l1, y1, z1⟩, st⟩ := X.virtualBack hx (y := y) (z := y) (W := W) hown (mvT hZ w1) (mvT hZ w2) (notFace_of_selects (args := #[]) (mvT hZ w3)) (mvT hZ w3) (mvT hZ w5) hy (backOf (W := W) hM hZ w4 w6 hf hl) q1 q3 hg hsize (Steps.refl _) (argsL := argsL) (rest := rest) hlen hst hW hd (fun _ _ => ⟨has, eT, hc, hs⟩)
  dsimp only [Pt.U, Pt.locs, Pt.cells, Pt.slots] at X' l1 y1 z1 st hQ
  subst l1 y1 z1
  exact own_st (fun t q => st.trans q) (k _ _ _ X' hQ)
theorem own_callI (X : Stand p l e R s m args below meth c T locs cells slots) (hx : p.tables.exec = Jvm.exec) (hZ : Z.Warmed39 s.vm) {own : String} {index : Nat} {y : MethodName} {bytes : ByteArray} {maxL : Nat} {rm : Room} {as' : Array Value} {Q' : Option Value → Heap → List Loc → Prop} {W : Nat}
    (hy1 : y.name = "<init>") (hown : s.vm.findClass own = some m.cls) (w1 : (Cond.methodLink own index y).before a0 Z = true) (w5 : (Cond.instanceMethod y).before a0 Z = true) (w4 : (Cond.code y bytes maxL none).before a0 Z = true) (w6 : (Cond.initialized y.cls).before a0 Z = true)
    (hy : y.cls ≠ "java/lang/invoke/MethodHandle" ∧ y.cls ≠ "java/lang/invoke/VarHandle") (eT : T.heap = h) {a : Addr} (hM : own_Met l Z y bytes maxL none rm as' h Q') (hf : rm.frames + 1 ≤ R.frames) (hl : W + (maxL + 11) + rm.locals ≤ R.locals)
    {g : JFrame} (hg : g.method = m) (hsize : g.locals.size = c.maxLocals) {argsL rest : List Value} (hlen : ∀ sig, parseMethodDescriptor y.desc = some sig → argsL.length = sig.parameters.length)
    (hst : g.stack = argsL.reverse ++ .ref a :: rest) (hW : 2 * g.monitorRoom + (rest.map fun v => v.category).sum ≤ W) (hd : decode c.code g.pc = .ok (.invokespecial index, 3)) (has : (.ref a :: argsL).toArray = as') (hc : cells + rm.cells ≤ R.cells) (hs : slots + rm.slots ≤ R.slots)
    (k : ∀ (T' : State) (v : Option Value) (L : List Loc), Stand p l e R s m args below meth c T' (locs ++ L) (cells + rm.cells) (slots + rm.slots) → Q' v T'.heap L → own_Win p e below s Q kc ks (T'.setTop { g with pc := g.pc + 3, stack := v.toList ++ rest })) :
    own_Win p e below s Q kc ks (T.setTop g) := by
  obtain ⟨v, vm1, ⟨T', L', c', n'⟩, -, X', ⟨L, hQ, l1, y1, z1⟩, st⟩ := X.specialBack hx (y := y) (W := W) hy1 hown (mvT hZ w1) (mvT hZ w5) (mvT hZ w4) hy (backOf (W := W) hM hZ w4 w6 hf hl) hg hsize (Steps.refl _) (a := a) (argsL := argsL) (rest := rest) hlen hst hW hd (fun _ _ => ⟨has, eT, hc, hs⟩)
  dsimp only [Pt.U, Pt.locs, Pt.cells, Pt.slots] at X' l1 y1 z1 st hQ
  subst l1 y1 z1
  exact own_st (fun t q => st.trans q) (k _ _ _ X' hQ)
theorem own_callP (X : Stand p l e R s m args below meth c T locs cells slots) (hx : p.tables.exec = Jvm.exec) (hZ : Z.Warmed39 s.vm) {own C C' : String} {index : Nat} {y z0 : MethodName} {bytes : ByteArray} {maxL : Nat} {ret : Option FieldType} {rm : Room} {as' : Array Value} {Q' : Option Value → Heap → List Loc → Prop} {W : Nat}
    (hown : s.vm.findClass own = some m.cls) (w1 : (Cond.methodLink own index y).before a0 Z = true) (w5 : (Cond.instanceMethod y).before a0 Z = true) (w7 : (Cond.privateMethod y).before a0 Z = true) (w4 : (Cond.code y bytes maxL ret).before a0 Z = true) (w6 : (Cond.initialized y.cls).before a0 Z = true) (w3 : (Cond.selects C' z0 z0).before a0 Z = true) (hzy : z0.cls = y.cls)
    (hy : y.cls ≠ "java/lang/invoke/MethodHandle" ∧ y.cls ≠ "java/lang/invoke/VarHandle") (eT : T.heap = h) {a : Addr} (E : Exa Z h a C) (hM : own_Met l Z y bytes maxL ret rm as' h Q') (hf : rm.frames + 1 ≤ R.frames) (hl : W + (maxL + 11) + rm.locals ≤ R.locals)
    {g : JFrame} (hg : g.method = m) (hsize : g.locals.size = c.maxLocals) {argsL rest : List Value} (hlen : ∀ sig, parseMethodDescriptor y.desc = some sig → argsL.length = sig.parameters.length)
    (hst : g.stack = argsL.reverse ++ .ref a :: rest) (hW : 2 * g.monitorRoom + (rest.map fun v => v.category).sum ≤ W) (hd : decode c.code g.pc = .ok (.invokevirtual index, 3)) (has : (.ref a :: argsL).toArray = as') (hc : cells + rm.cells ≤ R.cells) (hs : slots + rm.slots ≤ R.slots)
    (k : ∀ (T' : State) (v : Option Value) (L : List Loc), Stand p l e R s m args below meth c T' (locs ++ L) (cells + rm.cells) (slots + rm.slots) → Q' v T'.heap L → own_Win p e below s Q kc ks (T'.setTop { g with pc := g.pc + 3, stack := v.toList ++ rest })) :
    own_Win p e below s Q kc ks (T.setTop g) := by
  have i5 : (Cond.instanceMethod y).before args s = true := mvT hZ w5
  have hpriv := Cond.privateMethod_at (mvP (args := args) hZ w7)
  have i3 : (Cond.selects C' z0 z0).before args s = true := mvT hZ w3
  obtain ⟨c2, r2, m2, -, -, q3, -, kP, hkP, hkPi⟩ := Cond.selects_spec i3
  have hcc := findClass_of_methodNamed q3
  rw [hzy] at hcc
  obtain ⟨cell, hcell, hobj⟩ := Exa.cell E
  obtain ⟨v, vm1, ⟨T', L', c', n'⟩, -, X', ⟨L, hQ, l1, y1, z1⟩, st⟩ := X.privateBack hx (y := y) (W := W) hown (mvT hZ w1) i5 (selects_self_of_private hcc hkP hkPi hpriv i5 hy) hpriv (mvT hZ w4) hy (backOf (W := W) hM hZ w4 w6 hf hl) hg hsize (Steps.refl _) (a := a) (by rw [eT]; exact hcell) hobj (argsL := argsL) (rest := rest) hlen hst hW hd (fun _ _ => ⟨has, eT, hc, hs⟩)
  dsimp only [Pt.U, Pt.locs, Pt.cells, Pt.slots] at X' l1 y1 z1 st hQ
  subst l1 y1 z1
  exact own_st (fun t q => st.trans q) (k _ _ _ X' hQ)
end Own
/-! arrays of doubles and of ints, by a function -/
section Arrays
variable {p : Program} {l : Launch} {e : Env} {R : Room} {s : State} {m : MethodId} {args : Array Value} {below : List Frame} {meth : Method} {c : Code} {T : State} {locs : List Loc} {cells slots : Nat} {Z : State} {a0 : Array Value} {h h' : Heap} {Q : Option Value → Heap → List Loc → Prop} {kc ks : Nat}
def own_up {A : Type} (f : Nat → A) (i : Nat) (x : A) : Nat → A := fun k => if k = i then x else f k
theorem own_up_hit {A : Type} (f : Nat → A) (i : Nat) (x : A) : own_up f i x i = x := if_pos rfl
theorem own_up_miss {A : Type} (f : Nat → A) {i k : Nat} (x : A) (q : k ≠ i) : own_up f i x k = f k := if_neg q
def own_Av (Z : State) (h : Heap) (a : Addr) (ty : FieldType) (n : Nat) (f : Nat → Value) : Prop := n < 2 ^ 31 ∧ ∃ c : Cell, Arr Z h a c ty ∧ c.slots.size = n ∧ ∀ k, k < n → c.slots[k]? = some (f k)
def own_Da (Z : State) (h : Heap) (a : Addr) (n : Nat) (f : Nat → UInt64) : Prop := own_Av Z h a .double n (fun k => .double (f k))
def own_Ia (Z : State) (h : Heap) (a : Addr) (n : Nat) (f : Nat → Int32) : Prop := own_Av Z h a .int n (fun k => .int (f k))
section Av
variable {a b : Addr} {ty : FieldType} {n : Nat} {f g : Nat → Value}
theorem own_Av.lt (F : own_Av Z h a ty n f) : a < h.size := by obtain ⟨-, c, A, -⟩ := F; exact A.lt
theorem own_Av.ext (E : Ext h h') (F : own_Av Z h a ty n f) : own_Av Z h' a ty n f := by obtain ⟨q, c, A, r⟩ := F; exact ⟨q, c, A.ext E, r⟩
theorem own_Av.other {sl : Nat} {v : Value} (W : Wr h h' b sl v) (F : own_Av Z h a ty n f) (q : a ≠ b) : own_Av Z h' a ty n f := by obtain ⟨r, c, A, u⟩ := F; exact ⟨r, c, A.other W q, u⟩
theorem own_Av.keep {ws : List Addr} (K : Keep h h' ws) (F : own_Av Z h a ty n f) (q : a ∉ ws) : own_Av Z h' a ty n f := by
  obtain ⟨r, c, A, u⟩ := F
  exact ⟨r, c, ⟨K.2.1 a c A.1 q, A.2⟩, u⟩
theorem own_Av.set {i : Nat} {v : Value} (W : Wr h h' a i v) (F : own_Av Z h a ty n f) (hi : i < n) : own_Av Z h' a ty n (own_up f i v) := by
  obtain ⟨r, c, A, S, H⟩ := F
  refine ⟨r, _, A.same W, by rw [sz_set]; exact S, fun k hk => ?_⟩
  show (c.slots.setIfInBounds i v)[k]? = _
  by_cases e : k = i
  · subst e; rw [own_up_hit]; simp [S, hk]
  · rw [own_up_miss _ _ e, Array.getElem?_setIfInBounds_ne (Ne.symm e)]; exact H k hk
theorem own_Av.congr (F : own_Av Z h a ty n f) (q : ∀ k, k < n → f k = g k) : own_Av Z h a ty n g := by
  obtain ⟨r, c, A, S, H⟩ := F
  exact ⟨r, c, A, S, fun k hk => by rw [← q k hk]; exact H k hk⟩
end Av
theorem own_clamp {j : Int32} {i : Nat} (hj : j.toInt = (i : Int)) : ¬ j < 0 ∧ j.toNatClampNeg = i := by
  refine ⟨fun q => ?_, ?_⟩
  · have := Int32.lt_iff_toInt_lt.mp q
    rw [hj] at this
    have : ((0 : Int32).toInt) = 0 := rfl
    omega
  · show j.toInt.toNat = i
    rw [hj]; rfl
theorem own_daload (X : Stand p l e R s m args below meth c T locs cells slots) (hx : p.tables.exec = Jvm.exec) (hZ : Z.Warmed39 s.vm) (eT : T.heap = h) {a : Addr} {n i : Nat} {f : Nat → UInt64} (F : own_Da Z h a n f) {j : Int32} (hj : j.toInt = (i : Int)) (hi : i < n)
    {x : UInt64} (hv : f i = x) {g : JFrame} (hg : g.method = m) {rest : List Value} (hs : g.stack = .int j :: .ref a :: rest) (hd : decode c.code g.pc = .ok (.daload, 1))
    (k : own_Win p e below s Q kc ks (T.setTop { g with pc := g.pc + 1, stack := .double x :: rest })) : own_Win p e below s Q kc ks (T.setTop g) := by
  obtain ⟨r, cl, A, S, H⟩ := F
  obtain ⟨q1, q2⟩ := own_clamp hj
  subst hv
  exact own_st (fun t q => X.daload hx (cell := cl) (j := j) (v := .double (f i)) (by rw [eT]; exact A.1) (State.isArrayOf_alike hZ.alike A.2.1) A.2.2 (by rw [q2, S]; intro z; rcases z with z | z; exact q1 z; omega) (by rw [q2]; exact H i hi) hg hs hd t q) k
theorem own_iaload (X : Stand p l e R s m args below meth c T locs cells slots) (hx : p.tables.exec = Jvm.exec) (hZ : Z.Warmed39 s.vm) (eT : T.heap = h) {a : Addr} {n i : Nat} {f : Nat → Int32} (F : own_Ia Z h a n f) {j : Int32} (hj : j.toInt = (i : Int)) (hi : i < n)
    {x : Int32} (hv : f i = x) {g : JFrame} (hg : g.method = m) {rest : List Value} (hs : g.stack = .int j :: .ref a :: rest) (hd : decode c.code g.pc = .ok (.iaload, 1))
    (k : own_Win p e below s Q kc ks (T.setTop { g with pc := g.pc + 1, stack := .int x :: rest })) : own_Win p e below s Q kc ks (T.setTop g) := by
  obtain ⟨r, cl, A, S, H⟩ := F
  obtain ⟨q1, q2⟩ := own_clamp hj
  subst hv
  exact own_st (fun t q => X.iaload hx (cell := cl) (j := j) (v := .int (f i)) (by rw [eT]; exact A.1) (State.isArrayOf_alike hZ.alike A.2.1) A.2.2 (by rw [q2, S]; intro z; rcases z with z | z; exact q1 z; omega) (by rw [q2]; exact H i hi) hg hs hd t q) k
theorem own_alen (X : Stand p l e R s m args below meth c T locs cells slots) (hx : p.tables.exec = Jvm.exec) (hZ : Z.Warmed39 s.vm) (eT : T.heap = h) {a : Addr} {ty : FieldType} {n : Nat} {f : Nat → Value} (F : own_Av Z h a ty n f) {z : Int32} (hz : n.toInt32 = z)
    {g : JFrame} (hg : g.method = m) {rest : List Value} (hs : g.stack = .ref a :: rest) (hd : decode c.code g.pc = .ok (.arraylength, 1))
    (k : own_Win p e below s Q kc ks (T.setTop { g with pc := g.pc + 1, stack := .int z :: rest })) : own_Win p e below s Q kc ks (T.setTop g) := by
  obtain ⟨r, cl, A, S, H⟩ := F
  subst hz
  refine own_st (fun t q => X.arraylength hx (cell := cl) (by rw [eT]; exact A.1) (State.isArrayOf_alike hZ.alike A.2.1) hg hs hd t ?_) k
  rw [S]; exact q
theorem own_dastore (X : Stand p l e R s m args below meth c T locs cells slots) (hx : p.tables.exec = Jvm.exec) (hZ : Z.Warmed39 s.vm) (eT : T.heap = h) {a : Addr} {n i : Nat} {f : Nat → UInt64} (F : own_Da Z h a n f) {j : Int32} (hj : j.toInt = (i : Int)) (hi : i < n) {n0 : Nat} (N : Fr n0 locs) (hn : n0 ≤ a)
    {x : UInt64} {g : JFrame} (hg : g.method = m) {rest : List Value} (hs : g.stack = .double x :: .int j :: .ref a :: rest) (hd : decode c.code g.pc = .ok (.dastore, 1))
    (k : ∀ (T' : State) (h' : Heap) (locs' : List Loc), Stand p l e R s m args below meth c T' locs' cells slots → T'.heap = h' → Fr n0 locs' → Wr h h' a i (.double x) → own_Da Z h' a n (own_up f i x) → own_Win p e below s Q kc ks (T'.setTop { g with pc := g.pc + 1, stack := rest })) : own_Win p e below s Q kc ks (T.setTop g) := by
  obtain ⟨r, cl, A, S, H⟩ := F
  obtain ⟨q1, q2⟩ := own_clamp hj
  obtain ⟨T', h1, X', e', W, st⟩ := stD X hx hZ eT A (j := j) (x := x) (by rw [q2, S]; intro z; rcases z with z | z; exact q1 z; omega) hg hs hd
  rw [q2] at X' W
  refine own_st st (k T' h1 _ X' e' (Fr.snoc X' N hn) W ((own_Av.set W ⟨r, cl, A, S, H⟩ hi).congr fun u hu => ?_))
  unfold own_up; split <;> rfl
theorem own_iastore (X : Stand p l e R s m args below meth c T locs cells slots) (hx : p.tables.exec = Jvm.exec) (hZ : Z.Warmed39 s.vm) (eT : T.heap = h) {a : Addr} {n i : Nat} {f : Nat → Int32} (F : own_Ia Z h a n f) {j : Int32} (hj : j.toInt = (i : Int)) (hi : i < n) {n0 : Nat} (N : Fr n0 locs) (hn : n0 ≤ a)
    {x : Int32} {g : JFrame} (hg : g.method = m) {rest : List Value} (hs : g.stack = .int x :: .int j :: .ref a :: rest) (hd : decode c.code g.pc = .ok (.iastore, 1))
    (k : ∀ (T' : State) (h' : Heap) (locs' : List Loc), Stand p l e R s m args below meth c T' locs' cells slots → T'.heap = h' → Fr n0 locs' → Wr h h' a i (.int x) → own_Ia Z h' a n (own_up f i x) → own_Win p e below s Q kc ks (T'.setTop { g with pc := g.pc + 1, stack := rest })) : own_Win p e below s Q kc ks (T.setTop g) := by
  obtain ⟨r, cl, A, S, H⟩ := F
  obtain ⟨q1, q2⟩ := own_clamp hj
  obtain ⟨T', h1, X', e', W, st⟩ := stI X hx hZ eT A (j := j) (x := x) (by rw [q2, S]; intro z; rcases z with z | z; exact q1 z; omega) hg hs hd
  rw [q2] at X' W
  refine own_st st (k T' h1 _ X' e' (Fr.snoc X' N hn) W ((own_Av.set W ⟨r, cl, A, S, H⟩ hi).congr fun u hu => ?_))
  unfold own_up; split <;> rfl
theorem own_newD (X : Stand p l e R s m args below meth c T locs cells slots) (hx : p.tables.exec = Jvm.exec) (hZ : Z.Warmed39 s.vm) (w : (Cond.arrayClass .double).before a0 Z = true) (eT : T.heap = h) {n cap : Nat} {z : Int32} (hz : z.toInt = (n : Int)) (hcap : n ≤ cap) (hb : cap * 8 ≤ 536870912) (hc : cells + 1 ≤ R.cells) (hl : slots + cap ≤ R.slots)
    {g : JFrame} (hg : g.method = m) {rest : List Value} (hs : g.stack = .int z :: rest) (hd : decode c.code g.pc = .ok (.newarray .double, 2))
    (k : ∀ (T' : State) (h' : Heap) (a : Addr), Stand p l e R s m args below meth c T' locs (cells + 1) (slots + cap) → T'.heap = h' → a = h.size → Ext h h' → own_Da Z h' a n (fun _ => 0) → Exa Z h' a "[D" → own_Win p e below s Q kc ks (T'.setTop { g with pc := g.pc + 2, stack := .ref a :: rest })) : own_Win p e below s Q kc ks (T.setTop g) := by
  obtain ⟨q1, q2⟩ := own_clamp hz
  obtain ⟨T', h1, cA, X', e', E, A, Ex, st⟩ := newPE X hx hZ (aty := .double) w eT hg hd hs q1 (cap := cap) (by omega) hb hc hl (ad := "[D") (by decide)
  refine own_st st (k T' h1 _ X' e' rfl E ⟨by omega, _, A, by rw [sz_new, q2], fun u hu => ?_⟩ Ex)
  show (Array.replicate z.toNatClampNeg (defaultValue (newarray.typeOf .double)))[u]? = _
  rw [q2]; simp [hu]; rfl
theorem own_newI (X : Stand p l e R s m args below meth c T locs cells slots) (hx : p.tables.exec = Jvm.exec) (hZ : Z.Warmed39 s.vm) (w : (Cond.arrayClass .int).before a0 Z = true) (eT : T.heap = h) {n cap : Nat} {z : Int32} (hz : z.toInt = (n : Int)) (hcap : n ≤ cap) (hb : cap * 8 ≤ 536870912) (hc : cells + 1 ≤ R.cells) (hl : slots + cap ≤ R.slots)
    {g : JFrame} (hg : g.method = m) {rest : List Value} (hs : g.stack = .int z :: rest) (hd : decode c.code g.pc = .ok (.newarray .int, 2))
    (k : ∀ (T' : State) (h' : Heap) (a : Addr), Stand p l e R s m args below meth c T' locs (cells + 1) (slots + cap) → T'.heap = h' → a = h.size → Ext h h' → own_Ia Z h' a n (fun _ => 0) → own_Win p e below s Q kc ks (T'.setTop { g with pc := g.pc + 2, stack := .ref a :: rest })) : own_Win p e below s Q kc ks (T.setTop g) := by
  obtain ⟨q1, q2⟩ := own_clamp hz
  obtain ⟨T', h1, cA, X', e', E, A, st⟩ := newP X hx hZ (aty := .int) w eT hg hd hs q1 (cap := cap) (by omega) hb hc hl
  refine own_st st (k T' h1 _ X' e' rfl E ⟨by omega, _, A, by rw [sz_new, q2], fun u hu => ?_⟩)
  show (Array.replicate z.toNatClampNeg (defaultValue (newarray.typeOf .int)))[u]? = _
  rw [q2]; simp [hu]; rfl
theorem own_clone (X : Stand p l e R s m args below meth c T locs cells slots) (hx : p.tables.exec = Jvm.exec) (hZ : Z.Warmed39 s.vm) {own : String} {index : Nat} (hown : s.vm.findClass own = some m.cls)
    (w1 : (Cond.methodLink own index ⟨"[D", "clone", "()Ljava/lang/Object;"⟩).before a0 Z = true) (w2 : (Cond.sameMethod "[D" "java/lang/Object" "clone" "()Ljava/lang/Object;").before a0 Z = true) (w3 : (Cond.native ⟨"java/lang/Object", "clone", "()Ljava/lang/Object;"⟩).before a0 Z = true)
    (w4 : (Cond.instanceMethod ⟨"java/lang/Object", "clone", "()Ljava/lang/Object;"⟩).before a0 Z = true) (w5 : (Cond.selects "[D" ⟨"[D", "clone", "()Ljava/lang/Object;"⟩ ⟨"java/lang/Object", "clone", "()Ljava/lang/Object;"⟩).before a0 Z = true) (w6 : (Cond.castable "[D" "java/lang/Cloneable").before a0 Z = true)
    (eT : T.heap = h) {a : Addr} {n : Nat} {f : Nat → UInt64} (F : own_Da Z h a n f) (E : Exa Z h a "[D") {g : JFrame} (hg : g.method = m) (hsize : g.locals.size = c.maxLocals) {rest : List Value} (hs : g.stack = .ref a :: rest) (hd : decode c.code g.pc = .ok (.invokevirtual index, 3))
    (hf : 1 ≤ R.frames) {W : Nat} (hW : 2 * g.monitorRoom + (rest.map fun v => v.category).sum ≤ W) (hl : W + 14 ≤ R.locals) (hc : cells + 1 ≤ R.cells) (hsl : slots + n ≤ R.slots)
    (k : ∀ (T' : State) (h' : Heap) (b : Addr), Stand p l e R s m args below meth c T' locs (cells + 1) (slots + n) → T'.heap = h' → b = h.size → Ext h h' → own_Da Z h' b n f → Exa Z h' b "[D" → own_Win p e below s Q kc ks (T'.setTop { g with pc := g.pc + 3, stack := .ref b :: rest })) : own_Win p e below s Q kc ks (T.setTop g) := by
  obtain ⟨r, cl, A, S, H⟩ := F
  have FC : FitC Z cl := fitC_of A fun i hi v hv => by
    rw [S] at hi
    rw [H i hi] at hv; cases hv; rfl
  obtain ⟨T', h1, X', e', ex, A', E', st⟩ := cloneA X hx hZ hown w1 w2 w3 w4 w5 w6 eT A E FC hg hsize hs hd hf hW hl (cap := n) (by omega) hc hsl
  exact own_st st (k T' h1 _ X' e' rfl ex ⟨r, _, A', S, H⟩ E')
end Arrays
end Jvm.RoadKit

namespace Jvm.RoadKit
open Jvm.FP Jvm.Free.Fl Sem ClassFile Op Lib
theorem own_nnI {i : Int} {x : UInt64} (h : Core.DInt i x) : NoNaN64 x := noNaN64_no.mpr ((Core.notNaN_iff x).mpr (Core.DInt_ne_nan h))
/-- what a branch asks of two whole numbers that were compared -/
def own_ic : ClassFile.Cond → Int → Int → Bool
  | .eq, i, j => decide (i = j)
  | .ne, i, j => decide (i ≠ j)
  | .lt, i, j => decide (i < j)
  | .ge, i, j => decide (j ≤ i)
  | .gt, i, j => decide (j < i)
  | .le, i, j => decide (i ≤ j)
theorem own_hc {i j : Int} {x y : UInt64} (hx : Core.DInt i x) (hy : Core.DInt j y) (o : CmpOp) (cd : ClassFile.Cond) : ifCond.holds cd (cmpValue (FP.dcmp x y) o) = own_ic cd i j := by
  have e : FP.dcmp x y = some (compare i j) := Core.dcmp_int hx hy
  rw [e, Core.compare_ite]
  by_cases q : i < j
  · rw [if_pos q]
    cases cd
    · exact (show ifCond.holds .eq (cmpValue (some .lt) o) = false from rfl).trans (decide_eq_false (by omega)).symm
    · exact (show ifCond.holds .ne (cmpValue (some .lt) o) = true from rfl).trans (decide_eq_true (by omega)).symm
    · exact (show ifCond.holds .lt (cmpValue (some .lt) o) = true from rfl).trans (decide_eq_true (by omega)).symm
    · exact (show ifCond.holds .ge (cmpValue (some .lt) o) = false from rfl).trans (decide_eq_false (by omega)).symm
    · exact (show ifCond.holds .gt (cmpValue (some .lt) o) = false from rfl).trans (decide_eq_false (by omega)).symm
    · exact (show ifCond.holds .le (cmpValue (some .lt) o) = true from rfl).trans (decide_eq_true (by omega)).symm
  · rw [if_neg q]
    by_cases r : i = j
    · rw [if_pos r]
      cases cd
      · exact (show ifCond.holds .eq (cmpValue (some .eq) o) = true from rfl).trans (decide_eq_true (by omega)).symm
      · exact (show ifCond.holds .ne (cmpValue (some .eq) o) = false from rfl).trans (decide_eq_false (by omega)).symm
      · exact (show ifCond.holds .lt (cmpValue (some .eq) o) = false from rfl).trans (decide_eq_false (by omega)).symm
      · exact (show ifCond.holds .ge (cmpValue (some .eq) o) = true from rfl).trans (decide_eq_true (by omega)).symm
      · exact (show ifCond.holds .gt (cmpValue (some .eq) o) = false from rfl).trans (decide_eq_false (by omega)).symm
      · exact (show ifCond.holds .le (cmpValue (some .eq) o) = true from rfl).trans (decide_eq_true (by omega)).symm
    · rw [if_neg r]
      cases cd
      · exact (show ifCond.holds .eq (cmpValue (some .gt) o) = false from rfl).trans (decide_eq_false (by omega)).symm
      · exact (show ifCond.holds .ne (cmpValue (some .gt) o) = true from rfl).trans (decide_eq_true (by omega)).symm
      · exact (show ifCond.holds .lt (cmpValue (some .gt) o) = false from rfl).trans (decide_eq_false (by omega)).symm
      · exact (show ifCond.holds .ge (cmpValue (some .gt) o) = true from rfl).trans (decide_eq_true (by omega)).symm
      · exact (show ifCond.holds .gt (cmpValue (some .gt) o) = true from rfl).trans (decide_eq_true (by omega)).symm
      · exact (show ifCond.holds .le (cmpValue (some .gt) o) = false from rfl).trans (decide_eq_false (by omega)).symm
theorem own_lc {x y : Int64} (h : x = y) : Jvm.Free.XT.cmpL x y = 0 := by
  subst h
  unfold Jvm.Free.XT.cmpL
  rw [if_neg (fun q => by rw [Int64.lt_iff_toInt_lt] at q; omega), if_pos rfl]
theorem own_ap {i j : Int} {x y : UInt64} (hx : Core.DInt i x) (hy : Core.DInt j y) (h : (i + j).natAbs ≤ 9007199254740992) : Core.DInt (i + j) (FP.dadd x y) := Core.dadd_int hx hy h
theorem own_sp {i j : Int} {x y : UInt64} (hx : Core.DInt i x) (hy : Core.DInt j y) (h : (i - j).natAbs ≤ 9007199254740992) : Core.DInt (i - j) (FP.dsub x y) := Core.dsub_int hx hy h
theorem own_mp {i j : Int} {x y : UInt64} (hx : Core.DInt i x) (hy : Core.DInt j y) (h : (i * j).natAbs ≤ 9007199254740992) : Core.DInt (i * j) (FP.dmul x y) := Core.dmul_int hx hy h
theorem own_mb {i j : Int} {A B : Nat} (ha : i.natAbs ≤ A) (hb : j.natAbs ≤ B) : (i * j).natAbs ≤ A * B := by rw [Int.natAbs_mul]; exact Nat.mul_le_mul ha hb
theorem own_l2d {a : Int64} (h : a.toInt.natAbs ≤ 9007199254740992) : Core.DInt a.toInt (FP.l2d a) := Core.l2d_int h
end Jvm.RoadKit

namespace Jvm.Pilot.@@N@@
open Jvm Jvm.ClassFile Sem Op Lib Jvm.Free Jvm.Stand Jvm.LawKit Jvm.RoadKit Bundle Jvm.Pilot.@@N@@.Jvm.D Jvm.Free.Fl

/-! the tree's fields, in one fact -/
abbrev KD : String := "com/example/skyweave/skyweave/KdTree"
def own_Fs (Z : State) (h : Heap) (t : Addr) (wv gv : Int32) (aI aP aF aT aL aH : Addr) : Prop :=
  Exa Z h t KD ∧ Fld Z h t KD "width" "I" (.int wv) ∧ Fld Z h t KD "ids" "[I" (.ref aI) ∧ Fld Z h t KD "points" "[D" (.ref aP) ∧ Fld Z h t KD "from" "[I" (.ref aF) ∧ Fld Z h t KD "to" "[I" (.ref aT) ∧ Fld Z h t KD "lowHalf" "[I" (.ref aL) ∧ Fld Z h t KD "highHalf" "[I" (.ref aH) ∧ Fld Z h t KD "groups" "I" (.int gv)
section Fs
variable {Z : State} {h h' : Heap} {t b : Addr} {wv gv : Int32} {aI aP aF aT aL aH : Addr} {sl : Nat} {v : Value} {ws : List Addr}
theorem own_Fs.ext (E : Ext h h') (F : own_Fs Z h t wv gv aI aP aF aT aL aH) : own_Fs Z h' t wv gv aI aP aF aT aL aH := by
  obtain ⟨f0, f1, f2, f3, f4, f5, f6, f7, f8⟩ := F
  exact ⟨f0.ext E, f1.ext E, f2.ext E, f3.ext E, f4.ext E, f5.ext E, f6.ext E, f7.ext E, f8.ext E⟩
theorem own_Fs.other (W : Wr h h' b sl v) (F : own_Fs Z h t wv gv aI aP aF aT aL aH) (q : t ≠ b) : own_Fs Z h' t wv gv aI aP aF aT aL aH := by
  obtain ⟨f0, f1, f2, f3, f4, f5, f6, f7, f8⟩ := F
  exact ⟨f0.wr W, Fld.other W f1 (Or.inl q), Fld.other W f2 (Or.inl q), Fld.other W f3 (Or.inl q), Fld.other W f4 (Or.inl q), Fld.other W f5 (Or.inl q), Fld.other W f6 (Or.inl q), Fld.other W f7 (Or.inl q), Fld.other W f8 (Or.inl q)⟩
theorem own_Fs.keep (K : Keep h h' ws) (F : own_Fs Z h t wv gv aI aP aF aT aL aH) (q : t ∉ ws) : own_Fs Z h' t wv gv aI aP aF aT aL aH := by
  obtain ⟨f0, f1, f2, f3, f4, f5, f6, f7, f8⟩ := F
  exact ⟨f0.keep K, f1.keep K q, f2.keep K q, f3.keep K q, f4.keep K q, f5.keep K q, f6.keep K q, f7.keep K q, f8.keep K q⟩
theorem own_Fs.lt (F : own_Fs Z h t wv gv aI aP aF aT aL aH) : t < h.size := F.1.lt
theorem own_Fs.put {a0 : Array Value} (hw : ∀ d ∈ tables_1, d.before a0 Z = true) {gv' : Int32} (W : Wr h h' t (Jvm.RoadKit.slotOf Z KD "groups" "I") (.int gv')) (F : own_Fs Z h t wv gv aI aP aF aT aL aH) : own_Fs Z h' t wv gv' aI aP aF aT aL aH := by
  obtain ⟨f0, f1, f2, f3, f4, f5, f6, f7, f8⟩ := F
  have Lg : Laid Z a0 KD KD "groups" "I" := Or.inl (hw _ (List.mem_of_getElem? (i := 37) rfl))
  refine ⟨f0.wr W, Fld.other W f1 (Or.inr ?_), Fld.other W f2 (Or.inr ?_), Fld.other W f3 (Or.inr ?_), Fld.other W f4 (Or.inr ?_), Fld.other W f5 (Or.inr ?_), Fld.other W f6 (Or.inr ?_), Fld.other W f7 (Or.inr ?_), Fld.same W f8⟩
  · exact slot_ne (t := .int) (t' := .int) (Or.inr (hw _ (List.mem_of_getElem? (i := 16) rfl))) Lg (by decide) (by decide) (by decide)
  · exact slot_ne (t := .array .int) (t' := .int) (Or.inr (hw _ (List.mem_of_getElem? (i := 18) rfl))) Lg (by decide) (by decide) (by decide)
  · exact slot_ne (t := .array .double) (t' := .int) (Or.inr (hw _ (List.mem_of_getElem? (i := 20) rfl))) Lg (by decide) (by decide) (by decide)
  · exact slot_ne (t := .array .int) (t' := .int) (Or.inr (hw _ (List.mem_of_getElem? (i := 22) rfl))) Lg (by decide) (by decide) (by decide)
  · exact slot_ne (t := .array .int) (t' := .int) (Or.inr (hw _ (List.mem_of_getElem? (i := 24) rfl))) Lg (by decide) (by decide) (by decide)
  · exact slot_ne (t := .array .int) (t' := .int) (Or.inr (hw _ (List.mem_of_getElem? (i := 26) rfl))) Lg (by decide) (by decide) (by decide)
  · exact slot_ne (t := .array .int) (t' := .int) (Or.inr (hw _ (List.mem_of_getElem? (i := 28) rfl))) Lg (by decide) (by decide) (by decide)
end Fs
/-! the arrangement: which point stands at which place -/
def own_P (O : Nat → Nat → UInt64) (σ : Nat → Nat) : Nat → UInt64 := fun k => O (k % 2) (σ (k / 2))
def own_I (σ : Nat → Nat) : Nat → Int32 := fun k => Int32.ofNat (σ k)
def own_sw {A : Type} (f : Nat → A) (i j : Nat) : Nat → A := fun k => if k = i then f j else if k = j then f i else f k
theorem own_P_at (O : Nat → Nat → UInt64) (σ : Nat → Nat) (i w : Nat) (hw : w < 2) : own_P O σ (2 * i + w) = O w (σ i) := by
  unfold own_P
  rw [show (2 * i + w) % 2 = w by omega, show (2 * i + w) / 2 = i by omega]
theorem own_swI (σ : Nat → Nat) (i j k : Nat) : own_up (own_up (own_I σ) i (own_I σ j)) j (own_I σ i) k = own_I (own_sw σ i j) k := by
  unfold own_up own_I own_sw
  by_cases h1 : k = i
  · by_cases h2 : k = j
    · rw [if_pos h2, if_pos h1, ← h1, ← h2]
    · rw [if_neg h2, if_pos h1, if_pos h1]
  · by_cases h2 : k = j
    · rw [if_pos h2, if_neg h1, if_pos h2]
    · rw [if_neg h2, if_neg h1, if_neg h1, if_neg h2]
/-- what swapping one coordinate leaves -/
def own_s1 (f : Nat → UInt64) (i j w : Nat) : Nat → UInt64 := own_up (own_up f (2 * i + w) (f (2 * j + w))) (2 * j + w) (f (2 * i + w))
theorem own_s1_at (f : Nat → UInt64) (i j w k : Nat) : own_s1 f i j w k = if k = 2 * j + w then f (2 * i + w) else if k = 2 * i + w then f (2 * j + w) else f k := rfl
theorem own_swP (O : Nat → Nat → UInt64) (σ : Nat → Nat) (i j k : Nat) : own_s1 (own_s1 (own_P O σ) i j 0) i j 1 k = own_P O (own_sw σ i j) k := by
  rw [own_s1_at]
  have e0 : own_s1 (own_P O σ) i j 0 (2 * i + 1) = O 1 (σ i) := by
    rw [own_s1_at, if_neg (by omega), if_neg (by omega), own_P_at _ _ _ _ (by decide)]
  have e1 : own_s1 (own_P O σ) i j 0 (2 * j + 1) = O 1 (σ j) := by
    rw [own_s1_at, if_neg (by omega), if_neg (by omega), own_P_at _ _ _ _ (by decide)]
  rw [e0, e1, own_s1_at, own_P_at _ _ _ _ (by decide), own_P_at _ _ _ _ (by decide)]
  unfold own_P own_sw
  by_cases h1 : k = 2 * j + 1
  · rw [if_pos h1, show k % 2 = 1 by omega, show k / 2 = j by omega]
    by_cases h2 : j = i
    · rw [if_pos h2, h2]
    · rw [if_neg h2, if_pos rfl]
  · rw [if_neg h1]
    by_cases h2 : k = 2 * i + 1
    · rw [if_pos h2, show k % 2 = 1 by omega, show k / 2 = i by omega, if_pos rfl]
    · rw [if_neg h2]
      by_cases h3 : k = 2 * j + 0
      · rw [if_pos h3, show k % 2 = 0 by omega, show k / 2 = j by omega]
        by_cases h4 : j = i
        · rw [if_pos h4, h4]
        · rw [if_neg h4, if_pos rfl]
      · rw [if_neg h3]
        by_cases h4 : k = 2 * i + 0
        · rw [if_pos h4, show k % 2 = 0 by omega, show k / 2 = i by omega, if_pos rfl]
        · rw [if_neg h4, if_neg (by omega), if_neg (by omega)]
/-- a fair arrangement, at rest outside of [s, e) -/
def own_ok (s e : Nat) (σ : Nat → Nat) : Prop := (∀ k, k < 18 → σ k < 18) ∧ (∀ d, d < 18 → ∃ k, k < 18 ∧ σ k = d) ∧ ∀ k, k < s ∨ e ≤ k → σ k = k
theorem own_ok_id (s e : Nat) : own_ok s e (fun k => k) := ⟨fun _ h => h, fun d h => ⟨d, h, rfl⟩, fun _ _ => rfl⟩
theorem own_ok_sw {s e i j : Nat} {σ : Nat → Nat} (h : own_ok s e σ) (i1 : s ≤ i) (i2 : i < e) (j1 : s ≤ j) (j2 : j < e) (he : e ≤ 18) : own_ok s e (own_sw σ i j) := by
  obtain ⟨h1, h2, h3⟩ := h
  refine ⟨fun k hk => ?_, fun d hd => ?_, fun k hk => ?_⟩
  · unfold own_sw; split
    · exact h1 _ (by omega)
    · split
      · exact h1 _ (by omega)
      · exact h1 _ hk
  · obtain ⟨k, hk, e1⟩ := h2 d hd
    by_cases a1 : k = i
    · refine ⟨j, by omega, ?_⟩
      unfold own_sw
      by_cases a2 : j = i
      · rw [if_pos a2, a2, ← a1]; exact e1
      · rw [if_neg a2, if_pos rfl, ← a1]; exact e1
    · by_cases a2 : k = j
      · refine ⟨i, by omega, ?_⟩
        unfold own_sw; rw [if_pos rfl, ← a2]; exact e1
      · refine ⟨k, hk, ?_⟩
        unfold own_sw; rw [if_neg a1, if_neg a2]; exact e1
  · unfold own_sw; rw [if_neg (by omega), if_neg (by omega)]; exact h3 k hk
/-- the bits of the ids at the first n places -/
def own_seen (σ : Nat → Nat) : Nat → Int32
  | 0 => 0
  | k + 1 => own_seen σ k ||| ((1 : Int32) <<< (own_I σ k &&& 31))
theorem own_bit : ∀ d : Fin 18, ∀ i : Fin 32, ((1 : Int32) <<< (Int32.ofNat d.1 &&& 31)).toBitVec.getLsbD i.1 = decide (d.1 = i.1) := by decide
theorem own_bits (σ : Nat → Nat) (h : ∀ k, k < 18 → σ k < 18) (i : Nat) (hi : i < 32) : ∀ n, n ≤ 18 → ((own_seen σ n).toBitVec.getLsbD i = true ↔ ∃ k, k < n ∧ σ k = i) := by
  intro n
  induction n with
  | zero =>
    intro _
    refine ⟨fun q => ?_, fun ⟨k, hk, _⟩ => by omega⟩
    exfalso
    have : (own_seen σ 0).toBitVec.getLsbD i = false := by
      show (0 : Int32).toBitVec.getLsbD i = false
      exact BitVec.getLsbD_zero
    rw [this] at q; cases q
  | succ n ih =>
    intro hn
    have e1 : (own_seen σ (n + 1)).toBitVec.getLsbD i = ((own_seen σ n).toBitVec.getLsbD i || ((1 : Int32) <<< (own_I σ n &&& 31)).toBitVec.getLsbD i) := by
      show (own_seen σ n ||| ((1 : Int32) <<< (own_I σ n &&& 31))).toBitVec.getLsbD i = _
      rw [Int32.toBitVec_or, BitVec.getLsbD_or]
    have e2 : ((1 : Int32) <<< (own_I σ n &&& 31)).toBitVec.getLsbD i = decide (σ n = i) := own_bit ⟨σ n, h n (by omega)⟩ ⟨i, hi⟩
    rw [e1, e2, Bool.or_eq_true, ih (by omega), decide_eq_true_iff]
    constructor
    · rintro (⟨k, hk, e⟩ | e)
      · exact ⟨k, by omega, e⟩
      · exact ⟨n, by omega, e⟩
    · rintro ⟨k, hk, e⟩
      by_cases z : k = n
      · exact Or.inr (z ▸ e)
      · exact Or.inl ⟨k, by omega, e⟩
theorem own_all : ∀ i : Fin 32, (262143 : Int32).toBitVec.getLsbD i.1 = decide (i.1 < 18) := by decide
theorem own_seen18 {s e : Nat} {σ : Nat → Nat} (h : own_ok s e σ) : own_seen σ 18 = 262143 := by
  refine Int32.toBitVec_inj.mp (BitVec.eq_of_getLsbD_eq fun i hi => ?_)
  have b := own_bits σ h.1 i hi 18 (by omega)
  rw [own_all ⟨i, hi⟩]
  rw [Bool.eq_iff_iff, b, decide_eq_true_iff]
  constructor
  · rintro ⟨k, hk, e⟩
    have := h.1 k hk
    show i < 18
    omega
  · intro z
    exact h.2.1 i z
theorem own_ix {iv wv : Int32} {i w : Nat} (hi : iv.toInt = (i : Int)) (hw : wv.toInt = (w : Int)) (h1 : i < 18) (h2 : w < 2) : (iv * (2 : Int32) + wv).toInt = ((2 * i + w : Nat) : Int) := by
  have a1 := c_imul iv 2
  rw [show (2 : Int32).toInt = 2 from rfl] at a1
  have := c_iadd (iv * 2) wv
  have := rng32 (iv * 2)
  have := rng32 (iv * 2 + wv)
  omega
theorem own_i1 {iv : Int32} {i : Nat} (hi : iv.toInt = (i : Int)) (h1 : i < 100) : (iv + (1 : Int32)).toInt = ((i + 1 : Nat) : Int) := by
  have := c_iadd iv 1
  have := rng32 (iv + 1)
  have : (1 : Int32).toInt = 1 := rfl
  omega
theorem own_ofNat {k : Nat} (h : k < 100) : (Int32.ofNat k).toInt = (k : Int) := Int32.toInt_ofNat_of_lt (by omega)

theorem dp_0 : decode method_3_code 0 = .ok (.lload 5, 2) := by decide +kernel
theorem dp_2 : decode method_3_code 2 = .ok (.iconst 3, 1) := by decide +kernel
theorem dp_3 : decode method_3_code 3 = .ok (.iload 4, 2) := by decide +kernel
theorem dp_5 : decode method_3_code 5 = .ok (.imul, 1) := by decide +kernel
theorem dp_6 : decode method_3_code 6 = .ok (.lushr, 1) := by decide +kernel
theorem dp_7 : decode method_3_code 7 = .ok (.l2i, 1) := by decide +kernel
theorem dp_8 : decode method_3_code 8 = .ok (.bipush 7, 2) := by decide +kernel
theorem dp_10 : decode method_3_code 10 = .ok (.iand, 1) := by decide +kernel
theorem dp_11 : decode method_3_code 11 = .ok (.iload 11, 2) := by decide +kernel
theorem dp_13 : decode method_3_code 13 = .ok (.iconst 1, 1) := by decide +kernel
theorem dp_14 : decode method_3_code 14 = .ok (.iadd, 1) := by decide +kernel
theorem dp_15 : decode method_3_code 15 = .ok (.irem, 1) := by decide +kernel
theorem dp_16 : decode method_3_code 16 = .ok (.istore 13, 2) := by decide +kernel
theorem dp_18 : decode method_3_code 18 = .ok (.lload 7, 2) := by decide +kernel
theorem dp_20 : decode method_3_code 20 = .ok (.iconst 3, 1) := by decide +kernel
theorem dp_21 : decode method_3_code 21 = .ok (.iload 4, 2) := by decide +kernel
theorem dp_23 : decode method_3_code 23 = .ok (.imul, 1) := by decide +kernel
theorem dp_24 : decode method_3_code 24 = .ok (.lushr, 1) := by decide +kernel
theorem dp_25 : decode method_3_code 25 = .ok (.l2i, 1) := by decide +kernel
theorem dp_26 : decode method_3_code 26 = .ok (.bipush 7, 2) := by decide +kernel
theorem dp_28 : decode method_3_code 28 = .ok (.iand, 1) := by decide +kernel
theorem dp_29 : decode method_3_code 29 = .ok (.iload 12, 2) := by decide +kernel
theorem dp_31 : decode method_3_code 31 = .ok (.iconst 1, 1) := by decide +kernel
theorem dp_32 : decode method_3_code 32 = .ok (.iadd, 1) := by decide +kernel
theorem dp_33 : decode method_3_code 33 = .ok (.irem, 1) := by decide +kernel
theorem dp_34 : decode method_3_code 34 = .ok (.istore 14, 2) := by decide +kernel
theorem dp_36 : decode method_3_code 36 = .ok (.iload 9, 2) := by decide +kernel
theorem dp_38 : decode method_3_code 38 = .ok (.i2l, 1) := by decide +kernel
theorem dp_39 : decode method_3_code 39 = .ok (.iload 13, 2) := by decide +kernel
theorem dp_41 : decode method_3_code 41 = .ok (.i2l, 1) := by decide +kernel
theorem dp_42 : decode method_3_code 42 = .ok (.ladd, 1) := by decide +kernel
theorem dp_43 : decode method_3_code 43 = .ok (.l2d, 1) := by decide +kernel
theorem dp_44 : decode method_3_code 44 = .ok (.dstore 15, 2) := by decide +kernel
theorem dp_46 : decode method_3_code 46 = .ok (.iload 10, 2) := by decide +kernel
theorem dp_48 : decode method_3_code 48 = .ok (.i2l, 1) := by decide +kernel
theorem dp_49 : decode method_3_code 49 = .ok (.iload 14, 2) := by decide +kernel
theorem dp_51 : decode method_3_code 51 = .ok (.i2l, 1) := by decide +kernel
theorem dp_52 : decode method_3_code 52 = .ok (.ladd, 1) := by decide +kernel
theorem dp_53 : decode method_3_code 53 = .ok (.l2d, 1) := by decide +kernel
theorem dp_54 : decode method_3_code 54 = .ok (.dstore 17, 2) := by decide +kernel
theorem dp_56 : decode method_3_code 56 = .ok (.aload_n 0, 1) := by decide +kernel
theorem dp_57 : decode method_3_code 57 = .ok (.iload 4, 2) := by decide +kernel
theorem dp_59 : decode method_3_code 59 = .ok (.iload 4, 2) := by decide +kernel
theorem dp_61 : decode method_3_code 61 = .ok (.iastore, 1) := by decide +kernel
theorem dp_62 : decode method_3_code 62 = .ok (.aload_n 2, 1) := by decide +kernel
theorem dp_63 : decode method_3_code 63 = .ok (.iload 4, 2) := by decide +kernel
theorem dp_65 : decode method_3_code 65 = .ok (.dload 15, 2) := by decide +kernel
theorem dp_67 : decode method_3_code 67 = .ok (.dastore, 1) := by decide +kernel
theorem dp_68 : decode method_3_code 68 = .ok (.aload_n 3, 1) := by decide +kernel
theorem dp_69 : decode method_3_code 69 = .ok (.iload 4, 2) := by decide +kernel
theorem dp_71 : decode method_3_code 71 = .ok (.dload 17, 2) := by decide +kernel
theorem dp_73 : decode method_3_code 73 = .ok (.dastore, 1) := by decide +kernel
theorem dp_74 : decode method_3_code 74 = .ok (.aload_n 1, 1) := by decide +kernel
theorem dp_75 : decode method_3_code 75 = .ok (.iconst 2, 1) := by decide +kernel
theorem dp_76 : decode method_3_code 76 = .ok (.iload 4, 2) := by decide +kernel
theorem dp_78 : decode method_3_code 78 = .ok (.imul, 1) := by decide +kernel
theorem dp_79 : decode method_3_code 79 = .ok (.dload 15, 2) := by decide +kernel
theorem dp_81 : decode method_3_code 81 = .ok (.dastore, 1) := by decide +kernel
theorem dp_82 : decode method_3_code 82 = .ok (.aload_n 1, 1) := by decide +kernel
theorem dp_83 : decode method_3_code 83 = .ok (.iconst 2, 1) := by decide +kernel
theorem dp_84 : decode method_3_code 84 = .ok (.iload 4, 2) := by decide +kernel
theorem dp_86 : decode method_3_code 86 = .ok (.imul, 1) := by decide +kernel
theorem dp_87 : decode method_3_code 87 = .ok (.iconst 1, 1) := by decide +kernel
theorem dp_88 : decode method_3_code 88 = .ok (.iadd, 1) := by decide +kernel
theorem dp_89 : decode method_3_code 89 = .ok (.dload 17, 2) := by decide +kernel
theorem dp_91 : decode method_3_code 91 = .ok (.dastore, 1) := by decide +kernel
theorem dp_92 : decode method_3_code 92 = .ok (.return_, 1) := by decide +kernel
theorem di_0 : decode prog_13_method_1_code 0 = .ok (.aload_n 0, 1) := by decide +kernel
theorem di_1 : decode prog_13_method_1_code 1 = .ok (.invokespecial 1, 3) := by decide +kernel
theorem di_4 : decode prog_13_method_1_code 4 = .ok (.aload_n 0, 1) := by decide +kernel
theorem di_5 : decode prog_13_method_1_code 5 = .ok (.iload_n 1, 1) := by decide +kernel
theorem di_6 : decode prog_13_method_1_code 6 = .ok (.putfield 7, 3) := by decide +kernel
theorem di_9 : decode prog_13_method_1_code 9 = .ok (.aload_n 0, 1) := by decide +kernel
theorem di_10 : decode prog_13_method_1_code 10 = .ok (.aload_n 2, 1) := by decide +kernel
theorem di_11 : decode prog_13_method_1_code 11 = .ok (.putfield 13, 3) := by decide +kernel
theorem di_14 : decode prog_13_method_1_code 14 = .ok (.aload_n 0, 1) := by decide +kernel
theorem di_15 : decode prog_13_method_1_code 15 = .ok (.aload_n 3, 1) := by decide +kernel
theorem di_16 : decode prog_13_method_1_code 16 = .ok (.putfield 17, 3) := by decide +kernel
theorem di_19 : decode prog_13_method_1_code 19 = .ok (.iload 4, 2) := by decide +kernel
theorem di_21 : decode prog_13_method_1_code 21 = .ok (.iconst 4, 1) := by decide +kernel
theorem di_22 : decode prog_13_method_1_code 22 = .ok (.aload_n 2, 1) := by decide +kernel
theorem di_23 : decode prog_13_method_1_code 23 = .ok (.arraylength, 1) := by decide +kernel
theorem di_24 : decode prog_13_method_1_code 24 = .ok (.imul, 1) := by decide +kernel
theorem di_25 : decode prog_13_method_1_code 25 = .ok (.bipush 16, 2) := by decide +kernel
theorem di_27 : decode prog_13_method_1_code 27 = .ok (.idiv, 1) := by decide +kernel
theorem di_28 : decode prog_13_method_1_code 28 = .ok (.iadd, 1) := by decide +kernel
theorem di_29 : decode prog_13_method_1_code 29 = .ok (.iconst 1, 1) := by decide +kernel
theorem di_30 : decode prog_13_method_1_code 30 = .ok (.iadd, 1) := by decide +kernel
theorem di_31 : decode prog_13_method_1_code 31 = .ok (.istore 5, 2) := by decide +kernel
theorem di_33 : decode prog_13_method_1_code 33 = .ok (.aload_n 0, 1) := by decide +kernel
theorem di_34 : decode prog_13_method_1_code 34 = .ok (.iload 5, 2) := by decide +kernel
theorem di_36 : decode prog_13_method_1_code 36 = .ok (.newarray .int, 2) := by decide +kernel
theorem di_38 : decode prog_13_method_1_code 38 = .ok (.putfield 21, 3) := by decide +kernel
theorem di_41 : decode prog_13_method_1_code 41 = .ok (.aload_n 0, 1) := by decide +kernel
theorem di_42 : decode prog_13_method_1_code 42 = .ok (.iload 5, 2) := by decide +kernel
theorem di_44 : decode prog_13_method_1_code 44 = .ok (.newarray .int, 2) := by decide +kernel
theorem di_46 : decode prog_13_method_1_code 46 = .ok (.putfield 24, 3) := by decide +kernel
theorem di_49 : decode prog_13_method_1_code 49 = .ok (.aload_n 0, 1) := by decide +kernel
theorem di_50 : decode prog_13_method_1_code 50 = .ok (.iload 5, 2) := by decide +kernel
theorem di_52 : decode prog_13_method_1_code 52 = .ok (.newarray .int, 2) := by decide +kernel
theorem di_54 : decode prog_13_method_1_code 54 = .ok (.putfield 27, 3) := by decide +kernel
theorem di_57 : decode prog_13_method_1_code 57 = .ok (.aload_n 0, 1) := by decide +kernel
theorem di_58 : decode prog_13_method_1_code 58 = .ok (.iload 5, 2) := by decide +kernel
theorem di_60 : decode prog_13_method_1_code 60 = .ok (.newarray .int, 2) := by decide +kernel
theorem di_62 : decode prog_13_method_1_code 62 = .ok (.putfield 30, 3) := by decide +kernel
theorem di_65 : decode prog_13_method_1_code 65 = .ok (.aload_n 0, 1) := by decide +kernel
theorem di_66 : decode prog_13_method_1_code 66 = .ok (.iload 5, 2) := by decide +kernel
theorem di_68 : decode prog_13_method_1_code 68 = .ok (.iload_n 1, 1) := by decide +kernel
theorem di_69 : decode prog_13_method_1_code 69 = .ok (.imul, 1) := by decide +kernel
theorem di_70 : decode prog_13_method_1_code 70 = .ok (.newarray .double, 2) := by decide +kernel
theorem di_72 : decode prog_13_method_1_code 72 = .ok (.putfield 33, 3) := by decide +kernel
theorem di_75 : decode prog_13_method_1_code 75 = .ok (.return_, 1) := by decide +kernel
theorem ds_0 : decode prog_13_method_3_code 0 = .ok (.aload_n 0, 1) := by decide +kernel
theorem ds_1 : decode prog_13_method_3_code 1 = .ok (.dup, 1) := by decide +kernel
theorem ds_2 : decode prog_13_method_3_code 2 = .ok (.getfield 57, 3) := by decide +kernel
theorem ds_5 : decode prog_13_method_3_code 5 = .ok (.dup_x1, 1) := by decide +kernel
theorem ds_6 : decode prog_13_method_3_code 6 = .ok (.iconst 1, 1) := by decide +kernel
theorem ds_7 : decode prog_13_method_3_code 7 = .ok (.iadd, 1) := by decide +kernel
theorem ds_8 : decode prog_13_method_3_code 8 = .ok (.putfield 57, 3) := by decide +kernel
theorem ds_11 : decode prog_13_method_3_code 11 = .ok (.istore 6, 2) := by decide +kernel
theorem ds_13 : decode prog_13_method_3_code 13 = .ok (.aload_n 0, 1) := by decide +kernel
theorem ds_14 : decode prog_13_method_3_code 14 = .ok (.getfield 21, 3) := by decide +kernel
theorem ds_17 : decode prog_13_method_3_code 17 = .ok (.iload 6, 2) := by decide +kernel
theorem ds_19 : decode prog_13_method_3_code 19 = .ok (.iload_n 1, 1) := by decide +kernel
theorem ds_20 : decode prog_13_method_3_code 20 = .ok (.iastore, 1) := by decide +kernel
theorem ds_21 : decode prog_13_method_3_code 21 = .ok (.aload_n 0, 1) := by decide +kernel
theorem ds_22 : decode prog_13_method_3_code 22 = .ok (.getfield 24, 3) := by decide +kernel
theorem ds_25 : decode prog_13_method_3_code 25 = .ok (.iload 6, 2) := by decide +kernel
theorem ds_27 : decode prog_13_method_3_code 27 = .ok (.iload_n 2, 1) := by decide +kernel
theorem ds_28 : decode prog_13_method_3_code 28 = .ok (.iastore, 1) := by decide +kernel
theorem ds_29 : decode prog_13_method_3_code 29 = .ok (.aload_n 0, 1) := by decide +kernel
theorem ds_30 : decode prog_13_method_3_code 30 = .ok (.getfield 27, 3) := by decide +kernel
theorem ds_33 : decode prog_13_method_3_code 33 = .ok (.iload 6, 2) := by decide +kernel
theorem ds_35 : decode prog_13_method_3_code 35 = .ok (.iconst (-1), 1) := by decide +kernel
theorem ds_36 : decode prog_13_method_3_code 36 = .ok (.iastore, 1) := by decide +kernel
theorem ds_37 : decode prog_13_method_3_code 37 = .ok (.aload_n 0, 1) := by decide +kernel
theorem ds_38 : decode prog_13_method_3_code 38 = .ok (.getfield 30, 3) := by decide +kernel
theorem ds_41 : decode prog_13_method_3_code 41 = .ok (.iload 6, 2) := by decide +kernel
theorem ds_43 : decode prog_13_method_3_code 43 = .ok (.iconst (-1), 1) := by decide +kernel
theorem ds_44 : decode prog_13_method_3_code 44 = .ok (.iastore, 1) := by decide +kernel
theorem ds_45 : decode prog_13_method_3_code 45 = .ok (.iload_n 2, 1) := by decide +kernel
theorem ds_46 : decode prog_13_method_3_code 46 = .ok (.iload_n 1, 1) := by decide +kernel
theorem ds_47 : decode prog_13_method_3_code 47 = .ok (.isub, 1) := by decide +kernel
theorem ds_48 : decode prog_13_method_3_code 48 = .ok (.bipush 16, 2) := by decide +kernel
theorem ds_50 : decode prog_13_method_3_code 50 = .ok (.if_icmp .le 10, 3) := by decide +kernel
theorem ds_53 : decode prog_13_method_3_code 53 = .ok (.aload_n 0, 1) := by decide +kernel
theorem ds_54 : decode prog_13_method_3_code 54 = .ok (.getfield 7, 3) := by decide +kernel
theorem ds_57 : decode prog_13_method_3_code 57 = .ok (.ifCond .ne 6, 3) := by decide +kernel
theorem ds_60 : decode prog_13_method_3_code 60 = .ok (.iload 6, 2) := by decide +kernel
theorem ds_62 : decode prog_13_method_3_code 62 = .ok (.ireturn, 1) := by decide +kernel
theorem ds_63 : decode prog_13_method_3_code 63 = .ok (.iconst 0, 1) := by decide +kernel
theorem ds_64 : decode prog_13_method_3_code 64 = .ok (.istore 7, 2) := by decide +kernel
theorem ds_66 : decode prog_13_method_3_code 66 = .ok (.ldc2_w 60, 3) := by decide +kernel
theorem ds_69 : decode prog_13_method_3_code 69 = .ok (.dstore 8, 2) := by decide +kernel
theorem ds_71 : decode prog_13_method_3_code 71 = .ok (.iconst 0, 1) := by decide +kernel
theorem ds_72 : decode prog_13_method_3_code 72 = .ok (.istore 10, 2) := by decide +kernel
theorem ds_74 : decode prog_13_method_3_code 74 = .ok (.iload 10, 2) := by decide +kernel
theorem ds_76 : decode prog_13_method_3_code 76 = .ok (.aload_n 0, 1) := by decide +kernel
theorem ds_77 : decode prog_13_method_3_code 77 = .ok (.getfield 7, 3) := by decide +kernel
theorem ds_80 : decode prog_13_method_3_code 80 = .ok (.if_icmp .ge 57, 3) := by decide +kernel
theorem ds_83 : decode prog_13_method_3_code 83 = .ok (.aload 5, 2) := by decide +kernel
theorem ds_85 : decode prog_13_method_3_code 85 = .ok (.iload 10, 2) := by decide +kernel
theorem ds_87 : decode prog_13_method_3_code 87 = .ok (.daload, 1) := by decide +kernel
theorem ds_88 : decode prog_13_method_3_code 88 = .ok (.dconst 0, 1) := by decide +kernel
theorem ds_89 : decode prog_13_method_3_code 89 = .ok (.dcmp .l, 1) := by decide +kernel
theorem ds_90 : decode prog_13_method_3_code 90 = .ok (.ifCond .le 22, 3) := by decide +kernel
theorem ds_93 : decode prog_13_method_3_code 93 = .ok (.aload 4, 2) := by decide +kernel
theorem ds_95 : decode prog_13_method_3_code 95 = .ok (.iload 10, 2) := by decide +kernel
theorem ds_97 : decode prog_13_method_3_code 97 = .ok (.daload, 1) := by decide +kernel
theorem ds_98 : decode prog_13_method_3_code 98 = .ok (.aload_n 3, 1) := by decide +kernel
theorem ds_99 : decode prog_13_method_3_code 99 = .ok (.iload 10, 2) := by decide +kernel
theorem ds_101 : decode prog_13_method_3_code 101 = .ok (.daload, 1) := by decide +kernel
theorem ds_102 : decode prog_13_method_3_code 102 = .ok (.dsub, 1) := by decide +kernel
theorem ds_103 : decode prog_13_method_3_code 103 = .ok (.aload 5, 2) := by decide +kernel
theorem ds_105 : decode prog_13_method_3_code 105 = .ok (.iload 10, 2) := by decide +kernel
theorem ds_107 : decode prog_13_method_3_code 107 = .ok (.daload, 1) := by decide +kernel
theorem ds_108 : decode prog_13_method_3_code 108 = .ok (.ddiv, 1) := by decide +kernel
theorem ds_109 : decode prog_13_method_3_code 109 = .ok (.goto 4, 3) := by decide +kernel
theorem ds_112 : decode prog_13_method_3_code 112 = .ok (.dconst 0, 1) := by decide +kernel
theorem ds_113 : decode prog_13_method_3_code 113 = .ok (.dstore 11, 2) := by decide +kernel
theorem ds_115 : decode prog_13_method_3_code 115 = .ok (.dload 11, 2) := by decide +kernel
theorem ds_117 : decode prog_13_method_3_code 117 = .ok (.dload 8, 2) := by decide +kernel
theorem ds_119 : decode prog_13_method_3_code 119 = .ok (.dcmp .l, 1) := by decide +kernel
theorem ds_120 : decode prog_13_method_3_code 120 = .ok (.ifCond .le 11, 3) := by decide +kernel
theorem ds_123 : decode prog_13_method_3_code 123 = .ok (.iload 10, 2) := by decide +kernel
theorem ds_125 : decode prog_13_method_3_code 125 = .ok (.istore 7, 2) := by decide +kernel
theorem ds_127 : decode prog_13_method_3_code 127 = .ok (.dload 11, 2) := by decide +kernel
theorem ds_129 : decode prog_13_method_3_code 129 = .ok (.dstore 8, 2) := by decide +kernel
theorem ds_131 : decode prog_13_method_3_code 131 = .ok (.iinc 10 1, 3) := by decide +kernel
theorem ds_134 : decode prog_13_method_3_code 134 = .ok (.goto (-60), 3) := by decide +kernel
theorem ds_137 : decode prog_13_method_3_code 137 = .ok (.iload_n 1, 1) := by decide +kernel
theorem ds_138 : decode prog_13_method_3_code 138 = .ok (.iload_n 2, 1) := by decide +kernel
theorem ds_139 : decode prog_13_method_3_code 139 = .ok (.iadd, 1) := by decide +kernel
theorem ds_140 : decode prog_13_method_3_code 140 = .ok (.iconst 1, 1) := by decide +kernel
theorem ds_141 : decode prog_13_method_3_code 141 = .ok (.iushr, 1) := by decide +kernel
theorem ds_142 : decode prog_13_method_3_code 142 = .ok (.istore 10, 2) := by decide +kernel
theorem ds_144 : decode prog_13_method_3_code 144 = .ok (.aload_n 0, 1) := by decide +kernel
theorem ds_145 : decode prog_13_method_3_code 145 = .ok (.iload_n 1, 1) := by decide +kernel
theorem ds_146 : decode prog_13_method_3_code 146 = .ok (.iload_n 2, 1) := by decide +kernel
theorem ds_147 : decode prog_13_method_3_code 147 = .ok (.iload 10, 2) := by decide +kernel
theorem ds_149 : decode prog_13_method_3_code 149 = .ok (.iload 7, 2) := by decide +kernel
theorem ds_151 : decode prog_13_method_3_code 151 = .ok (.invokevirtual 62, 3) := by decide +kernel
theorem ds_154 : decode prog_13_method_3_code 154 = .ok (.aload_n 0, 1) := by decide +kernel
theorem ds_155 : decode prog_13_method_3_code 155 = .ok (.getfield 17, 3) := by decide +kernel
theorem ds_158 : decode prog_13_method_3_code 158 = .ok (.iload 10, 2) := by decide +kernel
theorem ds_160 : decode prog_13_method_3_code 160 = .ok (.aload_n 0, 1) := by decide +kernel
theorem ds_161 : decode prog_13_method_3_code 161 = .ok (.getfield 7, 3) := by decide +kernel
theorem ds_164 : decode prog_13_method_3_code 164 = .ok (.imul, 1) := by decide +kernel
theorem ds_165 : decode prog_13_method_3_code 165 = .ok (.iload 7, 2) := by decide +kernel
theorem ds_167 : decode prog_13_method_3_code 167 = .ok (.iadd, 1) := by decide +kernel
theorem ds_168 : decode prog_13_method_3_code 168 = .ok (.daload, 1) := by decide +kernel
theorem ds_169 : decode prog_13_method_3_code 169 = .ok (.dstore 11, 2) := by decide +kernel
theorem ds_171 : decode prog_13_method_3_code 171 = .ok (.aload 4, 2) := by decide +kernel
theorem ds_173 : decode prog_13_method_3_code 173 = .ok (.invokevirtual 66, 3) := by decide +kernel
theorem ds_176 : decode prog_13_method_3_code 176 = .ok (.checkcast 67, 3) := by decide +kernel
theorem ds_179 : decode prog_13_method_3_code 179 = .ok (.astore 13, 2) := by decide +kernel
theorem ds_181 : decode prog_13_method_3_code 181 = .ok (.aload 13, 2) := by decide +kernel
theorem ds_183 : decode prog_13_method_3_code 183 = .ok (.iload 7, 2) := by decide +kernel
theorem ds_185 : decode prog_13_method_3_code 185 = .ok (.dload 11, 2) := by decide +kernel
theorem ds_187 : decode prog_13_method_3_code 187 = .ok (.dastore, 1) := by decide +kernel
theorem ds_188 : decode prog_13_method_3_code 188 = .ok (.aload_n 0, 1) := by decide +kernel
theorem ds_189 : decode prog_13_method_3_code 189 = .ok (.getfield 27, 3) := by decide +kernel
theorem ds_192 : decode prog_13_method_3_code 192 = .ok (.iload 6, 2) := by decide +kernel
theorem ds_194 : decode prog_13_method_3_code 194 = .ok (.aload_n 0, 1) := by decide +kernel
theorem ds_195 : decode prog_13_method_3_code 195 = .ok (.iload_n 1, 1) := by decide +kernel
theorem ds_196 : decode prog_13_method_3_code 196 = .ok (.iload 10, 2) := by decide +kernel
theorem ds_198 : decode prog_13_method_3_code 198 = .ok (.aload_n 3, 1) := by decide +kernel
theorem ds_199 : decode prog_13_method_3_code 199 = .ok (.aload 13, 2) := by decide +kernel
theorem ds_201 : decode prog_13_method_3_code 201 = .ok (.aload 5, 2) := by decide +kernel
theorem ds_203 : decode prog_13_method_3_code 203 = .ok (.invokevirtual 71, 3) := by decide +kernel
theorem ds_206 : decode prog_13_method_3_code 206 = .ok (.iastore, 1) := by decide +kernel
theorem ds_207 : decode prog_13_method_3_code 207 = .ok (.aload_n 3, 1) := by decide +kernel
theorem ds_208 : decode prog_13_method_3_code 208 = .ok (.invokevirtual 66, 3) := by decide +kernel
theorem ds_211 : decode prog_13_method_3_code 211 = .ok (.checkcast 67, 3) := by decide +kernel
theorem ds_214 : decode prog_13_method_3_code 214 = .ok (.astore 14, 2) := by decide +kernel
theorem ds_216 : decode prog_13_method_3_code 216 = .ok (.aload 14, 2) := by decide +kernel
theorem ds_218 : decode prog_13_method_3_code 218 = .ok (.iload 7, 2) := by decide +kernel
theorem ds_220 : decode prog_13_method_3_code 220 = .ok (.dload 11, 2) := by decide +kernel
theorem ds_222 : decode prog_13_method_3_code 222 = .ok (.dastore, 1) := by decide +kernel
theorem ds_223 : decode prog_13_method_3_code 223 = .ok (.aload_n 0, 1) := by decide +kernel
theorem ds_224 : decode prog_13_method_3_code 224 = .ok (.getfield 30, 3) := by decide +kernel
theorem ds_227 : decode prog_13_method_3_code 227 = .ok (.iload 6, 2) := by decide +kernel
theorem ds_229 : decode prog_13_method_3_code 229 = .ok (.aload_n 0, 1) := by decide +kernel
theorem ds_230 : decode prog_13_method_3_code 230 = .ok (.iload 10, 2) := by decide +kernel
theorem ds_232 : decode prog_13_method_3_code 232 = .ok (.iload_n 2, 1) := by decide +kernel
theorem ds_233 : decode prog_13_method_3_code 233 = .ok (.aload 14, 2) := by decide +kernel
theorem ds_235 : decode prog_13_method_3_code 235 = .ok (.aload 4, 2) := by decide +kernel
theorem ds_237 : decode prog_13_method_3_code 237 = .ok (.aload 5, 2) := by decide +kernel
theorem ds_239 : decode prog_13_method_3_code 239 = .ok (.invokevirtual 71, 3) := by decide +kernel
theorem ds_242 : decode prog_13_method_3_code 242 = .ok (.iastore, 1) := by decide +kernel
theorem ds_243 : decode prog_13_method_3_code 243 = .ok (.iload 6, 2) := by decide +kernel
theorem ds_245 : decode prog_13_method_3_code 245 = .ok (.ireturn, 1) := by decide +kernel
theorem dw_0 : decode method_4_code 0 = .ok (.iload_n 3, 1) := by decide +kernel
theorem dw_1 : decode method_4_code 1 = .ok (.ifCond .ne 5, 3) := by decide +kernel
theorem dw_4 : decode method_4_code 4 = .ok (.iconst 0, 1) := by decide +kernel
theorem dw_5 : decode method_4_code 5 = .ok (.ireturn, 1) := by decide +kernel
theorem dw_6 : decode method_4_code 6 = .ok (.iload_n 2, 1) := by decide +kernel
theorem dw_7 : decode method_4_code 7 = .ok (.ifCond .ne 13, 3) := by decide +kernel
theorem dw_10 : decode method_4_code 10 = .ok (.iload_n 1, 1) := by decide +kernel
theorem dw_11 : decode method_4_code 11 = .ok (.ifCond .le 7, 3) := by decide +kernel
theorem dw_14 : decode method_4_code 14 = .ok (.iconst 1, 1) := by decide +kernel
theorem dw_15 : decode method_4_code 15 = .ok (.goto 4, 3) := by decide +kernel
theorem dw_18 : decode method_4_code 18 = .ok (.iconst 0, 1) := by decide +kernel
theorem dw_19 : decode method_4_code 19 = .ok (.ireturn, 1) := by decide +kernel
theorem dw_20 : decode method_4_code 20 = .ok (.iload_n 1, 1) := by decide +kernel
theorem dw_21 : decode method_4_code 21 = .ok (.i2l, 1) := by decide +kernel
theorem dw_22 : decode method_4_code 22 = .ok (.iload_n 2, 1) := by decide +kernel
theorem dw_23 : decode method_4_code 23 = .ok (.i2l, 1) := by decide +kernel
theorem dw_24 : decode method_4_code 24 = .ok (.lmul, 1) := by decide +kernel
theorem dw_25 : decode method_4_code 25 = .ok (.iload_n 0, 1) := by decide +kernel
theorem dw_26 : decode method_4_code 26 = .ok (.i2l, 1) := by decide +kernel
theorem dw_27 : decode method_4_code 27 = .ok (.iload_n 3, 1) := by decide +kernel
theorem dw_28 : decode method_4_code 28 = .ok (.i2l, 1) := by decide +kernel
theorem dw_29 : decode method_4_code 29 = .ok (.lmul, 1) := by decide +kernel
theorem dw_30 : decode method_4_code 30 = .ok (.lcmp, 1) := by decide +kernel
theorem dw_31 : decode method_4_code 31 = .ok (.ifCond .le 7, 3) := by decide +kernel
theorem dw_34 : decode method_4_code 34 = .ok (.iconst 1, 1) := by decide +kernel
theorem dw_35 : decode method_4_code 35 = .ok (.goto 4, 3) := by decide +kernel
theorem dw_38 : decode method_4_code 38 = .ok (.iconst 0, 1) := by decide +kernel
theorem dw_39 : decode method_4_code 39 = .ok (.ireturn, 1) := by decide +kernel
theorem dq_0 : decode method_5_code 0 = .ok (.aload_n 0, 1) := by decide +kernel
theorem dq_1 : decode method_5_code 1 = .ok (.getfield 44, 3) := by decide +kernel
theorem dq_4 : decode method_5_code 4 = .ok (.iload_n 1, 1) := by decide +kernel
theorem dq_5 : decode method_5_code 5 = .ok (.iaload, 1) := by decide +kernel
theorem dq_6 : decode method_5_code 6 = .ok (.istore 9, 2) := by decide +kernel
theorem dq_8 : decode method_5_code 8 = .ok (.iload 9, 2) := by decide +kernel
theorem dq_10 : decode method_5_code 10 = .ok (.ifCond .lt 10, 3) := by decide +kernel
theorem dq_13 : decode method_5_code 13 = .ok (.iload 9, 2) := by decide +kernel
theorem dq_15 : decode method_5_code 15 = .ok (.bipush 18, 2) := by decide +kernel
theorem dq_17 : decode method_5_code 17 = .ok (.if_icmp .lt 5, 3) := by decide +kernel
theorem dq_20 : decode method_5_code 20 = .ok (.iconst 0, 1) := by decide +kernel
theorem dq_21 : decode method_5_code 21 = .ok (.ireturn, 1) := by decide +kernel
theorem dq_22 : decode method_5_code 22 = .ok (.iload_n 1, 1) := by decide +kernel
theorem dq_23 : decode method_5_code 23 = .ok (.iload_n 2, 1) := by decide +kernel
theorem dq_24 : decode method_5_code 24 = .ok (.if_icmp .lt 13, 3) := by decide +kernel
theorem dq_27 : decode method_5_code 27 = .ok (.iload_n 1, 1) := by decide +kernel
theorem dq_28 : decode method_5_code 28 = .ok (.iload 4, 2) := by decide +kernel
theorem dq_30 : decode method_5_code 30 = .ok (.if_icmp .ge 7, 3) := by decide +kernel
theorem dq_33 : decode method_5_code 33 = .ok (.iconst 1, 1) := by decide +kernel
theorem dq_34 : decode method_5_code 34 = .ok (.goto 4, 3) := by decide +kernel
theorem dq_37 : decode method_5_code 37 = .ok (.iconst 0, 1) := by decide +kernel
theorem dq_38 : decode method_5_code 38 = .ok (.istore 10, 2) := by decide +kernel
theorem dq_40 : decode method_5_code 40 = .ok (.iload 10, 2) := by decide +kernel
theorem dq_42 : decode method_5_code 42 = .ok (.ifCond .eq 8, 3) := by decide +kernel
theorem dq_45 : decode method_5_code 45 = .ok (.iload 8, 2) := by decide +kernel
theorem dq_47 : decode method_5_code 47 = .ok (.ifCond .ne 11, 3) := by decide +kernel
theorem dq_50 : decode method_5_code 50 = .ok (.iload 9, 2) := by decide +kernel
theorem dq_52 : decode method_5_code 52 = .ok (.iload_n 1, 1) := by decide +kernel
theorem dq_53 : decode method_5_code 53 = .ok (.if_icmp .eq 5, 3) := by decide +kernel
theorem dq_56 : decode method_5_code 56 = .ok (.iconst 0, 1) := by decide +kernel
theorem dq_57 : decode method_5_code 57 = .ok (.ireturn, 1) := by decide +kernel
theorem dq_58 : decode method_5_code 58 = .ok (.aload_n 0, 1) := by decide +kernel
theorem dq_59 : decode method_5_code 59 = .ok (.getfield 47, 3) := by decide +kernel
theorem dq_62 : decode method_5_code 62 = .ok (.iconst 2, 1) := by decide +kernel
theorem dq_63 : decode method_5_code 63 = .ok (.iload_n 1, 1) := by decide +kernel
theorem dq_64 : decode method_5_code 64 = .ok (.imul, 1) := by decide +kernel
theorem dq_65 : decode method_5_code 65 = .ok (.daload, 1) := by decide +kernel
theorem dq_66 : decode method_5_code 66 = .ok (.aload 6, 2) := by decide +kernel
theorem dq_68 : decode method_5_code 68 = .ok (.iload 9, 2) := by decide +kernel
theorem dq_70 : decode method_5_code 70 = .ok (.daload, 1) := by decide +kernel
theorem dq_71 : decode method_5_code 71 = .ok (.dcmp .l, 1) := by decide +kernel
theorem dq_72 : decode method_5_code 72 = .ok (.ifCond .ne 22, 3) := by decide +kernel
theorem dq_75 : decode method_5_code 75 = .ok (.aload_n 0, 1) := by decide +kernel
theorem dq_76 : decode method_5_code 76 = .ok (.getfield 47, 3) := by decide +kernel
theorem dq_79 : decode method_5_code 79 = .ok (.iconst 2, 1) := by decide +kernel
theorem dq_80 : decode method_5_code 80 = .ok (.iload_n 1, 1) := by decide +kernel
theorem dq_81 : decode method_5_code 81 = .ok (.imul, 1) := by decide +kernel
theorem dq_82 : decode method_5_code 82 = .ok (.iconst 1, 1) := by decide +kernel
theorem dq_83 : decode method_5_code 83 = .ok (.iadd, 1) := by decide +kernel
theorem dq_84 : decode method_5_code 84 = .ok (.daload, 1) := by decide +kernel
theorem dq_85 : decode method_5_code 85 = .ok (.aload 7, 2) := by decide +kernel
theorem dq_87 : decode method_5_code 87 = .ok (.iload 9, 2) := by decide +kernel
theorem dq_89 : decode method_5_code 89 = .ok (.daload, 1) := by decide +kernel
theorem dq_90 : decode method_5_code 90 = .ok (.dcmp .l, 1) := by decide +kernel
theorem dq_91 : decode method_5_code 91 = .ok (.ifCond .eq 5, 3) := by decide +kernel
theorem dq_94 : decode method_5_code 94 = .ok (.iconst 0, 1) := by decide +kernel
theorem dq_95 : decode method_5_code 95 = .ok (.ireturn, 1) := by decide +kernel
theorem dq_96 : decode method_5_code 96 = .ok (.iload 8, 2) := by decide +kernel
theorem dq_98 : decode method_5_code 98 = .ok (.ifCond .eq 64, 3) := by decide +kernel
theorem dq_101 : decode method_5_code 101 = .ok (.iload 10, 2) := by decide +kernel
theorem dq_103 : decode method_5_code 103 = .ok (.ifCond .eq 59, 3) := by decide +kernel
theorem dq_106 : decode method_5_code 106 = .ok (.aload_n 0, 1) := by decide +kernel
theorem dq_107 : decode method_5_code 107 = .ok (.getfield 47, 3) := by decide +kernel
theorem dq_110 : decode method_5_code 110 = .ok (.iconst 2, 1) := by decide +kernel
theorem dq_111 : decode method_5_code 111 = .ok (.iload_n 3, 1) := by decide +kernel
theorem dq_112 : decode method_5_code 112 = .ok (.imul, 1) := by decide +kernel
theorem dq_113 : decode method_5_code 113 = .ok (.iload 5, 2) := by decide +kernel
theorem dq_115 : decode method_5_code 115 = .ok (.iadd, 1) := by decide +kernel
theorem dq_116 : decode method_5_code 116 = .ok (.daload, 1) := by decide +kernel
theorem dq_117 : decode method_5_code 117 = .ok (.dstore 11, 2) := by decide +kernel
theorem dq_119 : decode method_5_code 119 = .ok (.aload_n 0, 1) := by decide +kernel
theorem dq_120 : decode method_5_code 120 = .ok (.getfield 47, 3) := by decide +kernel
theorem dq_123 : decode method_5_code 123 = .ok (.iconst 2, 1) := by decide +kernel
theorem dq_124 : decode method_5_code 124 = .ok (.iload_n 1, 1) := by decide +kernel
theorem dq_125 : decode method_5_code 125 = .ok (.imul, 1) := by decide +kernel
theorem dq_126 : decode method_5_code 126 = .ok (.iload 5, 2) := by decide +kernel
theorem dq_128 : decode method_5_code 128 = .ok (.iadd, 1) := by decide +kernel
theorem dq_129 : decode method_5_code 129 = .ok (.daload, 1) := by decide +kernel
theorem dq_130 : decode method_5_code 130 = .ok (.dstore 13, 2) := by decide +kernel
theorem dq_132 : decode method_5_code 132 = .ok (.iload_n 1, 1) := by decide +kernel
theorem dq_133 : decode method_5_code 133 = .ok (.iload_n 3, 1) := by decide +kernel
theorem dq_134 : decode method_5_code 134 = .ok (.if_icmp .ge 13, 3) := by decide +kernel
theorem dq_137 : decode method_5_code 137 = .ok (.dload 13, 2) := by decide +kernel
theorem dq_139 : decode method_5_code 139 = .ok (.dload 11, 2) := by decide +kernel
theorem dq_141 : decode method_5_code 141 = .ok (.dcmp .l, 1) := by decide +kernel
theorem dq_142 : decode method_5_code 142 = .ok (.ifCond .le 5, 3) := by decide +kernel
theorem dq_145 : decode method_5_code 145 = .ok (.iconst 0, 1) := by decide +kernel
theorem dq_146 : decode method_5_code 146 = .ok (.ireturn, 1) := by decide +kernel
theorem dq_147 : decode method_5_code 147 = .ok (.iload_n 1, 1) := by decide +kernel
theorem dq_148 : decode method_5_code 148 = .ok (.iload_n 3, 1) := by decide +kernel
theorem dq_149 : decode method_5_code 149 = .ok (.if_icmp .le 13, 3) := by decide +kernel
theorem dq_152 : decode method_5_code 152 = .ok (.dload 13, 2) := by decide +kernel
theorem dq_154 : decode method_5_code 154 = .ok (.dload 11, 2) := by decide +kernel
theorem dq_156 : decode method_5_code 156 = .ok (.dcmp .g, 1) := by decide +kernel
theorem dq_157 : decode method_5_code 157 = .ok (.ifCond .ge 5, 3) := by decide +kernel
theorem dq_160 : decode method_5_code 160 = .ok (.iconst 0, 1) := by decide +kernel
theorem dq_161 : decode method_5_code 161 = .ok (.ireturn, 1) := by decide +kernel
theorem dq_162 : decode method_5_code 162 = .ok (.iconst 1, 1) := by decide +kernel
theorem dq_163 : decode method_5_code 163 = .ok (.iload 9, 2) := by decide +kernel
theorem dq_165 : decode method_5_code 165 = .ok (.ishl, 1) := by decide +kernel
theorem dq_166 : decode method_5_code 166 = .ok (.ireturn, 1) := by decide +kernel
theorem dm_0 : decode prog_13_method_5_code 0 = .ok (.iload_n 1, 1) := by decide +kernel
theorem dm_1 : decode prog_13_method_5_code 1 = .ok (.istore 5, 2) := by decide +kernel
theorem dm_3 : decode prog_13_method_5_code 3 = .ok (.iload_n 2, 1) := by decide +kernel
theorem dm_4 : decode prog_13_method_5_code 4 = .ok (.iconst 1, 1) := by decide +kernel
theorem dm_5 : decode prog_13_method_5_code 5 = .ok (.isub, 1) := by decide +kernel
theorem dm_6 : decode prog_13_method_5_code 6 = .ok (.istore 6, 2) := by decide +kernel
theorem dm_8 : decode prog_13_method_5_code 8 = .ok (.iload 5, 2) := by decide +kernel
theorem dm_10 : decode prog_13_method_5_code 10 = .ok (.iload 6, 2) := by decide +kernel
theorem dm_12 : decode prog_13_method_5_code 12 = .ok (.if_icmp .ge 148, 3) := by decide +kernel
theorem dm_15 : decode prog_13_method_5_code 15 = .ok (.aload_n 0, 1) := by decide +kernel
theorem dm_16 : decode prog_13_method_5_code 16 = .ok (.getfield 17, 3) := by decide +kernel
theorem dm_19 : decode prog_13_method_5_code 19 = .ok (.iload 5, 2) := by decide +kernel
theorem dm_21 : decode prog_13_method_5_code 21 = .ok (.iload 6, 2) := by decide +kernel
theorem dm_23 : decode prog_13_method_5_code 23 = .ok (.iadd, 1) := by decide +kernel
theorem dm_24 : decode prog_13_method_5_code 24 = .ok (.iconst 1, 1) := by decide +kernel
theorem dm_25 : decode prog_13_method_5_code 25 = .ok (.iushr, 1) := by decide +kernel
theorem dm_26 : decode prog_13_method_5_code 26 = .ok (.aload_n 0, 1) := by decide +kernel
theorem dm_27 : decode prog_13_method_5_code 27 = .ok (.getfield 7, 3) := by decide +kernel
theorem dm_30 : decode prog_13_method_5_code 30 = .ok (.imul, 1) := by decide +kernel
theorem dm_31 : decode prog_13_method_5_code 31 = .ok (.iload 4, 2) := by decide +kernel
theorem dm_33 : decode prog_13_method_5_code 33 = .ok (.iadd, 1) := by decide +kernel
theorem dm_34 : decode prog_13_method_5_code 34 = .ok (.daload, 1) := by decide +kernel
theorem dm_35 : decode prog_13_method_5_code 35 = .ok (.dstore 7, 2) := by decide +kernel
theorem dm_37 : decode prog_13_method_5_code 37 = .ok (.iload 5, 2) := by decide +kernel
theorem dm_39 : decode prog_13_method_5_code 39 = .ok (.istore 9, 2) := by decide +kernel
theorem dm_41 : decode prog_13_method_5_code 41 = .ok (.iload 6, 2) := by decide +kernel
theorem dm_43 : decode prog_13_method_5_code 43 = .ok (.istore 10, 2) := by decide +kernel
theorem dm_45 : decode prog_13_method_5_code 45 = .ok (.iload 9, 2) := by decide +kernel
theorem dm_47 : decode prog_13_method_5_code 47 = .ok (.iload 10, 2) := by decide +kernel
theorem dm_49 : decode prog_13_method_5_code 49 = .ok (.if_icmp .gt 81, 3) := by decide +kernel
theorem dm_52 : decode prog_13_method_5_code 52 = .ok (.aload_n 0, 1) := by decide +kernel
theorem dm_53 : decode prog_13_method_5_code 53 = .ok (.getfield 17, 3) := by decide +kernel
theorem dm_56 : decode prog_13_method_5_code 56 = .ok (.iload 9, 2) := by decide +kernel
theorem dm_58 : decode prog_13_method_5_code 58 = .ok (.aload_n 0, 1) := by decide +kernel
theorem dm_59 : decode prog_13_method_5_code 59 = .ok (.getfield 7, 3) := by decide +kernel
theorem dm_62 : decode prog_13_method_5_code 62 = .ok (.imul, 1) := by decide +kernel
theorem dm_63 : decode prog_13_method_5_code 63 = .ok (.iload 4, 2) := by decide +kernel
theorem dm_65 : decode prog_13_method_5_code 65 = .ok (.iadd, 1) := by decide +kernel
theorem dm_66 : decode prog_13_method_5_code 66 = .ok (.daload, 1) := by decide +kernel
theorem dm_67 : decode prog_13_method_5_code 67 = .ok (.dload 7, 2) := by decide +kernel
theorem dm_69 : decode prog_13_method_5_code 69 = .ok (.dcmp .g, 1) := by decide +kernel
theorem dm_70 : decode prog_13_method_5_code 70 = .ok (.ifCond .ge 9, 3) := by decide +kernel
theorem dm_73 : decode prog_13_method_5_code 73 = .ok (.iinc 9 1, 3) := by decide +kernel
theorem dm_76 : decode prog_13_method_5_code 76 = .ok (.goto (-24), 3) := by decide +kernel
theorem dm_79 : decode prog_13_method_5_code 79 = .ok (.aload_n 0, 1) := by decide +kernel
theorem dm_80 : decode prog_13_method_5_code 80 = .ok (.getfield 17, 3) := by decide +kernel
theorem dm_83 : decode prog_13_method_5_code 83 = .ok (.iload 10, 2) := by decide +kernel
theorem dm_85 : decode prog_13_method_5_code 85 = .ok (.aload_n 0, 1) := by decide +kernel
theorem dm_86 : decode prog_13_method_5_code 86 = .ok (.getfield 7, 3) := by decide +kernel
theorem dm_89 : decode prog_13_method_5_code 89 = .ok (.imul, 1) := by decide +kernel
theorem dm_90 : decode prog_13_method_5_code 90 = .ok (.iload 4, 2) := by decide +kernel
theorem dm_92 : decode prog_13_method_5_code 92 = .ok (.iadd, 1) := by decide +kernel
theorem dm_93 : decode prog_13_method_5_code 93 = .ok (.daload, 1) := by decide +kernel
theorem dm_94 : decode prog_13_method_5_code 94 = .ok (.dload 7, 2) := by decide +kernel
theorem dm_96 : decode prog_13_method_5_code 96 = .ok (.dcmp .l, 1) := by decide +kernel
theorem dm_97 : decode prog_13_method_5_code 97 = .ok (.ifCond .le 9, 3) := by decide +kernel
theorem dm_100 : decode prog_13_method_5_code 100 = .ok (.iinc 10 (-1), 3) := by decide +kernel
theorem dm_103 : decode prog_13_method_5_code 103 = .ok (.goto (-24), 3) := by decide +kernel
theorem dm_106 : decode prog_13_method_5_code 106 = .ok (.iload 9, 2) := by decide +kernel
theorem dm_108 : decode prog_13_method_5_code 108 = .ok (.iload 10, 2) := by decide +kernel
theorem dm_110 : decode prog_13_method_5_code 110 = .ok (.if_icmp .gt (-65), 3) := by decide +kernel
theorem dm_113 : decode prog_13_method_5_code 113 = .ok (.aload_n 0, 1) := by decide +kernel
theorem dm_114 : decode prog_13_method_5_code 114 = .ok (.iload 9, 2) := by decide +kernel
theorem dm_116 : decode prog_13_method_5_code 116 = .ok (.iinc 9 1, 3) := by decide +kernel
theorem dm_119 : decode prog_13_method_5_code 119 = .ok (.iload 10, 2) := by decide +kernel
theorem dm_121 : decode prog_13_method_5_code 121 = .ok (.iinc 10 (-1), 3) := by decide +kernel
theorem dm_124 : decode prog_13_method_5_code 124 = .ok (.invokevirtual 78, 3) := by decide +kernel
theorem dm_127 : decode prog_13_method_5_code 127 = .ok (.goto (-82), 3) := by decide +kernel
theorem dm_130 : decode prog_13_method_5_code 130 = .ok (.iload_n 3, 1) := by decide +kernel
theorem dm_131 : decode prog_13_method_5_code 131 = .ok (.iload 10, 2) := by decide +kernel
theorem dm_133 : decode prog_13_method_5_code 133 = .ok (.if_icmp .gt 10, 3) := by decide +kernel
theorem dm_136 : decode prog_13_method_5_code 136 = .ok (.iload 10, 2) := by decide +kernel
theorem dm_138 : decode prog_13_method_5_code 138 = .ok (.istore 6, 2) := by decide +kernel
theorem dm_140 : decode prog_13_method_5_code 140 = .ok (.goto 17, 3) := by decide +kernel
theorem dm_143 : decode prog_13_method_5_code 143 = .ok (.iload_n 3, 1) := by decide +kernel
theorem dm_144 : decode prog_13_method_5_code 144 = .ok (.iload 9, 2) := by decide +kernel
theorem dm_146 : decode prog_13_method_5_code 146 = .ok (.if_icmp .lt 10, 3) := by decide +kernel
theorem dm_149 : decode prog_13_method_5_code 149 = .ok (.iload 9, 2) := by decide +kernel
theorem dm_151 : decode prog_13_method_5_code 151 = .ok (.istore 5, 2) := by decide +kernel
theorem dm_153 : decode prog_13_method_5_code 153 = .ok (.goto 4, 3) := by decide +kernel
theorem dm_156 : decode prog_13_method_5_code 156 = .ok (.return_, 1) := by decide +kernel
theorem dm_157 : decode prog_13_method_5_code 157 = .ok (.goto (-149), 3) := by decide +kernel
theorem dm_160 : decode prog_13_method_5_code 160 = .ok (.return_, 1) := by decide +kernel
theorem dx_0 : decode prog_13_method_6_code 0 = .ok (.aload_n 0, 1) := by decide +kernel
theorem dx_1 : decode prog_13_method_6_code 1 = .ok (.getfield 13, 3) := by decide +kernel
theorem dx_4 : decode prog_13_method_6_code 4 = .ok (.iload_n 1, 1) := by decide +kernel
theorem dx_5 : decode prog_13_method_6_code 5 = .ok (.iaload, 1) := by decide +kernel
theorem dx_6 : decode prog_13_method_6_code 6 = .ok (.istore_n 3, 1) := by decide +kernel
theorem dx_7 : decode prog_13_method_6_code 7 = .ok (.aload_n 0, 1) := by decide +kernel
theorem dx_8 : decode prog_13_method_6_code 8 = .ok (.getfield 13, 3) := by decide +kernel
theorem dx_11 : decode prog_13_method_6_code 11 = .ok (.iload_n 1, 1) := by decide +kernel
theorem dx_12 : decode prog_13_method_6_code 12 = .ok (.aload_n 0, 1) := by decide +kernel
theorem dx_13 : decode prog_13_method_6_code 13 = .ok (.getfield 13, 3) := by decide +kernel
theorem dx_16 : decode prog_13_method_6_code 16 = .ok (.iload_n 2, 1) := by decide +kernel
theorem dx_17 : decode prog_13_method_6_code 17 = .ok (.iaload, 1) := by decide +kernel
theorem dx_18 : decode prog_13_method_6_code 18 = .ok (.iastore, 1) := by decide +kernel
theorem dx_19 : decode prog_13_method_6_code 19 = .ok (.aload_n 0, 1) := by decide +kernel
theorem dx_20 : decode prog_13_method_6_code 20 = .ok (.getfield 13, 3) := by decide +kernel
theorem dx_23 : decode prog_13_method_6_code 23 = .ok (.iload_n 2, 1) := by decide +kernel
theorem dx_24 : decode prog_13_method_6_code 24 = .ok (.iload_n 3, 1) := by decide +kernel
theorem dx_25 : decode prog_13_method_6_code 25 = .ok (.iastore, 1) := by decide +kernel
theorem dx_26 : decode prog_13_method_6_code 26 = .ok (.iconst 0, 1) := by decide +kernel
theorem dx_27 : decode prog_13_method_6_code 27 = .ok (.istore 4, 2) := by decide +kernel
theorem dx_29 : decode prog_13_method_6_code 29 = .ok (.iload 4, 2) := by decide +kernel
theorem dx_31 : decode prog_13_method_6_code 31 = .ok (.aload_n 0, 1) := by decide +kernel
theorem dx_32 : decode prog_13_method_6_code 32 = .ok (.getfield 7, 3) := by decide +kernel
theorem dx_35 : decode prog_13_method_6_code 35 = .ok (.if_icmp .ge 69, 3) := by decide +kernel
theorem dx_38 : decode prog_13_method_6_code 38 = .ok (.aload_n 0, 1) := by decide +kernel
theorem dx_39 : decode prog_13_method_6_code 39 = .ok (.getfield 17, 3) := by decide +kernel
theorem dx_42 : decode prog_13_method_6_code 42 = .ok (.iload_n 1, 1) := by decide +kernel
theorem dx_43 : decode prog_13_method_6_code 43 = .ok (.aload_n 0, 1) := by decide +kernel
theorem dx_44 : decode prog_13_method_6_code 44 = .ok (.getfield 7, 3) := by decide +kernel
theorem dx_47 : decode prog_13_method_6_code 47 = .ok (.imul, 1) := by decide +kernel
theorem dx_48 : decode prog_13_method_6_code 48 = .ok (.iload 4, 2) := by decide +kernel
theorem dx_50 : decode prog_13_method_6_code 50 = .ok (.iadd, 1) := by decide +kernel
theorem dx_51 : decode prog_13_method_6_code 51 = .ok (.daload, 1) := by decide +kernel
theorem dx_52 : decode prog_13_method_6_code 52 = .ok (.dstore 5, 2) := by decide +kernel
theorem dx_54 : decode prog_13_method_6_code 54 = .ok (.aload_n 0, 1) := by decide +kernel
theorem dx_55 : decode prog_13_method_6_code 55 = .ok (.getfield 17, 3) := by decide +kernel
theorem dx_58 : decode prog_13_method_6_code 58 = .ok (.iload_n 1, 1) := by decide +kernel
theorem dx_59 : decode prog_13_method_6_code 59 = .ok (.aload_n 0, 1) := by decide +kernel
theorem dx_60 : decode prog_13_method_6_code 60 = .ok (.getfield 7, 3) := by decide +kernel
theorem dx_63 : decode prog_13_method_6_code 63 = .ok (.imul, 1) := by decide +kernel
theorem dx_64 : decode prog_13_method_6_code 64 = .ok (.iload 4, 2) := by decide +kernel
theorem dx_66 : decode prog_13_method_6_code 66 = .ok (.iadd, 1) := by decide +kernel
theorem dx_67 : decode prog_13_method_6_code 67 = .ok (.aload_n 0, 1) := by decide +kernel
theorem dx_68 : decode prog_13_method_6_code 68 = .ok (.getfield 17, 3) := by decide +kernel
theorem dx_71 : decode prog_13_method_6_code 71 = .ok (.iload_n 2, 1) := by decide +kernel
theorem dx_72 : decode prog_13_method_6_code 72 = .ok (.aload_n 0, 1) := by decide +kernel
theorem dx_73 : decode prog_13_method_6_code 73 = .ok (.getfield 7, 3) := by decide +kernel
theorem dx_76 : decode prog_13_method_6_code 76 = .ok (.imul, 1) := by decide +kernel
theorem dx_77 : decode prog_13_method_6_code 77 = .ok (.iload 4, 2) := by decide +kernel
theorem dx_79 : decode prog_13_method_6_code 79 = .ok (.iadd, 1) := by decide +kernel
theorem dx_80 : decode prog_13_method_6_code 80 = .ok (.daload, 1) := by decide +kernel
theorem dx_81 : decode prog_13_method_6_code 81 = .ok (.dastore, 1) := by decide +kernel
theorem dx_82 : decode prog_13_method_6_code 82 = .ok (.aload_n 0, 1) := by decide +kernel
theorem dx_83 : decode prog_13_method_6_code 83 = .ok (.getfield 17, 3) := by decide +kernel
theorem dx_86 : decode prog_13_method_6_code 86 = .ok (.iload_n 2, 1) := by decide +kernel
theorem dx_87 : decode prog_13_method_6_code 87 = .ok (.aload_n 0, 1) := by decide +kernel
theorem dx_88 : decode prog_13_method_6_code 88 = .ok (.getfield 7, 3) := by decide +kernel
theorem dx_91 : decode prog_13_method_6_code 91 = .ok (.imul, 1) := by decide +kernel
theorem dx_92 : decode prog_13_method_6_code 92 = .ok (.iload 4, 2) := by decide +kernel
theorem dx_94 : decode prog_13_method_6_code 94 = .ok (.iadd, 1) := by decide +kernel
theorem dx_95 : decode prog_13_method_6_code 95 = .ok (.dload 5, 2) := by decide +kernel
theorem dx_97 : decode prog_13_method_6_code 97 = .ok (.dastore, 1) := by decide +kernel
theorem dx_98 : decode prog_13_method_6_code 98 = .ok (.iinc 4 1, 3) := by decide +kernel
theorem dx_101 : decode prog_13_method_6_code 101 = .ok (.goto (-72), 3) := by decide +kernel
theorem dx_104 : decode prog_13_method_6_code 104 = .ok (.return_, 1) := by decide +kernel
theorem pnK : plainName "com/example/skyweave/skyweave/KdTree" = true := by first | (simp [plainName, overriddenIn]; done) | decide +kernel
theorem pnL : plainName "com/example/skyweave/skyweave/KdTreeSplitPinLaw" = true := by first | (simp [plainName, overriddenIn]; done) | decide +kernel
theorem pdP : parseMethodDescriptor "([I[D[D[DIJJIIII)V" = some ⟨[.array .int, .array .double, .array .double, .array .double, .int, .long, .long, .int, .int, .int, .int], none⟩ := by decide +kernel
theorem pdI : parseMethodDescriptor "(I[I[DI)V" = some ⟨[.int, .array .int, .array .double, .int], none⟩ := by decide +kernel
theorem pdS : parseMethodDescriptor "(II[D[D[D)I" = some ⟨[.int, .int, .array .double, .array .double, .array .double], some .int⟩ := by decide +kernel
theorem pdW : parseMethodDescriptor "(IIII)I" = some ⟨[.int, .int, .int, .int], some .int⟩ := by decide +kernel
theorem pdQ : parseMethodDescriptor "(Lcom/example/skyweave/skyweave/KdTree;IIIII[D[DZ)I" = some ⟨[.object "com/example/skyweave/skyweave/KdTree", .int, .int, .int, .int, .int, .array .double, .array .double, .boolean], some .int⟩ := by decide +kernel
theorem pdM : parseMethodDescriptor "(IIII)V" = some ⟨[.int, .int, .int, .int], none⟩ := by decide +kernel
theorem pdX : parseMethodDescriptor "(II)V" = some ⟨[.int, .int], none⟩ := by decide +kernel
abbrev yP : MethodName := ⟨"com/example/skyweave/skyweave/KdTreeSplitPinLaw", "put", "([I[D[D[DIJJIIII)V"⟩
abbrev yI : MethodName := ⟨"com/example/skyweave/skyweave/KdTree", "<init>", "(I[I[DI)V"⟩
abbrev yS : MethodName := ⟨"com/example/skyweave/skyweave/KdTree", "split", "(II[D[D[D)I"⟩
abbrev yW : MethodName := ⟨"com/example/skyweave/skyweave/KdTreeSplitPinLaw", "widest", "(IIII)I"⟩
abbrev yQ : MethodName := ⟨"com/example/skyweave/skyweave/KdTreeSplitPinLaw", "pos", "(Lcom/example/skyweave/skyweave/KdTree;IIIII[D[DZ)I"⟩
abbrev yM : MethodName := ⟨"com/example/skyweave/skyweave/KdTree", "placeMiddle", "(IIII)V"⟩
abbrev yX : MethodName := ⟨"com/example/skyweave/skyweave/KdTree", "swap", "(II)V"⟩
set_option maxRecDepth 65536 in
set_option maxHeartbeats 40000000 in
theorem efP (m : MethodId) (x0 x1 x2 x3 : Addr) (x4 : Int32) (x5 x6 : Int64) (x7 x8 x9 y0 : Int32) : entryFrame m #[(.ref x0), (.ref x1), (.ref x2), (.ref x3), (.int x4), (.long x5), (.long x6), (.int x7), (.int x8), (.int x9), (.int y0)] 19 = mkF m 0 #[.val (.ref x0), .val (.ref x1), .val (.ref x2), .val (.ref x3), .val (.int x4), .val (.long x5), .second, .val (.long x6), .second, .val (.int x7), .val (.int x8), .val (.int x9), .val (.int y0), .unset, .unset, .unset, .unset, .unset, .unset] [] := by first | (simp [entryFrame, mkF, argsToLocals, Value.category]; done) | rfl
set_option maxRecDepth 65536 in
set_option maxHeartbeats 40000000 in
theorem efI (m : MethodId) (x0 : Addr) (x1 : Int32) (x2 x3 : Addr) (x4 : Int32) : entryFrame m #[(.ref x0), (.int x1), (.ref x2), (.ref x3), (.int x4)] 6 = mkF m 0 #[.val (.ref x0), .val (.int x1), .val (.ref x2), .val (.ref x3), .val (.int x4), .unset] [] := by first | (simp [entryFrame, mkF, argsToLocals, Value.category]; done) | rfl
set_option maxRecDepth 65536 in
set_option maxHeartbeats 40000000 in
theorem efS (m : MethodId) (x0 : Addr) (x1 x2 : Int32) (x3 x4 x5 : Addr) : entryFrame m #[(.ref x0), (.int x1), (.int x2), (.ref x3), (.ref x4), (.ref x5)] 15 = mkF m 0 #[.val (.ref x0), .val (.int x1), .val (.int x2), .val (.ref x3), .val (.ref x4), .val (.ref x5), .unset, .unset, .unset, .unset, .unset, .unset, .unset, .unset, .unset] [] := by first | (simp [entryFrame, mkF, argsToLocals, Value.category]; done) | rfl
set_option maxRecDepth 65536 in
set_option maxHeartbeats 40000000 in
theorem efW (m : MethodId) (x0 x1 x2 x3 : Int32) : entryFrame m #[(.int x0), (.int x1), (.int x2), (.int x3)] 4 = mkF m 0 #[.val (.int x0), .val (.int x1), .val (.int x2), .val (.int x3)] [] := by first | (simp [entryFrame, mkF, argsToLocals, Value.category]; done) | rfl
set_option maxRecDepth 65536 in
set_option maxHeartbeats 40000000 in
theorem efQ (m : MethodId) (x0 : Addr) (x1 x2 x3 x4 x5 : Int32) (x6 x7 : Addr) (x8 : Int32) : entryFrame m #[(.ref x0), (.int x1), (.int x2), (.int x3), (.int x4), (.int x5), (.ref x6), (.ref x7), (.int x8)] 15 = mkF m 0 #[.val (.ref x0), .val (.int x1), .val (.int x2), .val (.int x3), .val (.int x4), .val (.int x5), .val (.ref x6), .val (.ref x7), .val (.int x8), .unset, .unset, .unset, .unset, .unset, .unset] [] := by first | (simp [entryFrame, mkF, argsToLocals, Value.category]; done) | rfl
set_option maxRecDepth 65536 in
set_option maxHeartbeats 40000000 in
theorem efM (m : MethodId) (x0 : Addr) (x1 x2 x3 x4 : Int32) : entryFrame m #[(.ref x0), (.int x1), (.int x2), (.int x3), (.int x4)] 11 = mkF m 0 #[.val (.ref x0), .val (.int x1), .val (.int x2), .val (.int x3), .val (.int x4), .unset, .unset, .unset, .unset, .unset, .unset] [] := by first | (simp [entryFrame, mkF, argsToLocals, Value.category]; done) | rfl
set_option maxRecDepth 65536 in
set_option maxHeartbeats 40000000 in
theorem efX (m : MethodId) (x0 : Addr) (x1 x2 : Int32) : entryFrame m #[(.ref x0), (.int x1), (.int x2)] 7 = mkF m 0 #[.val (.ref x0), .val (.int x1), .val (.int x2), .unset, .unset, .unset, .unset] [] := by first | (simp [entryFrame, mkF, argsToLocals, Value.category]; done) | rfl
def own_Filled (Z : State) (h : Heap) (aI aP aA aB : Addr) (k : Nat) : Prop := ∃ (fI : Nat → Int32) (fP f0 f1 : Nat → UInt64), own_Ia Z h aI 18 fI ∧ own_Da Z h aP 36 fP ∧ own_Da Z h aA 18 f0 ∧ own_Da Z h aB 18 f1 ∧ ∀ j, j < k → fI j = Int32.ofNat j ∧ fP (2 * j) = f0 j ∧ fP (2 * j + 1) = f1 j ∧ (∃ v, FP.Core.DInt v (f0 j)) ∧ ∃ v, FP.Core.DInt v (f1 j)
theorem own_fill {fI : Nat → Int32} {fP f0 f1 : Nat → UInt64} {k : Nat} {kv : Int32} {z0 z1 : UInt64} (hk : kv.toInt = (k : Int)) (k18 : k < 18) (d0 : ∃ v, FP.Core.DInt v z0) (d1 : ∃ v, FP.Core.DInt v z1)
    (hf : ∀ j, j < k → fI j = Int32.ofNat j ∧ fP (2 * j) = f0 j ∧ fP (2 * j + 1) = f1 j ∧ (∃ v, FP.Core.DInt v (f0 j)) ∧ ∃ v, FP.Core.DInt v (f1 j)) :
    ∀ j, j < k + 1 → own_up fI k kv j = Int32.ofNat j ∧ own_up (own_up fP (2 * k) z0) (2 * k + 1) z1 (2 * j) = own_up f0 k z0 j ∧ own_up (own_up fP (2 * k) z0) (2 * k + 1) z1 (2 * j + 1) = own_up f1 k z1 j ∧ (∃ v, FP.Core.DInt v (own_up f0 k z0 j)) ∧ ∃ v, FP.Core.DInt v (own_up f1 k z1 j) := by
  intro j hj
  by_cases e : j = k
  · subst e
    rw [own_up_hit, own_up_hit, own_up_hit, own_up_hit, own_up_miss _ _ (by omega), own_up_hit]
    exact ⟨Int32.toInt_inj.mp (by rw [hk, own_ofNat (by omega)]), rfl, rfl, d0, d1⟩
  · obtain ⟨h1, h2, h3, h4, h5⟩ := hf j (by omega)
    rw [own_up_miss _ _ e, own_up_miss _ _ e, own_up_miss _ _ e, own_up_miss _ _ (by omega), own_up_miss _ _ (by omega), own_up_miss _ _ (by omega), own_up_miss _ _ (by omega)]
    exact ⟨h1, h2, h3, h4, h5⟩
theorem own_sum (a b : Int32) : ∃ v, FP.Core.DInt v (FP.l2d (a.toInt64 + b.toInt64)) := by
  refine ⟨_, own_l2d ?_⟩
  have := c_ladd a.toInt64 b.toInt64
  have := rng64 (a.toInt64 + b.toInt64)
  have := rng32 a
  have := rng32 b
  rw [c_i2l, c_i2l] at *
  omega
theorem own_x2 {kv : Int32} {k : Nat} (hk : kv.toInt = (k : Int)) (h : k < 18) : ((2 : Int32) * kv).toInt = ((2 * k : Nat) : Int) := by
  have a1 := c_imul 2 kv
  rw [show (2 : Int32).toInt = 2 from rfl] at a1
  have := rng32 ((2 : Int32) * kv)
  omega
theorem own_x3 {kv yv : Int32} {k y : Nat} (hk : kv.toInt = (k : Int)) (h : k < 18) (hy : yv.toInt = (y : Int)) (h2 : y < 2) : ((2 : Int32) * kv + yv).toInt = ((2 * k + y : Nat) : Int) := by
  have := own_x2 hk h
  have := c_iadd ((2 : Int32) * kv) yv
  have := rng32 ((2 : Int32) * kv + yv)
  omega
theorem own_nz {r : Int32} (h0 : 0 ≤ r.toInt) (h1 : r.toInt ≤ 15) : r + (1 : Int32) ≠ 0 := by
  intro q
  have := congrArg Int32.toInt q
  have := c_iadd r 1
  have := rng32 (r + 1)
  have : (1 : Int32).toInt = 1 := rfl
  have : (0 : Int32).toInt = 0 := rfl
  omega
def Q_rmP (Z : State) (aI aP aA aB : Nat) (k : Nat) (kv : Int32) (c0 c1 : Int64) (l0 l1 r0 r1 : Int32) (h0 : Heap) (n0 : Nat) : Option Value → Heap → List Loc → Prop := fun v h L => v = none ∧ Fr n0 L ∧ Keep h0 h [aI, aP, aA, aB] ∧ own_Filled Z h aI aP aA aB (k + 1)
set_option maxRecDepth 65536 in
set_option maxHeartbeats 40000000 in
theorem rmP (l : Launch) (Z : State) (a0 : Array Value) (hw : ∀ d ∈ tables_1, d.before a0 Z = true) (ws : List Jvm.Cond) (aI aP aA aB : Nat) (k : Nat) (kv : Int32) (c0 c1 : Int64) (l0 l1 r0 r1 : Int32) (h0 : Heap) (n0 : Nat) (Z0 : n0 ≤ h0.size) (FF : own_Filled Z h0 aI aP aA aB k) (q0 : n0 ≤ aI) (o1 : aI < aP) (o2 : aP < aA) (o3 : aA < aB) (hk : kv.toInt = (k : Int)) (k18 : k < 18) (r00 : 0 ≤ r0.toInt) (r01 : r0.toInt ≤ 15) (r10 : 0 ≤ r1.toInt) (r11 : r1.toInt ≤ 15) :
    MetFree l yP (head1 (Jvm.Cond.code yP method_3_code 19 none :: ws) ({ frames := 0, cells := 0, slots := 0, locals := 0 } : Room)) (fun az Uz => az = #[(.ref aI), (.ref aP), (.ref aA), (.ref aB), (.int kv), (.long c0), (.long c1), (.int l0), (.int l1), (.int r0), (.int r1)] ∧ Z.Warmed39 Uz.vm ∧ Uz.heap = h0) (fun _ _ _ _ _ => True) (fun _ Uz oz Vz => ∃ vz Lz, oz = .returned vz ∧ (Q_rmP Z aI aP aA aB k kv c0 c1 l0 l1 r0 r1 h0 n0) vz Vz.heap Lz ∧ FrameEnd Uz oz Vz Lz ({ frames := 0, cells := 0, slots := 0, locals := 0 } : Room).cells ({ frames := 0, cells := 0, slots := 0, locals := 0 } : Room).slots) := by
  refine MetFree.of_bodySF (plainFor_of_name pnL) hisR ?_
  intro p e s m args below meth c s₁ Bd hml0 hP hK
  obtain ⟨rfl, hZ, hh⟩ := hP
  have hx := Bd.exec
  have hby := Bd.bytes
  have hlk := BodyLoose.notSynchronized Bd
  have hml : c.maxLocals = 19 := hml0
  have hown : s.vm.findClass "com/example/skyweave/skyweave/KdTreeSplitPinLaw" = some m.cls := findClass_of_methodNamed Bd.named
  have hnm := (name_of_methodNamed Bd.named Bd.method).1
  have X0 : Stand p l e ({ frames := 0, cells := 0, slots := 0, locals := 0 } : Room) s m #[(.ref aI), (.ref aP), (.ref aA), (.ref aB), (.int kv), (.long c0), (.long c1), (.int l0), (.int l1), (.int r0), (.int r1)] below meth c s₁ [] 0 0 := Stand.of_body Bd
  have e0 : s₁.heap = h0 := by rw [← hh, Bd.state]; rfl
  have N0 := Fr.nil n0
  show own_Win p e below s (Q_rmP Z aI aP aA aB k kv c0 c1 l0 l1 r0 r1 h0 n0) _ _ _
  refine own_st (fun tz kz => castTop (efP m aI aP aA aB kv c0 c1 l0 l1 r0 r1) kz) ?_
  obtain ⟨fI, fP, f0, f1, F_I, F_P, F_A, F_B, hf⟩ := FF
  show own_Win p e below s _ _ _ (s₁.setTop (mkF m 0 #[.val (.ref aI), .val (.ref aP), .val (.ref aA), .val (.ref aB), .val (.int kv), .val (.long c0), .second, .val (.long c1), .second, .val (.int l0), .val (.int l1), .val (.int r0), .val (.int r1), .unset, .unset, .unset, .unset, .unset, .unset] []))
  refine own_st (fun _ kz => XT.lload X0.here hx rfl (hb hby dp_0) rfl kz) ?_
  show own_Win p e below s _ _ _ (s₁.setTop (mkF m 2 #[.val (.ref aI), .val (.ref aP), .val (.ref aA), .val (.ref aB), .val (.int kv), .val (.long c0), .second, .val (.long c1), .second, .val (.int l0), .val (.int l1), .val (.int r0), .val (.int r1), .unset, .unset, .unset, .unset, .unset, .unset] [(.long c0)]))
  refine own_st (fun _ kz => XS.iconst X0.here hx rfl (hb hby dp_2) kz) ?_
  show own_Win p e below s _ _ _ (s₁.setTop (mkF m 3 #[.val (.ref aI), .val (.ref aP), .val (.ref aA), .val (.ref aB), .val (.int kv), .val (.long c0), .second, .val (.long c1), .second, .val (.int l0), .val (.int l1), .val (.int r0), .val (.int r1), .unset, .unset, .unset, .unset, .unset, .unset] [(.int (3 : Int32)), (.long c0)]))
  refine own_st (fun _ kz => XS.iload X0.here hx rfl (hb hby dp_3) rfl kz) ?_
  show own_Win p e below s _ _ _ (s₁.setTop (mkF m 5 #[.val (.ref aI), .val (.ref aP), .val (.ref aA), .val (.ref aB), .val (.int kv), .val (.long c0), .second, .val (.long c1), .second, .val (.int l0), .val (.int l1), .val (.int r0), .val (.int r1), .unset, .unset, .unset, .unset, .unset, .unset] [(.int kv), (.int (3 : Int32)), (.long c0)]))
  refine own_st (fun _ kz => XS.imul X0.here hx rfl (hb hby dp_5) rfl kz) ?_
  show own_Win p e below s _ _ _ (s₁.setTop (mkF m 6 #[.val (.ref aI), .val (.ref aP), .val (.ref aA), .val (.ref aB), .val (.int kv), .val (.long c0), .second, .val (.long c1), .second, .val (.int l0), .val (.int l1), .val (.int r0), .val (.int r1), .unset, .unset, .unset, .unset, .unset, .unset] [(.int ((3 : Int32) * kv)), (.long c0)]))
  refine own_st (fun _ kz => XT.lushr X0.here hx rfl (hb hby dp_6) rfl kz) ?_
  show own_Win p e below s _ _ _ (s₁.setTop (mkF m 7 #[.val (.ref aI), .val (.ref aP), .val (.ref aA), .val (.ref aB), .val (.int kv), .val (.long c0), .second, .val (.long c1), .second, .val (.int l0), .val (.int l1), .val (.int r0), .val (.int r1), .unset, .unset, .unset, .unset, .unset, .unset] [(.long (XT.ushrL c0 ((3 : Int32) * kv)))]))
  refine own_st (fun _ kz => XT.l2i X0.here hx rfl (hb hby dp_7) rfl kz) ?_
  show own_Win p e below s _ _ _ (s₁.setTop (mkF m 8 #[.val (.ref aI), .val (.ref aP), .val (.ref aA), .val (.ref aB), .val (.int kv), .val (.long c0), .second, .val (.long c1), .second, .val (.int l0), .val (.int l1), .val (.int r0), .val (.int r1), .unset, .unset, .unset, .unset, .unset, .unset] [(.int ((XT.ushrL c0 ((3 : Int32) * kv)).toInt32))]))
  refine own_st (fun _ kz => XS.bipush X0.here hx rfl (hb hby dp_8) kz) ?_
  show own_Win p e below s _ _ _ (s₁.setTop (mkF m 10 #[.val (.ref aI), .val (.ref aP), .val (.ref aA), .val (.ref aB), .val (.int kv), .val (.long c0), .second, .val (.long c1), .second, .val (.int l0), .val (.int l1), .val (.int r0), .val (.int r1), .unset, .unset, .unset, .unset, .unset, .unset] [(.int (7 : Int32)), (.int ((XT.ushrL c0 ((3 : Int32) * kv)).toInt32))]))
  refine own_st (fun _ kz => XS.iand X0.here hx rfl (hb hby dp_10) rfl kz) ?_
  show own_Win p e below s _ _ _ (s₁.setTop (mkF m 11 #[.val (.ref aI), .val (.ref aP), .val (.ref aA), .val (.ref aB), .val (.int kv), .val (.long c0), .second, .val (.long c1), .second, .val (.int l0), .val (.int l1), .val (.int r0), .val (.int r1), .unset, .unset, .unset, .unset, .unset, .unset] [(.int (((XT.ushrL c0 ((3 : Int32) * kv)).toInt32) &&& (7 : Int32)))]))
  refine own_st (fun _ kz => XS.iload X0.here hx rfl (hb hby dp_11) rfl kz) ?_
  show own_Win p e below s _ _ _ (s₁.setTop (mkF m 13 #[.val (.ref aI), .val (.ref aP), .val (.ref aA), .val (.ref aB), .val (.int kv), .val (.long c0), .second, .val (.long c1), .second, .val (.int l0), .val (.int l1), .val (.int r0), .val (.int r1), .unset, .unset, .unset, .unset, .unset, .unset] [(.int r0), (.int (((XT.ushrL c0 ((3 : Int32) * kv)).toInt32) &&& (7 : Int32)))]))
  refine own_st (fun _ kz => XS.iconst X0.here hx rfl (hb hby dp_13) kz) ?_
  show own_Win p e below s _ _ _ (s₁.setTop (mkF m 14 #[.val (.ref aI), .val (.ref aP), .val (.ref aA), .val (.ref aB), .val (.int kv), .val (.long c0), .second, .val (.long c1), .second, .val (.int l0), .val (.int l1), .val (.int r0), .val (.int r1), .unset, .unset, .unset, .unset, .unset, .unset] [(.int (1 : Int32)), (.int r0), (.int (((XT.ushrL c0 ((3 : Int32) * kv)).toInt32) &&& (7 : Int32)))]))
  refine own_st (fun _ kz => XS.iadd X0.here hx rfl (hb hby dp_14) rfl kz) ?_
  show own_Win p e below s _ _ _ (s₁.setTop (mkF m 15 #[.val (.ref aI), .val (.ref aP), .val (.ref aA), .val (.ref aB), .val (.int kv), .val (.long c0), .second, .val (.long c1), .second, .val (.int l0), .val (.int l1), .val (.int r0), .val (.int r1), .unset, .unset, .unset, .unset, .unset, .unset] [(.int (r0 + (1 : Int32))), (.int (((XT.ushrL c0 ((3 : Int32) * kv)).toInt32) &&& (7 : Int32)))]))
  refine own_st (fun _ kz => iremM X0 hx rfl (hb hby dp_15) rfl (own_nz r00 r01) kz) ?_
  show own_Win p e below s _ _ _ (s₁.setTop (mkF m 16 #[.val (.ref aI), .val (.ref aP), .val (.ref aA), .val (.ref aB), .val (.int kv), .val (.long c0), .second, .val (.long c1), .second, .val (.int l0), .val (.int l1), .val (.int r0), .val (.int r1), .unset, .unset, .unset, .unset, .unset, .unset] [(.int ((((XT.ushrL c0 ((3 : Int32) * kv)).toInt32) &&& (7 : Int32)) % (r0 + (1 : Int32))))]))
  generalize ((((XT.ushrL c0 ((3 : Int32) * kv)).toInt32) &&& (7 : Int32)) % (r0 + (1 : Int32))) = m0
  show own_Win p e below s _ _ _ (s₁.setTop (mkF m 16 #[.val (.ref aI), .val (.ref aP), .val (.ref aA), .val (.ref aB), .val (.int kv), .val (.long c0), .second, .val (.long c1), .second, .val (.int l0), .val (.int l1), .val (.int r0), .val (.int r1), .unset, .unset, .unset, .unset, .unset, .unset] [(.int m0)]))
  refine own_st (fun _ kz => XS.istore X0.here hx rfl (hb hby dp_16) rfl (l' := #[.val (.ref aI), .val (.ref aP), .val (.ref aA), .val (.ref aB), .val (.int kv), .val (.long c0), .second, .val (.long c1), .second, .val (.int l0), .val (.int l1), .val (.int r0), .val (.int r1), .val (.int m0), .unset, .unset, .unset, .unset, .unset]) rfl kz) ?_
  show own_Win p e below s _ _ _ (s₁.setTop (mkF m 18 #[.val (.ref aI), .val (.ref aP), .val (.ref aA), .val (.ref aB), .val (.int kv), .val (.long c0), .second, .val (.long c1), .second, .val (.int l0), .val (.int l1), .val (.int r0), .val (.int r1), .val (.int m0), .unset, .unset, .unset, .unset, .unset] []))
  refine own_st (fun _ kz => XT.lload X0.here hx rfl (hb hby dp_18) rfl kz) ?_
  show own_Win p e below s _ _ _ (s₁.setTop (mkF m 20 #[.val (.ref aI), .val (.ref aP), .val (.ref aA), .val (.ref aB), .val (.int kv), .val (.long c0), .second, .val (.long c1), .second, .val (.int l0), .val (.int l1), .val (.int r0), .val (.int r1), .val (.int m0), .unset, .unset, .unset, .unset, .unset] [(.long c1)]))
  refine own_st (fun _ kz => XS.iconst X0.here hx rfl (hb hby dp_20) kz) ?_
  show own_Win p e below s _ _ _ (s₁.setTop (mkF m 21 #[.val (.ref aI), .val (.ref aP), .val (.ref aA), .val (.ref aB), .val (.int kv), .val (.long c0), .second, .val (.long c1), .second, .val (.int l0), .val (.int l1), .val (.int r0), .val (.int r1), .val (.int m0), .unset, .unset, .unset, .unset, .unset] [(.int (3 : Int32)), (.long c1)]))
  refine own_st (fun _ kz => XS.iload X0.here hx rfl (hb hby dp_21) rfl kz) ?_
  show own_Win p e below s _ _ _ (s₁.setTop (mkF m 23 #[.val (.ref aI), .val (.ref aP), .val (.ref aA), .val (.ref aB), .val (.int kv), .val (.long c0), .second, .val (.long c1), .second, .val (.int l0), .val (.int l1), .val (.int r0), .val (.int r1), .val (.int m0), .unset, .unset, .unset, .unset, .unset] [(.int kv), (.int (3 : Int32)), (.long c1)]))
  refine own_st (fun _ kz => XS.imul X0.here hx rfl (hb hby dp_23) rfl kz) ?_
  show own_Win p e below s _ _ _ (s₁.setTop (mkF m 24 #[.val (.ref aI), .val (.ref aP), .val (.ref aA), .val (.ref aB), .val (.int kv), .val (.long c0), .second, .val (.long c1), .second, .val (.int l0), .val (.int l1), .val (.int r0), .val (.int r1), .val (.int m0), .unset, .unset, .unset, .unset, .unset] [(.int ((3 : Int32) * kv)), (.long c1)]))
  refine own_st (fun _ kz => XT.lushr X0.here hx rfl (hb hby dp_24) rfl kz) ?_
  show own_Win p e below s _ _ _ (s₁.setTop (mkF m 25 #[.val (.ref aI), .val (.ref aP), .val (.ref aA), .val (.ref aB), .val (.int kv), .val (.long c0), .second, .val (.long c1), .second, .val (.int l0), .val (.int l1), .val (.int r0), .val (.int r1), .val (.int m0), .unset, .unset, .unset, .unset, .unset] [(.long (XT.ushrL c1 ((3 : Int32) * kv)))]))
  refine own_st (fun _ kz => XT.l2i X0.here hx rfl (hb hby dp_25) rfl kz) ?_
  show own_Win p e below s _ _ _ (s₁.setTop (mkF m 26 #[.val (.ref aI), .val (.ref aP), .val (.ref aA), .val (.ref aB), .val (.int kv), .val (.long c0), .second, .val (.long c1), .second, .val (.int l0), .val (.int l1), .val (.int r0), .val (.int r1), .val (.int m0), .unset, .unset, .unset, .unset, .unset] [(.int ((XT.ushrL c1 ((3 : Int32) * kv)).toInt32))]))
  refine own_st (fun _ kz => XS.bipush X0.here hx rfl (hb hby dp_26) kz) ?_
  show own_Win p e below s _ _ _ (s₁.setTop (mkF m 28 #[.val (.ref aI), .val (.ref aP), .val (.ref aA), .val (.ref aB), .val (.int kv), .val (.long c0), .second, .val (.long c1), .second, .val (.int l0), .val (.int l1), .val (.int r0), .val (.int r1), .val (.int m0), .unset, .unset, .unset, .unset, .unset] [(.int (7 : Int32)), (.int ((XT.ushrL c1 ((3 : Int32) * kv)).toInt32))]))
  refine own_st (fun _ kz => XS.iand X0.here hx rfl (hb hby dp_28) rfl kz) ?_
  show own_Win p e below s _ _ _ (s₁.setTop (mkF m 29 #[.val (.ref aI), .val (.ref aP), .val (.ref aA), .val (.ref aB), .val (.int kv), .val (.long c0), .second, .val (.long c1), .second, .val (.int l0), .val (.int l1), .val (.int r0), .val (.int r1), .val (.int m0), .unset, .unset, .unset, .unset, .unset] [(.int (((XT.ushrL c1 ((3 : Int32) * kv)).toInt32) &&& (7 : Int32)))]))
  refine own_st (fun _ kz => XS.iload X0.here hx rfl (hb hby dp_29) rfl kz) ?_
  show own_Win p e below s _ _ _ (s₁.setTop (mkF m 31 #[.val (.ref aI), .val (.ref aP), .val (.ref aA), .val (.ref aB), .val (.int kv), .val (.long c0), .second, .val (.long c1), .second, .val (.int l0), .val (.int l1), .val (.int r0), .val (.int r1), .val (.int m0), .unset, .unset, .unset, .unset, .unset] [(.int r1), (.int (((XT.ushrL c1 ((3 : Int32) * kv)).toInt32) &&& (7 : Int32)))]))
  refine own_st (fun _ kz => XS.iconst X0.here hx rfl (hb hby dp_31) kz) ?_
  show own_Win p e below s _ _ _ (s₁.setTop (mkF m 32 #[.val (.ref aI), .val (.ref aP), .val (.ref aA), .val (.ref aB), .val (.int kv), .val (.long c0), .second, .val (.long c1), .second, .val (.int l0), .val (.int l1), .val (.int r0), .val (.int r1), .val (.int m0), .unset, .unset, .unset, .unset, .unset] [(.int (1 : Int32)), (.int r1), (.int (((XT.ushrL c1 ((3 : Int32) * kv)).toInt32) &&& (7 : Int32)))]))
  refine own_st (fun _ kz => XS.iadd X0.here hx rfl (hb hby dp_32) rfl kz) ?_
  show own_Win p e below s _ _ _ (s₁.setTop (mkF m 33 #[.val (.ref aI), .val (.ref aP), .val (.ref aA), .val (.ref aB), .val (.int kv), .val (.long c0), .second, .val (.long c1), .second, .val (.int l0), .val (.int l1), .val (.int r0), .val (.int r1), .val (.int m0), .unset, .unset, .unset, .unset, .unset] [(.int (r1 + (1 : Int32))), (.int (((XT.ushrL c1 ((3 : Int32) * kv)).toInt32) &&& (7 : Int32)))]))
  refine own_st (fun _ kz => iremM X0 hx rfl (hb hby dp_33) rfl (own_nz r10 r11) kz) ?_
  show own_Win p e below s _ _ _ (s₁.setTop (mkF m 34 #[.val (.ref aI), .val (.ref aP), .val (.ref aA), .val (.ref aB), .val (.int kv), .val (.long c0), .second, .val (.long c1), .second, .val (.int l0), .val (.int l1), .val (.int r0), .val (.int r1), .val (.int m0), .unset, .unset, .unset, .unset, .unset] [(.int ((((XT.ushrL c1 ((3 : Int32) * kv)).toInt32) &&& (7 : Int32)) % (r1 + (1 : Int32))))]))
  generalize ((((XT.ushrL c1 ((3 : Int32) * kv)).toInt32) &&& (7 : Int32)) % (r1 + (1 : Int32))) = m1
  show own_Win p e below s _ _ _ (s₁.setTop (mkF m 34 #[.val (.ref aI), .val (.ref aP), .val (.ref aA), .val (.ref aB), .val (.int kv), .val (.long c0), .second, .val (.long c1), .second, .val (.int l0), .val (.int l1), .val (.int r0), .val (.int r1), .val (.int m0), .unset, .unset, .unset, .unset, .unset] [(.int m1)]))
  refine own_st (fun _ kz => XS.istore X0.here hx rfl (hb hby dp_34) rfl (l' := #[.val (.ref aI), .val (.ref aP), .val (.ref aA), .val (.ref aB), .val (.int kv), .val (.long c0), .second, .val (.long c1), .second, .val (.int l0), .val (.int l1), .val (.int r0), .val (.int r1), .val (.int m0), .val (.int m1), .unset, .unset, .unset, .unset]) rfl kz) ?_
  show own_Win p e below s _ _ _ (s₁.setTop (mkF m 36 #[.val (.ref aI), .val (.ref aP), .val (.ref aA), .val (.ref aB), .val (.int kv), .val (.long c0), .second, .val (.long c1), .second, .val (.int l0), .val (.int l1), .val (.int r0), .val (.int r1), .val (.int m0), .val (.int m1), .unset, .unset, .unset, .unset] []))
  refine own_st (fun _ kz => XS.iload X0.here hx rfl (hb hby dp_36) rfl kz) ?_
  show own_Win p e below s _ _ _ (s₁.setTop (mkF m 38 #[.val (.ref aI), .val (.ref aP), .val (.ref aA), .val (.ref aB), .val (.int kv), .val (.long c0), .second, .val (.long c1), .second, .val (.int l0), .val (.int l1), .val (.int r0), .val (.int r1), .val (.int m0), .val (.int m1), .unset, .unset, .unset, .unset] [(.int l0)]))
  refine own_st (fun _ kz => XT.i2l X0.here hx rfl (hb hby dp_38) rfl kz) ?_
  show own_Win p e below s _ _ _ (s₁.setTop (mkF m 39 #[.val (.ref aI), .val (.ref aP), .val (.ref aA), .val (.ref aB), .val (.int kv), .val (.long c0), .second, .val (.long c1), .second, .val (.int l0), .val (.int l1), .val (.int r0), .val (.int r1), .val (.int m0), .val (.int m1), .unset, .unset, .unset, .unset] [(.long (l0.toInt64))]))
  refine own_st (fun _ kz => XS.iload X0.here hx rfl (hb hby dp_39) rfl kz) ?_
  show own_Win p e below s _ _ _ (s₁.setTop (mkF m 41 #[.val (.ref aI), .val (.ref aP), .val (.ref aA), .val (.ref aB), .val (.int kv), .val (.long c0), .second, .val (.long c1), .second, .val (.int l0), .val (.int l1), .val (.int r0), .val (.int r1), .val (.int m0), .val (.int m1), .unset, .unset, .unset, .unset] [(.int m0), (.long (l0.toInt64))]))
  refine own_st (fun _ kz => XT.i2l X0.here hx rfl (hb hby dp_41) rfl kz) ?_
  show own_Win p e below s _ _ _ (s₁.setTop (mkF m 42 #[.val (.ref aI), .val (.ref aP), .val (.ref aA), .val (.ref aB), .val (.int kv), .val (.long c0), .second, .val (.long c1), .second, .val (.int l0), .val (.int l1), .val (.int r0), .val (.int r1), .val (.int m0), .val (.int m1), .unset, .unset, .unset, .unset] [(.long (m0.toInt64)), (.long (l0.toInt64))]))
  refine own_st (fun _ kz => XT.ladd X0.here hx rfl (hb hby dp_42) rfl kz) ?_
  show own_Win p e below s _ _ _ (s₁.setTop (mkF m 43 #[.val (.ref aI), .val (.ref aP), .val (.ref aA), .val (.ref aB), .val (.int kv), .val (.long c0), .second, .val (.long c1), .second, .val (.int l0), .val (.int l1), .val (.int r0), .val (.int r1), .val (.int m0), .val (.int m1), .unset, .unset, .unset, .unset] [(.long ((l0.toInt64) + (m0.toInt64)))]))
  obtain ⟨z0, hz0⟩ : ∃ z, FP.l2d ((l0.toInt64) + (m0.toInt64)) = z := ⟨_, rfl⟩
  have d0 : ∃ v, FP.Core.DInt v z0 := hz0 ▸ own_sum l0 m0
  refine own_st (fun _ kz => XS.l2dS X0.here hx rfl (hb hby dp_43) rfl hz0 kz) ?_
  show own_Win p e below s _ _ _ (s₁.setTop (mkF m 44 #[.val (.ref aI), .val (.ref aP), .val (.ref aA), .val (.ref aB), .val (.int kv), .val (.long c0), .second, .val (.long c1), .second, .val (.int l0), .val (.int l1), .val (.int r0), .val (.int r1), .val (.int m0), .val (.int m1), .unset, .unset, .unset, .unset] [(.double z0)]))
  refine own_st (fun _ kz => XS.dstore X0.here hx rfl (hb hby dp_44) rfl (l' := #[.val (.ref aI), .val (.ref aP), .val (.ref aA), .val (.ref aB), .val (.int kv), .val (.long c0), .second, .val (.long c1), .second, .val (.int l0), .val (.int l1), .val (.int r0), .val (.int r1), .val (.int m0), .val (.int m1), .val (.double z0), .second, .unset, .unset]) rfl kz) ?_
  show own_Win p e below s _ _ _ (s₁.setTop (mkF m 46 #[.val (.ref aI), .val (.ref aP), .val (.ref aA), .val (.ref aB), .val (.int kv), .val (.long c0), .second, .val (.long c1), .second, .val (.int l0), .val (.int l1), .val (.int r0), .val (.int r1), .val (.int m0), .val (.int m1), .val (.double z0), .second, .unset, .unset] []))
  refine own_st (fun _ kz => XS.iload X0.here hx rfl (hb hby dp_46) rfl kz) ?_
  show own_Win p e below s _ _ _ (s₁.setTop (mkF m 48 #[.val (.ref aI), .val (.ref aP), .val (.ref aA), .val (.ref aB), .val (.int kv), .val (.long c0), .second, .val (.long c1), .second, .val (.int l0), .val (.int l1), .val (.int r0), .val (.int r1), .val (.int m0), .val (.int m1), .val (.double z0), .second, .unset, .unset] [(.int l1)]))
  refine own_st (fun _ kz => XT.i2l X0.here hx rfl (hb hby dp_48) rfl kz) ?_
  show own_Win p e below s _ _ _ (s₁.setTop (mkF m 49 #[.val (.ref aI), .val (.ref aP), .val (.ref aA), .val (.ref aB), .val (.int kv), .val (.long c0), .second, .val (.long c1), .second, .val (.int l0), .val (.int l1), .val (.int r0), .val (.int r1), .val (.int m0), .val (.int m1), .val (.double z0), .second, .unset, .unset] [(.long (l1.toInt64))]))
  refine own_st (fun _ kz => XS.iload X0.here hx rfl (hb hby dp_49) rfl kz) ?_
  show own_Win p e below s _ _ _ (s₁.setTop (mkF m 51 #[.val (.ref aI), .val (.ref aP), .val (.ref aA), .val (.ref aB), .val (.int kv), .val (.long c0), .second, .val (.long c1), .second, .val (.int l0), .val (.int l1), .val (.int r0), .val (.int r1), .val (.int m0), .val (.int m1), .val (.double z0), .second, .unset, .unset] [(.int m1), (.long (l1.toInt64))]))
  refine own_st (fun _ kz => XT.i2l X0.here hx rfl (hb hby dp_51) rfl kz) ?_
  show own_Win p e below s _ _ _ (s₁.setTop (mkF m 52 #[.val (.ref aI), .val (.ref aP), .val (.ref aA), .val (.ref aB), .val (.int kv), .val (.long c0), .second, .val (.long c1), .second, .val (.int l0), .val (.int l1), .val (.int r0), .val (.int r1), .val (.int m0), .val (.int m1), .val (.double z0), .second, .unset, .unset] [(.long (m1.toInt64)), (.long (l1.toInt64))]))
  refine own_st (fun _ kz => XT.ladd X0.here hx rfl (hb hby dp_52) rfl kz) ?_
  show own_Win p e below s _ _ _ (s₁.setTop (mkF m 53 #[.val (.ref aI), .val (.ref aP), .val (.ref aA), .val (.ref aB), .val (.int kv), .val (.long c0), .second, .val (.long c1), .second, .val (.int l0), .val (.int l1), .val (.int r0), .val (.int r1), .val (.int m0), .val (.int m1), .val (.double z0), .second, .unset, .unset] [(.long ((l1.toInt64) + (m1.toInt64)))]))
  obtain ⟨z1, hz1⟩ : ∃ z, FP.l2d ((l1.toInt64) + (m1.toInt64)) = z := ⟨_, rfl⟩
  have d1 : ∃ v, FP.Core.DInt v z1 := hz1 ▸ own_sum l1 m1
  refine own_st (fun _ kz => XS.l2dS X0.here hx rfl (hb hby dp_53) rfl hz1 kz) ?_
  show own_Win p e below s _ _ _ (s₁.setTop (mkF m 54 #[.val (.ref aI), .val (.ref aP), .val (.ref aA), .val (.ref aB), .val (.int kv), .val (.long c0), .second, .val (.long c1), .second, .val (.int l0), .val (.int l1), .val (.int r0), .val (.int r1), .val (.int m0), .val (.int m1), .val (.double z0), .second, .unset, .unset] [(.double z1)]))
  refine own_st (fun _ kz => XS.dstore X0.here hx rfl (hb hby dp_54) rfl (l' := #[.val (.ref aI), .val (.ref aP), .val (.ref aA), .val (.ref aB), .val (.int kv), .val (.long c0), .second, .val (.long c1), .second, .val (.int l0), .val (.int l1), .val (.int r0), .val (.int r1), .val (.int m0), .val (.int m1), .val (.double z0), .second, .val (.double z1), .second]) rfl kz) ?_
  show own_Win p e below s _ _ _ (s₁.setTop (mkF m 56 #[.val (.ref aI), .val (.ref aP), .val (.ref aA), .val (.ref aB), .val (.int kv), .val (.long c0), .second, .val (.long c1), .second, .val (.int l0), .val (.int l1), .val (.int r0), .val (.int r1), .val (.int m0), .val (.int m1), .val (.double z0), .second, .val (.double z1), .second] []))
  refine own_st (fun _ kz => XS.aloadN X0.here hx rfl (hb hby dp_56) rfl rfl kz) ?_
  show own_Win p e below s _ _ _ (s₁.setTop (mkF m 57 #[.val (.ref aI), .val (.ref aP), .val (.ref aA), .val (.ref aB), .val (.int kv), .val (.long c0), .second, .val (.long c1), .second, .val (.int l0), .val (.int l1), .val (.int r0), .val (.int r1), .val (.int m0), .val (.int m1), .val (.double z0), .second, .val (.double z1), .second] [(.ref aI)]))
  refine own_st (fun _ kz => XS.iload X0.here hx rfl (hb hby dp_57) rfl kz) ?_
  show own_Win p e below s _ _ _ (s₁.setTop (mkF m 59 #[.val (.ref aI), .val (.ref aP), .val (.ref aA), .val (.ref aB), .val (.int kv), .val (.long c0), .second, .val (.long c1), .second, .val (.int l0), .val (.int l1), .val (.int r0), .val (.int r1), .val (.int m0), .val (.int m1), .val (.double z0), .second, .val (.double z1), .second] [(.int kv), (.ref aI)]))
  refine own_st (fun _ kz => XS.iload X0.here hx rfl (hb hby dp_59) rfl kz) ?_
  show own_Win p e below s _ _ _ (s₁.setTop (mkF m 61 #[.val (.ref aI), .val (.ref aP), .val (.ref aA), .val (.ref aB), .val (.int kv), .val (.long c0), .second, .val (.long c1), .second, .val (.int l0), .val (.int l1), .val (.int r0), .val (.int r1), .val (.int m0), .val (.int m1), .val (.double z0), .second, .val (.double z1), .second] [(.int kv), (.int kv), (.ref aI)]))
  refine own_iastore X0 hx hZ e0 F_I (i := k) hk k18 N0 (by omega) rfl rfl (hb hby dp_61) ?_
  intro T1 h1 L1 X1 e1 N1 W1 F1
  show own_Win p e below s _ _ _ (T1.setTop (mkF m 62 #[.val (.ref aI), .val (.ref aP), .val (.ref aA), .val (.ref aB), .val (.int kv), .val (.long c0), .second, .val (.long c1), .second, .val (.int l0), .val (.int l1), .val (.int r0), .val (.int r1), .val (.int m0), .val (.int m1), .val (.double z0), .second, .val (.double z1), .second] []))
  have Z1 : n0 ≤ h1.size := by rw [Wr.size W1]; exact Z0
  have c_P_h1 : own_Da Z h1 aP 36 fP := own_Av.other W1 F_P (Nat.ne_of_gt (by omega))
  have c_A_h1 : own_Da Z h1 aA 18 f0 := own_Av.other W1 F_A (Nat.ne_of_gt (by omega))
  have c_B_h1 : own_Da Z h1 aB 18 f1 := own_Av.other W1 F_B (Nat.ne_of_gt (by omega))
  refine own_st (fun _ kz => XS.aloadN X1.here hx rfl (hb hby dp_62) rfl rfl kz) ?_
  show own_Win p e below s _ _ _ (T1.setTop (mkF m 63 #[.val (.ref aI), .val (.ref aP), .val (.ref aA), .val (.ref aB), .val (.int kv), .val (.long c0), .second, .val (.long c1), .second, .val (.int l0), .val (.int l1), .val (.int r0), .val (.int r1), .val (.int m0), .val (.int m1), .val (.double z0), .second, .val (.double z1), .second] [(.ref aA)]))
  refine own_st (fun _ kz => XS.iload X1.here hx rfl (hb hby dp_63) rfl kz) ?_
  show own_Win p e below s _ _ _ (T1.setTop (mkF m 65 #[.val (.ref aI), .val (.ref aP), .val (.ref aA), .val (.ref aB), .val (.int kv), .val (.long c0), .second, .val (.long c1), .second, .val (.int l0), .val (.int l1), .val (.int r0), .val (.int r1), .val (.int m0), .val (.int m1), .val (.double z0), .second, .val (.double z1), .second] [(.int kv), (.ref aA)]))
  refine own_st (fun _ kz => XS.dload X1.here hx rfl (hb hby dp_65) rfl kz) ?_
  show own_Win p e below s _ _ _ (T1.setTop (mkF m 67 #[.val (.ref aI), .val (.ref aP), .val (.ref aA), .val (.ref aB), .val (.int kv), .val (.long c0), .second, .val (.long c1), .second, .val (.int l0), .val (.int l1), .val (.int r0), .val (.int r1), .val (.int m0), .val (.int m1), .val (.double z0), .second, .val (.double z1), .second] [(.double z0), (.int kv), (.ref aA)]))
  refine own_dastore X1 hx hZ e1 c_A_h1 (i := k) hk k18 N1 (by omega) rfl rfl (hb hby dp_67) ?_
  intro T2 h2 L2 X2 e2 N2 W2 F2
  show own_Win p e below s _ _ _ (T2.setTop (mkF m 68 #[.val (.ref aI), .val (.ref aP), .val (.ref aA), .val (.ref aB), .val (.int kv), .val (.long c0), .second, .val (.long c1), .second, .val (.int l0), .val (.int l1), .val (.int r0), .val (.int r1), .val (.int m0), .val (.int m1), .val (.double z0), .second, .val (.double z1), .second] []))
  have Z2 : n0 ≤ h2.size := by rw [Wr.size W2]; exact Z1
  have c_I_h2 : own_Ia Z h2 aI 18 (own_up fI k kv) := own_Av.other W2 F1 (Nat.ne_of_lt (by omega))
  have c_P_h2 : own_Da Z h2 aP 36 fP := own_Av.other W2 c_P_h1 (Nat.ne_of_lt (by omega))
  have c_B_h2 : own_Da Z h2 aB 18 f1 := own_Av.other W2 c_B_h1 (Nat.ne_of_gt (by omega))
  refine own_st (fun _ kz => XS.aloadN X2.here hx rfl (hb hby dp_68) rfl rfl kz) ?_
  show own_Win p e below s _ _ _ (T2.setTop (mkF m 69 #[.val (.ref aI), .val (.ref aP), .val (.ref aA), .val (.ref aB), .val (.int kv), .val (.long c0), .second, .val (.long c1), .second, .val (.int l0), .val (.int l1), .val (.int r0), .val (.int r1), .val (.int m0), .val (.int m1), .val (.double z0), .second, .val (.double z1), .second] [(.ref aB)]))
  refine own_st (fun _ kz => XS.iload X2.here hx rfl (hb hby dp_69) rfl kz) ?_
  show own_Win p e below s _ _ _ (T2.setTop (mkF m 71 #[.val (.ref aI), .val (.ref aP), .val (.ref aA), .val (.ref aB), .val (.int kv), .val (.long c0), .second, .val (.long c1), .second, .val (.int l0), .val (.int l1), .val (.int r0), .val (.int r1), .val (.int m0), .val (.int m1), .val (.double z0), .second, .val (.double z1), .second] [(.int kv), (.ref aB)]))
  refine own_st (fun _ kz => XS.dload X2.here hx rfl (hb hby dp_71) rfl kz) ?_
  show own_Win p e below s _ _ _ (T2.setTop (mkF m 73 #[.val (.ref aI), .val (.ref aP), .val (.ref aA), .val (.ref aB), .val (.int kv), .val (.long c0), .second, .val (.long c1), .second, .val (.int l0), .val (.int l1), .val (.int r0), .val (.int r1), .val (.int m0), .val (.int m1), .val (.double z0), .second, .val (.double z1), .second] [(.double z1), (.int kv), (.ref aB)]))
  refine own_dastore X2 hx hZ e2 c_B_h2 (i := k) hk k18 N2 (by omega) rfl rfl (hb hby dp_73) ?_
  intro T3 h3 L3 X3 e3 N3 W3 F3
  show own_Win p e below s _ _ _ (T3.setTop (mkF m 74 #[.val (.ref aI), .val (.ref aP), .val (.ref aA), .val (.ref aB), .val (.int kv), .val (.long c0), .second, .val (.long c1), .second, .val (.int l0), .val (.int l1), .val (.int r0), .val (.int r1), .val (.int m0), .val (.int m1), .val (.double z0), .second, .val (.double z1), .second] []))
  have Z3 : n0 ≤ h3.size := by rw [Wr.size W3]; exact Z2
  have c_I_h3 : own_Ia Z h3 aI 18 (own_up fI k kv) := own_Av.other W3 c_I_h2 (Nat.ne_of_lt (by omega))
  have c_P_h3 : own_Da Z h3 aP 36 fP := own_Av.other W3 c_P_h2 (Nat.ne_of_lt (by omega))
  have c_A_h3 : own_Da Z h3 aA 18 (own_up f0 k z0) := own_Av.other W3 F2 (Nat.ne_of_lt (by omega))
  refine own_st (fun _ kz => XS.aloadN X3.here hx rfl (hb hby dp_74) rfl rfl kz) ?_
  show own_Win p e below s _ _ _ (T3.setTop (mkF m 75 #[.val (.ref aI), .val (.ref aP), .val (.ref aA), .val (.ref aB), .val (.int kv), .val (.long c0), .second, .val (.long c1), .second, .val (.int l0), .val (.int l1), .val (.int r0), .val (.int r1), .val (.int m0), .val (.int m1), .val (.double z0), .second, .val (.double z1), .second] [(.ref aP)]))
  refine own_st (fun _ kz => XS.iconst X3.here hx rfl (hb hby dp_75) kz) ?_
  show own_Win p e below s _ _ _ (T3.setTop (mkF m 76 #[.val (.ref aI), .val (.ref aP), .val (.ref aA), .val (.ref aB), .val (.int kv), .val (.long c0), .second, .val (.long c1), .second, .val (.int l0), .val (.int l1), .val (.int r0), .val (.int r1), .val (.int m0), .val (.int m1), .val (.double z0), .second, .val (.double z1), .second] [(.int (2 : Int32)), (.ref aP)]))
  refine own_st (fun _ kz => XS.iload X3.here hx rfl (hb hby dp_76) rfl kz) ?_
  show own_Win p e below s _ _ _ (T3.setTop (mkF m 78 #[.val (.ref aI), .val (.ref aP), .val (.ref aA), .val (.ref aB), .val (.int kv), .val (.long c0), .second, .val (.long c1), .second, .val (.int l0), .val (.int l1), .val (.int r0), .val (.int r1), .val (.int m0), .val (.int m1), .val (.double z0), .second, .val (.double z1), .second] [(.int kv), (.int (2 : Int32)), (.ref aP)]))
  refine own_st (fun _ kz => XS.imul X3.here hx rfl (hb hby dp_78) rfl kz) ?_
  show own_Win p e below s _ _ _ (T3.setTop (mkF m 79 #[.val (.ref aI), .val (.ref aP), .val (.ref aA), .val (.ref aB), .val (.int kv), .val (.long c0), .second, .val (.long c1), .second, .val (.int l0), .val (.int l1), .val (.int r0), .val (.int r1), .val (.int m0), .val (.int m1), .val (.double z0), .second, .val (.double z1), .second] [(.int ((2 : Int32) * kv)), (.ref aP)]))
  refine own_st (fun _ kz => XS.dload X3.here hx rfl (hb hby dp_79) rfl kz) ?_
  show own_Win p e below s _ _ _ (T3.setTop (mkF m 81 #[.val (.ref aI), .val (.ref aP), .val (.ref aA), .val (.ref aB), .val (.int kv), .val (.long c0), .second, .val (.long c1), .second, .val (.int l0), .val (.int l1), .val (.int r0), .val (.int r1), .val (.int m0), .val (.int m1), .val (.double z0), .second, .val (.double z1), .second] [(.double z0), (.int ((2 : Int32) * kv)), (.ref aP)]))
  refine own_dastore X3 hx hZ e3 c_P_h3 (i := (2 * k)) (own_x2 hk k18) (by omega) N3 (by omega) rfl rfl (hb hby dp_81) ?_
  intro T4 h4 L4 X4 e4 N4 W4 F4
  show own_Win p e below s _ _ _ (T4.setTop (mkF m 82 #[.val (.ref aI), .val (.ref aP), .val (.ref aA), .val (.ref aB), .val (.int kv), .val (.long c0), .second, .val (.long c1), .second, .val (.int l0), .val (.int l1), .val (.int r0), .val (.int r1), .val (.int m0), .val (.int m1), .val (.double z0), .second, .val (.double z1), .second] []))
  have Z4 : n0 ≤ h4.size := by rw [Wr.size W4]; exact Z3
  have c_I_h4 : own_Ia Z h4 aI 18 (own_up fI k kv) := own_Av.other W4 c_I_h3 (Nat.ne_of_lt (by omega))
  have c_A_h4 : own_Da Z h4 aA 18 (own_up f0 k z0) := own_Av.other W4 c_A_h3 (Nat.ne_of_gt (by omega))
  have c_B_h4 : own_Da Z h4 aB 18 (own_up f1 k z1) := own_Av.other W4 F3 (Nat.ne_of_gt (by omega))
  refine own_st (fun _ kz => XS.aloadN X4.here hx rfl (hb hby dp_82) rfl rfl kz) ?_
  show own_Win p e below s _ _ _ (T4.setTop (mkF m 83 #[.val (.ref aI), .val (.ref aP), .val (.ref aA), .val (.ref aB), .val (.int kv), .val (.long c0), .second, .val (.long c1), .second, .val (.int l0), .val (.int l1), .val (.int r0), .val (.int r1), .val (.int m0), .val (.int m1), .val (.double z0), .second, .val (.double z1), .second] [(.ref aP)]))
  refine own_st (fun _ kz => XS.iconst X4.here hx rfl (hb hby dp_83) kz) ?_
  show own_Win p e below s _ _ _ (T4.setTop (mkF m 84 #[.val (.ref aI), .val (.ref aP), .val (.ref aA), .val (.ref aB), .val (.int kv), .val (.long c0), .second, .val (.long c1), .second, .val (.int l0), .val (.int l1), .val (.int r0), .val (.int r1), .val (.int m0), .val (.int m1), .val (.double z0), .second, .val (.double z1), .second] [(.int (2 : Int32)), (.ref aP)]))
  refine own_st (fun _ kz => XS.iload X4.here hx rfl (hb hby dp_84) rfl kz) ?_
  show own_Win p e below s _ _ _ (T4.setTop (mkF m 86 #[.val (.ref aI), .val (.ref aP), .val (.ref aA), .val (.ref aB), .val (.int kv), .val (.long c0), .second, .val (.long c1), .second, .val (.int l0), .val (.int l1), .val (.int r0), .val (.int r1), .val (.int m0), .val (.int m1), .val (.double z0), .second, .val (.double z1), .second] [(.int kv), (.int (2 : Int32)), (.ref aP)]))
  refine own_st (fun _ kz => XS.imul X4.here hx rfl (hb hby dp_86) rfl kz) ?_
  show own_Win p e below s _ _ _ (T4.setTop (mkF m 87 #[.val (.ref aI), .val (.ref aP), .val (.ref aA), .val (.ref aB), .val (.int kv), .val (.long c0), .second, .val (.long c1), .second, .val (.int l0), .val (.int l1), .val (.int r0), .val (.int r1), .val (.int m0), .val (.int m1), .val (.double z0), .second, .val (.double z1), .second] [(.int ((2 : Int32) * kv)), (.ref aP)]))
  refine own_st (fun _ kz => XS.iconst X4.here hx rfl (hb hby dp_87) kz) ?_
  show own_Win p e below s _ _ _ (T4.setTop (mkF m 88 #[.val (.ref aI), .val (.ref aP), .val (.ref aA), .val (.ref aB), .val (.int kv), .val (.long c0), .second, .val (.long c1), .second, .val (.int l0), .val (.int l1), .val (.int r0), .val (.int r1), .val (.int m0), .val (.int m1), .val (.double z0), .second, .val (.double z1), .second] [(.int (1 : Int32)), (.int ((2 : Int32) * kv)), (.ref aP)]))
  refine own_st (fun _ kz => XS.iadd X4.here hx rfl (hb hby dp_88) rfl kz) ?_
  show own_Win p e below s _ _ _ (T4.setTop (mkF m 89 #[.val (.ref aI), .val (.ref aP), .val (.ref aA), .val (.ref aB), .val (.int kv), .val (.long c0), .second, .val (.long c1), .second, .val (.int l0), .val (.int l1), .val (.int r0), .val (.int r1), .val (.int m0), .val (.int m1), .val (.double z0), .second, .val (.double z1), .second] [(.int (((2 : Int32) * kv) + (1 : Int32))), (.ref aP)]))
  refine own_st (fun _ kz => XS.dload X4.here hx rfl (hb hby dp_89) rfl kz) ?_
  show own_Win p e below s _ _ _ (T4.setTop (mkF m 91 #[.val (.ref aI), .val (.ref aP), .val (.ref aA), .val (.ref aB), .val (.int kv), .val (.long c0), .second, .val (.long c1), .second, .val (.int l0), .val (.int l1), .val (.int r0), .val (.int r1), .val (.int m0), .val (.int m1), .val (.double z0), .second, .val (.double z1), .second] [(.double z1), (.int (((2 : Int32) * kv) + (1 : Int32))), (.ref aP)]))
  refine own_dastore X4 hx hZ e4 F4 (i := (2 * k + 1)) (own_x3 hk k18 (yv := 1) (y := 1) rfl (by decide)) (by omega) N4 (by omega) rfl rfl (hb hby dp_91) ?_
  intro T5 h5 L5 X5 e5 N5 W5 F5
  show own_Win p e below s _ _ _ (T5.setTop (mkF m 92 #[.val (.ref aI), .val (.ref aP), .val (.ref aA), .val (.ref aB), .val (.int kv), .val (.long c0), .second, .val (.long c1), .second, .val (.int l0), .val (.int l1), .val (.int r0), .val (.int r1), .val (.int m0), .val (.int m1), .val (.double z0), .second, .val (.double z1), .second] []))
  have Z5 : n0 ≤ h5.size := by rw [Wr.size W5]; exact Z4
  have c_I_h5 : own_Ia Z h5 aI 18 (own_up fI k kv) := own_Av.other W5 c_I_h4 (Nat.ne_of_lt (by omega))
  have c_A_h5 : own_Da Z h5 aA 18 (own_up f0 k z0) := own_Av.other W5 c_A_h4 (Nat.ne_of_gt (by omega))
  have c_B_h5 : own_Da Z h5 aB 18 (own_up f1 k z1) := own_Av.other W5 c_B_h4 (Nat.ne_of_gt (by omega))
  refine own_retV X5 hx hlk Bd.returns (hb hby dp_92) ?_ (Nat.le_refl _) (Nat.le_refl _)
  rw [e5]
  exact ⟨rfl, N5, ((((((Keep.refl h0 [aI, aP, aA, aB]).wr W1 (Or.inl (List.mem_of_getElem? (i := 0) rfl))).wr W2 (Or.inl (List.mem_of_getElem? (i := 2) rfl))).wr W3 (Or.inl (List.mem_of_getElem? (i := 3) rfl))).wr W4 (Or.inl (List.mem_of_getElem? (i := 1) rfl))).wr W5 (Or.inl (List.mem_of_getElem? (i := 1) rfl))), _, _, _, _, c_I_h5, F5, c_A_h5, c_B_h5, own_fill hk k18 d0 d1 hf⟩
def Q_rmX (Z : State) (t aI aP aF aT aL aH : Nat) (gv iv jv : Int32) (i j : Nat) (σ : Nat → Nat) (O : Nat → Nat → UInt64) (h0 : Heap) (n0 : Nat) : Option Value → Heap → List Loc → Prop := fun v h L => v = none ∧ Fr n0 L ∧ Keep h0 h [aI, aP] ∧ own_Ia Z h aI 18 (own_I (own_sw σ i j)) ∧ own_Da Z h aP 36 (own_P O (own_sw σ i j))
set_option maxRecDepth 65536 in
set_option maxHeartbeats 40000000 in
theorem rmX (l : Launch) (Z : State) (a0 : Array Value) (hw : ∀ d ∈ tables_1, d.before a0 Z = true) (ws : List Jvm.Cond) (t aI aP aF aT aL aH : Nat) (gv iv jv : Int32) (i j : Nat) (σ : Nat → Nat) (O : Nat → Nat → UInt64) (h0 : Heap) (n0 : Nat) (Z0 : n0 ≤ h0.size) (FS : own_Fs Z h0 t 2 gv aI aP aF aT aL aH) (q0 : n0 ≤ aI) (o1 : aI < aP) (o2 : aP < t) (FI : own_Ia Z h0 aI 18 (own_I σ)) (FQ : own_Da Z h0 aP 36 (own_P O σ)) (hi : iv.toInt = (i : Int)) (i18 : i < 18) (hj : jv.toInt = (j : Int)) (j18 : j < 18) :
    MetFree l yX (head1 (Jvm.Cond.code yX prog_13_method_6_code 7 none :: ws) ({ frames := 0, cells := 0, slots := 0, locals := 0 } : Room)) (fun az Uz => az = #[(.ref t), (.int iv), (.int jv)] ∧ Z.Warmed39 Uz.vm ∧ Uz.heap = h0) (fun _ _ _ _ _ => True) (fun _ Uz oz Vz => ∃ vz Lz, oz = .returned vz ∧ (Q_rmX Z t aI aP aF aT aL aH gv iv jv i j σ O h0 n0) vz Vz.heap Lz ∧ FrameEnd Uz oz Vz Lz ({ frames := 0, cells := 0, slots := 0, locals := 0 } : Room).cells ({ frames := 0, cells := 0, slots := 0, locals := 0 } : Room).slots) := by
  refine MetFree.of_bodySF (plainFor_of_name pnK) hisR ?_
  intro p e s m args below meth c s₁ Bd hml0 hP hK
  obtain ⟨rfl, hZ, hh⟩ := hP
  have hx := Bd.exec
  have hby := Bd.bytes
  have hlk := BodyLoose.notSynchronized Bd
  have hml : c.maxLocals = 7 := hml0
  have hown : s.vm.findClass "com/example/skyweave/skyweave/KdTree" = some m.cls := findClass_of_methodNamed Bd.named
  have hnm := (name_of_methodNamed Bd.named Bd.method).1
  have X0 : Stand p l e ({ frames := 0, cells := 0, slots := 0, locals := 0 } : Room) s m #[(.ref t), (.int iv), (.int jv)] below meth c s₁ [] 0 0 := Stand.of_body Bd
  have e0 : s₁.heap = h0 := by rw [← hh, Bd.state]; rfl
  have N0 := Fr.nil n0
  show own_Win p e below s (Q_rmX Z t aI aP aF aT aL aH gv iv jv i j σ O h0 n0) _ _ _
  refine own_st (fun tz kz => castTop (efX m t iv jv) kz) ?_
  show own_Win p e below s _ _ _ (s₁.setTop (mkF m 0 #[.val (.ref t), .val (.int iv), .val (.int jv), .unset, .unset, .unset, .unset] []))
  refine own_st (fun _ kz => XS.aloadN X0.here hx rfl (hb hby dx_0) rfl rfl kz) ?_
  show own_Win p e below s _ _ _ (s₁.setTop (mkF m 1 #[.val (.ref t), .val (.int iv), .val (.int jv), .unset, .unset, .unset, .unset] [(.ref t)]))
  obtain ⟨T1, X1, e1, st1⟩ := getF X0 hx hZ hown (host := "") (Or.inl (hw _ (List.mem_of_getElem? (i := 17) rfl))) Via.refl e0 FS.2.2.1 (g := (mkF m 1 #[.val (.ref t), .val (.int iv), .val (.int jv), .unset, .unset, .unset, .unset] [(.ref t)])) rfl rfl (hb hby dx_1)
  refine own_st st1 ?_
  show own_Win p e below s _ _ _ (T1.setTop (mkF m 4 #[.val (.ref t), .val (.int iv), .val (.int jv), .unset, .unset, .unset, .unset] [(.ref aI)]))
  refine own_st (fun _ kz => XS.iloadN X1.here hx rfl (hb hby dx_4) rfl kz) ?_
  show own_Win p e below s _ _ _ (T1.setTop (mkF m 5 #[.val (.ref t), .val (.int iv), .val (.int jv), .unset, .unset, .unset, .unset] [(.int iv), (.ref aI)]))
  refine own_iaload X1 hx hZ e1 FI (i := i) hi i18 (x := (own_I σ i)) rfl rfl rfl (hb hby dx_5) ?_
  show own_Win p e below s _ _ _ (T1.setTop (mkF m 6 #[.val (.ref t), .val (.int iv), .val (.int jv), .unset, .unset, .unset, .unset] [(.int (own_I σ i))]))
  refine own_st (fun _ kz => XS.istoreN X1.here hx rfl (hb hby dx_6) rfl (l' := #[.val (.ref t), .val (.int iv), .val (.int jv), .val (.int (own_I σ i)), .unset, .unset, .unset]) rfl kz) ?_
  show own_Win p e below s _ _ _ (T1.setTop (mkF m 7 #[.val (.ref t), .val (.int iv), .val (.int jv), .val (.int (own_I σ i)), .unset, .unset, .unset] []))
  refine own_st (fun _ kz => XS.aloadN X1.here hx rfl (hb hby dx_7) rfl rfl kz) ?_
  show own_Win p e below s _ _ _ (T1.setTop (mkF m 8 #[.val (.ref t), .val (.int iv), .val (.int jv), .val (.int (own_I σ i)), .unset, .unset, .unset] [(.ref t)]))
  obtain ⟨T2, X2, e2, st2⟩ := getF X1 hx hZ hown (host := "") (Or.inl (hw _ (List.mem_of_getElem? (i := 17) rfl))) Via.refl e1 FS.2.2.1 (g := (mkF m 8 #[.val (.ref t), .val (.int iv), .val (.int jv), .val (.int (own_I σ i)), .unset, .unset, .unset] [(.ref t)])) rfl rfl (hb hby dx_8)
  refine own_st st2 ?_
  show own_Win p e below s _ _ _ (T2.setTop (mkF m 11 #[.val (.ref t), .val (.int iv), .val (.int jv), .val (.int (own_I σ i)), .unset, .unset, .unset] [(.ref aI)]))
  refine own_st (fun _ kz => XS.iloadN X2.here hx rfl (hb hby dx_11) rfl kz) ?_
  show own_Win p e below s _ _ _ (T2.setTop (mkF m 12 #[.val (.ref t), .val (.int iv), .val (.int jv), .val (.int (own_I σ i)), .unset, .unset, .unset] [(.int iv), (.ref aI)]))
  refine own_st (fun _ kz => XS.aloadN X2.here hx rfl (hb hby dx_12) rfl rfl kz) ?_
  show own_Win p e below s _ _ _ (T2.setTop (mkF m 13 #[.val (.ref t), .val (.int iv), .val (.int jv), .val (.int (own_I σ i)), .unset, .unset, .unset] [(.ref t), (.int iv), (.ref aI)]))
  obtain ⟨T3, X3, e3, st3⟩ := getF X2 hx hZ hown (host := "") (Or.inl (hw _ (List.mem_of_getElem? (i := 17) rfl))) Via.refl e2 FS.2.2.1 (g := (mkF m 13 #[.val (.ref t), .val (.int iv), .val (.int jv), .val (.int (own_I σ i)), .unset, .unset, .unset] [(.ref t), (.int iv), (.ref aI)])) rfl rfl (hb hby dx_13)
  refine own_st st3 ?_
  show own_Win p e below s _ _ _ (T3.setTop (mkF m 16 #[.val (.ref t), .val (.int iv), .val (.int jv), .val (.int (own_I σ i)), .unset, .unset, .unset] [(.ref aI), (.int iv), (.ref aI)]))
  refine own_st (fun _ kz => XS.iloadN X3.here hx rfl (hb hby dx_16) rfl kz) ?_
  show own_Win p e below s _ _ _ (T3.setTop (mkF m 17 #[.val (.ref t), .val (.int iv), .val (.int jv), .val (.int (own_I σ i)), .unset, .unset, .unset] [(.int jv), (.ref aI), (.int iv), (.ref aI)]))
  refine own_iaload X3 hx hZ e3 FI (i := j) hj j18 (x := (own_I σ j)) rfl rfl rfl (hb hby dx_17) ?_
  show own_Win p e below s _ _ _ (T3.setTop (mkF m 18 #[.val (.ref t), .val (.int iv), .val (.int jv), .val (.int (own_I σ i)), .unset, .unset, .unset] [(.int (own_I σ j)), (.int iv), (.ref aI)]))
  refine own_iastore X3 hx hZ e3 FI (i := i) hi i18 N0 (by omega) rfl rfl (hb hby dx_18) ?_
  intro T4 h4 L4 X4 e4 N4 W4 F4
  show own_Win p e below s _ _ _ (T4.setTop (mkF m 19 #[.val (.ref t), .val (.int iv), .val (.int jv), .val (.int (own_I σ i)), .unset, .unset, .unset] []))
  have Z4 : n0 ≤ h4.size := by rw [Wr.size W4]; exact Z0
  have c_T_h4 : own_Fs Z h4 t 2 gv aI aP aF aT aL aH := own_Fs.other W4 FS (Nat.ne_of_gt (by omega))
  have c_Q_h4 : own_Da Z h4 aP 36 (own_P O σ) := own_Av.other W4 FQ (Nat.ne_of_gt (by omega))
  refine own_st (fun _ kz => XS.aloadN X4.here hx rfl (hb hby dx_19) rfl rfl kz) ?_
  show own_Win p e below s _ _ _ (T4.setTop (mkF m 20 #[.val (.ref t), .val (.int iv), .val (.int jv), .val (.int (own_I σ i)), .unset, .unset, .unset] [(.ref t)]))
  obtain ⟨T5, X5, e5, st5⟩ := getF X4 hx hZ hown (host := "") (Or.inl (hw _ (List.mem_of_getElem? (i := 17) rfl))) Via.refl e4 c_T_h4.2.2.1 (g := (mkF m 20 #[.val (.ref t), .val (.int iv), .val (.int jv), .val (.int (own_I σ i)), .unset, .unset, .unset] [(.ref t)])) rfl rfl (hb hby dx_20)
  refine own_st st5 ?_
  show own_Win p e below s _ _ _ (T5.setTop (mkF m 23 #[.val (.ref t), .val (.int iv), .val (.int jv), .val (.int (own_I σ i)), .unset, .unset, .unset] [(.ref aI)]))
  refine own_st (fun _ kz => XS.iloadN X5.here hx rfl (hb hby dx_23) rfl kz) ?_
  show own_Win p e below s _ _ _ (T5.setTop (mkF m 24 #[.val (.ref t), .val (.int iv), .val (.int jv), .val (.int (own_I σ i)), .unset, .unset, .unset] [(.int jv), (.ref aI)]))
  refine own_st (fun _ kz => XS.iloadN X5.here hx rfl (hb hby dx_24) rfl kz) ?_
  show own_Win p e below s _ _ _ (T5.setTop (mkF m 25 #[.val (.ref t), .val (.int iv), .val (.int jv), .val (.int (own_I σ i)), .unset, .unset, .unset] [(.int (own_I σ i)), (.int jv), (.ref aI)]))
  refine own_iastore X5 hx hZ e5 F4 (i := j) hj j18 N4 (by omega) rfl rfl (hb hby dx_25) ?_
  intro T6 h6 L6 X6 e6 N6 W6 F6
  show own_Win p e below s _ _ _ (T6.setTop (mkF m 26 #[.val (.ref t), .val (.int iv), .val (.int jv), .val (.int (own_I σ i)), .unset, .unset, .unset] []))
  have Z6 : n0 ≤ h6.size := by rw [Wr.size W6]; exact Z4
  have c_T_h6 : own_Fs Z h6 t 2 gv aI aP aF aT aL aH := own_Fs.other W6 c_T_h4 (Nat.ne_of_gt (by omega))
  have c_Q_h6 : own_Da Z h6 aP 36 (own_P O σ) := own_Av.other W6 c_Q_h4 (Nat.ne_of_gt (by omega))
  have c_I2 : own_Ia Z h6 aI 18 (own_I (own_sw σ i j)) := own_Av.congr F6 (fun k _ => congrArg Value.int (own_swI σ i j k))
  refine own_st (fun _ kz => XS.iconst X6.here hx rfl (hb hby dx_26) kz) ?_
  show own_Win p e below s _ _ _ (T6.setTop (mkF m 27 #[.val (.ref t), .val (.int iv), .val (.int jv), .val (.int (own_I σ i)), .unset, .unset, .unset] [(.int (0 : Int32))]))
  refine own_st (fun _ kz => XS.istore X6.here hx rfl (hb hby dx_27) rfl (l' := #[.val (.ref t), .val (.int iv), .val (.int jv), .val (.int (own_I σ i)), .val (.int (0 : Int32)), .unset, .unset]) rfl kz) ?_
  show own_Win p e below s _ _ _ (T6.setTop (mkF m 29 #[.val (.ref t), .val (.int iv), .val (.int jv), .val (.int (own_I σ i)), .val (.int (0 : Int32)), .unset, .unset] []))
  refine own_st (fun _ kz => XS.iload X6.here hx rfl (hb hby dx_29) rfl kz) ?_
  show own_Win p e below s _ _ _ (T6.setTop (mkF m 31 #[.val (.ref t), .val (.int iv), .val (.int jv), .val (.int (own_I σ i)), .val (.int (0 : Int32)), .unset, .unset] [(.int (0 : Int32))]))
  refine own_st (fun _ kz => XS.aloadN X6.here hx rfl (hb hby dx_31) rfl rfl kz) ?_
  show own_Win p e below s _ _ _ (T6.setTop (mkF m 32 #[.val (.ref t), .val (.int iv), .val (.int jv), .val (.int (own_I σ i)), .val (.int (0 : Int32)), .unset, .unset] [(.ref t), (.int (0 : Int32))]))
  obtain ⟨T7, X7, e7, st7⟩ := getF X6 hx hZ hown (host := "") (Or.inl (hw _ (List.mem_of_getElem? (i := 15) rfl))) Via.refl e6 c_T_h6.2.1 (g := (mkF m 32 #[.val (.ref t), .val (.int iv), .val (.int jv), .val (.int (own_I σ i)), .val (.int (0 : Int32)), .unset, .unset] [(.ref t), (.int (0 : Int32))])) rfl rfl (hb hby dx_32)
  refine own_st st7 ?_
  show own_Win p e below s _ _ _ (T7.setTop (mkF m 35 #[.val (.ref t), .val (.int iv), .val (.int jv), .val (.int (own_I σ i)), .val (.int (0 : Int32)), .unset, .unset] [(.int (2 : Int32)), (.int (0 : Int32))]))
  refine own_st (fun _ kz => XS.icmpNo X7.here hx rfl (hb hby dx_35) rfl (by decide) kz) ?_
  show own_Win p e below s _ _ _ (T7.setTop (mkF m 38 #[.val (.ref t), .val (.int iv), .val (.int jv), .val (.int (own_I σ i)), .val (.int (0 : Int32)), .unset, .unset] []))
  refine own_st (fun _ kz => XS.aloadN X7.here hx rfl (hb hby dx_38) rfl rfl kz) ?_
  show own_Win p e below s _ _ _ (T7.setTop (mkF m 39 #[.val (.ref t), .val (.int iv), .val (.int jv), .val (.int (own_I σ i)), .val (.int (0 : Int32)), .unset, .unset] [(.ref t)]))
  obtain ⟨T8, X8, e8, st8⟩ := getF X7 hx hZ hown (host := "") (Or.inl (hw _ (List.mem_of_getElem? (i := 19) rfl))) Via.refl e7 c_T_h6.2.2.2.1 (g := (mkF m 39 #[.val (.ref t), .val (.int iv), .val (.int jv), .val (.int (own_I σ i)), .val (.int (0 : Int32)), .unset, .unset] [(.ref t)])) rfl rfl (hb hby dx_39)
  refine own_st st8 ?_
  show own_Win p e below s _ _ _ (T8.setTop (mkF m 42 #[.val (.ref t), .val (.int iv), .val (.int jv), .val (.int (own_I σ i)), .val (.int (0 : Int32)), .unset, .unset] [(.ref aP)]))
  refine own_st (fun _ kz => XS.iloadN X8.here hx rfl (hb hby dx_42) rfl kz) ?_
  show own_Win p e below s _ _ _ (T8.setTop (mkF m 43 #[.val (.ref t), .val (.int iv), .val (.int jv), .val (.int (own_I σ i)), .val (.int (0 : Int32)), .unset, .unset] [(.int iv), (.ref aP)]))
  refine own_st (fun _ kz => XS.aloadN X8.here hx rfl (hb hby dx_43) rfl rfl kz) ?_
  show own_Win p e below s _ _ _ (T8.setTop (mkF m 44 #[.val (.ref t), .val (.int iv), .val (.int jv), .val (.int (own_I σ i)), .val (.int (0 : Int32)), .unset, .unset] [(.ref t), (.int iv), (.ref aP)]))
  obtain ⟨T9, X9, e9, st9⟩ := getF X8 hx hZ hown (host := "") (Or.inl (hw _ (List.mem_of_getElem? (i := 15) rfl))) Via.refl e8 c_T_h6.2.1 (g := (mkF m 44 #[.val (.ref t), .val (.int iv), .val (.int jv), .val (.int (own_I σ i)), .val (.int (0 : Int32)), .unset, .unset] [(.ref t), (.int iv), (.ref aP)])) rfl rfl (hb hby dx_44)
  refine own_st st9 ?_
  show own_Win p e below s _ _ _ (T9.setTop (mkF m 47 #[.val (.ref t), .val (.int iv), .val (.int jv), .val (.int (own_I σ i)), .val (.int (0 : Int32)), .unset, .unset] [(.int (2 : Int32)), (.int iv), (.ref aP)]))
  refine own_st (fun _ kz => XS.imul X9.here hx rfl (hb hby dx_47) rfl kz) ?_
  show own_Win p e below s _ _ _ (T9.setTop (mkF m 48 #[.val (.ref t), .val (.int iv), .val (.int jv), .val (.int (own_I σ i)), .val (.int (0 : Int32)), .unset, .unset] [(.int (iv * (2 : Int32))), (.ref aP)]))
  refine own_st (fun _ kz => XS.iload X9.here hx rfl (hb hby dx_48) rfl kz) ?_
  show own_Win p e below s _ _ _ (T9.setTop (mkF m 50 #[.val (.ref t), .val (.int iv), .val (.int jv), .val (.int (own_I σ i)), .val (.int (0 : Int32)), .unset, .unset] [(.int (0 : Int32)), (.int (iv * (2 : Int32))), (.ref aP)]))
  refine own_st (fun _ kz => XS.iadd X9.here hx rfl (hb hby dx_50) rfl kz) ?_
  show own_Win p e below s _ _ _ (T9.setTop (mkF m 51 #[.val (.ref t), .val (.int iv), .val (.int jv), .val (.int (own_I σ i)), .val (.int (0 : Int32)), .unset, .unset] [(.int ((iv * (2 : Int32)) + (0 : Int32))), (.ref aP)]))
  refine own_daload X9 hx hZ e9 c_Q_h6 (i := (2 * i + 0)) (own_ix hi (w := 0) rfl i18 (by decide)) (by omega) (x := ((own_P O σ) (2 * i + 0))) rfl rfl rfl (hb hby dx_51) ?_
  show own_Win p e below s _ _ _ (T9.setTop (mkF m 52 #[.val (.ref t), .val (.int iv), .val (.int jv), .val (.int (own_I σ i)), .val (.int (0 : Int32)), .unset, .unset] [(.double ((own_P O σ) (2 * i + 0)))]))
  refine own_st (fun _ kz => XS.dstore X9.here hx rfl (hb hby dx_52) rfl (l' := #[.val (.ref t), .val (.int iv), .val (.int jv), .val (.int (own_I σ i)), .val (.int (0 : Int32)), .val (.double ((own_P O σ) (2 * i + 0))), .second]) rfl kz) ?_
  show own_Win p e below s _ _ _ (T9.setTop (mkF m 54 #[.val (.ref t), .val (.int iv), .val (.int jv), .val (.int (own_I σ i)), .val (.int (0 : Int32)), .val (.double ((own_P O σ) (2 * i + 0))), .second] []))
  refine own_st (fun _ kz => XS.aloadN X9.here hx rfl (hb hby dx_54) rfl rfl kz) ?_
  show own_Win p e below s _ _ _ (T9.setTop (mkF m 55 #[.val (.ref t), .val (.int iv), .val (.int jv), .val (.int (own_I σ i)), .val (.int (0 : Int32)), .val (.double ((own_P O σ) (2 * i + 0))), .second] [(.ref t)]))
  obtain ⟨T10, X10, e10, st10⟩ := getF X9 hx hZ hown (host := "") (Or.inl (hw _ (List.mem_of_getElem? (i := 19) rfl))) Via.refl e9 c_T_h6.2.2.2.1 (g := (mkF m 55 #[.val (.ref t), .val (.int iv), .val (.int jv), .val (.int (own_I σ i)), .val (.int (0 : Int32)), .val (.double ((own_P O σ) (2 * i + 0))), .second] [(.ref t)])) rfl rfl (hb hby dx_55)
  refine own_st st10 ?_
  show own_Win p e below s _ _ _ (T10.setTop (mkF m 58 #[.val (.ref t), .val (.int iv), .val (.int jv), .val (.int (own_I σ i)), .val (.int (0 : Int32)), .val (.double ((own_P O σ) (2 * i + 0))), .second] [(.ref aP)]))
  refine own_st (fun _ kz => XS.iloadN X10.here hx rfl (hb hby dx_58) rfl kz) ?_
  show own_Win p e below s _ _ _ (T10.setTop (mkF m 59 #[.val (.ref t), .val (.int iv), .val (.int jv), .val (.int (own_I σ i)), .val (.int (0 : Int32)), .val (.double ((own_P O σ) (2 * i + 0))), .second] [(.int iv), (.ref aP)]))
  refine own_st (fun _ kz => XS.aloadN X10.here hx rfl (hb hby dx_59) rfl rfl kz) ?_
  show own_Win p e below s _ _ _ (T10.setTop (mkF m 60 #[.val (.ref t), .val (.int iv), .val (.int jv), .val (.int (own_I σ i)), .val (.int (0 : Int32)), .val (.double ((own_P O σ) (2 * i + 0))), .second] [(.ref t), (.int iv), (.ref aP)]))
  obtain ⟨T11, X11, e11, st11⟩ := getF X10 hx hZ hown (host := "") (Or.inl (hw _ (List.mem_of_getElem? (i := 15) rfl))) Via.refl e10 c_T_h6.2.1 (g := (mkF m 60 #[.val (.ref t), .val (.int iv), .val (.int jv), .val (.int (own_I σ i)), .val (.int (0 : Int32)), .val (.double ((own_P O σ) (2 * i + 0))), .second] [(.ref t), (.int iv), (.ref aP)])) rfl rfl (hb hby dx_60)
  refine own_st st11 ?_
  show own_Win p e below s _ _ _ (T11.setTop (mkF m 63 #[.val (.ref t), .val (.int iv), .val (.int jv), .val (.int (own_I σ i)), .val (.int (0 : Int32)), .val (.double ((own_P O σ) (2 * i + 0))), .second] [(.int (2 : Int32)), (.int iv), (.ref aP)]))
  refine own_st (fun _ kz => XS.imul X11.here hx rfl (hb hby dx_63) rfl kz) ?_
  show own_Win p e below s _ _ _ (T11.setTop (mkF m 64 #[.val (.ref t), .val (.int iv), .val (.int jv), .val (.int (own_I σ i)), .val (.int (0 : Int32)), .val (.double ((own_P O σ) (2 * i + 0))), .second] [(.int (iv * (2 : Int32))), (.ref aP)]))
  refine own_st (fun _ kz => XS.iload X11.here hx rfl (hb hby dx_64) rfl kz) ?_
  show own_Win p e below s _ _ _ (T11.setTop (mkF m 66 #[.val (.ref t), .val (.int iv), .val (.int jv), .val (.int (own_I σ i)), .val (.int (0 : Int32)), .val (.double ((own_P O σ) (2 * i + 0))), .second] [(.int (0 : Int32)), (.int (iv * (2 : Int32))), (.ref aP)]))
  refine own_st (fun _ kz => XS.iadd X11.here hx rfl (hb hby dx_66) rfl kz) ?_
  show own_Win p e below s _ _ _ (T11.setTop (mkF m 67 #[.val (.ref t), .val (.int iv), .val (.int jv), .val (.int (own_I σ i)), .val (.int (0 : Int32)), .val (.double ((own_P O σ) (2 * i + 0))), .second] [(.int ((iv * (2 : Int32)) + (0 : Int32))), (.ref aP)]))
  refine own_st (fun _ kz => XS.aloadN X11.here hx rfl (hb hby dx_67) rfl rfl kz) ?_
  show own_Win p e below s _ _ _ (T11.setTop (mkF m 68 #[.val (.ref t), .val (.int iv), .val (.int jv), .val (.int (own_I σ i)), .val (.int (0 : Int32)), .val (.double ((own_P O σ) (2 * i + 0))), .second] [(.ref t), (.int ((iv * (2 : Int32)) + (0 : Int32))), (.ref aP)]))
  obtain ⟨T12, X12, e12, st12⟩ := getF X11 hx hZ hown (host := "") (Or.inl (hw _ (List.mem_of_getElem? (i := 19) rfl))) Via.refl e11 c_T_h6.2.2.2.1 (g := (mkF m 68 #[.val (.ref t), .val (.int iv), .val (.int jv), .val (.int (own_I σ i)), .val (.int (0 : Int32)), .val (.double ((own_P O σ) (2 * i + 0))), .second] [(.ref t), (.int ((iv * (2 : Int32)) + (0 : Int32))), (.ref aP)])) rfl rfl (hb hby dx_68)
  refine own_st st12 ?_
  show own_Win p e below s _ _ _ (T12.setTop (mkF m 71 #[.val (.ref t), .val (.int iv), .val (.int jv), .val (.int (own_I σ i)), .val (.int (0 : Int32)), .val (.double ((own_P O σ) (2 * i + 0))), .second] [(.ref aP), (.int ((iv * (2 : Int32)) + (0 : Int32))), (.ref aP)]))
  refine own_st (fun _ kz => XS.iloadN X12.here hx rfl (hb hby dx_71) rfl kz) ?_
  show own_Win p e below s _ _ _ (T12.setTop (mkF m 72 #[.val (.ref t), .val (.int iv), .val (.int jv), .val (.int (own_I σ i)), .val (.int (0 : Int32)), .val (.double ((own_P O σ) (2 * i + 0))), .second] [(.int jv), (.ref aP), (.int ((iv * (2 : Int32)) + (0 : Int32))), (.ref aP)]))
  refine own_st (fun _ kz => XS.aloadN X12.here hx rfl (hb hby dx_72) rfl rfl kz) ?_
  show own_Win p e below s _ _ _ (T12.setTop (mkF m 73 #[.val (.ref t), .val (.int iv), .val (.int jv), .val (.int (own_I σ i)), .val (.int (0 : Int32)), .val (.double ((own_P O σ) (2 * i + 0))), .second] [(.ref t), (.int jv), (.ref aP), (.int ((iv * (2 : Int32)) + (0 : Int32))), (.ref aP)]))
  obtain ⟨T13, X13, e13, st13⟩ := getF X12 hx hZ hown (host := "") (Or.inl (hw _ (List.mem_of_getElem? (i := 15) rfl))) Via.refl e12 c_T_h6.2.1 (g := (mkF m 73 #[.val (.ref t), .val (.int iv), .val (.int jv), .val (.int (own_I σ i)), .val (.int (0 : Int32)), .val (.double ((own_P O σ) (2 * i + 0))), .second] [(.ref t), (.int jv), (.ref aP), (.int ((iv * (2 : Int32)) + (0 : Int32))), (.ref aP)])) rfl rfl (hb hby dx_73)
  refine own_st st13 ?_
  show own_Win p e below s _ _ _ (T13.setTop (mkF m 76 #[.val (.ref t), .val (.int iv), .val (.int jv), .val (.int (own_I σ i)), .val (.int (0 : Int32)), .val (.double ((own_P O σ) (2 * i + 0))), .second] [(.int (2 : Int32)), (.int jv), (.ref aP), (.int ((iv * (2 : Int32)) + (0 : Int32))), (.ref aP)]))
  refine own_st (fun _ kz => XS.imul X13.here hx rfl (hb hby dx_76) rfl kz) ?_
  show own_Win p e below s _ _ _ (T13.setTop (mkF m 77 #[.val (.ref t), .val (.int iv), .val (.int jv), .val (.int (own_I σ i)), .val (.int (0 : Int32)), .val (.double ((own_P O σ) (2 * i + 0))), .second] [(.int (jv * (2 : Int32))), (.ref aP), (.int ((iv * (2 : Int32)) + (0 : Int32))), (.ref aP)]))
  refine own_st (fun _ kz => XS.iload X13.here hx rfl (hb hby dx_77) rfl kz) ?_
  show own_Win p e below s _ _ _ (T13.setTop (mkF m 79 #[.val (.ref t), .val (.int iv), .val (.int jv), .val (.int (own_I σ i)), .val (.int (0 : Int32)), .val (.double ((own_P O σ) (2 * i + 0))), .second] [(.int (0 : Int32)), (.int (jv * (2 : Int32))), (.ref aP), (.int ((iv * (2 : Int32)) + (0 : Int32))), (.ref aP)]))
  refine own_st (fun _ kz => XS.iadd X13.here hx rfl (hb hby dx_79) rfl kz) ?_
  show own_Win p e below s _ _ _ (T13.setTop (mkF m 80 #[.val (.ref t), .val (.int iv), .val (.int jv), .val (.int (own_I σ i)), .val (.int (0 : Int32)), .val (.double ((own_P O σ) (2 * i + 0))), .second] [(.int ((jv * (2 : Int32)) + (0 : Int32))), (.ref aP), (.int ((iv * (2 : Int32)) + (0 : Int32))), (.ref aP)]))
  refine own_daload X13 hx hZ e13 c_Q_h6 (i := (2 * j + 0)) (own_ix hj (w := 0) rfl j18 (by decide)) (by omega) (x := ((own_P O σ) (2 * j + 0))) rfl rfl rfl (hb hby dx_80) ?_
  show own_Win p e below s _ _ _ (T13.setTop (mkF m 81 #[.val (.ref t), .val (.int iv), .val (.int jv), .val (.int (own_I σ i)), .val (.int (0 : Int32)), .val (.double ((own_P O σ) (2 * i + 0))), .second] [(.double ((own_P O σ) (2 * j + 0))), (.int ((iv * (2 : Int32)) + (0 : Int32))), (.ref aP)]))
  refine own_dastore X13 hx hZ e13 c_Q_h6 (i := (2 * i + 0)) (own_ix hi (w := 0) rfl i18 (by decide)) (by omega) N6 (by omega) rfl rfl (hb hby dx_81) ?_
  intro T14 h14 L14 X14 e14 N14 W14 F14
  show own_Win p e below s _ _ _ (T14.setTop (mkF m 82 #[.val (.ref t), .val (.int iv), .val (.int jv), .val (.int (own_I σ i)), .val (.int (0 : Int32)), .val (.double ((own_P O σ) (2 * i + 0))), .second] []))
  have Z14 : n0 ≤ h14.size := by rw [Wr.size W14]; exact Z6
  have c_T_h14 : own_Fs Z h14 t 2 gv aI aP aF aT aL aH := own_Fs.other W14 c_T_h6 (Nat.ne_of_gt (by omega))
  have c_I_h14 : own_Ia Z h14 aI 18 (own_I (own_sw σ i j)) := own_Av.other W14 c_I2 (Nat.ne_of_lt (by omega))
  refine own_st (fun _ kz => XS.aloadN X14.here hx rfl (hb hby dx_82) rfl rfl kz) ?_
  show own_Win p e below s _ _ _ (T14.setTop (mkF m 83 #[.val (.ref t), .val (.int iv), .val (.int jv), .val (.int (own_I σ i)), .val (.int (0 : Int32)), .val (.double ((own_P O σ) (2 * i + 0))), .second] [(.ref t)]))
  obtain ⟨T15, X15, e15, st15⟩ := getF X14 hx hZ hown (host := "") (Or.inl (hw _ (List.mem_of_getElem? (i := 19) rfl))) Via.refl e14 c_T_h14.2.2.2.1 (g := (mkF m 83 #[.val (.ref t), .val (.int iv), .val (.int jv), .val (.int (own_I σ i)), .val (.int (0 : Int32)), .val (.double ((own_P O σ) (2 * i + 0))), .second] [(.ref t)])) rfl rfl (hb hby dx_83)
  refine own_st st15 ?_
  show own_Win p e below s _ _ _ (T15.setTop (mkF m 86 #[.val (.ref t), .val (.int iv), .val (.int jv), .val (.int (own_I σ i)), .val (.int (0 : Int32)), .val (.double ((own_P O σ) (2 * i + 0))), .second] [(.ref aP)]))
  refine own_st (fun _ kz => XS.iloadN X15.here hx rfl (hb hby dx_86) rfl kz) ?_
  show own_Win p e below s _ _ _ (T15.setTop (mkF m 87 #[.val (.ref t), .val (.int iv), .val (.int jv), .val (.int (own_I σ i)), .val (.int (0 : Int32)), .val (.double ((own_P O σ) (2 * i + 0))), .second] [(.int jv), (.ref aP)]))
  refine own_st (fun _ kz => XS.aloadN X15.here hx rfl (hb hby dx_87) rfl rfl kz) ?_
  show own_Win p e below s _ _ _ (T15.setTop (mkF m 88 #[.val (.ref t), .val (.int iv), .val (.int jv), .val (.int (own_I σ i)), .val (.int (0 : Int32)), .val (.double ((own_P O σ) (2 * i + 0))), .second] [(.ref t), (.int jv), (.ref aP)]))
  obtain ⟨T16, X16, e16, st16⟩ := getF X15 hx hZ hown (host := "") (Or.inl (hw _ (List.mem_of_getElem? (i := 15) rfl))) Via.refl e15 c_T_h14.2.1 (g := (mkF m 88 #[.val (.ref t), .val (.int iv), .val (.int jv), .val (.int (own_I σ i)), .val (.int (0 : Int32)), .val (.double ((own_P O σ) (2 * i + 0))), .second] [(.ref t), (.int jv), (.ref aP)])) rfl rfl (hb hby dx_88)
  refine own_st st16 ?_
  show own_Win p e below s _ _ _ (T16.setTop (mkF m 91 #[.val (.ref t), .val (.int iv), .val (.int jv), .val (.int (own_I σ i)), .val (.int (0 : Int32)), .val (.double ((own_P O σ) (2 * i + 0))), .second] [(.int (2 : Int32)), (.int jv), (.ref aP)]))
  refine own_st (fun _ kz => XS.imul X16.here hx rfl (hb hby dx_91) rfl kz) ?_
  show own_Win p e below s _ _ _ (T16.setTop (mkF m 92 #[.val (.ref t), .val (.int iv), .val (.int jv), .val (.int (own_I σ i)), .val (.int (0 : Int32)), .val (.double ((own_P O σ) (2 * i + 0))), .second] [(.int (jv * (2 : Int32))), (.ref aP)]))
  refine own_st (fun _ kz => XS.iload X16.here hx rfl (hb hby dx_92) rfl kz) ?_
  show own_Win p e below s _ _ _ (T16.setTop (mkF m 94 #[.val (.ref t), .val (.int iv), .val (.int jv), .val (.int (own_I σ i)), .val (.int (0 : Int32)), .val (.double ((own_P O σ) (2 * i + 0))), .second] [(.int (0 : Int32)), (.int (jv * (2 : Int32))), (.ref aP)]))
  refine own_st (fun _ kz => XS.iadd X16.here hx rfl (hb hby dx_94) rfl kz) ?_
  show own_Win p e below s _ _ _ (T16.setTop (mkF m 95 #[.val (.ref t), .val (.int iv), .val (.int jv), .val (.int (own_I σ i)), .val (.int (0 : Int32)), .val (.double ((own_P O σ) (2 * i + 0))), .second] [(.int ((jv * (2 : Int32)) + (0 : Int32))), (.ref aP)]))
  refine own_st (fun _ kz => XS.dload X16.here hx rfl (hb hby dx_95) rfl kz) ?_
  show own_Win p e below s _ _ _ (T16.setTop (mkF m 97 #[.val (.ref t), .val (.int iv), .val (.int jv), .val (.int (own_I σ i)), .val (.int (0 : Int32)), .val (.double ((own_P O σ) (2 * i + 0))), .second] [(.double ((own_P O σ) (2 * i + 0))), (.int ((jv * (2 : Int32)) + (0 : Int32))), (.ref aP)]))
  refine own_dastore X16 hx hZ e16 F14 (i := (2 * j + 0)) (own_ix hj (w := 0) rfl j18 (by decide)) (by omega) N14 (by omega) rfl rfl (hb hby dx_97) ?_
  intro T17 h17 L17 X17 e17 N17 W17 F17
  show own_Win p e below s _ _ _ (T17.setTop (mkF m 98 #[.val (.ref t), .val (.int iv), .val (.int jv), .val (.int (own_I σ i)), .val (.int (0 : Int32)), .val (.double ((own_P O σ) (2 * i + 0))), .second] []))
  have Z17 : n0 ≤ h17.size := by rw [Wr.size W17]; exact Z14
  have c_T_h17 : own_Fs Z h17 t 2 gv aI aP aF aT aL aH := own_Fs.other W17 c_T_h14 (Nat.ne_of_gt (by omega))
  have c_I_h17 : own_Ia Z h17 aI 18 (own_I (own_sw σ i j)) := own_Av.other W17 c_I_h14 (Nat.ne_of_lt (by omega))
  have c_Q0 : own_Da Z h17 aP 36 (own_s1 (own_P O σ) i j 0) := F17
  refine own_st (fun _ kz => XS.iinc X17.here hx rfl (hb hby dx_98) rfl (l' := #[.val (.ref t), .val (.int iv), .val (.int jv), .val (.int (own_I σ i)), .val (.int (1 : Int32)), .val (.double ((own_P O σ) (2 * i + 0))), .second]) rfl kz) ?_
  show own_Win p e below s _ _ _ (T17.setTop (mkF m 101 #[.val (.ref t), .val (.int iv), .val (.int jv), .val (.int (own_I σ i)), .val (.int (1 : Int32)), .val (.double ((own_P O σ) (2 * i + 0))), .second] []))
  refine own_st (fun _ kz => XS.goto X17.here hx rfl (pc0 := 101) (pc' := 29) rfl (hb hby dx_101) (by decide) (by decide) kz) ?_
  show own_Win p e below s _ _ _ (T17.setTop (mkF m 29 #[.val (.ref t), .val (.int iv), .val (.int jv), .val (.int (own_I σ i)), .val (.int (1 : Int32)), .val (.double ((own_P O σ) (2 * i + 0))), .second] []))
  refine own_st (fun _ kz => XS.iload X17.here hx rfl (hb hby dx_29) rfl kz) ?_
  show own_Win p e below s _ _ _ (T17.setTop (mkF m 31 #[.val (.ref t), .val (.int iv), .val (.int jv), .val (.int (own_I σ i)), .val (.int (1 : Int32)), .val (.double ((own_P O σ) (2 * i + 0))), .second] [(.int (1 : Int32))]))
  refine own_st (fun _ kz => XS.aloadN X17.here hx rfl (hb hby dx_31) rfl rfl kz) ?_
  show own_Win p e below s _ _ _ (T17.setTop (mkF m 32 #[.val (.ref t), .val (.int iv), .val (.int jv), .val (.int (own_I σ i)), .val (.int (1 : Int32)), .val (.double ((own_P O σ) (2 * i + 0))), .second] [(.ref t), (.int (1 : Int32))]))
  obtain ⟨T18, X18, e18, st18⟩ := getF X17 hx hZ hown (host := "") (Or.inl (hw _ (List.mem_of_getElem? (i := 15) rfl))) Via.refl e17 c_T_h17.2.1 (g := (mkF m 32 #[.val (.ref t), .val (.int iv), .val (.int jv), .val (.int (own_I σ i)), .val (.int (1 : Int32)), .val (.double ((own_P O σ) (2 * i + 0))), .second] [(.ref t), (.int (1 : Int32))])) rfl rfl (hb hby dx_32)
  refine own_st st18 ?_
  show own_Win p e below s _ _ _ (T18.setTop (mkF m 35 #[.val (.ref t), .val (.int iv), .val (.int jv), .val (.int (own_I σ i)), .val (.int (1 : Int32)), .val (.double ((own_P O σ) (2 * i + 0))), .second] [(.int (2 : Int32)), (.int (1 : Int32))]))
  refine own_st (fun _ kz => XS.icmpNo X18.here hx rfl (hb hby dx_35) rfl (by decide) kz) ?_
  show own_Win p e below s _ _ _ (T18.setTop (mkF m 38 #[.val (.ref t), .val (.int iv), .val (.int jv), .val (.int (own_I σ i)), .val (.int (1 : Int32)), .val (.double ((own_P O σ) (2 * i + 0))), .second] []))
  refine own_st (fun _ kz => XS.aloadN X18.here hx rfl (hb hby dx_38) rfl rfl kz) ?_
  show own_Win p e below s _ _ _ (T18.setTop (mkF m 39 #[.val (.ref t), .val (.int iv), .val (.int jv), .val (.int (own_I σ i)), .val (.int (1 : Int32)), .val (.double ((own_P O σ) (2 * i + 0))), .second] [(.ref t)]))
  obtain ⟨T19, X19, e19, st19⟩ := getF X18 hx hZ hown (host := "") (Or.inl (hw _ (List.mem_of_getElem? (i := 19) rfl))) Via.refl e18 c_T_h17.2.2.2.1 (g := (mkF m 39 #[.val (.ref t), .val (.int iv), .val (.int jv), .val (.int (own_I σ i)), .val (.int (1 : Int32)), .val (.double ((own_P O σ) (2 * i + 0))), .second] [(.ref t)])) rfl rfl (hb hby dx_39)
  refine own_st st19 ?_
  show own_Win p e below s _ _ _ (T19.setTop (mkF m 42 #[.val (.ref t), .val (.int iv), .val (.int jv), .val (.int (own_I σ i)), .val (.int (1 : Int32)), .val (.double ((own_P O σ) (2 * i + 0))), .second] [(.ref aP)]))
  refine own_st (fun _ kz => XS.iloadN X19.here hx rfl (hb hby dx_42) rfl kz) ?_
  show own_Win p e below s _ _ _ (T19.setTop (mkF m 43 #[.val (.ref t), .val (.int iv), .val (.int jv), .val (.int (own_I σ i)), .val (.int (1 : Int32)), .val (.double ((own_P O σ) (2 * i + 0))), .second] [(.int iv), (.ref aP)]))
  refine own_st (fun _ kz => XS.aloadN X19.here hx rfl (hb hby dx_43) rfl rfl kz) ?_
  show own_Win p e below s _ _ _ (T19.setTop (mkF m 44 #[.val (.ref t), .val (.int iv), .val (.int jv), .val (.int (own_I σ i)), .val (.int (1 : Int32)), .val (.double ((own_P O σ) (2 * i + 0))), .second] [(.ref t), (.int iv), (.ref aP)]))
  obtain ⟨T20, X20, e20, st20⟩ := getF X19 hx hZ hown (host := "") (Or.inl (hw _ (List.mem_of_getElem? (i := 15) rfl))) Via.refl e19 c_T_h17.2.1 (g := (mkF m 44 #[.val (.ref t), .val (.int iv), .val (.int jv), .val (.int (own_I σ i)), .val (.int (1 : Int32)), .val (.double ((own_P O σ) (2 * i + 0))), .second] [(.ref t), (.int iv), (.ref aP)])) rfl rfl (hb hby dx_44)
  refine own_st st20 ?_
  show own_Win p e below s _ _ _ (T20.setTop (mkF m 47 #[.val (.ref t), .val (.int iv), .val (.int jv), .val (.int (own_I σ i)), .val (.int (1 : Int32)), .val (.double ((own_P O σ) (2 * i + 0))), .second] [(.int (2 : Int32)), (.int iv), (.ref aP)]))
  refine own_st (fun _ kz => XS.imul X20.here hx rfl (hb hby dx_47) rfl kz) ?_
  show own_Win p e below s _ _ _ (T20.setTop (mkF m 48 #[.val (.ref t), .val (.int iv), .val (.int jv), .val (.int (own_I σ i)), .val (.int (1 : Int32)), .val (.double ((own_P O σ) (2 * i + 0))), .second] [(.int (iv * (2 : Int32))), (.ref aP)]))
  refine own_st (fun _ kz => XS.iload X20.here hx rfl (hb hby dx_48) rfl kz) ?_
  show own_Win p e below s _ _ _ (T20.setTop (mkF m 50 #[.val (.ref t), .val (.int iv), .val (.int jv), .val (.int (own_I σ i)), .val (.int (1 : Int32)), .val (.double ((own_P O σ) (2 * i + 0))), .second] [(.int (1 : Int32)), (.int (iv * (2 : Int32))), (.ref aP)]))
  refine own_st (fun _ kz => XS.iadd X20.here hx rfl (hb hby dx_50) rfl kz) ?_
  show own_Win p e below s _ _ _ (T20.setTop (mkF m 51 #[.val (.ref t), .val (.int iv), .val (.int jv), .val (.int (own_I σ i)), .val (.int (1 : Int32)), .val (.double ((own_P O σ) (2 * i + 0))), .second] [(.int ((iv * (2 : Int32)) + (1 : Int32))), (.ref aP)]))
  refine own_daload X20 hx hZ e20 c_Q0 (i := (2 * i + 1)) (own_ix hi (w := 1) rfl i18 (by decide)) (by omega) (x := ((own_s1 (own_P O σ) i j 0) (2 * i + 1))) rfl rfl rfl (hb hby dx_51) ?_
  show own_Win p e below s _ _ _ (T20.setTop (mkF m 52 #[.val (.ref t), .val (.int iv), .val (.int jv), .val (.int (own_I σ i)), .val (.int (1 : Int32)), .val (.double ((own_P O σ) (2 * i + 0))), .second] [(.double ((own_s1 (own_P O σ) i j 0) (2 * i + 1)))]))
  refine own_st (fun _ kz => XS.dstore X20.here hx rfl (hb hby dx_52) rfl (l' := #[.val (.ref t), .val (.int iv), .val (.int jv), .val (.int (own_I σ i)), .val (.int (1 : Int32)), .val (.double ((own_s1 (own_P O σ) i j 0) (2 * i + 1))), .second]) rfl kz) ?_
  show own_Win p e below s _ _ _ (T20.setTop (mkF m 54 #[.val (.ref t), .val (.int iv), .val (.int jv), .val (.int (own_I σ i)), .val (.int (1 : Int32)), .val (.double ((own_s1 (own_P O σ) i j 0) (2 * i + 1))), .second] []))
  refine own_st (fun _ kz => XS.aloadN X20.here hx rfl (hb hby dx_54) rfl rfl kz) ?_
  show own_Win p e below s _ _ _ (T20.setTop (mkF m 55 #[.val (.ref t), .val (.int iv), .val (.int jv), .val (.int (own_I σ i)), .val (.int (1 : Int32)), .val (.double ((own_s1 (own_P O σ) i j 0) (2 * i + 1))), .second] [(.ref t)]))
  obtain ⟨T21, X21, e21, st21⟩ := getF X20 hx hZ hown (host := "") (Or.inl (hw _ (List.mem_of_getElem? (i := 19) rfl))) Via.refl e20 c_T_h17.2.2.2.1 (g := (mkF m 55 #[.val (.ref t), .val (.int iv), .val (.int jv), .val (.int (own_I σ i)), .val (.int (1 : Int32)), .val (.double ((own_s1 (own_P O σ) i j 0) (2 * i + 1))), .second] [(.ref t)])) rfl rfl (hb hby dx_55)
  refine own_st st21 ?_
  show own_Win p e below s _ _ _ (T21.setTop (mkF m 58 #[.val (.ref t), .val (.int iv), .val (.int jv), .val (.int (own_I σ i)), .val (.int (1 : Int32)), .val (.double ((own_s1 (own_P O σ) i j 0) (2 * i + 1))), .second] [(.ref aP)]))
  refine own_st (fun _ kz => XS.iloadN X21.here hx rfl (hb hby dx_58) rfl kz) ?_
  show own_Win p e below s _ _ _ (T21.setTop (mkF m 59 #[.val (.ref t), .val (.int iv), .val (.int jv), .val (.int (own_I σ i)), .val (.int (1 : Int32)), .val (.double ((own_s1 (own_P O σ) i j 0) (2 * i + 1))), .second] [(.int iv), (.ref aP)]))
  refine own_st (fun _ kz => XS.aloadN X21.here hx rfl (hb hby dx_59) rfl rfl kz) ?_
  show own_Win p e below s _ _ _ (T21.setTop (mkF m 60 #[.val (.ref t), .val (.int iv), .val (.int jv), .val (.int (own_I σ i)), .val (.int (1 : Int32)), .val (.double ((own_s1 (own_P O σ) i j 0) (2 * i + 1))), .second] [(.ref t), (.int iv), (.ref aP)]))
  obtain ⟨T22, X22, e22, st22⟩ := getF X21 hx hZ hown (host := "") (Or.inl (hw _ (List.mem_of_getElem? (i := 15) rfl))) Via.refl e21 c_T_h17.2.1 (g := (mkF m 60 #[.val (.ref t), .val (.int iv), .val (.int jv), .val (.int (own_I σ i)), .val (.int (1 : Int32)), .val (.double ((own_s1 (own_P O σ) i j 0) (2 * i + 1))), .second] [(.ref t), (.int iv), (.ref aP)])) rfl rfl (hb hby dx_60)
  refine own_st st22 ?_
  show own_Win p e below s _ _ _ (T22.setTop (mkF m 63 #[.val (.ref t), .val (.int iv), .val (.int jv), .val (.int (own_I σ i)), .val (.int (1 : Int32)), .val (.double ((own_s1 (own_P O σ) i j 0) (2 * i + 1))), .second] [(.int (2 : Int32)), (.int iv), (.ref aP)]))
  refine own_st (fun _ kz => XS.imul X22.here hx rfl (hb hby dx_63) rfl kz) ?_
  show own_Win p e below s _ _ _ (T22.setTop (mkF m 64 #[.val (.ref t), .val (.int iv), .val (.int jv), .val (.int (own_I σ i)), .val (.int (1 : Int32)), .val (.double ((own_s1 (own_P O σ) i j 0) (2 * i + 1))), .second] [(.int (iv * (2 : Int32))), (.ref aP)]))
  refine own_st (fun _ kz => XS.iload X22.here hx rfl (hb hby dx_64) rfl kz) ?_
  show own_Win p e below s _ _ _ (T22.setTop (mkF m 66 #[.val (.ref t), .val (.int iv), .val (.int jv), .val (.int (own_I σ i)), .val (.int (1 : Int32)), .val (.double ((own_s1 (own_P O σ) i j 0) (2 * i + 1))), .second] [(.int (1 : Int32)), (.int (iv * (2 : Int32))), (.ref aP)]))
  refine own_st (fun _ kz => XS.iadd X22.here hx rfl (hb hby dx_66) rfl kz) ?_
  show own_Win p e below s _ _ _ (T22.setTop (mkF m 67 #[.val (.ref t), .val (.int iv), .val (.int jv), .val (.int (own_I σ i)), .val (.int (1 : Int32)), .val (.double ((own_s1 (own_P O σ) i j 0) (2 * i + 1))), .second] [(.int ((iv * (2 : Int32)) + (1 : Int32))), (.ref aP)]))
  refine own_st (fun _ kz => XS.aloadN X22.here hx rfl (hb hby dx_67) rfl rfl kz) ?_
  show own_Win p e below s _ _ _ (T22.setTop (mkF m 68 #[.val (.ref t), .val (.int iv), .val (.int jv), .val (.int (own_I σ i)), .val (.int (1 : Int32)), .val (.double ((own_s1 (own_P O σ) i j 0) (2 * i + 1))), .second] [(.ref t), (.int ((iv * (2 : Int32)) + (1 : Int32))), (.ref aP)]))
  obtain ⟨T23, X23, e23, st23⟩ := getF X22 hx hZ hown (host := "") (Or.inl (hw _ (List.mem_of_getElem? (i := 19) rfl))) Via.refl e22 c_T_h17.2.2.2.1 (g := (mkF m 68 #[.val (.ref t), .val (.int iv), .val (.int jv), .val (.int (own_I σ i)), .val (.int (1 : Int32)), .val (.double ((own_s1 (own_P O σ) i j 0) (2 * i + 1))), .second] [(.ref t), (.int ((iv * (2 : Int32)) + (1 : Int32))), (.ref aP)])) rfl rfl (hb hby dx_68)
  refine own_st st23 ?_
  show own_Win p e below s _ _ _ (T23.setTop (mkF m 71 #[.val (.ref t), .val (.int iv), .val (.int jv), .val (.int (own_I σ i)), .val (.int (1 : Int32)), .val (.double ((own_s1 (own_P O σ) i j 0) (2 * i + 1))), .second] [(.ref aP), (.int ((iv * (2 : Int32)) + (1 : Int32))), (.ref aP)]))
  refine own_st (fun _ kz => XS.iloadN X23.here hx rfl (hb hby dx_71) rfl kz) ?_
  show own_Win p e below s _ _ _ (T23.setTop (mkF m 72 #[.val (.ref t), .val (.int iv), .val (.int jv), .val (.int (own_I σ i)), .val (.int (1 : Int32)), .val (.double ((own_s1 (own_P O σ) i j 0) (2 * i + 1))), .second] [(.int jv), (.ref aP), (.int ((iv * (2 : Int32)) + (1 : Int32))), (.ref aP)]))
  refine own_st (fun _ kz => XS.aloadN X23.here hx rfl (hb hby dx_72) rfl rfl kz) ?_
  show own_Win p e below s _ _ _ (T23.setTop (mkF m 73 #[.val (.ref t), .val (.int iv), .val (.int jv), .val (.int (own_I σ i)), .val (.int (1 : Int32)), .val (.double ((own_s1 (own_P O σ) i j 0) (2 * i + 1))), .second] [(.ref t), (.int jv), (.ref aP), (.int ((iv * (2 : Int32)) + (1 : Int32))), (.ref aP)]))
  obtain ⟨T24, X24, e24, st24⟩ := getF X23 hx hZ hown (host := "") (Or.inl (hw _ (List.mem_of_getElem? (i := 15) rfl))) Via.refl e23 c_T_h17.2.1 (g := (mkF m 73 #[.val (.ref t), .val (.int iv), .val (.int jv), .val (.int (own_I σ i)), .val (.int (1 : Int32)), .val (.double ((own_s1 (own_P O σ) i j 0) (2 * i + 1))), .second] [(.ref t), (.int jv), (.ref aP), (.int ((iv * (2 : Int32)) + (1 : Int32))), (.ref aP)])) rfl rfl (hb hby dx_73)
  refine own_st st24 ?_
  show own_Win p e below s _ _ _ (T24.setTop (mkF m 76 #[.val (.ref t), .val (.int iv), .val (.int jv), .val (.int (own_I σ i)), .val (.int (1 : Int32)), .val (.double ((own_s1 (own_P O σ) i j 0) (2 * i + 1))), .second] [(.int (2 : Int32)), (.int jv), (.ref aP), (.int ((iv * (2 : Int32)) + (1 : Int32))), (.ref aP)]))
  refine own_st (fun _ kz => XS.imul X24.here hx rfl (hb hby dx_76) rfl kz) ?_
  show own_Win p e below s _ _ _ (T24.setTop (mkF m 77 #[.val (.ref t), .val (.int iv), .val (.int jv), .val (.int (own_I σ i)), .val (.int (1 : Int32)), .val (.double ((own_s1 (own_P O σ) i j 0) (2 * i + 1))), .second] [(.int (jv * (2 : Int32))), (.ref aP), (.int ((iv * (2 : Int32)) + (1 : Int32))), (.ref aP)]))
  refine own_st (fun _ kz => XS.iload X24.here hx rfl (hb hby dx_77) rfl kz) ?_
  show own_Win p e below s _ _ _ (T24.setTop (mkF m 79 #[.val (.ref t), .val (.int iv), .val (.int jv), .val (.int (own_I σ i)), .val (.int (1 : Int32)), .val (.double ((own_s1 (own_P O σ) i j 0) (2 * i + 1))), .second] [(.int (1 : Int32)), (.int (jv * (2 : Int32))), (.ref aP), (.int ((iv * (2 : Int32)) + (1 : Int32))), (.ref aP)]))
  refine own_st (fun _ kz => XS.iadd X24.here hx rfl (hb hby dx_79) rfl kz) ?_
  show own_Win p e below s _ _ _ (T24.setTop (mkF m 80 #[.val (.ref t), .val (.int iv), .val (.int jv), .val (.int (own_I σ i)), .val (.int (1 : Int32)), .val (.double ((own_s1 (own_P O σ) i j 0) (2 * i + 1))), .second] [(.int ((jv * (2 : Int32)) + (1 : Int32))), (.ref aP), (.int ((iv * (2 : Int32)) + (1 : Int32))), (.ref aP)]))
  refine own_daload X24 hx hZ e24 c_Q0 (i := (2 * j + 1)) (own_ix hj (w := 1) rfl j18 (by decide)) (by omega) (x := ((own_s1 (own_P O σ) i j 0) (2 * j + 1))) rfl rfl rfl (hb hby dx_80) ?_
  show own_Win p e below s _ _ _ (T24.setTop (mkF m 81 #[.val (.ref t), .val (.int iv), .val (.int jv), .val (.int (own_I σ i)), .val (.int (1 : Int32)), .val (.double ((own_s1 (own_P O σ) i j 0) (2 * i + 1))), .second] [(.double ((own_s1 (own_P O σ) i j 0) (2 * j + 1))), (.int ((iv * (2 : Int32)) + (1 : Int32))), (.ref aP)]))
  refine own_dastore X24 hx hZ e24 c_Q0 (i := (2 * i + 1)) (own_ix hi (w := 1) rfl i18 (by decide)) (by omega) N17 (by omega) rfl rfl (hb hby dx_81) ?_
  intro T25 h25 L25 X25 e25 N25 W25 F25
  show own_Win p e below s _ _ _ (T25.setTop (mkF m 82 #[.val (.ref t), .val (.int iv), .val (.int jv), .val (.int (own_I σ i)), .val (.int (1 : Int32)), .val (.double ((own_s1 (own_P O σ) i j 0) (2 * i + 1))), .second] []))
  have Z25 : n0 ≤ h25.size := by rw [Wr.size W25]; exact Z17
  have c_T_h25 : own_Fs Z h25 t 2 gv aI aP aF aT aL aH := own_Fs.other W25 c_T_h17 (Nat.ne_of_gt (by omega))
  have c_I_h25 : own_Ia Z h25 aI 18 (own_I (own_sw σ i j)) := own_Av.other W25 c_I_h17 (Nat.ne_of_lt (by omega))
  refine own_st (fun _ kz => XS.aloadN X25.here hx rfl (hb hby dx_82) rfl rfl kz) ?_
  show own_Win p e below s _ _ _ (T25.setTop (mkF m 83 #[.val (.ref t), .val (.int iv), .val (.int jv), .val (.int (own_I σ i)), .val (.int (1 : Int32)), .val (.double ((own_s1 (own_P O σ) i j 0) (2 * i + 1))), .second] [(.ref t)]))
  obtain ⟨T26, X26, e26, st26⟩ := getF X25 hx hZ hown (host := "") (Or.inl (hw _ (List.mem_of_getElem? (i := 19) rfl))) Via.refl e25 c_T_h25.2.2.2.1 (g := (mkF m 83 #[.val (.ref t), .val (.int iv), .val (.int jv), .val (.int (own_I σ i)), .val (.int (1 : Int32)), .val (.double ((own_s1 (own_P O σ) i j 0) (2 * i + 1))), .second] [(.ref t)])) rfl rfl (hb hby dx_83)
  refine own_st st26 ?_
  show own_Win p e below s _ _ _ (T26.setTop (mkF m 86 #[.val (.ref t), .val (.int iv), .val (.int jv), .val (.int (own_I σ i)), .val (.int (1 : Int32)), .val (.double ((own_s1 (own_P O σ) i j 0) (2 * i + 1))), .second] [(.ref aP)]))
  refine own_st (fun _ kz => XS.iloadN X26.here hx rfl (hb hby dx_86) rfl kz) ?_
  show own_Win p e below s _ _ _ (T26.setTop (mkF m 87 #[.val (.ref t), .val (.int iv), .val (.int jv), .val (.int (own_I σ i)), .val (.int (1 : Int32)), .val (.double ((own_s1 (own_P O σ) i j 0) (2 * i + 1))), .second] [(.int jv), (.ref aP)]))
  refine own_st (fun _ kz => XS.aloadN X26.here hx rfl (hb hby dx_87) rfl rfl kz) ?_
  show own_Win p e below s _ _ _ (T26.setTop (mkF m 88 #[.val (.ref t), .val (.int iv), .val (.int jv), .val (.int (own_I σ i)), .val (.int (1 : Int32)), .val (.double ((own_s1 (own_P O σ) i j 0) (2 * i + 1))), .second] [(.ref t), (.int jv), (.ref aP)]))
  obtain ⟨T27, X27, e27, st27⟩ := getF X26 hx hZ hown (host := "") (Or.inl (hw _ (List.mem_of_getElem? (i := 15) rfl))) Via.refl e26 c_T_h25.2.1 (g := (mkF m 88 #[.val (.ref t), .val (.int iv), .val (.int jv), .val (.int (own_I σ i)), .val (.int (1 : Int32)), .val (.double ((own_s1 (own_P O σ) i j 0) (2 * i + 1))), .second] [(.ref t), (.int jv), (.ref aP)])) rfl rfl (hb hby dx_88)
  refine own_st st27 ?_
  show own_Win p e below s _ _ _ (T27.setTop (mkF m 91 #[.val (.ref t), .val (.int iv), .val (.int jv), .val (.int (own_I σ i)), .val (.int (1 : Int32)), .val (.double ((own_s1 (own_P O σ) i j 0) (2 * i + 1))), .second] [(.int (2 : Int32)), (.int jv), (.ref aP)]))
  refine own_st (fun _ kz => XS.imul X27.here hx rfl (hb hby dx_91) rfl kz) ?_
  show own_Win p e below s _ _ _ (T27.setTop (mkF m 92 #[.val (.ref t), .val (.int iv), .val (.int jv), .val (.int (own_I σ i)), .val (.int (1 : Int32)), .val (.double ((own_s1 (own_P O σ) i j 0) (2 * i + 1))), .second] [(.int (jv * (2 : Int32))), (.ref aP)]))
  refine own_st (fun _ kz => XS.iload X27.here hx rfl (hb hby dx_92) rfl kz) ?_
  show own_Win p e below s _ _ _ (T27.setTop (mkF m 94 #[.val (.ref t), .val (.int iv), .val (.int jv), .val (.int (own_I σ i)), .val (.int (1 : Int32)), .val (.double ((own_s1 (own_P O σ) i j 0) (2 * i + 1))), .second] [(.int (1 : Int32)), (.int (jv * (2 : Int32))), (.ref aP)]))
  refine own_st (fun _ kz => XS.iadd X27.here hx rfl (hb hby dx_94) rfl kz) ?_
  show own_Win p e below s _ _ _ (T27.setTop (mkF m 95 #[.val (.ref t), .val (.int iv), .val (.int jv), .val (.int (own_I σ i)), .val (.int (1 : Int32)), .val (.double ((own_s1 (own_P O σ) i j 0) (2 * i + 1))), .second] [(.int ((jv * (2 : Int32)) + (1 : Int32))), (.ref aP)]))
  refine own_st (fun _ kz => XS.dload X27.here hx rfl (hb hby dx_95) rfl kz) ?_
  show own_Win p e below s _ _ _ (T27.setTop (mkF m 97 #[.val (.ref t), .val (.int iv), .val (.int jv), .val (.int (own_I σ i)), .val (.int (1 : Int32)), .val (.double ((own_s1 (own_P O σ) i j 0) (2 * i + 1))), .second] [(.double ((own_s1 (own_P O σ) i j 0) (2 * i + 1))), (.int ((jv * (2 : Int32)) + (1 : Int32))), (.ref aP)]))
  refine own_dastore X27 hx hZ e27 F25 (i := (2 * j + 1)) (own_ix hj (w := 1) rfl j18 (by decide)) (by omega) N25 (by omega) rfl rfl (hb hby dx_97) ?_
  intro T28 h28 L28 X28 e28 N28 W28 F28
  show own_Win p e below s _ _ _ (T28.setTop (mkF m 98 #[.val (.ref t), .val (.int iv), .val (.int jv), .val (.int (own_I σ i)), .val (.int (1 : Int32)), .val (.double ((own_s1 (own_P O σ) i j 0) (2 * i + 1))), .second] []))
  have Z28 : n0 ≤ h28.size := by rw [Wr.size W28]; exact Z25
  have c_T_h28 : own_Fs Z h28 t 2 gv aI aP aF aT aL aH := own_Fs.other W28 c_T_h25 (Nat.ne_of_gt (by omega))
  have c_I_h28 : own_Ia Z h28 aI 18 (own_I (own_sw σ i j)) := own_Av.other W28 c_I_h25 (Nat.ne_of_lt (by omega))
  have c_Q1 : own_Da Z h28 aP 36 (own_s1 (own_s1 (own_P O σ) i j 0) i j 1) := F28
  refine own_st (fun _ kz => XS.iinc X28.here hx rfl (hb hby dx_98) rfl (l' := #[.val (.ref t), .val (.int iv), .val (.int jv), .val (.int (own_I σ i)), .val (.int (2 : Int32)), .val (.double ((own_s1 (own_P O σ) i j 0) (2 * i + 1))), .second]) rfl kz) ?_
  show own_Win p e below s _ _ _ (T28.setTop (mkF m 101 #[.val (.ref t), .val (.int iv), .val (.int jv), .val (.int (own_I σ i)), .val (.int (2 : Int32)), .val (.double ((own_s1 (own_P O σ) i j 0) (2 * i + 1))), .second] []))
  refine own_st (fun _ kz => XS.goto X28.here hx rfl (pc0 := 101) (pc' := 29) rfl (hb hby dx_101) (by decide) (by decide) kz) ?_
  show own_Win p e below s _ _ _ (T28.setTop (mkF m 29 #[.val (.ref t), .val (.int iv), .val (.int jv), .val (.int (own_I σ i)), .val (.int (2 : Int32)), .val (.double ((own_s1 (own_P O σ) i j 0) (2 * i + 1))), .second] []))
  refine own_st (fun _ kz => XS.iload X28.here hx rfl (hb hby dx_29) rfl kz) ?_
  show own_Win p e below s _ _ _ (T28.setTop (mkF m 31 #[.val (.ref t), .val (.int iv), .val (.int jv), .val (.int (own_I σ i)), .val (.int (2 : Int32)), .val (.double ((own_s1 (own_P O σ) i j 0) (2 * i + 1))), .second] [(.int (2 : Int32))]))
  refine own_st (fun _ kz => XS.aloadN X28.here hx rfl (hb hby dx_31) rfl rfl kz) ?_
  show own_Win p e below s _ _ _ (T28.setTop (mkF m 32 #[.val (.ref t), .val (.int iv), .val (.int jv), .val (.int (own_I σ i)), .val (.int (2 : Int32)), .val (.double ((own_s1 (own_P O σ) i j 0) (2 * i + 1))), .second] [(.ref t), (.int (2 : Int32))]))
  obtain ⟨T29, X29, e29, st29⟩ := getF X28 hx hZ hown (host := "") (Or.inl (hw _ (List.mem_of_getElem? (i := 15) rfl))) Via.refl e28 c_T_h28.2.1 (g := (mkF m 32 #[.val (.ref t), .val (.int iv), .val (.int jv), .val (.int (own_I σ i)), .val (.int (2 : Int32)), .val (.double ((own_s1 (own_P O σ) i j 0) (2 * i + 1))), .second] [(.ref t), (.int (2 : Int32))])) rfl rfl (hb hby dx_32)
  refine own_st st29 ?_
  show own_Win p e below s _ _ _ (T29.setTop (mkF m 35 #[.val (.ref t), .val (.int iv), .val (.int jv), .val (.int (own_I σ i)), .val (.int (2 : Int32)), .val (.double ((own_s1 (own_P O σ) i j 0) (2 * i + 1))), .second] [(.int (2 : Int32)), (.int (2 : Int32))]))
  refine own_st (fun _ kz => XS.icmpYes X29.here hx rfl (pc0 := 35) (pc' := 104) rfl (hb hby dx_35) rfl (by decide) (by decide) (by decide) kz) ?_
  show own_Win p e below s _ _ _ (T29.setTop (mkF m 104 #[.val (.ref t), .val (.int iv), .val (.int jv), .val (.int (own_I σ i)), .val (.int (2 : Int32)), .val (.double ((own_s1 (own_P O σ) i j 0) (2 * i + 1))), .second] []))
  have c_Q9 : own_Da Z h28 aP 36 (own_P O (own_sw σ i j)) := own_Av.congr c_Q1 (fun k _ => congrArg Value.double (own_swP O σ i j k))
  refine own_retV X29 hx hlk Bd.returns (hb hby dx_104) ?_ (Nat.le_refl _) (Nat.le_refl _)
  rw [e29]
  exact ⟨rfl, N28, (((((((Keep.refl h0 [aI, aP]).wr W4 (Or.inl (List.mem_of_getElem? (i := 0) rfl))).wr W6 (Or.inl (List.mem_of_getElem? (i := 0) rfl))).wr W14 (Or.inl (List.mem_of_getElem? (i := 1) rfl))).wr W17 (Or.inl (List.mem_of_getElem? (i := 1) rfl))).wr W25 (Or.inl (List.mem_of_getElem? (i := 1) rfl))).wr W28 (Or.inl (List.mem_of_getElem? (i := 1) rfl))), c_I_h28, c_Q9⟩
/-! the selection, in plain words: K k is the key at place k -/
def own_Inv (K : Nat → Int) (pv : Int) (lo hi i J : Nat) : Prop := lo ≤ i ∧ i ≤ hi + 1 ∧ lo ≤ J ∧ J ≤ hi + 1 ∧ (∀ k, lo ≤ k → k < i → K k ≤ pv) ∧ (∀ k, J ≤ k → k ≤ hi → pv ≤ K k) ∧ (i < J → ∃ k, i ≤ k ∧ k ≤ hi ∧ pv ≤ K k) ∧ (i < J → ∃ k, lo ≤ k ∧ k < J ∧ K k ≤ pv) ∧ ((lo < i ∧ J ≤ hi) ∨ ∃ k, i ≤ k ∧ k < J ∧ K k = pv)
def own_Out (K : Nat → Int) (s e lo hi : Nat) : Prop := (∀ k k', s ≤ k → k < lo → lo ≤ k' → k' < e → K k ≤ K k') ∧ (∀ k k', hi < k → k < e → s ≤ k' → k' ≤ hi → K k' ≤ K k)
def own_Part (K : Nat → Int) (s e mid : Nat) : Prop := (∀ k, s ≤ k → k < mid → K k ≤ K mid) ∧ ∀ k, mid < k → k < e → K mid ≤ K k
section Plain
variable {K K' : Nat → Int} {pv : Int} {s e lo hi i J i' j' mid pp : Nat}
theorem own_inv0 (h1 : lo ≤ pp) (h2 : pp ≤ hi) (hp : K pp = pv) : own_Inv K pv lo hi lo (hi + 1) :=
  ⟨Nat.le_refl _, by omega, by omega, Nat.le_refl _, fun k a b => by omega, fun k a b => by omega, fun _ => ⟨pp, h1, h2, by omega⟩, fun _ => ⟨pp, h1, by omega, by omega⟩, Or.inr ⟨pp, h1, by omega, hp⟩⟩
theorem own_invE (h : own_Inv K pv lo hi i J) (q : J ≤ i) : lo < i ∧ J ≤ hi := by
  rcases h.2.2.2.2.2.2.2.2 with r | ⟨k, h1, h2, -⟩
  · exact r
  · omega
theorem own_inv1 (h : own_Inv K pv lo hi i J) (q : i < J) (i1 : i ≤ i') (i2 : i' ≤ hi) (i3 : pv ≤ K i') (i4 : ∀ k, i ≤ k → k < i' → K k < pv) (j1 : j' < J) (j2 : lo ≤ j') (j3 : K j' ≤ pv) (j4 : ∀ k, j' < k → k < J → pv < K k) (c : j' < i') : own_Inv K pv lo hi i' (j' + 1) := by
  obtain ⟨a1, a2, a3, a4, a5, a6, a7, a8, a9⟩ := h
  refine ⟨by omega, by omega, by omega, by omega, fun k k1 k2 => ?_, fun k k1 k2 => ?_, fun z => by omega, fun z => by omega, ?_⟩
  · by_cases z : k < i
    · exact a5 k k1 z
    · exact Int.le_of_lt (i4 k (by omega) k2)
  · by_cases z : k < J
    · exact Int.le_of_lt (j4 k (by omega) z)
    · exact a6 k (by omega) k2
  · rcases a9 with r | ⟨k, k1, k2, k3⟩
    · exact Or.inl ⟨by omega, by omega⟩
    · exfalso
      have u1 : i' ≤ k := by
        refine Nat.le_of_not_lt fun z => ?_
        have := i4 k k1 z
        omega
      have u2 : k ≤ j' := by
        refine Nat.le_of_not_lt fun z => ?_
        have := j4 k z k2
        omega
      omega
theorem own_inv2 (hK : ∀ k, K' k = if k = i' then K j' else if k = j' then K i' else K k) (h : own_Inv K pv lo hi i J) (q : i < J) (i1 : i ≤ i') (i2 : i' ≤ hi) (i3 : pv ≤ K i') (i4 : ∀ k, i ≤ k → k < i' → K k < pv) (j1 : j' < J) (j2 : lo ≤ j') (j3 : K j' ≤ pv) (j4 : ∀ k, j' < k → k < J → pv < K k) (c : i' ≤ j') : own_Inv K' pv lo hi (i' + 1) j' := by
  obtain ⟨a1, a2, a3, a4, a5, a6, a7, a8, a9⟩ := h
  refine ⟨by omega, by omega, j2, by omega, fun k k1 k2 => ?_, fun k k1 k2 => ?_, fun z => ⟨j', by omega, by omega, ?_⟩, fun z => ⟨i', by omega, by omega, ?_⟩, Or.inl ⟨by omega, by omega⟩⟩
  · rw [hK k]
    by_cases z : k = i'
    · rw [if_pos z]; exact j3
    · rw [if_neg z, if_neg (by omega)]
      by_cases y : k < i
      · exact a5 k k1 y
      · exact Int.le_of_lt (i4 k (by omega) (by omega))
  · rw [hK k]
    by_cases z : k = i'
    · rw [if_pos z]
      have : j' = i' := by omega
      rw [this]; exact i3
    · rw [if_neg z]
      by_cases y : k = j'
      · rw [if_pos y]; exact i3
      · rw [if_neg y]
        by_cases x : k < J
        · exact Int.le_of_lt (j4 k (by omega) x)
        · exact a6 k (by omega) k2
  · rw [hK j', if_neg (by omega), if_pos rfl]; exact i3
  · rw [hK i', if_pos rfl]; exact j3
theorem own_outS (hK : ∀ k, K' k = if k = i' then K j' else if k = j' then K i' else K k) (h : own_Out K s e lo hi) (h1 : lo ≤ i') (h2 : i' ≤ hi) (h3 : lo ≤ j') (h4 : j' ≤ hi) (h5 : hi < e) (h6 : s ≤ lo) : own_Out K' s e lo hi := by
  obtain ⟨a, b⟩ := h
  refine ⟨fun k k' c1 c2 c3 c4 => ?_, fun k k' c1 c2 c3 c4 => ?_⟩
  · rw [hK k, if_neg (by omega), if_neg (by omega), hK k']
    split
    · exact a k j' c1 c2 h3 (by omega)
    · split
      · exact a k i' c1 c2 h1 (by omega)
      · exact a k k' c1 c2 c3 c4
  · rw [hK k, if_neg (by omega), if_neg (by omega), hK k']
    split
    · exact b k j' c1 c2 (by omega) h4
    · split
      · exact b k i' c1 c2 (by omega) h2
      · exact b k k' c1 c2 c3 c4
theorem own_outH (h : own_Out K s e lo hi) (v : own_Inv K pv lo hi i J) (q : J ≤ i) (h1 : lo ≤ mid) (h2 : mid < J) (h5 : hi < e) (h6 : s ≤ lo) : own_Out K s e lo (J - 1) := by
  obtain ⟨a, b⟩ := h
  obtain ⟨a1, a2, a3, a4, a5, a6, -⟩ := v
  refine ⟨a, fun k k' c1 c2 c3 c4 => ?_⟩
  by_cases z : k' < lo
  · exact a k' k c3 z (by omega) c2
  · have u := a5 k' (by omega) (by omega)
    by_cases y : k ≤ hi
    · have := a6 k (by omega) y; omega
    · exact b k k' (by omega) c2 c3 (by omega)
theorem own_outL (h : own_Out K s e lo hi) (v : own_Inv K pv lo hi i J) (q : J ≤ i) (h1 : i ≤ mid) (h2 : mid ≤ hi) (h5 : hi < e) (h6 : s ≤ lo) : own_Out K s e i hi := by
  obtain ⟨a, b⟩ := h
  obtain ⟨a1, a2, a3, a4, a5, a6, -⟩ := v
  refine ⟨fun k k' c1 c2 c3 c4 => ?_, b⟩
  by_cases z : k < lo
  · exact a k k' c1 z (by omega) c4
  · have u := a5 k (by omega) c2
    by_cases y : k' ≤ hi
    · have := a6 k' (by omega) y; omega
    · exact b k' k (by omega) c4 c1 (by omega)
theorem own_part1 (h : own_Out K s e lo hi) (q : hi ≤ lo) (h1 : lo ≤ mid) (h2 : mid ≤ hi) (h5 : hi < e) (h6 : s ≤ lo) : own_Part K s e mid :=
  ⟨fun k c1 c2 => h.1 k mid c1 (by omega) h1 (by omega), fun k c1 c2 => h.2 k mid (by omega) c2 (by omega) h2⟩
theorem own_part2 (h : own_Out K s e lo hi) (v : own_Inv K pv lo hi i J) (h1 : lo ≤ mid) (h2 : mid ≤ hi) (h3 : J ≤ mid) (h4 : mid < i) (h5 : hi < e) (h6 : s ≤ lo) : own_Part K s e mid := by
  obtain ⟨a, b⟩ := h
  obtain ⟨a1, a2, a3, a4, a5, a6, -⟩ := v
  have u1 := a5 mid h1 h4
  have u2 := a6 mid h3 h2
  refine ⟨fun k c1 c2 => ?_, fun k c1 c2 => ?_⟩
  · by_cases z : k < lo
    · exact a k mid c1 z h1 (by omega)
    · have := a5 k (by omega) (by omega); omega
  · by_cases z : k ≤ hi
    · have := a6 k (by omega) z; omega
    · exact b k mid (by omega) c2 (by omega) h2
end Plain
theorem own_key (V : Nat → Int) (σ : Nat → Nat) (i j k : Nat) : V (own_sw σ i j k) = if k = i then V (σ j) else if k = j then V (σ i) else V (σ k) := by
  unfold own_sw; split
  · rfl
  · split <;> rfl
theorem own_mid {lv hv : Int32} {lo hi : Nat} (h1 : lv.toInt = (lo : Int)) (h2 : hv.toInt = (hi : Int)) (h3 : lo < 100) (h4 : hi < 100) : (XT.ushr (lv + hv) (1 : Int32)).toInt = (((lo + hi) / 2 : Nat) : Int) := by
  unfold XT.ushr
  rw [c_iushr (lv + hv) 1 1 (by decide) (by decide)]
  have := c_iadd lv hv
  have := rng32 (lv + hv)
  show (lv + hv).toInt % 4294967296 / 2 = _
  omega
theorem own_im {jv : Int32} {j : Nat} (h : jv.toInt = (j : Int)) (h1 : j < 100) : (jv + (-1 : Int32)).toInt = (j : Int) - 1 := by
  have := c_iadd jv (-1)
  have := rng32 (jv + -1)
  have : (-1 : Int32).toInt = -1 := rfl
  omega

set_option maxRecDepth 65536 in
set_option maxHeartbeats 40000000 in
theorem own_is {p : Program} {l : Launch} {e : Env} {R : Room} {s : State} {m : MethodId} {args : Array Value} {below : List Frame} {meth : Method} {c : Code} {Z : State} {a0 : Array Value} {Q : Option Value → Heap → List Loc → Prop} {kc ks cells slots : Nat} (hw : ∀ d ∈ tables_1, d.before a0 Z = true) (hx : p.tables.exec = Jvm.exec) (hZ : Z.Warmed39 s.vm) (hby : c.code = prog_13_method_5_code) (hml : c.maxLocals = 11) (hown : s.vm.findClass "com/example/skyweave/skyweave/KdTree" = some m.cls) {t aI aP aF aT aL aH : Nat} {gv : Int32} {O : Nat → Nat → UInt64} {w : Nat} {av sv ev mv : Int32} {h : Heap} {locs : List Loc} {σ : Nat → Nat} {K : Nat → Int} {lv hv : Int32} {zp : UInt64} {pv : Int} (FS : own_Fs Z h t 2 gv aI aP aF aT aL aH) (FQ : own_Da Z h aP 36 (own_P O σ)) (ha : av.toInt = (w : Int)) (w2 : w < 2) (hK : ∀ k, k < 18 → FP.Core.DInt (K k) (O w (σ k))) (hp : FP.Core.DInt pv zp) {jv : Int32} {hi : Nat} (h18 : hi < 18) : ∀ (n i : Nat) (iv : Int32) (T : State), Stand p l e R s m args below meth c T locs cells slots → T.heap = h → iv.toInt = (i : Int) → (∃ k, i ≤ k ∧ k ≤ hi ∧ k ≤ i + n ∧ pv ≤ K k) →
    (∀ (T' : State) (i' : Nat) (iv' : Int32), Stand p l e R s m args below meth c T' locs cells slots → T'.heap = h → iv'.toInt = (i' : Int) → i ≤ i' → i' ≤ hi → pv ≤ K i' → (∀ k, i ≤ k → k < i' → K k < pv) → own_Win p e below s Q kc ks (T'.setTop (mkF m 79 #[.val (.ref t), .val (.int sv), .val (.int ev), .val (.int mv), .val (.int av), .val (.int lv), .val (.int hv), .val (.double zp), .second, .val (.int iv'), .val (.int jv)] []))) → own_Win p e below s Q kc ks (T.setTop (mkF m 52 #[.val (.ref t), .val (.int sv), .val (.int ev), .val (.int mv), .val (.int av), .val (.int lv), .val (.int hv), .val (.double zp), .second, .val (.int iv), .val (.int jv)] [])) := by
  intro n
  induction n with
  | zero =>
    intro i iv T X eT hi1 hk cont
    obtain ⟨k, k1, k2, k3, k4⟩ := hk
    have i18 : i < 18 := by omega
    show own_Win p e below s Q kc ks (T.setTop (mkF m 52 #[.val (.ref t), .val (.int sv), .val (.int ev), .val (.int mv), .val (.int av), .val (.int lv), .val (.int hv), .val (.double zp), .second, .val (.int iv), .val (.int jv)] []))
    refine own_st (fun _ kz => XS.aloadN X.here hx rfl (hb hby dm_52) rfl rfl kz) ?_
    show own_Win p e below s Q kc ks (T.setTop (mkF m 53 #[.val (.ref t), .val (.int sv), .val (.int ev), .val (.int mv), .val (.int av), .val (.int lv), .val (.int hv), .val (.double zp), .second, .val (.int iv), .val (.int jv)] [(.ref t)]))
    obtain ⟨T1, X1, e1, st1⟩ := getF X hx hZ hown (host := "") (Or.inl (hw _ (List.mem_of_getElem? (i := 19) rfl))) Via.refl eT FS.2.2.2.1 (g := (mkF m 53 #[.val (.ref t), .val (.int sv), .val (.int ev), .val (.int mv), .val (.int av), .val (.int lv), .val (.int hv), .val (.double zp), .second, .val (.int iv), .val (.int jv)] [(.ref t)])) rfl rfl (hb hby dm_53)
    refine own_st st1 ?_
    show own_Win p e below s Q kc ks (T1.setTop (mkF m 56 #[.val (.ref t), .val (.int sv), .val (.int ev), .val (.int mv), .val (.int av), .val (.int lv), .val (.int hv), .val (.double zp), .second, .val (.int iv), .val (.int jv)] [(.ref aP)]))
    refine own_st (fun _ kz => XS.iload X1.here hx rfl (hb hby dm_56) rfl kz) ?_
    show own_Win p e below s Q kc ks (T1.setTop (mkF m 58 #[.val (.ref t), .val (.int sv), .val (.int ev), .val (.int mv), .val (.int av), .val (.int lv), .val (.int hv), .val (.double zp), .second, .val (.int iv), .val (.int jv)] [(.int iv), (.ref aP)]))
    refine own_st (fun _ kz => XS.aloadN X1.here hx rfl (hb hby dm_58) rfl rfl kz) ?_
    show own_Win p e below s Q kc ks (T1.setTop (mkF m 59 #[.val (.ref t), .val (.int sv), .val (.int ev), .val (.int mv), .val (.int av), .val (.int lv), .val (.int hv), .val (.double zp), .second, .val (.int iv), .val (.int jv)] [(.ref t), (.int iv), (.ref aP)]))
    obtain ⟨T2, X2, e2, st2⟩ := getF X1 hx hZ hown (host := "") (Or.inl (hw _ (List.mem_of_getElem? (i := 15) rfl))) Via.refl e1 FS.2.1 (g := (mkF m 59 #[.val (.ref t), .val (.int sv), .val (.int ev), .val (.int mv), .val (.int av), .val (.int lv), .val (.int hv), .val (.double zp), .second, .val (.int iv), .val (.int jv)] [(.ref t), (.int iv), (.ref aP)])) rfl rfl (hb hby dm_59)
    refine own_st st2 ?_
    show own_Win p e below s Q kc ks (T2.setTop (mkF m 62 #[.val (.ref t), .val (.int sv), .val (.int ev), .val (.int mv), .val (.int av), .val (.int lv), .val (.int hv), .val (.double zp), .second, .val (.int iv), .val (.int jv)] [(.int (2 : Int32)), (.int iv), (.ref aP)]))
    refine own_st (fun _ kz => XS.imul X2.here hx rfl (hb hby dm_62) rfl kz) ?_
    show own_Win p e below s Q kc ks (T2.setTop (mkF m 63 #[.val (.ref t), .val (.int sv), .val (.int ev), .val (.int mv), .val (.int av), .val (.int lv), .val (.int hv), .val (.double zp), .second, .val (.int iv), .val (.int jv)] [(.int (iv * (2 : Int32))), (.ref aP)]))
    refine own_st (fun _ kz => XS.iload X2.here hx rfl (hb hby dm_63) rfl kz) ?_
    show own_Win p e below s Q kc ks (T2.setTop (mkF m 65 #[.val (.ref t), .val (.int sv), .val (.int ev), .val (.int mv), .val (.int av), .val (.int lv), .val (.int hv), .val (.double zp), .second, .val (.int iv), .val (.int jv)] [(.int av), (.int (iv * (2 : Int32))), (.ref aP)]))
    refine own_st (fun _ kz => XS.iadd X2.here hx rfl (hb hby dm_65) rfl kz) ?_
    show own_Win p e below s Q kc ks (T2.setTop (mkF m 66 #[.val (.ref t), .val (.int sv), .val (.int ev), .val (.int mv), .val (.int av), .val (.int lv), .val (.int hv), .val (.double zp), .second, .val (.int iv), .val (.int jv)] [(.int ((iv * (2 : Int32)) + av)), (.ref aP)]))
    refine own_daload X2 hx hZ e2 FQ (i := (2 * i + w)) (own_ix hi1 ha i18 w2) (by omega) (x := (O w (σ i))) (own_P_at O σ i w w2) rfl rfl (hb hby dm_66) ?_
    show own_Win p e below s Q kc ks (T2.setTop (mkF m 67 #[.val (.ref t), .val (.int sv), .val (.int ev), .val (.int mv), .val (.int av), .val (.int lv), .val (.int hv), .val (.double zp), .second, .val (.int iv), .val (.int jv)] [(.double (O w (σ i)))]))
    refine own_st (fun _ kz => XS.dload X2.here hx rfl (hb hby dm_67) rfl kz) ?_
    show own_Win p e below s Q kc ks (T2.setTop (mkF m 69 #[.val (.ref t), .val (.int sv), .val (.int ev), .val (.int mv), .val (.int av), .val (.int lv), .val (.int hv), .val (.double zp), .second, .val (.int iv), .val (.int jv)] [(.double zp), (.double (O w (σ i)))]))
    refine own_st (fun _ kz => XS.dcmpS X2.here hx rfl (hb hby dm_69) rfl rfl kz) ?_
    show own_Win p e below s Q kc ks (T2.setTop (mkF m 70 #[.val (.ref t), .val (.int sv), .val (.int ev), .val (.int mv), .val (.int av), .val (.int lv), .val (.int hv), .val (.double zp), .second, .val (.int iv), .val (.int jv)] [(.int (cmpValue (FP.dcmp (O w (σ i)) zp) .g))]))
    by_cases q : pv ≤ K i
    ·
      refine own_st (fun _ kz => XS.ifYes X2.here hx rfl (pc0 := 70) (pc' := 79) rfl (hb hby dm_70) rfl (by rw [own_hc (hK i i18) hp]; exact decide_eq_true q) (by decide) (by decide) kz) ?_
      show own_Win p e below s Q kc ks (T2.setTop (mkF m 79 #[.val (.ref t), .val (.int sv), .val (.int ev), .val (.int mv), .val (.int av), .val (.int lv), .val (.int hv), .val (.double zp), .second, .val (.int iv), .val (.int jv)] []))
      exact cont T2 i iv X2 e2 hi1 (Nat.le_refl _) (by omega) q (fun k a b => by omega)
    ·
      exfalso; have : k = i := by omega
      exact q (this ▸ k4)
  | succ n ih =>
    intro i iv T X eT hi1 hk cont
    obtain ⟨k, k1, k2, k3, k4⟩ := hk
    have i18 : i < 18 := by omega
    show own_Win p e below s Q kc ks (T.setTop (mkF m 52 #[.val (.ref t), .val (.int sv), .val (.int ev), .val (.int mv), .val (.int av), .val (.int lv), .val (.int hv), .val (.double zp), .second, .val (.int iv), .val (.int jv)] []))
    refine own_st (fun _ kz => XS.aloadN X.here hx rfl (hb hby dm_52) rfl rfl kz) ?_
    show own_Win p e below s Q kc ks (T.setTop (mkF m 53 #[.val (.ref t), .val (.int sv), .val (.int ev), .val (.int mv), .val (.int av), .val (.int lv), .val (.int hv), .val (.double zp), .second, .val (.int iv), .val (.int jv)] [(.ref t)]))
    obtain ⟨T1, X1, e1, st1⟩ := getF X hx hZ hown (host := "") (Or.inl (hw _ (List.mem_of_getElem? (i := 19) rfl))) Via.refl eT FS.2.2.2.1 (g := (mkF m 53 #[.val (.ref t), .val (.int sv), .val (.int ev), .val (.int mv), .val (.int av), .val (.int lv), .val (.int hv), .val (.double zp), .second, .val (.int iv), .val (.int jv)] [(.ref t)])) rfl rfl (hb hby dm_53)
    refine own_st st1 ?_
    show own_Win p e below s Q kc ks (T1.setTop (mkF m 56 #[.val (.ref t), .val (.int sv), .val (.int ev), .val (.int mv), .val (.int av), .val (.int lv), .val (.int hv), .val (.double zp), .second, .val (.int iv), .val (.int jv)] [(.ref aP)]))
    refine own_st (fun _ kz => XS.iload X1.here hx rfl (hb hby dm_56) rfl kz) ?_
    show own_Win p e below s Q kc ks (T1.setTop (mkF m 58 #[.val (.ref t), .val (.int sv), .val (.int ev), .val (.int mv), .val (.int av), .val (.int lv), .val (.int hv), .val (.double zp), .second, .val (.int iv), .val (.int jv)] [(.int iv), (.ref aP)]))
    refine own_st (fun _ kz => XS.aloadN X1.here hx rfl (hb hby dm_58) rfl rfl kz) ?_
    show own_Win p e below s Q kc ks (T1.setTop (mkF m 59 #[.val (.ref t), .val (.int sv), .val (.int ev), .val (.int mv), .val (.int av), .val (.int lv), .val (.int hv), .val (.double zp), .second, .val (.int iv), .val (.int jv)] [(.ref t), (.int iv), (.ref aP)]))
    obtain ⟨T2, X2, e2, st2⟩ := getF X1 hx hZ hown (host := "") (Or.inl (hw _ (List.mem_of_getElem? (i := 15) rfl))) Via.refl e1 FS.2.1 (g := (mkF m 59 #[.val (.ref t), .val (.int sv), .val (.int ev), .val (.int mv), .val (.int av), .val (.int lv), .val (.int hv), .val (.double zp), .second, .val (.int iv), .val (.int jv)] [(.ref t), (.int iv), (.ref aP)])) rfl rfl (hb hby dm_59)
    refine own_st st2 ?_
    show own_Win p e below s Q kc ks (T2.setTop (mkF m 62 #[.val (.ref t), .val (.int sv), .val (.int ev), .val (.int mv), .val (.int av), .val (.int lv), .val (.int hv), .val (.double zp), .second, .val (.int iv), .val (.int jv)] [(.int (2 : Int32)), (.int iv), (.ref aP)]))
    refine own_st (fun _ kz => XS.imul X2.here hx rfl (hb hby dm_62) rfl kz) ?_
    show own_Win p e below s Q kc ks (T2.setTop (mkF m 63 #[.val (.ref t), .val (.int sv), .val (.int ev), .val (.int mv), .val (.int av), .val (.int lv), .val (.int hv), .val (.double zp), .second, .val (.int iv), .val (.int jv)] [(.int (iv * (2 : Int32))), (.ref aP)]))
    refine own_st (fun _ kz => XS.iload X2.here hx rfl (hb hby dm_63) rfl kz) ?_
    show own_Win p e below s Q kc ks (T2.setTop (mkF m 65 #[.val (.ref t), .val (.int sv), .val (.int ev), .val (.int mv), .val (.int av), .val (.int lv), .val (.int hv), .val (.double zp), .second, .val (.int iv), .val (.int jv)] [(.int av), (.int (iv * (2 : Int32))), (.ref aP)]))
    refine own_st (fun _ kz => XS.iadd X2.here hx rfl (hb hby dm_65) rfl kz) ?_
    show own_Win p e below s Q kc ks (T2.setTop (mkF m 66 #[.val (.ref t), .val (.int sv), .val (.int ev), .val (.int mv), .val (.int av), .val (.int lv), .val (.int hv), .val (.double zp), .second, .val (.int iv), .val (.int jv)] [(.int ((iv * (2 : Int32)) + av)), (.ref aP)]))
    refine own_daload X2 hx hZ e2 FQ (i := (2 * i + w)) (own_ix hi1 ha i18 w2) (by omega) (x := (O w (σ i))) (own_P_at O σ i w w2) rfl rfl (hb hby dm_66) ?_
    show own_Win p e below s Q kc ks (T2.setTop (mkF m 67 #[.val (.ref t), .val (.int sv), .val (.int ev), .val (.int mv), .val (.int av), .val (.int lv), .val (.int hv), .val (.double zp), .second, .val (.int iv), .val (.int jv)] [(.double (O w (σ i)))]))
    refine own_st (fun _ kz => XS.dload X2.here hx rfl (hb hby dm_67) rfl kz) ?_
    show own_Win p e below s Q kc ks (T2.setTop (mkF m 69 #[.val (.ref t), .val (.int sv), .val (.int ev), .val (.int mv), .val (.int av), .val (.int lv), .val (.int hv), .val (.double zp), .second, .val (.int iv), .val (.int jv)] [(.double zp), (.double (O w (σ i)))]))
    refine own_st (fun _ kz => XS.dcmpS X2.here hx rfl (hb hby dm_69) rfl rfl kz) ?_
    show own_Win p e below s Q kc ks (T2.setTop (mkF m 70 #[.val (.ref t), .val (.int sv), .val (.int ev), .val (.int mv), .val (.int av), .val (.int lv), .val (.int hv), .val (.double zp), .second, .val (.int iv), .val (.int jv)] [(.int (cmpValue (FP.dcmp (O w (σ i)) zp) .g))]))
    by_cases q : pv ≤ K i
    ·
      refine own_st (fun _ kz => XS.ifYes X2.here hx rfl (pc0 := 70) (pc' := 79) rfl (hb hby dm_70) rfl (by rw [own_hc (hK i i18) hp]; exact decide_eq_true q) (by decide) (by decide) kz) ?_
      show own_Win p e below s Q kc ks (T2.setTop (mkF m 79 #[.val (.ref t), .val (.int sv), .val (.int ev), .val (.int mv), .val (.int av), .val (.int lv), .val (.int hv), .val (.double zp), .second, .val (.int iv), .val (.int jv)] []))
      exact cont T2 i iv X2 e2 hi1 (Nat.le_refl _) (by omega) q (fun k a b => by omega)
    ·
      refine own_st (fun _ kz => XS.ifNo X2.here hx rfl (hb hby dm_70) rfl (by rw [own_hc (hK i i18) hp]; exact decide_eq_false q) kz) ?_
      show own_Win p e below s Q kc ks (T2.setTop (mkF m 73 #[.val (.ref t), .val (.int sv), .val (.int ev), .val (.int mv), .val (.int av), .val (.int lv), .val (.int hv), .val (.double zp), .second, .val (.int iv), .val (.int jv)] []))
      refine own_st (fun _ kz => XS.iinc X2.here hx rfl (hb hby dm_73) rfl (l' := #[.val (.ref t), .val (.int sv), .val (.int ev), .val (.int mv), .val (.int av), .val (.int lv), .val (.int hv), .val (.double zp), .second, .val (.int (iv + (1 : Int32))), .val (.int jv)]) rfl kz) ?_
      show own_Win p e below s Q kc ks (T2.setTop (mkF m 76 #[.val (.ref t), .val (.int sv), .val (.int ev), .val (.int mv), .val (.int av), .val (.int lv), .val (.int hv), .val (.double zp), .second, .val (.int (iv + (1 : Int32))), .val (.int jv)] []))
      refine own_st (fun _ kz => XS.goto X2.here hx rfl (pc0 := 76) (pc' := 52) rfl (hb hby dm_76) (by decide) (by decide) kz) ?_
      show own_Win p e below s Q kc ks (T2.setTop (mkF m 52 #[.val (.ref t), .val (.int sv), .val (.int ev), .val (.int mv), .val (.int av), .val (.int lv), .val (.int hv), .val (.double zp), .second, .val (.int (iv + (1 : Int32))), .val (.int jv)] []))
      have kne : k ≠ i := fun z => q (z ▸ k4)
      refine ih (i + 1) (iv + (1 : Int32)) T2 X2 e2 (own_i1 hi1 (by omega)) ⟨k, by omega, k2, by omega, k4⟩ fun T' i' iv' X' e' a1 a2 a3 a4 a5 => cont T' i' iv' X' e' a1 (by omega) a3 a4 fun u b1 b2 => ?_
      by_cases z : u = i
      · rw [z]; omega
      · exact a5 u (by omega) b2
set_option maxRecDepth 65536 in
set_option maxHeartbeats 40000000 in
theorem own_js {p : Program} {l : Launch} {e : Env} {R : Room} {s : State} {m : MethodId} {args : Array Value} {below : List Frame} {meth : Method} {c : Code} {Z : State} {a0 : Array Value} {Q : Option Value → Heap → List Loc → Prop} {kc ks cells slots : Nat} (hw : ∀ d ∈ tables_1, d.before a0 Z = true) (hx : p.tables.exec = Jvm.exec) (hZ : Z.Warmed39 s.vm) (hby : c.code = prog_13_method_5_code) (hml : c.maxLocals = 11) (hown : s.vm.findClass "com/example/skyweave/skyweave/KdTree" = some m.cls) {t aI aP aF aT aL aH : Nat} {gv : Int32} {O : Nat → Nat → UInt64} {w : Nat} {av sv ev mv : Int32} {h : Heap} {locs : List Loc} {σ : Nat → Nat} {K : Nat → Int} {lv hv : Int32} {zp : UInt64} {pv : Int} (FS : own_Fs Z h t 2 gv aI aP aF aT aL aH) (FQ : own_Da Z h aP 36 (own_P O σ)) (ha : av.toInt = (w : Int)) (w2 : w < 2) (hK : ∀ k, k < 18 → FP.Core.DInt (K k) (O w (σ k))) (hp : FP.Core.DInt pv zp) {iv : Int32} {lo : Nat} : ∀ (n j : Nat) (jv : Int32) (T : State), Stand p l e R s m args below meth c T locs cells slots → T.heap = h → jv.toInt = (j : Int) → j < 18 → (∃ k, lo ≤ k ∧ k ≤ j ∧ j ≤ k + n ∧ K k ≤ pv) →
    (∀ (T' : State) (j' : Nat) (jv' : Int32), Stand p l e R s m args below meth c T' locs cells slots → T'.heap = h → jv'.toInt = (j' : Int) → j' ≤ j → lo ≤ j' → K j' ≤ pv → (∀ k, j' < k → k ≤ j → pv < K k) → own_Win p e below s Q kc ks (T'.setTop (mkF m 106 #[.val (.ref t), .val (.int sv), .val (.int ev), .val (.int mv), .val (.int av), .val (.int lv), .val (.int hv), .val (.double zp), .second, .val (.int iv), .val (.int jv')] []))) → own_Win p e below s Q kc ks (T.setTop (mkF m 79 #[.val (.ref t), .val (.int sv), .val (.int ev), .val (.int mv), .val (.int av), .val (.int lv), .val (.int hv), .val (.double zp), .second, .val (.int iv), .val (.int jv)] [])) := by
  intro n
  induction n with
  | zero =>
    intro j jv T X eT hj1 j18 hk cont
    obtain ⟨k, k1, k2, k3, k4⟩ := hk
    show own_Win p e below s Q kc ks (T.setTop (mkF m 79 #[.val (.ref t), .val (.int sv), .val (.int ev), .val (.int mv), .val (.int av), .val (.int lv), .val (.int hv), .val (.double zp), .second, .val (.int iv), .val (.int jv)] []))
    refine own_st (fun _ kz => XS.aloadN X.here hx rfl (hb hby dm_79) rfl rfl kz) ?_
    show own_Win p e below s Q kc ks (T.setTop (mkF m 80 #[.val (.ref t), .val (.int sv), .val (.int ev), .val (.int mv), .val (.int av), .val (.int lv), .val (.int hv), .val (.double zp), .second, .val (.int iv), .val (.int jv)] [(.ref t)]))
    obtain ⟨T1, X1, e1, st1⟩ := getF X hx hZ hown (host := "") (Or.inl (hw _ (List.mem_of_getElem? (i := 19) rfl))) Via.refl eT FS.2.2.2.1 (g := (mkF m 80 #[.val (.ref t), .val (.int sv), .val (.int ev), .val (.int mv), .val (.int av), .val (.int lv), .val (.int hv), .val (.double zp), .second, .val (.int iv), .val (.int jv)] [(.ref t)])) rfl rfl (hb hby dm_80)
    refine own_st st1 ?_
    show own_Win p e below s Q kc ks (T1.setTop (mkF m 83 #[.val (.ref t), .val (.int sv), .val (.int ev), .val (.int mv), .val (.int av), .val (.int lv), .val (.int hv), .val (.double zp), .second, .val (.int iv), .val (.int jv)] [(.ref aP)]))
    refine own_st (fun _ kz => XS.iload X1.here hx rfl (hb hby dm_83) rfl kz) ?_
    show own_Win p e below s Q kc ks (T1.setTop (mkF m 85 #[.val (.ref t), .val (.int sv), .val (.int ev), .val (.int mv), .val (.int av), .val (.int lv), .val (.int hv), .val (.double zp), .second, .val (.int iv), .val (.int jv)] [(.int jv), (.ref aP)]))
    refine own_st (fun _ kz => XS.aloadN X1.here hx rfl (hb hby dm_85) rfl rfl kz) ?_
    show own_Win p e below s Q kc ks (T1.setTop (mkF m 86 #[.val (.ref t), .val (.int sv), .val (.int ev), .val (.int mv), .val (.int av), .val (.int lv), .val (.int hv), .val (.double zp), .second, .val (.int iv), .val (.int jv)] [(.ref t), (.int jv), (.ref aP)]))
    obtain ⟨T2, X2, e2, st2⟩ := getF X1 hx hZ hown (host := "") (Or.inl (hw _ (List.mem_of_getElem? (i := 15) rfl))) Via.refl e1 FS.2.1 (g := (mkF m 86 #[.val (.ref t), .val (.int sv), .val (.int ev), .val (.int mv), .val (.int av), .val (.int lv), .val (.int hv), .val (.double zp), .second, .val (.int iv), .val (.int jv)] [(.ref t), (.int jv), (.ref aP)])) rfl rfl (hb hby dm_86)
    refine own_st st2 ?_
    show own_Win p e below s Q kc ks (T2.setTop (mkF m 89 #[.val (.ref t), .val (.int sv), .val (.int ev), .val (.int mv), .val (.int av), .val (.int lv), .val (.int hv), .val (.double zp), .second, .val (.int iv), .val (.int jv)] [(.int (2 : Int32)), (.int jv), (.ref aP)]))
    refine own_st (fun _ kz => XS.imul X2.here hx rfl (hb hby dm_89) rfl kz) ?_
    show own_Win p e below s Q kc ks (T2.setTop (mkF m 90 #[.val (.ref t), .val (.int sv), .val (.int ev), .val (.int mv), .val (.int av), .val (.int lv), .val (.int hv), .val (.double zp), .second, .val (.int iv), .val (.int jv)] [(.int (jv * (2 : Int32))), (.ref aP)]))
    refine own_st (fun _ kz => XS.iload X2.here hx rfl (hb hby dm_90) rfl kz) ?_
    show own_Win p e below s Q kc ks (T2.setTop (mkF m 92 #[.val (.ref t), .val (.int sv), .val (.int ev), .val (.int mv), .val (.int av), .val (.int lv), .val (.int hv), .val (.double zp), .second, .val (.int iv), .val (.int jv)] [(.int av), (.int (jv * (2 : Int32))), (.ref aP)]))
    refine own_st (fun _ kz => XS.iadd X2.here hx rfl (hb hby dm_92) rfl kz) ?_
    show own_Win p e below s Q kc ks (T2.setTop (mkF m 93 #[.val (.ref t), .val (.int sv), .val (.int ev), .val (.int mv), .val (.int av), .val (.int lv), .val (.int hv), .val (.double zp), .second, .val (.int iv), .val (.int jv)] [(.int ((jv * (2 : Int32)) + av)), (.ref aP)]))
    refine own_daload X2 hx hZ e2 FQ (i := (2 * j + w)) (own_ix hj1 ha j18 w2) (by omega) (x := (O w (σ j))) (own_P_at O σ j w w2) rfl rfl (hb hby dm_93) ?_
    show own_Win p e below s Q kc ks (T2.setTop (mkF m 94 #[.val (.ref t), .val (.int sv), .val (.int ev), .val (.int mv), .val (.int av), .val (.int lv), .val (.int hv), .val (.double zp), .second, .val (.int iv), .val (.int jv)] [(.double (O w (σ j)))]))
    refine own_st (fun _ kz => XS.dload X2.here hx rfl (hb hby dm_94) rfl kz) ?_
    show own_Win p e below s Q kc ks (T2.setTop (mkF m 96 #[.val (.ref t), .val (.int sv), .val (.int ev), .val (.int mv), .val (.int av), .val (.int lv), .val (.int hv), .val (.double zp), .second, .val (.int iv), .val (.int jv)] [(.double zp), (.double (O w (σ j)))]))
    refine own_st (fun _ kz => XS.dcmpS X2.here hx rfl (hb hby dm_96) rfl rfl kz) ?_
    show own_Win p e below s Q kc ks (T2.setTop (mkF m 97 #[.val (.ref t), .val (.int sv), .val (.int ev), .val (.int mv), .val (.int av), .val (.int lv), .val (.int hv), .val (.double zp), .second, .val (.int iv), .val (.int jv)] [(.int (cmpValue (FP.dcmp (O w (σ j)) zp) .l))]))
    by_cases q : K j ≤ pv
    ·
      refine own_st (fun _ kz => XS.ifYes X2.here hx rfl (pc0 := 97) (pc' := 106) rfl (hb hby dm_97) rfl (by rw [own_hc (hK j j18) hp]; exact decide_eq_true q) (by decide) (by decide) kz) ?_
      show own_Win p e below s Q kc ks (T2.setTop (mkF m 106 #[.val (.ref t), .val (.int sv), .val (.int ev), .val (.int mv), .val (.int av), .val (.int lv), .val (.int hv), .val (.double zp), .second, .val (.int iv), .val (.int jv)] []))
      exact cont T2 j jv X2 e2 hj1 (Nat.le_refl _) (by omega) q (fun k a b => by omega)
    ·
      exfalso; have : k = j := by omega
      exact q (this ▸ k4)
  | succ n ih =>
    intro j jv T X eT hj1 j18 hk cont
    obtain ⟨k, k1, k2, k3, k4⟩ := hk
    show own_Win p e below s Q kc ks (T.setTop (mkF m 79 #[.val (.ref t), .val (.int sv), .val (.int ev), .val (.int mv), .val (.int av), .val (.int lv), .val (.int hv), .val (.double zp), .second, .val (.int iv), .val (.int jv)] []))
    refine own_st (fun _ kz => XS.aloadN X.here hx rfl (hb hby dm_79) rfl rfl kz) ?_
    show own_Win p e below s Q kc ks (T.setTop (mkF m 80 #[.val (.ref t), .val (.int sv), .val (.int ev), .val (.int mv), .val (.int av), .val (.int lv), .val (.int hv), .val (.double zp), .second, .val (.int iv), .val (.int jv)] [(.ref t)]))
    obtain ⟨T1, X1, e1, st1⟩ := getF X hx hZ hown (host := "") (Or.inl (hw _ (List.mem_of_getElem? (i := 19) rfl))) Via.refl eT FS.2.2.2.1 (g := (mkF m 80 #[.val (.ref t), .val (.int sv), .val (.int ev), .val (.int mv), .val (.int av), .val (.int lv), .val (.int hv), .val (.double zp), .second, .val (.int iv), .val (.int jv)] [(.ref t)])) rfl rfl (hb hby dm_80)
    refine own_st st1 ?_
    show own_Win p e below s Q kc ks (T1.setTop (mkF m 83 #[.val (.ref t), .val (.int sv), .val (.int ev), .val (.int mv), .val (.int av), .val (.int lv), .val (.int hv), .val (.double zp), .second, .val (.int iv), .val (.int jv)] [(.ref aP)]))
    refine own_st (fun _ kz => XS.iload X1.here hx rfl (hb hby dm_83) rfl kz) ?_
    show own_Win p e below s Q kc ks (T1.setTop (mkF m 85 #[.val (.ref t), .val (.int sv), .val (.int ev), .val (.int mv), .val (.int av), .val (.int lv), .val (.int hv), .val (.double zp), .second, .val (.int iv), .val (.int jv)] [(.int jv), (.ref aP)]))
    refine own_st (fun _ kz => XS.aloadN X1.here hx rfl (hb hby dm_85) rfl rfl kz) ?_
    show own_Win p e below s Q kc ks (T1.setTop (mkF m 86 #[.val (.ref t), .val (.int sv), .val (.int ev), .val (.int mv), .val (.int av), .val (.int lv), .val (.int hv), .val (.double zp), .second, .val (.int iv), .val (.int jv)] [(.ref t), (.int jv), (.ref aP)]))
    obtain ⟨T2, X2, e2, st2⟩ := getF X1 hx hZ hown (host := "") (Or.inl (hw _ (List.mem_of_getElem? (i := 15) rfl))) Via.refl e1 FS.2.1 (g := (mkF m 86 #[.val (.ref t), .val (.int sv), .val (.int ev), .val (.int mv), .val (.int av), .val (.int lv), .val (.int hv), .val (.double zp), .second, .val (.int iv), .val (.int jv)] [(.ref t), (.int jv), (.ref aP)])) rfl rfl (hb hby dm_86)
    refine own_st st2 ?_
    show own_Win p e below s Q kc ks (T2.setTop (mkF m 89 #[.val (.ref t), .val (.int sv), .val (.int ev), .val (.int mv), .val (.int av), .val (.int lv), .val (.int hv), .val (.double zp), .second, .val (.int iv), .val (.int jv)] [(.int (2 : Int32)), (.int jv), (.ref aP)]))
    refine own_st (fun _ kz => XS.imul X2.here hx rfl (hb hby dm_89) rfl kz) ?_
    show own_Win p e below s Q kc ks (T2.setTop (mkF m 90 #[.val (.ref t), .val (.int sv), .val (.int ev), .val (.int mv), .val (.int av), .val (.int lv), .val (.int hv), .val (.double zp), .second, .val (.int iv), .val (.int jv)] [(.int (jv * (2 : Int32))), (.ref aP)]))
    refine own_st (fun _ kz => XS.iload X2.here hx rfl (hb hby dm_90) rfl kz) ?_
    show own_Win p e below s Q kc ks (T2.setTop (mkF m 92 #[.val (.ref t), .val (.int sv), .val (.int ev), .val (.int mv), .val (.int av), .val (.int lv), .val (.int hv), .val (.double zp), .second, .val (.int iv), .val (.int jv)] [(.int av), (.int (jv * (2 : Int32))), (.ref aP)]))
    refine own_st (fun _ kz => XS.iadd X2.here hx rfl (hb hby dm_92) rfl kz) ?_
    show own_Win p e below s Q kc ks (T2.setTop (mkF m 93 #[.val (.ref t), .val (.int sv), .val (.int ev), .val (.int mv), .val (.int av), .val (.int lv), .val (.int hv), .val (.double zp), .second, .val (.int iv), .val (.int jv)] [(.int ((jv * (2 : Int32)) + av)), (.ref aP)]))
    refine own_daload X2 hx hZ e2 FQ (i := (2 * j + w)) (own_ix hj1 ha j18 w2) (by omega) (x := (O w (σ j))) (own_P_at O σ j w w2) rfl rfl (hb hby dm_93) ?_
    show own_Win p e below s Q kc ks (T2.setTop (mkF m 94 #[.val (.ref t), .val (.int sv), .val (.int ev), .val (.int mv), .val (.int av), .val (.int lv), .val (.int hv), .val (.double zp), .second, .val (.int iv), .val (.int jv)] [(.double (O w (σ j)))]))
    refine own_st (fun _ kz => XS.dload X2.here hx rfl (hb hby dm_94) rfl kz) ?_
    show own_Win p e below s Q kc ks (T2.setTop (mkF m 96 #[.val (.ref t), .val (.int sv), .val (.int ev), .val (.int mv), .val (.int av), .val (.int lv), .val (.int hv), .val (.double zp), .second, .val (.int iv), .val (.int jv)] [(.double zp), (.double (O w (σ j)))]))
    refine own_st (fun _ kz => XS.dcmpS X2.here hx rfl (hb hby dm_96) rfl rfl kz) ?_
    show own_Win p e below s Q kc ks (T2.setTop (mkF m 97 #[.val (.ref t), .val (.int sv), .val (.int ev), .val (.int mv), .val (.int av), .val (.int lv), .val (.int hv), .val (.double zp), .second, .val (.int iv), .val (.int jv)] [(.int (cmpValue (FP.dcmp (O w (σ j)) zp) .l))]))
    by_cases q : K j ≤ pv
    ·
      refine own_st (fun _ kz => XS.ifYes X2.here hx rfl (pc0 := 97) (pc' := 106) rfl (hb hby dm_97) rfl (by rw [own_hc (hK j j18) hp]; exact decide_eq_true q) (by decide) (by decide) kz) ?_
      show own_Win p e below s Q kc ks (T2.setTop (mkF m 106 #[.val (.ref t), .val (.int sv), .val (.int ev), .val (.int mv), .val (.int av), .val (.int lv), .val (.int hv), .val (.double zp), .second, .val (.int iv), .val (.int jv)] []))
      exact cont T2 j jv X2 e2 hj1 (Nat.le_refl _) (by omega) q (fun k a b => by omega)
    ·
      refine own_st (fun _ kz => XS.ifNo X2.here hx rfl (hb hby dm_97) rfl (by rw [own_hc (hK j j18) hp]; exact decide_eq_false q) kz) ?_
      show own_Win p e below s Q kc ks (T2.setTop (mkF m 100 #[.val (.ref t), .val (.int sv), .val (.int ev), .val (.int mv), .val (.int av), .val (.int lv), .val (.int hv), .val (.double zp), .second, .val (.int iv), .val (.int jv)] []))
      refine own_st (fun _ kz => XS.iinc X2.here hx rfl (hb hby dm_100) rfl (l' := #[.val (.ref t), .val (.int sv), .val (.int ev), .val (.int mv), .val (.int av), .val (.int lv), .val (.int hv), .val (.double zp), .second, .val (.int iv), .val (.int (jv + (-1 : Int32)))]) rfl kz) ?_
      show own_Win p e below s Q kc ks (T2.setTop (mkF m 103 #[.val (.ref t), .val (.int sv), .val (.int ev), .val (.int mv), .val (.int av), .val (.int lv), .val (.int hv), .val (.double zp), .second, .val (.int iv), .val (.int (jv + (-1 : Int32)))] []))
      refine own_st (fun _ kz => XS.goto X2.here hx rfl (pc0 := 103) (pc' := 79) rfl (hb hby dm_103) (by decide) (by decide) kz) ?_
      show own_Win p e below s Q kc ks (T2.setTop (mkF m 79 #[.val (.ref t), .val (.int sv), .val (.int ev), .val (.int mv), .val (.int av), .val (.int lv), .val (.int hv), .val (.double zp), .second, .val (.int iv), .val (.int (jv + (-1 : Int32)))] []))
      have kne : k ≠ j := fun z => q (z ▸ k4)
      have hj2 : (jv + (-1 : Int32)).toInt = ((j - 1 : Nat) : Int) := by rw [own_im hj1 (by omega)]; omega
      refine ih (j - 1) (jv + (-1 : Int32)) T2 X2 e2 hj2 (by omega) ⟨k, k1, by omega, by omega, k4⟩ fun T' j' jv' X' e' a1 a2 a3 a4 a5 => cont T' j' jv' X' e' a1 (by omega) a3 a4 fun u b1 b2 => ?_
      by_cases z : u = j
      · rw [z]; omega
      · exact a5 u b1 (by omega)
set_option maxRecDepth 65536 in
set_option maxHeartbeats 40000000 in
theorem own_in {p : Program} {l : Launch} {e : Env} {R : Room} {s : State} {m : MethodId} {args : Array Value} {below : List Frame} {meth : Method} {c : Code} {Z : State} {a0 : Array Value} {Q : Option Value → Heap → List Loc → Prop} {kc ks cells slots : Nat} (hw : ∀ d ∈ tables_1, d.before a0 Z = true) (hx : p.tables.exec = Jvm.exec) (hZ : Z.Warmed39 s.vm) (hby : c.code = prog_13_method_5_code) (hml : c.maxLocals = 11) (hown : s.vm.findClass "com/example/skyweave/skyweave/KdTree" = some m.cls) {t aI aP aF aT aL aH : Nat} {gv : Int32} {O : Nat → Nat → UInt64} {w : Nat} {av sv ev mv : Int32}  (ha : av.toInt = (w : Int)) (w2 : w < 2) {V : Nat → Int} (hV : ∀ d, d < 18 → FP.Core.DInt (V d) (O w d)) {n0 sN eN : Nat} {h0 : Heap} (q0 : n0 ≤ aI) (o1 : aI < aP) (o2 : aP < t) (e18 : eN ≤ 18) (hfr : 1 ≤ R.frames) (hlo : 18 ≤ R.locals) (hcl : cells ≤ R.cells) (hsl : slots ≤ R.slots) {lv hv : Int32} {zp : UInt64} {pv : Int} (hp : FP.Core.DInt pv zp) {lo hi : Nat} (sl : sN ≤ lo) (he : hi < eN) : ∀ (n i J : Nat) (iv jv : Int32) (T : State) (h : Heap) (locs : List Loc) (σ : Nat → Nat), Stand p l e R s m args below meth c T locs cells slots → T.heap = h → Fr n0 locs → own_Fs Z h t 2 gv aI aP aF aT aL aH → own_Ia Z h aI 18 (own_I σ) → own_Da Z h aP 36 (own_P O σ) → Keep h0 h [aI, aP] → own_ok sN eN σ → iv.toInt = (i : Int) → jv.toInt = (J : Int) - 1 → J ≤ i + n → own_Inv (fun k => V (σ k)) pv lo hi i J → own_Out (fun k => V (σ k)) sN eN lo hi →
    (∀ (T' : State) (h' : Heap) (locs' : List Loc) (σ' : Nat → Nat) (i' J' : Nat) (iv' jv' : Int32), Stand p l e R s m args below meth c T' locs' cells slots → T'.heap = h' → Fr n0 locs' → own_Fs Z h' t 2 gv aI aP aF aT aL aH → own_Ia Z h' aI 18 (own_I σ') → own_Da Z h' aP 36 (own_P O σ') → Keep h0 h' [aI, aP] → own_ok sN eN σ' → iv'.toInt = (i' : Int) → jv'.toInt = (J' : Int) - 1 → J' ≤ i' → own_Inv (fun k => V (σ' k)) pv lo hi i' J' → own_Out (fun k => V (σ' k)) sN eN lo hi → own_Win p e below s Q kc ks (T'.setTop (mkF m 130 #[.val (.ref t), .val (.int sv), .val (.int ev), .val (.int mv), .val (.int av), .val (.int lv), .val (.int hv), .val (.double zp), .second, .val (.int iv'), .val (.int jv')] []))) → own_Win p e below s Q kc ks (T.setTop (mkF m 45 #[.val (.ref t), .val (.int sv), .val (.int ev), .val (.int mv), .val (.int av), .val (.int lv), .val (.int hv), .val (.double zp), .second, .val (.int iv), .val (.int jv)] [])) := by
  intro n
  induction n with
  | zero =>
    intro i J iv jv T h locs σ X eT N FS FI FQ KK hok hi1 hj1 hn hI hO cont
    have i0 : (0 : Int) ≤ i := by omega
    show own_Win p e below s Q kc ks (T.setTop (mkF m 45 #[.val (.ref t), .val (.int sv), .val (.int ev), .val (.int mv), .val (.int av), .val (.int lv), .val (.int hv), .val (.double zp), .second, .val (.int iv), .val (.int jv)] []))
    refine own_st (fun _ kz => XS.iload X.here hx rfl (hb hby dm_45) rfl kz) ?_
    show own_Win p e below s Q kc ks (T.setTop (mkF m 47 #[.val (.ref t), .val (.int sv), .val (.int ev), .val (.int mv), .val (.int av), .val (.int lv), .val (.int hv), .val (.double zp), .second, .val (.int iv), .val (.int jv)] [(.int iv)]))
    refine own_st (fun _ kz => XS.iload X.here hx rfl (hb hby dm_47) rfl kz) ?_
    show own_Win p e below s Q kc ks (T.setTop (mkF m 49 #[.val (.ref t), .val (.int sv), .val (.int ev), .val (.int mv), .val (.int av), .val (.int lv), .val (.int hv), .val (.double zp), .second, .val (.int iv), .val (.int jv)] [(.int jv), (.int iv)]))
    by_cases q : J ≤ i
    ·
      refine own_st (fun _ kz => XS.icmpYes X.here hx rfl (pc0 := 49) (pc' := 130) rfl (hb hby dm_49) rfl (by refine (tlt ?_).2.2.1; rw [Int32.lt_iff_toInt_lt]; omega) (by decide) (by decide) kz) ?_
      show own_Win p e below s Q kc ks (T.setTop (mkF m 130 #[.val (.ref t), .val (.int sv), .val (.int ev), .val (.int mv), .val (.int av), .val (.int lv), .val (.int hv), .val (.double zp), .second, .val (.int iv), .val (.int jv)] []))
      exact cont T h locs σ i J iv jv X eT N FS FI FQ KK hok hi1 hj1 q hI hO
    ·
      omega
  | succ n ih =>
    intro i J iv jv T h locs σ X eT N FS FI FQ KK hok hi1 hj1 hn hI hO cont
    have i0 : (0 : Int) ≤ i := by omega
    show own_Win p e below s Q kc ks (T.setTop (mkF m 45 #[.val (.ref t), .val (.int sv), .val (.int ev), .val (.int mv), .val (.int av), .val (.int lv), .val (.int hv), .val (.double zp), .second, .val (.int iv), .val (.int jv)] []))
    refine own_st (fun _ kz => XS.iload X.here hx rfl (hb hby dm_45) rfl kz) ?_
    show own_Win p e below s Q kc ks (T.setTop (mkF m 47 #[.val (.ref t), .val (.int sv), .val (.int ev), .val (.int mv), .val (.int av), .val (.int lv), .val (.int hv), .val (.double zp), .second, .val (.int iv), .val (.int jv)] [(.int iv)]))
    refine own_st (fun _ kz => XS.iload X.here hx rfl (hb hby dm_47) rfl kz) ?_
    show own_Win p e below s Q kc ks (T.setTop (mkF m 49 #[.val (.ref t), .val (.int sv), .val (.int ev), .val (.int mv), .val (.int av), .val (.int lv), .val (.int hv), .val (.double zp), .second, .val (.int iv), .val (.int jv)] [(.int jv), (.int iv)]))
    by_cases q : J ≤ i
    ·
      refine own_st (fun _ kz => XS.icmpYes X.here hx rfl (pc0 := 49) (pc' := 130) rfl (hb hby dm_49) rfl (by refine (tlt ?_).2.2.1; rw [Int32.lt_iff_toInt_lt]; omega) (by decide) (by decide) kz) ?_
      show own_Win p e below s Q kc ks (T.setTop (mkF m 130 #[.val (.ref t), .val (.int sv), .val (.int ev), .val (.int mv), .val (.int av), .val (.int lv), .val (.int hv), .val (.double zp), .second, .val (.int iv), .val (.int jv)] []))
      exact cont T h locs σ i J iv jv X eT N FS FI FQ KK hok hi1 hj1 q hI hO
    ·
      refine own_st (fun _ kz => XS.icmpNo X.here hx rfl (hb hby dm_49) rfl (by refine (flt ?_).2.2.1; rw [Int32.lt_iff_toInt_lt]; omega) kz) ?_
      show own_Win p e below s Q kc ks (T.setTop (mkF m 52 #[.val (.ref t), .val (.int sv), .val (.int ev), .val (.int mv), .val (.int av), .val (.int lv), .val (.int hv), .val (.double zp), .second, .val (.int iv), .val (.int jv)] []))
      have hK : ∀ k, k < 18 → FP.Core.DInt (V (σ k)) (O w (σ k)) := fun k hk => hV _ (hok.1 k hk)
      have hI2 := hI
      obtain ⟨b1, b2, b3, b4, -, -, b7, b8, -⟩ := hI2
      obtain ⟨k7, c1, c2, c3⟩ := b7 (by omega)
      obtain ⟨k8, c4, c5, c6⟩ := b8 (by omega)
      refine own_is hw hx hZ hby hml hown FS FQ ha w2 (K := fun k => V (σ k)) hK hp (by omega) 18 i iv T X eT hi1 ⟨k7, c1, c2, by omega, c3⟩ ?_
      intro T1 i1 iv1 X1 e1 hi2 d1 d2 d3 d4
      have hj2 : jv.toInt = ((J - 1 : Nat) : Int) := by omega
      refine own_js hw hx hZ hby hml hown FS FQ ha w2 (K := fun k => V (σ k)) hK hp (lo := lo) 18 (J - 1) jv T1 X1 e1 hj2 (by omega) ⟨k8, c4, by omega, by omega, c6⟩ ?_
      intro T2 j1 jv1 X2 e2 hj3 f1 f2 f3 f4
      have f5 : ∀ k, j1 < k → k < J → pv < V (σ k) := fun k a b => f4 k a (by omega)
      show own_Win p e below s Q kc ks (T2.setTop (mkF m 106 #[.val (.ref t), .val (.int sv), .val (.int ev), .val (.int mv), .val (.int av), .val (.int lv), .val (.int hv), .val (.double zp), .second, .val (.int iv1), .val (.int jv1)] []))
      refine own_st (fun _ kz => XS.iload X2.here hx rfl (hb hby dm_106) rfl kz) ?_
      show own_Win p e below s Q kc ks (T2.setTop (mkF m 108 #[.val (.ref t), .val (.int sv), .val (.int ev), .val (.int mv), .val (.int av), .val (.int lv), .val (.int hv), .val (.double zp), .second, .val (.int iv1), .val (.int jv1)] [(.int iv1)]))
      refine own_st (fun _ kz => XS.iload X2.here hx rfl (hb hby dm_108) rfl kz) ?_
      show own_Win p e below s Q kc ks (T2.setTop (mkF m 110 #[.val (.ref t), .val (.int sv), .val (.int ev), .val (.int mv), .val (.int av), .val (.int lv), .val (.int hv), .val (.double zp), .second, .val (.int iv1), .val (.int jv1)] [(.int jv1), (.int iv1)]))
      by_cases z : j1 < i1
      ·
        refine own_st (fun _ kz => XS.icmpYes X2.here hx rfl (pc0 := 110) (pc' := 45) rfl (hb hby dm_110) rfl (by refine (tlt ?_).2.2.1; rw [Int32.lt_iff_toInt_lt]; omega) (by decide) (by decide) kz) ?_
        show own_Win p e below s Q kc ks (T2.setTop (mkF m 45 #[.val (.ref t), .val (.int sv), .val (.int ev), .val (.int mv), .val (.int av), .val (.int lv), .val (.int hv), .val (.double zp), .second, .val (.int iv1), .val (.int jv1)] []))
        exact ih i1 (j1 + 1) iv1 jv1 T2 h locs σ X2 e2 N FS FI FQ KK hok hi2 (by omega) (by omega) (own_inv1 hI (by omega) d1 d2 d3 d4 (by omega) f2 f3 f5 z) hO cont
      ·
        refine own_st (fun _ kz => XS.icmpNo X2.here hx rfl (hb hby dm_110) rfl (by refine (flt ?_).2.2.1; rw [Int32.lt_iff_toInt_lt]; omega) kz) ?_
        show own_Win p e below s Q kc ks (T2.setTop (mkF m 113 #[.val (.ref t), .val (.int sv), .val (.int ev), .val (.int mv), .val (.int av), .val (.int lv), .val (.int hv), .val (.double zp), .second, .val (.int iv1), .val (.int jv1)] []))
        refine own_st (fun _ kz => XS.aloadN X2.here hx rfl (hb hby dm_113) rfl rfl kz) ?_
        show own_Win p e below s Q kc ks (T2.setTop (mkF m 114 #[.val (.ref t), .val (.int sv), .val (.int ev), .val (.int mv), .val (.int av), .val (.int lv), .val (.int hv), .val (.double zp), .second, .val (.int iv1), .val (.int jv1)] [(.ref t)]))
        refine own_st (fun _ kz => XS.iload X2.here hx rfl (hb hby dm_114) rfl kz) ?_
        show own_Win p e below s Q kc ks (T2.setTop (mkF m 116 #[.val (.ref t), .val (.int sv), .val (.int ev), .val (.int mv), .val (.int av), .val (.int lv), .val (.int hv), .val (.double zp), .second, .val (.int iv1), .val (.int jv1)] [(.int iv1), (.ref t)]))
        refine own_st (fun _ kz => XS.iinc X2.here hx rfl (hb hby dm_116) rfl (l' := #[.val (.ref t), .val (.int sv), .val (.int ev), .val (.int mv), .val (.int av), .val (.int lv), .val (.int hv), .val (.double zp), .second, .val (.int (iv1 + (1 : Int32))), .val (.int jv1)]) rfl kz) ?_
        show own_Win p e below s Q kc ks (T2.setTop (mkF m 119 #[.val (.ref t), .val (.int sv), .val (.int ev), .val (.int mv), .val (.int av), .val (.int lv), .val (.int hv), .val (.double zp), .second, .val (.int (iv1 + (1 : Int32))), .val (.int jv1)] [(.int iv1), (.ref t)]))
        refine own_st (fun _ kz => XS.iload X2.here hx rfl (hb hby dm_119) rfl kz) ?_
        show own_Win p e below s Q kc ks (T2.setTop (mkF m 121 #[.val (.ref t), .val (.int sv), .val (.int ev), .val (.int mv), .val (.int av), .val (.int lv), .val (.int hv), .val (.double zp), .second, .val (.int (iv1 + (1 : Int32))), .val (.int jv1)] [(.int jv1), (.int iv1), (.ref t)]))
        refine own_st (fun _ kz => XS.iinc X2.here hx rfl (hb hby dm_121) rfl (l' := #[.val (.ref t), .val (.int sv), .val (.int ev), .val (.int mv), .val (.int av), .val (.int lv), .val (.int hv), .val (.double zp), .second, .val (.int (iv1 + (1 : Int32))), .val (.int (jv1 + (-1 : Int32)))]) rfl kz) ?_
        show own_Win p e below s Q kc ks (T2.setTop (mkF m 124 #[.val (.ref t), .val (.int sv), .val (.int ev), .val (.int mv), .val (.int av), .val (.int lv), .val (.int hv), .val (.double zp), .second, .val (.int (iv1 + (1 : Int32))), .val (.int (jv1 + (-1 : Int32)))] [(.int jv1), (.int iv1), (.ref t)]))
        refine own_callP X2 hx hZ hown (y := yX) (z0 := yS) (hw _ (List.mem_of_getElem? (i := 56) rfl)) (hw _ (List.mem_of_getElem? (i := 57) rfl)) (hw _ (List.mem_of_getElem? (i := 58) rfl)) (hw _ (List.mem_of_getElem? (i := 59) rfl)) (hw _ (List.mem_of_getElem? (i := 8) rfl)) (hw _ (List.mem_of_getElem? (i := 34) rfl)) rfl (by decide) e2 FS.1 (rmX l Z a0 hw [] t aI aP aF aT aL aH gv iv1 jv1 i1 j1 σ O h n0 (Nat.le_trans q0 (Nat.le_of_lt (own_Av.lt FI))) FS q0 o1 o2 FI FQ hi2 (by omega) hj3 (by omega)) hfr (W := 0) hlo rfl (by rw [hml]; rfl) (argsL := [.int iv1, .int jv1]) (rest := []) (lenOf pdX rfl) rfl (Nat.le_of_eq rfl) (hb hby dm_124) rfl hcl hsl ?_
        intro T3 v3 L3 X3 hQ3
        obtain ⟨h3, e3⟩ : ∃ z, T3.heap = z := ⟨_, rfl⟩
        rw [e3] at hQ3
        obtain ⟨rfl, M3, K3, FI3, FQ3⟩ := hQ3
        have FS3 : own_Fs Z h3 t 2 gv aI aP aF aT aL aH := own_Fs.keep K3 FS (ninS (Nat.ne_of_gt (by omega)) (ninS (Nat.ne_of_gt (by omega)) nin0))
        have KK3 : Keep h0 h3 [aI, aP] := KK.trans K3 (fun x hx => Or.inl hx)
        show own_Win p e below s Q kc ks (T3.setTop (mkF m 127 #[.val (.ref t), .val (.int sv), .val (.int ev), .val (.int mv), .val (.int av), .val (.int lv), .val (.int hv), .val (.double zp), .second, .val (.int (iv1 + (1 : Int32))), .val (.int (jv1 + (-1 : Int32)))] []))
        refine own_st (fun _ kz => XS.goto X3.here hx rfl (pc0 := 127) (pc' := 45) rfl (hb hby dm_127) (by decide) (by decide) kz) ?_
        show own_Win p e below s Q kc ks (T3.setTop (mkF m 45 #[.val (.ref t), .val (.int sv), .val (.int ev), .val (.int mv), .val (.int av), .val (.int lv), .val (.int hv), .val (.double zp), .second, .val (.int (iv1 + (1 : Int32))), .val (.int (jv1 + (-1 : Int32)))] []))
        have g1 : sN ≤ i1 := by omega
        have g2 : i1 < eN := by omega
        have g3 : sN ≤ j1 := by omega
        have g4 : j1 < eN := by omega
        have g5 : i1 < 100 := by omega
        have g6 : j1 ≤ i1 + 1 + n := by omega
        have g7 : i < J := by omega
        have g8 : j1 < J := by omega
        have g9 : i1 ≤ j1 := by omega
        have g10 : lo ≤ i1 := by omega
        have g11 : j1 ≤ hi := by omega
        have g12 : j1 < 100 := by omega
        have hKs : ∀ k, V (own_sw σ i1 j1 k) = if k = i1 then V (σ j1) else if k = j1 then V (σ i1) else V (σ k) := own_key V σ i1 j1
        exact ih (i1 + 1) j1 (iv1 + (1 : Int32)) (jv1 + (-1 : Int32)) T3 h3 _ (own_sw σ i1 j1) X3 e3 (Fr.app N M3) FS3 FI3 FQ3 KK3 (own_ok_sw hok g1 g2 g3 g4 e18) (own_i1 hi2 g5) (own_im hj3 g12) g6 (own_inv2 hKs hI g7 d1 d2 d3 d4 g8 f2 f3 f5 g9) (own_outS hKs hO g10 d2 f2 g11 he sl) cont
set_option maxRecDepth 65536 in
set_option maxHeartbeats 40000000 in
theorem own_ou {p : Program} {l : Launch} {e : Env} {R : Room} {s : State} {m : MethodId} {args : Array Value} {below : List Frame} {meth : Method} {c : Code} {Z : State} {a0 : Array Value} {Q : Option Value → Heap → List Loc → Prop} {kc ks cells slots : Nat} (hw : ∀ d ∈ tables_1, d.before a0 Z = true) (hx : p.tables.exec = Jvm.exec) (hZ : Z.Warmed39 s.vm) (hby : c.code = prog_13_method_5_code) (hml : c.maxLocals = 11) (hown : s.vm.findClass "com/example/skyweave/skyweave/KdTree" = some m.cls) {t aI aP aF aT aL aH : Nat} {gv : Int32} {O : Nat → Nat → UInt64} {w : Nat} {av sv ev mv : Int32}  (ha : av.toInt = (w : Int)) (w2 : w < 2) {V : Nat → Int} (hV : ∀ d, d < 18 → FP.Core.DInt (V d) (O w d)) {n0 sN eN : Nat} {h0 : Heap} (q0 : n0 ≤ aI) (o1 : aI < aP) (o2 : aP < t) (e18 : eN ≤ 18) (hfr : 1 ≤ R.frames) (hlo : 18 ≤ R.locals) (hcl : cells ≤ R.cells) (hsl : slots ≤ R.slots) (hlk : meth.locks = false) (hret : meth.sig.returnType = none) {mid : Nat} (hm : mv.toInt = (mid : Int)) (hck : cells ≤ kc) (hsk : slots ≤ ks) (fin : ∀ (h : Heap) (locs : List Loc) (σ : Nat → Nat), Fr n0 locs → own_Fs Z h t 2 gv aI aP aF aT aL aH → own_Ia Z h aI 18 (own_I σ) → own_Da Z h aP 36 (own_P O σ) → Keep h0 h [aI, aP] → own_ok sN eN σ → own_Part (fun k => V (σ k)) sN eN mid → Q none h locs) : ∀ (n lo hi : Nat) (lv hv : Int32) (s7 s8 s9 s10 : Slot) (T : State) (h : Heap) (locs : List Loc) (σ : Nat → Nat), Stand p l e R s m args below meth c T locs cells slots → T.heap = h → Fr n0 locs → own_Fs Z h t 2 gv aI aP aF aT aL aH → own_Ia Z h aI 18 (own_I σ) → own_Da Z h aP 36 (own_P O σ) → Keep h0 h [aI, aP] → own_ok sN eN σ → ((s7 = .unset ∧ s8 = .unset ∧ s9 = .unset ∧ s10 = .unset) ∨ ∃ z i j, s7 = .val (.double z) ∧ s8 = .second ∧ s9 = .val (.int i) ∧ s10 = .val (.int j)) → lv.toInt = (lo : Int) → hv.toInt = (hi : Int) → hi ≤ lo + n → sN ≤ lo → hi < eN → lo ≤ mid → mid ≤ hi → own_Out (fun k => V (σ k)) sN eN lo hi → own_Win p e below s Q kc ks (T.setTop (mkF m 8 #[.val (.ref t), .val (.int sv), .val (.int ev), .val (.int mv), .val (.int av), .val (.int lv), .val (.int hv), s7, s8, s9, s10] [])) := by
  intro n
  induction n with
  | zero =>
    intro lo hi lv hv s7 s8 s9 s10 T h locs σ X eT N FS FI FQ KK hok hs hl1 hh1 hn sl he ml mh hO
    show own_Win p e below s Q kc ks (T.setTop (mkF m 8 #[.val (.ref t), .val (.int sv), .val (.int ev), .val (.int mv), .val (.int av), .val (.int lv), .val (.int hv), s7, s8, s9, s10] []))
    refine own_st (fun _ kz => XS.iload X.here hx rfl (hb hby dm_8) rfl kz) ?_
    show own_Win p e below s Q kc ks (T.setTop (mkF m 10 #[.val (.ref t), .val (.int sv), .val (.int ev), .val (.int mv), .val (.int av), .val (.int lv), .val (.int hv), s7, s8, s9, s10] [(.int lv)]))
    refine own_st (fun _ kz => XS.iload X.here hx rfl (hb hby dm_10) rfl kz) ?_
    show own_Win p e below s Q kc ks (T.setTop (mkF m 12 #[.val (.ref t), .val (.int sv), .val (.int ev), .val (.int mv), .val (.int av), .val (.int lv), .val (.int hv), s7, s8, s9, s10] [(.int hv), (.int lv)]))
    by_cases q : hi ≤ lo
    ·
      refine own_st (fun _ kz => XS.icmpYes X.here hx rfl (pc0 := 12) (pc' := 160) rfl (hb hby dm_12) rfl (by refine (flt ?_).2.1; rw [Int32.lt_iff_toInt_lt]; omega) (by decide) (by decide) kz) ?_
      show own_Win p e below s Q kc ks (T.setTop (mkF m 160 #[.val (.ref t), .val (.int sv), .val (.int ev), .val (.int mv), .val (.int av), .val (.int lv), .val (.int hv), s7, s8, s9, s10] []))
      refine own_retV X hx hlk hret (hb hby dm_160) ?_ hck hsk
      rw [eT]
      exact fin h locs σ N FS FI FQ KK hok (own_part1 hO q ml mh he sl)
    ·
      omega
  | succ n ih =>
    intro lo hi lv hv s7 s8 s9 s10 T h locs σ X eT N FS FI FQ KK hok hs hl1 hh1 hn sl he ml mh hO
    show own_Win p e below s Q kc ks (T.setTop (mkF m 8 #[.val (.ref t), .val (.int sv), .val (.int ev), .val (.int mv), .val (.int av), .val (.int lv), .val (.int hv), s7, s8, s9, s10] []))
    refine own_st (fun _ kz => XS.iload X.here hx rfl (hb hby dm_8) rfl kz) ?_
    show own_Win p e below s Q kc ks (T.setTop (mkF m 10 #[.val (.ref t), .val (.int sv), .val (.int ev), .val (.int mv), .val (.int av), .val (.int lv), .val (.int hv), s7, s8, s9, s10] [(.int lv)]))
    refine own_st (fun _ kz => XS.iload X.here hx rfl (hb hby dm_10) rfl kz) ?_
    show own_Win p e below s Q kc ks (T.setTop (mkF m 12 #[.val (.ref t), .val (.int sv), .val (.int ev), .val (.int mv), .val (.int av), .val (.int lv), .val (.int hv), s7, s8, s9, s10] [(.int hv), (.int lv)]))
    by_cases q : hi ≤ lo
    ·
      refine own_st (fun _ kz => XS.icmpYes X.here hx rfl (pc0 := 12) (pc' := 160) rfl (hb hby dm_12) rfl (by refine (flt ?_).2.1; rw [Int32.lt_iff_toInt_lt]; omega) (by decide) (by decide) kz) ?_
      show own_Win p e below s Q kc ks (T.setTop (mkF m 160 #[.val (.ref t), .val (.int sv), .val (.int ev), .val (.int mv), .val (.int av), .val (.int lv), .val (.int hv), s7, s8, s9, s10] []))
      refine own_retV X hx hlk hret (hb hby dm_160) ?_ hck hsk
      rw [eT]
      exact fin h locs σ N FS FI FQ KK hok (own_part1 hO q ml mh he sl)
    ·
      refine own_st (fun _ kz => XS.icmpNo X.here hx rfl (hb hby dm_12) rfl (by refine (tlt ?_).2.1; rw [Int32.lt_iff_toInt_lt]; omega) kz) ?_
      show own_Win p e below s Q kc ks (T.setTop (mkF m 15 #[.val (.ref t), .val (.int sv), .val (.int ev), .val (.int mv), .val (.int av), .val (.int lv), .val (.int hv), s7, s8, s9, s10] []))
      have hK : ∀ k, k < 18 → FP.Core.DInt (V (σ k)) (O w (σ k)) := fun k hk => hV _ (hok.1 k hk)
      have hpp := own_mid hl1 hh1 (by omega) (by omega)
      obtain ⟨pp, hppe⟩ : ∃ pp, pp = (lo + hi) / 2 := ⟨_, rfl⟩
      rw [← hppe] at hpp
      refine own_st (fun _ kz => XS.aloadN X.here hx rfl (hb hby dm_15) rfl rfl kz) ?_
      show own_Win p e below s Q kc ks (T.setTop (mkF m 16 #[.val (.ref t), .val (.int sv), .val (.int ev), .val (.int mv), .val (.int av), .val (.int lv), .val (.int hv), s7, s8, s9, s10] [(.ref t)]))
      obtain ⟨T1, X1, e1, st1⟩ := getF X hx hZ hown (host := "") (Or.inl (hw _ (List.mem_of_getElem? (i := 19) rfl))) Via.refl eT FS.2.2.2.1 (g := (mkF m 16 #[.val (.ref t), .val (.int sv), .val (.int ev), .val (.int mv), .val (.int av), .val (.int lv), .val (.int hv), s7, s8, s9, s10] [(.ref t)])) rfl rfl (hb hby dm_16)
      refine own_st st1 ?_
      show own_Win p e below s Q kc ks (T1.setTop (mkF m 19 #[.val (.ref t), .val (.int sv), .val (.int ev), .val (.int mv), .val (.int av), .val (.int lv), .val (.int hv), s7, s8, s9, s10] [(.ref aP)]))
      refine own_st (fun _ kz => XS.iload X1.here hx rfl (hb hby dm_19) rfl kz) ?_
      show own_Win p e below s Q kc ks (T1.setTop (mkF m 21 #[.val (.ref t), .val (.int sv), .val (.int ev), .val (.int mv), .val (.int av), .val (.int lv), .val (.int hv), s7, s8, s9, s10] [(.int lv), (.ref aP)]))
      refine own_st (fun _ kz => XS.iload X1.here hx rfl (hb hby dm_21) rfl kz) ?_
      show own_Win p e below s Q kc ks (T1.setTop (mkF m 23 #[.val (.ref t), .val (.int sv), .val (.int ev), .val (.int mv), .val (.int av), .val (.int lv), .val (.int hv), s7, s8, s9, s10] [(.int hv), (.int lv), (.ref aP)]))
      refine own_st (fun _ kz => XS.iadd X1.here hx rfl (hb hby dm_23) rfl kz) ?_
      show own_Win p e below s Q kc ks (T1.setTop (mkF m 24 #[.val (.ref t), .val (.int sv), .val (.int ev), .val (.int mv), .val (.int av), .val (.int lv), .val (.int hv), s7, s8, s9, s10] [(.int (lv + hv)), (.ref aP)]))
      refine own_st (fun _ kz => XS.iconst X1.here hx rfl (hb hby dm_24) kz) ?_
      show own_Win p e below s Q kc ks (T1.setTop (mkF m 25 #[.val (.ref t), .val (.int sv), .val (.int ev), .val (.int mv), .val (.int av), .val (.int lv), .val (.int hv), s7, s8, s9, s10] [(.int (1 : Int32)), (.int (lv + hv)), (.ref aP)]))
      refine own_st (fun _ kz => XT.iushr X1.here hx rfl (hb hby dm_25) rfl kz) ?_
      show own_Win p e below s Q kc ks (T1.setTop (mkF m 26 #[.val (.ref t), .val (.int sv), .val (.int ev), .val (.int mv), .val (.int av), .val (.int lv), .val (.int hv), s7, s8, s9, s10] [(.int (XT.ushr (lv + hv) (1 : Int32))), (.ref aP)]))
      refine own_st (fun _ kz => XS.aloadN X1.here hx rfl (hb hby dm_26) rfl rfl kz) ?_
      show own_Win p e below s Q kc ks (T1.setTop (mkF m 27 #[.val (.ref t), .val (.int sv), .val (.int ev), .val (.int mv), .val (.int av), .val (.int lv), .val (.int hv), s7, s8, s9, s10] [(.ref t), (.int (XT.ushr (lv + hv) (1 : Int32))), (.ref aP)]))
      obtain ⟨T2, X2, e2, st2⟩ := getF X1 hx hZ hown (host := "") (Or.inl (hw _ (List.mem_of_getElem? (i := 15) rfl))) Via.refl e1 FS.2.1 (g := (mkF m 27 #[.val (.ref t), .val (.int sv), .val (.int ev), .val (.int mv), .val (.int av), .val (.int lv), .val (.int hv), s7, s8, s9, s10] [(.ref t), (.int (XT.ushr (lv + hv) (1 : Int32))), (.ref aP)])) rfl rfl (hb hby dm_27)
      refine own_st st2 ?_
      show own_Win p e below s Q kc ks (T2.setTop (mkF m 30 #[.val (.ref t), .val (.int sv), .val (.int ev), .val (.int mv), .val (.int av), .val (.int lv), .val (.int hv), s7, s8, s9, s10] [(.int (2 : Int32)), (.int (XT.ushr (lv + hv) (1 : Int32))), (.ref aP)]))
      refine own_st (fun _ kz => XS.imul X2.here hx rfl (hb hby dm_30) rfl kz) ?_
      show own_Win p e below s Q kc ks (T2.setTop (mkF m 31 #[.val (.ref t), .val (.int sv), .val (.int ev), .val (.int mv), .val (.int av), .val (.int lv), .val (.int hv), s7, s8, s9, s10] [(.int ((XT.ushr (lv + hv) (1 : Int32)) * (2 : Int32))), (.ref aP)]))
      refine own_st (fun _ kz => XS.iload X2.here hx rfl (hb hby dm_31) rfl kz) ?_
      show own_Win p e below s Q kc ks (T2.setTop (mkF m 33 #[.val (.ref t), .val (.int sv), .val (.int ev), .val (.int mv), .val (.int av), .val (.int lv), .val (.int hv), s7, s8, s9, s10] [(.int av), (.int ((XT.ushr (lv + hv) (1 : Int32)) * (2 : Int32))), (.ref aP)]))
      refine own_st (fun _ kz => XS.iadd X2.here hx rfl (hb hby dm_33) rfl kz) ?_
      show own_Win p e below s Q kc ks (T2.setTop (mkF m 34 #[.val (.ref t), .val (.int sv), .val (.int ev), .val (.int mv), .val (.int av), .val (.int lv), .val (.int hv), s7, s8, s9, s10] [(.int (((XT.ushr (lv + hv) (1 : Int32)) * (2 : Int32)) + av)), (.ref aP)]))
      refine own_daload X2 hx hZ e2 FQ (i := (2 * pp + w)) (own_ix hpp ha (by omega) w2) (by omega) (x := (O w (σ pp))) (own_P_at O σ pp w w2) rfl rfl (hb hby dm_34) ?_
      show own_Win p e below s Q kc ks (T2.setTop (mkF m 35 #[.val (.ref t), .val (.int sv), .val (.int ev), .val (.int mv), .val (.int av), .val (.int lv), .val (.int hv), s7, s8, s9, s10] [(.double (O w (σ pp)))]))
      have hp := hK pp (by omega)
      generalize (O w (σ pp)) = zp at hp ⊢
      show own_Win p e below s Q kc ks (T2.setTop (mkF m 35 #[.val (.ref t), .val (.int sv), .val (.int ev), .val (.int mv), .val (.int av), .val (.int lv), .val (.int hv), s7, s8, s9, s10] [(.double zp)]))
      have goon : own_Win p e below s Q kc ks (T2.setTop (mkF m 45 #[.val (.ref t), .val (.int sv), .val (.int ev), .val (.int mv), .val (.int av), .val (.int lv), .val (.int hv), .val (.double zp), .second, .val (.int lv), .val (.int hv)] [])) := by
        refine own_in hw hx hZ hby hml hown ha w2 hV q0 o1 o2 e18 hfr hlo hcl hsl hp sl he 100 lo (hi + 1) lv hv T2 h locs σ X2 e2 N FS FI FQ KK hok hl1 (by omega) (by omega) (own_inv0 (pp := pp) (by omega) (by omega) rfl) hO ?_
        intro T4 h4 L4 σ4 i4 J4 iv4 jv4 X4 e4 N4 FS4 FI4 FQ4 KK4 hok4 a1 a2 a3 a4 a5
        have a6 := own_invE a4 a3
        have a7 := a4
        obtain ⟨r1, r2, r3, r4, -⟩ := a7
        show own_Win p e below s Q kc ks (T4.setTop (mkF m 130 #[.val (.ref t), .val (.int sv), .val (.int ev), .val (.int mv), .val (.int av), .val (.int lv), .val (.int hv), .val (.double zp), .second, .val (.int iv4), .val (.int jv4)] []))
        refine own_st (fun _ kz => XS.iloadN X4.here hx rfl (hb hby dm_130) rfl kz) ?_
        show own_Win p e below s Q kc ks (T4.setTop (mkF m 131 #[.val (.ref t), .val (.int sv), .val (.int ev), .val (.int mv), .val (.int av), .val (.int lv), .val (.int hv), .val (.double zp), .second, .val (.int iv4), .val (.int jv4)] [(.int mv)]))
        refine own_st (fun _ kz => XS.iload X4.here hx rfl (hb hby dm_131) rfl kz) ?_
        show own_Win p e below s Q kc ks (T4.setTop (mkF m 133 #[.val (.ref t), .val (.int sv), .val (.int ev), .val (.int mv), .val (.int av), .val (.int lv), .val (.int hv), .val (.double zp), .second, .val (.int iv4), .val (.int jv4)] [(.int jv4), (.int mv)]))
        by_cases z : mid < J4
        ·
          refine own_st (fun _ kz => XS.icmpNo X4.here hx rfl (hb hby dm_133) rfl (by refine (flt ?_).2.2.1; rw [Int32.lt_iff_toInt_lt]; omega) kz) ?_
          show own_Win p e below s Q kc ks (T4.setTop (mkF m 136 #[.val (.ref t), .val (.int sv), .val (.int ev), .val (.int mv), .val (.int av), .val (.int lv), .val (.int hv), .val (.double zp), .second, .val (.int iv4), .val (.int jv4)] []))
          refine own_st (fun _ kz => XS.iload X4.here hx rfl (hb hby dm_136) rfl kz) ?_
          show own_Win p e below s Q kc ks (T4.setTop (mkF m 138 #[.val (.ref t), .val (.int sv), .val (.int ev), .val (.int mv), .val (.int av), .val (.int lv), .val (.int hv), .val (.double zp), .second, .val (.int iv4), .val (.int jv4)] [(.int jv4)]))
          refine own_st (fun _ kz => XS.istore X4.here hx rfl (hb hby dm_138) rfl (l' := #[.val (.ref t), .val (.int sv), .val (.int ev), .val (.int mv), .val (.int av), .val (.int lv), .val (.int jv4), .val (.double zp), .second, .val (.int iv4), .val (.int jv4)]) rfl kz) ?_
          show own_Win p e below s Q kc ks (T4.setTop (mkF m 140 #[.val (.ref t), .val (.int sv), .val (.int ev), .val (.int mv), .val (.int av), .val (.int lv), .val (.int jv4), .val (.double zp), .second, .val (.int iv4), .val (.int jv4)] []))
          refine own_st (fun _ kz => XS.goto X4.here hx rfl (pc0 := 140) (pc' := 157) rfl (hb hby dm_140) (by decide) (by decide) kz) ?_
          show own_Win p e below s Q kc ks (T4.setTop (mkF m 157 #[.val (.ref t), .val (.int sv), .val (.int ev), .val (.int mv), .val (.int av), .val (.int lv), .val (.int jv4), .val (.double zp), .second, .val (.int iv4), .val (.int jv4)] []))
          refine own_st (fun _ kz => XS.goto X4.here hx rfl (pc0 := 157) (pc' := 8) rfl (hb hby dm_157) (by decide) (by decide) kz) ?_
          show own_Win p e below s Q kc ks (T4.setTop (mkF m 8 #[.val (.ref t), .val (.int sv), .val (.int ev), .val (.int mv), .val (.int av), .val (.int lv), .val (.int jv4), .val (.double zp), .second, .val (.int iv4), .val (.int jv4)] []))
          have hj5 : jv4.toInt = ((J4 - 1 : Nat) : Int) := by omega
          exact ih lo (J4 - 1) lv jv4 (.val (.double zp)) .second (.val (.int iv4)) (.val (.int jv4)) T4 h4 L4 σ4 X4 e4 N4 FS4 FI4 FQ4 KK4 hok4 (Or.inr ⟨_, _, _, rfl, rfl, rfl, rfl⟩) hl1 hj5 (by omega) sl (by omega) ml (by omega) (own_outH a5 a4 a3 ml z he sl)
        ·
          refine own_st (fun _ kz => XS.icmpYes X4.here hx rfl (pc0 := 133) (pc' := 143) rfl (hb hby dm_133) rfl (by refine (tlt ?_).2.2.1; rw [Int32.lt_iff_toInt_lt]; omega) (by decide) (by decide) kz) ?_
          show own_Win p e below s Q kc ks (T4.setTop (mkF m 143 #[.val (.ref t), .val (.int sv), .val (.int ev), .val (.int mv), .val (.int av), .val (.int lv), .val (.int hv), .val (.double zp), .second, .val (.int iv4), .val (.int jv4)] []))
          refine own_st (fun _ kz => XS.iloadN X4.here hx rfl (hb hby dm_143) rfl kz) ?_
          show own_Win p e below s Q kc ks (T4.setTop (mkF m 144 #[.val (.ref t), .val (.int sv), .val (.int ev), .val (.int mv), .val (.int av), .val (.int lv), .val (.int hv), .val (.double zp), .second, .val (.int iv4), .val (.int jv4)] [(.int mv)]))
          refine own_st (fun _ kz => XS.iload X4.here hx rfl (hb hby dm_144) rfl kz) ?_
          show own_Win p e below s Q kc ks (T4.setTop (mkF m 146 #[.val (.ref t), .val (.int sv), .val (.int ev), .val (.int mv), .val (.int av), .val (.int lv), .val (.int hv), .val (.double zp), .second, .val (.int iv4), .val (.int jv4)] [(.int iv4), (.int mv)]))
          by_cases y : mid < i4
          ·
            refine own_st (fun _ kz => XS.icmpYes X4.here hx rfl (pc0 := 146) (pc' := 156) rfl (hb hby dm_146) rfl (by refine (tlt ?_).1; rw [Int32.lt_iff_toInt_lt]; omega) (by decide) (by decide) kz) ?_
            show own_Win p e below s Q kc ks (T4.setTop (mkF m 156 #[.val (.ref t), .val (.int sv), .val (.int ev), .val (.int mv), .val (.int av), .val (.int lv), .val (.int hv), .val (.double zp), .second, .val (.int iv4), .val (.int jv4)] []))
            refine own_retV X4 hx hlk hret (hb hby dm_156) ?_ hck hsk
            rw [e4]
            exact fin h4 L4 σ4 N4 FS4 FI4 FQ4 KK4 hok4 (own_part2 a5 a4 ml mh (by omega) y he sl)
          ·
            refine own_st (fun _ kz => XS.icmpNo X4.here hx rfl (hb hby dm_146) rfl (by refine (flt ?_).1; rw [Int32.lt_iff_toInt_lt]; omega) kz) ?_
            show own_Win p e below s Q kc ks (T4.setTop (mkF m 149 #[.val (.ref t), .val (.int sv), .val (.int ev), .val (.int mv), .val (.int av), .val (.int lv), .val (.int hv), .val (.double zp), .second, .val (.int iv4), .val (.int jv4)] []))
            refine own_st (fun _ kz => XS.iload X4.here hx rfl (hb hby dm_149) rfl kz) ?_
            show own_Win p e below s Q kc ks (T4.setTop (mkF m 151 #[.val (.ref t), .val (.int sv), .val (.int ev), .val (.int mv), .val (.int av), .val (.int lv), .val (.int hv), .val (.double zp), .second, .val (.int iv4), .val (.int jv4)] [(.int iv4)]))
            refine own_st (fun _ kz => XS.istore X4.here hx rfl (hb hby dm_151) rfl (l' := #[.val (.ref t), .val (.int sv), .val (.int ev), .val (.int mv), .val (.int av), .val (.int iv4), .val (.int hv), .val (.double zp), .second, .val (.int iv4), .val (.int jv4)]) rfl kz) ?_
            show own_Win p e below s Q kc ks (T4.setTop (mkF m 153 #[.val (.ref t), .val (.int sv), .val (.int ev), .val (.int mv), .val (.int av), .val (.int iv4), .val (.int hv), .val (.double zp), .second, .val (.int iv4), .val (.int jv4)] []))
            refine own_st (fun _ kz => XS.goto X4.here hx rfl (pc0 := 153) (pc' := 157) rfl (hb hby dm_153) (by decide) (by decide) kz) ?_
            show own_Win p e below s Q kc ks (T4.setTop (mkF m 157 #[.val (.ref t), .val (.int sv), .val (.int ev), .val (.int mv), .val (.int av), .val (.int iv4), .val (.int hv), .val (.double zp), .second, .val (.int iv4), .val (.int jv4)] []))
            refine own_st (fun _ kz => XS.goto X4.here hx rfl (pc0 := 157) (pc' := 8) rfl (hb hby dm_157) (by decide) (by decide) kz) ?_
            show own_Win p e below s Q kc ks (T4.setTop (mkF m 8 #[.val (.ref t), .val (.int sv), .val (.int ev), .val (.int mv), .val (.int av), .val (.int iv4), .val (.int hv), .val (.double zp), .second, .val (.int iv4), .val (.int jv4)] []))
            exact ih i4 hi iv4 hv (.val (.double zp)) .second (.val (.int iv4)) (.val (.int jv4)) T4 h4 L4 σ4 X4 e4 N4 FS4 FI4 FQ4 KK4 hok4 (Or.inr ⟨_, _, _, rfl, rfl, rfl, rfl⟩) a1 hh1 (by omega) (by omega) he (by omega) mh (own_outL a5 a4 a3 (by omega) mh he sl)
      rcases hs with ⟨rfl, rfl, rfl, rfl⟩ | ⟨z, i, j, rfl, rfl, rfl, rfl⟩
      ·
        show own_Win p e below s Q kc ks (T2.setTop (mkF m 35 #[.val (.ref t), .val (.int sv), .val (.int ev), .val (.int mv), .val (.int av), .val (.int lv), .val (.int hv), .unset, .unset, .unset, .unset] [(.double zp)]))
        refine own_st (fun _ kz => XS.dstore X2.here hx rfl (hb hby dm_35) rfl (l' := #[.val (.ref t), .val (.int sv), .val (.int ev), .val (.int mv), .val (.int av), .val (.int lv), .val (.int hv), .val (.double zp), .second, .unset, .unset]) rfl kz) ?_
        show own_Win p e below s Q kc ks (T2.setTop (mkF m 37 #[.val (.ref t), .val (.int sv), .val (.int ev), .val (.int mv), .val (.int av), .val (.int lv), .val (.int hv), .val (.double zp), .second, .unset, .unset] []))
        refine own_st (fun _ kz => XS.iload X2.here hx rfl (hb hby dm_37) rfl kz) ?_
        show own_Win p e below s Q kc ks (T2.setTop (mkF m 39 #[.val (.ref t), .val (.int sv), .val (.int ev), .val (.int mv), .val (.int av), .val (.int lv), .val (.int hv), .val (.double zp), .second, .unset, .unset] [(.int lv)]))
        refine own_st (fun _ kz => XS.istore X2.here hx rfl (hb hby dm_39) rfl (l' := #[.val (.ref t), .val (.int sv), .val (.int ev), .val (.int mv), .val (.int av), .val (.int lv), .val (.int hv), .val (.double zp), .second, .val (.int lv), .unset]) rfl kz) ?_
        show own_Win p e below s Q kc ks (T2.setTop (mkF m 41 #[.val (.ref t), .val (.int sv), .val (.int ev), .val (.int mv), .val (.int av), .val (.int lv), .val (.int hv), .val (.double zp), .second, .val (.int lv), .unset] []))
        refine own_st (fun _ kz => XS.iload X2.here hx rfl (hb hby dm_41) rfl kz) ?_
        show own_Win p e below s Q kc ks (T2.setTop (mkF m 43 #[.val (.ref t), .val (.int sv), .val (.int ev), .val (.int mv), .val (.int av), .val (.int lv), .val (.int hv), .val (.double zp), .second, .val (.int lv), .unset] [(.int hv)]))
        refine own_st (fun _ kz => XS.istore X2.here hx rfl (hb hby dm_43) rfl (l' := #[.val (.ref t), .val (.int sv), .val (.int ev), .val (.int mv), .val (.int av), .val (.int lv), .val (.int hv), .val (.double zp), .second, .val (.int lv), .val (.int hv)]) rfl kz) ?_
        show own_Win p e below s Q kc ks (T2.setTop (mkF m 45 #[.val (.ref t), .val (.int sv), .val (.int ev), .val (.int mv), .val (.int av), .val (.int lv), .val (.int hv), .val (.double zp), .second, .val (.int lv), .val (.int hv)] []))
        exact goon
      ·
        show own_Win p e below s Q kc ks (T2.setTop (mkF m 35 #[.val (.ref t), .val (.int sv), .val (.int ev), .val (.int mv), .val (.int av), .val (.int lv), .val (.int hv), .val (.double z), .second, .val (.int i), .val (.int j)] [(.double zp)]))
        refine own_st (fun _ kz => XS.dstore X2.here hx rfl (hb hby dm_35) rfl (l' := #[.val (.ref t), .val (.int sv), .val (.int ev), .val (.int mv), .val (.int av), .val (.int lv), .val (.int hv), .val (.double zp), .second, .val (.int i), .val (.int j)]) rfl kz) ?_
        show own_Win p e below s Q kc ks (T2.setTop (mkF m 37 #[.val (.ref t), .val (.int sv), .val (.int ev), .val (.int mv), .val (.int av), .val (.int lv), .val (.int hv), .val (.double zp), .second, .val (.int i), .val (.int j)] []))
        refine own_st (fun _ kz => XS.iload X2.here hx rfl (hb hby dm_37) rfl kz) ?_
        show own_Win p e below s Q kc ks (T2.setTop (mkF m 39 #[.val (.ref t), .val (.int sv), .val (.int ev), .val (.int mv), .val (.int av), .val (.int lv), .val (.int hv), .val (.double zp), .second, .val (.int i), .val (.int j)] [(.int lv)]))
        refine own_st (fun _ kz => XS.istore X2.here hx rfl (hb hby dm_39) rfl (l' := #[.val (.ref t), .val (.int sv), .val (.int ev), .val (.int mv), .val (.int av), .val (.int lv), .val (.int hv), .val (.double zp), .second, .val (.int lv), .val (.int j)]) rfl kz) ?_
        show own_Win p e below s Q kc ks (T2.setTop (mkF m 41 #[.val (.ref t), .val (.int sv), .val (.int ev), .val (.int mv), .val (.int av), .val (.int lv), .val (.int hv), .val (.double zp), .second, .val (.int lv), .val (.int j)] []))
        refine own_st (fun _ kz => XS.iload X2.here hx rfl (hb hby dm_41) rfl kz) ?_
        show own_Win p e below s Q kc ks (T2.setTop (mkF m 43 #[.val (.ref t), .val (.int sv), .val (.int ev), .val (.int mv), .val (.int av), .val (.int lv), .val (.int hv), .val (.double zp), .second, .val (.int lv), .val (.int j)] [(.int hv)]))
        refine own_st (fun _ kz => XS.istore X2.here hx rfl (hb hby dm_43) rfl (l' := #[.val (.ref t), .val (.int sv), .val (.int ev), .val (.int mv), .val (.int av), .val (.int lv), .val (.int hv), .val (.double zp), .second, .val (.int lv), .val (.int hv)]) rfl kz) ?_
        show own_Win p e below s Q kc ks (T2.setTop (mkF m 45 #[.val (.ref t), .val (.int sv), .val (.int ev), .val (.int mv), .val (.int av), .val (.int lv), .val (.int hv), .val (.double zp), .second, .val (.int lv), .val (.int hv)] []))
        exact goon
def Q_rmM (Z : State) (t aI aP aF aT aL aH : Nat) (gv sv ev mv av : Int32) (sN eN mid w : Nat) (σ : Nat → Nat) (O : Nat → Nat → UInt64) (V : Nat → Int) (h0 : Heap) (n0 : Nat) : Option Value → Heap → List Loc → Prop := fun v h L => v = none ∧ Fr n0 L ∧ Keep h0 h [aI, aP] ∧ ∃ σ' : Nat → Nat, own_Ia Z h aI 18 (own_I σ') ∧ own_Da Z h aP 36 (own_P O σ') ∧ own_ok sN eN σ' ∧ own_Part (fun k => V (σ' k)) sN eN mid
set_option maxRecDepth 65536 in
set_option maxHeartbeats 40000000 in
theorem rmM (l : Launch) (Z : State) (a0 : Array Value) (hw : ∀ d ∈ tables_1, d.before a0 Z = true) (ws : List Jvm.Cond) (t aI aP aF aT aL aH : Nat) (gv sv ev mv av : Int32) (sN eN mid w : Nat) (σ : Nat → Nat) (O : Nat → Nat → UInt64) (V : Nat → Int) (h0 : Heap) (n0 : Nat) (Z0 : n0 ≤ h0.size) (FS : own_Fs Z h0 t 2 gv aI aP aF aT aL aH) (q0 : n0 ≤ aI) (o1 : aI < aP) (o2 : aP < t) (FI : own_Ia Z h0 aI 18 (own_I σ)) (FQ : own_Da Z h0 aP 36 (own_P O σ)) (ha : av.toInt = (w : Int)) (w2 : w < 2) (hV : ∀ d, d < 18 → FP.Core.DInt (V d) (O w d)) (hok : own_ok sN eN σ) (hs1 : sv.toInt = (sN : Int)) (he1 : ev.toInt = (eN : Int)) (hm1 : mv.toInt = (mid : Int)) (e18 : eN ≤ 18) (sm : sN ≤ mid) (me : mid < eN) :
    MetFree l yM (head1 (Jvm.Cond.code yM prog_13_method_5_code 11 none :: ws) ({ frames := 1, cells := 0, slots := 0, locals := 18 } : Room)) (fun az Uz => az = #[(.ref t), (.int sv), (.int ev), (.int mv), (.int av)] ∧ Z.Warmed39 Uz.vm ∧ Uz.heap = h0) (fun _ _ _ _ _ => True) (fun _ Uz oz Vz => ∃ vz Lz, oz = .returned vz ∧ (Q_rmM Z t aI aP aF aT aL aH gv sv ev mv av sN eN mid w σ O V h0 n0) vz Vz.heap Lz ∧ FrameEnd Uz oz Vz Lz ({ frames := 1, cells := 0, slots := 0, locals := 18 } : Room).cells ({ frames := 1, cells := 0, slots := 0, locals := 18 } : Room).slots) := by
  refine MetFree.of_bodySF (plainFor_of_name pnK) hisR ?_
  intro p e s m args below meth c s₁ Bd hml0 hP hK
  obtain ⟨rfl, hZ, hh⟩ := hP
  have hx := Bd.exec
  have hby := Bd.bytes
  have hlk := BodyLoose.notSynchronized Bd
  have hml : c.maxLocals = 11 := hml0
  have hown : s.vm.findClass "com/example/skyweave/skyweave/KdTree" = some m.cls := findClass_of_methodNamed Bd.named
  have hnm := (name_of_methodNamed Bd.named Bd.method).1
  have X0 : Stand p l e ({ frames := 1, cells := 0, slots := 0, locals := 18 } : Room) s m #[(.ref t), (.int sv), (.int ev), (.int mv), (.int av)] below meth c s₁ [] 0 0 := Stand.of_body Bd
  have e0 : s₁.heap = h0 := by rw [← hh, Bd.state]; rfl
  have N0 := Fr.nil n0
  show own_Win p e below s (Q_rmM Z t aI aP aF aT aL aH gv sv ev mv av sN eN mid w σ O V h0 n0) _ _ _
  refine own_st (fun tz kz => castTop (efM m t sv ev mv av) kz) ?_
  show own_Win p e below s _ _ _ (s₁.setTop (mkF m 0 #[.val (.ref t), .val (.int sv), .val (.int ev), .val (.int mv), .val (.int av), .unset, .unset, .unset, .unset, .unset, .unset] []))
  refine own_st (fun _ kz => XS.iloadN X0.here hx rfl (hb hby dm_0) rfl kz) ?_
  show own_Win p e below s _ _ _ (s₁.setTop (mkF m 1 #[.val (.ref t), .val (.int sv), .val (.int ev), .val (.int mv), .val (.int av), .unset, .unset, .unset, .unset, .unset, .unset] [(.int sv)]))
  refine own_st (fun _ kz => XS.istore X0.here hx rfl (hb hby dm_1) rfl (l' := #[.val (.ref t), .val (.int sv), .val (.int ev), .val (.int mv), .val (.int av), .val (.int sv), .unset, .unset, .unset, .unset, .unset]) rfl kz) ?_
  show own_Win p e below s _ _ _ (s₁.setTop (mkF m 3 #[.val (.ref t), .val (.int sv), .val (.int ev), .val (.int mv), .val (.int av), .val (.int sv), .unset, .unset, .unset, .unset, .unset] []))
  refine own_st (fun _ kz => XS.iloadN X0.here hx rfl (hb hby dm_3) rfl kz) ?_
  show own_Win p e below s _ _ _ (s₁.setTop (mkF m 4 #[.val (.ref t), .val (.int sv), .val (.int ev), .val (.int mv), .val (.int av), .val (.int sv), .unset, .unset, .unset, .unset, .unset] [(.int ev)]))
  refine own_st (fun _ kz => XS.iconst X0.here hx rfl (hb hby dm_4) kz) ?_
  show own_Win p e below s _ _ _ (s₁.setTop (mkF m 5 #[.val (.ref t), .val (.int sv), .val (.int ev), .val (.int mv), .val (.int av), .val (.int sv), .unset, .unset, .unset, .unset, .unset] [(.int (1 : Int32)), (.int ev)]))
  refine own_st (fun _ kz => XS.isub X0.here hx rfl (hb hby dm_5) rfl kz) ?_
  show own_Win p e below s _ _ _ (s₁.setTop (mkF m 6 #[.val (.ref t), .val (.int sv), .val (.int ev), .val (.int mv), .val (.int av), .val (.int sv), .unset, .unset, .unset, .unset, .unset] [(.int (ev - (1 : Int32)))]))
  refine own_st (fun _ kz => XS.istore X0.here hx rfl (hb hby dm_6) rfl (l' := #[.val (.ref t), .val (.int sv), .val (.int ev), .val (.int mv), .val (.int av), .val (.int sv), .val (.int (ev - (1 : Int32))), .unset, .unset, .unset, .unset]) rfl kz) ?_
  show own_Win p e below s _ _ _ (s₁.setTop (mkF m 8 #[.val (.ref t), .val (.int sv), .val (.int ev), .val (.int mv), .val (.int av), .val (.int sv), .val (.int (ev - (1 : Int32))), .unset, .unset, .unset, .unset] []))
  have hh1 : (ev - (1 : Int32)).toInt = ((eN - 1 : Nat) : Int) := by
    have := c_isub ev 1
    have := rng32 (ev - 1)
    have : (1 : Int32).toInt = 1 := rfl
    omega
  exact own_ou hw hx hZ hby hml hown ha w2 hV q0 o1 o2 e18 (by decide) (by decide) (by decide) (by decide) hlk Bd.returns hm1 (Nat.le_refl _) (Nat.le_refl _) (fun h locs σ1 N1 FS1 FI1 FQ1 KK1 hok1 P1 => ⟨rfl, N1, KK1, σ1, FI1, FQ1, hok1, P1⟩) 100 sN (eN - 1) sv (ev - (1 : Int32)) .unset .unset .unset .unset s₁ h0 [] σ X0 e0 N0 FS FI FQ (Keep.refl _ _) hok (Or.inl ⟨rfl, rfl, rfl, rfl⟩) hs1 hh1 (by omega) (Nat.le_refl _) (by omega) sm (by omega) ⟨fun k k' c1 c2 => by omega, fun k k' c1 c2 => by omega⟩
def Q_rmLf (Z : State) (t aI aP aF aT aL aH aLo aHi aSp : Nat) (wv gv sv ev : Int32) (g : Nat) (fF fT fL fH : Nat → Int32) (h0 : Heap) (n0 : Nat) : Option Value → Heap → List Loc → Prop := fun v h L => v = some (.int gv) ∧ Fr n0 L ∧ Keep h0 h [t, aF, aT, aL, aH] ∧ own_Fs Z h t wv (gv + 1) aI aP aF aT aL aH ∧ own_Ia Z h aF 6 (own_up fF g sv) ∧ own_Ia Z h aT 6 (own_up fT g ev) ∧ own_Ia Z h aL 6 (own_up fL g (-1)) ∧ own_Ia Z h aH 6 (own_up fH g (-1))
set_option maxRecDepth 65536 in
set_option maxHeartbeats 40000000 in
theorem rmLf (l : Launch) (Z : State) (a0 : Array Value) (hw : ∀ d ∈ tables_1, d.before a0 Z = true) (ws : List Jvm.Cond) (t aI aP aF aT aL aH aLo aHi aSp : Nat) (wv gv sv ev : Int32) (g : Nat) (fF fT fL fH : Nat → Int32) (h0 : Heap) (n0 : Nat) (Z0 : n0 ≤ h0.size) (FS : own_Fs Z h0 t wv gv aI aP aF aT aL aH) (q0 : n0 ≤ t) (o3 : t < aF) (o4 : aF < aT) (o5 : aT < aL) (o6 : aL < aH) (F_F : own_Ia Z h0 aF 6 fF) (F_U : own_Ia Z h0 aT 6 fT) (F_L : own_Ia Z h0 aL 6 fL) (F_H : own_Ia Z h0 aH 6 fH) (hg : gv.toInt = (g : Int)) (g6 : g < 6) (hc : ¬ (16 : Int32) < ev - sv ∨ wv = 0) :
    MetFree l yS (head1 (Jvm.Cond.code yS prog_13_method_3_code 15 (some .int) :: ws) ({ frames := 0, cells := 0, slots := 0, locals := 0 } : Room)) (fun az Uz => az = #[(.ref t), (.int sv), (.int ev), (.ref aLo), (.ref aHi), (.ref aSp)] ∧ Z.Warmed39 Uz.vm ∧ Uz.heap = h0) (fun _ _ _ _ _ => True) (fun _ Uz oz Vz => ∃ vz Lz, oz = .returned vz ∧ (Q_rmLf Z t aI aP aF aT aL aH aLo aHi aSp wv gv sv ev g fF fT fL fH h0 n0) vz Vz.heap Lz ∧ FrameEnd Uz oz Vz Lz ({ frames := 0, cells := 0, slots := 0, locals := 0 } : Room).cells ({ frames := 0, cells := 0, slots := 0, locals := 0 } : Room).slots) := by
  refine MetFree.of_bodySF (plainFor_of_name pnK) hisR ?_
  intro p e s m args below meth c s₁ Bd hml0 hP hK
  obtain ⟨rfl, hZ, hh⟩ := hP
  have hx := Bd.exec
  have hby := Bd.bytes
  have hlk := BodyLoose.notSynchronized Bd
  have hml : c.maxLocals = 15 := hml0
  have hown : s.vm.findClass "com/example/skyweave/skyweave/KdTree" = some m.cls := findClass_of_methodNamed Bd.named
  have hnm := (name_of_methodNamed Bd.named Bd.method).1
  have X0 : Stand p l e ({ frames := 0, cells := 0, slots := 0, locals := 0 } : Room) s m #[(.ref t), (.int sv), (.int ev), (.ref aLo), (.ref aHi), (.ref aSp)] below meth c s₁ [] 0 0 := Stand.of_body Bd
  have e0 : s₁.heap = h0 := by rw [← hh, Bd.state]; rfl
  have N0 := Fr.nil n0
  show own_Win p e below s (Q_rmLf Z t aI aP aF aT aL aH aLo aHi aSp wv gv sv ev g fF fT fL fH h0 n0) _ _ _
  refine own_st (fun tz kz => castTop (efS m t sv ev aLo aHi aSp) kz) ?_
  show own_Win p e below s _ _ _ (s₁.setTop (mkF m 0 #[.val (.ref t), .val (.int sv), .val (.int ev), .val (.ref aLo), .val (.ref aHi), .val (.ref aSp), .unset, .unset, .unset, .unset, .unset, .unset, .unset, .unset, .unset] []))
  refine own_st (fun _ kz => XS.aloadN X0.here hx rfl (hb hby ds_0) rfl rfl kz) ?_
  show own_Win p e below s _ _ _ (s₁.setTop (mkF m 1 #[.val (.ref t), .val (.int sv), .val (.int ev), .val (.ref aLo), .val (.ref aHi), .val (.ref aSp), .unset, .unset, .unset, .unset, .unset, .unset, .unset, .unset, .unset] [(.ref t)]))
  refine own_st (fun _ kz => XS.dup X0.here hx rfl (hb hby ds_1) rfl rfl kz) ?_
  show own_Win p e below s _ _ _ (s₁.setTop (mkF m 2 #[.val (.ref t), .val (.int sv), .val (.int ev), .val (.ref aLo), .val (.ref aHi), .val (.ref aSp), .unset, .unset, .unset, .unset, .unset, .unset, .unset, .unset, .unset] [(.ref t), (.ref t)]))
  obtain ⟨T1, X1, e1, st1⟩ := getF X0 hx hZ hown (host := "") (Or.inl (hw _ (List.mem_of_getElem? (i := 36) rfl))) Via.refl e0 FS.2.2.2.2.2.2.2.2 (g := (mkF m 2 #[.val (.ref t), .val (.int sv), .val (.int ev), .val (.ref aLo), .val (.ref aHi), .val (.ref aSp), .unset, .unset, .unset, .unset, .unset, .unset, .unset, .unset, .unset] [(.ref t), (.ref t)])) rfl rfl (hb hby ds_2)
  refine own_st st1 ?_
  show own_Win p e below s _ _ _ (T1.setTop (mkF m 5 #[.val (.ref t), .val (.int sv), .val (.int ev), .val (.ref aLo), .val (.ref aHi), .val (.ref aSp), .unset, .unset, .unset, .unset, .unset, .unset, .unset, .unset, .unset] [(.int gv), (.ref t)]))
  refine own_st (fun _ kz => XT.dupX1 X1.here hx rfl (hb hby ds_5) rfl rfl rfl kz) ?_
  show own_Win p e below s _ _ _ (T1.setTop (mkF m 6 #[.val (.ref t), .val (.int sv), .val (.int ev), .val (.ref aLo), .val (.ref aHi), .val (.ref aSp), .unset, .unset, .unset, .unset, .unset, .unset, .unset, .unset, .unset] [(.int gv), (.ref t), (.int gv)]))
  refine own_st (fun _ kz => XS.iconst X1.here hx rfl (hb hby ds_6) kz) ?_
  show own_Win p e below s _ _ _ (T1.setTop (mkF m 7 #[.val (.ref t), .val (.int sv), .val (.int ev), .val (.ref aLo), .val (.ref aHi), .val (.ref aSp), .unset, .unset, .unset, .unset, .unset, .unset, .unset, .unset, .unset] [(.int (1 : Int32)), (.int gv), (.ref t), (.int gv)]))
  refine own_st (fun _ kz => XS.iadd X1.here hx rfl (hb hby ds_7) rfl kz) ?_
  show own_Win p e below s _ _ _ (T1.setTop (mkF m 8 #[.val (.ref t), .val (.int sv), .val (.int ev), .val (.ref aLo), .val (.ref aHi), .val (.ref aSp), .unset, .unset, .unset, .unset, .unset, .unset, .unset, .unset, .unset] [(.int (gv + (1 : Int32))), (.ref t), (.int gv)]))
  obtain ⟨T2, h2, X2, e2, W2, st2⟩ := putF X1 hx hZ hown (host := "") (Or.inl (hw _ (List.mem_of_getElem? (i := 36) rfl))) Via.refl e1 FS.2.2.2.2.2.2.2.2 FS.1 (Or.inl (hw _ (List.mem_of_getElem? (i := 37) rfl))) (hw _ (List.mem_of_getElem? (i := 7) rfl)) (ty := .int) (by decide) rfl rfl (g := (mkF m 8 #[.val (.ref t), .val (.int sv), .val (.int ev), .val (.ref aLo), .val (.ref aHi), .val (.ref aSp), .unset, .unset, .unset, .unset, .unset, .unset, .unset, .unset, .unset] [(.int (gv + (1 : Int32))), (.ref t), (.int gv)])) rfl rfl (hb hby ds_8)
  refine own_st st2 ?_
  have N2 := Fr.snoc X2 N0 (show n0 ≤ t by omega)
  have Z2 : n0 ≤ h2.size := by rw [Wr.size W2]; exact Z0
  have c_T_h2 : own_Fs Z h2 t wv (gv + (1 : Int32)) aI aP aF aT aL aH := own_Fs.put hw W2 FS
  have c_F_h2 : own_Ia Z h2 aF 6 fF := own_Av.other W2 F_F (Nat.ne_of_gt (by omega))
  have c_U_h2 : own_Ia Z h2 aT 6 fT := own_Av.other W2 F_U (Nat.ne_of_gt (by omega))
  have c_L_h2 : own_Ia Z h2 aL 6 fL := own_Av.other W2 F_L (Nat.ne_of_gt (by omega))
  have c_H_h2 : own_Ia Z h2 aH 6 fH := own_Av.other W2 F_H (Nat.ne_of_gt (by omega))
  show own_Win p e below s _ _ _ (T2.setTop (mkF m 11 #[.val (.ref t), .val (.int sv), .val (.int ev), .val (.ref aLo), .val (.ref aHi), .val (.ref aSp), .unset, .unset, .unset, .unset, .unset, .unset, .unset, .unset, .unset] [(.int gv)]))
  refine own_st (fun _ kz => XS.istore X2.here hx rfl (hb hby ds_11) rfl (l' := #[.val (.ref t), .val (.int sv), .val (.int ev), .val (.ref aLo), .val (.ref aHi), .val (.ref aSp), .val (.int gv), .unset, .unset, .unset, .unset, .unset, .unset, .unset, .unset]) rfl kz) ?_
  show own_Win p e below s _ _ _ (T2.setTop (mkF m 13 #[.val (.ref t), .val (.int sv), .val (.int ev), .val (.ref aLo), .val (.ref aHi), .val (.ref aSp), .val (.int gv), .unset, .unset, .unset, .unset, .unset, .unset, .unset, .unset] []))
  refine own_st (fun _ kz => XS.aloadN X2.here hx rfl (hb hby ds_13) rfl rfl kz) ?_
  show own_Win p e below s _ _ _ (T2.setTop (mkF m 14 #[.val (.ref t), .val (.int sv), .val (.int ev), .val (.ref aLo), .val (.ref aHi), .val (.ref aSp), .val (.int gv), .unset, .unset, .unset, .unset, .unset, .unset, .unset, .unset] [(.ref t)]))
  obtain ⟨T3, X3, e3, st3⟩ := getF X2 hx hZ hown (host := "") (Or.inl (hw _ (List.mem_of_getElem? (i := 21) rfl))) Via.refl e2 c_T_h2.2.2.2.2.1 (g := (mkF m 14 #[.val (.ref t), .val (.int sv), .val (.int ev), .val (.ref aLo), .val (.ref aHi), .val (.ref aSp), .val (.int gv), .unset, .unset, .unset, .unset, .unset, .unset, .unset, .unset] [(.ref t)])) rfl rfl (hb hby ds_14)
  refine own_st st3 ?_
  show own_Win p e below s _ _ _ (T3.setTop (mkF m 17 #[.val (.ref t), .val (.int sv), .val (.int ev), .val (.ref aLo), .val (.ref aHi), .val (.ref aSp), .val (.int gv), .unset, .unset, .unset, .unset, .unset, .unset, .unset, .unset] [(.ref aF)]))
  refine own_st (fun _ kz => XS.iload X3.here hx rfl (hb hby ds_17) rfl kz) ?_
  show own_Win p e below s _ _ _ (T3.setTop (mkF m 19 #[.val (.ref t), .val (.int sv), .val (.int ev), .val (.ref aLo), .val (.ref aHi), .val (.ref aSp), .val (.int gv), .unset, .unset, .unset, .unset, .unset, .unset, .unset, .unset] [(.int gv), (.ref aF)]))
  refine own_st (fun _ kz => XS.iloadN X3.here hx rfl (hb hby ds_19) rfl kz) ?_
  show own_Win p e below s _ _ _ (T3.setTop (mkF m 20 #[.val (.ref t), .val (.int sv), .val (.int ev), .val (.ref aLo), .val (.ref aHi), .val (.ref aSp), .val (.int gv), .unset, .unset, .unset, .unset, .unset, .unset, .unset, .unset] [(.int sv), (.int gv), (.ref aF)]))
  refine own_iastore X3 hx hZ e3 c_F_h2 (i := g) hg g6 N2 (by omega) rfl rfl (hb hby ds_20) ?_
  intro T4 h4 L4 X4 e4 N4 W4 F4
  show own_Win p e below s _ _ _ (T4.setTop (mkF m 21 #[.val (.ref t), .val (.int sv), .val (.int ev), .val (.ref aLo), .val (.ref aHi), .val (.ref aSp), .val (.int gv), .unset, .unset, .unset, .unset, .unset, .unset, .unset, .unset] []))
  have Z4 : n0 ≤ h4.size := by rw [Wr.size W4]; exact Z2
  have c_T_h4 : own_Fs Z h4 t wv (gv + (1 : Int32)) aI aP aF aT aL aH := own_Fs.other W4 c_T_h2 (Nat.ne_of_lt (by omega))
  have c_U_h4 : own_Ia Z h4 aT 6 fT := own_Av.other W4 c_U_h2 (Nat.ne_of_gt (by omega))
  have c_L_h4 : own_Ia Z h4 aL 6 fL := own_Av.other W4 c_L_h2 (Nat.ne_of_gt (by omega))
  have c_H_h4 : own_Ia Z h4 aH 6 fH := own_Av.other W4 c_H_h2 (Nat.ne_of_gt (by omega))
  refine own_st (fun _ kz => XS.aloadN X4.here hx rfl (hb hby ds_21) rfl rfl kz) ?_
  show own_Win p e below s _ _ _ (T4.setTop (mkF m 22 #[.val (.ref t), .val (.int sv), .val (.int ev), .val (.ref aLo), .val (.ref aHi), .val (.ref aSp), .val (.int gv), .unset, .unset, .unset, .unset, .unset, .unset, .unset, .unset] [(.ref t)]))
  obtain ⟨T5, X5, e5, st5⟩ := getF X4 hx hZ hown (host := "") (Or.inl (hw _ (List.mem_of_getElem? (i := 23) rfl))) Via.refl e4 c_T_h4.2.2.2.2.2.1 (g := (mkF m 22 #[.val (.ref t), .val (.int sv), .val (.int ev), .val (.ref aLo), .val (.ref aHi), .val (.ref aSp), .val (.int gv), .unset, .unset, .unset, .unset, .unset, .unset, .unset, .unset] [(.ref t)])) rfl rfl (hb hby ds_22)
  refine own_st st5 ?_
  show own_Win p e below s _ _ _ (T5.setTop (mkF m 25 #[.val (.ref t), .val (.int sv), .val (.int ev), .val (.ref aLo), .val (.ref aHi), .val (.ref aSp), .val (.int gv), .unset, .unset, .unset, .unset, .unset, .unset, .unset, .unset] [(.ref aT)]))
  refine own_st (fun _ kz => XS.iload X5.here hx rfl (hb hby ds_25) rfl kz) ?_
  show own_Win p e below s _ _ _ (T5.setTop (mkF m 27 #[.val (.ref t), .val (.int sv), .val (.int ev), .val (.ref aLo), .val (.ref aHi), .val (.ref aSp), .val (.int gv), .unset, .unset, .unset, .unset, .unset, .unset, .unset, .unset] [(.int gv), (.ref aT)]))
  refine own_st (fun _ kz => XS.iloadN X5.here hx rfl (hb hby ds_27) rfl kz) ?_
  show own_Win p e below s _ _ _ (T5.setTop (mkF m 28 #[.val (.ref t), .val (.int sv), .val (.int ev), .val (.ref aLo), .val (.ref aHi), .val (.ref aSp), .val (.int gv), .unset, .unset, .unset, .unset, .unset, .unset, .unset, .unset] [(.int ev), (.int gv), (.ref aT)]))
  refine own_iastore X5 hx hZ e5 c_U_h4 (i := g) hg g6 N4 (by omega) rfl rfl (hb hby ds_28) ?_
  intro T6 h6 L6 X6 e6 N6 W6 F6
  show own_Win p e below s _ _ _ (T6.setTop (mkF m 29 #[.val (.ref t), .val (.int sv), .val (.int ev), .val (.ref aLo), .val (.ref aHi), .val (.ref aSp), .val (.int gv), .unset, .unset, .unset, .unset, .unset, .unset, .unset, .unset] []))
  have Z6 : n0 ≤ h6.size := by rw [Wr.size W6]; exact Z4
  have c_T_h6 : own_Fs Z h6 t wv (gv + (1 : Int32)) aI aP aF aT aL aH := own_Fs.other W6 c_T_h4 (Nat.ne_of_lt (by omega))
  have c_F_h6 : own_Ia Z h6 aF 6 (own_up fF g sv) := own_Av.other W6 F4 (Nat.ne_of_lt (by omega))
  have c_L_h6 : own_Ia Z h6 aL 6 fL := own_Av.other W6 c_L_h4 (Nat.ne_of_gt (by omega))
  have c_H_h6 : own_Ia Z h6 aH 6 fH := own_Av.other W6 c_H_h4 (Nat.ne_of_gt (by omega))
  refine own_st (fun _ kz => XS.aloadN X6.here hx rfl (hb hby ds_29) rfl rfl kz) ?_
  show own_Win p e below s _ _ _ (T6.setTop (mkF m 30 #[.val (.ref t), .val (.int sv), .val (.int ev), .val (.ref aLo), .val (.ref aHi), .val (.ref aSp), .val (.int gv), .unset, .unset, .unset, .unset, .unset, .unset, .unset, .unset] [(.ref t)]))
  obtain ⟨T7, X7, e7, st7⟩ := getF X6 hx hZ hown (host := "") (Or.inl (hw _ (List.mem_of_getElem? (i := 25) rfl))) Via.refl e6 c_T_h6.2.2.2.2.2.2.1 (g := (mkF m 30 #[.val (.ref t), .val (.int sv), .val (.int ev), .val (.ref aLo), .val (.ref aHi), .val (.ref aSp), .val (.int gv), .unset, .unset, .unset, .unset, .unset, .unset, .unset, .unset] [(.ref t)])) rfl rfl (hb hby ds_30)
  refine own_st st7 ?_
  show own_Win p e below s _ _ _ (T7.setTop (mkF m 33 #[.val (.ref t), .val (.int sv), .val (.int ev), .val (.ref aLo), .val (.ref aHi), .val (.ref aSp), .val (.int gv), .unset, .unset, .unset, .unset, .unset, .unset, .unset, .unset] [(.ref aL)]))
  refine own_st (fun _ kz => XS.iload X7.here hx rfl (hb hby ds_33) rfl kz) ?_
  show own_Win p e below s _ _ _ (T7.setTop (mkF m 35 #[.val (.ref t), .val (.int sv), .val (.int ev), .val (.ref aLo), .val (.ref aHi), .val (.ref aSp), .val (.int gv), .unset, .unset, .unset, .unset, .unset, .unset, .unset, .unset] [(.int gv), (.ref aL)]))
  refine own_st (fun _ kz => XS.iconst X7.here hx rfl (hb hby ds_35) kz) ?_
  show own_Win p e below s _ _ _ (T7.setTop (mkF m 36 #[.val (.ref t), .val (.int sv), .val (.int ev), .val (.ref aLo), .val (.ref aHi), .val (.ref aSp), .val (.int gv), .unset, .unset, .unset, .unset, .unset, .unset, .unset, .unset] [(.int (-1 : Int32)), (.int gv), (.ref aL)]))
  refine own_iastore X7 hx hZ e7 c_L_h6 (i := g) hg g6 N6 (by omega) rfl rfl (hb hby ds_36) ?_
  intro T8 h8 L8 X8 e8 N8 W8 F8
  show own_Win p e below s _ _ _ (T8.setTop (mkF m 37 #[.val (.ref t), .val (.int sv), .val (.int ev), .val (.ref aLo), .val (.ref aHi), .val (.ref aSp), .val (.int gv), .unset, .unset, .unset, .unset, .unset, .unset, .unset, .unset] []))
  have Z8 : n0 ≤ h8.size := by rw [Wr.size W8]; exact Z6
  have c_T_h8 : own_Fs Z h8 t wv (gv + (1 : Int32)) aI aP aF aT aL aH := own_Fs.other W8 c_T_h6 (Nat.ne_of_lt (by omega))
  have c_F_h8 : own_Ia Z h8 aF 6 (own_up fF g sv) := own_Av.other W8 c_F_h6 (Nat.ne_of_lt (by omega))
  have c_U_h8 : own_Ia Z h8 aT 6 (own_up fT g ev) := own_Av.other W8 F6 (Nat.ne_of_lt (by omega))
  have c_H_h8 : own_Ia Z h8 aH 6 fH := own_Av.other W8 c_H_h6 (Nat.ne_of_gt (by omega))
  refine own_st (fun _ kz => XS.aloadN X8.here hx rfl (hb hby ds_37) rfl rfl kz) ?_
  show own_Win p e below s _ _ _ (T8.setTop (mkF m 38 #[.val (.ref t), .val (.int sv), .val (.int ev), .val (.ref aLo), .val (.ref aHi), .val (.ref aSp), .val (.int gv), .unset, .unset, .unset, .unset, .unset, .unset, .unset, .unset] [(.ref t)]))
  obtain ⟨T9, X9, e9, st9⟩ := getF X8 hx hZ hown (host := "") (Or.inl (hw _ (List.mem_of_getElem? (i := 27) rfl))) Via.refl e8 c_T_h8.2.2.2.2.2.2.2.1 (g := (mkF m 38 #[.val (.ref t), .val (.int sv), .val (.int ev), .val (.ref aLo), .val (.ref aHi), .val (.ref aSp), .val (.int gv), .unset, .unset, .unset, .unset, .unset, .unset, .unset, .unset] [(.ref t)])) rfl rfl (hb hby ds_38)
  refine own_st st9 ?_
  show own_Win p e below s _ _ _ (T9.setTop (mkF m 41 #[.val (.ref t), .val (.int sv), .val (.int ev), .val (.ref aLo), .val (.ref aHi), .val (.ref aSp), .val (.int gv), .unset, .unset, .unset, .unset, .unset, .unset, .unset, .unset] [(.ref aH)]))
  refine own_st (fun _ kz => XS.iload X9.here hx rfl (hb hby ds_41) rfl kz) ?_
  show own_Win p e below s _ _ _ (T9.setTop (mkF m 43 #[.val (.ref t), .val (.int sv), .val (.int ev), .val (.ref aLo), .val (.ref aHi), .val (.ref aSp), .val (.int gv), .unset, .unset, .unset, .unset, .unset, .unset, .unset, .unset] [(.int gv), (.ref aH)]))
  refine own_st (fun _ kz => XS.iconst X9.here hx rfl (hb hby ds_43) kz) ?_
  show own_Win p e below s _ _ _ (T9.setTop (mkF m 44 #[.val (.ref t), .val (.int sv), .val (.int ev), .val (.ref aLo), .val (.ref aHi), .val (.ref aSp), .val (.int gv), .unset, .unset, .unset, .unset, .unset, .unset, .unset, .unset] [(.int (-1 : Int32)), (.int gv), (.ref aH)]))
  refine own_iastore X9 hx hZ e9 c_H_h8 (i := g) hg g6 N8 (by omega) rfl rfl (hb hby ds_44) ?_
  intro T10 h10 L10 X10 e10 N10 W10 F10
  show own_Win p e below s _ _ _ (T10.setTop (mkF m 45 #[.val (.ref t), .val (.int sv), .val (.int ev), .val (.ref aLo), .val (.ref aHi), .val (.ref aSp), .val (.int gv), .unset, .unset, .unset, .unset, .unset, .unset, .unset, .unset] []))
  have Z10 : n0 ≤ h10.size := by rw [Wr.size W10]; exact Z8
  have c_T_h10 : own_Fs Z h10 t wv (gv + (1 : Int32)) aI aP aF aT aL aH := own_Fs.other W10 c_T_h8 (Nat.ne_of_lt (by omega))
  have c_F_h10 : own_Ia Z h10 aF 6 (own_up fF g sv) := own_Av.other W10 c_F_h8 (Nat.ne_of_lt (by omega))
  have c_U_h10 : own_Ia Z h10 aT 6 (own_up fT g ev) := own_Av.other W10 c_U_h8 (Nat.ne_of_lt (by omega))
  have c_L_h10 : own_Ia Z h10 aL 6 (own_up fL g (-1 : Int32)) := own_Av.other W10 F8 (Nat.ne_of_lt (by omega))
  refine own_st (fun _ kz => XS.iloadN X10.here hx rfl (hb hby ds_45) rfl kz) ?_
  show own_Win p e below s _ _ _ (T10.setTop (mkF m 46 #[.val (.ref t), .val (.int sv), .val (.int ev), .val (.ref aLo), .val (.ref aHi), .val (.ref aSp), .val (.int gv), .unset, .unset, .unset, .unset, .unset, .unset, .unset, .unset] [(.int ev)]))
  refine own_st (fun _ kz => XS.iloadN X10.here hx rfl (hb hby ds_46) rfl kz) ?_
  show own_Win p e below s _ _ _ (T10.setTop (mkF m 47 #[.val (.ref t), .val (.int sv), .val (.int ev), .val (.ref aLo), .val (.ref aHi), .val (.ref aSp), .val (.int gv), .unset, .unset, .unset, .unset, .unset, .unset, .unset, .unset] [(.int sv), (.int ev)]))
  refine own_st (fun _ kz => XS.isub X10.here hx rfl (hb hby ds_47) rfl kz) ?_
  show own_Win p e below s _ _ _ (T10.setTop (mkF m 48 #[.val (.ref t), .val (.int sv), .val (.int ev), .val (.ref aLo), .val (.ref aHi), .val (.ref aSp), .val (.int gv), .unset, .unset, .unset, .unset, .unset, .unset, .unset, .unset] [(.int (ev - sv))]))
  refine own_st (fun _ kz => XS.bipush X10.here hx rfl (hb hby ds_48) kz) ?_
  show own_Win p e below s _ _ _ (T10.setTop (mkF m 50 #[.val (.ref t), .val (.int sv), .val (.int ev), .val (.ref aLo), .val (.ref aHi), .val (.ref aSp), .val (.int gv), .unset, .unset, .unset, .unset, .unset, .unset, .unset, .unset] [(.int (16 : Int32)), (.int (ev - sv))]))
  by_cases q : (16 : Int32) < ev - sv
  ·
    refine own_st (fun _ kz => XS.icmpNo X10.here hx rfl (hb hby ds_50) rfl (tlt q).2.2.2 kz) ?_
    show own_Win p e below s _ _ _ (T10.setTop (mkF m 53 #[.val (.ref t), .val (.int sv), .val (.int ev), .val (.ref aLo), .val (.ref aHi), .val (.ref aSp), .val (.int gv), .unset, .unset, .unset, .unset, .unset, .unset, .unset, .unset] []))
    refine own_st (fun _ kz => XS.aloadN X10.here hx rfl (hb hby ds_53) rfl rfl kz) ?_
    show own_Win p e below s _ _ _ (T10.setTop (mkF m 54 #[.val (.ref t), .val (.int sv), .val (.int ev), .val (.ref aLo), .val (.ref aHi), .val (.ref aSp), .val (.int gv), .unset, .unset, .unset, .unset, .unset, .unset, .unset, .unset] [(.ref t)]))
    obtain ⟨T11, X11, e11, st11⟩ := getF X10 hx hZ hown (host := "") (Or.inl (hw _ (List.mem_of_getElem? (i := 15) rfl))) Via.refl e10 c_T_h10.2.1 (g := (mkF m 54 #[.val (.ref t), .val (.int sv), .val (.int ev), .val (.ref aLo), .val (.ref aHi), .val (.ref aSp), .val (.int gv), .unset, .unset, .unset, .unset, .unset, .unset, .unset, .unset] [(.ref t)])) rfl rfl (hb hby ds_54)
    refine own_st st11 ?_
    show own_Win p e below s _ _ _ (T11.setTop (mkF m 57 #[.val (.ref t), .val (.int sv), .val (.int ev), .val (.ref aLo), .val (.ref aHi), .val (.ref aSp), .val (.int gv), .unset, .unset, .unset, .unset, .unset, .unset, .unset, .unset] [(.int wv)]))
    have hw0 : wv = 0 := by rcases hc with z | z; exact absurd q z; exact z
    refine own_st (fun _ kz => XS.ifNo X11.here hx rfl (hb hby ds_57) rfl (by rw [hw0]; decide) kz) ?_
    show own_Win p e below s _ _ _ (T11.setTop (mkF m 60 #[.val (.ref t), .val (.int sv), .val (.int ev), .val (.ref aLo), .val (.ref aHi), .val (.ref aSp), .val (.int gv), .unset, .unset, .unset, .unset, .unset, .unset, .unset, .unset] []))
    refine own_st (fun _ kz => XS.iload X11.here hx rfl (hb hby ds_60) rfl kz) ?_
    show own_Win p e below s _ _ _ (T11.setTop (mkF m 62 #[.val (.ref t), .val (.int sv), .val (.int ev), .val (.ref aLo), .val (.ref aHi), .val (.ref aSp), .val (.int gv), .unset, .unset, .unset, .unset, .unset, .unset, .unset, .unset] [(.int gv)]))
    refine own_ret X11 hx hlk Bd.returns rfl (Or.inl ⟨rfl, Or.inl rfl, _, rfl⟩) (hb hby ds_62) ?_ (Nat.le_refl _) (Nat.le_refl _)
    rw [e11]
    exact ⟨rfl, N10, ((((((Keep.refl h0 [t, aF, aT, aL, aH]).wr W2 (Or.inl (List.mem_of_getElem? (i := 0) rfl))).wr W4 (Or.inl (List.mem_of_getElem? (i := 1) rfl))).wr W6 (Or.inl (List.mem_of_getElem? (i := 2) rfl))).wr W8 (Or.inl (List.mem_of_getElem? (i := 3) rfl))).wr W10 (Or.inl (List.mem_of_getElem? (i := 4) rfl))), c_T_h10, c_F_h10, c_U_h10, c_L_h10, F10⟩
  ·
    refine own_st (fun _ kz => XS.icmpYes X10.here hx rfl (pc0 := 50) (pc' := 60) rfl (hb hby ds_50) rfl (flt q).2.2.2 (by decide) (by decide) kz) ?_
    show own_Win p e below s _ _ _ (T10.setTop (mkF m 60 #[.val (.ref t), .val (.int sv), .val (.int ev), .val (.ref aLo), .val (.ref aHi), .val (.ref aSp), .val (.int gv), .unset, .unset, .unset, .unset, .unset, .unset, .unset, .unset] []))
    refine own_st (fun _ kz => XS.iload X10.here hx rfl (hb hby ds_60) rfl kz) ?_
    show own_Win p e below s _ _ _ (T10.setTop (mkF m 62 #[.val (.ref t), .val (.int sv), .val (.int ev), .val (.ref aLo), .val (.ref aHi), .val (.ref aSp), .val (.int gv), .unset, .unset, .unset, .unset, .unset, .unset, .unset, .unset] [(.int gv)]))
    refine own_ret X10 hx hlk Bd.returns rfl (Or.inl ⟨rfl, Or.inl rfl, _, rfl⟩) (hb hby ds_62) ?_ (Nat.le_refl _) (Nat.le_refl _)
    rw [e10]
    exact ⟨rfl, N10, ((((((Keep.refl h0 [t, aF, aT, aL, aH]).wr W2 (Or.inl (List.mem_of_getElem? (i := 0) rfl))).wr W4 (Or.inl (List.mem_of_getElem? (i := 1) rfl))).wr W6 (Or.inl (List.mem_of_getElem? (i := 2) rfl))).wr W8 (Or.inl (List.mem_of_getElem? (i := 3) rfl))).wr W10 (Or.inl (List.mem_of_getElem? (i := 4) rfl))), c_T_h10, c_F_h10, c_U_h10, c_L_h10, F10⟩
def Q_rmI (Z : State) (t aI aP : Nat) (wv : Int32) (wn : Nat) (fI : Nat → Int32) (h0 : Heap) (n0 : Nat) : Option Value → Heap → List Loc → Prop := fun v h L => v = none ∧ Fr n0 L ∧ Keep h0 h [t] ∧ ∃ aF aT aL aH : Nat, own_Fs Z h t wv 0 aI aP aF aT aL aH ∧ t < aF ∧ aF < aT ∧ aT < aL ∧ aL < aH ∧ own_Ia Z h aF 6 (fun _ => 0) ∧ own_Ia Z h aT 6 (fun _ => 0) ∧ own_Ia Z h aL 6 (fun _ => 0) ∧ own_Ia Z h aH 6 (fun _ => 0)
set_option maxRecDepth 65536 in
set_option maxHeartbeats 40000000 in
theorem rmI (l : Launch) (Z : State) (a0 : Array Value) (hw : ∀ d ∈ tables_1, d.before a0 Z = true) (ws : List Jvm.Cond) (t aI aP : Nat) (wv : Int32) (wn : Nat) (fI : Nat → Int32) (h0 : Heap) (n0 : Nat) (Z0 : n0 ≤ h0.size) (EA : Exa Z h0 t "com/example/skyweave/skyweave/KdTree") (q0 : n0 ≤ aI) (o1 : aI < aP) (o2 : aP < t) (FI : own_Ia Z h0 aI 18 fI) (hwn : wv.toInt = (wn : Int)) (wn2 : wn ≤ 2) (f_width : Fld Z h0 t "com/example/skyweave/skyweave/KdTree" "width" "I" (.int (0 : Int32))) (f_ids : Fld Z h0 t "com/example/skyweave/skyweave/KdTree" "ids" "[I" .null) (f_points : Fld Z h0 t "com/example/skyweave/skyweave/KdTree" "points" "[D" .null) (f_from : Fld Z h0 t "com/example/skyweave/skyweave/KdTree" "from" "[I" .null) (f_to : Fld Z h0 t "com/example/skyweave/skyweave/KdTree" "to" "[I" .null) (f_lowHalf : Fld Z h0 t "com/example/skyweave/skyweave/KdTree" "lowHalf" "[I" .null) (f_highHalf : Fld Z h0 t "com/example/skyweave/skyweave/KdTree" "highHalf" "[I" .null) (f_best : Fld Z h0 t "com/example/skyweave/skyweave/KdTree" "best" "[D" .null) (f_groups : Fld Z h0 t "com/example/skyweave/skyweave/KdTree" "groups" "I" (.int (0 : Int32))) :
    MetFree l yI (head1 (Jvm.Cond.code yI prog_13_method_1_code 6 none :: ws) ({ frames := 1, cells := 5, slots := 36, locals := 12 } : Room)) (fun az Uz => az = #[(.ref t), (.int wv), (.ref aI), (.ref aP), (.int (1 : Int32))] ∧ Z.Warmed39 Uz.vm ∧ Uz.heap = h0) (fun _ _ _ _ _ => True) (fun _ Uz oz Vz => ∃ vz Lz, oz = .returned vz ∧ (Q_rmI Z t aI aP wv wn fI h0 n0) vz Vz.heap Lz ∧ FrameEnd Uz oz Vz Lz ({ frames := 1, cells := 5, slots := 36, locals := 12 } : Room).cells ({ frames := 1, cells := 5, slots := 36, locals := 12 } : Room).slots) := by
  refine MetFree.of_bodySF (plainFor_of_name pnK) hisR ?_
  intro p e s m args below meth c s₁ Bd hml0 hP hK
  obtain ⟨rfl, hZ, hh⟩ := hP
  have hx := Bd.exec
  have hby := Bd.bytes
  have hlk := BodyLoose.notSynchronized Bd
  have hml : c.maxLocals = 6 := hml0
  have hown : s.vm.findClass "com/example/skyweave/skyweave/KdTree" = some m.cls := findClass_of_methodNamed Bd.named
  have hnm := (name_of_methodNamed Bd.named Bd.method).1
  have X0 : Stand p l e ({ frames := 1, cells := 5, slots := 36, locals := 12 } : Room) s m #[(.ref t), (.int wv), (.ref aI), (.ref aP), (.int (1 : Int32))] below meth c s₁ [] 0 0 := Stand.of_body Bd
  have e0 : s₁.heap = h0 := by rw [← hh, Bd.state]; rfl
  have N0 := Fr.nil n0
  show own_Win p e below s (Q_rmI Z t aI aP wv wn fI h0 n0) _ _ _
  refine own_st (fun tz kz => castTop (efI m t wv aI aP (1 : Int32)) kz) ?_
  have q_t : n0 ≤ t := by omega
  show own_Win p e below s _ _ _ (s₁.setTop (mkF m 0 #[.val (.ref t), .val (.int wv), .val (.ref aI), .val (.ref aP), .val (.int (1 : Int32)), .unset] []))
  refine own_st (fun _ kz => XS.aloadN X0.here hx rfl (hb hby di_0) rfl rfl kz) ?_
  show own_Win p e below s _ _ _ (s₁.setTop (mkF m 1 #[.val (.ref t), .val (.int wv), .val (.ref aI), .val (.ref aP), .val (.int (1 : Int32)), .unset] [(.ref t)]))
  obtain ⟨T4, X4, e4, st4⟩ := initO X0 hx hZ hown (hw _ (List.mem_of_getElem? (i := 12) rfl)) (hw _ (List.mem_of_getElem? (i := 13) rfl)) (hw _ (List.mem_of_getElem? (i := 14) rfl)) e0 (g := (mkF m 1 #[.val (.ref t), .val (.int wv), .val (.ref aI), .val (.ref aP), .val (.int (1 : Int32)), .unset] [(.ref t)])) rfl (by rw [hml]; rfl) rfl (hb hby di_1) (by decide) (W := 0) (Nat.le_of_eq rfl) (by decide)
  refine own_st st4 ?_
  show own_Win p e below s _ _ _ (T4.setTop (mkF m 4 #[.val (.ref t), .val (.int wv), .val (.ref aI), .val (.ref aP), .val (.int (1 : Int32)), .unset] []))
  refine own_st (fun _ kz => XS.aloadN X4.here hx rfl (hb hby di_4) rfl rfl kz) ?_
  show own_Win p e below s _ _ _ (T4.setTop (mkF m 5 #[.val (.ref t), .val (.int wv), .val (.ref aI), .val (.ref aP), .val (.int (1 : Int32)), .unset] [(.ref t)]))
  refine own_st (fun _ kz => XS.iloadN X4.here hx rfl (hb hby di_5) rfl kz) ?_
  show own_Win p e below s _ _ _ (T4.setTop (mkF m 6 #[.val (.ref t), .val (.int wv), .val (.ref aI), .val (.ref aP), .val (.int (1 : Int32)), .unset] [(.int wv), (.ref t)]))
  obtain ⟨T5, h5, X5, e5, W5, st5⟩ := putF X4 hx hZ hown (host := "") (Or.inl (hw _ (List.mem_of_getElem? (i := 15) rfl))) Via.refl e4 f_width EA (Or.inr ⟨(hw _ (List.mem_of_getElem? (i := 16) rfl)), rfl, hnm⟩) (hw _ (List.mem_of_getElem? (i := 7) rfl)) (ty := .int) (by decide) rfl rfl (g := (mkF m 6 #[.val (.ref t), .val (.int wv), .val (.ref aI), .val (.ref aP), .val (.int (1 : Int32)), .unset] [(.int wv), (.ref t)])) rfl rfl (hb hby di_6)
  refine own_st st5 ?_
  have N5 := Fr.snoc X5 N0 q_t
  have Z5 : n0 ≤ h5.size := by rw [Wr.size W5]; exact Z0
  have c_width_h5 : Fld Z h5 t "com/example/skyweave/skyweave/KdTree" "width" "I" (.int wv) := Fld.same W5 f_width
  have c_E_h5 : Exa Z h5 t "com/example/skyweave/skyweave/KdTree" := Exa.wr W5 EA
  have c_I_h5 : own_Ia Z h5 aI 18 fI := own_Av.other W5 FI (Nat.ne_of_lt (by omega))
  have c_ids_h5 : Fld Z h5 t "com/example/skyweave/skyweave/KdTree" "ids" "[I" .null := Fld.other W5 f_ids (Or.inr (slot_ne (t := (.array .int)) (t' := .int) (Or.inr (hw _ (List.mem_of_getElem? (i := 18) rfl))) (Or.inr (hw _ (List.mem_of_getElem? (i := 16) rfl))) (by decide) (by decide) (by decide)))
  have c_points_h5 : Fld Z h5 t "com/example/skyweave/skyweave/KdTree" "points" "[D" .null := Fld.other W5 f_points (Or.inr (slot_ne (t := (.array .double)) (t' := .int) (Or.inr (hw _ (List.mem_of_getElem? (i := 20) rfl))) (Or.inr (hw _ (List.mem_of_getElem? (i := 16) rfl))) (by decide) (by decide) (by decide)))
  have c_from_h5 : Fld Z h5 t "com/example/skyweave/skyweave/KdTree" "from" "[I" .null := Fld.other W5 f_from (Or.inr (slot_ne (t := (.array .int)) (t' := .int) (Or.inr (hw _ (List.mem_of_getElem? (i := 22) rfl))) (Or.inr (hw _ (List.mem_of_getElem? (i := 16) rfl))) (by decide) (by decide) (by decide)))
  have c_to_h5 : Fld Z h5 t "com/example/skyweave/skyweave/KdTree" "to" "[I" .null := Fld.other W5 f_to (Or.inr (slot_ne (t := (.array .int)) (t' := .int) (Or.inr (hw _ (List.mem_of_getElem? (i := 24) rfl))) (Or.inr (hw _ (List.mem_of_getElem? (i := 16) rfl))) (by decide) (by decide) (by decide)))
  have c_lowHalf_h5 : Fld Z h5 t "com/example/skyweave/skyweave/KdTree" "lowHalf" "[I" .null := Fld.other W5 f_lowHalf (Or.inr (slot_ne (t := (.array .int)) (t' := .int) (Or.inr (hw _ (List.mem_of_getElem? (i := 26) rfl))) (Or.inr (hw _ (List.mem_of_getElem? (i := 16) rfl))) (by decide) (by decide) (by decide)))
  have c_highHalf_h5 : Fld Z h5 t "com/example/skyweave/skyweave/KdTree" "highHalf" "[I" .null := Fld.other W5 f_highHalf (Or.inr (slot_ne (t := (.array .int)) (t' := .int) (Or.inr (hw _ (List.mem_of_getElem? (i := 28) rfl))) (Or.inr (hw _ (List.mem_of_getElem? (i := 16) rfl))) (by decide) (by decide) (by decide)))
  have c_best_h5 : Fld Z h5 t "com/example/skyweave/skyweave/KdTree" "best" "[D" .null := Fld.other W5 f_best (Or.inr (slot_ne (t := (.array .double)) (t' := .int) (Or.inr (hw _ (List.mem_of_getElem? (i := 30) rfl))) (Or.inr (hw _ (List.mem_of_getElem? (i := 16) rfl))) (by decide) (by decide) (by decide)))
  have c_groups_h5 : Fld Z h5 t "com/example/skyweave/skyweave/KdTree" "groups" "I" (.int (0 : Int32)) := Fld.other W5 f_groups (Or.inr (slot_ne (t := .int) (t' := .int) (Or.inl (hw _ (List.mem_of_getElem? (i := 37) rfl))) (Or.inr (hw _ (List.mem_of_getElem? (i := 16) rfl))) (by decide) (by decide) (by decide)))
  show own_Win p e below s _ _ _ (T5.setTop (mkF m 9 #[.val (.ref t), .val (.int wv), .val (.ref aI), .val (.ref aP), .val (.int (1 : Int32)), .unset] []))
  refine own_st (fun _ kz => XS.aloadN X5.here hx rfl (hb hby di_9) rfl rfl kz) ?_
  show own_Win p e below s _ _ _ (T5.setTop (mkF m 10 #[.val (.ref t), .val (.int wv), .val (.ref aI), .val (.ref aP), .val (.int (1 : Int32)), .unset] [(.ref t)]))
  refine own_st (fun _ kz => XS.aloadN X5.here hx rfl (hb hby di_10) rfl rfl kz) ?_
  show own_Win p e below s _ _ _ (T5.setTop (mkF m 11 #[.val (.ref t), .val (.int wv), .val (.ref aI), .val (.ref aP), .val (.int (1 : Int32)), .unset] [(.ref aI), (.ref t)]))
  obtain ⟨T6, h6, X6, e6, W6, st6⟩ := putF X5 hx hZ hown (host := "") (Or.inl (hw _ (List.mem_of_getElem? (i := 17) rfl))) Via.refl e5 c_ids_h5 c_E_h5 (Or.inr ⟨(hw _ (List.mem_of_getElem? (i := 18) rfl)), rfl, hnm⟩) (hw _ (List.mem_of_getElem? (i := 7) rfl)) (ty := (.array .int)) (by decide) rfl rfl (g := (mkF m 11 #[.val (.ref t), .val (.int wv), .val (.ref aI), .val (.ref aP), .val (.int (1 : Int32)), .unset] [(.ref aI), (.ref t)])) rfl rfl (hb hby di_11)
  refine own_st st6 ?_
  have N6 := Fr.snoc X6 N5 q_t
  have Z6 : n0 ≤ h6.size := by rw [Wr.size W6]; exact Z5
  have c_ids_h6 : Fld Z h6 t "com/example/skyweave/skyweave/KdTree" "ids" "[I" (.ref aI) := Fld.same W6 c_ids_h5
  have c_E_h6 : Exa Z h6 t "com/example/skyweave/skyweave/KdTree" := Exa.wr W6 c_E_h5
  have c_I_h6 : own_Ia Z h6 aI 18 fI := own_Av.other W6 c_I_h5 (Nat.ne_of_lt (by omega))
  have c_width_h6 : Fld Z h6 t "com/example/skyweave/skyweave/KdTree" "width" "I" (.int wv) := Fld.other W6 c_width_h5 (Or.inr (slot_ne (t := .int) (t' := (.array .int)) (Or.inr (hw _ (List.mem_of_getElem? (i := 16) rfl))) (Or.inr (hw _ (List.mem_of_getElem? (i := 18) rfl))) (by decide) (by decide) (by decide)))
  have c_points_h6 : Fld Z h6 t "com/example/skyweave/skyweave/KdTree" "points" "[D" .null := Fld.other W6 c_points_h5 (Or.inr (slot_ne (t := (.array .double)) (t' := (.array .int)) (Or.inr (hw _ (List.mem_of_getElem? (i := 20) rfl))) (Or.inr (hw _ (List.mem_of_getElem? (i := 18) rfl))) (by decide) (by decide) (by decide)))
  have c_from_h6 : Fld Z h6 t "com/example/skyweave/skyweave/KdTree" "from" "[I" .null := Fld.other W6 c_from_h5 (Or.inr (slot_ne (t := (.array .int)) (t' := (.array .int)) (Or.inr (hw _ (List.mem_of_getElem? (i := 22) rfl))) (Or.inr (hw _ (List.mem_of_getElem? (i := 18) rfl))) (by decide) (by decide) (by decide)))
  have c_to_h6 : Fld Z h6 t "com/example/skyweave/skyweave/KdTree" "to" "[I" .null := Fld.other W6 c_to_h5 (Or.inr (slot_ne (t := (.array .int)) (t' := (.array .int)) (Or.inr (hw _ (List.mem_of_getElem? (i := 24) rfl))) (Or.inr (hw _ (List.mem_of_getElem? (i := 18) rfl))) (by decide) (by decide) (by decide)))
  have c_lowHalf_h6 : Fld Z h6 t "com/example/skyweave/skyweave/KdTree" "lowHalf" "[I" .null := Fld.other W6 c_lowHalf_h5 (Or.inr (slot_ne (t := (.array .int)) (t' := (.array .int)) (Or.inr (hw _ (List.mem_of_getElem? (i := 26) rfl))) (Or.inr (hw _ (List.mem_of_getElem? (i := 18) rfl))) (by decide) (by decide) (by decide)))
  have c_highHalf_h6 : Fld Z h6 t "com/example/skyweave/skyweave/KdTree" "highHalf" "[I" .null := Fld.other W6 c_highHalf_h5 (Or.inr (slot_ne (t := (.array .int)) (t' := (.array .int)) (Or.inr (hw _ (List.mem_of_getElem? (i := 28) rfl))) (Or.inr (hw _ (List.mem_of_getElem? (i := 18) rfl))) (by decide) (by decide) (by decide)))
  have c_best_h6 : Fld Z h6 t "com/example/skyweave/skyweave/KdTree" "best" "[D" .null := Fld.other W6 c_best_h5 (Or.inr (slot_ne (t := (.array .double)) (t' := (.array .int)) (Or.inr (hw _ (List.mem_of_getElem? (i := 30) rfl))) (Or.inr (hw _ (List.mem_of_getElem? (i := 18) rfl))) (by decide) (by decide) (by decide)))
  have c_groups_h6 : Fld Z h6 t "com/example/skyweave/skyweave/KdTree" "groups" "I" (.int (0 : Int32)) := Fld.other W6 c_groups_h5 (Or.inr (slot_ne (t := .int) (t' := (.array .int)) (Or.inl (hw _ (List.mem_of_getElem? (i := 37) rfl))) (Or.inr (hw _ (List.mem_of_getElem? (i := 18) rfl))) (by decide) (by decide) (by decide)))
  show own_Win p e below s _ _ _ (T6.setTop (mkF m 14 #[.val (.ref t), .val (.int wv), .val (.ref aI), .val (.ref aP), .val (.int (1 : Int32)), .unset] []))
  refine own_st (fun _ kz => XS.aloadN X6.here hx rfl (hb hby di_14) rfl rfl kz) ?_
  show own_Win p e below s _ _ _ (T6.setTop (mkF m 15 #[.val (.ref t), .val (.int wv), .val (.ref aI), .val (.ref aP), .val (.int (1 : Int32)), .unset] [(.ref t)]))
  refine own_st (fun _ kz => XS.aloadN X6.here hx rfl (hb hby di_15) rfl rfl kz) ?_
  show own_Win p e below s _ _ _ (T6.setTop (mkF m 16 #[.val (.ref t), .val (.int wv), .val (.ref aI), .val (.ref aP), .val (.int (1 : Int32)), .unset] [(.ref aP), (.ref t)]))
  obtain ⟨T7, h7, X7, e7, W7, st7⟩ := putF X6 hx hZ hown (host := "") (Or.inl (hw _ (List.mem_of_getElem? (i := 19) rfl))) Via.refl e6 c_points_h6 c_E_h6 (Or.inr ⟨(hw _ (List.mem_of_getElem? (i := 20) rfl)), rfl, hnm⟩) (hw _ (List.mem_of_getElem? (i := 7) rfl)) (ty := (.array .double)) (by decide) rfl rfl (g := (mkF m 16 #[.val (.ref t), .val (.int wv), .val (.ref aI), .val (.ref aP), .val (.int (1 : Int32)), .unset] [(.ref aP), (.ref t)])) rfl rfl (hb hby di_16)
  refine own_st st7 ?_
  have N7 := Fr.snoc X7 N6 q_t
  have Z7 : n0 ≤ h7.size := by rw [Wr.size W7]; exact Z6
  have c_points_h7 : Fld Z h7 t "com/example/skyweave/skyweave/KdTree" "points" "[D" (.ref aP) := Fld.same W7 c_points_h6
  have c_E_h7 : Exa Z h7 t "com/example/skyweave/skyweave/KdTree" := Exa.wr W7 c_E_h6
  have c_I_h7 : own_Ia Z h7 aI 18 fI := own_Av.other W7 c_I_h6 (Nat.ne_of_lt (by omega))
  have c_width_h7 : Fld Z h7 t "com/example/skyweave/skyweave/KdTree" "width" "I" (.int wv) := Fld.other W7 c_width_h6 (Or.inr (slot_ne (t := .int) (t' := (.array .double)) (Or.inr (hw _ (List.mem_of_getElem? (i := 16) rfl))) (Or.inr (hw _ (List.mem_of_getElem? (i := 20) rfl))) (by decide) (by decide) (by decide)))
  have c_ids_h7 : Fld Z h7 t "com/example/skyweave/skyweave/KdTree" "ids" "[I" (.ref aI) := Fld.other W7 c_ids_h6 (Or.inr (slot_ne (t := (.array .int)) (t' := (.array .double)) (Or.inr (hw _ (List.mem_of_getElem? (i := 18) rfl))) (Or.inr (hw _ (List.mem_of_getElem? (i := 20) rfl))) (by decide) (by decide) (by decide)))
  have c_from_h7 : Fld Z h7 t "com/example/skyweave/skyweave/KdTree" "from" "[I" .null := Fld.other W7 c_from_h6 (Or.inr (slot_ne (t := (.array .int)) (t' := (.array .double)) (Or.inr (hw _ (List.mem_of_getElem? (i := 22) rfl))) (Or.inr (hw _ (List.mem_of_getElem? (i := 20) rfl))) (by decide) (by decide) (by decide)))
  have c_to_h7 : Fld Z h7 t "com/example/skyweave/skyweave/KdTree" "to" "[I" .null := Fld.other W7 c_to_h6 (Or.inr (slot_ne (t := (.array .int)) (t' := (.array .double)) (Or.inr (hw _ (List.mem_of_getElem? (i := 24) rfl))) (Or.inr (hw _ (List.mem_of_getElem? (i := 20) rfl))) (by decide) (by decide) (by decide)))
  have c_lowHalf_h7 : Fld Z h7 t "com/example/skyweave/skyweave/KdTree" "lowHalf" "[I" .null := Fld.other W7 c_lowHalf_h6 (Or.inr (slot_ne (t := (.array .int)) (t' := (.array .double)) (Or.inr (hw _ (List.mem_of_getElem? (i := 26) rfl))) (Or.inr (hw _ (List.mem_of_getElem? (i := 20) rfl))) (by decide) (by decide) (by decide)))
  have c_highHalf_h7 : Fld Z h7 t "com/example/skyweave/skyweave/KdTree" "highHalf" "[I" .null := Fld.other W7 c_highHalf_h6 (Or.inr (slot_ne (t := (.array .int)) (t' := (.array .double)) (Or.inr (hw _ (List.mem_of_getElem? (i := 28) rfl))) (Or.inr (hw _ (List.mem_of_getElem? (i := 20) rfl))) (by decide) (by decide) (by decide)))
  have c_best_h7 : Fld Z h7 t "com/example/skyweave/skyweave/KdTree" "best" "[D" .null := Fld.other W7 c_best_h6 (Or.inr (slot_ne (t := (.array .double)) (t' := (.array .double)) (Or.inr (hw _ (List.mem_of_getElem? (i := 30) rfl))) (Or.inr (hw _ (List.mem_of_getElem? (i := 20) rfl))) (by decide) (by decide) (by decide)))
  have c_groups_h7 : Fld Z h7 t "com/example/skyweave/skyweave/KdTree" "groups" "I" (.int (0 : Int32)) := Fld.other W7 c_groups_h6 (Or.inr (slot_ne (t := .int) (t' := (.array .double)) (Or.inl (hw _ (List.mem_of_getElem? (i := 37) rfl))) (Or.inr (hw _ (List.mem_of_getElem? (i := 20) rfl))) (by decide) (by decide) (by decide)))
  show own_Win p e below s _ _ _ (T7.setTop (mkF m 19 #[.val (.ref t), .val (.int wv), .val (.ref aI), .val (.ref aP), .val (.int (1 : Int32)), .unset] []))
  refine own_st (fun _ kz => XS.iload X7.here hx rfl (hb hby di_19) rfl kz) ?_
  show own_Win p e below s _ _ _ (T7.setTop (mkF m 21 #[.val (.ref t), .val (.int wv), .val (.ref aI), .val (.ref aP), .val (.int (1 : Int32)), .unset] [(.int (1 : Int32))]))
  refine own_st (fun _ kz => XS.iconst X7.here hx rfl (hb hby di_21) kz) ?_
  show own_Win p e below s _ _ _ (T7.setTop (mkF m 22 #[.val (.ref t), .val (.int wv), .val (.ref aI), .val (.ref aP), .val (.int (1 : Int32)), .unset] [(.int (4 : Int32)), (.int (1 : Int32))]))
  refine own_st (fun _ kz => XS.aloadN X7.here hx rfl (hb hby di_22) rfl rfl kz) ?_
  show own_Win p e below s _ _ _ (T7.setTop (mkF m 23 #[.val (.ref t), .val (.int wv), .val (.ref aI), .val (.ref aP), .val (.int (1 : Int32)), .unset] [(.ref aI), (.int (4 : Int32)), (.int (1 : Int32))]))
  refine own_alen X7 hx hZ e7 c_I_h7 (z := 18) rfl rfl rfl (hb hby di_23) ?_
  show own_Win p e below s _ _ _ (T7.setTop (mkF m 24 #[.val (.ref t), .val (.int wv), .val (.ref aI), .val (.ref aP), .val (.int (1 : Int32)), .unset] [(.int (18 : Int32)), (.int (4 : Int32)), (.int (1 : Int32))]))
  refine own_st (fun _ kz => XS.imul X7.here hx rfl (hb hby di_24) rfl kz) ?_
  show own_Win p e below s _ _ _ (T7.setTop (mkF m 25 #[.val (.ref t), .val (.int wv), .val (.ref aI), .val (.ref aP), .val (.int (1 : Int32)), .unset] [(.int ((4 : Int32) * (18 : Int32))), (.int (1 : Int32))]))
  refine own_st (fun _ kz => XS.bipush X7.here hx rfl (hb hby di_25) kz) ?_
  show own_Win p e below s _ _ _ (T7.setTop (mkF m 27 #[.val (.ref t), .val (.int wv), .val (.ref aI), .val (.ref aP), .val (.int (1 : Int32)), .unset] [(.int (16 : Int32)), (.int ((4 : Int32) * (18 : Int32))), (.int (1 : Int32))]))
  refine own_st (fun _ kz => XS.idiv X7.here hx rfl (hb hby di_27) rfl (by decide) kz) ?_
  show own_Win p e below s _ _ _ (T7.setTop (mkF m 28 #[.val (.ref t), .val (.int wv), .val (.ref aI), .val (.ref aP), .val (.int (1 : Int32)), .unset] [(.int ((4 : Int32) * (18 : Int32) / (16 : Int32))), (.int (1 : Int32))]))
  rw [show ((4 : Int32) * (18 : Int32) / (16 : Int32)) = 4 from by decide]
  show own_Win p e below s _ _ _ (T7.setTop (mkF m 28 #[.val (.ref t), .val (.int wv), .val (.ref aI), .val (.ref aP), .val (.int (1 : Int32)), .unset] [(.int (4 : Int32)), (.int (1 : Int32))]))
  refine own_st (fun _ kz => XS.iadd X7.here hx rfl (hb hby di_28) rfl kz) ?_
  show own_Win p e below s _ _ _ (T7.setTop (mkF m 29 #[.val (.ref t), .val (.int wv), .val (.ref aI), .val (.ref aP), .val (.int (1 : Int32)), .unset] [(.int ((1 : Int32) + (4 : Int32)))]))
  refine own_st (fun _ kz => XS.iconst X7.here hx rfl (hb hby di_29) kz) ?_
  show own_Win p e below s _ _ _ (T7.setTop (mkF m 30 #[.val (.ref t), .val (.int wv), .val (.ref aI), .val (.ref aP), .val (.int (1 : Int32)), .unset] [(.int (1 : Int32)), (.int ((1 : Int32) + (4 : Int32)))]))
  refine own_st (fun _ kz => XS.iadd X7.here hx rfl (hb hby di_30) rfl kz) ?_
  show own_Win p e below s _ _ _ (T7.setTop (mkF m 31 #[.val (.ref t), .val (.int wv), .val (.ref aI), .val (.ref aP), .val (.int (1 : Int32)), .unset] [(.int (((1 : Int32) + (4 : Int32)) + (1 : Int32)))]))
  rw [show ((1 : Int32) + (4 : Int32) + (1 : Int32)) = 6 from by decide]
  show own_Win p e below s _ _ _ (T7.setTop (mkF m 31 #[.val (.ref t), .val (.int wv), .val (.ref aI), .val (.ref aP), .val (.int (1 : Int32)), .unset] [(.int (6 : Int32))]))
  refine own_st (fun _ kz => XS.istore X7.here hx rfl (hb hby di_31) rfl (l' := #[.val (.ref t), .val (.int wv), .val (.ref aI), .val (.ref aP), .val (.int (1 : Int32)), .val (.int (6 : Int32))]) rfl kz) ?_
  show own_Win p e below s _ _ _ (T7.setTop (mkF m 33 #[.val (.ref t), .val (.int wv), .val (.ref aI), .val (.ref aP), .val (.int (1 : Int32)), .val (.int (6 : Int32))] []))
  refine own_st (fun _ kz => XS.aloadN X7.here hx rfl (hb hby di_33) rfl rfl kz) ?_
  show own_Win p e below s _ _ _ (T7.setTop (mkF m 34 #[.val (.ref t), .val (.int wv), .val (.ref aI), .val (.ref aP), .val (.int (1 : Int32)), .val (.int (6 : Int32))] [(.ref t)]))
  refine own_st (fun _ kz => XS.iload X7.here hx rfl (hb hby di_34) rfl kz) ?_
  show own_Win p e below s _ _ _ (T7.setTop (mkF m 36 #[.val (.ref t), .val (.int wv), .val (.ref aI), .val (.ref aP), .val (.int (1 : Int32)), .val (.int (6 : Int32))] [(.int (6 : Int32)), (.ref t)]))
  refine own_newI X7 hx hZ (hw _ (List.mem_of_getElem? (i := 0) rfl)) e7 (n := 6) (cap := 6) rfl (Nat.le_refl _) (by decide) (by decide) (by decide) rfl rfl (hb hby di_36) ?_
  intro T8 h8 a8 X8 e8 g8 E8 F8
  show own_Win p e below s _ _ _ (T8.setTop (mkF m 38 #[.val (.ref t), .val (.int wv), .val (.ref aI), .val (.ref aP), .val (.int (1 : Int32)), .val (.int (6 : Int32))] [(.ref a8), (.ref t)]))
  have lt_t_a8 : @LT.lt Nat _ t a8 := by rw [g8]; exact (Exa.lt c_E_h7)
  have lt_aI_a8 : @LT.lt Nat _ aI a8 := by rw [g8]; exact (own_Av.lt c_I_h7)
  have Z8 : n0 ≤ h8.size := Nat.le_trans Z7 E8.1
  have q_a8 : n0 ≤ a8 := by rw [g8]; exact Z7
  have c_E_h8 : Exa Z h8 t "com/example/skyweave/skyweave/KdTree" := Exa.ext E8 c_E_h7
  have c_I_h8 : own_Ia Z h8 aI 18 fI := own_Av.ext E8 c_I_h7
  have c_width_h8 : Fld Z h8 t "com/example/skyweave/skyweave/KdTree" "width" "I" (.int wv) := Fld.ext E8 c_width_h7
  have c_ids_h8 : Fld Z h8 t "com/example/skyweave/skyweave/KdTree" "ids" "[I" (.ref aI) := Fld.ext E8 c_ids_h7
  have c_points_h8 : Fld Z h8 t "com/example/skyweave/skyweave/KdTree" "points" "[D" (.ref aP) := Fld.ext E8 c_points_h7
  have c_from_h8 : Fld Z h8 t "com/example/skyweave/skyweave/KdTree" "from" "[I" .null := Fld.ext E8 c_from_h7
  have c_to_h8 : Fld Z h8 t "com/example/skyweave/skyweave/KdTree" "to" "[I" .null := Fld.ext E8 c_to_h7
  have c_lowHalf_h8 : Fld Z h8 t "com/example/skyweave/skyweave/KdTree" "lowHalf" "[I" .null := Fld.ext E8 c_lowHalf_h7
  have c_highHalf_h8 : Fld Z h8 t "com/example/skyweave/skyweave/KdTree" "highHalf" "[I" .null := Fld.ext E8 c_highHalf_h7
  have c_best_h8 : Fld Z h8 t "com/example/skyweave/skyweave/KdTree" "best" "[D" .null := Fld.ext E8 c_best_h7
  have c_groups_h8 : Fld Z h8 t "com/example/skyweave/skyweave/KdTree" "groups" "I" (.int (0 : Int32)) := Fld.ext E8 c_groups_h7
  have l_t_a8 : @LT.lt Nat _ t a8 := by rw [g8]; exact (Exa.lt c_E_h7)
  obtain ⟨T9, h9, X9, e9, W9, st9⟩ := putF X8 hx hZ hown (host := "") (Or.inl (hw _ (List.mem_of_getElem? (i := 21) rfl))) Via.refl e8 c_from_h8 c_E_h8 (Or.inr ⟨(hw _ (List.mem_of_getElem? (i := 22) rfl)), rfl, hnm⟩) (hw _ (List.mem_of_getElem? (i := 7) rfl)) (ty := (.array .int)) (by decide) rfl rfl (g := (mkF m 38 #[.val (.ref t), .val (.int wv), .val (.ref aI), .val (.ref aP), .val (.int (1 : Int32)), .val (.int (6 : Int32))] [(.ref a8), (.ref t)])) rfl rfl (hb hby di_38)
  refine own_st st9 ?_
  have N9 := Fr.snoc X9 N7 q_t
  have Z9 : n0 ≤ h9.size := by rw [Wr.size W9]; exact Z8
  have c_from_h9 : Fld Z h9 t "com/example/skyweave/skyweave/KdTree" "from" "[I" (.ref a8) := Fld.same W9 c_from_h8
  have c_E_h9 : Exa Z h9 t "com/example/skyweave/skyweave/KdTree" := Exa.wr W9 c_E_h8
  have c_I_h9 : own_Ia Z h9 aI 18 fI := own_Av.other W9 c_I_h8 (Nat.ne_of_lt (by omega))
  have c_width_h9 : Fld Z h9 t "com/example/skyweave/skyweave/KdTree" "width" "I" (.int wv) := Fld.other W9 c_width_h8 (Or.inr (slot_ne (t := .int) (t' := (.array .int)) (Or.inr (hw _ (List.mem_of_getElem? (i := 16) rfl))) (Or.inr (hw _ (List.mem_of_getElem? (i := 22) rfl))) (by decide) (by decide) (by decide)))
  have c_ids_h9 : Fld Z h9 t "com/example/skyweave/skyweave/KdTree" "ids" "[I" (.ref aI) := Fld.other W9 c_ids_h8 (Or.inr (slot_ne (t := (.array .int)) (t' := (.array .int)) (Or.inr (hw _ (List.mem_of_getElem? (i := 18) rfl))) (Or.inr (hw _ (List.mem_of_getElem? (i := 22) rfl))) (by decide) (by decide) (by decide)))
  have c_points_h9 : Fld Z h9 t "com/example/skyweave/skyweave/KdTree" "points" "[D" (.ref aP) := Fld.other W9 c_points_h8 (Or.inr (slot_ne (t := (.array .double)) (t' := (.array .int)) (Or.inr (hw _ (List.mem_of_getElem? (i := 20) rfl))) (Or.inr (hw _ (List.mem_of_getElem? (i := 22) rfl))) (by decide) (by decide) (by decide)))
  have c_to_h9 : Fld Z h9 t "com/example/skyweave/skyweave/KdTree" "to" "[I" .null := Fld.other W9 c_to_h8 (Or.inr (slot_ne (t := (.array .int)) (t' := (.array .int)) (Or.inr (hw _ (List.mem_of_getElem? (i := 24) rfl))) (Or.inr (hw _ (List.mem_of_getElem? (i := 22) rfl))) (by decide) (by decide) (by decide)))
  have c_lowHalf_h9 : Fld Z h9 t "com/example/skyweave/skyweave/KdTree" "lowHalf" "[I" .null := Fld.other W9 c_lowHalf_h8 (Or.inr (slot_ne (t := (.array .int)) (t' := (.array .int)) (Or.inr (hw _ (List.mem_of_getElem? (i := 26) rfl))) (Or.inr (hw _ (List.mem_of_getElem? (i := 22) rfl))) (by decide) (by decide) (by decide)))
  have c_highHalf_h9 : Fld Z h9 t "com/example/skyweave/skyweave/KdTree" "highHalf" "[I" .null := Fld.other W9 c_highHalf_h8 (Or.inr (slot_ne (t := (.array .int)) (t' := (.array .int)) (Or.inr (hw _ (List.mem_of_getElem? (i := 28) rfl))) (Or.inr (hw _ (List.mem_of_getElem? (i := 22) rfl))) (by decide) (by decide) (by decide)))
  have c_best_h9 : Fld Z h9 t "com/example/skyweave/skyweave/KdTree" "best" "[D" .null := Fld.other W9 c_best_h8 (Or.inr (slot_ne (t := (.array .double)) (t' := (.array .int)) (Or.inr (hw _ (List.mem_of_getElem? (i := 30) rfl))) (Or.inr (hw _ (List.mem_of_getElem? (i := 22) rfl))) (by decide) (by decide) (by decide)))
  have c_groups_h9 : Fld Z h9 t "com/example/skyweave/skyweave/KdTree" "groups" "I" (.int (0 : Int32)) := Fld.other W9 c_groups_h8 (Or.inr (slot_ne (t := .int) (t' := (.array .int)) (Or.inl (hw _ (List.mem_of_getElem? (i := 37) rfl))) (Or.inr (hw _ (List.mem_of_getElem? (i := 22) rfl))) (by decide) (by decide) (by decide)))
  have c_ar_from_h9 : own_Ia Z h9 a8 6 (fun _ => 0) := own_Av.other W9 F8 (Nat.ne_of_gt (by omega))
  show own_Win p e below s _ _ _ (T9.setTop (mkF m 41 #[.val (.ref t), .val (.int wv), .val (.ref aI), .val (.ref aP), .val (.int (1 : Int32)), .val (.int (6 : Int32))] []))
  refine own_st (fun _ kz => XS.aloadN X9.here hx rfl (hb hby di_41) rfl rfl kz) ?_
  show own_Win p e below s _ _ _ (T9.setTop (mkF m 42 #[.val (.ref t), .val (.int wv), .val (.ref aI), .val (.ref aP), .val (.int (1 : Int32)), .val (.int (6 : Int32))] [(.ref t)]))
  refine own_st (fun _ kz => XS.iload X9.here hx rfl (hb hby di_42) rfl kz) ?_
  show own_Win p e below s _ _ _ (T9.setTop (mkF m 44 #[.val (.ref t), .val (.int wv), .val (.ref aI), .val (.ref aP), .val (.int (1 : Int32)), .val (.int (6 : Int32))] [(.int (6 : Int32)), (.ref t)]))
  refine own_newI X9 hx hZ (hw _ (List.mem_of_getElem? (i := 0) rfl)) e9 (n := 6) (cap := 6) rfl (Nat.le_refl _) (by decide) (by decide) (by decide) rfl rfl (hb hby di_44) ?_
  intro T10 h10 a10 X10 e10 g10 E10 F10
  show own_Win p e below s _ _ _ (T10.setTop (mkF m 46 #[.val (.ref t), .val (.int wv), .val (.ref aI), .val (.ref aP), .val (.int (1 : Int32)), .val (.int (6 : Int32))] [(.ref a10), (.ref t)]))
  have lt_t_a10 : @LT.lt Nat _ t a10 := by rw [g10]; exact (Exa.lt c_E_h9)
  have lt_aI_a10 : @LT.lt Nat _ aI a10 := by rw [g10]; exact (own_Av.lt c_I_h9)
  have lt_a8_a10 : @LT.lt Nat _ a8 a10 := by rw [g10]; exact (own_Av.lt c_ar_from_h9)
  have Z10 : n0 ≤ h10.size := Nat.le_trans Z9 E10.1
  have q_a10 : n0 ≤ a10 := by rw [g10]; exact Z9
  have c_E_h10 : Exa Z h10 t "com/example/skyweave/skyweave/KdTree" := Exa.ext E10 c_E_h9
  have c_I_h10 : own_Ia Z h10 aI 18 fI := own_Av.ext E10 c_I_h9
  have c_width_h10 : Fld Z h10 t "com/example/skyweave/skyweave/KdTree" "width" "I" (.int wv) := Fld.ext E10 c_width_h9
  have c_ids_h10 : Fld Z h10 t "com/example/skyweave/skyweave/KdTree" "ids" "[I" (.ref aI) := Fld.ext E10 c_ids_h9
  have c_points_h10 : Fld Z h10 t "com/example/skyweave/skyweave/KdTree" "points" "[D" (.ref aP) := Fld.ext E10 c_points_h9
  have c_from_h10 : Fld Z h10 t "com/example/skyweave/skyweave/KdTree" "from" "[I" (.ref a8) := Fld.ext E10 c_from_h9
  have c_to_h10 : Fld Z h10 t "com/example/skyweave/skyweave/KdTree" "to" "[I" .null := Fld.ext E10 c_to_h9
  have c_lowHalf_h10 : Fld Z h10 t "com/example/skyweave/skyweave/KdTree" "lowHalf" "[I" .null := Fld.ext E10 c_lowHalf_h9
  have c_highHalf_h10 : Fld Z h10 t "com/example/skyweave/skyweave/KdTree" "highHalf" "[I" .null := Fld.ext E10 c_highHalf_h9
  have c_best_h10 : Fld Z h10 t "com/example/skyweave/skyweave/KdTree" "best" "[D" .null := Fld.ext E10 c_best_h9
  have c_groups_h10 : Fld Z h10 t "com/example/skyweave/skyweave/KdTree" "groups" "I" (.int (0 : Int32)) := Fld.ext E10 c_groups_h9
  have c_ar_from_h10 : own_Ia Z h10 a8 6 (fun _ => 0) := own_Av.ext E10 c_ar_from_h9
  have l_t_a10 : @LT.lt Nat _ t a10 := by rw [g10]; exact (Exa.lt c_E_h9)
  have l_a8_a10 : @LT.lt Nat _ a8 a10 := by rw [g10]; exact (own_Av.lt c_ar_from_h9)
  obtain ⟨T11, h11, X11, e11, W11, st11⟩ := putF X10 hx hZ hown (host := "") (Or.inl (hw _ (List.mem_of_getElem? (i := 23) rfl))) Via.refl e10 c_to_h10 c_E_h10 (Or.inr ⟨(hw _ (List.mem_of_getElem? (i := 24) rfl)), rfl, hnm⟩) (hw _ (List.mem_of_getElem? (i := 7) rfl)) (ty := (.array .int)) (by decide) rfl rfl (g := (mkF m 46 #[.val (.ref t), .val (.int wv), .val (.ref aI), .val (.ref aP), .val (.int (1 : Int32)), .val (.int (6 : Int32))] [(.ref a10), (.ref t)])) rfl rfl (hb hby di_46)
  refine own_st st11 ?_
  have N11 := Fr.snoc X11 N9 q_t
  have Z11 : n0 ≤ h11.size := by rw [Wr.size W11]; exact Z10
  have c_to_h11 : Fld Z h11 t "com/example/skyweave/skyweave/KdTree" "to" "[I" (.ref a10) := Fld.same W11 c_to_h10
  have c_E_h11 : Exa Z h11 t "com/example/skyweave/skyweave/KdTree" := Exa.wr W11 c_E_h10
  have c_I_h11 : own_Ia Z h11 aI 18 fI := own_Av.other W11 c_I_h10 (Nat.ne_of_lt (by omega))
  have c_width_h11 : Fld Z h11 t "com/example/skyweave/skyweave/KdTree" "width" "I" (.int wv) := Fld.other W11 c_width_h10 (Or.inr (slot_ne (t := .int) (t' := (.array .int)) (Or.inr (hw _ (List.mem_of_getElem? (i := 16) rfl))) (Or.inr (hw _ (List.mem_of_getElem? (i := 24) rfl))) (by decide) (by decide) (by decide)))
  have c_ids_h11 : Fld Z h11 t "com/example/skyweave/skyweave/KdTree" "ids" "[I" (.ref aI) := Fld.other W11 c_ids_h10 (Or.inr (slot_ne (t := (.array .int)) (t' := (.array .int)) (Or.inr (hw _ (List.mem_of_getElem? (i := 18) rfl))) (Or.inr (hw _ (List.mem_of_getElem? (i := 24) rfl))) (by decide) (by decide) (by decide)))
  have c_points_h11 : Fld Z h11 t "com/example/skyweave/skyweave/KdTree" "points" "[D" (.ref aP) := Fld.other W11 c_points_h10 (Or.inr (slot_ne (t := (.array .double)) (t' := (.array .int)) (Or.inr (hw _ (List.mem_of_getElem? (i := 20) rfl))) (Or.inr (hw _ (List.mem_of_getElem? (i := 24) rfl))) (by decide) (by decide) (by decide)))
  have c_from_h11 : Fld Z h11 t "com/example/skyweave/skyweave/KdTree" "from" "[I" (.ref a8) := Fld.other W11 c_from_h10 (Or.inr (slot_ne (t := (.array .int)) (t' := (.array .int)) (Or.inr (hw _ (List.mem_of_getElem? (i := 22) rfl))) (Or.inr (hw _ (List.mem_of_getElem? (i := 24) rfl))) (by decide) (by decide) (by decide)))
  have c_lowHalf_h11 : Fld Z h11 t "com/example/skyweave/skyweave/KdTree" "lowHalf" "[I" .null := Fld.other W11 c_lowHalf_h10 (Or.inr (slot_ne (t := (.array .int)) (t' := (.array .int)) (Or.inr (hw _ (List.mem_of_getElem? (i := 26) rfl))) (Or.inr (hw _ (List.mem_of_getElem? (i := 24) rfl))) (by decide) (by decide) (by decide)))
  have c_highHalf_h11 : Fld Z h11 t "com/example/skyweave/skyweave/KdTree" "highHalf" "[I" .null := Fld.other W11 c_highHalf_h10 (Or.inr (slot_ne (t := (.array .int)) (t' := (.array .int)) (Or.inr (hw _ (List.mem_of_getElem? (i := 28) rfl))) (Or.inr (hw _ (List.mem_of_getElem? (i := 24) rfl))) (by decide) (by decide) (by decide)))
  have c_best_h11 : Fld Z h11 t "com/example/skyweave/skyweave/KdTree" "best" "[D" .null := Fld.other W11 c_best_h10 (Or.inr (slot_ne (t := (.array .double)) (t' := (.array .int)) (Or.inr (hw _ (List.mem_of_getElem? (i := 30) rfl))) (Or.inr (hw _ (List.mem_of_getElem? (i := 24) rfl))) (by decide) (by decide) (by decide)))
  have c_groups_h11 : Fld Z h11 t "com/example/skyweave/skyweave/KdTree" "groups" "I" (.int (0 : Int32)) := Fld.other W11 c_groups_h10 (Or.inr (slot_ne (t := .int) (t' := (.array .int)) (Or.inl (hw _ (List.mem_of_getElem? (i := 37) rfl))) (Or.inr (hw _ (List.mem_of_getElem? (i := 24) rfl))) (by decide) (by decide) (by decide)))
  have c_ar_from_h11 : own_Ia Z h11 a8 6 (fun _ => 0) := own_Av.other W11 c_ar_from_h10 (Nat.ne_of_gt (by omega))
  have c_ar_to_h11 : own_Ia Z h11 a10 6 (fun _ => 0) := own_Av.other W11 F10 (Nat.ne_of_gt (by omega))
  show own_Win p e below s _ _ _ (T11.setTop (mkF m 49 #[.val (.ref t), .val (.int wv), .val (.ref aI), .val (.ref aP), .val (.int (1 : Int32)), .val (.int (6 : Int32))] []))
  refine own_st (fun _ kz => XS.aloadN X11.here hx rfl (hb hby di_49) rfl rfl kz) ?_
  show own_Win p e below s _ _ _ (T11.setTop (mkF m 50 #[.val (.ref t), .val (.int wv), .val (.ref aI), .val (.ref aP), .val (.int (1 : Int32)), .val (.int (6 : Int32))] [(.ref t)]))
  refine own_st (fun _ kz => XS.iload X11.here hx rfl (hb hby di_50) rfl kz) ?_
  show own_Win p e below s _ _ _ (T11.setTop (mkF m 52 #[.val (.ref t), .val (.int wv), .val (.ref aI), .val (.ref aP), .val (.int (1 : Int32)), .val (.int (6 : Int32))] [(.int (6 : Int32)), (.ref t)]))
  refine own_newI X11 hx hZ (hw _ (List.mem_of_getElem? (i := 0) rfl)) e11 (n := 6) (cap := 6) rfl (Nat.le_refl _) (by decide) (by decide) (by decide) rfl rfl (hb hby di_52) ?_
  intro T12 h12 a12 X12 e12 g12 E12 F12
  show own_Win p e below s _ _ _ (T12.setTop (mkF m 54 #[.val (.ref t), .val (.int wv), .val (.ref aI), .val (.ref aP), .val (.int (1 : Int32)), .val (.int (6 : Int32))] [(.ref a12), (.ref t)]))
  have lt_t_a12 : @LT.lt Nat _ t a12 := by rw [g12]; exact (Exa.lt c_E_h11)
  have lt_aI_a12 : @LT.lt Nat _ aI a12 := by rw [g12]; exact (own_Av.lt c_I_h11)
  have lt_a8_a12 : @LT.lt Nat _ a8 a12 := by rw [g12]; exact (own_Av.lt c_ar_from_h11)
  have lt_a10_a12 : @LT.lt Nat _ a10 a12 := by rw [g12]; exact (own_Av.lt c_ar_to_h11)
  have Z12 : n0 ≤ h12.size := Nat.le_trans Z11 E12.1
  have q_a12 : n0 ≤ a12 := by rw [g12]; exact Z11
  have c_E_h12 : Exa Z h12 t "com/example/skyweave/skyweave/KdTree" := Exa.ext E12 c_E_h11
  have c_I_h12 : own_Ia Z h12 aI 18 fI := own_Av.ext E12 c_I_h11
  have c_width_h12 : Fld Z h12 t "com/example/skyweave/skyweave/KdTree" "width" "I" (.int wv) := Fld.ext E12 c_width_h11
  have c_ids_h12 : Fld Z h12 t "com/example/skyweave/skyweave/KdTree" "ids" "[I" (.ref aI) := Fld.ext E12 c_ids_h11
  have c_points_h12 : Fld Z h12 t "com/example/skyweave/skyweave/KdTree" "points" "[D" (.ref aP) := Fld.ext E12 c_points_h11
  have c_from_h12 : Fld Z h12 t "com/example/skyweave/skyweave/KdTree" "from" "[I" (.ref a8) := Fld.ext E12 c_from_h11
  have c_to_h12 : Fld Z h12 t "com/example/skyweave/skyweave/KdTree" "to" "[I" (.ref a10) := Fld.ext E12 c_to_h11
  have c_lowHalf_h12 : Fld Z h12 t "com/example/skyweave/skyweave/KdTree" "lowHalf" "[I" .null := Fld.ext E12 c_lowHalf_h11
  have c_highHalf_h12 : Fld Z h12 t "com/example/skyweave/skyweave/KdTree" "highHalf" "[I" .null := Fld.ext E12 c_highHalf_h11
  have c_best_h12 : Fld Z h12 t "com/example/skyweave/skyweave/KdTree" "best" "[D" .null := Fld.ext E12 c_best_h11
  have c_groups_h12 : Fld Z h12 t "com/example/skyweave/skyweave/KdTree" "groups" "I" (.int (0 : Int32)) := Fld.ext E12 c_groups_h11
  have c_ar_from_h12 : own_Ia Z h12 a8 6 (fun _ => 0) := own_Av.ext E12 c_ar_from_h11
  have c_ar_to_h12 : own_Ia Z h12 a10 6 (fun _ => 0) := own_Av.ext E12 c_ar_to_h11
  have l_t_a12 : @LT.lt Nat _ t a12 := by rw [g12]; exact (Exa.lt c_E_h11)
  have l_a8_a12 : @LT.lt Nat _ a8 a12 := by rw [g12]; exact (own_Av.lt c_ar_from_h11)
  have l_a10_a12 : @LT.lt Nat _ a10 a12 := by rw [g12]; exact (own_Av.lt c_ar_to_h11)
  obtain ⟨T13, h13, X13, e13, W13, st13⟩ := putF X12 hx hZ hown (host := "") (Or.inl (hw _ (List.mem_of_getElem? (i := 25) rfl))) Via.refl e12 c_lowHalf_h12 c_E_h12 (Or.inr ⟨(hw _ (List.mem_of_getElem? (i := 26) rfl)), rfl, hnm⟩) (hw _ (List.mem_of_getElem? (i := 7) rfl)) (ty := (.array .int)) (by decide) rfl rfl (g := (mkF m 54 #[.val (.ref t), .val (.int wv), .val (.ref aI), .val (.ref aP), .val (.int (1 : Int32)), .val (.int (6 : Int32))] [(.ref a12), (.ref t)])) rfl rfl (hb hby di_54)
  refine own_st st13 ?_
  have N13 := Fr.snoc X13 N11 q_t
  have Z13 : n0 ≤ h13.size := by rw [Wr.size W13]; exact Z12
  have c_lowHalf_h13 : Fld Z h13 t "com/example/skyweave/skyweave/KdTree" "lowHalf" "[I" (.ref a12) := Fld.same W13 c_lowHalf_h12
  have c_E_h13 : Exa Z h13 t "com/example/skyweave/skyweave/KdTree" := Exa.wr W13 c_E_h12
  have c_I_h13 : own_Ia Z h13 aI 18 fI := own_Av.other W13 c_I_h12 (Nat.ne_of_lt (by omega))
  have c_width_h13 : Fld Z h13 t "com/example/skyweave/skyweave/KdTree" "width" "I" (.int wv) := Fld.other W13 c_width_h12 (Or.inr (slot_ne (t := .int) (t' := (.array .int)) (Or.inr (hw _ (List.mem_of_getElem? (i := 16) rfl))) (Or.inr (hw _ (List.mem_of_getElem? (i := 26) rfl))) (by decide) (by decide) (by decide)))
  have c_ids_h13 : Fld Z h13 t "com/example/skyweave/skyweave/KdTree" "ids" "[I" (.ref aI) := Fld.other W13 c_ids_h12 (Or.inr (slot_ne (t := (.array .int)) (t' := (.array .int)) (Or.inr (hw _ (List.mem_of_getElem? (i := 18) rfl))) (Or.inr (hw _ (List.mem_of_getElem? (i := 26) rfl))) (by decide) (by decide) (by decide)))
  have c_points_h13 : Fld Z h13 t "com/example/skyweave/skyweave/KdTree" "points" "[D" (.ref aP) := Fld.other W13 c_points_h12 (Or.inr (slot_ne (t := (.array .double)) (t' := (.array .int)) (Or.inr (hw _ (List.mem_of_getElem? (i := 20) rfl))) (Or.inr (hw _ (List.mem_of_getElem? (i := 26) rfl))) (by decide) (by decide) (by decide)))
  have c_from_h13 : Fld Z h13 t "com/example/skyweave/skyweave/KdTree" "from" "[I" (.ref a8) := Fld.other W13 c_from_h12 (Or.inr (slot_ne (t := (.array .int)) (t' := (.array .int)) (Or.inr (hw _ (List.mem_of_getElem? (i := 22) rfl))) (Or.inr (hw _ (List.mem_of_getElem? (i := 26) rfl))) (by decide) (by decide) (by decide)))
  have c_to_h13 : Fld Z h13 t "com/example/skyweave/skyweave/KdTree" "to" "[I" (.ref a10) := Fld.other W13 c_to_h12 (Or.inr (slot_ne (t := (.array .int)) (t' := (.array .int)) (Or.inr (hw _ (List.mem_of_getElem? (i := 24) rfl))) (Or.inr (hw _ (List.mem_of_getElem? (i := 26) rfl))) (by decide) (by decide) (by decide)))
  have c_highHalf_h13 : Fld Z h13 t "com/example/skyweave/skyweave/KdTree" "highHalf" "[I" .null := Fld.other W13 c_highHalf_h12 (Or.inr (slot_ne (t := (.array .int)) (t' := (.array .int)) (Or.inr (hw _ (List.mem_of_getElem? (i := 28) rfl))) (Or.inr (hw _ (List.mem_of_getElem? (i := 26) rfl))) (by decide) (by decide) (by decide)))
  have c_best_h13 : Fld Z h13 t "com/example/skyweave/skyweave/KdTree" "best" "[D" .null := Fld.other W13 c_best_h12 (Or.inr (slot_ne (t := (.array .double)) (t' := (.array .int)) (Or.inr (hw _ (List.mem_of_getElem? (i := 30) rfl))) (Or.inr (hw _ (List.mem_of_getElem? (i := 26) rfl))) (by decide) (by decide) (by decide)))
  have c_groups_h13 : Fld Z h13 t "com/example/skyweave/skyweave/KdTree" "groups" "I" (.int (0 : Int32)) := Fld.other W13 c_groups_h12 (Or.inr (slot_ne (t := .int) (t' := (.array .int)) (Or.inl (hw _ (List.mem_of_getElem? (i := 37) rfl))) (Or.inr (hw _ (List.mem_of_getElem? (i := 26) rfl))) (by decide) (by decide) (by decide)))
  have c_ar_from_h13 : own_Ia Z h13 a8 6 (fun _ => 0) := own_Av.other W13 c_ar_from_h12 (Nat.ne_of_gt (by omega))
  have c_ar_to_h13 : own_Ia Z h13 a10 6 (fun _ => 0) := own_Av.other W13 c_ar_to_h12 (Nat.ne_of_gt (by omega))
  have c_ar_lowHalf_h13 : own_Ia Z h13 a12 6 (fun _ => 0) := own_Av.other W13 F12 (Nat.ne_of_gt (by omega))
  show own_Win p e below s _ _ _ (T13.setTop (mkF m 57 #[.val (.ref t), .val (.int wv), .val (.ref aI), .val (.ref aP), .val (.int (1 : Int32)), .val (.int (6 : Int32))] []))
  refine own_st (fun _ kz => XS.aloadN X13.here hx rfl (hb hby di_57) rfl rfl kz) ?_
  show own_Win p e below s _ _ _ (T13.setTop (mkF m 58 #[.val (.ref t), .val (.int wv), .val (.ref aI), .val (.ref aP), .val (.int (1 : Int32)), .val (.int (6 : Int32))] [(.ref t)]))
  refine own_st (fun _ kz => XS.iload X13.here hx rfl (hb hby di_58) rfl kz) ?_
  show own_Win p e below s _ _ _ (T13.setTop (mkF m 60 #[.val (.ref t), .val (.int wv), .val (.ref aI), .val (.ref aP), .val (.int (1 : Int32)), .val (.int (6 : Int32))] [(.int (6 : Int32)), (.ref t)]))
  refine own_newI X13 hx hZ (hw _ (List.mem_of_getElem? (i := 0) rfl)) e13 (n := 6) (cap := 6) rfl (Nat.le_refl _) (by decide) (by decide) (by decide) rfl rfl (hb hby di_60) ?_
  intro T14 h14 a14 X14 e14 g14 E14 F14
  show own_Win p e below s _ _ _ (T14.setTop (mkF m 62 #[.val (.ref t), .val (.int wv), .val (.ref aI), .val (.ref aP), .val (.int (1 : Int32)), .val (.int (6 : Int32))] [(.ref a14), (.ref t)]))
  have lt_t_a14 : @LT.lt Nat _ t a14 := by rw [g14]; exact (Exa.lt c_E_h13)
  have lt_aI_a14 : @LT.lt Nat _ aI a14 := by rw [g14]; exact (own_Av.lt c_I_h13)
  have lt_a8_a14 : @LT.lt Nat _ a8 a14 := by rw [g14]; exact (own_Av.lt c_ar_from_h13)
  have lt_a10_a14 : @LT.lt Nat _ a10 a14 := by rw [g14]; exact (own_Av.lt c_ar_to_h13)
  have lt_a12_a14 : @LT.lt Nat _ a12 a14 := by rw [g14]; exact (own_Av.lt c_ar_lowHalf_h13)
  have Z14 : n0 ≤ h14.size := Nat.le_trans Z13 E14.1
  have q_a14 : n0 ≤ a14 := by rw [g14]; exact Z13
  have c_E_h14 : Exa Z h14 t "com/example/skyweave/skyweave/KdTree" := Exa.ext E14 c_E_h13
  have c_I_h14 : own_Ia Z h14 aI 18 fI := own_Av.ext E14 c_I_h13
  have c_width_h14 : Fld Z h14 t "com/example/skyweave/skyweave/KdTree" "width" "I" (.int wv) := Fld.ext E14 c_width_h13
  have c_ids_h14 : Fld Z h14 t "com/example/skyweave/skyweave/KdTree" "ids" "[I" (.ref aI) := Fld.ext E14 c_ids_h13
  have c_points_h14 : Fld Z h14 t "com/example/skyweave/skyweave/KdTree" "points" "[D" (.ref aP) := Fld.ext E14 c_points_h13
  have c_from_h14 : Fld Z h14 t "com/example/skyweave/skyweave/KdTree" "from" "[I" (.ref a8) := Fld.ext E14 c_from_h13
  have c_to_h14 : Fld Z h14 t "com/example/skyweave/skyweave/KdTree" "to" "[I" (.ref a10) := Fld.ext E14 c_to_h13
  have c_lowHalf_h14 : Fld Z h14 t "com/example/skyweave/skyweave/KdTree" "lowHalf" "[I" (.ref a12) := Fld.ext E14 c_lowHalf_h13
  have c_highHalf_h14 : Fld Z h14 t "com/example/skyweave/skyweave/KdTree" "highHalf" "[I" .null := Fld.ext E14 c_highHalf_h13
  have c_best_h14 : Fld Z h14 t "com/example/skyweave/skyweave/KdTree" "best" "[D" .null := Fld.ext E14 c_best_h13
  have c_groups_h14 : Fld Z h14 t "com/example/skyweave/skyweave/KdTree" "groups" "I" (.int (0 : Int32)) := Fld.ext E14 c_groups_h13
  have c_ar_from_h14 : own_Ia Z h14 a8 6 (fun _ => 0) := own_Av.ext E14 c_ar_from_h13
  have c_ar_to_h14 : own_Ia Z h14 a10 6 (fun _ => 0) := own_Av.ext E14 c_ar_to_h13
  have c_ar_lowHalf_h14 : own_Ia Z h14 a12 6 (fun _ => 0) := own_Av.ext E14 c_ar_lowHalf_h13
  have l_t_a14 : @LT.lt Nat _ t a14 := by rw [g14]; exact (Exa.lt c_E_h13)
  have l_a8_a14 : @LT.lt Nat _ a8 a14 := by rw [g14]; exact (own_Av.lt c_ar_from_h13)
  have l_a10_a14 : @LT.lt Nat _ a10 a14 := by rw [g14]; exact (own_Av.lt c_ar_to_h13)
  have l_a12_a14 : @LT.lt Nat _ a12 a14 := by rw [g14]; exact (own_Av.lt c_ar_lowHalf_h13)
  obtain ⟨T15, h15, X15, e15, W15, st15⟩ := putF X14 hx hZ hown (host := "") (Or.inl (hw _ (List.mem_of_getElem? (i := 27) rfl))) Via.refl e14 c_highHalf_h14 c_E_h14 (Or.inr ⟨(hw _ (List.mem_of_getElem? (i := 28) rfl)), rfl, hnm⟩) (hw _ (List.mem_of_getElem? (i := 7) rfl)) (ty := (.array .int)) (by decide) rfl rfl (g := (mkF m 62 #[.val (.ref t), .val (.int wv), .val (.ref aI), .val (.ref aP), .val (.int (1 : Int32)), .val (.int (6 : Int32))] [(.ref a14), (.ref t)])) rfl rfl (hb hby di_62)
  refine own_st st15 ?_
  have N15 := Fr.snoc X15 N13 q_t
  have Z15 : n0 ≤ h15.size := by rw [Wr.size W15]; exact Z14
  have c_highHalf_h15 : Fld Z h15 t "com/example/skyweave/skyweave/KdTree" "highHalf" "[I" (.ref a14) := Fld.same W15 c_highHalf_h14
  have c_E_h15 : Exa Z h15 t "com/example/skyweave/skyweave/KdTree" := Exa.wr W15 c_E_h14
  have c_I_h15 : own_Ia Z h15 aI 18 fI := own_Av.other W15 c_I_h14 (Nat.ne_of_lt (by omega))
  have c_width_h15 : Fld Z h15 t "com/example/skyweave/skyweave/KdTree" "width" "I" (.int wv) := Fld.other W15 c_width_h14 (Or.inr (slot_ne (t := .int) (t' := (.array .int)) (Or.inr (hw _ (List.mem_of_getElem? (i := 16) rfl))) (Or.inr (hw _ (List.mem_of_getElem? (i := 28) rfl))) (by decide) (by decide) (by decide)))
  have c_ids_h15 : Fld Z h15 t "com/example/skyweave/skyweave/KdTree" "ids" "[I" (.ref aI) := Fld.other W15 c_ids_h14 (Or.inr (slot_ne (t := (.array .int)) (t' := (.array .int)) (Or.inr (hw _ (List.mem_of_getElem? (i := 18) rfl))) (Or.inr (hw _ (List.mem_of_getElem? (i := 28) rfl))) (by decide) (by decide) (by decide)))
  have c_points_h15 : Fld Z h15 t "com/example/skyweave/skyweave/KdTree" "points" "[D" (.ref aP) := Fld.other W15 c_points_h14 (Or.inr (slot_ne (t := (.array .double)) (t' := (.array .int)) (Or.inr (hw _ (List.mem_of_getElem? (i := 20) rfl))) (Or.inr (hw _ (List.mem_of_getElem? (i := 28) rfl))) (by decide) (by decide) (by decide)))
  have c_from_h15 : Fld Z h15 t "com/example/skyweave/skyweave/KdTree" "from" "[I" (.ref a8) := Fld.other W15 c_from_h14 (Or.inr (slot_ne (t := (.array .int)) (t' := (.array .int)) (Or.inr (hw _ (List.mem_of_getElem? (i := 22) rfl))) (Or.inr (hw _ (List.mem_of_getElem? (i := 28) rfl))) (by decide) (by decide) (by decide)))
  have c_to_h15 : Fld Z h15 t "com/example/skyweave/skyweave/KdTree" "to" "[I" (.ref a10) := Fld.other W15 c_to_h14 (Or.inr (slot_ne (t := (.array .int)) (t' := (.array .int)) (Or.inr (hw _ (List.mem_of_getElem? (i := 24) rfl))) (Or.inr (hw _ (List.mem_of_getElem? (i := 28) rfl))) (by decide) (by decide) (by decide)))
  have c_lowHalf_h15 : Fld Z h15 t "com/example/skyweave/skyweave/KdTree" "lowHalf" "[I" (.ref a12) := Fld.other W15 c_lowHalf_h14 (Or.inr (slot_ne (t := (.array .int)) (t' := (.array .int)) (Or.inr (hw _ (List.mem_of_getElem? (i := 26) rfl))) (Or.inr (hw _ (List.mem_of_getElem? (i := 28) rfl))) (by decide) (by decide) (by decide)))
  have c_best_h15 : Fld Z h15 t "com/example/skyweave/skyweave/KdTree" "best" "[D" .null := Fld.other W15 c_best_h14 (Or.inr (slot_ne (t := (.array .double)) (t' := (.array .int)) (Or.inr (hw _ (List.mem_of_getElem? (i := 30) rfl))) (Or.inr (hw _ (List.mem_of_getElem? (i := 28) rfl))) (by decide) (by decide) (by decide)))
  have c_groups_h15 : Fld Z h15 t "com/example/skyweave/skyweave/KdTree" "groups" "I" (.int (0 : Int32)) := Fld.other W15 c_groups_h14 (Or.inr (slot_ne (t := .int) (t' := (.array .int)) (Or.inl (hw _ (List.mem_of_getElem? (i := 37) rfl))) (Or.inr (hw _ (List.mem_of_getElem? (i := 28) rfl))) (by decide) (by decide) (by decide)))
  have c_ar_from_h15 : own_Ia Z h15 a8 6 (fun _ => 0) := own_Av.other W15 c_ar_from_h14 (Nat.ne_of_gt (by omega))
  have c_ar_to_h15 : own_Ia Z h15 a10 6 (fun _ => 0) := own_Av.other W15 c_ar_to_h14 (Nat.ne_of_gt (by omega))
  have c_ar_lowHalf_h15 : own_Ia Z h15 a12 6 (fun _ => 0) := own_Av.other W15 c_ar_lowHalf_h14 (Nat.ne_of_gt (by omega))
  have c_ar_highHalf_h15 : own_Ia Z h15 a14 6 (fun _ => 0) := own_Av.other W15 F14 (Nat.ne_of_gt (by omega))
  show own_Win p e below s _ _ _ (T15.setTop (mkF m 65 #[.val (.ref t), .val (.int wv), .val (.ref aI), .val (.ref aP), .val (.int (1 : Int32)), .val (.int (6 : Int32))] []))
  refine own_st (fun _ kz => XS.aloadN X15.here hx rfl (hb hby di_65) rfl rfl kz) ?_
  show own_Win p e below s _ _ _ (T15.setTop (mkF m 66 #[.val (.ref t), .val (.int wv), .val (.ref aI), .val (.ref aP), .val (.int (1 : Int32)), .val (.int (6 : Int32))] [(.ref t)]))
  refine own_st (fun _ kz => XS.iload X15.here hx rfl (hb hby di_66) rfl kz) ?_
  show own_Win p e below s _ _ _ (T15.setTop (mkF m 68 #[.val (.ref t), .val (.int wv), .val (.ref aI), .val (.ref aP), .val (.int (1 : Int32)), .val (.int (6 : Int32))] [(.int (6 : Int32)), (.ref t)]))
  refine own_st (fun _ kz => XS.iloadN X15.here hx rfl (hb hby di_68) rfl kz) ?_
  show own_Win p e below s _ _ _ (T15.setTop (mkF m 69 #[.val (.ref t), .val (.int wv), .val (.ref aI), .val (.ref aP), .val (.int (1 : Int32)), .val (.int (6 : Int32))] [(.int wv), (.int (6 : Int32)), (.ref t)]))
  refine own_st (fun _ kz => XS.imul X15.here hx rfl (hb hby di_69) rfl kz) ?_
  show own_Win p e below s _ _ _ (T15.setTop (mkF m 70 #[.val (.ref t), .val (.int wv), .val (.ref aI), .val (.ref aP), .val (.int (1 : Int32)), .val (.int (6 : Int32))] [(.int ((6 : Int32) * wv)), (.ref t)]))
  have hz6 : ((6 : Int32) * wv).toInt = ((6 * wn : Nat) : Int) := by
    have a1 := c_imul 6 wv
    rw [show (6 : Int32).toInt = 6 from rfl] at a1
    have := rng32 ((6 : Int32) * wv)
    omega
  refine own_newD X15 hx hZ (hw _ (List.mem_of_getElem? (i := 1) rfl)) e15 (n := (6 * wn)) (cap := 12) hz6 (by omega) (by decide) (by decide) (by decide) rfl rfl (hb hby di_70) ?_
  intro T16 h16 a16 X16 e16 g16 E16 F16 Ex16
  show own_Win p e below s _ _ _ (T16.setTop (mkF m 72 #[.val (.ref t), .val (.int wv), .val (.ref aI), .val (.ref aP), .val (.int (1 : Int32)), .val (.int (6 : Int32))] [(.ref a16), (.ref t)]))
  have lt_t_a16 : @LT.lt Nat _ t a16 := by rw [g16]; exact (Exa.lt c_E_h15)
  have lt_aI_a16 : @LT.lt Nat _ aI a16 := by rw [g16]; exact (own_Av.lt c_I_h15)
  have lt_a8_a16 : @LT.lt Nat _ a8 a16 := by rw [g16]; exact (own_Av.lt c_ar_from_h15)
  have lt_a10_a16 : @LT.lt Nat _ a10 a16 := by rw [g16]; exact (own_Av.lt c_ar_to_h15)
  have lt_a12_a16 : @LT.lt Nat _ a12 a16 := by rw [g16]; exact (own_Av.lt c_ar_lowHalf_h15)
  have lt_a14_a16 : @LT.lt Nat _ a14 a16 := by rw [g16]; exact (own_Av.lt c_ar_highHalf_h15)
  have Z16 : n0 ≤ h16.size := Nat.le_trans Z15 E16.1
  have q_a16 : n0 ≤ a16 := by rw [g16]; exact Z15
  have c_E_h16 : Exa Z h16 t "com/example/skyweave/skyweave/KdTree" := Exa.ext E16 c_E_h15
  have c_I_h16 : own_Ia Z h16 aI 18 fI := own_Av.ext E16 c_I_h15
  have c_width_h16 : Fld Z h16 t "com/example/skyweave/skyweave/KdTree" "width" "I" (.int wv) := Fld.ext E16 c_width_h15
  have c_ids_h16 : Fld Z h16 t "com/example/skyweave/skyweave/KdTree" "ids" "[I" (.ref aI) := Fld.ext E16 c_ids_h15
  have c_points_h16 : Fld Z h16 t "com/example/skyweave/skyweave/KdTree" "points" "[D" (.ref aP) := Fld.ext E16 c_points_h15
  have c_from_h16 : Fld Z h16 t "com/example/skyweave/skyweave/KdTree" "from" "[I" (.ref a8) := Fld.ext E16 c_from_h15
  have c_to_h16 : Fld Z h16 t "com/example/skyweave/skyweave/KdTree" "to" "[I" (.ref a10) := Fld.ext E16 c_to_h15
  have c_lowHalf_h16 : Fld Z h16 t "com/example/skyweave/skyweave/KdTree" "lowHalf" "[I" (.ref a12) := Fld.ext E16 c_lowHalf_h15
  have c_highHalf_h16 : Fld Z h16 t "com/example/skyweave/skyweave/KdTree" "highHalf" "[I" (.ref a14) := Fld.ext E16 c_highHalf_h15
  have c_best_h16 : Fld Z h16 t "com/example/skyweave/skyweave/KdTree" "best" "[D" .null := Fld.ext E16 c_best_h15
  have c_groups_h16 : Fld Z h16 t "com/example/skyweave/skyweave/KdTree" "groups" "I" (.int (0 : Int32)) := Fld.ext E16 c_groups_h15
  have c_ar_from_h16 : own_Ia Z h16 a8 6 (fun _ => 0) := own_Av.ext E16 c_ar_from_h15
  have c_ar_to_h16 : own_Ia Z h16 a10 6 (fun _ => 0) := own_Av.ext E16 c_ar_to_h15
  have c_ar_lowHalf_h16 : own_Ia Z h16 a12 6 (fun _ => 0) := own_Av.ext E16 c_ar_lowHalf_h15
  have c_ar_highHalf_h16 : own_Ia Z h16 a14 6 (fun _ => 0) := own_Av.ext E16 c_ar_highHalf_h15
  obtain ⟨T17, h17, X17, e17, W17, st17⟩ := putF X16 hx hZ hown (host := "") (Or.inl (hw _ (List.mem_of_getElem? (i := 29) rfl))) Via.refl e16 c_best_h16 c_E_h16 (Or.inr ⟨(hw _ (List.mem_of_getElem? (i := 30) rfl)), rfl, hnm⟩) (hw _ (List.mem_of_getElem? (i := 7) rfl)) (ty := (.array .double)) (by decide) rfl rfl (g := (mkF m 72 #[.val (.ref t), .val (.int wv), .val (.ref aI), .val (.ref aP), .val (.int (1 : Int32)), .val (.int (6 : Int32))] [(.ref a16), (.ref t)])) rfl rfl (hb hby di_72)
  refine own_st st17 ?_
  have N17 := Fr.snoc X17 N15 q_t
  have Z17 : n0 ≤ h17.size := by rw [Wr.size W17]; exact Z16
  have c_best_h17 : Fld Z h17 t "com/example/skyweave/skyweave/KdTree" "best" "[D" (.ref a16) := Fld.same W17 c_best_h16
  have c_E_h17 : Exa Z h17 t "com/example/skyweave/skyweave/KdTree" := Exa.wr W17 c_E_h16
  have c_I_h17 : own_Ia Z h17 aI 18 fI := own_Av.other W17 c_I_h16 (Nat.ne_of_lt (by omega))
  have c_width_h17 : Fld Z h17 t "com/example/skyweave/skyweave/KdTree" "width" "I" (.int wv) := Fld.other W17 c_width_h16 (Or.inr (slot_ne (t := .int) (t' := (.array .double)) (Or.inr (hw _ (List.mem_of_getElem? (i := 16) rfl))) (Or.inr (hw _ (List.mem_of_getElem? (i := 30) rfl))) (by decide) (by decide) (by decide)))
  have c_ids_h17 : Fld Z h17 t "com/example/skyweave/skyweave/KdTree" "ids" "[I" (.ref aI) := Fld.other W17 c_ids_h16 (Or.inr (slot_ne (t := (.array .int)) (t' := (.array .double)) (Or.inr (hw _ (List.mem_of_getElem? (i := 18) rfl))) (Or.inr (hw _ (List.mem_of_getElem? (i := 30) rfl))) (by decide) (by decide) (by decide)))
  have c_points_h17 : Fld Z h17 t "com/example/skyweave/skyweave/KdTree" "points" "[D" (.ref aP) := Fld.other W17 c_points_h16 (Or.inr (slot_ne (t := (.array .double)) (t' := (.array .double)) (Or.inr (hw _ (List.mem_of_getElem? (i := 20) rfl))) (Or.inr (hw _ (List.mem_of_getElem? (i := 30) rfl))) (by decide) (by decide) (by decide)))
  have c_from_h17 : Fld Z h17 t "com/example/skyweave/skyweave/KdTree" "from" "[I" (.ref a8) := Fld.other W17 c_from_h16 (Or.inr (slot_ne (t := (.array .int)) (t' := (.array .double)) (Or.inr (hw _ (List.mem_of_getElem? (i := 22) rfl))) (Or.inr (hw _ (List.mem_of_getElem? (i := 30) rfl))) (by decide) (by decide) (by decide)))
  have c_to_h17 : Fld Z h17 t "com/example/skyweave/skyweave/KdTree" "to" "[I" (.ref a10) := Fld.other W17 c_to_h16 (Or.inr (slot_ne (t := (.array .int)) (t' := (.array .double)) (Or.inr (hw _ (List.mem_of_getElem? (i := 24) rfl))) (Or.inr (hw _ (List.mem_of_getElem? (i := 30) rfl))) (by decide) (by decide) (by decide)))
  have c_lowHalf_h17 : Fld Z h17 t "com/example/skyweave/skyweave/KdTree" "lowHalf" "[I" (.ref a12) := Fld.other W17 c_lowHalf_h16 (Or.inr (slot_ne (t := (.array .int)) (t' := (.array .double)) (Or.inr (hw _ (List.mem_of_getElem? (i := 26) rfl))) (Or.inr (hw _ (List.mem_of_getElem? (i := 30) rfl))) (by decide) (by decide) (by decide)))
  have c_highHalf_h17 : Fld Z h17 t "com/example/skyweave/skyweave/KdTree" "highHalf" "[I" (.ref a14) := Fld.other W17 c_highHalf_h16 (Or.inr (slot_ne (t := (.array .int)) (t' := (.array .double)) (Or.inr (hw _ (List.mem_of_getElem? (i := 28) rfl))) (Or.inr (hw _ (List.mem_of_getElem? (i := 30) rfl))) (by decide) (by decide) (by decide)))
  have c_groups_h17 : Fld Z h17 t "com/example/skyweave/skyweave/KdTree" "groups" "I" (.int (0 : Int32)) := Fld.other W17 c_groups_h16 (Or.inr (slot_ne (t := .int) (t' := (.array .double)) (Or.inl (hw _ (List.mem_of_getElem? (i := 37) rfl))) (Or.inr (hw _ (List.mem_of_getElem? (i := 30) rfl))) (by decide) (by decide) (by decide)))
  have c_ar_from_h17 : own_Ia Z h17 a8 6 (fun _ => 0) := own_Av.other W17 c_ar_from_h16 (Nat.ne_of_gt (by omega))
  have c_ar_to_h17 : own_Ia Z h17 a10 6 (fun _ => 0) := own_Av.other W17 c_ar_to_h16 (Nat.ne_of_gt (by omega))
  have c_ar_lowHalf_h17 : own_Ia Z h17 a12 6 (fun _ => 0) := own_Av.other W17 c_ar_lowHalf_h16 (Nat.ne_of_gt (by omega))
  have c_ar_highHalf_h17 : own_Ia Z h17 a14 6 (fun _ => 0) := own_Av.other W17 c_ar_highHalf_h16 (Nat.ne_of_gt (by omega))
  show own_Win p e below s _ _ _ (T17.setTop (mkF m 75 #[.val (.ref t), .val (.int wv), .val (.ref aI), .val (.ref aP), .val (.int (1 : Int32)), .val (.int (6 : Int32))] []))
  refine own_retV X17 hx hlk Bd.returns (hb hby di_75) ?_ (Nat.le_refl _) (Nat.le_refl _)
  rw [e17]
  exact ⟨rfl, N17, ((((((((((((((Keep.refl h0 [t]).wr W5 (Or.inl (List.mem_of_getElem? (i := 0) rfl))).wr W6 (Or.inl (List.mem_of_getElem? (i := 0) rfl))).wr W7 (Or.inl (List.mem_of_getElem? (i := 0) rfl))).ext E8).wr W9 (Or.inl (List.mem_of_getElem? (i := 0) rfl))).ext E10).wr W11 (Or.inl (List.mem_of_getElem? (i := 0) rfl))).ext E12).wr W13 (Or.inl (List.mem_of_getElem? (i := 0) rfl))).ext E14).wr W15 (Or.inl (List.mem_of_getElem? (i := 0) rfl))).ext E16).wr W17 (Or.inl (List.mem_of_getElem? (i := 0) rfl))), a8, a10, a12, a14, ⟨c_E_h17, c_width_h17, c_ids_h17, c_points_h17, c_from_h17, c_to_h17, c_lowHalf_h17, c_highHalf_h17, c_groups_h17⟩, l_t_a8, l_a8_a10, l_a10_a12, l_a12_a14, c_ar_from_h17, c_ar_to_h17, c_ar_lowHalf_h17, c_ar_highHalf_h17⟩
/-! the coordinate that is widest, as a share of the spread -/
def own_w (r0 r1 s0 s1 : Int) : Nat := if s1 = 0 then 0 else if s0 = 0 then (if 0 < r1 then 1 else 0) else if r0 * s1 < r1 * s0 then 1 else 0
theorem own_w2 (r0 r1 s0 s1 : Int) : own_w r0 r1 s0 s1 < 2 := by unfold own_w; split; decide; split; split <;> decide; split <;> decide
theorem own_ll (a b : Int32) : (a.toInt64 * b.toInt64).toInt = a.toInt * b.toInt := by
  have h1 := rng32 a
  have h2 := rng32 b
  have h3 : (a.toInt * b.toInt).natAbs ≤ 2147483648 * 2147483648 := own_mb (by omega) (by omega)
  have h4 := c_lmul a.toInt64 b.toInt64
  have h5 := rng64 (a.toInt64 * b.toInt64)
  rw [c_i2l, c_i2l] at h4
  generalize a.toInt * b.toInt = u at *
  omega
theorem own_lcg {x y : Int64} (h : y.toInt < x.toInt) : XT.cmpL x y = 1 := by
  unfold XT.cmpL; rw [if_pos (Int64.lt_iff_toInt_lt.mpr h)]
theorem own_lcl {x y : Int64} (h : ¬ y.toInt < x.toInt) : ifCond.holds .le (XT.cmpL x y) = true := by
  unfold XT.cmpL; rw [if_neg (fun q => h (Int64.lt_iff_toInt_lt.mp q))]; split <;> decide
/-- the share: r / s, or 0 -/
def own_Sh (r s : Int) (z : UInt64) : Prop := (s = 0 ∧ FP.Core.DInt 0 z) ∨ (0 < s ∧ ∃ x y, FP.Core.DInt r x ∧ FP.Core.DInt s y ∧ FP.ddiv x y = z)
/-- r / s, rounded, in units of the least double -/
def own_q (r s : Nat) : Nat := FP.Core.zmag FP.Core.b64 (FP.Core.roundRatio FP.Core.b64 false r s 0)
theorem own_near : ∀ r : Fin 16, ∀ s : Fin 30, own_q r.1 (s.1 + 1) * (s.1 + 1) ≤ r.1 * 2 ^ 1074 + 2 ^ 1030 ∧ r.1 * 2 ^ 1074 ≤ own_q r.1 (s.1 + 1) * (s.1 + 1) + 2 ^ 1030 := by decide +kernel
theorem own_qlt {r0 s0 r1 s1 : Nat} (a1 : r0 < 16) (a2 : 0 < s0) (a3 : s0 ≤ 30) (b1 : r1 < 16) (b2 : 0 < s1) (b3 : s1 ≤ 30) (h : r0 * s1 < r1 * s0) : own_q r0 s0 < own_q r1 s1 := by
  have n0 := (own_near ⟨r0, a1⟩ ⟨s0 - 1, by omega⟩).1
  have n1 := (own_near ⟨r1, b1⟩ ⟨s1 - 1, by omega⟩).2
  simp only [Nat.sub_add_cancel a2, Nat.sub_add_cancel b2] at n0 n1
  generalize hM : (2 : Nat) ^ 1074 = M at n0 n1
  generalize hE : (2 : Nat) ^ 1030 = E at n0 n1
  have hME : 61 * E < M := by rw [← hM, ← hE]; decide +kernel
  refine Nat.lt_of_not_le fun q => ?_
  have c1 : r1 * M * s0 ≤ (own_q r1 s1 * s1 + E) * s0 := Nat.mul_le_mul_right _ n1
  have c2 : own_q r1 s1 * s1 * s0 ≤ own_q r0 s0 * s0 * s1 := by
    have := Nat.mul_le_mul_right (s1 * s0) q
    calc own_q r1 s1 * s1 * s0 = own_q r1 s1 * (s1 * s0) := Nat.mul_assoc ..
      _ ≤ own_q r0 s0 * (s1 * s0) := this
      _ = own_q r0 s0 * s0 * s1 := by rw [Nat.mul_comm s1 s0, Nat.mul_assoc]
  have c3 : own_q r0 s0 * s0 * s1 ≤ (r0 * M + E) * s1 := Nat.mul_le_mul_right _ n0
  have c4 : (r0 * s1 + 1) * M ≤ r1 * s0 * M := Nat.mul_le_mul_right _ h
  have c5 : E * s0 ≤ E * 30 := Nat.mul_le_mul_left _ a3
  have c6 : E * s1 ≤ E * 30 := Nat.mul_le_mul_left _ b3
  rw [Nat.add_mul] at c1 c3 c4
  have e1 : r1 * M * s0 = r1 * s0 * M := Nat.mul_right_comm ..
  have e2 : r0 * M * s1 = r0 * s1 * M := Nat.mul_right_comm ..
  omega
theorem own_qeq {r0 s0 r1 s1 : Nat} (a2 : 0 < s0) (b2 : 0 < s1) (h : r0 * s1 = r1 * s0) : own_q r0 s0 = own_q r1 s1 := by
  unfold own_q
  rw [FP.Core.roundRatio_congr (A' := r1) (B' := s1) (e' := 0) a2 b2 (by simpa using h)]
theorem own_zq {r s : Int} {x y : UInt64} (hr : 0 ≤ r) (hs : 0 < s) (hx : FP.Core.DInt r x) (hy : FP.Core.DInt s y) : NoNaN64 (FP.ddiv x y) ∧ FP.Core.val64 (FP.ddiv x y) ≠ .nan ∧ FP.Core.zval FP.Core.b64 (FP.Core.val64 (FP.ddiv x y)) = (own_q r.natAbs s.natAbs : Int) := by
  have hx' := hx
  have hy' := hy
  unfold FP.Core.DInt at hx' hy'
  cases ex : FP.Core.val64 x with
  | nan => rw [ex] at hx'; exact hx'.elim
  | inf b => rw [ex] at hx'; exact hx'.elim
  | fin a c q =>
    cases ey : FP.Core.val64 y with
    | nan => rw [ey] at hy'; exact hy'.elim
    | inf b => rw [ey] at hy'; exact hy'.elim
    | fin b d u =>
      rw [ex] at hx'
      rw [ey] at hy'
      have hd : d ≠ 0 := fun z => by have := (FP.Core.whole_zero hy').mp z; omega
      have hb : b = false := by rw [FP.Core.whole_sign hy' (by omega)]; exact decide_eq_false (by omega)
      have hv : FP.Core.val64 (FP.ddiv x y) = FP.Core.roundRatio FP.Core.b64 a r.natAbs s.natAbs 0 := by
        show FP.Core.val64 (FP.Core.ddiv x y) = _
        rw [FP.Core.val64_ddiv, ex, ey]
        have hq : FP.Core.quotient FP.Core.b64 (.fin a c q) (.fin b d u) = FP.Core.roundRatio FP.Core.b64 (a != b) c d (q - u) := by
          unfold FP.Core.quotient
          simp [hd]
        rw [hq, hb, show (a != false) = a by cases a <;> rfl]
        refine FP.Core.roundRatio_congr (by omega) (by omega) ?_
        have n1 := FP.Core.whole_natAbs hx'
        have n2 := FP.Core.whole_natAbs hy'
        generalize r.natAbs = R at *
        generalize s.natAbs = S at *
        rw [show (q - u - 0).toNat = (q - u).toNat by omega, show (0 - (q - u)).toNat = (u - q).toNat by omega]
        have key : c * S * (2 ^ q.toNat * 2 ^ (-u).toNat) = R * d * (2 ^ (-q).toNat * 2 ^ u.toNat) := by
          calc c * S * (2 ^ q.toNat * 2 ^ (-u).toNat) = (c * 2 ^ q.toNat) * (S * 2 ^ (-u).toNat) := by rw [Nat.mul_mul_mul_comm]
            _ = (R * 2 ^ (-q).toNat) * (d * 2 ^ u.toNat) := by rw [n1, n2]
            _ = R * d * (2 ^ (-q).toNat * 2 ^ u.toNat) := by rw [Nat.mul_mul_mul_comm]
        rw [← Nat.pow_add, ← Nat.pow_add] at key
        by_cases z : u ≤ q
        · rw [show (u - q).toNat = 0 by omega, Nat.pow_zero, Nat.mul_one]
          rw [show q.toNat + (-u).toNat = (q - u).toNat + ((-q).toNat + u.toNat) by omega, Nat.pow_add, ← Nat.mul_assoc] at key
          exact Nat.eq_of_mul_eq_mul_right (Nat.two_pow_pos _) key
        · rw [show (q - u).toNat = 0 by omega, Nat.pow_zero, Nat.mul_one]
          rw [show (-q).toNat + u.toNat = (u - q).toNat + (q.toNat + (-u).toNat) by omega, Nat.pow_add _ (u - q).toNat, ← Nat.mul_assoc] at key
          exact Nat.eq_of_mul_eq_mul_right (Nat.two_pow_pos _) key
      have hn : FP.Core.val64 (FP.ddiv x y) ≠ .nan := by rw [hv]; exact FP.Core.roundRatio_ne_nan _ _ _ _ _
      refine ⟨noNaN64_no.mpr ((FP.Core.notNaN_iff _).mpr hn), hn, ?_⟩
      rw [hv]
      unfold FP.Core.zval own_q
      rw [FP.Core.sgn_roundRatio]
      by_cases r0 : r = 0
      · subst r0
        have z0 : ∀ b, FP.Core.zmag FP.Core.b64 (FP.Core.roundRatio FP.Core.b64 b (0 : Int).natAbs s.natAbs 0) = 0 := by
          intro b
          unfold FP.Core.roundRatio
          rw [if_pos (by rfl)]
          show FP.Core.inUnits 0 _ _ = 0
          unfold FP.Core.inUnits; rw [Nat.zero_mul]
        rw [z0, z0, FP.Core.signed_zero]; rfl
      · have ha : a = false := by rw [FP.Core.whole_sign hx' r0]; exact decide_eq_false (by omega)
        rw [ha]; rfl
theorem own_shz {r s : Int} {z : UInt64} (hr : 0 ≤ r) (h : own_Sh r s z) : FP.Core.val64 z ≠ .nan ∧ FP.Core.zval FP.Core.b64 (FP.Core.val64 z) = (if s = 0 then (0 : Int) else (own_q r.natAbs s.natAbs : Int)) := by
  rcases h with ⟨h1, h2⟩ | ⟨h1, x, y, h2, h3, rfl⟩
  · refine ⟨FP.Core.DInt_ne_nan h2, ?_⟩
    rw [if_pos h1, FP.Core.DInt_zval h2, Int.zero_mul]
  · rw [if_neg (by omega)]
    exact (own_zq hr h1 h2 h3).2
theorem own_q0 {s : Nat} : own_q 0 s = 0 := by
  unfold own_q FP.Core.roundRatio
  rw [if_pos rfl]
  show FP.Core.inUnits 0 _ _ = 0
  unfold FP.Core.inUnits; rw [Nat.zero_mul]
theorem own_ifle {x y : UInt64} (hx : FP.Core.val64 x ≠ .nan) (hy : FP.Core.val64 y ≠ .nan) : ifCond.holds .le (cmpValue (FP.dcmp x y) .l) = decide (FP.Core.zval FP.Core.b64 (FP.Core.val64 x) ≤ FP.Core.zval FP.Core.b64 (FP.Core.val64 y)) := by
  have e : FP.dcmp x y = some (compare (FP.Core.zval FP.Core.b64 (FP.Core.val64 x)) (FP.Core.zval FP.Core.b64 (FP.Core.val64 y))) := FP.Core.dcmp_zval hx hy
  rw [e, FP.Core.compare_ite]
  generalize FP.Core.zval FP.Core.b64 (FP.Core.val64 x) = i
  generalize FP.Core.zval FP.Core.b64 (FP.Core.val64 y) = j
  by_cases q : i < j
  · rw [if_pos q]; exact (show ifCond.holds .le (cmpValue (some .lt) .l) = true from rfl).trans (decide_eq_true (by omega)).symm
  · rw [if_neg q]
    by_cases r : i = j
    · rw [if_pos r]; exact (show ifCond.holds .le (cmpValue (some .eq) .l) = true from rfl).trans (decide_eq_true (by omega)).symm
    · rw [if_neg r]; exact (show ifCond.holds .le (cmpValue (some .gt) .l) = false from rfl).trans (decide_eq_false (by omega)).symm
theorem own_Km : FP.Core.DInt (-1) (13830554455654793216 : UInt64) := by
  have e : FP.Core.val64 13830554455654793216 = .fin true 4503599627370496 (-52) := by decide +kernel
  unfold FP.Core.DInt; rw [e]; show FP.Core.signed true (4503599627370496 * 2 ^ 0) = -1 * ((2 ^ 52 : Nat) : Int); decide +kernel
/-- the first share is above -1 -/
theorem own_first {r s : Int} {z : UInt64} (hr : 0 ≤ r) (h : own_Sh r s z) : ifCond.holds .le (cmpValue (FP.dcmp z 13830554455654793216) .l) = false := by
  obtain ⟨h1, h2⟩ := own_shz hr h
  rw [own_ifle h1 (FP.Core.DInt_ne_nan own_Km), h2, FP.Core.DInt_zval own_Km]
  refine decide_eq_false ?_
  have := FP.Core.one64_pos
  split <;> omega
/-- whether the second share is above the first -/
theorem own_second {r0 r1 s0 s1 : Int} {z0 z1 : UInt64} (a1 : 0 ≤ r0) (a2 : r0 ≤ 15) (a3 : r0 ≤ s0) (a4 : s0 ≤ 30) (b1 : 0 ≤ r1) (b2 : r1 ≤ 15) (b3 : r1 ≤ s1) (b4 : s1 ≤ 30) (h0 : own_Sh r0 s0 z0) (h1 : own_Sh r1 s1 z1) : ifCond.holds .le (cmpValue (FP.dcmp z1 z0) .l) = decide (own_w r0 r1 s0 s1 = 0) := by
  obtain ⟨c1, c2⟩ := own_shz a1 h0
  obtain ⟨d1, d2⟩ := own_shz b1 h1
  rw [own_ifle d1 c1, c2, d2]
  unfold own_w
  by_cases e1 : s1 = 0
  · rw [if_pos e1, if_pos e1]
    refine (decide_eq_true ?_).trans (decide_eq_true rfl).symm
    split <;> omega
  · rw [if_neg e1, if_neg e1]
    by_cases e0 : s0 = 0
    · rw [if_pos e0, if_pos e0]
      by_cases p : 0 < r1
      · rw [if_pos p]
        have := own_qlt (r0 := 0) (s0 := 1) (r1 := r1.natAbs) (s1 := s1.natAbs) (by decide) (by decide) (by decide) (by omega) (by omega) (by omega) (by omega)
        exact (decide_eq_false (by omega)).trans (decide_eq_false (by decide)).symm
      · rw [if_neg p]
        have : r1 = 0 := by omega
        subst this
        refine (decide_eq_true ?_).trans (decide_eq_true rfl).symm
        show ((own_q 0 s1.natAbs : Nat) : Int) ≤ 0
        rw [own_q0]; decide
    · rw [if_neg e0, if_neg e0]
      have f1 : (r0 * s1).natAbs = r0.natAbs * s1.natAbs := Int.natAbs_mul ..
      have f2 : (r1 * s0).natAbs = r1.natAbs * s0.natAbs := Int.natAbs_mul ..
      have g1 : 0 ≤ r0 * s1 := Int.mul_nonneg a1 (by omega)
      have g2 : 0 ≤ r1 * s0 := Int.mul_nonneg b1 (by omega)
      by_cases p : r0 * s1 < r1 * s0
      · rw [if_pos p]
        have := own_qlt (r0 := r0.natAbs) (s0 := s0.natAbs) (r1 := r1.natAbs) (s1 := s1.natAbs) (by omega) (by omega) (by omega) (by omega) (by omega) (by omega) (by rw [← f1, ← f2]; omega)
        exact (decide_eq_false (by omega)).trans (decide_eq_false (by decide)).symm
      · rw [if_neg p]
        refine (decide_eq_true ?_).trans (decide_eq_true rfl).symm
        by_cases z : r0 * s1 = r1 * s0
        · have := own_qeq (r0 := r0.natAbs) (s0 := s0.natAbs) (r1 := r1.natAbs) (s1 := s1.natAbs) (by omega) (by omega) (by rw [← f1, ← f2, z])
          omega
        · have := own_qlt (r0 := r1.natAbs) (s0 := s1.natAbs) (r1 := r0.natAbs) (s1 := s0.natAbs) (by omega) (by omega) (by omega) (by omega) (by omega) (by omega) (by rw [← f1, ← f2]; omega)
          omega
theorem own_D0 : FP.Core.DInt 0 (FP.dconst0) := by
  have e : FP.Core.val64 FP.dconst0 = .fin false 0 FP.Core.b64.qmin := FP.Core.val64_zero
  unfold FP.Core.DInt; rw [e]; show FP.Core.signed false (0 * 2 ^ _) = 0 * _; rw [Nat.zero_mul, Int.zero_mul]; rfl

def Q_rmW (Z : State) (r0 r1 s0 s1 : Int32) (h0 : Heap) (n0 : Nat) : Option Value → Heap → List Loc → Prop := fun v h L => v = some (.int (Int32.ofNat (own_w r0.toInt r1.toInt s0.toInt s1.toInt))) ∧ Fr n0 L ∧ h = h0
set_option maxRecDepth 65536 in
set_option maxHeartbeats 40000000 in
theorem rmW (l : Launch) (Z : State) (a0 : Array Value) (hw : ∀ d ∈ tables_1, d.before a0 Z = true) (ws : List Jvm.Cond) (r0 r1 s0 s1 : Int32) (h0 : Heap) (n0 : Nat) (Z0 : n0 ≤ h0.size)  :
    MetFree l yW (head1 (Jvm.Cond.code yW method_4_code 4 (some .int) :: ws) ({ frames := 0, cells := 0, slots := 0, locals := 0 } : Room)) (fun az Uz => az = #[(.int r0), (.int r1), (.int s0), (.int s1)] ∧ Z.Warmed39 Uz.vm ∧ Uz.heap = h0) (fun _ _ _ _ _ => True) (fun _ Uz oz Vz => ∃ vz Lz, oz = .returned vz ∧ (Q_rmW Z r0 r1 s0 s1 h0 n0) vz Vz.heap Lz ∧ FrameEnd Uz oz Vz Lz ({ frames := 0, cells := 0, slots := 0, locals := 0 } : Room).cells ({ frames := 0, cells := 0, slots := 0, locals := 0 } : Room).slots) := by
  refine MetFree.of_bodySF (plainFor_of_name pnL) hisR ?_
  intro p e s m args below meth c s₁ Bd hml0 hP hK
  obtain ⟨rfl, hZ, hh⟩ := hP
  have hx := Bd.exec
  have hby := Bd.bytes
  have hlk := BodyLoose.notSynchronized Bd
  have hml : c.maxLocals = 4 := hml0
  have hown : s.vm.findClass "com/example/skyweave/skyweave/KdTreeSplitPinLaw" = some m.cls := findClass_of_methodNamed Bd.named
  have hnm := (name_of_methodNamed Bd.named Bd.method).1
  have X0 : Stand p l e ({ frames := 0, cells := 0, slots := 0, locals := 0 } : Room) s m #[(.int r0), (.int r1), (.int s0), (.int s1)] below meth c s₁ [] 0 0 := Stand.of_body Bd
  have e0 : s₁.heap = h0 := by rw [← hh, Bd.state]; rfl
  have N0 := Fr.nil n0
  show own_Win p e below s (Q_rmW Z r0 r1 s0 s1 h0 n0) _ _ _
  refine own_st (fun tz kz => castTop (efW m r0 r1 s0 s1) kz) ?_
  show own_Win p e below s _ _ _ (s₁.setTop (mkF m 0 #[.val (.int r0), .val (.int r1), .val (.int s0), .val (.int s1)] []))
  refine own_st (fun _ kz => XS.iloadN X0.here hx rfl (hb hby dw_0) rfl kz) ?_
  show own_Win p e below s _ _ _ (s₁.setTop (mkF m 1 #[.val (.int r0), .val (.int r1), .val (.int s0), .val (.int s1)] [(.int s1)]))
  have z0 : ∀ x : Int32, x = 0 ↔ x.toInt = 0 := fun x => ⟨fun q => by rw [q]; rfl, fun q => Int32.toInt_inj.mp q⟩
  have zi : (0 : Int32).toInt = 0 := rfl
  by_cases q1 : s1 = 0
  ·
    refine own_st (fun _ kz => XS.ifNo X0.here hx rfl (hb hby dw_1) rfl (by rw [q1]; decide) kz) ?_
    show own_Win p e below s _ _ _ (s₁.setTop (mkF m 4 #[.val (.int r0), .val (.int r1), .val (.int s0), .val (.int s1)] []))
    refine own_st (fun _ kz => XS.iconst X0.here hx rfl (hb hby dw_4) kz) ?_
    show own_Win p e below s _ _ _ (s₁.setTop (mkF m 5 #[.val (.int r0), .val (.int r1), .val (.int s0), .val (.int s1)] [(.int (0 : Int32))]))
    have hv : own_w r0.toInt r1.toInt s0.toInt s1.toInt = 0 := by unfold own_w; rw [if_pos ((z0 s1).mp q1)]
    exact own_ret X0 hx hlk Bd.returns rfl (Or.inl ⟨rfl, Or.inl rfl, _, rfl⟩) (hb hby dw_5) ⟨by rw [hv]; rfl, N0, e0⟩ (Nat.le_refl _) (Nat.le_refl _)
  ·
    refine own_st (fun _ kz => XS.ifYes X0.here hx rfl (pc0 := 1) (pc' := 6) rfl (hb hby dw_1) rfl (by rw [if0]; exact (feq q1).2) (by decide) (by decide) kz) ?_
    show own_Win p e below s _ _ _ (s₁.setTop (mkF m 6 #[.val (.int r0), .val (.int r1), .val (.int s0), .val (.int s1)] []))
    refine own_st (fun _ kz => XS.iloadN X0.here hx rfl (hb hby dw_6) rfl kz) ?_
    show own_Win p e below s _ _ _ (s₁.setTop (mkF m 7 #[.val (.int r0), .val (.int r1), .val (.int s0), .val (.int s1)] [(.int s0)]))
    have t1 : ¬ s1.toInt = 0 := fun q => q1 ((z0 s1).mpr q)
    by_cases q2 : s0 = 0
    ·
      refine own_st (fun _ kz => XS.ifNo X0.here hx rfl (hb hby dw_7) rfl (by rw [q2]; decide) kz) ?_
      show own_Win p e below s _ _ _ (s₁.setTop (mkF m 10 #[.val (.int r0), .val (.int r1), .val (.int s0), .val (.int s1)] []))
      refine own_st (fun _ kz => XS.iloadN X0.here hx rfl (hb hby dw_10) rfl kz) ?_
      show own_Win p e below s _ _ _ (s₁.setTop (mkF m 11 #[.val (.int r0), .val (.int r1), .val (.int s0), .val (.int s1)] [(.int r1)]))
      by_cases q3 : 0 < r1
      ·
        refine own_st (fun _ kz => XS.ifNo X0.here hx rfl (hb hby dw_11) rfl (by rw [if0]; exact (tlt q3).2.2.2) kz) ?_
        show own_Win p e below s _ _ _ (s₁.setTop (mkF m 14 #[.val (.int r0), .val (.int r1), .val (.int s0), .val (.int s1)] []))
        refine own_st (fun _ kz => XS.iconst X0.here hx rfl (hb hby dw_14) kz) ?_
        show own_Win p e below s _ _ _ (s₁.setTop (mkF m 15 #[.val (.int r0), .val (.int r1), .val (.int s0), .val (.int s1)] [(.int (1 : Int32))]))
        refine own_st (fun _ kz => XS.goto X0.here hx rfl (pc0 := 15) (pc' := 19) rfl (hb hby dw_15) (by decide) (by decide) kz) ?_
        show own_Win p e below s _ _ _ (s₁.setTop (mkF m 19 #[.val (.int r0), .val (.int r1), .val (.int s0), .val (.int s1)] [(.int (1 : Int32))]))
        have hv : own_w r0.toInt r1.toInt s0.toInt s1.toInt = 1 := by unfold own_w; rw [if_neg t1, if_pos ((z0 s0).mp q2), if_pos (by have := Int32.lt_iff_toInt_lt.mp q3; omega)]
        exact own_ret X0 hx hlk Bd.returns rfl (Or.inl ⟨rfl, Or.inl rfl, _, rfl⟩) (hb hby dw_19) ⟨by rw [hv]; rfl, N0, e0⟩ (Nat.le_refl _) (Nat.le_refl _)
      ·
        refine own_st (fun _ kz => XS.ifYes X0.here hx rfl (pc0 := 11) (pc' := 18) rfl (hb hby dw_11) rfl (by rw [if0]; exact (flt q3).2.2.2) (by decide) (by decide) kz) ?_
        show own_Win p e below s _ _ _ (s₁.setTop (mkF m 18 #[.val (.int r0), .val (.int r1), .val (.int s0), .val (.int s1)] []))
        refine own_st (fun _ kz => XS.iconst X0.here hx rfl (hb hby dw_18) kz) ?_
        show own_Win p e below s _ _ _ (s₁.setTop (mkF m 19 #[.val (.int r0), .val (.int r1), .val (.int s0), .val (.int s1)] [(.int (0 : Int32))]))
        have hv : own_w r0.toInt r1.toInt s0.toInt s1.toInt = 0 := by unfold own_w; rw [if_neg t1, if_pos ((z0 s0).mp q2), if_neg (fun z => q3 (Int32.lt_iff_toInt_lt.mpr (by omega)))]
        exact own_ret X0 hx hlk Bd.returns rfl (Or.inl ⟨rfl, Or.inl rfl, _, rfl⟩) (hb hby dw_19) ⟨by rw [hv]; rfl, N0, e0⟩ (Nat.le_refl _) (Nat.le_refl _)
    ·
      refine own_st (fun _ kz => XS.ifYes X0.here hx rfl (pc0 := 7) (pc' := 20) rfl (hb hby dw_7) rfl (by rw [if0]; exact (feq q2).2) (by decide) (by decide) kz) ?_
      show own_Win p e below s _ _ _ (s₁.setTop (mkF m 20 #[.val (.int r0), .val (.int r1), .val (.int s0), .val (.int s1)] []))
      refine own_st (fun _ kz => XS.iloadN X0.here hx rfl (hb hby dw_20) rfl kz) ?_
      show own_Win p e below s _ _ _ (s₁.setTop (mkF m 21 #[.val (.int r0), .val (.int r1), .val (.int s0), .val (.int s1)] [(.int r1)]))
      refine own_st (fun _ kz => XT.i2l X0.here hx rfl (hb hby dw_21) rfl kz) ?_
      show own_Win p e below s _ _ _ (s₁.setTop (mkF m 22 #[.val (.int r0), .val (.int r1), .val (.int s0), .val (.int s1)] [(.long (r1.toInt64))]))
      refine own_st (fun _ kz => XS.iloadN X0.here hx rfl (hb hby dw_22) rfl kz) ?_
      show own_Win p e below s _ _ _ (s₁.setTop (mkF m 23 #[.val (.int r0), .val (.int r1), .val (.int s0), .val (.int s1)] [(.int s0), (.long (r1.toInt64))]))
      refine own_st (fun _ kz => XT.i2l X0.here hx rfl (hb hby dw_23) rfl kz) ?_
      show own_Win p e below s _ _ _ (s₁.setTop (mkF m 24 #[.val (.int r0), .val (.int r1), .val (.int s0), .val (.int s1)] [(.long (s0.toInt64)), (.long (r1.toInt64))]))
      refine own_st (fun _ kz => XT.lmul X0.here hx rfl (hb hby dw_24) rfl kz) ?_
      show own_Win p e below s _ _ _ (s₁.setTop (mkF m 25 #[.val (.int r0), .val (.int r1), .val (.int s0), .val (.int s1)] [(.long ((r1.toInt64) * (s0.toInt64)))]))
      refine own_st (fun _ kz => XS.iloadN X0.here hx rfl (hb hby dw_25) rfl kz) ?_
      show own_Win p e below s _ _ _ (s₁.setTop (mkF m 26 #[.val (.int r0), .val (.int r1), .val (.int s0), .val (.int s1)] [(.int r0), (.long ((r1.toInt64) * (s0.toInt64)))]))
      refine own_st (fun _ kz => XT.i2l X0.here hx rfl (hb hby dw_26) rfl kz) ?_
      show own_Win p e below s _ _ _ (s₁.setTop (mkF m 27 #[.val (.int r0), .val (.int r1), .val (.int s0), .val (.int s1)] [(.long (r0.toInt64)), (.long ((r1.toInt64) * (s0.toInt64)))]))
      refine own_st (fun _ kz => XS.iloadN X0.here hx rfl (hb hby dw_27) rfl kz) ?_
      show own_Win p e below s _ _ _ (s₁.setTop (mkF m 28 #[.val (.int r0), .val (.int r1), .val (.int s0), .val (.int s1)] [(.int s1), (.long (r0.toInt64)), (.long ((r1.toInt64) * (s0.toInt64)))]))
      refine own_st (fun _ kz => XT.i2l X0.here hx rfl (hb hby dw_28) rfl kz) ?_
      show own_Win p e below s _ _ _ (s₁.setTop (mkF m 29 #[.val (.int r0), .val (.int r1), .val (.int s0), .val (.int s1)] [(.long (s1.toInt64)), (.long (r0.toInt64)), (.long ((r1.toInt64) * (s0.toInt64)))]))
      refine own_st (fun _ kz => XT.lmul X0.here hx rfl (hb hby dw_29) rfl kz) ?_
      show own_Win p e below s _ _ _ (s₁.setTop (mkF m 30 #[.val (.int r0), .val (.int r1), .val (.int s0), .val (.int s1)] [(.long ((r0.toInt64) * (s1.toInt64))), (.long ((r1.toInt64) * (s0.toInt64)))]))
      refine own_st (fun _ kz => XT.lcmp X0.here hx rfl (hb hby dw_30) rfl kz) ?_
      show own_Win p e below s _ _ _ (s₁.setTop (mkF m 31 #[.val (.int r0), .val (.int r1), .val (.int s0), .val (.int s1)] [(.int (XT.cmpL ((r1.toInt64) * (s0.toInt64)) ((r0.toInt64) * (s1.toInt64))))]))
      have t2 : ¬ s0.toInt = 0 := fun q => q2 ((z0 s0).mpr q)
      by_cases q3 : r0.toInt * s1.toInt < r1.toInt * s0.toInt
      ·
        refine own_st (fun _ kz => XS.ifNo X0.here hx rfl (hb hby dw_31) rfl (by rw [own_lcg (by rw [own_ll, own_ll]; exact q3)]; decide) kz) ?_
        show own_Win p e below s _ _ _ (s₁.setTop (mkF m 34 #[.val (.int r0), .val (.int r1), .val (.int s0), .val (.int s1)] []))
        refine own_st (fun _ kz => XS.iconst X0.here hx rfl (hb hby dw_34) kz) ?_
        show own_Win p e below s _ _ _ (s₁.setTop (mkF m 35 #[.val (.int r0), .val (.int r1), .val (.int s0), .val (.int s1)] [(.int (1 : Int32))]))
        refine own_st (fun _ kz => XS.goto X0.here hx rfl (pc0 := 35) (pc' := 39) rfl (hb hby dw_35) (by decide) (by decide) kz) ?_
        show own_Win p e below s _ _ _ (s₁.setTop (mkF m 39 #[.val (.int r0), .val (.int r1), .val (.int s0), .val (.int s1)] [(.int (1 : Int32))]))
        have hv : own_w r0.toInt r1.toInt s0.toInt s1.toInt = 1 := by unfold own_w; rw [if_neg t1, if_neg t2, if_pos q3]
        exact own_ret X0 hx hlk Bd.returns rfl (Or.inl ⟨rfl, Or.inl rfl, _, rfl⟩) (hb hby dw_39) ⟨by rw [hv]; rfl, N0, e0⟩ (Nat.le_refl _) (Nat.le_refl _)
      ·
        refine own_st (fun _ kz => XS.ifYes X0.here hx rfl (pc0 := 31) (pc' := 38) rfl (hb hby dw_31) rfl (own_lcl (by rw [own_ll, own_ll]; exact q3)) (by decide) (by decide) kz) ?_
        show own_Win p e below s _ _ _ (s₁.setTop (mkF m 38 #[.val (.int r0), .val (.int r1), .val (.int s0), .val (.int s1)] []))
        refine own_st (fun _ kz => XS.iconst X0.here hx rfl (hb hby dw_38) kz) ?_
        show own_Win p e below s _ _ _ (s₁.setTop (mkF m 39 #[.val (.int r0), .val (.int r1), .val (.int s0), .val (.int s1)] [(.int (0 : Int32))]))
        have hv : own_w r0.toInt r1.toInt s0.toInt s1.toInt = 0 := by unfold own_w; rw [if_neg t1, if_neg t2, if_neg q3]
        exact own_ret X0 hx hlk Bd.returns rfl (Or.inl ⟨rfl, Or.inl rfl, _, rfl⟩) (hb hby dw_39) ⟨by rw [hv]; rfl, N0, e0⟩ (Nat.le_refl _) (Nat.le_refl _)
def Q_rmQ (Z : State) (t aI aP aF aT aL aH aA aB : Nat) (wv gv kv sv mv ev av sp : Int32) (k sN mid eN w : Nat) (σ : Nat → Nat) (O : Nat → Nat → UInt64) (V : Nat → Nat → Int) (h0 : Heap) (n0 : Nat) : Option Value → Heap → List Loc → Prop := fun v h L => v = some (.int ((1 : Int32) <<< (own_I σ k &&& 31))) ∧ Fr n0 L ∧ h = h0
set_option maxRecDepth 65536 in
set_option maxHeartbeats 40000000 in
theorem rmQ (l : Launch) (Z : State) (a0 : Array Value) (hw : ∀ d ∈ tables_1, d.before a0 Z = true) (ws : List Jvm.Cond) (t aI aP aF aT aL aH aA aB : Nat) (wv gv kv sv mv ev av sp : Int32) (k sN mid eN w : Nat) (σ : Nat → Nat) (O : Nat → Nat → UInt64) (V : Nat → Nat → Int) (h0 : Heap) (n0 : Nat) (Z0 : n0 ≤ h0.size) (FS : own_Fs Z h0 t wv gv aI aP aF aT aL aH) (FI : own_Ia Z h0 aI 18 (own_I σ)) (FQ : own_Da Z h0 aP 36 (own_P O σ)) (FA : own_Da Z h0 aA 18 (O 0)) (FB : own_Da Z h0 aB 18 (O 1)) (hk : kv.toInt = (k : Int)) (k18 : k < 18) (hs : sv.toInt = (sN : Int)) (hm : mv.toInt = (mid : Int)) (m18 : mid < 18) (he : ev.toInt = (eN : Int)) (ha : av.toInt = (w : Int)) (w2 : w < 2) (hσ : ∀ k, k < 18 → σ k < 18) (hD : ∀ u d, u < 2 → d < 18 → FP.Core.DInt (V u d) (O u d)) (hsp : sp = 0 ∨ sp = 1) (hid : sp = 0 ∨ k < sN ∨ eN ≤ k → σ k = k) (hpt : sp = 1 → own_Part (fun k => V w (σ k)) sN eN mid) :
    MetFree l yQ (head1 (Jvm.Cond.code yQ method_5_code 15 (some .int) :: ws) ({ frames := 0, cells := 0, slots := 0, locals := 0 } : Room)) (fun az Uz => az = #[(.ref t), (.int kv), (.int sv), (.int mv), (.int ev), (.int av), (.ref aA), (.ref aB), (.int sp)] ∧ Z.Warmed39 Uz.vm ∧ Uz.heap = h0) (fun _ _ _ _ _ => True) (fun _ Uz oz Vz => ∃ vz Lz, oz = .returned vz ∧ (Q_rmQ Z t aI aP aF aT aL aH aA aB wv gv kv sv mv ev av sp k sN mid eN w σ O V h0 n0) vz Vz.heap Lz ∧ FrameEnd Uz oz Vz Lz ({ frames := 0, cells := 0, slots := 0, locals := 0 } : Room).cells ({ frames := 0, cells := 0, slots := 0, locals := 0 } : Room).slots) := by
  refine MetFree.of_bodySF (plainFor_of_name pnL) hisR ?_
  intro p e s m args below meth c s₁ Bd hml0 hP hK
  obtain ⟨rfl, hZ, hh⟩ := hP
  have hx := Bd.exec
  have hby := Bd.bytes
  have hlk := BodyLoose.notSynchronized Bd
  have hml : c.maxLocals = 15 := hml0
  have hown : s.vm.findClass "com/example/skyweave/skyweave/KdTreeSplitPinLaw" = some m.cls := findClass_of_methodNamed Bd.named
  have hnm := (name_of_methodNamed Bd.named Bd.method).1
  have X0 : Stand p l e ({ frames := 0, cells := 0, slots := 0, locals := 0 } : Room) s m #[(.ref t), (.int kv), (.int sv), (.int mv), (.int ev), (.int av), (.ref aA), (.ref aB), (.int sp)] below meth c s₁ [] 0 0 := Stand.of_body Bd
  have e0 : s₁.heap = h0 := by rw [← hh, Bd.state]; rfl
  have N0 := Fr.nil n0
  show own_Win p e below s (Q_rmQ Z t aI aP aF aT aL aH aA aB wv gv kv sv mv ev av sp k sN mid eN w σ O V h0 n0) _ _ _
  refine own_st (fun tz kz => castTop (efQ m t kv sv mv ev av aA aB sp) kz) ?_
  have s18 := hσ k k18
  have hI : (own_I σ k).toInt = ((σ k : Nat) : Int) := own_ofNat (by omega)
  have zi : (0 : Int32).toInt = 0 := rfl
  have zj : (18 : Int32).toInt = 18 := rfl
  show own_Win p e below s _ _ _ (s₁.setTop (mkF m 0 #[.val (.ref t), .val (.int kv), .val (.int sv), .val (.int mv), .val (.int ev), .val (.int av), .val (.ref aA), .val (.ref aB), .val (.int sp), .unset, .unset, .unset, .unset, .unset, .unset] []))
  refine own_st (fun _ kz => XS.aloadN X0.here hx rfl (hb hby dq_0) rfl rfl kz) ?_
  show own_Win p e below s _ _ _ (s₁.setTop (mkF m 1 #[.val (.ref t), .val (.int kv), .val (.int sv), .val (.int mv), .val (.int ev), .val (.int av), .val (.ref aA), .val (.ref aB), .val (.int sp), .unset, .unset, .unset, .unset, .unset, .unset] [(.ref t)]))
  obtain ⟨T1, X1, e1, st1⟩ := getF X0 hx hZ hown (host := "") (Or.inl (hw _ (List.mem_of_getElem? (i := 48) rfl))) Via.refl e0 FS.2.2.1 (g := (mkF m 1 #[.val (.ref t), .val (.int kv), .val (.int sv), .val (.int mv), .val (.int ev), .val (.int av), .val (.ref aA), .val (.ref aB), .val (.int sp), .unset, .unset, .unset, .unset, .unset, .unset] [(.ref t)])) rfl rfl (hb hby dq_1)
  refine own_st st1 ?_
  show own_Win p e below s _ _ _ (T1.setTop (mkF m 4 #[.val (.ref t), .val (.int kv), .val (.int sv), .val (.int mv), .val (.int ev), .val (.int av), .val (.ref aA), .val (.ref aB), .val (.int sp), .unset, .unset, .unset, .unset, .unset, .unset] [(.ref aI)]))
  refine own_st (fun _ kz => XS.iloadN X1.here hx rfl (hb hby dq_4) rfl kz) ?_
  show own_Win p e below s _ _ _ (T1.setTop (mkF m 5 #[.val (.ref t), .val (.int kv), .val (.int sv), .val (.int mv), .val (.int ev), .val (.int av), .val (.ref aA), .val (.ref aB), .val (.int sp), .unset, .unset, .unset, .unset, .unset, .unset] [(.int kv), (.ref aI)]))
  refine own_iaload X1 hx hZ e1 FI (i := k) hk k18 (x := (own_I σ k)) rfl rfl rfl (hb hby dq_5) ?_
  show own_Win p e below s _ _ _ (T1.setTop (mkF m 6 #[.val (.ref t), .val (.int kv), .val (.int sv), .val (.int mv), .val (.int ev), .val (.int av), .val (.ref aA), .val (.ref aB), .val (.int sp), .unset, .unset, .unset, .unset, .unset, .unset] [(.int (own_I σ k))]))
  refine own_st (fun _ kz => XS.istore X1.here hx rfl (hb hby dq_6) rfl (l' := #[.val (.ref t), .val (.int kv), .val (.int sv), .val (.int mv), .val (.int ev), .val (.int av), .val (.ref aA), .val (.ref aB), .val (.int sp), .val (.int (own_I σ k)), .unset, .unset, .unset, .unset, .unset]) rfl kz) ?_
  show own_Win p e below s _ _ _ (T1.setTop (mkF m 8 #[.val (.ref t), .val (.int kv), .val (.int sv), .val (.int mv), .val (.int ev), .val (.int av), .val (.ref aA), .val (.ref aB), .val (.int sp), .val (.int (own_I σ k)), .unset, .unset, .unset, .unset, .unset] []))
  refine own_st (fun _ kz => XS.iload X1.here hx rfl (hb hby dq_8) rfl kz) ?_
  show own_Win p e below s _ _ _ (T1.setTop (mkF m 10 #[.val (.ref t), .val (.int kv), .val (.int sv), .val (.int mv), .val (.int ev), .val (.int av), .val (.ref aA), .val (.ref aB), .val (.int sp), .val (.int (own_I σ k)), .unset, .unset, .unset, .unset, .unset] [(.int (own_I σ k))]))
  refine own_st (fun _ kz => XS.ifNo X1.here hx rfl (hb hby dq_10) rfl (by rw [if0]; refine (flt ?_).1; rw [Int32.lt_iff_toInt_lt]; omega) kz) ?_
  show own_Win p e below s _ _ _ (T1.setTop (mkF m 13 #[.val (.ref t), .val (.int kv), .val (.int sv), .val (.int mv), .val (.int ev), .val (.int av), .val (.ref aA), .val (.ref aB), .val (.int sp), .val (.int (own_I σ k)), .unset, .unset, .unset, .unset, .unset] []))
  refine own_st (fun _ kz => XS.iload X1.here hx rfl (hb hby dq_13) rfl kz) ?_
  show own_Win p e below s _ _ _ (T1.setTop (mkF m 15 #[.val (.ref t), .val (.int kv), .val (.int sv), .val (.int mv), .val (.int ev), .val (.int av), .val (.ref aA), .val (.ref aB), .val (.int sp), .val (.int (own_I σ k)), .unset, .unset, .unset, .unset, .unset] [(.int (own_I σ k))]))
  refine own_st (fun _ kz => XS.bipush X1.here hx rfl (hb hby dq_15) kz) ?_
  show own_Win p e below s _ _ _ (T1.setTop (mkF m 17 #[.val (.ref t), .val (.int kv), .val (.int sv), .val (.int mv), .val (.int ev), .val (.int av), .val (.ref aA), .val (.ref aB), .val (.int sp), .val (.int (own_I σ k)), .unset, .unset, .unset, .unset, .unset] [(.int (18 : Int32)), (.int (own_I σ k))]))
  refine own_st (fun _ kz => XS.icmpYes X1.here hx rfl (pc0 := 17) (pc' := 22) rfl (hb hby dq_17) rfl (by refine (tlt ?_).1; rw [Int32.lt_iff_toInt_lt]; omega) (by decide) (by decide) kz) ?_
  show own_Win p e below s _ _ _ (T1.setTop (mkF m 22 #[.val (.ref t), .val (.int kv), .val (.int sv), .val (.int mv), .val (.int ev), .val (.int av), .val (.ref aA), .val (.ref aB), .val (.int sp), .val (.int (own_I σ k)), .unset, .unset, .unset, .unset, .unset] []))
  have tl : ∀ b : Int32, ((b = 0 ∧ (k < sN ∨ eN ≤ k)) ∨ (b = 1 ∧ sN ≤ k ∧ k < eN)) → own_Win p e below s (Q_rmQ Z t aI aP aF aT aL aH aA aB wv gv kv sv mv ev av sp k sN mid eN w σ O V h0 n0) ({ frames := 0, cells := 0, slots := 0, locals := 0 } : Room).cells ({ frames := 0, cells := 0, slots := 0, locals := 0 } : Room).slots (T1.setTop (mkF m 38 #[.val (.ref t), .val (.int kv), .val (.int sv), .val (.int mv), .val (.int ev), .val (.int av), .val (.ref aA), .val (.ref aB), .val (.int sp), .val (.int (own_I σ k)), .unset, .unset, .unset, .unset, .unset] [.int b])) := by
    intro b hbb
    show own_Win p e below s _ _ _ (T1.setTop (mkF m 38 #[.val (.ref t), .val (.int kv), .val (.int sv), .val (.int mv), .val (.int ev), .val (.int av), .val (.ref aA), .val (.ref aB), .val (.int sp), .val (.int (own_I σ k)), .unset, .unset, .unset, .unset, .unset] [(.int b)]))
    refine own_st (fun _ kz => XS.istore X1.here hx rfl (hb hby dq_38) rfl (l' := #[.val (.ref t), .val (.int kv), .val (.int sv), .val (.int mv), .val (.int ev), .val (.int av), .val (.ref aA), .val (.ref aB), .val (.int sp), .val (.int (own_I σ k)), .val (.int b), .unset, .unset, .unset, .unset]) rfl kz) ?_
    show own_Win p e below s _ _ _ (T1.setTop (mkF m 40 #[.val (.ref t), .val (.int kv), .val (.int sv), .val (.int mv), .val (.int ev), .val (.int av), .val (.ref aA), .val (.ref aB), .val (.int sp), .val (.int (own_I σ k)), .val (.int b), .unset, .unset, .unset, .unset] []))
    refine own_st (fun _ kz => XS.iload X1.here hx rfl (hb hby dq_40) rfl kz) ?_
    show own_Win p e below s _ _ _ (T1.setTop (mkF m 42 #[.val (.ref t), .val (.int kv), .val (.int sv), .val (.int mv), .val (.int ev), .val (.int av), .val (.ref aA), .val (.ref aB), .val (.int sp), .val (.int (own_I σ k)), .val (.int b), .unset, .unset, .unset, .unset] [(.int b)]))
    rcases hbb with ⟨b0, hin⟩ | ⟨b1, i1, i2⟩
    ·
      refine own_st (fun _ kz => XS.ifYes X1.here hx rfl (pc0 := 42) (pc' := 50) rfl (hb hby dq_42) rfl (by rw [b0]; decide) (by decide) (by decide) kz) ?_
      show own_Win p e below s _ _ _ (T1.setTop (mkF m 50 #[.val (.ref t), .val (.int kv), .val (.int sv), .val (.int mv), .val (.int ev), .val (.int av), .val (.ref aA), .val (.ref aB), .val (.int sp), .val (.int (own_I σ k)), .val (.int b), .unset, .unset, .unset, .unset] []))
      refine own_st (fun _ kz => XS.iload X1.here hx rfl (hb hby dq_50) rfl kz) ?_
      show own_Win p e below s _ _ _ (T1.setTop (mkF m 52 #[.val (.ref t), .val (.int kv), .val (.int sv), .val (.int mv), .val (.int ev), .val (.int av), .val (.ref aA), .val (.ref aB), .val (.int sp), .val (.int (own_I σ k)), .val (.int b), .unset, .unset, .unset, .unset] [(.int (own_I σ k))]))
      refine own_st (fun _ kz => XS.iloadN X1.here hx rfl (hb hby dq_52) rfl kz) ?_
      show own_Win p e below s _ _ _ (T1.setTop (mkF m 53 #[.val (.ref t), .val (.int kv), .val (.int sv), .val (.int mv), .val (.int ev), .val (.int av), .val (.ref aA), .val (.ref aB), .val (.int sp), .val (.int (own_I σ k)), .val (.int b), .unset, .unset, .unset, .unset] [(.int kv), (.int (own_I σ k))]))
      have hkk : own_I σ k = kv := Int32.toInt_inj.mp (by rw [hI, hid (Or.inr hin), hk])
      refine own_st (fun _ kz => XS.icmpYes X1.here hx rfl (pc0 := 53) (pc' := 58) rfl (hb hby dq_53) rfl (teq hkk).1 (by decide) (by decide) kz) ?_
      show own_Win p e below s _ _ _ (T1.setTop (mkF m 58 #[.val (.ref t), .val (.int kv), .val (.int sv), .val (.int mv), .val (.int ev), .val (.int av), .val (.ref aA), .val (.ref aB), .val (.int sp), .val (.int (own_I σ k)), .val (.int b), .unset, .unset, .unset, .unset] []))
      refine own_st (fun _ kz => XS.aloadN X1.here hx rfl (hb hby dq_58) rfl rfl kz) ?_
      show own_Win p e below s _ _ _ (T1.setTop (mkF m 59 #[.val (.ref t), .val (.int kv), .val (.int sv), .val (.int mv), .val (.int ev), .val (.int av), .val (.ref aA), .val (.ref aB), .val (.int sp), .val (.int (own_I σ k)), .val (.int b), .unset, .unset, .unset, .unset] [(.ref t)]))
      obtain ⟨T2, X2, e2, st2⟩ := getF X1 hx hZ hown (host := "") (Or.inl (hw _ (List.mem_of_getElem? (i := 49) rfl))) Via.refl e1 FS.2.2.2.1 (g := (mkF m 59 #[.val (.ref t), .val (.int kv), .val (.int sv), .val (.int mv), .val (.int ev), .val (.int av), .val (.ref aA), .val (.ref aB), .val (.int sp), .val (.int (own_I σ k)), .val (.int b), .unset, .unset, .unset, .unset] [(.ref t)])) rfl rfl (hb hby dq_59)
      refine own_st st2 ?_
      show own_Win p e below s _ _ _ (T2.setTop (mkF m 62 #[.val (.ref t), .val (.int kv), .val (.int sv), .val (.int mv), .val (.int ev), .val (.int av), .val (.ref aA), .val (.ref aB), .val (.int sp), .val (.int (own_I σ k)), .val (.int b), .unset, .unset, .unset, .unset] [(.ref aP)]))
      refine own_st (fun _ kz => XS.iconst X2.here hx rfl (hb hby dq_62) kz) ?_
      show own_Win p e below s _ _ _ (T2.setTop (mkF m 63 #[.val (.ref t), .val (.int kv), .val (.int sv), .val (.int mv), .val (.int ev), .val (.int av), .val (.ref aA), .val (.ref aB), .val (.int sp), .val (.int (own_I σ k)), .val (.int b), .unset, .unset, .unset, .unset] [(.int (2 : Int32)), (.ref aP)]))
      refine own_st (fun _ kz => XS.iloadN X2.here hx rfl (hb hby dq_63) rfl kz) ?_
      show own_Win p e below s _ _ _ (T2.setTop (mkF m 64 #[.val (.ref t), .val (.int kv), .val (.int sv), .val (.int mv), .val (.int ev), .val (.int av), .val (.ref aA), .val (.ref aB), .val (.int sp), .val (.int (own_I σ k)), .val (.int b), .unset, .unset, .unset, .unset] [(.int kv), (.int (2 : Int32)), (.ref aP)]))
      refine own_st (fun _ kz => XS.imul X2.here hx rfl (hb hby dq_64) rfl kz) ?_
      show own_Win p e below s _ _ _ (T2.setTop (mkF m 65 #[.val (.ref t), .val (.int kv), .val (.int sv), .val (.int mv), .val (.int ev), .val (.int av), .val (.ref aA), .val (.ref aB), .val (.int sp), .val (.int (own_I σ k)), .val (.int b), .unset, .unset, .unset, .unset] [(.int ((2 : Int32) * kv)), (.ref aP)]))
      refine own_daload X2 hx hZ e2 FQ (i := (2 * k)) (own_x2 hk k18) (by omega) (x := (O 0 (σ k))) (own_P_at O σ k 0 (by decide)) rfl rfl (hb hby dq_65) ?_
      show own_Win p e below s _ _ _ (T2.setTop (mkF m 66 #[.val (.ref t), .val (.int kv), .val (.int sv), .val (.int mv), .val (.int ev), .val (.int av), .val (.ref aA), .val (.ref aB), .val (.int sp), .val (.int (own_I σ k)), .val (.int b), .unset, .unset, .unset, .unset] [(.double (O 0 (σ k)))]))
      refine own_st (fun _ kz => XS.aload X2.here hx rfl (hb hby dq_66) rfl rfl kz) ?_
      show own_Win p e below s _ _ _ (T2.setTop (mkF m 68 #[.val (.ref t), .val (.int kv), .val (.int sv), .val (.int mv), .val (.int ev), .val (.int av), .val (.ref aA), .val (.ref aB), .val (.int sp), .val (.int (own_I σ k)), .val (.int b), .unset, .unset, .unset, .unset] [(.ref aA), (.double (O 0 (σ k)))]))
      refine own_st (fun _ kz => XS.iload X2.here hx rfl (hb hby dq_68) rfl kz) ?_
      show own_Win p e below s _ _ _ (T2.setTop (mkF m 70 #[.val (.ref t), .val (.int kv), .val (.int sv), .val (.int mv), .val (.int ev), .val (.int av), .val (.ref aA), .val (.ref aB), .val (.int sp), .val (.int (own_I σ k)), .val (.int b), .unset, .unset, .unset, .unset] [(.int (own_I σ k)), (.ref aA), (.double (O 0 (σ k)))]))
      refine own_daload X2 hx hZ e2 FA (i := (σ k)) hI s18 (x := (O 0 (σ k))) rfl rfl rfl (hb hby dq_70) ?_
      show own_Win p e below s _ _ _ (T2.setTop (mkF m 71 #[.val (.ref t), .val (.int kv), .val (.int sv), .val (.int mv), .val (.int ev), .val (.int av), .val (.ref aA), .val (.ref aB), .val (.int sp), .val (.int (own_I σ k)), .val (.int b), .unset, .unset, .unset, .unset] [(.double (O 0 (σ k))), (.double (O 0 (σ k)))]))
      refine own_st (fun _ kz => XS.dcmpS X2.here hx rfl (hb hby dq_71) rfl rfl kz) ?_
      show own_Win p e below s _ _ _ (T2.setTop (mkF m 72 #[.val (.ref t), .val (.int kv), .val (.int sv), .val (.int mv), .val (.int ev), .val (.int av), .val (.ref aA), .val (.ref aB), .val (.int sp), .val (.int (own_I σ k)), .val (.int b), .unset, .unset, .unset, .unset] [(.int (cmpValue (FP.dcmp (O 0 (σ k)) (O 0 (σ k))) .l))]))
      refine own_st (fun _ kz => XS.ifNo X2.here hx rfl (hb hby dq_72) rfl (by rw [own_hc (hD 0 _ (by decide) s18) (hD 0 _ (by decide) s18)]; exact decide_eq_false (by omega)) kz) ?_
      show own_Win p e below s _ _ _ (T2.setTop (mkF m 75 #[.val (.ref t), .val (.int kv), .val (.int sv), .val (.int mv), .val (.int ev), .val (.int av), .val (.ref aA), .val (.ref aB), .val (.int sp), .val (.int (own_I σ k)), .val (.int b), .unset, .unset, .unset, .unset] []))
      refine own_st (fun _ kz => XS.aloadN X2.here hx rfl (hb hby dq_75) rfl rfl kz) ?_
      show own_Win p e below s _ _ _ (T2.setTop (mkF m 76 #[.val (.ref t), .val (.int kv), .val (.int sv), .val (.int mv), .val (.int ev), .val (.int av), .val (.ref aA), .val (.ref aB), .val (.int sp), .val (.int (own_I σ k)), .val (.int b), .unset, .unset, .unset, .unset] [(.ref t)]))
      obtain ⟨T3, X3, e3, st3⟩ := getF X2 hx hZ hown (host := "") (Or.inl (hw _ (List.mem_of_getElem? (i := 49) rfl))) Via.refl e2 FS.2.2.2.1 (g := (mkF m 76 #[.val (.ref t), .val (.int kv), .val (.int sv), .val (.int mv), .val (.int ev), .val (.int av), .val (.ref aA), .val (.ref aB), .val (.int sp), .val (.int (own_I σ k)), .val (.int b), .unset, .unset, .unset, .unset] [(.ref t)])) rfl rfl (hb hby dq_76)
      refine own_st st3 ?_
      show own_Win p e below s _ _ _ (T3.setTop (mkF m 79 #[.val (.ref t), .val (.int kv), .val (.int sv), .val (.int mv), .val (.int ev), .val (.int av), .val (.ref aA), .val (.ref aB), .val (.int sp), .val (.int (own_I σ k)), .val (.int b), .unset, .unset, .unset, .unset] [(.ref aP)]))
      refine own_st (fun _ kz => XS.iconst X3.here hx rfl (hb hby dq_79) kz) ?_
      show own_Win p e below s _ _ _ (T3.setTop (mkF m 80 #[.val (.ref t), .val (.int kv), .val (.int sv), .val (.int mv), .val (.int ev), .val (.int av), .val (.ref aA), .val (.ref aB), .val (.int sp), .val (.int (own_I σ k)), .val (.int b), .unset, .unset, .unset, .unset] [(.int (2 : Int32)), (.ref aP)]))
      refine own_st (fun _ kz => XS.iloadN X3.here hx rfl (hb hby dq_80) rfl kz) ?_
      show own_Win p e below s _ _ _ (T3.setTop (mkF m 81 #[.val (.ref t), .val (.int kv), .val (.int sv), .val (.int mv), .val (.int ev), .val (.int av), .val (.ref aA), .val (.ref aB), .val (.int sp), .val (.int (own_I σ k)), .val (.int b), .unset, .unset, .unset, .unset] [(.int kv), (.int (2 : Int32)), (.ref aP)]))
      refine own_st (fun _ kz => XS.imul X3.here hx rfl (hb hby dq_81) rfl kz) ?_
      show own_Win p e below s _ _ _ (T3.setTop (mkF m 82 #[.val (.ref t), .val (.int kv), .val (.int sv), .val (.int mv), .val (.int ev), .val (.int av), .val (.ref aA), .val (.ref aB), .val (.int sp), .val (.int (own_I σ k)), .val (.int b), .unset, .unset, .unset, .unset] [(.int ((2 : Int32) * kv)), (.ref aP)]))
      refine own_st (fun _ kz => XS.iconst X3.here hx rfl (hb hby dq_82) kz) ?_
      show own_Win p e below s _ _ _ (T3.setTop (mkF m 83 #[.val (.ref t), .val (.int kv), .val (.int sv), .val (.int mv), .val (.int ev), .val (.int av), .val (.ref aA), .val (.ref aB), .val (.int sp), .val (.int (own_I σ k)), .val (.int b), .unset, .unset, .unset, .unset] [(.int (1 : Int32)), (.int ((2 : Int32) * kv)), (.ref aP)]))
      refine own_st (fun _ kz => XS.iadd X3.here hx rfl (hb hby dq_83) rfl kz) ?_
      show own_Win p e below s _ _ _ (T3.setTop (mkF m 84 #[.val (.ref t), .val (.int kv), .val (.int sv), .val (.int mv), .val (.int ev), .val (.int av), .val (.ref aA), .val (.ref aB), .val (.int sp), .val (.int (own_I σ k)), .val (.int b), .unset, .unset, .unset, .unset] [(.int (((2 : Int32) * kv) + (1 : Int32))), (.ref aP)]))
      refine own_daload X3 hx hZ e3 FQ (i := (2 * k + 1)) (own_x3 hk k18 (yv := 1) (y := 1) rfl (by decide)) (by omega) (x := (O 1 (σ k))) (own_P_at O σ k 1 (by decide)) rfl rfl (hb hby dq_84) ?_
      show own_Win p e below s _ _ _ (T3.setTop (mkF m 85 #[.val (.ref t), .val (.int kv), .val (.int sv), .val (.int mv), .val (.int ev), .val (.int av), .val (.ref aA), .val (.ref aB), .val (.int sp), .val (.int (own_I σ k)), .val (.int b), .unset, .unset, .unset, .unset] [(.double (O 1 (σ k)))]))
      refine own_st (fun _ kz => XS.aload X3.here hx rfl (hb hby dq_85) rfl rfl kz) ?_
      show own_Win p e below s _ _ _ (T3.setTop (mkF m 87 #[.val (.ref t), .val (.int kv), .val (.int sv), .val (.int mv), .val (.int ev), .val (.int av), .val (.ref aA), .val (.ref aB), .val (.int sp), .val (.int (own_I σ k)), .val (.int b), .unset, .unset, .unset, .unset] [(.ref aB), (.double (O 1 (σ k)))]))
      refine own_st (fun _ kz => XS.iload X3.here hx rfl (hb hby dq_87) rfl kz) ?_
      show own_Win p e below s _ _ _ (T3.setTop (mkF m 89 #[.val (.ref t), .val (.int kv), .val (.int sv), .val (.int mv), .val (.int ev), .val (.int av), .val (.ref aA), .val (.ref aB), .val (.int sp), .val (.int (own_I σ k)), .val (.int b), .unset, .unset, .unset, .unset] [(.int (own_I σ k)), (.ref aB), (.double (O 1 (σ k)))]))
      refine own_daload X3 hx hZ e3 FB (i := (σ k)) hI s18 (x := (O 1 (σ k))) rfl rfl rfl (hb hby dq_89) ?_
      show own_Win p e below s _ _ _ (T3.setTop (mkF m 90 #[.val (.ref t), .val (.int kv), .val (.int sv), .val (.int mv), .val (.int ev), .val (.int av), .val (.ref aA), .val (.ref aB), .val (.int sp), .val (.int (own_I σ k)), .val (.int b), .unset, .unset, .unset, .unset] [(.double (O 1 (σ k))), (.double (O 1 (σ k)))]))
      refine own_st (fun _ kz => XS.dcmpS X3.here hx rfl (hb hby dq_90) rfl rfl kz) ?_
      show own_Win p e below s _ _ _ (T3.setTop (mkF m 91 #[.val (.ref t), .val (.int kv), .val (.int sv), .val (.int mv), .val (.int ev), .val (.int av), .val (.ref aA), .val (.ref aB), .val (.int sp), .val (.int (own_I σ k)), .val (.int b), .unset, .unset, .unset, .unset] [(.int (cmpValue (FP.dcmp (O 1 (σ k)) (O 1 (σ k))) .l))]))
      refine own_st (fun _ kz => XS.ifYes X3.here hx rfl (pc0 := 91) (pc' := 96) rfl (hb hby dq_91) rfl (by rw [own_hc (hD 1 _ (by decide) s18) (hD 1 _ (by decide) s18)]; exact decide_eq_true rfl) (by decide) (by decide) kz) ?_
      show own_Win p e below s _ _ _ (T3.setTop (mkF m 96 #[.val (.ref t), .val (.int kv), .val (.int sv), .val (.int mv), .val (.int ev), .val (.int av), .val (.ref aA), .val (.ref aB), .val (.int sp), .val (.int (own_I σ k)), .val (.int b), .unset, .unset, .unset, .unset] []))
      refine own_st (fun _ kz => XS.iload X3.here hx rfl (hb hby dq_96) rfl kz) ?_
      show own_Win p e below s _ _ _ (T3.setTop (mkF m 98 #[.val (.ref t), .val (.int kv), .val (.int sv), .val (.int mv), .val (.int ev), .val (.int av), .val (.ref aA), .val (.ref aB), .val (.int sp), .val (.int (own_I σ k)), .val (.int b), .unset, .unset, .unset, .unset] [(.int sp)]))
      by_cases z : sp = 0
      ·
        refine own_st (fun _ kz => XS.ifYes X3.here hx rfl (pc0 := 98) (pc' := 162) rfl (hb hby dq_98) rfl (by rw [z]; decide) (by decide) (by decide) kz) ?_
        show own_Win p e below s _ _ _ (T3.setTop (mkF m 162 #[.val (.ref t), .val (.int kv), .val (.int sv), .val (.int mv), .val (.int ev), .val (.int av), .val (.ref aA), .val (.ref aB), .val (.int sp), .val (.int (own_I σ k)), .val (.int b), .unset, .unset, .unset, .unset] []))
        refine own_st (fun _ kz => XS.iconst X3.here hx rfl (hb hby dq_162) kz) ?_
        show own_Win p e below s _ _ _ (T3.setTop (mkF m 163 #[.val (.ref t), .val (.int kv), .val (.int sv), .val (.int mv), .val (.int ev), .val (.int av), .val (.ref aA), .val (.ref aB), .val (.int sp), .val (.int (own_I σ k)), .val (.int b), .unset, .unset, .unset, .unset] [(.int (1 : Int32))]))
        refine own_st (fun _ kz => XS.iload X3.here hx rfl (hb hby dq_163) rfl kz) ?_
        show own_Win p e below s _ _ _ (T3.setTop (mkF m 165 #[.val (.ref t), .val (.int kv), .val (.int sv), .val (.int mv), .val (.int ev), .val (.int av), .val (.ref aA), .val (.ref aB), .val (.int sp), .val (.int (own_I σ k)), .val (.int b), .unset, .unset, .unset, .unset] [(.int (own_I σ k)), (.int (1 : Int32))]))
        refine own_st (fun _ kz => XT.ishl X3.here hx rfl (hb hby dq_165) rfl kz) ?_
        show own_Win p e below s _ _ _ (T3.setTop (mkF m 166 #[.val (.ref t), .val (.int kv), .val (.int sv), .val (.int mv), .val (.int ev), .val (.int av), .val (.ref aA), .val (.ref aB), .val (.int sp), .val (.int (own_I σ k)), .val (.int b), .unset, .unset, .unset, .unset] [(.int ((1 : Int32) <<< ((own_I σ k) &&& 31)))]))
        exact own_ret X3 hx hlk Bd.returns rfl (Or.inl ⟨rfl, Or.inl rfl, _, rfl⟩) (hb hby dq_166) ⟨rfl, N0, e3⟩ (Nat.le_refl _) (Nat.le_refl _)
      ·
        refine own_st (fun _ kz => XS.ifNo X3.here hx rfl (hb hby dq_98) rfl (by rw [if0]; exact (feq z).1) kz) ?_
        show own_Win p e below s _ _ _ (T3.setTop (mkF m 101 #[.val (.ref t), .val (.int kv), .val (.int sv), .val (.int mv), .val (.int ev), .val (.int av), .val (.ref aA), .val (.ref aB), .val (.int sp), .val (.int (own_I σ k)), .val (.int b), .unset, .unset, .unset, .unset] []))
        refine own_st (fun _ kz => XS.iload X3.here hx rfl (hb hby dq_101) rfl kz) ?_
        show own_Win p e below s _ _ _ (T3.setTop (mkF m 103 #[.val (.ref t), .val (.int kv), .val (.int sv), .val (.int mv), .val (.int ev), .val (.int av), .val (.ref aA), .val (.ref aB), .val (.int sp), .val (.int (own_I σ k)), .val (.int b), .unset, .unset, .unset, .unset] [(.int b)]))
        refine own_st (fun _ kz => XS.ifYes X3.here hx rfl (pc0 := 103) (pc' := 162) rfl (hb hby dq_103) rfl (by rw [b0]; decide) (by decide) (by decide) kz) ?_
        show own_Win p e below s _ _ _ (T3.setTop (mkF m 162 #[.val (.ref t), .val (.int kv), .val (.int sv), .val (.int mv), .val (.int ev), .val (.int av), .val (.ref aA), .val (.ref aB), .val (.int sp), .val (.int (own_I σ k)), .val (.int b), .unset, .unset, .unset, .unset] []))
        refine own_st (fun _ kz => XS.iconst X3.here hx rfl (hb hby dq_162) kz) ?_
        show own_Win p e below s _ _ _ (T3.setTop (mkF m 163 #[.val (.ref t), .val (.int kv), .val (.int sv), .val (.int mv), .val (.int ev), .val (.int av), .val (.ref aA), .val (.ref aB), .val (.int sp), .val (.int (own_I σ k)), .val (.int b), .unset, .unset, .unset, .unset] [(.int (1 : Int32))]))
        refine own_st (fun _ kz => XS.iload X3.here hx rfl (hb hby dq_163) rfl kz) ?_
        show own_Win p e below s _ _ _ (T3.setTop (mkF m 165 #[.val (.ref t), .val (.int kv), .val (.int sv), .val (.int mv), .val (.int ev), .val (.int av), .val (.ref aA), .val (.ref aB), .val (.int sp), .val (.int (own_I σ k)), .val (.int b), .unset, .unset, .unset, .unset] [(.int (own_I σ k)), (.int (1 : Int32))]))
        refine own_st (fun _ kz => XT.ishl X3.here hx rfl (hb hby dq_165) rfl kz) ?_
        show own_Win p e below s _ _ _ (T3.setTop (mkF m 166 #[.val (.ref t), .val (.int kv), .val (.int sv), .val (.int mv), .val (.int ev), .val (.int av), .val (.ref aA), .val (.ref aB), .val (.int sp), .val (.int (own_I σ k)), .val (.int b), .unset, .unset, .unset, .unset] [(.int ((1 : Int32) <<< ((own_I σ k) &&& 31)))]))
        exact own_ret X3 hx hlk Bd.returns rfl (Or.inl ⟨rfl, Or.inl rfl, _, rfl⟩) (hb hby dq_166) ⟨rfl, N0, e3⟩ (Nat.le_refl _) (Nat.le_refl _)
    ·
      refine own_st (fun _ kz => XS.ifNo X1.here hx rfl (hb hby dq_42) rfl (by rw [b1]; decide) kz) ?_
      show own_Win p e below s _ _ _ (T1.setTop (mkF m 45 #[.val (.ref t), .val (.int kv), .val (.int sv), .val (.int mv), .val (.int ev), .val (.int av), .val (.ref aA), .val (.ref aB), .val (.int sp), .val (.int (own_I σ k)), .val (.int b), .unset, .unset, .unset, .unset] []))
      refine own_st (fun _ kz => XS.iload X1.here hx rfl (hb hby dq_45) rfl kz) ?_
      show own_Win p e below s _ _ _ (T1.setTop (mkF m 47 #[.val (.ref t), .val (.int kv), .val (.int sv), .val (.int mv), .val (.int ev), .val (.int av), .val (.ref aA), .val (.ref aB), .val (.int sp), .val (.int (own_I σ k)), .val (.int b), .unset, .unset, .unset, .unset] [(.int sp)]))
      rcases hsp with z | z
      ·
        refine own_st (fun _ kz => XS.ifNo X1.here hx rfl (hb hby dq_47) rfl (by rw [z]; decide) kz) ?_
        show own_Win p e below s _ _ _ (T1.setTop (mkF m 50 #[.val (.ref t), .val (.int kv), .val (.int sv), .val (.int mv), .val (.int ev), .val (.int av), .val (.ref aA), .val (.ref aB), .val (.int sp), .val (.int (own_I σ k)), .val (.int b), .unset, .unset, .unset, .unset] []))
        refine own_st (fun _ kz => XS.iload X1.here hx rfl (hb hby dq_50) rfl kz) ?_
        show own_Win p e below s _ _ _ (T1.setTop (mkF m 52 #[.val (.ref t), .val (.int kv), .val (.int sv), .val (.int mv), .val (.int ev), .val (.int av), .val (.ref aA), .val (.ref aB), .val (.int sp), .val (.int (own_I σ k)), .val (.int b), .unset, .unset, .unset, .unset] [(.int (own_I σ k))]))
        refine own_st (fun _ kz => XS.iloadN X1.here hx rfl (hb hby dq_52) rfl kz) ?_
        show own_Win p e below s _ _ _ (T1.setTop (mkF m 53 #[.val (.ref t), .val (.int kv), .val (.int sv), .val (.int mv), .val (.int ev), .val (.int av), .val (.ref aA), .val (.ref aB), .val (.int sp), .val (.int (own_I σ k)), .val (.int b), .unset, .unset, .unset, .unset] [(.int kv), (.int (own_I σ k))]))
        have hkk : own_I σ k = kv := Int32.toInt_inj.mp (by rw [hI, hid (Or.inl z), hk])
        refine own_st (fun _ kz => XS.icmpYes X1.here hx rfl (pc0 := 53) (pc' := 58) rfl (hb hby dq_53) rfl (teq hkk).1 (by decide) (by decide) kz) ?_
        show own_Win p e below s _ _ _ (T1.setTop (mkF m 58 #[.val (.ref t), .val (.int kv), .val (.int sv), .val (.int mv), .val (.int ev), .val (.int av), .val (.ref aA), .val (.ref aB), .val (.int sp), .val (.int (own_I σ k)), .val (.int b), .unset, .unset, .unset, .unset] []))
        refine own_st (fun _ kz => XS.aloadN X1.here hx rfl (hb hby dq_58) rfl rfl kz) ?_
        show own_Win p e below s _ _ _ (T1.setTop (mkF m 59 #[.val (.ref t), .val (.int kv), .val (.int sv), .val (.int mv), .val (.int ev), .val (.int av), .val (.ref aA), .val (.ref aB), .val (.int sp), .val (.int (own_I σ k)), .val (.int b), .unset, .unset, .unset, .unset] [(.ref t)]))
        obtain ⟨T2, X2, e2, st2⟩ := getF X1 hx hZ hown (host := "") (Or.inl (hw _ (List.mem_of_getElem? (i := 49) rfl))) Via.refl e1 FS.2.2.2.1 (g := (mkF m 59 #[.val (.ref t), .val (.int kv), .val (.int sv), .val (.int mv), .val (.int ev), .val (.int av), .val (.ref aA), .val (.ref aB), .val (.int sp), .val (.int (own_I σ k)), .val (.int b), .unset, .unset, .unset, .unset] [(.ref t)])) rfl rfl (hb hby dq_59)
        refine own_st st2 ?_
        show own_Win p e below s _ _ _ (T2.setTop (mkF m 62 #[.val (.ref t), .val (.int kv), .val (.int sv), .val (.int mv), .val (.int ev), .val (.int av), .val (.ref aA), .val (.ref aB), .val (.int sp), .val (.int (own_I σ k)), .val (.int b), .unset, .unset, .unset, .unset] [(.ref aP)]))
        refine own_st (fun _ kz => XS.iconst X2.here hx rfl (hb hby dq_62) kz) ?_
        show own_Win p e below s _ _ _ (T2.setTop (mkF m 63 #[.val (.ref t), .val (.int kv), .val (.int sv), .val (.int mv), .val (.int ev), .val (.int av), .val (.ref aA), .val (.ref aB), .val (.int sp), .val (.int (own_I σ k)), .val (.int b), .unset, .unset, .unset, .unset] [(.int (2 : Int32)), (.ref aP)]))
        refine own_st (fun _ kz => XS.iloadN X2.here hx rfl (hb hby dq_63) rfl kz) ?_
        show own_Win p e below s _ _ _ (T2.setTop (mkF m 64 #[.val (.ref t), .val (.int kv), .val (.int sv), .val (.int mv), .val (.int ev), .val (.int av), .val (.ref aA), .val (.ref aB), .val (.int sp), .val (.int (own_I σ k)), .val (.int b), .unset, .unset, .unset, .unset] [(.int kv), (.int (2 : Int32)), (.ref aP)]))
        refine own_st (fun _ kz => XS.imul X2.here hx rfl (hb hby dq_64) rfl kz) ?_
        show own_Win p e below s _ _ _ (T2.setTop (mkF m 65 #[.val (.ref t), .val (.int kv), .val (.int sv), .val (.int mv), .val (.int ev), .val (.int av), .val (.ref aA), .val (.ref aB), .val (.int sp), .val (.int (own_I σ k)), .val (.int b), .unset, .unset, .unset, .unset] [(.int ((2 : Int32) * kv)), (.ref aP)]))
        refine own_daload X2 hx hZ e2 FQ (i := (2 * k)) (own_x2 hk k18) (by omega) (x := (O 0 (σ k))) (own_P_at O σ k 0 (by decide)) rfl rfl (hb hby dq_65) ?_
        show own_Win p e below s _ _ _ (T2.setTop (mkF m 66 #[.val (.ref t), .val (.int kv), .val (.int sv), .val (.int mv), .val (.int ev), .val (.int av), .val (.ref aA), .val (.ref aB), .val (.int sp), .val (.int (own_I σ k)), .val (.int b), .unset, .unset, .unset, .unset] [(.double (O 0 (σ k)))]))
        refine own_st (fun _ kz => XS.aload X2.here hx rfl (hb hby dq_66) rfl rfl kz) ?_
        show own_Win p e below s _ _ _ (T2.setTop (mkF m 68 #[.val (.ref t), .val (.int kv), .val (.int sv), .val (.int mv), .val (.int ev), .val (.int av), .val (.ref aA), .val (.ref aB), .val (.int sp), .val (.int (own_I σ k)), .val (.int b), .unset, .unset, .unset, .unset] [(.ref aA), (.double (O 0 (σ k)))]))
        refine own_st (fun _ kz => XS.iload X2.here hx rfl (hb hby dq_68) rfl kz) ?_
        show own_Win p e below s _ _ _ (T2.setTop (mkF m 70 #[.val (.ref t), .val (.int kv), .val (.int sv), .val (.int mv), .val (.int ev), .val (.int av), .val (.ref aA), .val (.ref aB), .val (.int sp), .val (.int (own_I σ k)), .val (.int b), .unset, .unset, .unset, .unset] [(.int (own_I σ k)), (.ref aA), (.double (O 0 (σ k)))]))
        refine own_daload X2 hx hZ e2 FA (i := (σ k)) hI s18 (x := (O 0 (σ k))) rfl rfl rfl (hb hby dq_70) ?_
        show own_Win p e below s _ _ _ (T2.setTop (mkF m 71 #[.val (.ref t), .val (.int kv), .val (.int sv), .val (.int mv), .val (.int ev), .val (.int av), .val (.ref aA), .val (.ref aB), .val (.int sp), .val (.int (own_I σ k)), .val (.int b), .unset, .unset, .unset, .unset] [(.double (O 0 (σ k))), (.double (O 0 (σ k)))]))
        refine own_st (fun _ kz => XS.dcmpS X2.here hx rfl (hb hby dq_71) rfl rfl kz) ?_
        show own_Win p e below s _ _ _ (T2.setTop (mkF m 72 #[.val (.ref t), .val (.int kv), .val (.int sv), .val (.int mv), .val (.int ev), .val (.int av), .val (.ref aA), .val (.ref aB), .val (.int sp), .val (.int (own_I σ k)), .val (.int b), .unset, .unset, .unset, .unset] [(.int (cmpValue (FP.dcmp (O 0 (σ k)) (O 0 (σ k))) .l))]))
        refine own_st (fun _ kz => XS.ifNo X2.here hx rfl (hb hby dq_72) rfl (by rw [own_hc (hD 0 _ (by decide) s18) (hD 0 _ (by decide) s18)]; exact decide_eq_false (by omega)) kz) ?_
        show own_Win p e below s _ _ _ (T2.setTop (mkF m 75 #[.val (.ref t), .val (.int kv), .val (.int sv), .val (.int mv), .val (.int ev), .val (.int av), .val (.ref aA), .val (.ref aB), .val (.int sp), .val (.int (own_I σ k)), .val (.int b), .unset, .unset, .unset, .unset] []))
        refine own_st (fun _ kz => XS.aloadN X2.here hx rfl (hb hby dq_75) rfl rfl kz) ?_
        show own_Win p e below s _ _ _ (T2.setTop (mkF m 76 #[.val (.ref t), .val (.int kv), .val (.int sv), .val (.int mv), .val (.int ev), .val (.int av), .val (.ref aA), .val (.ref aB), .val (.int sp), .val (.int (own_I σ k)), .val (.int b), .unset, .unset, .unset, .unset] [(.ref t)]))
        obtain ⟨T3, X3, e3, st3⟩ := getF X2 hx hZ hown (host := "") (Or.inl (hw _ (List.mem_of_getElem? (i := 49) rfl))) Via.refl e2 FS.2.2.2.1 (g := (mkF m 76 #[.val (.ref t), .val (.int kv), .val (.int sv), .val (.int mv), .val (.int ev), .val (.int av), .val (.ref aA), .val (.ref aB), .val (.int sp), .val (.int (own_I σ k)), .val (.int b), .unset, .unset, .unset, .unset] [(.ref t)])) rfl rfl (hb hby dq_76)
        refine own_st st3 ?_
        show own_Win p e below s _ _ _ (T3.setTop (mkF m 79 #[.val (.ref t), .val (.int kv), .val (.int sv), .val (.int mv), .val (.int ev), .val (.int av), .val (.ref aA), .val (.ref aB), .val (.int sp), .val (.int (own_I σ k)), .val (.int b), .unset, .unset, .unset, .unset] [(.ref aP)]))
        refine own_st (fun _ kz => XS.iconst X3.here hx rfl (hb hby dq_79) kz) ?_
        show own_Win p e below s _ _ _ (T3.setTop (mkF m 80 #[.val (.ref t), .val (.int kv), .val (.int sv), .val (.int mv), .val (.int ev), .val (.int av), .val (.ref aA), .val (.ref aB), .val (.int sp), .val (.int (own_I σ k)), .val (.int b), .unset, .unset, .unset, .unset] [(.int (2 : Int32)), (.ref aP)]))
        refine own_st (fun _ kz => XS.iloadN X3.here hx rfl (hb hby dq_80) rfl kz) ?_
        show own_Win p e below s _ _ _ (T3.setTop (mkF m 81 #[.val (.ref t), .val (.int kv), .val (.int sv), .val (.int mv), .val (.int ev), .val (.int av), .val (.ref aA), .val (.ref aB), .val (.int sp), .val (.int (own_I σ k)), .val (.int b), .unset, .unset, .unset, .unset] [(.int kv), (.int (2 : Int32)), (.ref aP)]))
        refine own_st (fun _ kz => XS.imul X3.here hx rfl (hb hby dq_81) rfl kz) ?_
        show own_Win p e below s _ _ _ (T3.setTop (mkF m 82 #[.val (.ref t), .val (.int kv), .val (.int sv), .val (.int mv), .val (.int ev), .val (.int av), .val (.ref aA), .val (.ref aB), .val (.int sp), .val (.int (own_I σ k)), .val (.int b), .unset, .unset, .unset, .unset] [(.int ((2 : Int32) * kv)), (.ref aP)]))
        refine own_st (fun _ kz => XS.iconst X3.here hx rfl (hb hby dq_82) kz) ?_
        show own_Win p e below s _ _ _ (T3.setTop (mkF m 83 #[.val (.ref t), .val (.int kv), .val (.int sv), .val (.int mv), .val (.int ev), .val (.int av), .val (.ref aA), .val (.ref aB), .val (.int sp), .val (.int (own_I σ k)), .val (.int b), .unset, .unset, .unset, .unset] [(.int (1 : Int32)), (.int ((2 : Int32) * kv)), (.ref aP)]))
        refine own_st (fun _ kz => XS.iadd X3.here hx rfl (hb hby dq_83) rfl kz) ?_
        show own_Win p e below s _ _ _ (T3.setTop (mkF m 84 #[.val (.ref t), .val (.int kv), .val (.int sv), .val (.int mv), .val (.int ev), .val (.int av), .val (.ref aA), .val (.ref aB), .val (.int sp), .val (.int (own_I σ k)), .val (.int b), .unset, .unset, .unset, .unset] [(.int (((2 : Int32) * kv) + (1 : Int32))), (.ref aP)]))
        refine own_daload X3 hx hZ e3 FQ (i := (2 * k + 1)) (own_x3 hk k18 (yv := 1) (y := 1) rfl (by decide)) (by omega) (x := (O 1 (σ k))) (own_P_at O σ k 1 (by decide)) rfl rfl (hb hby dq_84) ?_
        show own_Win p e below s _ _ _ (T3.setTop (mkF m 85 #[.val (.ref t), .val (.int kv), .val (.int sv), .val (.int mv), .val (.int ev), .val (.int av), .val (.ref aA), .val (.ref aB), .val (.int sp), .val (.int (own_I σ k)), .val (.int b), .unset, .unset, .unset, .unset] [(.double (O 1 (σ k)))]))
        refine own_st (fun _ kz => XS.aload X3.here hx rfl (hb hby dq_85) rfl rfl kz) ?_
        show own_Win p e below s _ _ _ (T3.setTop (mkF m 87 #[.val (.ref t), .val (.int kv), .val (.int sv), .val (.int mv), .val (.int ev), .val (.int av), .val (.ref aA), .val (.ref aB), .val (.int sp), .val (.int (own_I σ k)), .val (.int b), .unset, .unset, .unset, .unset] [(.ref aB), (.double (O 1 (σ k)))]))
        refine own_st (fun _ kz => XS.iload X3.here hx rfl (hb hby dq_87) rfl kz) ?_
        show own_Win p e below s _ _ _ (T3.setTop (mkF m 89 #[.val (.ref t), .val (.int kv), .val (.int sv), .val (.int mv), .val (.int ev), .val (.int av), .val (.ref aA), .val (.ref aB), .val (.int sp), .val (.int (own_I σ k)), .val (.int b), .unset, .unset, .unset, .unset] [(.int (own_I σ k)), (.ref aB), (.double (O 1 (σ k)))]))
        refine own_daload X3 hx hZ e3 FB (i := (σ k)) hI s18 (x := (O 1 (σ k))) rfl rfl rfl (hb hby dq_89) ?_
        show own_Win p e below s _ _ _ (T3.setTop (mkF m 90 #[.val (.ref t), .val (.int kv), .val (.int sv), .val (.int mv), .val (.int ev), .val (.int av), .val (.ref aA), .val (.ref aB), .val (.int sp), .val (.int (own_I σ k)), .val (.int b), .unset, .unset, .unset, .unset] [(.double (O 1 (σ k))), (.double (O 1 (σ k)))]))
        refine own_st (fun _ kz => XS.dcmpS X3.here hx rfl (hb hby dq_90) rfl rfl kz) ?_
        show own_Win p e below s _ _ _ (T3.setTop (mkF m 91 #[.val (.ref t), .val (.int kv), .val (.int sv), .val (.int mv), .val (.int ev), .val (.int av), .val (.ref aA), .val (.ref aB), .val (.int sp), .val (.int (own_I σ k)), .val (.int b), .unset, .unset, .unset, .unset] [(.int (cmpValue (FP.dcmp (O 1 (σ k)) (O 1 (σ k))) .l))]))
        refine own_st (fun _ kz => XS.ifYes X3.here hx rfl (pc0 := 91) (pc' := 96) rfl (hb hby dq_91) rfl (by rw [own_hc (hD 1 _ (by decide) s18) (hD 1 _ (by decide) s18)]; exact decide_eq_true rfl) (by decide) (by decide) kz) ?_
        show own_Win p e below s _ _ _ (T3.setTop (mkF m 96 #[.val (.ref t), .val (.int kv), .val (.int sv), .val (.int mv), .val (.int ev), .val (.int av), .val (.ref aA), .val (.ref aB), .val (.int sp), .val (.int (own_I σ k)), .val (.int b), .unset, .unset, .unset, .unset] []))
        refine own_st (fun _ kz => XS.iload X3.here hx rfl (hb hby dq_96) rfl kz) ?_
        show own_Win p e below s _ _ _ (T3.setTop (mkF m 98 #[.val (.ref t), .val (.int kv), .val (.int sv), .val (.int mv), .val (.int ev), .val (.int av), .val (.ref aA), .val (.ref aB), .val (.int sp), .val (.int (own_I σ k)), .val (.int b), .unset, .unset, .unset, .unset] [(.int sp)]))
        refine own_st (fun _ kz => XS.ifYes X3.here hx rfl (pc0 := 98) (pc' := 162) rfl (hb hby dq_98) rfl (by rw [z]; decide) (by decide) (by decide) kz) ?_
        show own_Win p e below s _ _ _ (T3.setTop (mkF m 162 #[.val (.ref t), .val (.int kv), .val (.int sv), .val (.int mv), .val (.int ev), .val (.int av), .val (.ref aA), .val (.ref aB), .val (.int sp), .val (.int (own_I σ k)), .val (.int b), .unset, .unset, .unset, .unset] []))
        refine own_st (fun _ kz => XS.iconst X3.here hx rfl (hb hby dq_162) kz) ?_
        show own_Win p e below s _ _ _ (T3.setTop (mkF m 163 #[.val (.ref t), .val (.int kv), .val (.int sv), .val (.int mv), .val (.int ev), .val (.int av), .val (.ref aA), .val (.ref aB), .val (.int sp), .val (.int (own_I σ k)), .val (.int b), .unset, .unset, .unset, .unset] [(.int (1 : Int32))]))
        refine own_st (fun _ kz => XS.iload X3.here hx rfl (hb hby dq_163) rfl kz) ?_
        show own_Win p e below s _ _ _ (T3.setTop (mkF m 165 #[.val (.ref t), .val (.int kv), .val (.int sv), .val (.int mv), .val (.int ev), .val (.int av), .val (.ref aA), .val (.ref aB), .val (.int sp), .val (.int (own_I σ k)), .val (.int b), .unset, .unset, .unset, .unset] [(.int (own_I σ k)), (.int (1 : Int32))]))
        refine own_st (fun _ kz => XT.ishl X3.here hx rfl (hb hby dq_165) rfl kz) ?_
        show own_Win p e below s _ _ _ (T3.setTop (mkF m 166 #[.val (.ref t), .val (.int kv), .val (.int sv), .val (.int mv), .val (.int ev), .val (.int av), .val (.ref aA), .val (.ref aB), .val (.int sp), .val (.int (own_I σ k)), .val (.int b), .unset, .unset, .unset, .unset] [(.int ((1 : Int32) <<< ((own_I σ k) &&& 31)))]))
        exact own_ret X3 hx hlk Bd.returns rfl (Or.inl ⟨rfl, Or.inl rfl, _, rfl⟩) (hb hby dq_166) ⟨rfl, N0, e3⟩ (Nat.le_refl _) (Nat.le_refl _)
      ·
        refine own_st (fun _ kz => XS.ifYes X1.here hx rfl (pc0 := 47) (pc' := 58) rfl (hb hby dq_47) rfl (by rw [z]; decide) (by decide) (by decide) kz) ?_
        show own_Win p e below s _ _ _ (T1.setTop (mkF m 58 #[.val (.ref t), .val (.int kv), .val (.int sv), .val (.int mv), .val (.int ev), .val (.int av), .val (.ref aA), .val (.ref aB), .val (.int sp), .val (.int (own_I σ k)), .val (.int b), .unset, .unset, .unset, .unset] []))
        refine own_st (fun _ kz => XS.aloadN X1.here hx rfl (hb hby dq_58) rfl rfl kz) ?_
        show own_Win p e below s _ _ _ (T1.setTop (mkF m 59 #[.val (.ref t), .val (.int kv), .val (.int sv), .val (.int mv), .val (.int ev), .val (.int av), .val (.ref aA), .val (.ref aB), .val (.int sp), .val (.int (own_I σ k)), .val (.int b), .unset, .unset, .unset, .unset] [(.ref t)]))
        obtain ⟨T2, X2, e2, st2⟩ := getF X1 hx hZ hown (host := "") (Or.inl (hw _ (List.mem_of_getElem? (i := 49) rfl))) Via.refl e1 FS.2.2.2.1 (g := (mkF m 59 #[.val (.ref t), .val (.int kv), .val (.int sv), .val (.int mv), .val (.int ev), .val (.int av), .val (.ref aA), .val (.ref aB), .val (.int sp), .val (.int (own_I σ k)), .val (.int b), .unset, .unset, .unset, .unset] [(.ref t)])) rfl rfl (hb hby dq_59)
        refine own_st st2 ?_
        show own_Win p e below s _ _ _ (T2.setTop (mkF m 62 #[.val (.ref t), .val (.int kv), .val (.int sv), .val (.int mv), .val (.int ev), .val (.int av), .val (.ref aA), .val (.ref aB), .val (.int sp), .val (.int (own_I σ k)), .val (.int b), .unset, .unset, .unset, .unset] [(.ref aP)]))
        refine own_st (fun _ kz => XS.iconst X2.here hx rfl (hb hby dq_62) kz) ?_
        show own_Win p e below s _ _ _ (T2.setTop (mkF m 63 #[.val (.ref t), .val (.int kv), .val (.int sv), .val (.int mv), .val (.int ev), .val (.int av), .val (.ref aA), .val (.ref aB), .val (.int sp), .val (.int (own_I σ k)), .val (.int b), .unset, .unset, .unset, .unset] [(.int (2 : Int32)), (.ref aP)]))
        refine own_st (fun _ kz => XS.iloadN X2.here hx rfl (hb hby dq_63) rfl kz) ?_
        show own_Win p e below s _ _ _ (T2.setTop (mkF m 64 #[.val (.ref t), .val (.int kv), .val (.int sv), .val (.int mv), .val (.int ev), .val (.int av), .val (.ref aA), .val (.ref aB), .val (.int sp), .val (.int (own_I σ k)), .val (.int b), .unset, .unset, .unset, .unset] [(.int kv), (.int (2 : Int32)), (.ref aP)]))
        refine own_st (fun _ kz => XS.imul X2.here hx rfl (hb hby dq_64) rfl kz) ?_
        show own_Win p e below s _ _ _ (T2.setTop (mkF m 65 #[.val (.ref t), .val (.int kv), .val (.int sv), .val (.int mv), .val (.int ev), .val (.int av), .val (.ref aA), .val (.ref aB), .val (.int sp), .val (.int (own_I σ k)), .val (.int b), .unset, .unset, .unset, .unset] [(.int ((2 : Int32) * kv)), (.ref aP)]))
        refine own_daload X2 hx hZ e2 FQ (i := (2 * k)) (own_x2 hk k18) (by omega) (x := (O 0 (σ k))) (own_P_at O σ k 0 (by decide)) rfl rfl (hb hby dq_65) ?_
        show own_Win p e below s _ _ _ (T2.setTop (mkF m 66 #[.val (.ref t), .val (.int kv), .val (.int sv), .val (.int mv), .val (.int ev), .val (.int av), .val (.ref aA), .val (.ref aB), .val (.int sp), .val (.int (own_I σ k)), .val (.int b), .unset, .unset, .unset, .unset] [(.double (O 0 (σ k)))]))
        refine own_st (fun _ kz => XS.aload X2.here hx rfl (hb hby dq_66) rfl rfl kz) ?_
        show own_Win p e below s _ _ _ (T2.setTop (mkF m 68 #[.val (.ref t), .val (.int kv), .val (.int sv), .val (.int mv), .val (.int ev), .val (.int av), .val (.ref aA), .val (.ref aB), .val (.int sp), .val (.int (own_I σ k)), .val (.int b), .unset, .unset, .unset, .unset] [(.ref aA), (.double (O 0 (σ k)))]))
        refine own_st (fun _ kz => XS.iload X2.here hx rfl (hb hby dq_68) rfl kz) ?_
        show own_Win p e below s _ _ _ (T2.setTop (mkF m 70 #[.val (.ref t), .val (.int kv), .val (.int sv), .val (.int mv), .val (.int ev), .val (.int av), .val (.ref aA), .val (.ref aB), .val (.int sp), .val (.int (own_I σ k)), .val (.int b), .unset, .unset, .unset, .unset] [(.int (own_I σ k)), (.ref aA), (.double (O 0 (σ k)))]))
        refine own_daload X2 hx hZ e2 FA (i := (σ k)) hI s18 (x := (O 0 (σ k))) rfl rfl rfl (hb hby dq_70) ?_
        show own_Win p e below s _ _ _ (T2.setTop (mkF m 71 #[.val (.ref t), .val (.int kv), .val (.int sv), .val (.int mv), .val (.int ev), .val (.int av), .val (.ref aA), .val (.ref aB), .val (.int sp), .val (.int (own_I σ k)), .val (.int b), .unset, .unset, .unset, .unset] [(.double (O 0 (σ k))), (.double (O 0 (σ k)))]))
        refine own_st (fun _ kz => XS.dcmpS X2.here hx rfl (hb hby dq_71) rfl rfl kz) ?_
        show own_Win p e below s _ _ _ (T2.setTop (mkF m 72 #[.val (.ref t), .val (.int kv), .val (.int sv), .val (.int mv), .val (.int ev), .val (.int av), .val (.ref aA), .val (.ref aB), .val (.int sp), .val (.int (own_I σ k)), .val (.int b), .unset, .unset, .unset, .unset] [(.int (cmpValue (FP.dcmp (O 0 (σ k)) (O 0 (σ k))) .l))]))
        refine own_st (fun _ kz => XS.ifNo X2.here hx rfl (hb hby dq_72) rfl (by rw [own_hc (hD 0 _ (by decide) s18) (hD 0 _ (by decide) s18)]; exact decide_eq_false (by omega)) kz) ?_
        show own_Win p e below s _ _ _ (T2.setTop (mkF m 75 #[.val (.ref t), .val (.int kv), .val (.int sv), .val (.int mv), .val (.int ev), .val (.int av), .val (.ref aA), .val (.ref aB), .val (.int sp), .val (.int (own_I σ k)), .val (.int b), .unset, .unset, .unset, .unset] []))
        refine own_st (fun _ kz => XS.aloadN X2.here hx rfl (hb hby dq_75) rfl rfl kz) ?_
        show own_Win p e below s _ _ _ (T2.setTop (mkF m 76 #[.val (.ref t), .val (.int kv), .val (.int sv), .val (.int mv), .val (.int ev), .val (.int av), .val (.ref aA), .val (.ref aB), .val (.int sp), .val (.int (own_I σ k)), .val (.int b), .unset, .unset, .unset, .unset] [(.ref t)]))
        obtain ⟨T3, X3, e3, st3⟩ := getF X2 hx hZ hown (host := "") (Or.inl (hw _ (List.mem_of_getElem? (i := 49) rfl))) Via.refl e2 FS.2.2.2.1 (g := (mkF m 76 #[.val (.ref t), .val (.int kv), .val (.int sv), .val (.int mv), .val (.int ev), .val (.int av), .val (.ref aA), .val (.ref aB), .val (.int sp), .val (.int (own_I σ k)), .val (.int b), .unset, .unset, .unset, .unset] [(.ref t)])) rfl rfl (hb hby dq_76)
        refine own_st st3 ?_
        show own_Win p e below s _ _ _ (T3.setTop (mkF m 79 #[.val (.ref t), .val (.int kv), .val (.int sv), .val (.int mv), .val (.int ev), .val (.int av), .val (.ref aA), .val (.ref aB), .val (.int sp), .val (.int (own_I σ k)), .val (.int b), .unset, .unset, .unset, .unset] [(.ref aP)]))
        refine own_st (fun _ kz => XS.iconst X3.here hx rfl (hb hby dq_79) kz) ?_
        show own_Win p e below s _ _ _ (T3.setTop (mkF m 80 #[.val (.ref t), .val (.int kv), .val (.int sv), .val (.int mv), .val (.int ev), .val (.int av), .val (.ref aA), .val (.ref aB), .val (.int sp), .val (.int (own_I σ k)), .val (.int b), .unset, .unset, .unset, .unset] [(.int (2 : Int32)), (.ref aP)]))
        refine own_st (fun _ kz => XS.iloadN X3.here hx rfl (hb hby dq_80) rfl kz) ?_
        show own_Win p e below s _ _ _ (T3.setTop (mkF m 81 #[.val (.ref t), .val (.int kv), .val (.int sv), .val (.int mv), .val (.int ev), .val (.int av), .val (.ref aA), .val (.ref aB), .val (.int sp), .val (.int (own_I σ k)), .val (.int b), .unset, .unset, .unset, .unset] [(.int kv), (.int (2 : Int32)), (.ref aP)]))
        refine own_st (fun _ kz => XS.imul X3.here hx rfl (hb hby dq_81) rfl kz) ?_
        show own_Win p e below s _ _ _ (T3.setTop (mkF m 82 #[.val (.ref t), .val (.int kv), .val (.int sv), .val (.int mv), .val (.int ev), .val (.int av), .val (.ref aA), .val (.ref aB), .val (.int sp), .val (.int (own_I σ k)), .val (.int b), .unset, .unset, .unset, .unset] [(.int ((2 : Int32) * kv)), (.ref aP)]))
        refine own_st (fun _ kz => XS.iconst X3.here hx rfl (hb hby dq_82) kz) ?_
        show own_Win p e below s _ _ _ (T3.setTop (mkF m 83 #[.val (.ref t), .val (.int kv), .val (.int sv), .val (.int mv), .val (.int ev), .val (.int av), .val (.ref aA), .val (.ref aB), .val (.int sp), .val (.int (own_I σ k)), .val (.int b), .unset, .unset, .unset, .unset] [(.int (1 : Int32)), (.int ((2 : Int32) * kv)), (.ref aP)]))
        refine own_st (fun _ kz => XS.iadd X3.here hx rfl (hb hby dq_83) rfl kz) ?_
        show own_Win p e below s _ _ _ (T3.setTop (mkF m 84 #[.val (.ref t), .val (.int kv), .val (.int sv), .val (.int mv), .val (.int ev), .val (.int av), .val (.ref aA), .val (.ref aB), .val (.int sp), .val (.int (own_I σ k)), .val (.int b), .unset, .unset, .unset, .unset] [(.int (((2 : Int32) * kv) + (1 : Int32))), (.ref aP)]))
        refine own_daload X3 hx hZ e3 FQ (i := (2 * k + 1)) (own_x3 hk k18 (yv := 1) (y := 1) rfl (by decide)) (by omega) (x := (O 1 (σ k))) (own_P_at O σ k 1 (by decide)) rfl rfl (hb hby dq_84) ?_
        show own_Win p e below s _ _ _ (T3.setTop (mkF m 85 #[.val (.ref t), .val (.int kv), .val (.int sv), .val (.int mv), .val (.int ev), .val (.int av), .val (.ref aA), .val (.ref aB), .val (.int sp), .val (.int (own_I σ k)), .val (.int b), .unset, .unset, .unset, .unset] [(.double (O 1 (σ k)))]))
        refine own_st (fun _ kz => XS.aload X3.here hx rfl (hb hby dq_85) rfl rfl kz) ?_
        show own_Win p e below s _ _ _ (T3.setTop (mkF m 87 #[.val (.ref t), .val (.int kv), .val (.int sv), .val (.int mv), .val (.int ev), .val (.int av), .val (.ref aA), .val (.ref aB), .val (.int sp), .val (.int (own_I σ k)), .val (.int b), .unset, .unset, .unset, .unset] [(.ref aB), (.double (O 1 (σ k)))]))
        refine own_st (fun _ kz => XS.iload X3.here hx rfl (hb hby dq_87) rfl kz) ?_
        show own_Win p e below s _ _ _ (T3.setTop (mkF m 89 #[.val (.ref t), .val (.int kv), .val (.int sv), .val (.int mv), .val (.int ev), .val (.int av), .val (.ref aA), .val (.ref aB), .val (.int sp), .val (.int (own_I σ k)), .val (.int b), .unset, .unset, .unset, .unset] [(.int (own_I σ k)), (.ref aB), (.double (O 1 (σ k)))]))
        refine own_daload X3 hx hZ e3 FB (i := (σ k)) hI s18 (x := (O 1 (σ k))) rfl rfl rfl (hb hby dq_89) ?_
        show own_Win p e below s _ _ _ (T3.setTop (mkF m 90 #[.val (.ref t), .val (.int kv), .val (.int sv), .val (.int mv), .val (.int ev), .val (.int av), .val (.ref aA), .val (.ref aB), .val (.int sp), .val (.int (own_I σ k)), .val (.int b), .unset, .unset, .unset, .unset] [(.double (O 1 (σ k))), (.double (O 1 (σ k)))]))
        refine own_st (fun _ kz => XS.dcmpS X3.here hx rfl (hb hby dq_90) rfl rfl kz) ?_
        show own_Win p e below s _ _ _ (T3.setTop (mkF m 91 #[.val (.ref t), .val (.int kv), .val (.int sv), .val (.int mv), .val (.int ev), .val (.int av), .val (.ref aA), .val (.ref aB), .val (.int sp), .val (.int (own_I σ k)), .val (.int b), .unset, .unset, .unset, .unset] [(.int (cmpValue (FP.dcmp (O 1 (σ k)) (O 1 (σ k))) .l))]))
        refine own_st (fun _ kz => XS.ifYes X3.here hx rfl (pc0 := 91) (pc' := 96) rfl (hb hby dq_91) rfl (by rw [own_hc (hD 1 _ (by decide) s18) (hD 1 _ (by decide) s18)]; exact decide_eq_true rfl) (by decide) (by decide) kz) ?_
        show own_Win p e below s _ _ _ (T3.setTop (mkF m 96 #[.val (.ref t), .val (.int kv), .val (.int sv), .val (.int mv), .val (.int ev), .val (.int av), .val (.ref aA), .val (.ref aB), .val (.int sp), .val (.int (own_I σ k)), .val (.int b), .unset, .unset, .unset, .unset] []))
        refine own_st (fun _ kz => XS.iload X3.here hx rfl (hb hby dq_96) rfl kz) ?_
        show own_Win p e below s _ _ _ (T3.setTop (mkF m 98 #[.val (.ref t), .val (.int kv), .val (.int sv), .val (.int mv), .val (.int ev), .val (.int av), .val (.ref aA), .val (.ref aB), .val (.int sp), .val (.int (own_I σ k)), .val (.int b), .unset, .unset, .unset, .unset] [(.int sp)]))
        refine own_st (fun _ kz => XS.ifNo X3.here hx rfl (hb hby dq_98) rfl (by rw [z]; decide) kz) ?_
        show own_Win p e below s _ _ _ (T3.setTop (mkF m 101 #[.val (.ref t), .val (.int kv), .val (.int sv), .val (.int mv), .val (.int ev), .val (.int av), .val (.ref aA), .val (.ref aB), .val (.int sp), .val (.int (own_I σ k)), .val (.int b), .unset, .unset, .unset, .unset] []))
        refine own_st (fun _ kz => XS.iload X3.here hx rfl (hb hby dq_101) rfl kz) ?_
        show own_Win p e below s _ _ _ (T3.setTop (mkF m 103 #[.val (.ref t), .val (.int kv), .val (.int sv), .val (.int mv), .val (.int ev), .val (.int av), .val (.ref aA), .val (.ref aB), .val (.int sp), .val (.int (own_I σ k)), .val (.int b), .unset, .unset, .unset, .unset] [(.int b)]))
        refine own_st (fun _ kz => XS.ifNo X3.here hx rfl (hb hby dq_103) rfl (by rw [b1]; decide) kz) ?_
        show own_Win p e below s _ _ _ (T3.setTop (mkF m 106 #[.val (.ref t), .val (.int kv), .val (.int sv), .val (.int mv), .val (.int ev), .val (.int av), .val (.ref aA), .val (.ref aB), .val (.int sp), .val (.int (own_I σ k)), .val (.int b), .unset, .unset, .unset, .unset] []))
        refine own_st (fun _ kz => XS.aloadN X3.here hx rfl (hb hby dq_106) rfl rfl kz) ?_
        show own_Win p e below s _ _ _ (T3.setTop (mkF m 107 #[.val (.ref t), .val (.int kv), .val (.int sv), .val (.int mv), .val (.int ev), .val (.int av), .val (.ref aA), .val (.ref aB), .val (.int sp), .val (.int (own_I σ k)), .val (.int b), .unset, .unset, .unset, .unset] [(.ref t)]))
        obtain ⟨T4, X4, e4, st4⟩ := getF X3 hx hZ hown (host := "") (Or.inl (hw _ (List.mem_of_getElem? (i := 49) rfl))) Via.refl e3 FS.2.2.2.1 (g := (mkF m 107 #[.val (.ref t), .val (.int kv), .val (.int sv), .val (.int mv), .val (.int ev), .val (.int av), .val (.ref aA), .val (.ref aB), .val (.int sp), .val (.int (own_I σ k)), .val (.int b), .unset, .unset, .unset, .unset] [(.ref t)])) rfl rfl (hb hby dq_107)
        refine own_st st4 ?_
        show own_Win p e below s _ _ _ (T4.setTop (mkF m 110 #[.val (.ref t), .val (.int kv), .val (.int sv), .val (.int mv), .val (.int ev), .val (.int av), .val (.ref aA), .val (.ref aB), .val (.int sp), .val (.int (own_I σ k)), .val (.int b), .unset, .unset, .unset, .unset] [(.ref aP)]))
        refine own_st (fun _ kz => XS.iconst X4.here hx rfl (hb hby dq_110) kz) ?_
        show own_Win p e below s _ _ _ (T4.setTop (mkF m 111 #[.val (.ref t), .val (.int kv), .val (.int sv), .val (.int mv), .val (.int ev), .val (.int av), .val (.ref aA), .val (.ref aB), .val (.int sp), .val (.int (own_I σ k)), .val (.int b), .unset, .unset, .unset, .unset] [(.int (2 : Int32)), (.ref aP)]))
        refine own_st (fun _ kz => XS.iloadN X4.here hx rfl (hb hby dq_111) rfl kz) ?_
        show own_Win p e below s _ _ _ (T4.setTop (mkF m 112 #[.val (.ref t), .val (.int kv), .val (.int sv), .val (.int mv), .val (.int ev), .val (.int av), .val (.ref aA), .val (.ref aB), .val (.int sp), .val (.int (own_I σ k)), .val (.int b), .unset, .unset, .unset, .unset] [(.int mv), (.int (2 : Int32)), (.ref aP)]))
        refine own_st (fun _ kz => XS.imul X4.here hx rfl (hb hby dq_112) rfl kz) ?_
        show own_Win p e below s _ _ _ (T4.setTop (mkF m 113 #[.val (.ref t), .val (.int kv), .val (.int sv), .val (.int mv), .val (.int ev), .val (.int av), .val (.ref aA), .val (.ref aB), .val (.int sp), .val (.int (own_I σ k)), .val (.int b), .unset, .unset, .unset, .unset] [(.int ((2 : Int32) * mv)), (.ref aP)]))
        refine own_st (fun _ kz => XS.iload X4.here hx rfl (hb hby dq_113) rfl kz) ?_
        show own_Win p e below s _ _ _ (T4.setTop (mkF m 115 #[.val (.ref t), .val (.int kv), .val (.int sv), .val (.int mv), .val (.int ev), .val (.int av), .val (.ref aA), .val (.ref aB), .val (.int sp), .val (.int (own_I σ k)), .val (.int b), .unset, .unset, .unset, .unset] [(.int av), (.int ((2 : Int32) * mv)), (.ref aP)]))
        refine own_st (fun _ kz => XS.iadd X4.here hx rfl (hb hby dq_115) rfl kz) ?_
        show own_Win p e below s _ _ _ (T4.setTop (mkF m 116 #[.val (.ref t), .val (.int kv), .val (.int sv), .val (.int mv), .val (.int ev), .val (.int av), .val (.ref aA), .val (.ref aB), .val (.int sp), .val (.int (own_I σ k)), .val (.int b), .unset, .unset, .unset, .unset] [(.int (((2 : Int32) * mv) + av)), (.ref aP)]))
        refine own_daload X4 hx hZ e4 FQ (i := (2 * mid + w)) (own_x3 hm m18 ha w2) (by omega) (x := (O w (σ mid))) (own_P_at O σ mid w w2) rfl rfl (hb hby dq_116) ?_
        show own_Win p e below s _ _ _ (T4.setTop (mkF m 117 #[.val (.ref t), .val (.int kv), .val (.int sv), .val (.int mv), .val (.int ev), .val (.int av), .val (.ref aA), .val (.ref aB), .val (.int sp), .val (.int (own_I σ k)), .val (.int b), .unset, .unset, .unset, .unset] [(.double (O w (σ mid)))]))
        refine own_st (fun _ kz => XS.dstore X4.here hx rfl (hb hby dq_117) rfl (l' := #[.val (.ref t), .val (.int kv), .val (.int sv), .val (.int mv), .val (.int ev), .val (.int av), .val (.ref aA), .val (.ref aB), .val (.int sp), .val (.int (own_I σ k)), .val (.int b), .val (.double (O w (σ mid))), .second, .unset, .unset]) rfl kz) ?_
        show own_Win p e below s _ _ _ (T4.setTop (mkF m 119 #[.val (.ref t), .val (.int kv), .val (.int sv), .val (.int mv), .val (.int ev), .val (.int av), .val (.ref aA), .val (.ref aB), .val (.int sp), .val (.int (own_I σ k)), .val (.int b), .val (.double (O w (σ mid))), .second, .unset, .unset] []))
        refine own_st (fun _ kz => XS.aloadN X4.here hx rfl (hb hby dq_119) rfl rfl kz) ?_
        show own_Win p e below s _ _ _ (T4.setTop (mkF m 120 #[.val (.ref t), .val (.int kv), .val (.int sv), .val (.int mv), .val (.int ev), .val (.int av), .val (.ref aA), .val (.ref aB), .val (.int sp), .val (.int (own_I σ k)), .val (.int b), .val (.double (O w (σ mid))), .second, .unset, .unset] [(.ref t)]))
        obtain ⟨T5, X5, e5, st5⟩ := getF X4 hx hZ hown (host := "") (Or.inl (hw _ (List.mem_of_getElem? (i := 49) rfl))) Via.refl e4 FS.2.2.2.1 (g := (mkF m 120 #[.val (.ref t), .val (.int kv), .val (.int sv), .val (.int mv), .val (.int ev), .val (.int av), .val (.ref aA), .val (.ref aB), .val (.int sp), .val (.int (own_I σ k)), .val (.int b), .val (.double (O w (σ mid))), .second, .unset, .unset] [(.ref t)])) rfl rfl (hb hby dq_120)
        refine own_st st5 ?_
        show own_Win p e below s _ _ _ (T5.setTop (mkF m 123 #[.val (.ref t), .val (.int kv), .val (.int sv), .val (.int mv), .val (.int ev), .val (.int av), .val (.ref aA), .val (.ref aB), .val (.int sp), .val (.int (own_I σ k)), .val (.int b), .val (.double (O w (σ mid))), .second, .unset, .unset] [(.ref aP)]))
        refine own_st (fun _ kz => XS.iconst X5.here hx rfl (hb hby dq_123) kz) ?_
        show own_Win p e below s _ _ _ (T5.setTop (mkF m 124 #[.val (.ref t), .val (.int kv), .val (.int sv), .val (.int mv), .val (.int ev), .val (.int av), .val (.ref aA), .val (.ref aB), .val (.int sp), .val (.int (own_I σ k)), .val (.int b), .val (.double (O w (σ mid))), .second, .unset, .unset] [(.int (2 : Int32)), (.ref aP)]))
        refine own_st (fun _ kz => XS.iloadN X5.here hx rfl (hb hby dq_124) rfl kz) ?_
        show own_Win p e below s _ _ _ (T5.setTop (mkF m 125 #[.val (.ref t), .val (.int kv), .val (.int sv), .val (.int mv), .val (.int ev), .val (.int av), .val (.ref aA), .val (.ref aB), .val (.int sp), .val (.int (own_I σ k)), .val (.int b), .val (.double (O w (σ mid))), .second, .unset, .unset] [(.int kv), (.int (2 : Int32)), (.ref aP)]))
        refine own_st (fun _ kz => XS.imul X5.here hx rfl (hb hby dq_125) rfl kz) ?_
        show own_Win p e below s _ _ _ (T5.setTop (mkF m 126 #[.val (.ref t), .val (.int kv), .val (.int sv), .val (.int mv), .val (.int ev), .val (.int av), .val (.ref aA), .val (.ref aB), .val (.int sp), .val (.int (own_I σ k)), .val (.int b), .val (.double (O w (σ mid))), .second, .unset, .unset] [(.int ((2 : Int32) * kv)), (.ref aP)]))
        refine own_st (fun _ kz => XS.iload X5.here hx rfl (hb hby dq_126) rfl kz) ?_
        show own_Win p e below s _ _ _ (T5.setTop (mkF m 128 #[.val (.ref t), .val (.int kv), .val (.int sv), .val (.int mv), .val (.int ev), .val (.int av), .val (.ref aA), .val (.ref aB), .val (.int sp), .val (.int (own_I σ k)), .val (.int b), .val (.double (O w (σ mid))), .second, .unset, .unset] [(.int av), (.int ((2 : Int32) * kv)), (.ref aP)]))
        refine own_st (fun _ kz => XS.iadd X5.here hx rfl (hb hby dq_128) rfl kz) ?_
        show own_Win p e below s _ _ _ (T5.setTop (mkF m 129 #[.val (.ref t), .val (.int kv), .val (.int sv), .val (.int mv), .val (.int ev), .val (.int av), .val (.ref aA), .val (.ref aB), .val (.int sp), .val (.int (own_I σ k)), .val (.int b), .val (.double (O w (σ mid))), .second, .unset, .unset] [(.int (((2 : Int32) * kv) + av)), (.ref aP)]))
        refine own_daload X5 hx hZ e5 FQ (i := (2 * k + w)) (own_x3 hk k18 ha w2) (by omega) (x := (O w (σ k))) (own_P_at O σ k w w2) rfl rfl (hb hby dq_129) ?_
        show own_Win p e below s _ _ _ (T5.setTop (mkF m 130 #[.val (.ref t), .val (.int kv), .val (.int sv), .val (.int mv), .val (.int ev), .val (.int av), .val (.ref aA), .val (.ref aB), .val (.int sp), .val (.int (own_I σ k)), .val (.int b), .val (.double (O w (σ mid))), .second, .unset, .unset] [(.double (O w (σ k)))]))
        refine own_st (fun _ kz => XS.dstore X5.here hx rfl (hb hby dq_130) rfl (l' := #[.val (.ref t), .val (.int kv), .val (.int sv), .val (.int mv), .val (.int ev), .val (.int av), .val (.ref aA), .val (.ref aB), .val (.int sp), .val (.int (own_I σ k)), .val (.int b), .val (.double (O w (σ mid))), .second, .val (.double (O w (σ k))), .second]) rfl kz) ?_
        show own_Win p e below s _ _ _ (T5.setTop (mkF m 132 #[.val (.ref t), .val (.int kv), .val (.int sv), .val (.int mv), .val (.int ev), .val (.int av), .val (.ref aA), .val (.ref aB), .val (.int sp), .val (.int (own_I σ k)), .val (.int b), .val (.double (O w (σ mid))), .second, .val (.double (O w (σ k))), .second] []))
        refine own_st (fun _ kz => XS.iloadN X5.here hx rfl (hb hby dq_132) rfl kz) ?_
        show own_Win p e below s _ _ _ (T5.setTop (mkF m 133 #[.val (.ref t), .val (.int kv), .val (.int sv), .val (.int mv), .val (.int ev), .val (.int av), .val (.ref aA), .val (.ref aB), .val (.int sp), .val (.int (own_I σ k)), .val (.int b), .val (.double (O w (σ mid))), .second, .val (.double (O w (σ k))), .second] [(.int kv)]))
        refine own_st (fun _ kz => XS.iloadN X5.here hx rfl (hb hby dq_133) rfl kz) ?_
        show own_Win p e below s _ _ _ (T5.setTop (mkF m 134 #[.val (.ref t), .val (.int kv), .val (.int sv), .val (.int mv), .val (.int ev), .val (.int av), .val (.ref aA), .val (.ref aB), .val (.int sp), .val (.int (own_I σ k)), .val (.int b), .val (.double (O w (σ mid))), .second, .val (.double (O w (σ k))), .second] [(.int mv), (.int kv)]))
        have hp := hpt z
        have dk := hD w _ w2 s18
        have dm := hD w _ w2 (hσ mid m18)
        by_cases y : k < mid
        ·
          refine own_st (fun _ kz => XS.icmpNo X5.here hx rfl (hb hby dq_134) rfl (by refine (tlt ?_).2.1; rw [Int32.lt_iff_toInt_lt]; omega) kz) ?_
          show own_Win p e below s _ _ _ (T5.setTop (mkF m 137 #[.val (.ref t), .val (.int kv), .val (.int sv), .val (.int mv), .val (.int ev), .val (.int av), .val (.ref aA), .val (.ref aB), .val (.int sp), .val (.int (own_I σ k)), .val (.int b), .val (.double (O w (σ mid))), .second, .val (.double (O w (σ k))), .second] []))
          refine own_st (fun _ kz => XS.dload X5.here hx rfl (hb hby dq_137) rfl kz) ?_
          show own_Win p e below s _ _ _ (T5.setTop (mkF m 139 #[.val (.ref t), .val (.int kv), .val (.int sv), .val (.int mv), .val (.int ev), .val (.int av), .val (.ref aA), .val (.ref aB), .val (.int sp), .val (.int (own_I σ k)), .val (.int b), .val (.double (O w (σ mid))), .second, .val (.double (O w (σ k))), .second] [(.double (O w (σ k)))]))
          refine own_st (fun _ kz => XS.dload X5.here hx rfl (hb hby dq_139) rfl kz) ?_
          show own_Win p e below s _ _ _ (T5.setTop (mkF m 141 #[.val (.ref t), .val (.int kv), .val (.int sv), .val (.int mv), .val (.int ev), .val (.int av), .val (.ref aA), .val (.ref aB), .val (.int sp), .val (.int (own_I σ k)), .val (.int b), .val (.double (O w (σ mid))), .second, .val (.double (O w (σ k))), .second] [(.double (O w (σ mid))), (.double (O w (σ k)))]))
          refine own_st (fun _ kz => XS.dcmpS X5.here hx rfl (hb hby dq_141) rfl rfl kz) ?_
          show own_Win p e below s _ _ _ (T5.setTop (mkF m 142 #[.val (.ref t), .val (.int kv), .val (.int sv), .val (.int mv), .val (.int ev), .val (.int av), .val (.ref aA), .val (.ref aB), .val (.int sp), .val (.int (own_I σ k)), .val (.int b), .val (.double (O w (σ mid))), .second, .val (.double (O w (σ k))), .second] [(.int (cmpValue (FP.dcmp (O w (σ k)) (O w (σ mid))) .l))]))
          refine own_st (fun _ kz => XS.ifYes X5.here hx rfl (pc0 := 142) (pc' := 147) rfl (hb hby dq_142) rfl (by rw [own_hc dk dm]; exact decide_eq_true (hp.1 k (by omega) y)) (by decide) (by decide) kz) ?_
          show own_Win p e below s _ _ _ (T5.setTop (mkF m 147 #[.val (.ref t), .val (.int kv), .val (.int sv), .val (.int mv), .val (.int ev), .val (.int av), .val (.ref aA), .val (.ref aB), .val (.int sp), .val (.int (own_I σ k)), .val (.int b), .val (.double (O w (σ mid))), .second, .val (.double (O w (σ k))), .second] []))
          refine own_st (fun _ kz => XS.iloadN X5.here hx rfl (hb hby dq_147) rfl kz) ?_
          show own_Win p e below s _ _ _ (T5.setTop (mkF m 148 #[.val (.ref t), .val (.int kv), .val (.int sv), .val (.int mv), .val (.int ev), .val (.int av), .val (.ref aA), .val (.ref aB), .val (.int sp), .val (.int (own_I σ k)), .val (.int b), .val (.double (O w (σ mid))), .second, .val (.double (O w (σ k))), .second] [(.int kv)]))
          refine own_st (fun _ kz => XS.iloadN X5.here hx rfl (hb hby dq_148) rfl kz) ?_
          show own_Win p e below s _ _ _ (T5.setTop (mkF m 149 #[.val (.ref t), .val (.int kv), .val (.int sv), .val (.int mv), .val (.int ev), .val (.int av), .val (.ref aA), .val (.ref aB), .val (.int sp), .val (.int (own_I σ k)), .val (.int b), .val (.double (O w (σ mid))), .second, .val (.double (O w (σ k))), .second] [(.int mv), (.int kv)]))
          refine own_st (fun _ kz => XS.icmpYes X5.here hx rfl (pc0 := 149) (pc' := 162) rfl (hb hby dq_149) rfl (by refine (flt ?_).2.2.2; rw [Int32.lt_iff_toInt_lt]; omega) (by decide) (by decide) kz) ?_
          show own_Win p e below s _ _ _ (T5.setTop (mkF m 162 #[.val (.ref t), .val (.int kv), .val (.int sv), .val (.int mv), .val (.int ev), .val (.int av), .val (.ref aA), .val (.ref aB), .val (.int sp), .val (.int (own_I σ k)), .val (.int b), .val (.double (O w (σ mid))), .second, .val (.double (O w (σ k))), .second] []))
          refine own_st (fun _ kz => XS.iconst X5.here hx rfl (hb hby dq_162) kz) ?_
          show own_Win p e below s _ _ _ (T5.setTop (mkF m 163 #[.val (.ref t), .val (.int kv), .val (.int sv), .val (.int mv), .val (.int ev), .val (.int av), .val (.ref aA), .val (.ref aB), .val (.int sp), .val (.int (own_I σ k)), .val (.int b), .val (.double (O w (σ mid))), .second, .val (.double (O w (σ k))), .second] [(.int (1 : Int32))]))
          refine own_st (fun _ kz => XS.iload X5.here hx rfl (hb hby dq_163) rfl kz) ?_
          show own_Win p e below s _ _ _ (T5.setTop (mkF m 165 #[.val (.ref t), .val (.int kv), .val (.int sv), .val (.int mv), .val (.int ev), .val (.int av), .val (.ref aA), .val (.ref aB), .val (.int sp), .val (.int (own_I σ k)), .val (.int b), .val (.double (O w (σ mid))), .second, .val (.double (O w (σ k))), .second] [(.int (own_I σ k)), (.int (1 : Int32))]))
          refine own_st (fun _ kz => XT.ishl X5.here hx rfl (hb hby dq_165) rfl kz) ?_
          show own_Win p e below s _ _ _ (T5.setTop (mkF m 166 #[.val (.ref t), .val (.int kv), .val (.int sv), .val (.int mv), .val (.int ev), .val (.int av), .val (.ref aA), .val (.ref aB), .val (.int sp), .val (.int (own_I σ k)), .val (.int b), .val (.double (O w (σ mid))), .second, .val (.double (O w (σ k))), .second] [(.int ((1 : Int32) <<< ((own_I σ k) &&& 31)))]))
          exact own_ret X5 hx hlk Bd.returns rfl (Or.inl ⟨rfl, Or.inl rfl, _, rfl⟩) (hb hby dq_166) ⟨rfl, N0, e5⟩ (Nat.le_refl _) (Nat.le_refl _)
        ·
          refine own_st (fun _ kz => XS.icmpYes X5.here hx rfl (pc0 := 134) (pc' := 147) rfl (hb hby dq_134) rfl (by refine (flt ?_).2.1; rw [Int32.lt_iff_toInt_lt]; omega) (by decide) (by decide) kz) ?_
          show own_Win p e below s _ _ _ (T5.setTop (mkF m 147 #[.val (.ref t), .val (.int kv), .val (.int sv), .val (.int mv), .val (.int ev), .val (.int av), .val (.ref aA), .val (.ref aB), .val (.int sp), .val (.int (own_I σ k)), .val (.int b), .val (.double (O w (σ mid))), .second, .val (.double (O w (σ k))), .second] []))
          refine own_st (fun _ kz => XS.iloadN X5.here hx rfl (hb hby dq_147) rfl kz) ?_
          show own_Win p e below s _ _ _ (T5.setTop (mkF m 148 #[.val (.ref t), .val (.int kv), .val (.int sv), .val (.int mv), .val (.int ev), .val (.int av), .val (.ref aA), .val (.ref aB), .val (.int sp), .val (.int (own_I σ k)), .val (.int b), .val (.double (O w (σ mid))), .second, .val (.double (O w (σ k))), .second] [(.int kv)]))
          refine own_st (fun _ kz => XS.iloadN X5.here hx rfl (hb hby dq_148) rfl kz) ?_
          show own_Win p e below s _ _ _ (T5.setTop (mkF m 149 #[.val (.ref t), .val (.int kv), .val (.int sv), .val (.int mv), .val (.int ev), .val (.int av), .val (.ref aA), .val (.ref aB), .val (.int sp), .val (.int (own_I σ k)), .val (.int b), .val (.double (O w (σ mid))), .second, .val (.double (O w (σ k))), .second] [(.int mv), (.int kv)]))
          by_cases x : mid < k
          ·
            refine own_st (fun _ kz => XS.icmpNo X5.here hx rfl (hb hby dq_149) rfl (by refine (tlt ?_).2.2.2; rw [Int32.lt_iff_toInt_lt]; omega) kz) ?_
            show own_Win p e below s _ _ _ (T5.setTop (mkF m 152 #[.val (.ref t), .val (.int kv), .val (.int sv), .val (.int mv), .val (.int ev), .val (.int av), .val (.ref aA), .val (.ref aB), .val (.int sp), .val (.int (own_I σ k)), .val (.int b), .val (.double (O w (σ mid))), .second, .val (.double (O w (σ k))), .second] []))
            refine own_st (fun _ kz => XS.dload X5.here hx rfl (hb hby dq_152) rfl kz) ?_
            show own_Win p e below s _ _ _ (T5.setTop (mkF m 154 #[.val (.ref t), .val (.int kv), .val (.int sv), .val (.int mv), .val (.int ev), .val (.int av), .val (.ref aA), .val (.ref aB), .val (.int sp), .val (.int (own_I σ k)), .val (.int b), .val (.double (O w (σ mid))), .second, .val (.double (O w (σ k))), .second] [(.double (O w (σ k)))]))
            refine own_st (fun _ kz => XS.dload X5.here hx rfl (hb hby dq_154) rfl kz) ?_
            show own_Win p e below s _ _ _ (T5.setTop (mkF m 156 #[.val (.ref t), .val (.int kv), .val (.int sv), .val (.int mv), .val (.int ev), .val (.int av), .val (.ref aA), .val (.ref aB), .val (.int sp), .val (.int (own_I σ k)), .val (.int b), .val (.double (O w (σ mid))), .second, .val (.double (O w (σ k))), .second] [(.double (O w (σ mid))), (.double (O w (σ k)))]))
            refine own_st (fun _ kz => XS.dcmpS X5.here hx rfl (hb hby dq_156) rfl rfl kz) ?_
            show own_Win p e below s _ _ _ (T5.setTop (mkF m 157 #[.val (.ref t), .val (.int kv), .val (.int sv), .val (.int mv), .val (.int ev), .val (.int av), .val (.ref aA), .val (.ref aB), .val (.int sp), .val (.int (own_I σ k)), .val (.int b), .val (.double (O w (σ mid))), .second, .val (.double (O w (σ k))), .second] [(.int (cmpValue (FP.dcmp (O w (σ k)) (O w (σ mid))) .g))]))
            refine own_st (fun _ kz => XS.ifYes X5.here hx rfl (pc0 := 157) (pc' := 162) rfl (hb hby dq_157) rfl (by rw [own_hc dk dm]; exact decide_eq_true (hp.2 k x (by omega))) (by decide) (by decide) kz) ?_
            show own_Win p e below s _ _ _ (T5.setTop (mkF m 162 #[.val (.ref t), .val (.int kv), .val (.int sv), .val (.int mv), .val (.int ev), .val (.int av), .val (.ref aA), .val (.ref aB), .val (.int sp), .val (.int (own_I σ k)), .val (.int b), .val (.double (O w (σ mid))), .second, .val (.double (O w (σ k))), .second] []))
            refine own_st (fun _ kz => XS.iconst X5.here hx rfl (hb hby dq_162) kz) ?_
            show own_Win p e below s _ _ _ (T5.setTop (mkF m 163 #[.val (.ref t), .val (.int kv), .val (.int sv), .val (.int mv), .val (.int ev), .val (.int av), .val (.ref aA), .val (.ref aB), .val (.int sp), .val (.int (own_I σ k)), .val (.int b), .val (.double (O w (σ mid))), .second, .val (.double (O w (σ k))), .second] [(.int (1 : Int32))]))
            refine own_st (fun _ kz => XS.iload X5.here hx rfl (hb hby dq_163) rfl kz) ?_
            show own_Win p e below s _ _ _ (T5.setTop (mkF m 165 #[.val (.ref t), .val (.int kv), .val (.int sv), .val (.int mv), .val (.int ev), .val (.int av), .val (.ref aA), .val (.ref aB), .val (.int sp), .val (.int (own_I σ k)), .val (.int b), .val (.double (O w (σ mid))), .second, .val (.double (O w (σ k))), .second] [(.int (own_I σ k)), (.int (1 : Int32))]))
            refine own_st (fun _ kz => XT.ishl X5.here hx rfl (hb hby dq_165) rfl kz) ?_
            show own_Win p e below s _ _ _ (T5.setTop (mkF m 166 #[.val (.ref t), .val (.int kv), .val (.int sv), .val (.int mv), .val (.int ev), .val (.int av), .val (.ref aA), .val (.ref aB), .val (.int sp), .val (.int (own_I σ k)), .val (.int b), .val (.double (O w (σ mid))), .second, .val (.double (O w (σ k))), .second] [(.int ((1 : Int32) <<< ((own_I σ k) &&& 31)))]))
            exact own_ret X5 hx hlk Bd.returns rfl (Or.inl ⟨rfl, Or.inl rfl, _, rfl⟩) (hb hby dq_166) ⟨rfl, N0, e5⟩ (Nat.le_refl _) (Nat.le_refl _)
          ·
            refine own_st (fun _ kz => XS.icmpYes X5.here hx rfl (pc0 := 149) (pc' := 162) rfl (hb hby dq_149) rfl (by refine (flt ?_).2.2.2; rw [Int32.lt_iff_toInt_lt]; omega) (by decide) (by decide) kz) ?_
            show own_Win p e below s _ _ _ (T5.setTop (mkF m 162 #[.val (.ref t), .val (.int kv), .val (.int sv), .val (.int mv), .val (.int ev), .val (.int av), .val (.ref aA), .val (.ref aB), .val (.int sp), .val (.int (own_I σ k)), .val (.int b), .val (.double (O w (σ mid))), .second, .val (.double (O w (σ k))), .second] []))
            refine own_st (fun _ kz => XS.iconst X5.here hx rfl (hb hby dq_162) kz) ?_
            show own_Win p e below s _ _ _ (T5.setTop (mkF m 163 #[.val (.ref t), .val (.int kv), .val (.int sv), .val (.int mv), .val (.int ev), .val (.int av), .val (.ref aA), .val (.ref aB), .val (.int sp), .val (.int (own_I σ k)), .val (.int b), .val (.double (O w (σ mid))), .second, .val (.double (O w (σ k))), .second] [(.int (1 : Int32))]))
            refine own_st (fun _ kz => XS.iload X5.here hx rfl (hb hby dq_163) rfl kz) ?_
            show own_Win p e below s _ _ _ (T5.setTop (mkF m 165 #[.val (.ref t), .val (.int kv), .val (.int sv), .val (.int mv), .val (.int ev), .val (.int av), .val (.ref aA), .val (.ref aB), .val (.int sp), .val (.int (own_I σ k)), .val (.int b), .val (.double (O w (σ mid))), .second, .val (.double (O w (σ k))), .second] [(.int (own_I σ k)), (.int (1 : Int32))]))
            refine own_st (fun _ kz => XT.ishl X5.here hx rfl (hb hby dq_165) rfl kz) ?_
            show own_Win p e below s _ _ _ (T5.setTop (mkF m 166 #[.val (.ref t), .val (.int kv), .val (.int sv), .val (.int mv), .val (.int ev), .val (.int av), .val (.ref aA), .val (.ref aB), .val (.int sp), .val (.int (own_I σ k)), .val (.int b), .val (.double (O w (σ mid))), .second, .val (.double (O w (σ k))), .second] [(.int ((1 : Int32) <<< ((own_I σ k) &&& 31)))]))
            exact own_ret X5 hx hlk Bd.returns rfl (Or.inl ⟨rfl, Or.inl rfl, _, rfl⟩) (hb hby dq_166) ⟨rfl, N0, e5⟩ (Nat.le_refl _) (Nat.le_refl _)
  refine own_st (fun _ kz => XS.iloadN X1.here hx rfl (hb hby dq_22) rfl kz) ?_
  show own_Win p e below s _ _ _ (T1.setTop (mkF m 23 #[.val (.ref t), .val (.int kv), .val (.int sv), .val (.int mv), .val (.int ev), .val (.int av), .val (.ref aA), .val (.ref aB), .val (.int sp), .val (.int (own_I σ k)), .unset, .unset, .unset, .unset, .unset] [(.int kv)]))
  refine own_st (fun _ kz => XS.iloadN X1.here hx rfl (hb hby dq_23) rfl kz) ?_
  show own_Win p e below s _ _ _ (T1.setTop (mkF m 24 #[.val (.ref t), .val (.int kv), .val (.int sv), .val (.int mv), .val (.int ev), .val (.int av), .val (.ref aA), .val (.ref aB), .val (.int sp), .val (.int (own_I σ k)), .unset, .unset, .unset, .unset, .unset] [(.int sv), (.int kv)]))
  by_cases q1 : k < sN
  ·
    refine own_st (fun _ kz => XS.icmpYes X1.here hx rfl (pc0 := 24) (pc' := 37) rfl (hb hby dq_24) rfl (by refine (tlt ?_).1; rw [Int32.lt_iff_toInt_lt]; omega) (by decide) (by decide) kz) ?_
    show own_Win p e below s _ _ _ (T1.setTop (mkF m 37 #[.val (.ref t), .val (.int kv), .val (.int sv), .val (.int mv), .val (.int ev), .val (.int av), .val (.ref aA), .val (.ref aB), .val (.int sp), .val (.int (own_I σ k)), .unset, .unset, .unset, .unset, .unset] []))
    refine own_st (fun _ kz => XS.iconst X1.here hx rfl (hb hby dq_37) kz) ?_
    show own_Win p e below s _ _ _ (T1.setTop (mkF m 38 #[.val (.ref t), .val (.int kv), .val (.int sv), .val (.int mv), .val (.int ev), .val (.int av), .val (.ref aA), .val (.ref aB), .val (.int sp), .val (.int (own_I σ k)), .unset, .unset, .unset, .unset, .unset] [(.int (0 : Int32))]))
    exact tl 0 (Or.inl ⟨rfl, Or.inl q1⟩)
  ·
    refine own_st (fun _ kz => XS.icmpNo X1.here hx rfl (hb hby dq_24) rfl (by refine (flt ?_).1; rw [Int32.lt_iff_toInt_lt]; omega) kz) ?_
    show own_Win p e below s _ _ _ (T1.setTop (mkF m 27 #[.val (.ref t), .val (.int kv), .val (.int sv), .val (.int mv), .val (.int ev), .val (.int av), .val (.ref aA), .val (.ref aB), .val (.int sp), .val (.int (own_I σ k)), .unset, .unset, .unset, .unset, .unset] []))
    refine own_st (fun _ kz => XS.iloadN X1.here hx rfl (hb hby dq_27) rfl kz) ?_
    show own_Win p e below s _ _ _ (T1.setTop (mkF m 28 #[.val (.ref t), .val (.int kv), .val (.int sv), .val (.int mv), .val (.int ev), .val (.int av), .val (.ref aA), .val (.ref aB), .val (.int sp), .val (.int (own_I σ k)), .unset, .unset, .unset, .unset, .unset] [(.int kv)]))
    refine own_st (fun _ kz => XS.iload X1.here hx rfl (hb hby dq_28) rfl kz) ?_
    show own_Win p e below s _ _ _ (T1.setTop (mkF m 30 #[.val (.ref t), .val (.int kv), .val (.int sv), .val (.int mv), .val (.int ev), .val (.int av), .val (.ref aA), .val (.ref aB), .val (.int sp), .val (.int (own_I σ k)), .unset, .unset, .unset, .unset, .unset] [(.int ev), (.int kv)]))
    by_cases q2 : eN ≤ k
    ·
      refine own_st (fun _ kz => XS.icmpYes X1.here hx rfl (pc0 := 30) (pc' := 37) rfl (hb hby dq_30) rfl (by refine (flt ?_).2.1; rw [Int32.lt_iff_toInt_lt]; omega) (by decide) (by decide) kz) ?_
      show own_Win p e below s _ _ _ (T1.setTop (mkF m 37 #[.val (.ref t), .val (.int kv), .val (.int sv), .val (.int mv), .val (.int ev), .val (.int av), .val (.ref aA), .val (.ref aB), .val (.int sp), .val (.int (own_I σ k)), .unset, .unset, .unset, .unset, .unset] []))
      refine own_st (fun _ kz => XS.iconst X1.here hx rfl (hb hby dq_37) kz) ?_
      show own_Win p e below s _ _ _ (T1.setTop (mkF m 38 #[.val (.ref t), .val (.int kv), .val (.int sv), .val (.int mv), .val (.int ev), .val (.int av), .val (.ref aA), .val (.ref aB), .val (.int sp), .val (.int (own_I σ k)), .unset, .unset, .unset, .unset, .unset] [(.int (0 : Int32))]))
      exact tl 0 (Or.inl ⟨rfl, Or.inr q2⟩)
    ·
      refine own_st (fun _ kz => XS.icmpNo X1.here hx rfl (hb hby dq_30) rfl (by refine (tlt ?_).2.1; rw [Int32.lt_iff_toInt_lt]; omega) kz) ?_
      show own_Win p e below s _ _ _ (T1.setTop (mkF m 33 #[.val (.ref t), .val (.int kv), .val (.int sv), .val (.int mv), .val (.int ev), .val (.int av), .val (.ref aA), .val (.ref aB), .val (.int sp), .val (.int (own_I σ k)), .unset, .unset, .unset, .unset, .unset] []))
      refine own_st (fun _ kz => XS.iconst X1.here hx rfl (hb hby dq_33) kz) ?_
      show own_Win p e below s _ _ _ (T1.setTop (mkF m 34 #[.val (.ref t), .val (.int kv), .val (.int sv), .val (.int mv), .val (.int ev), .val (.int av), .val (.ref aA), .val (.ref aB), .val (.int sp), .val (.int (own_I σ k)), .unset, .unset, .unset, .unset, .unset] [(.int (1 : Int32))]))
      refine own_st (fun _ kz => XS.goto X1.here hx rfl (pc0 := 34) (pc' := 38) rfl (hb hby dq_34) (by decide) (by decide) kz) ?_
      show own_Win p e below s _ _ _ (T1.setTop (mkF m 38 #[.val (.ref t), .val (.int kv), .val (.int sv), .val (.int mv), .val (.int ev), .val (.int av), .val (.ref aA), .val (.ref aB), .val (.int sp), .val (.int (own_I σ k)), .unset, .unset, .unset, .unset, .unset] [(.int (1 : Int32))]))
      exact tl 1 (Or.inr ⟨rfl, by omega, by omega⟩)
def Q_rmS (Z : State) (t aI aP aF aT aL aH aLo aHi aSp : Nat) (sv ev : Int32) (sN : Nat) (fF fT fL fH : Nat → Int32) (fLo fHi fSp : Nat → UInt64) (L0 L1 r0 r1 s0 s1 : Int) (O : Nat → Nat → UInt64) (V : Nat → Nat → Int) (h0 : Heap) (n0 : Nat) : Option Value → Heap → List Loc → Prop := fun v h L => v = some (.int (0 : Int32)) ∧ Fr n0 L ∧ Keep h0 h [aI, aP, t, aF, aT, aL, aH] ∧ ∃ (σ' : Nat → Nat) (gF gT gL gH : Nat → Int32) (mv : Int32), mv = XT.ushr (sv + ev) (1 : Int32) ∧ mv.toInt = ((sN + 8 : Nat) : Int) ∧ own_Fs Z h t 2 3 aI aP aF aT aL aH ∧ own_Ia Z h aI 18 (own_I σ') ∧ own_Da Z h aP 36 (own_P O σ') ∧ own_ok sN (sN + 17) σ' ∧ own_Part (fun k => V (own_w r0 r1 s0 s1) (σ' k)) sN (sN + 17) (sN + 8) ∧ own_Ia Z h aF 6 gF ∧ own_Ia Z h aT 6 gT ∧ own_Ia Z h aL 6 gL ∧ own_Ia Z h aH 6 gH ∧ gF 0 = sv ∧ gT 0 = ev ∧ gL 0 = 1 ∧ gH 0 = 2 ∧ gF 1 = sv ∧ gT 1 = mv ∧ gL 1 = -1 ∧ gH 1 = -1 ∧ gF 2 = mv ∧ gT 2 = ev ∧ gL 2 = -1 ∧ gH 2 = -1
set_option maxRecDepth 65536 in
set_option maxHeartbeats 40000000 in
theorem rmS (l : Launch) (Z : State) (a0 : Array Value) (hw : ∀ d ∈ tables_1, d.before a0 Z = true) (ws : List Jvm.Cond) (t aI aP aF aT aL aH aLo aHi aSp : Nat) (sv ev : Int32) (sN : Nat) (fF fT fL fH : Nat → Int32) (fLo fHi fSp : Nat → UInt64) (L0 L1 r0 r1 s0 s1 : Int) (O : Nat → Nat → UInt64) (V : Nat → Nat → Int) (h0 : Heap) (n0 : Nat) (Z0 : n0 ≤ h0.size) (FS : own_Fs Z h0 t 2 0 aI aP aF aT aL aH) (q0 : n0 ≤ aI) (o0 : aI < aP) (o1 : aP < aLo) (o2 : aLo < aHi) (o3 : aHi < aSp) (o4 : aSp < t) (o5 : t < aF) (o6 : aF < aT) (o7 : aT < aL) (o8 : aL < aH) (F_F : own_Ia Z h0 aF 6 fF) (F_U : own_Ia Z h0 aT 6 fT) (F_L : own_Ia Z h0 aL 6 fL) (F_H : own_Ia Z h0 aH 6 fH) (FI : own_Ia Z h0 aI 18 (own_I (fun k => k))) (FQ : own_Da Z h0 aP 36 (own_P O (fun k => k))) (Flo : own_Da Z h0 aLo 2 fLo) (Fhi : own_Da Z h0 aHi 2 fHi) (Fsp : own_Da Z h0 aSp 2 fSp) (Elo : Exa Z h0 aLo "[D") (Ehi : Exa Z h0 aHi "[D") (dL0 : FP.Core.DInt L0 (fLo 0)) (dH0 : FP.Core.DInt (L0 + r0) (fHi 0)) (dS0 : FP.Core.DInt s0 (fSp 0)) (ra0 : 0 ≤ r0) (rb0 : r0 ≤ 15) (rc0 : r0 ≤ s0) (rd0 : s0 ≤ 30) (dL1 : FP.Core.DInt L1 (fLo 1)) (dH1 : FP.Core.DInt (L1 + r1) (fHi 1)) (dS1 : FP.Core.DInt s1 (fSp 1)) (ra1 : 0 ≤ r1) (rb1 : r1 ≤ 15) (rc1 : r1 ≤ s1) (rd1 : s1 ≤ 30) (s1N : sN ≤ 1) (hs : sv.toInt = (sN : Int)) (he : ev.toInt = ((sN + 17 : Nat) : Int)) (hD : ∀ u d, u < 2 → d < 18 → FP.Core.DInt (V u d) (O u d)) :
    MetFree l yS (head1 (Jvm.Cond.code yS prog_13_method_3_code 15 (some .int) :: ws) ({ frames := 2, cells := 2, slots := 4, locals := 40 } : Room)) (fun az Uz => az = #[(.ref t), (.int sv), (.int ev), (.ref aLo), (.ref aHi), (.ref aSp)] ∧ Z.Warmed39 Uz.vm ∧ Uz.heap = h0) (fun _ _ _ _ _ => True) (fun _ Uz oz Vz => ∃ vz Lz, oz = .returned vz ∧ (Q_rmS Z t aI aP aF aT aL aH aLo aHi aSp sv ev sN fF fT fL fH fLo fHi fSp L0 L1 r0 r1 s0 s1 O V h0 n0) vz Vz.heap Lz ∧ FrameEnd Uz oz Vz Lz ({ frames := 2, cells := 2, slots := 4, locals := 40 } : Room).cells ({ frames := 2, cells := 2, slots := 4, locals := 40 } : Room).slots) := by
  refine MetFree.of_bodySF (plainFor_of_name pnK) hisR ?_
  intro p e s m args below meth c s₁ Bd hml0 hP hK
  obtain ⟨rfl, hZ, hh⟩ := hP
  have hx := Bd.exec
  have hby := Bd.bytes
  have hlk := BodyLoose.notSynchronized Bd
  have hml : c.maxLocals = 15 := hml0
  have hown : s.vm.findClass "com/example/skyweave/skyweave/KdTree" = some m.cls := findClass_of_methodNamed Bd.named
  have hnm := (name_of_methodNamed Bd.named Bd.method).1
  have X0 : Stand p l e ({ frames := 2, cells := 2, slots := 4, locals := 40 } : Room) s m #[(.ref t), (.int sv), (.int ev), (.ref aLo), (.ref aHi), (.ref aSp)] below meth c s₁ [] 0 0 := Stand.of_body Bd
  have e0 : s₁.heap = h0 := by rw [← hh, Bd.state]; rfl
  have N0 := Fr.nil n0
  show own_Win p e below s (Q_rmS Z t aI aP aF aT aL aH aLo aHi aSp sv ev sN fF fT fL fH fLo fHi fSp L0 L1 r0 r1 s0 s1 O V h0 n0) _ _ _
  refine own_st (fun tz kz => castTop (efS m t sv ev aLo aHi aSp) kz) ?_
  show own_Win p e below s _ _ _ (s₁.setTop (mkF m 0 #[.val (.ref t), .val (.int sv), .val (.int ev), .val (.ref aLo), .val (.ref aHi), .val (.ref aSp), .unset, .unset, .unset, .unset, .unset, .unset, .unset, .unset, .unset] []))
  refine own_st (fun _ kz => XS.aloadN X0.here hx rfl (hb hby ds_0) rfl rfl kz) ?_
  show own_Win p e below s _ _ _ (s₁.setTop (mkF m 1 #[.val (.ref t), .val (.int sv), .val (.int ev), .val (.ref aLo), .val (.ref aHi), .val (.ref aSp), .unset, .unset, .unset, .unset, .unset, .unset, .unset, .unset, .unset] [(.ref t)]))
  refine own_st (fun _ kz => XS.dup X0.here hx rfl (hb hby ds_1) rfl rfl kz) ?_
  show own_Win p e below s _ _ _ (s₁.setTop (mkF m 2 #[.val (.ref t), .val (.int sv), .val (.int ev), .val (.ref aLo), .val (.ref aHi), .val (.ref aSp), .unset, .unset, .unset, .unset, .unset, .unset, .unset, .unset, .unset] [(.ref t), (.ref t)]))
  obtain ⟨T1, X1, e1, st1⟩ := getF X0 hx hZ hown (host := "") (Or.inl (hw _ (List.mem_of_getElem? (i := 36) rfl))) Via.refl e0 FS.2.2.2.2.2.2.2.2 (g := (mkF m 2 #[.val (.ref t), .val (.int sv), .val (.int ev), .val (.ref aLo), .val (.ref aHi), .val (.ref aSp), .unset, .unset, .unset, .unset, .unset, .unset, .unset, .unset, .unset] [(.ref t), (.ref t)])) rfl rfl (hb hby ds_2)
  refine own_st st1 ?_
  show own_Win p e below s _ _ _ (T1.setTop (mkF m 5 #[.val (.ref t), .val (.int sv), .val (.int ev), .val (.ref aLo), .val (.ref aHi), .val (.ref aSp), .unset, .unset, .unset, .unset, .unset, .unset, .unset, .unset, .unset] [(.int (0 : Int32)), (.ref t)]))
  refine own_st (fun _ kz => XT.dupX1 X1.here hx rfl (hb hby ds_5) rfl rfl rfl kz) ?_
  show own_Win p e below s _ _ _ (T1.setTop (mkF m 6 #[.val (.ref t), .val (.int sv), .val (.int ev), .val (.ref aLo), .val (.ref aHi), .val (.ref aSp), .unset, .unset, .unset, .unset, .unset, .unset, .unset, .unset, .unset] [(.int (0 : Int32)), (.ref t), (.int (0 : Int32))]))
  refine own_st (fun _ kz => XS.iconst X1.here hx rfl (hb hby ds_6) kz) ?_
  show own_Win p e below s _ _ _ (T1.setTop (mkF m 7 #[.val (.ref t), .val (.int sv), .val (.int ev), .val (.ref aLo), .val (.ref aHi), .val (.ref aSp), .unset, .unset, .unset, .unset, .unset, .unset, .unset, .unset, .unset] [(.int (1 : Int32)), (.int (0 : Int32)), (.ref t), (.int (0 : Int32))]))
  refine own_st (fun _ kz => XS.iadd X1.here hx rfl (hb hby ds_7) rfl kz) ?_
  show own_Win p e below s _ _ _ (T1.setTop (mkF m 8 #[.val (.ref t), .val (.int sv), .val (.int ev), .val (.ref aLo), .val (.ref aHi), .val (.ref aSp), .unset, .unset, .unset, .unset, .unset, .unset, .unset, .unset, .unset] [(.int ((0 : Int32) + (1 : Int32))), (.ref t), (.int (0 : Int32))]))
  obtain ⟨T2, h2, X2, e2, W2, st2⟩ := putF X1 hx hZ hown (host := "") (Or.inl (hw _ (List.mem_of_getElem? (i := 36) rfl))) Via.refl e1 FS.2.2.2.2.2.2.2.2 FS.1 (Or.inl (hw _ (List.mem_of_getElem? (i := 37) rfl))) (hw _ (List.mem_of_getElem? (i := 7) rfl)) (ty := .int) (by decide) rfl rfl (g := (mkF m 8 #[.val (.ref t), .val (.int sv), .val (.int ev), .val (.ref aLo), .val (.ref aHi), .val (.ref aSp), .unset, .unset, .unset, .unset, .unset, .unset, .unset, .unset, .unset] [(.int ((0 : Int32) + (1 : Int32))), (.ref t), (.int (0 : Int32))])) rfl rfl (hb hby ds_8)
  refine own_st st2 ?_
  have N2 := Fr.snoc X2 N0 (show n0 ≤ t by omega)
  have Z2 : n0 ≤ h2.size := by rw [Wr.size W2]; exact Z0
  have c_T_h2 : own_Fs Z h2 t (2 : Int32) (1 : Int32) aI aP aF aT aL aH := own_Fs.put hw W2 FS
  have c_F_h2 : own_Ia Z h2 aF 6 fF := own_Av.other W2 F_F (Nat.ne_of_gt (by omega))
  have c_U_h2 : own_Ia Z h2 aT 6 fT := own_Av.other W2 F_U (Nat.ne_of_gt (by omega))
  have c_L_h2 : own_Ia Z h2 aL 6 fL := own_Av.other W2 F_L (Nat.ne_of_gt (by omega))
  have c_H_h2 : own_Ia Z h2 aH 6 fH := own_Av.other W2 F_H (Nat.ne_of_gt (by omega))
  have c_I_h2 : own_Ia Z h2 aI 18 (own_I (fun k => k)) := own_Av.other W2 FI (Nat.ne_of_lt (by omega))
  have c_Q_h2 : own_Da Z h2 aP 36 (own_P O (fun k => k)) := own_Av.other W2 FQ (Nat.ne_of_lt (by omega))
  have c_lo_h2 : own_Da Z h2 aLo 2 fLo := own_Av.other W2 Flo (Nat.ne_of_lt (by omega))
  have c_hi_h2 : own_Da Z h2 aHi 2 fHi := own_Av.other W2 Fhi (Nat.ne_of_lt (by omega))
  have c_sp_h2 : own_Da Z h2 aSp 2 fSp := own_Av.other W2 Fsp (Nat.ne_of_lt (by omega))
  have c_elo_h2 : Exa Z h2 aLo "[D" := Exa.wr W2 Elo
  have c_ehi_h2 : Exa Z h2 aHi "[D" := Exa.wr W2 Ehi
  show own_Win p e below s _ _ _ (T2.setTop (mkF m 11 #[.val (.ref t), .val (.int sv), .val (.int ev), .val (.ref aLo), .val (.ref aHi), .val (.ref aSp), .unset, .unset, .unset, .unset, .unset, .unset, .unset, .unset, .unset] [(.int (0 : Int32))]))
  have KK2 : Keep h0 h2 [aI, aP, t, aF, aT, aL, aH] := (Keep.refl h0 [aI, aP, t, aF, aT, aL, aH]).wr W2 (Or.inl (List.mem_of_getElem? (i := 2) rfl))
  refine own_st (fun _ kz => XS.istore X2.here hx rfl (hb hby ds_11) rfl (l' := #[.val (.ref t), .val (.int sv), .val (.int ev), .val (.ref aLo), .val (.ref aHi), .val (.ref aSp), .val (.int (0 : Int32)), .unset, .unset, .unset, .unset, .unset, .unset, .unset, .unset]) rfl kz) ?_
  show own_Win p e below s _ _ _ (T2.setTop (mkF m 13 #[.val (.ref t), .val (.int sv), .val (.int ev), .val (.ref aLo), .val (.ref aHi), .val (.ref aSp), .val (.int (0 : Int32)), .unset, .unset, .unset, .unset, .unset, .unset, .unset, .unset] []))
  refine own_st (fun _ kz => XS.aloadN X2.here hx rfl (hb hby ds_13) rfl rfl kz) ?_
  show own_Win p e below s _ _ _ (T2.setTop (mkF m 14 #[.val (.ref t), .val (.int sv), .val (.int ev), .val (.ref aLo), .val (.ref aHi), .val (.ref aSp), .val (.int (0 : Int32)), .unset, .unset, .unset, .unset, .unset, .unset, .unset, .unset] [(.ref t)]))
  obtain ⟨T3, X3, e3, st3⟩ := getF X2 hx hZ hown (host := "") (Or.inl (hw _ (List.mem_of_getElem? (i := 21) rfl))) Via.refl e2 c_T_h2.2.2.2.2.1 (g := (mkF m 14 #[.val (.ref t), .val (.int sv), .val (.int ev), .val (.ref aLo), .val (.ref aHi), .val (.ref aSp), .val (.int (0 : Int32)), .unset, .unset, .unset, .unset, .unset, .unset, .unset, .unset] [(.ref t)])) rfl rfl (hb hby ds_14)
  refine own_st st3 ?_
  show own_Win p e below s _ _ _ (T3.setTop (mkF m 17 #[.val (.ref t), .val (.int sv), .val (.int ev), .val (.ref aLo), .val (.ref aHi), .val (.ref aSp), .val (.int (0 : Int32)), .unset, .unset, .unset, .unset, .unset, .unset, .unset, .unset] [(.ref aF)]))
  refine own_st (fun _ kz => XS.iload X3.here hx rfl (hb hby ds_17) rfl kz) ?_
  show own_Win p e below s _ _ _ (T3.setTop (mkF m 19 #[.val (.ref t), .val (.int sv), .val (.int ev), .val (.ref aLo), .val (.ref aHi), .val (.ref aSp), .val (.int (0 : Int32)), .unset, .unset, .unset, .unset, .unset, .unset, .unset, .unset] [(.int (0 : Int32)), (.ref aF)]))
  refine own_st (fun _ kz => XS.iloadN X3.here hx rfl (hb hby ds_19) rfl kz) ?_
  show own_Win p e below s _ _ _ (T3.setTop (mkF m 20 #[.val (.ref t), .val (.int sv), .val (.int ev), .val (.ref aLo), .val (.ref aHi), .val (.ref aSp), .val (.int (0 : Int32)), .unset, .unset, .unset, .unset, .unset, .unset, .unset, .unset] [(.int sv), (.int (0 : Int32)), (.ref aF)]))
  refine own_iastore X3 hx hZ e3 c_F_h2 (i := 0) rfl (by decide) N2 (by omega) rfl rfl (hb hby ds_20) ?_
  intro T4 h4 L4 X4 e4 N4 W4 F4
  show own_Win p e below s _ _ _ (T4.setTop (mkF m 21 #[.val (.ref t), .val (.int sv), .val (.int ev), .val (.ref aLo), .val (.ref aHi), .val (.ref aSp), .val (.int (0 : Int32)), .unset, .unset, .unset, .unset, .unset, .unset, .unset, .unset] []))
  have Z4 : n0 ≤ h4.size := by rw [Wr.size W4]; exact Z2
  have c_T_h4 : own_Fs Z h4 t (2 : Int32) (1 : Int32) aI aP aF aT aL aH := own_Fs.other W4 c_T_h2 (Nat.ne_of_lt (by omega))
  have c_U_h4 : own_Ia Z h4 aT 6 fT := own_Av.other W4 c_U_h2 (Nat.ne_of_gt (by omega))
  have c_L_h4 : own_Ia Z h4 aL 6 fL := own_Av.other W4 c_L_h2 (Nat.ne_of_gt (by omega))
  have c_H_h4 : own_Ia Z h4 aH 6 fH := own_Av.other W4 c_H_h2 (Nat.ne_of_gt (by omega))
  have c_I_h4 : own_Ia Z h4 aI 18 (own_I (fun k => k)) := own_Av.other W4 c_I_h2 (Nat.ne_of_lt (by omega))
  have c_Q_h4 : own_Da Z h4 aP 36 (own_P O (fun k => k)) := own_Av.other W4 c_Q_h2 (Nat.ne_of_lt (by omega))
  have c_lo_h4 : own_Da Z h4 aLo 2 fLo := own_Av.other W4 c_lo_h2 (Nat.ne_of_lt (by omega))
  have c_hi_h4 : own_Da Z h4 aHi 2 fHi := own_Av.other W4 c_hi_h2 (Nat.ne_of_lt (by omega))
  have c_sp_h4 : own_Da Z h4 aSp 2 fSp := own_Av.other W4 c_sp_h2 (Nat.ne_of_lt (by omega))
  have c_elo_h4 : Exa Z h4 aLo "[D" := Exa.wr W4 c_elo_h2
  have c_ehi_h4 : Exa Z h4 aHi "[D" := Exa.wr W4 c_ehi_h2
  have KK4 : Keep h0 h4 [aI, aP, t, aF, aT, aL, aH] := KK2.wr W4 (Or.inl (List.mem_of_getElem? (i := 3) rfl))
  refine own_st (fun _ kz => XS.aloadN X4.here hx rfl (hb hby ds_21) rfl rfl kz) ?_
  show own_Win p e below s _ _ _ (T4.setTop (mkF m 22 #[.val (.ref t), .val (.int sv), .val (.int ev), .val (.ref aLo), .val (.ref aHi), .val (.ref aSp), .val (.int (0 : Int32)), .unset, .unset, .unset, .unset, .unset, .unset, .unset, .unset] [(.ref t)]))
  obtain ⟨T5, X5, e5, st5⟩ := getF X4 hx hZ hown (host := "") (Or.inl (hw _ (List.mem_of_getElem? (i := 23) rfl))) Via.refl e4 c_T_h4.2.2.2.2.2.1 (g := (mkF m 22 #[.val (.ref t), .val (.int sv), .val (.int ev), .val (.ref aLo), .val (.ref aHi), .val (.ref aSp), .val (.int (0 : Int32)), .unset, .unset, .unset, .unset, .unset, .unset, .unset, .unset] [(.ref t)])) rfl rfl (hb hby ds_22)
  refine own_st st5 ?_
  show own_Win p e below s _ _ _ (T5.setTop (mkF m 25 #[.val (.ref t), .val (.int sv), .val (.int ev), .val (.ref aLo), .val (.ref aHi), .val (.ref aSp), .val (.int (0 : Int32)), .unset, .unset, .unset, .unset, .unset, .unset, .unset, .unset] [(.ref aT)]))
  refine own_st (fun _ kz => XS.iload X5.here hx rfl (hb hby ds_25) rfl kz) ?_
  show own_Win p e below s _ _ _ (T5.setTop (mkF m 27 #[.val (.ref t), .val (.int sv), .val (.int ev), .val (.ref aLo), .val (.ref aHi), .val (.ref aSp), .val (.int (0 : Int32)), .unset, .unset, .unset, .unset, .unset, .unset, .unset, .unset] [(.int (0 : Int32)), (.ref aT)]))
  refine own_st (fun _ kz => XS.iloadN X5.here hx rfl (hb hby ds_27) rfl kz) ?_
  show own_Win p e below s _ _ _ (T5.setTop (mkF m 28 #[.val (.ref t), .val (.int sv), .val (.int ev), .val (.ref aLo), .val (.ref aHi), .val (.ref aSp), .val (.int (0 : Int32)), .unset, .unset, .unset, .unset, .unset, .unset, .unset, .unset] [(.int ev), (.int (0 : Int32)), (.ref aT)]))
  refine own_iastore X5 hx hZ e5 c_U_h4 (i := 0) rfl (by decide) N4 (by omega) rfl rfl (hb hby ds_28) ?_
  intro T6 h6 L6 X6 e6 N6 W6 F6
  show own_Win p e below s _ _ _ (T6.setTop (mkF m 29 #[.val (.ref t), .val (.int sv), .val (.int ev), .val (.ref aLo), .val (.ref aHi), .val (.ref aSp), .val (.int (0 : Int32)), .unset, .unset, .unset, .unset, .unset, .unset, .unset, .unset] []))
  have Z6 : n0 ≤ h6.size := by rw [Wr.size W6]; exact Z4
  have c_T_h6 : own_Fs Z h6 t (2 : Int32) (1 : Int32) aI aP aF aT aL aH := own_Fs.other W6 c_T_h4 (Nat.ne_of_lt (by omega))
  have c_F_h6 : own_Ia Z h6 aF 6 (own_up fF 0 sv) := own_Av.other W6 F4 (Nat.ne_of_lt (by omega))
  have c_L_h6 : own_Ia Z h6 aL 6 fL := own_Av.other W6 c_L_h4 (Nat.ne_of_gt (by omega))
  have c_H_h6 : own_Ia Z h6 aH 6 fH := own_Av.other W6 c_H_h4 (Nat.ne_of_gt (by omega))
  have c_I_h6 : own_Ia Z h6 aI 18 (own_I (fun k => k)) := own_Av.other W6 c_I_h4 (Nat.ne_of_lt (by omega))
  have c_Q_h6 : own_Da Z h6 aP 36 (own_P O (fun k => k)) := own_Av.other W6 c_Q_h4 (Nat.ne_of_lt (by omega))
  have c_lo_h6 : own_Da Z h6 aLo 2 fLo := own_Av.other W6 c_lo_h4 (Nat.ne_of_lt (by omega))
  have c_hi_h6 : own_Da Z h6 aHi 2 fHi := own_Av.other W6 c_hi_h4 (Nat.ne_of_lt (by omega))
  have c_sp_h6 : own_Da Z h6 aSp 2 fSp := own_Av.other W6 c_sp_h4 (Nat.ne_of_lt (by omega))
  have c_elo_h6 : Exa Z h6 aLo "[D" := Exa.wr W6 c_elo_h4
  have c_ehi_h6 : Exa Z h6 aHi "[D" := Exa.wr W6 c_ehi_h4
  have KK6 : Keep h0 h6 [aI, aP, t, aF, aT, aL, aH] := KK4.wr W6 (Or.inl (List.mem_of_getElem? (i := 4) rfl))
  refine own_st (fun _ kz => XS.aloadN X6.here hx rfl (hb hby ds_29) rfl rfl kz) ?_
  show own_Win p e below s _ _ _ (T6.setTop (mkF m 30 #[.val (.ref t), .val (.int sv), .val (.int ev), .val (.ref aLo), .val (.ref aHi), .val (.ref aSp), .val (.int (0 : Int32)), .unset, .unset, .unset, .unset, .unset, .unset, .unset, .unset] [(.ref t)]))
  obtain ⟨T7, X7, e7, st7⟩ := getF X6 hx hZ hown (host := "") (Or.inl (hw _ (List.mem_of_getElem? (i := 25) rfl))) Via.refl e6 c_T_h6.2.2.2.2.2.2.1 (g := (mkF m 30 #[.val (.ref t), .val (.int sv), .val (.int ev), .val (.ref aLo), .val (.ref aHi), .val (.ref aSp), .val (.int (0 : Int32)), .unset, .unset, .unset, .unset, .unset, .unset, .unset, .unset] [(.ref t)])) rfl rfl (hb hby ds_30)
  refine own_st st7 ?_
  show own_Win p e below s _ _ _ (T7.setTop (mkF m 33 #[.val (.ref t), .val (.int sv), .val (.int ev), .val (.ref aLo), .val (.ref aHi), .val (.ref aSp), .val (.int (0 : Int32)), .unset, .unset, .unset, .unset, .unset, .unset, .unset, .unset] [(.ref aL)]))
  refine own_st (fun _ kz => XS.iload X7.here hx rfl (hb hby ds_33) rfl kz) ?_
  show own_Win p e below s _ _ _ (T7.setTop (mkF m 35 #[.val (.ref t), .val (.int sv), .val (.int ev), .val (.ref aLo), .val (.ref aHi), .val (.ref aSp), .val (.int (0 : Int32)), .unset, .unset, .unset, .unset, .unset, .unset, .unset, .unset] [(.int (0 : Int32)), (.ref aL)]))
  refine own_st (fun _ kz => XS.iconst X7.here hx rfl (hb hby ds_35) kz) ?_
  show own_Win p e below s _ _ _ (T7.setTop (mkF m 36 #[.val (.ref t), .val (.int sv), .val (.int ev), .val (.ref aLo), .val (.ref aHi), .val (.ref aSp), .val (.int (0 : Int32)), .unset, .unset, .unset, .unset, .unset, .unset, .unset, .unset] [(.int (-1 : Int32)), (.int (0 : Int32)), (.ref aL)]))
  refine own_iastore X7 hx hZ e7 c_L_h6 (i := 0) rfl (by decide) N6 (by omega) rfl rfl (hb hby ds_36) ?_
  intro T8 h8 L8 X8 e8 N8 W8 F8
  show own_Win p e below s _ _ _ (T8.setTop (mkF m 37 #[.val (.ref t), .val (.int sv), .val (.int ev), .val (.ref aLo), .val (.ref aHi), .val (.ref aSp), .val (.int (0 : Int32)), .unset, .unset, .unset, .unset, .unset, .unset, .unset, .unset] []))
  have Z8 : n0 ≤ h8.size := by rw [Wr.size W8]; exact Z6
  have c_T_h8 : own_Fs Z h8 t (2 : Int32) (1 : Int32) aI aP aF aT aL aH := own_Fs.other W8 c_T_h6 (Nat.ne_of_lt (by omega))
  have c_F_h8 : own_Ia Z h8 aF 6 (own_up fF 0 sv) := own_Av.other W8 c_F_h6 (Nat.ne_of_lt (by omega))
  have c_U_h8 : own_Ia Z h8 aT 6 (own_up fT 0 ev) := own_Av.other W8 F6 (Nat.ne_of_lt (by omega))
  have c_H_h8 : own_Ia Z h8 aH 6 fH := own_Av.other W8 c_H_h6 (Nat.ne_of_gt (by omega))
  have c_I_h8 : own_Ia Z h8 aI 18 (own_I (fun k => k)) := own_Av.other W8 c_I_h6 (Nat.ne_of_lt (by omega))
  have c_Q_h8 : own_Da Z h8 aP 36 (own_P O (fun k => k)) := own_Av.other W8 c_Q_h6 (Nat.ne_of_lt (by omega))
  have c_lo_h8 : own_Da Z h8 aLo 2 fLo := own_Av.other W8 c_lo_h6 (Nat.ne_of_lt (by omega))
  have c_hi_h8 : own_Da Z h8 aHi 2 fHi := own_Av.other W8 c_hi_h6 (Nat.ne_of_lt (by omega))
  have c_sp_h8 : own_Da Z h8 aSp 2 fSp := own_Av.other W8 c_sp_h6 (Nat.ne_of_lt (by omega))
  have c_elo_h8 : Exa Z h8 aLo "[D" := Exa.wr W8 c_elo_h6
  have c_ehi_h8 : Exa Z h8 aHi "[D" := Exa.wr W8 c_ehi_h6
  have KK8 : Keep h0 h8 [aI, aP, t, aF, aT, aL, aH] := KK6.wr W8 (Or.inl (List.mem_of_getElem? (i := 5) rfl))
  refine own_st (fun _ kz => XS.aloadN X8.here hx rfl (hb hby ds_37) rfl rfl kz) ?_
  show own_Win p e below s _ _ _ (T8.setTop (mkF m 38 #[.val (.ref t), .val (.int sv), .val (.int ev), .val (.ref aLo), .val (.ref aHi), .val (.ref aSp), .val (.int (0 : Int32)), .unset, .unset, .unset, .unset, .unset, .unset, .unset, .unset] [(.ref t)]))
  obtain ⟨T9, X9, e9, st9⟩ := getF X8 hx hZ hown (host := "") (Or.inl (hw _ (List.mem_of_getElem? (i := 27) rfl))) Via.refl e8 c_T_h8.2.2.2.2.2.2.2.1 (g := (mkF m 38 #[.val (.ref t), .val (.int sv), .val (.int ev), .val (.ref aLo), .val (.ref aHi), .val (.ref aSp), .val (.int (0 : Int32)), .unset, .unset, .unset, .unset, .unset, .unset, .unset, .unset] [(.ref t)])) rfl rfl (hb hby ds_38)
  refine own_st st9 ?_
  show own_Win p e below s _ _ _ (T9.setTop (mkF m 41 #[.val (.ref t), .val (.int sv), .val (.int ev), .val (.ref aLo), .val (.ref aHi), .val (.ref aSp), .val (.int (0 : Int32)), .unset, .unset, .unset, .unset, .unset, .unset, .unset, .unset] [(.ref aH)]))
  refine own_st (fun _ kz => XS.iload X9.here hx rfl (hb hby ds_41) rfl kz) ?_
  show own_Win p e below s _ _ _ (T9.setTop (mkF m 43 #[.val (.ref t), .val (.int sv), .val (.int ev), .val (.ref aLo), .val (.ref aHi), .val (.ref aSp), .val (.int (0 : Int32)), .unset, .unset, .unset, .unset, .unset, .unset, .unset, .unset] [(.int (0 : Int32)), (.ref aH)]))
  refine own_st (fun _ kz => XS.iconst X9.here hx rfl (hb hby ds_43) kz) ?_
  show own_Win p e below s _ _ _ (T9.setTop (mkF m 44 #[.val (.ref t), .val (.int sv), .val (.int ev), .val (.ref aLo), .val (.ref aHi), .val (.ref aSp), .val (.int (0 : Int32)), .unset, .unset, .unset, .unset, .unset, .unset, .unset, .unset] [(.int (-1 : Int32)), (.int (0 : Int32)), (.ref aH)]))
  refine own_iastore X9 hx hZ e9 c_H_h8 (i := 0) rfl (by decide) N8 (by omega) rfl rfl (hb hby ds_44) ?_
  intro T10 h10 L10 X10 e10 N10 W10 F10
  show own_Win p e below s _ _ _ (T10.setTop (mkF m 45 #[.val (.ref t), .val (.int sv), .val (.int ev), .val (.ref aLo), .val (.ref aHi), .val (.ref aSp), .val (.int (0 : Int32)), .unset, .unset, .unset, .unset, .unset, .unset, .unset, .unset] []))
  have Z10 : n0 ≤ h10.size := by rw [Wr.size W10]; exact Z8
  have c_T_h10 : own_Fs Z h10 t (2 : Int32) (1 : Int32) aI aP aF aT aL aH := own_Fs.other W10 c_T_h8 (Nat.ne_of_lt (by omega))
  have c_F_h10 : own_Ia Z h10 aF 6 (own_up fF 0 sv) := own_Av.other W10 c_F_h8 (Nat.ne_of_lt (by omega))
  have c_U_h10 : own_Ia Z h10 aT 6 (own_up fT 0 ev) := own_Av.other W10 c_U_h8 (Nat.ne_of_lt (by omega))
  have c_L_h10 : own_Ia Z h10 aL 6 (own_up fL 0 (-1 : Int32)) := own_Av.other W10 F8 (Nat.ne_of_lt (by omega))
  have c_I_h10 : own_Ia Z h10 aI 18 (own_I (fun k => k)) := own_Av.other W10 c_I_h8 (Nat.ne_of_lt (by omega))
  have c_Q_h10 : own_Da Z h10 aP 36 (own_P O (fun k => k)) := own_Av.other W10 c_Q_h8 (Nat.ne_of_lt (by omega))
  have c_lo_h10 : own_Da Z h10 aLo 2 fLo := own_Av.other W10 c_lo_h8 (Nat.ne_of_lt (by omega))
  have c_hi_h10 : own_Da Z h10 aHi 2 fHi := own_Av.other W10 c_hi_h8 (Nat.ne_of_lt (by omega))
  have c_sp_h10 : own_Da Z h10 aSp 2 fSp := own_Av.other W10 c_sp_h8 (Nat.ne_of_lt (by omega))
  have c_elo_h10 : Exa Z h10 aLo "[D" := Exa.wr W10 c_elo_h8
  have c_ehi_h10 : Exa Z h10 aHi "[D" := Exa.wr W10 c_ehi_h8
  have KK10 : Keep h0 h10 [aI, aP, t, aF, aT, aL, aH] := KK8.wr W10 (Or.inl (List.mem_of_getElem? (i := 6) rfl))
  refine own_st (fun _ kz => XS.iloadN X10.here hx rfl (hb hby ds_45) rfl kz) ?_
  show own_Win p e below s _ _ _ (T10.setTop (mkF m 46 #[.val (.ref t), .val (.int sv), .val (.int ev), .val (.ref aLo), .val (.ref aHi), .val (.ref aSp), .val (.int (0 : Int32)), .unset, .unset, .unset, .unset, .unset, .unset, .unset, .unset] [(.int ev)]))
  refine own_st (fun _ kz => XS.iloadN X10.here hx rfl (hb hby ds_46) rfl kz) ?_
  show own_Win p e below s _ _ _ (T10.setTop (mkF m 47 #[.val (.ref t), .val (.int sv), .val (.int ev), .val (.ref aLo), .val (.ref aHi), .val (.ref aSp), .val (.int (0 : Int32)), .unset, .unset, .unset, .unset, .unset, .unset, .unset, .unset] [(.int sv), (.int ev)]))
  refine own_st (fun _ kz => XS.isub X10.here hx rfl (hb hby ds_47) rfl kz) ?_
  show own_Win p e below s _ _ _ (T10.setTop (mkF m 48 #[.val (.ref t), .val (.int sv), .val (.int ev), .val (.ref aLo), .val (.ref aHi), .val (.ref aSp), .val (.int (0 : Int32)), .unset, .unset, .unset, .unset, .unset, .unset, .unset, .unset] [(.int (ev - sv))]))
  refine own_st (fun _ kz => XS.bipush X10.here hx rfl (hb hby ds_48) kz) ?_
  show own_Win p e below s _ _ _ (T10.setTop (mkF m 50 #[.val (.ref t), .val (.int sv), .val (.int ev), .val (.ref aLo), .val (.ref aHi), .val (.ref aSp), .val (.int (0 : Int32)), .unset, .unset, .unset, .unset, .unset, .unset, .unset, .unset] [(.int (16 : Int32)), (.int (ev - sv))]))
  have h16 : (16 : Int32) < ev - sv := by
    rw [Int32.lt_iff_toInt_lt]
    have := c_isub ev sv
    have := rng32 (ev - sv)
    have : (16 : Int32).toInt = 16 := rfl
    omega
  refine own_st (fun _ kz => XS.icmpNo X10.here hx rfl (hb hby ds_50) rfl (tlt h16).2.2.2 kz) ?_
  show own_Win p e below s _ _ _ (T10.setTop (mkF m 53 #[.val (.ref t), .val (.int sv), .val (.int ev), .val (.ref aLo), .val (.ref aHi), .val (.ref aSp), .val (.int (0 : Int32)), .unset, .unset, .unset, .unset, .unset, .unset, .unset, .unset] []))
  refine own_st (fun _ kz => XS.aloadN X10.here hx rfl (hb hby ds_53) rfl rfl kz) ?_
  show own_Win p e below s _ _ _ (T10.setTop (mkF m 54 #[.val (.ref t), .val (.int sv), .val (.int ev), .val (.ref aLo), .val (.ref aHi), .val (.ref aSp), .val (.int (0 : Int32)), .unset, .unset, .unset, .unset, .unset, .unset, .unset, .unset] [(.ref t)]))
  obtain ⟨T11, X11, e11, st11⟩ := getF X10 hx hZ hown (host := "") (Or.inl (hw _ (List.mem_of_getElem? (i := 15) rfl))) Via.refl e10 c_T_h10.2.1 (g := (mkF m 54 #[.val (.ref t), .val (.int sv), .val (.int ev), .val (.ref aLo), .val (.ref aHi), .val (.ref aSp), .val (.int (0 : Int32)), .unset, .unset, .unset, .unset, .unset, .unset, .unset, .unset] [(.ref t)])) rfl rfl (hb hby ds_54)
  refine own_st st11 ?_
  show own_Win p e below s _ _ _ (T11.setTop (mkF m 57 #[.val (.ref t), .val (.int sv), .val (.int ev), .val (.ref aLo), .val (.ref aHi), .val (.ref aSp), .val (.int (0 : Int32)), .unset, .unset, .unset, .unset, .unset, .unset, .unset, .unset] [(.int (2 : Int32))]))
  refine own_st (fun _ kz => XS.ifYes X11.here hx rfl (pc0 := 57) (pc' := 63) rfl (hb hby ds_57) rfl (by decide) (by decide) (by decide) kz) ?_
  show own_Win p e below s _ _ _ (T11.setTop (mkF m 63 #[.val (.ref t), .val (.int sv), .val (.int ev), .val (.ref aLo), .val (.ref aHi), .val (.ref aSp), .val (.int (0 : Int32)), .unset, .unset, .unset, .unset, .unset, .unset, .unset, .unset] []))
  refine own_st (fun _ kz => XS.iconst X11.here hx rfl (hb hby ds_63) kz) ?_
  show own_Win p e below s _ _ _ (T11.setTop (mkF m 64 #[.val (.ref t), .val (.int sv), .val (.int ev), .val (.ref aLo), .val (.ref aHi), .val (.ref aSp), .val (.int (0 : Int32)), .unset, .unset, .unset, .unset, .unset, .unset, .unset, .unset] [(.int (0 : Int32))]))
  refine own_st (fun _ kz => XS.istore X11.here hx rfl (hb hby ds_64) rfl (l' := #[.val (.ref t), .val (.int sv), .val (.int ev), .val (.ref aLo), .val (.ref aHi), .val (.ref aSp), .val (.int (0 : Int32)), .val (.int (0 : Int32)), .unset, .unset, .unset, .unset, .unset, .unset, .unset]) rfl kz) ?_
  show own_Win p e below s _ _ _ (T11.setTop (mkF m 66 #[.val (.ref t), .val (.int sv), .val (.int ev), .val (.ref aLo), .val (.ref aHi), .val (.ref aSp), .val (.int (0 : Int32)), .val (.int (0 : Int32)), .unset, .unset, .unset, .unset, .unset, .unset, .unset] []))
  refine own_st (fun tz kz => X11.ldc2DoubleC hx hown (mvT hZ (hw _ (List.mem_of_getElem? (i := 51) rfl))) (g := (mkF m 66 #[.val (.ref t), .val (.int sv), .val (.int ev), .val (.ref aLo), .val (.ref aHi), .val (.ref aSp), .val (.int (0 : Int32)), .val (.int (0 : Int32)), .unset, .unset, .unset, .unset, .unset, .unset, .unset] [])) rfl (hb hby ds_66) tz kz) ?_
  show own_Win p e below s _ _ _ (T11.setTop (mkF m 69 #[.val (.ref t), .val (.int sv), .val (.int ev), .val (.ref aLo), .val (.ref aHi), .val (.ref aSp), .val (.int (0 : Int32)), .val (.int (0 : Int32)), .unset, .unset, .unset, .unset, .unset, .unset, .unset] [(.double (13830554455654793216 : UInt64))]))
  refine own_st (fun _ kz => XS.dstore X11.here hx rfl (hb hby ds_69) rfl (l' := #[.val (.ref t), .val (.int sv), .val (.int ev), .val (.ref aLo), .val (.ref aHi), .val (.ref aSp), .val (.int (0 : Int32)), .val (.int (0 : Int32)), .val (.double (13830554455654793216 : UInt64)), .second, .unset, .unset, .unset, .unset, .unset]) rfl kz) ?_
  show own_Win p e below s _ _ _ (T11.setTop (mkF m 71 #[.val (.ref t), .val (.int sv), .val (.int ev), .val (.ref aLo), .val (.ref aHi), .val (.ref aSp), .val (.int (0 : Int32)), .val (.int (0 : Int32)), .val (.double (13830554455654793216 : UInt64)), .second, .unset, .unset, .unset, .unset, .unset] []))
  refine own_st (fun _ kz => XS.iconst X11.here hx rfl (hb hby ds_71) kz) ?_
  show own_Win p e below s _ _ _ (T11.setTop (mkF m 72 #[.val (.ref t), .val (.int sv), .val (.int ev), .val (.ref aLo), .val (.ref aHi), .val (.ref aSp), .val (.int (0 : Int32)), .val (.int (0 : Int32)), .val (.double (13830554455654793216 : UInt64)), .second, .unset, .unset, .unset, .unset, .unset] [(.int (0 : Int32))]))
  refine own_st (fun _ kz => XS.istore X11.here hx rfl (hb hby ds_72) rfl (l' := #[.val (.ref t), .val (.int sv), .val (.int ev), .val (.ref aLo), .val (.ref aHi), .val (.ref aSp), .val (.int (0 : Int32)), .val (.int (0 : Int32)), .val (.double (13830554455654793216 : UInt64)), .second, .val (.int (0 : Int32)), .unset, .unset, .unset, .unset]) rfl kz) ?_
  show own_Win p e below s _ _ _ (T11.setTop (mkF m 74 #[.val (.ref t), .val (.int sv), .val (.int ev), .val (.ref aLo), .val (.ref aHi), .val (.ref aSp), .val (.int (0 : Int32)), .val (.int (0 : Int32)), .val (.double (13830554455654793216 : UInt64)), .second, .val (.int (0 : Int32)), .unset, .unset, .unset, .unset] []))
  have tl2 : ∀ (T : State) (av : Int32) (zs zp : UInt64), Stand p l e ({ frames := 2, cells := 2, slots := 4, locals := 40 } : Room) s m #[(.ref t), (.int sv), (.int ev), (.ref aLo), (.ref aHi), (.ref aSp)] below meth c T L10 0 0 → T.heap = h10 → av.toInt = ((own_w r0 r1 s0 s1 : Nat) : Int) → own_Win p e below s (Q_rmS Z t aI aP aF aT aL aH aLo aHi aSp sv ev sN fF fT fL fH fLo fHi fSp L0 L1 r0 r1 s0 s1 O V h0 n0) ({ frames := 2, cells := 2, slots := 4, locals := 40 } : Room).cells ({ frames := 2, cells := 2, slots := 4, locals := 40 } : Room).slots (T.setTop (mkF m 137 #[.val (.ref t), .val (.int sv), .val (.int ev), .val (.ref aLo), .val (.ref aHi), .val (.ref aSp), .val (.int (0 : Int32)), .val (.int av), .val (.double zs), .second, .val (.int (2 : Int32)), .val (.double zp), .second, .unset, .unset] [])) := by
    intro T av zs zp X eT ha
    have w2 := own_w2 r0 r1 s0 s1
    obtain ⟨ww, hww⟩ : ∃ z, z = own_w r0 r1 s0 s1 := ⟨_, rfl⟩
    rw [← hww] at ha w2
    show own_Win p e below s _ _ _ (T.setTop (mkF m 137 #[.val (.ref t), .val (.int sv), .val (.int ev), .val (.ref aLo), .val (.ref aHi), .val (.ref aSp), .val (.int (0 : Int32)), .val (.int av), .val (.double zs), .second, .val (.int (2 : Int32)), .val (.double zp), .second, .unset, .unset] []))
    refine own_st (fun _ kz => XS.iloadN X.here hx rfl (hb hby ds_137) rfl kz) ?_
    show own_Win p e below s _ _ _ (T.setTop (mkF m 138 #[.val (.ref t), .val (.int sv), .val (.int ev), .val (.ref aLo), .val (.ref aHi), .val (.ref aSp), .val (.int (0 : Int32)), .val (.int av), .val (.double zs), .second, .val (.int (2 : Int32)), .val (.double zp), .second, .unset, .unset] [(.int sv)]))
    refine own_st (fun _ kz => XS.iloadN X.here hx rfl (hb hby ds_138) rfl kz) ?_
    show own_Win p e below s _ _ _ (T.setTop (mkF m 139 #[.val (.ref t), .val (.int sv), .val (.int ev), .val (.ref aLo), .val (.ref aHi), .val (.ref aSp), .val (.int (0 : Int32)), .val (.int av), .val (.double zs), .second, .val (.int (2 : Int32)), .val (.double zp), .second, .unset, .unset] [(.int ev), (.int sv)]))
    refine own_st (fun _ kz => XS.iadd X.here hx rfl (hb hby ds_139) rfl kz) ?_
    show own_Win p e below s _ _ _ (T.setTop (mkF m 140 #[.val (.ref t), .val (.int sv), .val (.int ev), .val (.ref aLo), .val (.ref aHi), .val (.ref aSp), .val (.int (0 : Int32)), .val (.int av), .val (.double zs), .second, .val (.int (2 : Int32)), .val (.double zp), .second, .unset, .unset] [(.int (sv + ev))]))
    refine own_st (fun _ kz => XS.iconst X.here hx rfl (hb hby ds_140) kz) ?_
    show own_Win p e below s _ _ _ (T.setTop (mkF m 141 #[.val (.ref t), .val (.int sv), .val (.int ev), .val (.ref aLo), .val (.ref aHi), .val (.ref aSp), .val (.int (0 : Int32)), .val (.int av), .val (.double zs), .second, .val (.int (2 : Int32)), .val (.double zp), .second, .unset, .unset] [(.int (1 : Int32)), (.int (sv + ev))]))
    refine own_st (fun _ kz => XT.iushr X.here hx rfl (hb hby ds_141) rfl kz) ?_
    show own_Win p e below s _ _ _ (T.setTop (mkF m 142 #[.val (.ref t), .val (.int sv), .val (.int ev), .val (.ref aLo), .val (.ref aHi), .val (.ref aSp), .val (.int (0 : Int32)), .val (.int av), .val (.double zs), .second, .val (.int (2 : Int32)), .val (.double zp), .second, .unset, .unset] [(.int (XT.ushr (sv + ev) (1 : Int32)))]))
    have hm0 := own_mid hs he (by omega) (by omega)
    obtain ⟨mv, hmv⟩ : ∃ z, z = XT.ushr (sv + ev) (1 : Int32) := ⟨_, rfl⟩
    have hm : mv.toInt = ((sN + 8 : Nat) : Int) := by rw [hmv, hm0]; omega
    rw [← hmv]
    show own_Win p e below s _ _ _ (T.setTop (mkF m 142 #[.val (.ref t), .val (.int sv), .val (.int ev), .val (.ref aLo), .val (.ref aHi), .val (.ref aSp), .val (.int (0 : Int32)), .val (.int av), .val (.double zs), .second, .val (.int (2 : Int32)), .val (.double zp), .second, .unset, .unset] [(.int mv)]))
    refine own_st (fun _ kz => XS.istore X.here hx rfl (hb hby ds_142) rfl (l' := #[.val (.ref t), .val (.int sv), .val (.int ev), .val (.ref aLo), .val (.ref aHi), .val (.ref aSp), .val (.int (0 : Int32)), .val (.int av), .val (.double zs), .second, .val (.int mv), .val (.double zp), .second, .unset, .unset]) rfl kz) ?_
    show own_Win p e below s _ _ _ (T.setTop (mkF m 144 #[.val (.ref t), .val (.int sv), .val (.int ev), .val (.ref aLo), .val (.ref aHi), .val (.ref aSp), .val (.int (0 : Int32)), .val (.int av), .val (.double zs), .second, .val (.int mv), .val (.double zp), .second, .unset, .unset] []))
    refine own_st (fun _ kz => XS.aloadN X.here hx rfl (hb hby ds_144) rfl rfl kz) ?_
    show own_Win p e below s _ _ _ (T.setTop (mkF m 145 #[.val (.ref t), .val (.int sv), .val (.int ev), .val (.ref aLo), .val (.ref aHi), .val (.ref aSp), .val (.int (0 : Int32)), .val (.int av), .val (.double zs), .second, .val (.int mv), .val (.double zp), .second, .unset, .unset] [(.ref t)]))
    refine own_st (fun _ kz => XS.iloadN X.here hx rfl (hb hby ds_145) rfl kz) ?_
    show own_Win p e below s _ _ _ (T.setTop (mkF m 146 #[.val (.ref t), .val (.int sv), .val (.int ev), .val (.ref aLo), .val (.ref aHi), .val (.ref aSp), .val (.int (0 : Int32)), .val (.int av), .val (.double zs), .second, .val (.int mv), .val (.double zp), .second, .unset, .unset] [(.int sv), (.ref t)]))
    refine own_st (fun _ kz => XS.iloadN X.here hx rfl (hb hby ds_146) rfl kz) ?_
    show own_Win p e below s _ _ _ (T.setTop (mkF m 147 #[.val (.ref t), .val (.int sv), .val (.int ev), .val (.ref aLo), .val (.ref aHi), .val (.ref aSp), .val (.int (0 : Int32)), .val (.int av), .val (.double zs), .second, .val (.int mv), .val (.double zp), .second, .unset, .unset] [(.int ev), (.int sv), (.ref t)]))
    refine own_st (fun _ kz => XS.iload X.here hx rfl (hb hby ds_147) rfl kz) ?_
    show own_Win p e below s _ _ _ (T.setTop (mkF m 149 #[.val (.ref t), .val (.int sv), .val (.int ev), .val (.ref aLo), .val (.ref aHi), .val (.ref aSp), .val (.int (0 : Int32)), .val (.int av), .val (.double zs), .second, .val (.int mv), .val (.double zp), .second, .unset, .unset] [(.int mv), (.int ev), (.int sv), (.ref t)]))
    refine own_st (fun _ kz => XS.iload X.here hx rfl (hb hby ds_149) rfl kz) ?_
    show own_Win p e below s _ _ _ (T.setTop (mkF m 151 #[.val (.ref t), .val (.int sv), .val (.int ev), .val (.ref aLo), .val (.ref aHi), .val (.ref aSp), .val (.int (0 : Int32)), .val (.int av), .val (.double zs), .second, .val (.int mv), .val (.double zp), .second, .unset, .unset] [(.int av), (.int mv), (.int ev), (.int sv), (.ref t)]))
    refine own_callP X hx hZ hown (y := yM) (z0 := yS) (hw _ (List.mem_of_getElem? (i := 52) rfl)) (hw _ (List.mem_of_getElem? (i := 53) rfl)) (hw _ (List.mem_of_getElem? (i := 54) rfl)) (hw _ (List.mem_of_getElem? (i := 55) rfl)) (hw _ (List.mem_of_getElem? (i := 8) rfl)) (hw _ (List.mem_of_getElem? (i := 34) rfl)) rfl (by decide) eT c_T_h10.1 (rmM l Z a0 hw [] t aI aP aF aT aL aH 1 sv ev mv av sN (sN + 17) (sN + 8) ww (fun k => k) O (V ww) h10 n0 Z10 c_T_h10 q0 o0 (by omega) c_I_h10 c_Q_h10 ha w2 (fun d hd => hD ww d w2 hd) (own_ok_id _ _) hs he hm (by omega) (by omega) (by omega)) (by decide) (W := 0) (by decide) rfl (by rw [hml]; rfl) (argsL := [.int sv, .int ev, .int mv, .int av]) (rest := []) (lenOf pdM rfl) rfl (Nat.le_of_eq rfl) (hb hby ds_151) rfl (by decide) (by decide) ?_
    intro T60 v60 L60 X60 hQ60
    obtain ⟨h60, e60⟩ : ∃ z, T60.heap = z := ⟨_, rfl⟩
    rw [e60] at hQ60
    obtain ⟨rfl, M60, K60, σ1, FI1, FQ1, hok1, hpt1⟩ := hQ60
    have N60 := Fr.app N10 M60
    have Z60 : n0 ≤ h60.size := Nat.le_trans Z10 K60.1
    have KK60 : Keep h0 h60 [aI, aP, t, aF, aT, aL, aH] := KK10.trans K60 (allS (Or.inl (List.mem_of_getElem? (i := 0) rfl)) (allS (Or.inl (List.mem_of_getElem? (i := 1) rfl)) all0))
    have c_T_h60 : own_Fs Z h60 t (2 : Int32) (1 : Int32) aI aP aF aT aL aH := own_Fs.keep K60 c_T_h10 (ninS (Nat.ne_of_gt (by omega)) (ninS (Nat.ne_of_gt (by omega)) nin0))
    have c_F_h60 : own_Ia Z h60 aF 6 (own_up fF 0 sv) := own_Av.keep K60 c_F_h10 (ninS (Nat.ne_of_gt (by omega)) (ninS (Nat.ne_of_gt (by omega)) nin0))
    have c_U_h60 : own_Ia Z h60 aT 6 (own_up fT 0 ev) := own_Av.keep K60 c_U_h10 (ninS (Nat.ne_of_gt (by omega)) (ninS (Nat.ne_of_gt (by omega)) nin0))
    have c_L_h60 : own_Ia Z h60 aL 6 (own_up fL 0 (-1 : Int32)) := own_Av.keep K60 c_L_h10 (ninS (Nat.ne_of_gt (by omega)) (ninS (Nat.ne_of_gt (by omega)) nin0))
    have c_H_h60 : own_Ia Z h60 aH 6 (own_up fH 0 (-1 : Int32)) := own_Av.keep K60 F10 (ninS (Nat.ne_of_gt (by omega)) (ninS (Nat.ne_of_gt (by omega)) nin0))
    have c_lo_h60 : own_Da Z h60 aLo 2 fLo := own_Av.keep K60 c_lo_h10 (ninS (Nat.ne_of_gt (by omega)) (ninS (Nat.ne_of_gt (by omega)) nin0))
    have c_hi_h60 : own_Da Z h60 aHi 2 fHi := own_Av.keep K60 c_hi_h10 (ninS (Nat.ne_of_gt (by omega)) (ninS (Nat.ne_of_gt (by omega)) nin0))
    have c_sp_h60 : own_Da Z h60 aSp 2 fSp := own_Av.keep K60 c_sp_h10 (ninS (Nat.ne_of_gt (by omega)) (ninS (Nat.ne_of_gt (by omega)) nin0))
    have c_elo_h60 : Exa Z h60 aLo "[D" := Exa.keep c_elo_h10 K60
    have c_ehi_h60 : Exa Z h60 aHi "[D" := Exa.keep c_ehi_h10 K60
    show own_Win p e below s _ _ _ (T60.setTop (mkF m 154 #[.val (.ref t), .val (.int sv), .val (.int ev), .val (.ref aLo), .val (.ref aHi), .val (.ref aSp), .val (.int (0 : Int32)), .val (.int av), .val (.double zs), .second, .val (.int mv), .val (.double zp), .second, .unset, .unset] []))
    refine own_st (fun _ kz => XS.aloadN X60.here hx rfl (hb hby ds_154) rfl rfl kz) ?_
    show own_Win p e below s _ _ _ (T60.setTop (mkF m 155 #[.val (.ref t), .val (.int sv), .val (.int ev), .val (.ref aLo), .val (.ref aHi), .val (.ref aSp), .val (.int (0 : Int32)), .val (.int av), .val (.double zs), .second, .val (.int mv), .val (.double zp), .second, .unset, .unset] [(.ref t)]))
    obtain ⟨T61, X61, e61, st61⟩ := getF X60 hx hZ hown (host := "") (Or.inl (hw _ (List.mem_of_getElem? (i := 19) rfl))) Via.refl e60 c_T_h60.2.2.2.1 (g := (mkF m 155 #[.val (.ref t), .val (.int sv), .val (.int ev), .val (.ref aLo), .val (.ref aHi), .val (.ref aSp), .val (.int (0 : Int32)), .val (.int av), .val (.double zs), .second, .val (.int mv), .val (.double zp), .second, .unset, .unset] [(.ref t)])) rfl rfl (hb hby ds_155)
    refine own_st st61 ?_
    show own_Win p e below s _ _ _ (T61.setTop (mkF m 158 #[.val (.ref t), .val (.int sv), .val (.int ev), .val (.ref aLo), .val (.ref aHi), .val (.ref aSp), .val (.int (0 : Int32)), .val (.int av), .val (.double zs), .second, .val (.int mv), .val (.double zp), .second, .unset, .unset] [(.ref aP)]))
    refine own_st (fun _ kz => XS.iload X61.here hx rfl (hb hby ds_158) rfl kz) ?_
    show own_Win p e below s _ _ _ (T61.setTop (mkF m 160 #[.val (.ref t), .val (.int sv), .val (.int ev), .val (.ref aLo), .val (.ref aHi), .val (.ref aSp), .val (.int (0 : Int32)), .val (.int av), .val (.double zs), .second, .val (.int mv), .val (.double zp), .second, .unset, .unset] [(.int mv), (.ref aP)]))
    refine own_st (fun _ kz => XS.aloadN X61.here hx rfl (hb hby ds_160) rfl rfl kz) ?_
    show own_Win p e below s _ _ _ (T61.setTop (mkF m 161 #[.val (.ref t), .val (.int sv), .val (.int ev), .val (.ref aLo), .val (.ref aHi), .val (.ref aSp), .val (.int (0 : Int32)), .val (.int av), .val (.double zs), .second, .val (.int mv), .val (.double zp), .second, .unset, .unset] [(.ref t), (.int mv), (.ref aP)]))
    obtain ⟨T62, X62, e62, st62⟩ := getF X61 hx hZ hown (host := "") (Or.inl (hw _ (List.mem_of_getElem? (i := 15) rfl))) Via.refl e61 c_T_h60.2.1 (g := (mkF m 161 #[.val (.ref t), .val (.int sv), .val (.int ev), .val (.ref aLo), .val (.ref aHi), .val (.ref aSp), .val (.int (0 : Int32)), .val (.int av), .val (.double zs), .second, .val (.int mv), .val (.double zp), .second, .unset, .unset] [(.ref t), (.int mv), (.ref aP)])) rfl rfl (hb hby ds_161)
    refine own_st st62 ?_
    show own_Win p e below s _ _ _ (T62.setTop (mkF m 164 #[.val (.ref t), .val (.int sv), .val (.int ev), .val (.ref aLo), .val (.ref aHi), .val (.ref aSp), .val (.int (0 : Int32)), .val (.int av), .val (.double zs), .second, .val (.int mv), .val (.double zp), .second, .unset, .unset] [(.int (2 : Int32)), (.int mv), (.ref aP)]))
    refine own_st (fun _ kz => XS.imul X62.here hx rfl (hb hby ds_164) rfl kz) ?_
    show own_Win p e below s _ _ _ (T62.setTop (mkF m 165 #[.val (.ref t), .val (.int sv), .val (.int ev), .val (.ref aLo), .val (.ref aHi), .val (.ref aSp), .val (.int (0 : Int32)), .val (.int av), .val (.double zs), .second, .val (.int mv), .val (.double zp), .second, .unset, .unset] [(.int (mv * (2 : Int32))), (.ref aP)]))
    refine own_st (fun _ kz => XS.iload X62.here hx rfl (hb hby ds_165) rfl kz) ?_
    show own_Win p e below s _ _ _ (T62.setTop (mkF m 167 #[.val (.ref t), .val (.int sv), .val (.int ev), .val (.ref aLo), .val (.ref aHi), .val (.ref aSp), .val (.int (0 : Int32)), .val (.int av), .val (.double zs), .second, .val (.int mv), .val (.double zp), .second, .unset, .unset] [(.int av), (.int (mv * (2 : Int32))), (.ref aP)]))
    refine own_st (fun _ kz => XS.iadd X62.here hx rfl (hb hby ds_167) rfl kz) ?_
    show own_Win p e below s _ _ _ (T62.setTop (mkF m 168 #[.val (.ref t), .val (.int sv), .val (.int ev), .val (.ref aLo), .val (.ref aHi), .val (.ref aSp), .val (.int (0 : Int32)), .val (.int av), .val (.double zs), .second, .val (.int mv), .val (.double zp), .second, .unset, .unset] [(.int ((mv * (2 : Int32)) + av)), (.ref aP)]))
    refine own_daload X62 hx hZ e62 FQ1 (i := (2 * (sN + 8) + ww)) (own_ix hm ha (by omega) w2) (by omega) (x := (O ww (σ1 (sN + 8)))) (own_P_at O σ1 (sN + 8) ww w2) rfl rfl (hb hby ds_168) ?_
    show own_Win p e below s _ _ _ (T62.setTop (mkF m 169 #[.val (.ref t), .val (.int sv), .val (.int ev), .val (.ref aLo), .val (.ref aHi), .val (.ref aSp), .val (.int (0 : Int32)), .val (.int av), .val (.double zs), .second, .val (.int mv), .val (.double zp), .second, .unset, .unset] [(.double (O ww (σ1 (sN + 8))))]))
    generalize (O ww (σ1 (sN + 8))) = zm
    show own_Win p e below s _ _ _ (T62.setTop (mkF m 169 #[.val (.ref t), .val (.int sv), .val (.int ev), .val (.ref aLo), .val (.ref aHi), .val (.ref aSp), .val (.int (0 : Int32)), .val (.int av), .val (.double zs), .second, .val (.int mv), .val (.double zp), .second, .unset, .unset] [(.double zm)]))
    refine own_st (fun _ kz => XS.dstore X62.here hx rfl (hb hby ds_169) rfl (l' := #[.val (.ref t), .val (.int sv), .val (.int ev), .val (.ref aLo), .val (.ref aHi), .val (.ref aSp), .val (.int (0 : Int32)), .val (.int av), .val (.double zs), .second, .val (.int mv), .val (.double zm), .second, .unset, .unset]) rfl kz) ?_
    show own_Win p e below s _ _ _ (T62.setTop (mkF m 171 #[.val (.ref t), .val (.int sv), .val (.int ev), .val (.ref aLo), .val (.ref aHi), .val (.ref aSp), .val (.int (0 : Int32)), .val (.int av), .val (.double zs), .second, .val (.int mv), .val (.double zm), .second, .unset, .unset] []))
    refine own_st (fun _ kz => XS.aload X62.here hx rfl (hb hby ds_171) rfl rfl kz) ?_
    show own_Win p e below s _ _ _ (T62.setTop (mkF m 173 #[.val (.ref t), .val (.int sv), .val (.int ev), .val (.ref aLo), .val (.ref aHi), .val (.ref aSp), .val (.int (0 : Int32)), .val (.int av), .val (.double zs), .second, .val (.int mv), .val (.double zm), .second, .unset, .unset] [(.ref aHi)]))
    refine own_clone X62 hx hZ hown (hw _ (List.mem_of_getElem? (i := 60) rfl)) (hw _ (List.mem_of_getElem? (i := 61) rfl)) (hw _ (List.mem_of_getElem? (i := 65) rfl)) (hw _ (List.mem_of_getElem? (i := 63) rfl)) (hw _ (List.mem_of_getElem? (i := 64) rfl)) (hw _ (List.mem_of_getElem? (i := 66) rfl)) e62 c_hi_h60 c_ehi_h60 (g := (mkF m 173 #[.val (.ref t), .val (.int sv), .val (.int ev), .val (.ref aLo), .val (.ref aHi), .val (.ref aSp), .val (.int (0 : Int32)), .val (.int av), .val (.double zs), .second, .val (.int mv), .val (.double zm), .second, .unset, .unset] [(.ref aHi)])) rfl (by rw [hml]; rfl) rfl (hb hby ds_173) (by decide) (W := 0) (Nat.le_of_eq rfl) (by decide) (by decide) (by decide) ?_
    intro T63 h63 a63 X63 e63 g63 E63 F63 Ex63
    have lt_aI_a63 : @LT.lt Nat _ aI a63 := by rw [g63]; exact (own_Av.lt FI1)
    have lt_aP_a63 : @LT.lt Nat _ aP a63 := by rw [g63]; exact (own_Av.lt FQ1)
    have lt_aLo_a63 : @LT.lt Nat _ aLo a63 := by rw [g63]; exact (own_Av.lt c_lo_h60)
    have lt_aHi_a63 : @LT.lt Nat _ aHi a63 := by rw [g63]; exact (own_Av.lt c_hi_h60)
    have lt_aSp_a63 : @LT.lt Nat _ aSp a63 := by rw [g63]; exact (own_Av.lt c_sp_h60)
    have lt_t_a63 : @LT.lt Nat _ t a63 := by rw [g63]; exact (own_Fs.lt c_T_h60)
    have lt_aF_a63 : @LT.lt Nat _ aF a63 := by rw [g63]; exact (own_Av.lt c_F_h60)
    have lt_aT_a63 : @LT.lt Nat _ aT a63 := by rw [g63]; exact (own_Av.lt c_U_h60)
    have lt_aL_a63 : @LT.lt Nat _ aL a63 := by rw [g63]; exact (own_Av.lt c_L_h60)
    have lt_aH_a63 : @LT.lt Nat _ aH a63 := by rw [g63]; exact (own_Av.lt c_H_h60)
    have Z63 : n0 ≤ h63.size := Nat.le_trans Z60 E63.1
    have z_a63 : h0.size ≤ a63 := by rw [g63]; exact KK60.1
    have KK63 : Keep h0 h63 [aI, aP, t, aF, aT, aL, aH] := KK60.ext E63
    have c_T_h63 : own_Fs Z h63 t (2 : Int32) (1 : Int32) aI aP aF aT aL aH := own_Fs.ext E63 c_T_h60
    have c_F_h63 : own_Ia Z h63 aF 6 (own_up fF 0 sv) := own_Av.ext E63 c_F_h60
    have c_U_h63 : own_Ia Z h63 aT 6 (own_up fT 0 ev) := own_Av.ext E63 c_U_h60
    have c_L_h63 : own_Ia Z h63 aL 6 (own_up fL 0 (-1 : Int32)) := own_Av.ext E63 c_L_h60
    have c_H_h63 : own_Ia Z h63 aH 6 (own_up fH 0 (-1 : Int32)) := own_Av.ext E63 c_H_h60
    have c_lo_h63 : own_Da Z h63 aLo 2 fLo := own_Av.ext E63 c_lo_h60
    have c_hi_h63 : own_Da Z h63 aHi 2 fHi := own_Av.ext E63 c_hi_h60
    have c_sp_h63 : own_Da Z h63 aSp 2 fSp := own_Av.ext E63 c_sp_h60
    have c_elo_h63 : Exa Z h63 aLo "[D" := Exa.ext E63 c_elo_h60
    have c_ehi_h63 : Exa Z h63 aHi "[D" := Exa.ext E63 c_ehi_h60
    have c_I_h63 : own_Ia Z h63 aI 18 (own_I σ1) := own_Av.ext E63 FI1
    have c_Q_h63 : own_Da Z h63 aP 36 (own_P O σ1) := own_Av.ext E63 FQ1
    show own_Win p e below s _ _ _ (T63.setTop (mkF m 176 #[.val (.ref t), .val (.int sv), .val (.int ev), .val (.ref aLo), .val (.ref aHi), .val (.ref aSp), .val (.int (0 : Int32)), .val (.int av), .val (.double zs), .second, .val (.int mv), .val (.double zm), .second, .unset, .unset] [(.ref a63)]))
    obtain ⟨T64, X64, e64, st64⟩ := castY X63 hx hZ hown (hw _ (List.mem_of_getElem? (i := 67) rfl)) e63 (Ins.of_exa Ex63 (hw _ (List.mem_of_getElem? (i := 68) rfl))) (g := (mkF m 176 #[.val (.ref t), .val (.int sv), .val (.int ev), .val (.ref aLo), .val (.ref aHi), .val (.ref aSp), .val (.int (0 : Int32)), .val (.int av), .val (.double zs), .second, .val (.int mv), .val (.double zm), .second, .unset, .unset] [(.ref a63)])) rfl rfl (hb hby ds_176)
    refine own_st st64 ?_
    show own_Win p e below s _ _ _ (T64.setTop (mkF m 179 #[.val (.ref t), .val (.int sv), .val (.int ev), .val (.ref aLo), .val (.ref aHi), .val (.ref aSp), .val (.int (0 : Int32)), .val (.int av), .val (.double zs), .second, .val (.int mv), .val (.double zm), .second, .unset, .unset] [(.ref a63)]))
    refine own_st (fun _ kz => XS.astore X64.here hx rfl (hb hby ds_179) rfl rfl (l' := #[.val (.ref t), .val (.int sv), .val (.int ev), .val (.ref aLo), .val (.ref aHi), .val (.ref aSp), .val (.int (0 : Int32)), .val (.int av), .val (.double zs), .second, .val (.int mv), .val (.double zm), .second, .val (.ref a63), .unset]) rfl kz) ?_
    show own_Win p e below s _ _ _ (T64.setTop (mkF m 181 #[.val (.ref t), .val (.int sv), .val (.int ev), .val (.ref aLo), .val (.ref aHi), .val (.ref aSp), .val (.int (0 : Int32)), .val (.int av), .val (.double zs), .second, .val (.int mv), .val (.double zm), .second, .val (.ref a63), .unset] []))
    refine own_st (fun _ kz => XS.aload X64.here hx rfl (hb hby ds_181) rfl rfl kz) ?_
    show own_Win p e below s _ _ _ (T64.setTop (mkF m 183 #[.val (.ref t), .val (.int sv), .val (.int ev), .val (.ref aLo), .val (.ref aHi), .val (.ref aSp), .val (.int (0 : Int32)), .val (.int av), .val (.double zs), .second, .val (.int mv), .val (.double zm), .second, .val (.ref a63), .unset] [(.ref a63)]))
    refine own_st (fun _ kz => XS.iload X64.here hx rfl (hb hby ds_183) rfl kz) ?_
    show own_Win p e below s _ _ _ (T64.setTop (mkF m 185 #[.val (.ref t), .val (.int sv), .val (.int ev), .val (.ref aLo), .val (.ref aHi), .val (.ref aSp), .val (.int (0 : Int32)), .val (.int av), .val (.double zs), .second, .val (.int mv), .val (.double zm), .second, .val (.ref a63), .unset] [(.int av), (.ref a63)]))
    refine own_st (fun _ kz => XS.dload X64.here hx rfl (hb hby ds_185) rfl kz) ?_
    show own_Win p e below s _ _ _ (T64.setTop (mkF m 187 #[.val (.ref t), .val (.int sv), .val (.int ev), .val (.ref aLo), .val (.ref aHi), .val (.ref aSp), .val (.int (0 : Int32)), .val (.int av), .val (.double zs), .second, .val (.int mv), .val (.double zm), .second, .val (.ref a63), .unset] [(.double zm), (.int av), (.ref a63)]))
    refine own_dastore X64 hx hZ e64 F63 (i := ww) ha w2 N60 (by omega) rfl rfl (hb hby ds_187) ?_
    intro T65 h65 L65 X65 e65 N65 W65 F65
    show own_Win p e below s _ _ _ (T65.setTop (mkF m 188 #[.val (.ref t), .val (.int sv), .val (.int ev), .val (.ref aLo), .val (.ref aHi), .val (.ref aSp), .val (.int (0 : Int32)), .val (.int av), .val (.double zs), .second, .val (.int mv), .val (.double zm), .second, .val (.ref a63), .unset] []))
    have Z65 : n0 ≤ h65.size := by rw [Wr.size W65]; exact Z63
    have c_T_h65 : own_Fs Z h65 t (2 : Int32) (1 : Int32) aI aP aF aT aL aH := own_Fs.other W65 c_T_h63 (Nat.ne_of_lt (by omega))
    have c_F_h65 : own_Ia Z h65 aF 6 (own_up fF 0 sv) := own_Av.other W65 c_F_h63 (Nat.ne_of_lt (by omega))
    have c_U_h65 : own_Ia Z h65 aT 6 (own_up fT 0 ev) := own_Av.other W65 c_U_h63 (Nat.ne_of_lt (by omega))
    have c_L_h65 : own_Ia Z h65 aL 6 (own_up fL 0 (-1 : Int32)) := own_Av.other W65 c_L_h63 (Nat.ne_of_lt (by omega))
    have c_H_h65 : own_Ia Z h65 aH 6 (own_up fH 0 (-1 : Int32)) := own_Av.other W65 c_H_h63 (Nat.ne_of_lt (by omega))
    have c_lo_h65 : own_Da Z h65 aLo 2 fLo := own_Av.other W65 c_lo_h63 (Nat.ne_of_lt (by omega))
    have c_hi_h65 : own_Da Z h65 aHi 2 fHi := own_Av.other W65 c_hi_h63 (Nat.ne_of_lt (by omega))
    have c_sp_h65 : own_Da Z h65 aSp 2 fSp := own_Av.other W65 c_sp_h63 (Nat.ne_of_lt (by omega))
    have c_elo_h65 : Exa Z h65 aLo "[D" := Exa.wr W65 c_elo_h63
    have c_ehi_h65 : Exa Z h65 aHi "[D" := Exa.wr W65 c_ehi_h63
    have c_I_h65 : own_Ia Z h65 aI 18 (own_I σ1) := own_Av.other W65 c_I_h63 (Nat.ne_of_lt (by omega))
    have c_Q_h65 : own_Da Z h65 aP 36 (own_P O σ1) := own_Av.other W65 c_Q_h63 (Nat.ne_of_lt (by omega))
    have c_cbx_h65 : Exa Z h65 a63 "[D" := Exa.wr W65 Ex63
    have KK65 : Keep h0 h65 [aI, aP, t, aF, aT, aL, aH] := KK63.wr W65 (Or.inr (by have := z_a63; omega))
    refine own_st (fun _ kz => XS.aloadN X65.here hx rfl (hb hby ds_188) rfl rfl kz) ?_
    show own_Win p e below s _ _ _ (T65.setTop (mkF m 189 #[.val (.ref t), .val (.int sv), .val (.int ev), .val (.ref aLo), .val (.ref aHi), .val (.ref aSp), .val (.int (0 : Int32)), .val (.int av), .val (.double zs), .second, .val (.int mv), .val (.double zm), .second, .val (.ref a63), .unset] [(.ref t)]))
    obtain ⟨T66, X66, e66, st66⟩ := getF X65 hx hZ hown (host := "") (Or.inl (hw _ (List.mem_of_getElem? (i := 25) rfl))) Via.refl e65 c_T_h65.2.2.2.2.2.2.1 (g := (mkF m 189 #[.val (.ref t), .val (.int sv), .val (.int ev), .val (.ref aLo), .val (.ref aHi), .val (.ref aSp), .val (.int (0 : Int32)), .val (.int av), .val (.double zs), .second, .val (.int mv), .val (.double zm), .second, .val (.ref a63), .unset] [(.ref t)])) rfl rfl (hb hby ds_189)
    refine own_st st66 ?_
    show own_Win p e below s _ _ _ (T66.setTop (mkF m 192 #[.val (.ref t), .val (.int sv), .val (.int ev), .val (.ref aLo), .val (.ref aHi), .val (.ref aSp), .val (.int (0 : Int32)), .val (.int av), .val (.double zs), .second, .val (.int mv), .val (.double zm), .second, .val (.ref a63), .unset] [(.ref aL)]))
    refine own_st (fun _ kz => XS.iload X66.here hx rfl (hb hby ds_192) rfl kz) ?_
    show own_Win p e below s _ _ _ (T66.setTop (mkF m 194 #[.val (.ref t), .val (.int sv), .val (.int ev), .val (.ref aLo), .val (.ref aHi), .val (.ref aSp), .val (.int (0 : Int32)), .val (.int av), .val (.double zs), .second, .val (.int mv), .val (.double zm), .second, .val (.ref a63), .unset] [(.int (0 : Int32)), (.ref aL)]))
    refine own_st (fun _ kz => XS.aloadN X66.here hx rfl (hb hby ds_194) rfl rfl kz) ?_
    show own_Win p e below s _ _ _ (T66.setTop (mkF m 195 #[.val (.ref t), .val (.int sv), .val (.int ev), .val (.ref aLo), .val (.ref aHi), .val (.ref aSp), .val (.int (0 : Int32)), .val (.int av), .val (.double zs), .second, .val (.int mv), .val (.double zm), .second, .val (.ref a63), .unset] [(.ref t), (.int (0 : Int32)), (.ref aL)]))
    refine own_st (fun _ kz => XS.iloadN X66.here hx rfl (hb hby ds_195) rfl kz) ?_
    show own_Win p e below s _ _ _ (T66.setTop (mkF m 196 #[.val (.ref t), .val (.int sv), .val (.int ev), .val (.ref aLo), .val (.ref aHi), .val (.ref aSp), .val (.int (0 : Int32)), .val (.int av), .val (.double zs), .second, .val (.int mv), .val (.double zm), .second, .val (.ref a63), .unset] [(.int sv), (.ref t), (.int (0 : Int32)), (.ref aL)]))
    refine own_st (fun _ kz => XS.iload X66.here hx rfl (hb hby ds_196) rfl kz) ?_
    show own_Win p e below s _ _ _ (T66.setTop (mkF m 198 #[.val (.ref t), .val (.int sv), .val (.int ev), .val (.ref aLo), .val (.ref aHi), .val (.ref aSp), .val (.int (0 : Int32)), .val (.int av), .val (.double zs), .second, .val (.int mv), .val (.double zm), .second, .val (.ref a63), .unset] [(.int mv), (.int sv), (.ref t), (.int (0 : Int32)), (.ref aL)]))
    refine own_st (fun _ kz => XS.aloadN X66.here hx rfl (hb hby ds_198) rfl rfl kz) ?_
    show own_Win p e below s _ _ _ (T66.setTop (mkF m 199 #[.val (.ref t), .val (.int sv), .val (.int ev), .val (.ref aLo), .val (.ref aHi), .val (.ref aSp), .val (.int (0 : Int32)), .val (.int av), .val (.double zs), .second, .val (.int mv), .val (.double zm), .second, .val (.ref a63), .unset] [(.ref aLo), (.int mv), (.int sv), (.ref t), (.int (0 : Int32)), (.ref aL)]))
    refine own_st (fun _ kz => XS.aload X66.here hx rfl (hb hby ds_199) rfl rfl kz) ?_
    show own_Win p e below s _ _ _ (T66.setTop (mkF m 201 #[.val (.ref t), .val (.int sv), .val (.int ev), .val (.ref aLo), .val (.ref aHi), .val (.ref aSp), .val (.int (0 : Int32)), .val (.int av), .val (.double zs), .second, .val (.int mv), .val (.double zm), .second, .val (.ref a63), .unset] [(.ref a63), (.ref aLo), (.int mv), (.int sv), (.ref t), (.int (0 : Int32)), (.ref aL)]))
    refine own_st (fun _ kz => XS.aload X66.here hx rfl (hb hby ds_201) rfl rfl kz) ?_
    show own_Win p e below s _ _ _ (T66.setTop (mkF m 203 #[.val (.ref t), .val (.int sv), .val (.int ev), .val (.ref aLo), .val (.ref aHi), .val (.ref aSp), .val (.int (0 : Int32)), .val (.int av), .val (.double zs), .second, .val (.int mv), .val (.double zm), .second, .val (.ref a63), .unset] [(.ref aSp), (.ref a63), (.ref aLo), (.int mv), (.int sv), (.ref t), (.int (0 : Int32)), (.ref aL)]))
    refine own_callV X66 hx hZ hown (C := "com/example/skyweave/skyweave/KdTree") (y := yS) (hw _ (List.mem_of_getElem? (i := 69) rfl)) (hw _ (List.mem_of_getElem? (i := 32) rfl)) (hw _ (List.mem_of_getElem? (i := 34) rfl)) (hw _ (List.mem_of_getElem? (i := 33) rfl)) (hw _ (List.mem_of_getElem? (i := 35) rfl)) (hw _ (List.mem_of_getElem? (i := 8) rfl)) (by decide) e66 c_T_h65.1 (rmLf l Z a0 hw [] t aI aP aF aT aL aH aLo a63 aSp 2 1 sv mv 1 (own_up fF 0 sv) (own_up fT 0 ev) (own_up fL 0 (-1 : Int32)) (own_up fH 0 (-1 : Int32)) h65 n0 Z65 c_T_h65 (by omega) o5 o6 o7 o8 c_F_h65 c_U_h65 c_L_h65 c_H_h65 rfl (by decide) (Or.inl (fun z => by rw [Int32.lt_iff_toInt_lt] at z; have := c_isub mv sv; have := rng32 (mv - sv); have : (16 : Int32).toInt = 16 := rfl; omega))) (by decide) (W := 2) (by decide) rfl (by rw [hml]; rfl) (argsL := [.int sv, .int mv, .ref aLo, .ref a63, .ref aSp]) (rest := [.int (0 : Int32), .ref aL]) (lenOf pdS rfl) rfl (Nat.le_of_eq rfl) (hb hby ds_203) rfl (by decide) (by decide) ?_
    intro T80 v80 L80 X80 hQ80
    obtain ⟨h80, e80⟩ : ∃ z, T80.heap = z := ⟨_, rfl⟩
    rw [e80] at hQ80
    obtain ⟨rfl, M80, K80, FT80, GF80, GU80, GL80, GH80⟩ := hQ80
    have N80 := Fr.app N65 M80
    have Z80 : n0 ≤ h80.size := Nat.le_trans Z65 K80.1
    have KK80 : Keep h0 h80 [aI, aP, t, aF, aT, aL, aH] := KK65.trans K80 (allS (Or.inl (List.mem_of_getElem? (i := 2) rfl)) (allS (Or.inl (List.mem_of_getElem? (i := 3) rfl)) (allS (Or.inl (List.mem_of_getElem? (i := 4) rfl)) (allS (Or.inl (List.mem_of_getElem? (i := 5) rfl)) (allS (Or.inl (List.mem_of_getElem? (i := 6) rfl)) all0)))))
    have c_lo_h80 : own_Da Z h80 aLo 2 fLo := own_Av.keep K80 c_lo_h65 (ninS (Nat.ne_of_lt (by omega)) (ninS (Nat.ne_of_lt (by omega)) (ninS (Nat.ne_of_lt (by omega)) (ninS (Nat.ne_of_lt (by omega)) (ninS (Nat.ne_of_lt (by omega)) nin0)))))
    have c_hi_h80 : own_Da Z h80 aHi 2 fHi := own_Av.keep K80 c_hi_h65 (ninS (Nat.ne_of_lt (by omega)) (ninS (Nat.ne_of_lt (by omega)) (ninS (Nat.ne_of_lt (by omega)) (ninS (Nat.ne_of_lt (by omega)) (ninS (Nat.ne_of_lt (by omega)) nin0)))))
    have c_sp_h80 : own_Da Z h80 aSp 2 fSp := own_Av.keep K80 c_sp_h65 (ninS (Nat.ne_of_lt (by omega)) (ninS (Nat.ne_of_lt (by omega)) (ninS (Nat.ne_of_lt (by omega)) (ninS (Nat.ne_of_lt (by omega)) (ninS (Nat.ne_of_lt (by omega)) nin0)))))
    have c_elo_h80 : Exa Z h80 aLo "[D" := Exa.keep c_elo_h65 K80
    have c_ehi_h80 : Exa Z h80 aHi "[D" := Exa.keep c_ehi_h65 K80
    have c_I_h80 : own_Ia Z h80 aI 18 (own_I σ1) := own_Av.keep K80 c_I_h65 (ninS (Nat.ne_of_lt (by omega)) (ninS (Nat.ne_of_lt (by omega)) (ninS (Nat.ne_of_lt (by omega)) (ninS (Nat.ne_of_lt (by omega)) (ninS (Nat.ne_of_lt (by omega)) nin0)))))
    have c_Q_h80 : own_Da Z h80 aP 36 (own_P O σ1) := own_Av.keep K80 c_Q_h65 (ninS (Nat.ne_of_lt (by omega)) (ninS (Nat.ne_of_lt (by omega)) (ninS (Nat.ne_of_lt (by omega)) (ninS (Nat.ne_of_lt (by omega)) (ninS (Nat.ne_of_lt (by omega)) nin0)))))
    have c_cb_h80 : own_Da Z h80 a63 2 (own_up fHi ww zm) := own_Av.keep K80 F65 (ninS (Nat.ne_of_gt (by omega)) (ninS (Nat.ne_of_gt (by omega)) (ninS (Nat.ne_of_gt (by omega)) (ninS (Nat.ne_of_gt (by omega)) (ninS (Nat.ne_of_gt (by omega)) nin0)))))
    have c_cbx_h80 : Exa Z h80 a63 "[D" := Exa.keep c_cbx_h65 K80
    show own_Win p e below s _ _ _ (T80.setTop (mkF m 206 #[.val (.ref t), .val (.int sv), .val (.int ev), .val (.ref aLo), .val (.ref aHi), .val (.ref aSp), .val (.int (0 : Int32)), .val (.int av), .val (.double zs), .second, .val (.int mv), .val (.double zm), .second, .val (.ref a63), .unset] [(.int (1 : Int32)), (.int (0 : Int32)), (.ref aL)]))
    refine own_iastore X80 hx hZ e80 GL80 (i := 0) rfl (by decide) N80 (by omega) rfl rfl (hb hby ds_206) ?_
    intro T81 h81 L81 X81 e81 N81 W81 F81
    show own_Win p e below s _ _ _ (T81.setTop (mkF m 207 #[.val (.ref t), .val (.int sv), .val (.int ev), .val (.ref aLo), .val (.ref aHi), .val (.ref aSp), .val (.int (0 : Int32)), .val (.int av), .val (.double zs), .second, .val (.int mv), .val (.double zm), .second, .val (.ref a63), .unset] []))
    have Z81 : n0 ≤ h81.size := by rw [Wr.size W81]; exact Z80
    have c_T_h81 : own_Fs Z h81 t 2 (1 + 1) aI aP aF aT aL aH := own_Fs.other W81 FT80 (Nat.ne_of_lt (by omega))
    have c_lo_h81 : own_Da Z h81 aLo 2 fLo := own_Av.other W81 c_lo_h80 (Nat.ne_of_lt (by omega))
    have c_hi_h81 : own_Da Z h81 aHi 2 fHi := own_Av.other W81 c_hi_h80 (Nat.ne_of_lt (by omega))
    have c_sp_h81 : own_Da Z h81 aSp 2 fSp := own_Av.other W81 c_sp_h80 (Nat.ne_of_lt (by omega))
    have c_elo_h81 : Exa Z h81 aLo "[D" := Exa.wr W81 c_elo_h80
    have c_ehi_h81 : Exa Z h81 aHi "[D" := Exa.wr W81 c_ehi_h80
    have c_I_h81 : own_Ia Z h81 aI 18 (own_I σ1) := own_Av.other W81 c_I_h80 (Nat.ne_of_lt (by omega))
    have c_Q_h81 : own_Da Z h81 aP 36 (own_P O σ1) := own_Av.other W81 c_Q_h80 (Nat.ne_of_lt (by omega))
    have c_cb_h81 : own_Da Z h81 a63 2 (own_up fHi ww zm) := own_Av.other W81 c_cb_h80 (Nat.ne_of_gt (by omega))
    have c_cbx_h81 : Exa Z h81 a63 "[D" := Exa.wr W81 c_cbx_h80
    have c_F_h81 : own_Ia Z h81 aF 6 (own_up (own_up fF 0 sv) 1 sv) := own_Av.other W81 GF80 (Nat.ne_of_lt (by omega))
    have c_U_h81 : own_Ia Z h81 aT 6 (own_up (own_up fT 0 ev) 1 mv) := own_Av.other W81 GU80 (Nat.ne_of_lt (by omega))
    have c_H_h81 : own_Ia Z h81 aH 6 (own_up (own_up fH 0 (-1 : Int32)) 1 (-1)) := own_Av.other W81 GH80 (Nat.ne_of_gt (by omega))
    have KK81 : Keep h0 h81 [aI, aP, t, aF, aT, aL, aH] := KK80.wr W81 (Or.inl (List.mem_of_getElem? (i := 5) rfl))
    refine own_st (fun _ kz => XS.aloadN X81.here hx rfl (hb hby ds_207) rfl rfl kz) ?_
    show own_Win p e below s _ _ _ (T81.setTop (mkF m 208 #[.val (.ref t), .val (.int sv), .val (.int ev), .val (.ref aLo), .val (.ref aHi), .val (.ref aSp), .val (.int (0 : Int32)), .val (.int av), .val (.double zs), .second, .val (.int mv), .val (.double zm), .second, .val (.ref a63), .unset] [(.ref aLo)]))
    refine own_clone X81 hx hZ hown (hw _ (List.mem_of_getElem? (i := 60) rfl)) (hw _ (List.mem_of_getElem? (i := 61) rfl)) (hw _ (List.mem_of_getElem? (i := 65) rfl)) (hw _ (List.mem_of_getElem? (i := 63) rfl)) (hw _ (List.mem_of_getElem? (i := 64) rfl)) (hw _ (List.mem_of_getElem? (i := 66) rfl)) e81 c_lo_h81 c_elo_h81 (g := (mkF m 208 #[.val (.ref t), .val (.int sv), .val (.int ev), .val (.ref aLo), .val (.ref aHi), .val (.ref aSp), .val (.int (0 : Int32)), .val (.int av), .val (.double zs), .second, .val (.int mv), .val (.double zm), .second, .val (.ref a63), .unset] [(.ref aLo)])) rfl (by rw [hml]; rfl) rfl (hb hby ds_208) (by decide) (W := 0) (Nat.le_of_eq rfl) (by decide) (by decide) (by decide) ?_
    intro T82 h82 a82 X82 e82 g82 E82 F82 Ex82
    have lt_aI_a82 : @LT.lt Nat _ aI a82 := by rw [g82]; exact (own_Av.lt c_I_h81)
    have lt_aP_a82 : @LT.lt Nat _ aP a82 := by rw [g82]; exact (own_Av.lt c_Q_h81)
    have lt_aLo_a82 : @LT.lt Nat _ aLo a82 := by rw [g82]; exact (own_Av.lt c_lo_h81)
    have lt_aHi_a82 : @LT.lt Nat _ aHi a82 := by rw [g82]; exact (own_Av.lt c_hi_h81)
    have lt_aSp_a82 : @LT.lt Nat _ aSp a82 := by rw [g82]; exact (own_Av.lt c_sp_h81)
    have lt_t_a82 : @LT.lt Nat _ t a82 := by rw [g82]; exact (own_Fs.lt c_T_h81)
    have lt_aF_a82 : @LT.lt Nat _ aF a82 := by rw [g82]; exact (own_Av.lt c_F_h81)
    have lt_aT_a82 : @LT.lt Nat _ aT a82 := by rw [g82]; exact (own_Av.lt c_U_h81)
    have lt_aL_a82 : @LT.lt Nat _ aL a82 := by rw [g82]; exact (own_Av.lt F81)
    have lt_aH_a82 : @LT.lt Nat _ aH a82 := by rw [g82]; exact (own_Av.lt c_H_h81)
    have lt_a63_a82 : @LT.lt Nat _ a63 a82 := by rw [g82]; exact (own_Av.lt c_cb_h81)
    have Z82 : n0 ≤ h82.size := Nat.le_trans Z81 E82.1
    have z_a82 : h0.size ≤ a82 := by rw [g82]; exact KK81.1
    have KK82 : Keep h0 h82 [aI, aP, t, aF, aT, aL, aH] := KK81.ext E82
    have c_T_h82 : own_Fs Z h82 t 2 (1 + 1) aI aP aF aT aL aH := own_Fs.ext E82 c_T_h81
    have c_lo_h82 : own_Da Z h82 aLo 2 fLo := own_Av.ext E82 c_lo_h81
    have c_hi_h82 : own_Da Z h82 aHi 2 fHi := own_Av.ext E82 c_hi_h81
    have c_sp_h82 : own_Da Z h82 aSp 2 fSp := own_Av.ext E82 c_sp_h81
    have c_elo_h82 : Exa Z h82 aLo "[D" := Exa.ext E82 c_elo_h81
    have c_ehi_h82 : Exa Z h82 aHi "[D" := Exa.ext E82 c_ehi_h81
    have c_I_h82 : own_Ia Z h82 aI 18 (own_I σ1) := own_Av.ext E82 c_I_h81
    have c_Q_h82 : own_Da Z h82 aP 36 (own_P O σ1) := own_Av.ext E82 c_Q_h81
    have c_cb_h82 : own_Da Z h82 a63 2 (own_up fHi ww zm) := own_Av.ext E82 c_cb_h81
    have c_cbx_h82 : Exa Z h82 a63 "[D" := Exa.ext E82 c_cbx_h81
    have c_F_h82 : own_Ia Z h82 aF 6 (own_up (own_up fF 0 sv) 1 sv) := own_Av.ext E82 c_F_h81
    have c_U_h82 : own_Ia Z h82 aT 6 (own_up (own_up fT 0 ev) 1 mv) := own_Av.ext E82 c_U_h81
    have c_L_h82 : own_Ia Z h82 aL 6 (own_up (own_up (own_up fL 0 (-1 : Int32)) 1 (-1)) 0 (1 : Int32)) := own_Av.ext E82 F81
    have c_H_h82 : own_Ia Z h82 aH 6 (own_up (own_up fH 0 (-1 : Int32)) 1 (-1)) := own_Av.ext E82 c_H_h81
    show own_Win p e below s _ _ _ (T82.setTop (mkF m 211 #[.val (.ref t), .val (.int sv), .val (.int ev), .val (.ref aLo), .val (.ref aHi), .val (.ref aSp), .val (.int (0 : Int32)), .val (.int av), .val (.double zs), .second, .val (.int mv), .val (.double zm), .second, .val (.ref a63), .unset] [(.ref a82)]))
    obtain ⟨T83, X83, e83, st83⟩ := castY X82 hx hZ hown (hw _ (List.mem_of_getElem? (i := 67) rfl)) e82 (Ins.of_exa Ex82 (hw _ (List.mem_of_getElem? (i := 68) rfl))) (g := (mkF m 211 #[.val (.ref t), .val (.int sv), .val (.int ev), .val (.ref aLo), .val (.ref aHi), .val (.ref aSp), .val (.int (0 : Int32)), .val (.int av), .val (.double zs), .second, .val (.int mv), .val (.double zm), .second, .val (.ref a63), .unset] [(.ref a82)])) rfl rfl (hb hby ds_211)
    refine own_st st83 ?_
    show own_Win p e below s _ _ _ (T83.setTop (mkF m 214 #[.val (.ref t), .val (.int sv), .val (.int ev), .val (.ref aLo), .val (.ref aHi), .val (.ref aSp), .val (.int (0 : Int32)), .val (.int av), .val (.double zs), .second, .val (.int mv), .val (.double zm), .second, .val (.ref a63), .unset] [(.ref a82)]))
    refine own_st (fun _ kz => XS.astore X83.here hx rfl (hb hby ds_214) rfl rfl (l' := #[.val (.ref t), .val (.int sv), .val (.int ev), .val (.ref aLo), .val (.ref aHi), .val (.ref aSp), .val (.int (0 : Int32)), .val (.int av), .val (.double zs), .second, .val (.int mv), .val (.double zm), .second, .val (.ref a63), .val (.ref a82)]) rfl kz) ?_
    show own_Win p e below s _ _ _ (T83.setTop (mkF m 216 #[.val (.ref t), .val (.int sv), .val (.int ev), .val (.ref aLo), .val (.ref aHi), .val (.ref aSp), .val (.int (0 : Int32)), .val (.int av), .val (.double zs), .second, .val (.int mv), .val (.double zm), .second, .val (.ref a63), .val (.ref a82)] []))
    refine own_st (fun _ kz => XS.aload X83.here hx rfl (hb hby ds_216) rfl rfl kz) ?_
    show own_Win p e below s _ _ _ (T83.setTop (mkF m 218 #[.val (.ref t), .val (.int sv), .val (.int ev), .val (.ref aLo), .val (.ref aHi), .val (.ref aSp), .val (.int (0 : Int32)), .val (.int av), .val (.double zs), .second, .val (.int mv), .val (.double zm), .second, .val (.ref a63), .val (.ref a82)] [(.ref a82)]))
    refine own_st (fun _ kz => XS.iload X83.here hx rfl (hb hby ds_218) rfl kz) ?_
    show own_Win p e below s _ _ _ (T83.setTop (mkF m 220 #[.val (.ref t), .val (.int sv), .val (.int ev), .val (.ref aLo), .val (.ref aHi), .val (.ref aSp), .val (.int (0 : Int32)), .val (.int av), .val (.double zs), .second, .val (.int mv), .val (.double zm), .second, .val (.ref a63), .val (.ref a82)] [(.int av), (.ref a82)]))
    refine own_st (fun _ kz => XS.dload X83.here hx rfl (hb hby ds_220) rfl kz) ?_
    show own_Win p e below s _ _ _ (T83.setTop (mkF m 222 #[.val (.ref t), .val (.int sv), .val (.int ev), .val (.ref aLo), .val (.ref aHi), .val (.ref aSp), .val (.int (0 : Int32)), .val (.int av), .val (.double zs), .second, .val (.int mv), .val (.double zm), .second, .val (.ref a63), .val (.ref a82)] [(.double zm), (.int av), (.ref a82)]))
    refine own_dastore X83 hx hZ e83 F82 (i := ww) ha w2 N81 (by omega) rfl rfl (hb hby ds_222) ?_
    intro T84 h84 L84 X84 e84 N84 W84 F84
    show own_Win p e below s _ _ _ (T84.setTop (mkF m 223 #[.val (.ref t), .val (.int sv), .val (.int ev), .val (.ref aLo), .val (.ref aHi), .val (.ref aSp), .val (.int (0 : Int32)), .val (.int av), .val (.double zs), .second, .val (.int mv), .val (.double zm), .second, .val (.ref a63), .val (.ref a82)] []))
    have Z84 : n0 ≤ h84.size := by rw [Wr.size W84]; exact Z82
    have c_T_h84 : own_Fs Z h84 t 2 (1 + 1) aI aP aF aT aL aH := own_Fs.other W84 c_T_h82 (Nat.ne_of_lt (by omega))
    have c_lo_h84 : own_Da Z h84 aLo 2 fLo := own_Av.other W84 c_lo_h82 (Nat.ne_of_lt (by omega))
    have c_hi_h84 : own_Da Z h84 aHi 2 fHi := own_Av.other W84 c_hi_h82 (Nat.ne_of_lt (by omega))
    have c_sp_h84 : own_Da Z h84 aSp 2 fSp := own_Av.other W84 c_sp_h82 (Nat.ne_of_lt (by omega))
    have c_elo_h84 : Exa Z h84 aLo "[D" := Exa.wr W84 c_elo_h82
    have c_ehi_h84 : Exa Z h84 aHi "[D" := Exa.wr W84 c_ehi_h82
    have c_I_h84 : own_Ia Z h84 aI 18 (own_I σ1) := own_Av.other W84 c_I_h82 (Nat.ne_of_lt (by omega))
    have c_Q_h84 : own_Da Z h84 aP 36 (own_P O σ1) := own_Av.other W84 c_Q_h82 (Nat.ne_of_lt (by omega))
    have c_cb_h84 : own_Da Z h84 a63 2 (own_up fHi ww zm) := own_Av.other W84 c_cb_h82 (Nat.ne_of_lt (by omega))
    have c_cbx_h84 : Exa Z h84 a63 "[D" := Exa.wr W84 c_cbx_h82
    have c_F_h84 : own_Ia Z h84 aF 6 (own_up (own_up fF 0 sv) 1 sv) := own_Av.other W84 c_F_h82 (Nat.ne_of_lt (by omega))
    have c_U_h84 : own_Ia Z h84 aT 6 (own_up (own_up fT 0 ev) 1 mv) := own_Av.other W84 c_U_h82 (Nat.ne_of_lt (by omega))
    have c_L_h84 : own_Ia Z h84 aL 6 (own_up (own_up (own_up fL 0 (-1 : Int32)) 1 (-1)) 0 (1 : Int32)) := own_Av.other W84 c_L_h82 (Nat.ne_of_lt (by omega))
    have c_H_h84 : own_Ia Z h84 aH 6 (own_up (own_up fH 0 (-1 : Int32)) 1 (-1)) := own_Av.other W84 c_H_h82 (Nat.ne_of_lt (by omega))
    have c_cax_h84 : Exa Z h84 a82 "[D" := Exa.wr W84 Ex82
    have KK84 : Keep h0 h84 [aI, aP, t, aF, aT, aL, aH] := KK82.wr W84 (Or.inr (by have := z_a82; omega))
    refine own_st (fun _ kz => XS.aloadN X84.here hx rfl (hb hby ds_223) rfl rfl kz) ?_
    show own_Win p e below s _ _ _ (T84.setTop (mkF m 224 #[.val (.ref t), .val (.int sv), .val (.int ev), .val (.ref aLo), .val (.ref aHi), .val (.ref aSp), .val (.int (0 : Int32)), .val (.int av), .val (.double zs), .second, .val (.int mv), .val (.double zm), .second, .val (.ref a63), .val (.ref a82)] [(.ref t)]))
    obtain ⟨T85, X85, e85, st85⟩ := getF X84 hx hZ hown (host := "") (Or.inl (hw _ (List.mem_of_getElem? (i := 27) rfl))) Via.refl e84 c_T_h84.2.2.2.2.2.2.2.1 (g := (mkF m 224 #[.val (.ref t), .val (.int sv), .val (.int ev), .val (.ref aLo), .val (.ref aHi), .val (.ref aSp), .val (.int (0 : Int32)), .val (.int av), .val (.double zs), .second, .val (.int mv), .val (.double zm), .second, .val (.ref a63), .val (.ref a82)] [(.ref t)])) rfl rfl (hb hby ds_224)
    refine own_st st85 ?_
    show own_Win p e below s _ _ _ (T85.setTop (mkF m 227 #[.val (.ref t), .val (.int sv), .val (.int ev), .val (.ref aLo), .val (.ref aHi), .val (.ref aSp), .val (.int (0 : Int32)), .val (.int av), .val (.double zs), .second, .val (.int mv), .val (.double zm), .second, .val (.ref a63), .val (.ref a82)] [(.ref aH)]))
    refine own_st (fun _ kz => XS.iload X85.here hx rfl (hb hby ds_227) rfl kz) ?_
    show own_Win p e below s _ _ _ (T85.setTop (mkF m 229 #[.val (.ref t), .val (.int sv), .val (.int ev), .val (.ref aLo), .val (.ref aHi), .val (.ref aSp), .val (.int (0 : Int32)), .val (.int av), .val (.double zs), .second, .val (.int mv), .val (.double zm), .second, .val (.ref a63), .val (.ref a82)] [(.int (0 : Int32)), (.ref aH)]))
    refine own_st (fun _ kz => XS.aloadN X85.here hx rfl (hb hby ds_229) rfl rfl kz) ?_
    show own_Win p e below s _ _ _ (T85.setTop (mkF m 230 #[.val (.ref t), .val (.int sv), .val (.int ev), .val (.ref aLo), .val (.ref aHi), .val (.ref aSp), .val (.int (0 : Int32)), .val (.int av), .val (.double zs), .second, .val (.int mv), .val (.double zm), .second, .val (.ref a63), .val (.ref a82)] [(.ref t), (.int (0 : Int32)), (.ref aH)]))
    refine own_st (fun _ kz => XS.iload X85.here hx rfl (hb hby ds_230) rfl kz) ?_
    show own_Win p e below s _ _ _ (T85.setTop (mkF m 232 #[.val (.ref t), .val (.int sv), .val (.int ev), .val (.ref aLo), .val (.ref aHi), .val (.ref aSp), .val (.int (0 : Int32)), .val (.int av), .val (.double zs), .second, .val (.int mv), .val (.double zm), .second, .val (.ref a63), .val (.ref a82)] [(.int mv), (.ref t), (.int (0 : Int32)), (.ref aH)]))
    refine own_st (fun _ kz => XS.iloadN X85.here hx rfl (hb hby ds_232) rfl kz) ?_
    show own_Win p e below s _ _ _ (T85.setTop (mkF m 233 #[.val (.ref t), .val (.int sv), .val (.int ev), .val (.ref aLo), .val (.ref aHi), .val (.ref aSp), .val (.int (0 : Int32)), .val (.int av), .val (.double zs), .second, .val (.int mv), .val (.double zm), .second, .val (.ref a63), .val (.ref a82)] [(.int ev), (.int mv), (.ref t), (.int (0 : Int32)), (.ref aH)]))
    refine own_st (fun _ kz => XS.aload X85.here hx rfl (hb hby ds_233) rfl rfl kz) ?_
    show own_Win p e below s _ _ _ (T85.setTop (mkF m 235 #[.val (.ref t), .val (.int sv), .val (.int ev), .val (.ref aLo), .val (.ref aHi), .val (.ref aSp), .val (.int (0 : Int32)), .val (.int av), .val (.double zs), .second, .val (.int mv), .val (.double zm), .second, .val (.ref a63), .val (.ref a82)] [(.ref a82), (.int ev), (.int mv), (.ref t), (.int (0 : Int32)), (.ref aH)]))
    refine own_st (fun _ kz => XS.aload X85.here hx rfl (hb hby ds_235) rfl rfl kz) ?_
    show own_Win p e below s _ _ _ (T85.setTop (mkF m 237 #[.val (.ref t), .val (.int sv), .val (.int ev), .val (.ref aLo), .val (.ref aHi), .val (.ref aSp), .val (.int (0 : Int32)), .val (.int av), .val (.double zs), .second, .val (.int mv), .val (.double zm), .second, .val (.ref a63), .val (.ref a82)] [(.ref aHi), (.ref a82), (.int ev), (.int mv), (.ref t), (.int (0 : Int32)), (.ref aH)]))
    refine own_st (fun _ kz => XS.aload X85.here hx rfl (hb hby ds_237) rfl rfl kz) ?_
    show own_Win p e below s _ _ _ (T85.setTop (mkF m 239 #[.val (.ref t), .val (.int sv), .val (.int ev), .val (.ref aLo), .val (.ref aHi), .val (.ref aSp), .val (.int (0 : Int32)), .val (.int av), .val (.double zs), .second, .val (.int mv), .val (.double zm), .second, .val (.ref a63), .val (.ref a82)] [(.ref aSp), (.ref aHi), (.ref a82), (.int ev), (.int mv), (.ref t), (.int (0 : Int32)), (.ref aH)]))
    refine own_callV X85 hx hZ hown (C := "com/example/skyweave/skyweave/KdTree") (y := yS) (hw _ (List.mem_of_getElem? (i := 69) rfl)) (hw _ (List.mem_of_getElem? (i := 32) rfl)) (hw _ (List.mem_of_getElem? (i := 34) rfl)) (hw _ (List.mem_of_getElem? (i := 33) rfl)) (hw _ (List.mem_of_getElem? (i := 35) rfl)) (hw _ (List.mem_of_getElem? (i := 8) rfl)) (by decide) e85 c_T_h84.1 (rmLf l Z a0 hw [] t aI aP aF aT aL aH a82 aHi aSp 2 2 mv ev 2 (own_up (own_up fF 0 sv) 1 sv) (own_up (own_up fT 0 ev) 1 mv) (own_up (own_up (own_up fL 0 (-1 : Int32)) 1 (-1)) 0 (1 : Int32)) (own_up (own_up fH 0 (-1 : Int32)) 1 (-1)) h84 n0 Z84 c_T_h84 (by omega) o5 o6 o7 o8 c_F_h84 c_U_h84 c_L_h84 c_H_h84 rfl (by decide) (Or.inl (fun z => by rw [Int32.lt_iff_toInt_lt] at z; have := c_isub ev mv; have := rng32 (ev - mv); have : (16 : Int32).toInt = 16 := rfl; omega))) (by decide) (W := 2) (by decide) rfl (by rw [hml]; rfl) (argsL := [.int mv, .int ev, .ref a82, .ref aHi, .ref aSp]) (rest := [.int (0 : Int32), .ref aH]) (lenOf pdS rfl) rfl (Nat.le_of_eq rfl) (hb hby ds_239) rfl (by decide) (by decide) ?_
    intro T100 v100 L100 X100 hQ100
    obtain ⟨h100, e100⟩ : ∃ z, T100.heap = z := ⟨_, rfl⟩
    rw [e100] at hQ100
    obtain ⟨rfl, M100, K100, FT100, GF100, GU100, GL100, GH100⟩ := hQ100
    have N100 := Fr.app N84 M100
    have Z100 : n0 ≤ h100.size := Nat.le_trans Z84 K100.1
    have KK100 : Keep h0 h100 [aI, aP, t, aF, aT, aL, aH] := KK84.trans K100 (allS (Or.inl (List.mem_of_getElem? (i := 2) rfl)) (allS (Or.inl (List.mem_of_getElem? (i := 3) rfl)) (allS (Or.inl (List.mem_of_getElem? (i := 4) rfl)) (allS (Or.inl (List.mem_of_getElem? (i := 5) rfl)) (allS (Or.inl (List.mem_of_getElem? (i := 6) rfl)) all0)))))
    have c_lo_h100 : own_Da Z h100 aLo 2 fLo := own_Av.keep K100 c_lo_h84 (ninS (Nat.ne_of_lt (by omega)) (ninS (Nat.ne_of_lt (by omega)) (ninS (Nat.ne_of_lt (by omega)) (ninS (Nat.ne_of_lt (by omega)) (ninS (Nat.ne_of_lt (by omega)) nin0)))))
    have c_hi_h100 : own_Da Z h100 aHi 2 fHi := own_Av.keep K100 c_hi_h84 (ninS (Nat.ne_of_lt (by omega)) (ninS (Nat.ne_of_lt (by omega)) (ninS (Nat.ne_of_lt (by omega)) (ninS (Nat.ne_of_lt (by omega)) (ninS (Nat.ne_of_lt (by omega)) nin0)))))
    have c_sp_h100 : own_Da Z h100 aSp 2 fSp := own_Av.keep K100 c_sp_h84 (ninS (Nat.ne_of_lt (by omega)) (ninS (Nat.ne_of_lt (by omega)) (ninS (Nat.ne_of_lt (by omega)) (ninS (Nat.ne_of_lt (by omega)) (ninS (Nat.ne_of_lt (by omega)) nin0)))))
    have c_elo_h100 : Exa Z h100 aLo "[D" := Exa.keep c_elo_h84 K100
    have c_ehi_h100 : Exa Z h100 aHi "[D" := Exa.keep c_ehi_h84 K100
    have c_I_h100 : own_Ia Z h100 aI 18 (own_I σ1) := own_Av.keep K100 c_I_h84 (ninS (Nat.ne_of_lt (by omega)) (ninS (Nat.ne_of_lt (by omega)) (ninS (Nat.ne_of_lt (by omega)) (ninS (Nat.ne_of_lt (by omega)) (ninS (Nat.ne_of_lt (by omega)) nin0)))))
    have c_Q_h100 : own_Da Z h100 aP 36 (own_P O σ1) := own_Av.keep K100 c_Q_h84 (ninS (Nat.ne_of_lt (by omega)) (ninS (Nat.ne_of_lt (by omega)) (ninS (Nat.ne_of_lt (by omega)) (ninS (Nat.ne_of_lt (by omega)) (ninS (Nat.ne_of_lt (by omega)) nin0)))))
    have c_cb_h100 : own_Da Z h100 a63 2 (own_up fHi ww zm) := own_Av.keep K100 c_cb_h84 (ninS (Nat.ne_of_gt (by omega)) (ninS (Nat.ne_of_gt (by omega)) (ninS (Nat.ne_of_gt (by omega)) (ninS (Nat.ne_of_gt (by omega)) (ninS (Nat.ne_of_gt (by omega)) nin0)))))
    have c_cbx_h100 : Exa Z h100 a63 "[D" := Exa.keep c_cbx_h84 K100
    have c_ca_h100 : own_Da Z h100 a82 2 (own_up fLo ww zm) := own_Av.keep K100 F84 (ninS (Nat.ne_of_gt (by omega)) (ninS (Nat.ne_of_gt (by omega)) (ninS (Nat.ne_of_gt (by omega)) (ninS (Nat.ne_of_gt (by omega)) (ninS (Nat.ne_of_gt (by omega)) nin0)))))
    have c_cax_h100 : Exa Z h100 a82 "[D" := Exa.keep c_cax_h84 K100
    show own_Win p e below s _ _ _ (T100.setTop (mkF m 242 #[.val (.ref t), .val (.int sv), .val (.int ev), .val (.ref aLo), .val (.ref aHi), .val (.ref aSp), .val (.int (0 : Int32)), .val (.int av), .val (.double zs), .second, .val (.int mv), .val (.double zm), .second, .val (.ref a63), .val (.ref a82)] [(.int (2 : Int32)), (.int (0 : Int32)), (.ref aH)]))
    refine own_iastore X100 hx hZ e100 GH100 (i := 0) rfl (by decide) N100 (by omega) rfl rfl (hb hby ds_242) ?_
    intro T101 h101 L101 X101 e101 N101 W101 F101
    show own_Win p e below s _ _ _ (T101.setTop (mkF m 243 #[.val (.ref t), .val (.int sv), .val (.int ev), .val (.ref aLo), .val (.ref aHi), .val (.ref aSp), .val (.int (0 : Int32)), .val (.int av), .val (.double zs), .second, .val (.int mv), .val (.double zm), .second, .val (.ref a63), .val (.ref a82)] []))
    have Z101 : n0 ≤ h101.size := by rw [Wr.size W101]; exact Z100
    have c_T_h101 : own_Fs Z h101 t 2 (2 + 1) aI aP aF aT aL aH := own_Fs.other W101 FT100 (Nat.ne_of_lt (by omega))
    have c_lo_h101 : own_Da Z h101 aLo 2 fLo := own_Av.other W101 c_lo_h100 (Nat.ne_of_lt (by omega))
    have c_hi_h101 : own_Da Z h101 aHi 2 fHi := own_Av.other W101 c_hi_h100 (Nat.ne_of_lt (by omega))
    have c_sp_h101 : own_Da Z h101 aSp 2 fSp := own_Av.other W101 c_sp_h100 (Nat.ne_of_lt (by omega))
    have c_elo_h101 : Exa Z h101 aLo "[D" := Exa.wr W101 c_elo_h100
    have c_ehi_h101 : Exa Z h101 aHi "[D" := Exa.wr W101 c_ehi_h100
    have c_I_h101 : own_Ia Z h101 aI 18 (own_I σ1) := own_Av.other W101 c_I_h100 (Nat.ne_of_lt (by omega))
    have c_Q_h101 : own_Da Z h101 aP 36 (own_P O σ1) := own_Av.other W101 c_Q_h100 (Nat.ne_of_lt (by omega))
    have c_cb_h101 : own_Da Z h101 a63 2 (own_up fHi ww zm) := own_Av.other W101 c_cb_h100 (Nat.ne_of_gt (by omega))
    have c_cbx_h101 : Exa Z h101 a63 "[D" := Exa.wr W101 c_cbx_h100
    have c_ca_h101 : own_Da Z h101 a82 2 (own_up fLo ww zm) := own_Av.other W101 c_ca_h100 (Nat.ne_of_gt (by omega))
    have c_cax_h101 : Exa Z h101 a82 "[D" := Exa.wr W101 c_cax_h100
    have c_F_h101 : own_Ia Z h101 aF 6 (own_up (own_up (own_up fF 0 sv) 1 sv) 2 mv) := own_Av.other W101 GF100 (Nat.ne_of_lt (by omega))
    have c_U_h101 : own_Ia Z h101 aT 6 (own_up (own_up (own_up fT 0 ev) 1 mv) 2 ev) := own_Av.other W101 GU100 (Nat.ne_of_lt (by omega))
    have c_L_h101 : own_Ia Z h101 aL 6 (own_up (own_up (own_up (own_up fL 0 (-1 : Int32)) 1 (-1)) 0 (1 : Int32)) 2 (-1)) := own_Av.other W101 GL100 (Nat.ne_of_lt (by omega))
    have KK101 : Keep h0 h101 [aI, aP, t, aF, aT, aL, aH] := KK100.wr W101 (Or.inl (List.mem_of_getElem? (i := 6) rfl))
    refine own_st (fun _ kz => XS.iload X101.here hx rfl (hb hby ds_243) rfl kz) ?_
    show own_Win p e below s _ _ _ (T101.setTop (mkF m 245 #[.val (.ref t), .val (.int sv), .val (.int ev), .val (.ref aLo), .val (.ref aHi), .val (.ref aSp), .val (.int (0 : Int32)), .val (.int av), .val (.double zs), .second, .val (.int mv), .val (.double zm), .second, .val (.ref a63), .val (.ref a82)] [(.int (0 : Int32))]))
    refine own_ret X101 hx hlk Bd.returns rfl (Or.inl ⟨rfl, Or.inl rfl, _, rfl⟩) (hb hby ds_245) ?_ (Nat.le_refl _) (Nat.le_refl _)
    rw [e101]
    subst hww
    exact ⟨rfl, N101, KK101, σ1, _, _, _, _, mv, hmv, hm, c_T_h101, c_I_h101, c_Q_h101, hok1, hpt1, c_F_h101, c_U_h101, c_L_h101, F101, rfl, rfl, rfl, rfl, rfl, rfl, rfl, rfl, rfl, rfl, rfl, rfl⟩
  have tl1 : ∀ (T : State) (z0 z1 : UInt64), Stand p l e ({ frames := 2, cells := 2, slots := 4, locals := 40 } : Room) s m #[(.ref t), (.int sv), (.int ev), (.ref aLo), (.ref aHi), (.ref aSp)] below meth c T L10 0 0 → T.heap = h10 → own_Sh r0 s0 z0 → own_Sh r1 s1 z1 → own_Win p e below s (Q_rmS Z t aI aP aF aT aL aH aLo aHi aSp sv ev sN fF fT fL fH fLo fHi fSp L0 L1 r0 r1 s0 s1 O V h0 n0) ({ frames := 2, cells := 2, slots := 4, locals := 40 } : Room).cells ({ frames := 2, cells := 2, slots := 4, locals := 40 } : Room).slots (T.setTop (mkF m 113 #[.val (.ref t), .val (.int sv), .val (.int ev), .val (.ref aLo), .val (.ref aHi), .val (.ref aSp), .val (.int (0 : Int32)), .val (.int (0 : Int32)), .val (.double z0), .second, .val (.int (1 : Int32)), .val (.double z0), .second, .unset, .unset] [(.double z1)])) := by
    intro T z0 z1 X eT hz0 hz1
    show own_Win p e below s _ _ _ (T.setTop (mkF m 113 #[.val (.ref t), .val (.int sv), .val (.int ev), .val (.ref aLo), .val (.ref aHi), .val (.ref aSp), .val (.int (0 : Int32)), .val (.int (0 : Int32)), .val (.double z0), .second, .val (.int (1 : Int32)), .val (.double z0), .second, .unset, .unset] [(.double z1)]))
    refine own_st (fun _ kz => XS.dstore X.here hx rfl (hb hby ds_113) rfl (l' := #[.val (.ref t), .val (.int sv), .val (.int ev), .val (.ref aLo), .val (.ref aHi), .val (.ref aSp), .val (.int (0 : Int32)), .val (.int (0 : Int32)), .val (.double z0), .second, .val (.int (1 : Int32)), .val (.double z1), .second, .unset, .unset]) rfl kz) ?_
    show own_Win p e below s _ _ _ (T.setTop (mkF m 115 #[.val (.ref t), .val (.int sv), .val (.int ev), .val (.ref aLo), .val (.ref aHi), .val (.ref aSp), .val (.int (0 : Int32)), .val (.int (0 : Int32)), .val (.double z0), .second, .val (.int (1 : Int32)), .val (.double z1), .second, .unset, .unset] []))
    refine own_st (fun _ kz => XS.dload X.here hx rfl (hb hby ds_115) rfl kz) ?_
    show own_Win p e below s _ _ _ (T.setTop (mkF m 117 #[.val (.ref t), .val (.int sv), .val (.int ev), .val (.ref aLo), .val (.ref aHi), .val (.ref aSp), .val (.int (0 : Int32)), .val (.int (0 : Int32)), .val (.double z0), .second, .val (.int (1 : Int32)), .val (.double z1), .second, .unset, .unset] [(.double z1)]))
    refine own_st (fun _ kz => XS.dload X.here hx rfl (hb hby ds_117) rfl kz) ?_
    show own_Win p e below s _ _ _ (T.setTop (mkF m 119 #[.val (.ref t), .val (.int sv), .val (.int ev), .val (.ref aLo), .val (.ref aHi), .val (.ref aSp), .val (.int (0 : Int32)), .val (.int (0 : Int32)), .val (.double z0), .second, .val (.int (1 : Int32)), .val (.double z1), .second, .unset, .unset] [(.double z0), (.double z1)]))
    refine own_st (fun _ kz => XS.dcmpS X.here hx rfl (hb hby ds_119) rfl rfl kz) ?_
    show own_Win p e below s _ _ _ (T.setTop (mkF m 120 #[.val (.ref t), .val (.int sv), .val (.int ev), .val (.ref aLo), .val (.ref aHi), .val (.ref aSp), .val (.int (0 : Int32)), .val (.int (0 : Int32)), .val (.double z0), .second, .val (.int (1 : Int32)), .val (.double z1), .second, .unset, .unset] [(.int (cmpValue (FP.dcmp z1 z0) .l))]))
    have hsec := own_second ra0 rb0 rc0 rd0 ra1 rb1 rc1 rd1 hz0 hz1
    by_cases q : own_w r0 r1 s0 s1 = 0
    ·
      refine own_st (fun _ kz => XS.ifYes X.here hx rfl (pc0 := 120) (pc' := 131) rfl (hb hby ds_120) rfl (by rw [hsec]; exact decide_eq_true q) (by decide) (by decide) kz) ?_
      show own_Win p e below s _ _ _ (T.setTop (mkF m 131 #[.val (.ref t), .val (.int sv), .val (.int ev), .val (.ref aLo), .val (.ref aHi), .val (.ref aSp), .val (.int (0 : Int32)), .val (.int (0 : Int32)), .val (.double z0), .second, .val (.int (1 : Int32)), .val (.double z1), .second, .unset, .unset] []))
      refine own_st (fun _ kz => XS.iinc X.here hx rfl (hb hby ds_131) rfl (l' := #[.val (.ref t), .val (.int sv), .val (.int ev), .val (.ref aLo), .val (.ref aHi), .val (.ref aSp), .val (.int (0 : Int32)), .val (.int (0 : Int32)), .val (.double z0), .second, .val (.int ((1 : Int32) + (1 : Int32))), .val (.double z1), .second, .unset, .unset]) rfl kz) ?_
      show own_Win p e below s _ _ _ (T.setTop (mkF m 134 #[.val (.ref t), .val (.int sv), .val (.int ev), .val (.ref aLo), .val (.ref aHi), .val (.ref aSp), .val (.int (0 : Int32)), .val (.int (0 : Int32)), .val (.double z0), .second, .val (.int ((1 : Int32) + (1 : Int32))), .val (.double z1), .second, .unset, .unset] []))
      refine own_st (fun _ kz => XS.goto X.here hx rfl (pc0 := 134) (pc' := 74) rfl (hb hby ds_134) (by decide) (by decide) kz) ?_
      show own_Win p e below s _ _ _ (T.setTop (mkF m 74 #[.val (.ref t), .val (.int sv), .val (.int ev), .val (.ref aLo), .val (.ref aHi), .val (.ref aSp), .val (.int (0 : Int32)), .val (.int (0 : Int32)), .val (.double z0), .second, .val (.int ((1 : Int32) + (1 : Int32))), .val (.double z1), .second, .unset, .unset] []))
      show own_Win p e below s _ _ _ (T.setTop (mkF m 74 #[.val (.ref t), .val (.int sv), .val (.int ev), .val (.ref aLo), .val (.ref aHi), .val (.ref aSp), .val (.int (0 : Int32)), .val (.int (0 : Int32)), .val (.double z0), .second, .val (.int (2 : Int32)), .val (.double z1), .second, .unset, .unset] []))
      refine own_st (fun _ kz => XS.iload X.here hx rfl (hb hby ds_74) rfl kz) ?_
      show own_Win p e below s _ _ _ (T.setTop (mkF m 76 #[.val (.ref t), .val (.int sv), .val (.int ev), .val (.ref aLo), .val (.ref aHi), .val (.ref aSp), .val (.int (0 : Int32)), .val (.int (0 : Int32)), .val (.double z0), .second, .val (.int (2 : Int32)), .val (.double z1), .second, .unset, .unset] [(.int (2 : Int32))]))
      refine own_st (fun _ kz => XS.aloadN X.here hx rfl (hb hby ds_76) rfl rfl kz) ?_
      show own_Win p e below s _ _ _ (T.setTop (mkF m 77 #[.val (.ref t), .val (.int sv), .val (.int ev), .val (.ref aLo), .val (.ref aHi), .val (.ref aSp), .val (.int (0 : Int32)), .val (.int (0 : Int32)), .val (.double z0), .second, .val (.int (2 : Int32)), .val (.double z1), .second, .unset, .unset] [(.ref t), (.int (2 : Int32))]))
      obtain ⟨T41, X41, e41, st41⟩ := getF X hx hZ hown (host := "") (Or.inl (hw _ (List.mem_of_getElem? (i := 15) rfl))) Via.refl eT c_T_h10.2.1 (g := (mkF m 77 #[.val (.ref t), .val (.int sv), .val (.int ev), .val (.ref aLo), .val (.ref aHi), .val (.ref aSp), .val (.int (0 : Int32)), .val (.int (0 : Int32)), .val (.double z0), .second, .val (.int (2 : Int32)), .val (.double z1), .second, .unset, .unset] [(.ref t), (.int (2 : Int32))])) rfl rfl (hb hby ds_77)
      refine own_st st41 ?_
      show own_Win p e below s _ _ _ (T41.setTop (mkF m 80 #[.val (.ref t), .val (.int sv), .val (.int ev), .val (.ref aLo), .val (.ref aHi), .val (.ref aSp), .val (.int (0 : Int32)), .val (.int (0 : Int32)), .val (.double z0), .second, .val (.int (2 : Int32)), .val (.double z1), .second, .unset, .unset] [(.int (2 : Int32)), (.int (2 : Int32))]))
      refine own_st (fun _ kz => XS.icmpYes X41.here hx rfl (pc0 := 80) (pc' := 137) rfl (hb hby ds_80) rfl (by decide) (by decide) (by decide) kz) ?_
      show own_Win p e below s _ _ _ (T41.setTop (mkF m 137 #[.val (.ref t), .val (.int sv), .val (.int ev), .val (.ref aLo), .val (.ref aHi), .val (.ref aSp), .val (.int (0 : Int32)), .val (.int (0 : Int32)), .val (.double z0), .second, .val (.int (2 : Int32)), .val (.double z1), .second, .unset, .unset] []))
      exact tl2 _ 0 _ _ X41 e41 (by rw [q]; rfl)
    ·
      refine own_st (fun _ kz => XS.ifNo X.here hx rfl (hb hby ds_120) rfl (by rw [hsec]; exact decide_eq_false q) kz) ?_
      show own_Win p e below s _ _ _ (T.setTop (mkF m 123 #[.val (.ref t), .val (.int sv), .val (.int ev), .val (.ref aLo), .val (.ref aHi), .val (.ref aSp), .val (.int (0 : Int32)), .val (.int (0 : Int32)), .val (.double z0), .second, .val (.int (1 : Int32)), .val (.double z1), .second, .unset, .unset] []))
      refine own_st (fun _ kz => XS.iload X.here hx rfl (hb hby ds_123) rfl kz) ?_
      show own_Win p e below s _ _ _ (T.setTop (mkF m 125 #[.val (.ref t), .val (.int sv), .val (.int ev), .val (.ref aLo), .val (.ref aHi), .val (.ref aSp), .val (.int (0 : Int32)), .val (.int (0 : Int32)), .val (.double z0), .second, .val (.int (1 : Int32)), .val (.double z1), .second, .unset, .unset] [(.int (1 : Int32))]))
      refine own_st (fun _ kz => XS.istore X.here hx rfl (hb hby ds_125) rfl (l' := #[.val (.ref t), .val (.int sv), .val (.int ev), .val (.ref aLo), .val (.ref aHi), .val (.ref aSp), .val (.int (0 : Int32)), .val (.int (1 : Int32)), .val (.double z0), .second, .val (.int (1 : Int32)), .val (.double z1), .second, .unset, .unset]) rfl kz) ?_
      show own_Win p e below s _ _ _ (T.setTop (mkF m 127 #[.val (.ref t), .val (.int sv), .val (.int ev), .val (.ref aLo), .val (.ref aHi), .val (.ref aSp), .val (.int (0 : Int32)), .val (.int (1 : Int32)), .val (.double z0), .second, .val (.int (1 : Int32)), .val (.double z1), .second, .unset, .unset] []))
      refine own_st (fun _ kz => XS.dload X.here hx rfl (hb hby ds_127) rfl kz) ?_
      show own_Win p e below s _ _ _ (T.setTop (mkF m 129 #[.val (.ref t), .val (.int sv), .val (.int ev), .val (.ref aLo), .val (.ref aHi), .val (.ref aSp), .val (.int (0 : Int32)), .val (.int (1 : Int32)), .val (.double z0), .second, .val (.int (1 : Int32)), .val (.double z1), .second, .unset, .unset] [(.double z1)]))
      refine own_st (fun _ kz => XS.dstore X.here hx rfl (hb hby ds_129) rfl (l' := #[.val (.ref t), .val (.int sv), .val (.int ev), .val (.ref aLo), .val (.ref aHi), .val (.ref aSp), .val (.int (0 : Int32)), .val (.int (1 : Int32)), .val (.double z1), .second, .val (.int (1 : Int32)), .val (.double z1), .second, .unset, .unset]) rfl kz) ?_
      show own_Win p e below s _ _ _ (T.setTop (mkF m 131 #[.val (.ref t), .val (.int sv), .val (.int ev), .val (.ref aLo), .val (.ref aHi), .val (.ref aSp), .val (.int (0 : Int32)), .val (.int (1 : Int32)), .val (.double z1), .second, .val (.int (1 : Int32)), .val (.double z1), .second, .unset, .unset] []))
      refine own_st (fun _ kz => XS.iinc X.here hx rfl (hb hby ds_131) rfl (l' := #[.val (.ref t), .val (.int sv), .val (.int ev), .val (.ref aLo), .val (.ref aHi), .val (.ref aSp), .val (.int (0 : Int32)), .val (.int (1 : Int32)), .val (.double z1), .second, .val (.int ((1 : Int32) + (1 : Int32))), .val (.double z1), .second, .unset, .unset]) rfl kz) ?_
      show own_Win p e below s _ _ _ (T.setTop (mkF m 134 #[.val (.ref t), .val (.int sv), .val (.int ev), .val (.ref aLo), .val (.ref aHi), .val (.ref aSp), .val (.int (0 : Int32)), .val (.int (1 : Int32)), .val (.double z1), .second, .val (.int ((1 : Int32) + (1 : Int32))), .val (.double z1), .second, .unset, .unset] []))
      refine own_st (fun _ kz => XS.goto X.here hx rfl (pc0 := 134) (pc' := 74) rfl (hb hby ds_134) (by decide) (by decide) kz) ?_
      show own_Win p e below s _ _ _ (T.setTop (mkF m 74 #[.val (.ref t), .val (.int sv), .val (.int ev), .val (.ref aLo), .val (.ref aHi), .val (.ref aSp), .val (.int (0 : Int32)), .val (.int (1 : Int32)), .val (.double z1), .second, .val (.int ((1 : Int32) + (1 : Int32))), .val (.double z1), .second, .unset, .unset] []))
      show own_Win p e below s _ _ _ (T.setTop (mkF m 74 #[.val (.ref t), .val (.int sv), .val (.int ev), .val (.ref aLo), .val (.ref aHi), .val (.ref aSp), .val (.int (0 : Int32)), .val (.int (1 : Int32)), .val (.double z1), .second, .val (.int (2 : Int32)), .val (.double z1), .second, .unset, .unset] []))
      refine own_st (fun _ kz => XS.iload X.here hx rfl (hb hby ds_74) rfl kz) ?_
      show own_Win p e below s _ _ _ (T.setTop (mkF m 76 #[.val (.ref t), .val (.int sv), .val (.int ev), .val (.ref aLo), .val (.ref aHi), .val (.ref aSp), .val (.int (0 : Int32)), .val (.int (1 : Int32)), .val (.double z1), .second, .val (.int (2 : Int32)), .val (.double z1), .second, .unset, .unset] [(.int (2 : Int32))]))
      refine own_st (fun _ kz => XS.aloadN X.here hx rfl (hb hby ds_76) rfl rfl kz) ?_
      show own_Win p e below s _ _ _ (T.setTop (mkF m 77 #[.val (.ref t), .val (.int sv), .val (.int ev), .val (.ref aLo), .val (.ref aHi), .val (.ref aSp), .val (.int (0 : Int32)), .val (.int (1 : Int32)), .val (.double z1), .second, .val (.int (2 : Int32)), .val (.double z1), .second, .unset, .unset] [(.ref t), (.int (2 : Int32))]))
      obtain ⟨T41, X41, e41, st41⟩ := getF X hx hZ hown (host := "") (Or.inl (hw _ (List.mem_of_getElem? (i := 15) rfl))) Via.refl eT c_T_h10.2.1 (g := (mkF m 77 #[.val (.ref t), .val (.int sv), .val (.int ev), .val (.ref aLo), .val (.ref aHi), .val (.ref aSp), .val (.int (0 : Int32)), .val (.int (1 : Int32)), .val (.double z1), .second, .val (.int (2 : Int32)), .val (.double z1), .second, .unset, .unset] [(.ref t), (.int (2 : Int32))])) rfl rfl (hb hby ds_77)
      refine own_st st41 ?_
      show own_Win p e below s _ _ _ (T41.setTop (mkF m 80 #[.val (.ref t), .val (.int sv), .val (.int ev), .val (.ref aLo), .val (.ref aHi), .val (.ref aSp), .val (.int (0 : Int32)), .val (.int (1 : Int32)), .val (.double z1), .second, .val (.int (2 : Int32)), .val (.double z1), .second, .unset, .unset] [(.int (2 : Int32)), (.int (2 : Int32))]))
      refine own_st (fun _ kz => XS.icmpYes X41.here hx rfl (pc0 := 80) (pc' := 137) rfl (hb hby ds_80) rfl (by decide) (by decide) (by decide) kz) ?_
      show own_Win p e below s _ _ _ (T41.setTop (mkF m 137 #[.val (.ref t), .val (.int sv), .val (.int ev), .val (.ref aLo), .val (.ref aHi), .val (.ref aSp), .val (.int (0 : Int32)), .val (.int (1 : Int32)), .val (.double z1), .second, .val (.int (2 : Int32)), .val (.double z1), .second, .unset, .unset] []))
      have q1 : own_w r0 r1 s0 s1 = 1 := by have := own_w2 r0 r1 s0 s1; omega
      exact tl2 _ 1 _ _ X41 e41 (by rw [q1]; rfl)
  have tlA : ∀ (T : State) (z0 : UInt64), Stand p l e ({ frames := 2, cells := 2, slots := 4, locals := 40 } : Room) s m #[(.ref t), (.int sv), (.int ev), (.ref aLo), (.ref aHi), (.ref aSp)] below meth c T L10 0 0 → T.heap = h10 → own_Sh r0 s0 z0 → own_Win p e below s (Q_rmS Z t aI aP aF aT aL aH aLo aHi aSp sv ev sN fF fT fL fH fLo fHi fSp L0 L1 r0 r1 s0 s1 O V h0 n0) ({ frames := 2, cells := 2, slots := 4, locals := 40 } : Room).cells ({ frames := 2, cells := 2, slots := 4, locals := 40 } : Room).slots (T.setTop (mkF m 74 #[.val (.ref t), .val (.int sv), .val (.int ev), .val (.ref aLo), .val (.ref aHi), .val (.ref aSp), .val (.int (0 : Int32)), .val (.int (0 : Int32)), .val (.double z0), .second, .val (.int (1 : Int32)), .val (.double z0), .second, .unset, .unset] [])) := by
    intro T z0 X eT hz0
    show own_Win p e below s _ _ _ (T.setTop (mkF m 74 #[.val (.ref t), .val (.int sv), .val (.int ev), .val (.ref aLo), .val (.ref aHi), .val (.ref aSp), .val (.int (0 : Int32)), .val (.int (0 : Int32)), .val (.double z0), .second, .val (.int (1 : Int32)), .val (.double z0), .second, .unset, .unset] []))
    refine own_st (fun _ kz => XS.iload X.here hx rfl (hb hby ds_74) rfl kz) ?_
    show own_Win p e below s _ _ _ (T.setTop (mkF m 76 #[.val (.ref t), .val (.int sv), .val (.int ev), .val (.ref aLo), .val (.ref aHi), .val (.ref aSp), .val (.int (0 : Int32)), .val (.int (0 : Int32)), .val (.double z0), .second, .val (.int (1 : Int32)), .val (.double z0), .second, .unset, .unset] [(.int (1 : Int32))]))
    refine own_st (fun _ kz => XS.aloadN X.here hx rfl (hb hby ds_76) rfl rfl kz) ?_
    show own_Win p e below s _ _ _ (T.setTop (mkF m 77 #[.val (.ref t), .val (.int sv), .val (.int ev), .val (.ref aLo), .val (.ref aHi), .val (.ref aSp), .val (.int (0 : Int32)), .val (.int (0 : Int32)), .val (.double z0), .second, .val (.int (1 : Int32)), .val (.double z0), .second, .unset, .unset] [(.ref t), (.int (1 : Int32))]))
    obtain ⟨T41, X41, e41, st41⟩ := getF X hx hZ hown (host := "") (Or.inl (hw _ (List.mem_of_getElem? (i := 15) rfl))) Via.refl eT c_T_h10.2.1 (g := (mkF m 77 #[.val (.ref t), .val (.int sv), .val (.int ev), .val (.ref aLo), .val (.ref aHi), .val (.ref aSp), .val (.int (0 : Int32)), .val (.int (0 : Int32)), .val (.double z0), .second, .val (.int (1 : Int32)), .val (.double z0), .second, .unset, .unset] [(.ref t), (.int (1 : Int32))])) rfl rfl (hb hby ds_77)
    refine own_st st41 ?_
    show own_Win p e below s _ _ _ (T41.setTop (mkF m 80 #[.val (.ref t), .val (.int sv), .val (.int ev), .val (.ref aLo), .val (.ref aHi), .val (.ref aSp), .val (.int (0 : Int32)), .val (.int (0 : Int32)), .val (.double z0), .second, .val (.int (1 : Int32)), .val (.double z0), .second, .unset, .unset] [(.int (2 : Int32)), (.int (1 : Int32))]))
    refine own_st (fun _ kz => XS.icmpNo X41.here hx rfl (hb hby ds_80) rfl (by decide) kz) ?_
    show own_Win p e below s _ _ _ (T41.setTop (mkF m 83 #[.val (.ref t), .val (.int sv), .val (.int ev), .val (.ref aLo), .val (.ref aHi), .val (.ref aSp), .val (.int (0 : Int32)), .val (.int (0 : Int32)), .val (.double z0), .second, .val (.int (1 : Int32)), .val (.double z0), .second, .unset, .unset] []))
    refine own_st (fun _ kz => XS.aload X41.here hx rfl (hb hby ds_83) rfl rfl kz) ?_
    show own_Win p e below s _ _ _ (T41.setTop (mkF m 85 #[.val (.ref t), .val (.int sv), .val (.int ev), .val (.ref aLo), .val (.ref aHi), .val (.ref aSp), .val (.int (0 : Int32)), .val (.int (0 : Int32)), .val (.double z0), .second, .val (.int (1 : Int32)), .val (.double z0), .second, .unset, .unset] [(.ref aSp)]))
    refine own_st (fun _ kz => XS.iload X41.here hx rfl (hb hby ds_85) rfl kz) ?_
    show own_Win p e below s _ _ _ (T41.setTop (mkF m 87 #[.val (.ref t), .val (.int sv), .val (.int ev), .val (.ref aLo), .val (.ref aHi), .val (.ref aSp), .val (.int (0 : Int32)), .val (.int (0 : Int32)), .val (.double z0), .second, .val (.int (1 : Int32)), .val (.double z0), .second, .unset, .unset] [(.int (1 : Int32)), (.ref aSp)]))
    refine own_daload X41 hx hZ e41 c_sp_h10 (i := 1) rfl (by decide) (x := (fSp 1)) rfl rfl rfl (hb hby ds_87) ?_
    show own_Win p e below s _ _ _ (T41.setTop (mkF m 88 #[.val (.ref t), .val (.int sv), .val (.int ev), .val (.ref aLo), .val (.ref aHi), .val (.ref aSp), .val (.int (0 : Int32)), .val (.int (0 : Int32)), .val (.double z0), .second, .val (.int (1 : Int32)), .val (.double z0), .second, .unset, .unset] [(.double (fSp 1))]))
    refine own_st (fun _ kz => XS.dconst0 X41.here hx rfl (hb hby ds_88) rfl kz) ?_
    show own_Win p e below s _ _ _ (T41.setTop (mkF m 89 #[.val (.ref t), .val (.int sv), .val (.int ev), .val (.ref aLo), .val (.ref aHi), .val (.ref aSp), .val (.int (0 : Int32)), .val (.int (0 : Int32)), .val (.double z0), .second, .val (.int (1 : Int32)), .val (.double z0), .second, .unset, .unset] [(.double (FP.dconst0)), (.double (fSp 1))]))
    refine own_st (fun _ kz => XS.dcmpS X41.here hx rfl (hb hby ds_89) rfl rfl kz) ?_
    show own_Win p e below s _ _ _ (T41.setTop (mkF m 90 #[.val (.ref t), .val (.int sv), .val (.int ev), .val (.ref aLo), .val (.ref aHi), .val (.ref aSp), .val (.int (0 : Int32)), .val (.int (0 : Int32)), .val (.double z0), .second, .val (.int (1 : Int32)), .val (.double z0), .second, .unset, .unset] [(.int (cmpValue (FP.dcmp (fSp 1) (FP.dconst0)) .l))]))
    by_cases q1 : s1 ≤ 0
    ·
      refine own_st (fun _ kz => XS.ifYes X41.here hx rfl (pc0 := 90) (pc' := 112) rfl (hb hby ds_90) rfl (by rw [own_hc dS1 own_D0]; exact decide_eq_true q1) (by decide) (by decide) kz) ?_
      show own_Win p e below s _ _ _ (T41.setTop (mkF m 112 #[.val (.ref t), .val (.int sv), .val (.int ev), .val (.ref aLo), .val (.ref aHi), .val (.ref aSp), .val (.int (0 : Int32)), .val (.int (0 : Int32)), .val (.double z0), .second, .val (.int (1 : Int32)), .val (.double z0), .second, .unset, .unset] []))
      refine own_st (fun _ kz => XS.dconst0 X41.here hx rfl (hb hby ds_112) rfl kz) ?_
      show own_Win p e below s _ _ _ (T41.setTop (mkF m 113 #[.val (.ref t), .val (.int sv), .val (.int ev), .val (.ref aLo), .val (.ref aHi), .val (.ref aSp), .val (.int (0 : Int32)), .val (.int (0 : Int32)), .val (.double z0), .second, .val (.int (1 : Int32)), .val (.double z0), .second, .unset, .unset] [(.double (FP.dconst0))]))
      exact tl1 _ z0 FP.dconst0 X41 e41 hz0 (Or.inl ⟨by omega, own_D0⟩)
    ·
      refine own_st (fun _ kz => XS.ifNo X41.here hx rfl (hb hby ds_90) rfl (by rw [own_hc dS1 own_D0]; exact decide_eq_false q1) kz) ?_
      show own_Win p e below s _ _ _ (T41.setTop (mkF m 93 #[.val (.ref t), .val (.int sv), .val (.int ev), .val (.ref aLo), .val (.ref aHi), .val (.ref aSp), .val (.int (0 : Int32)), .val (.int (0 : Int32)), .val (.double z0), .second, .val (.int (1 : Int32)), .val (.double z0), .second, .unset, .unset] []))
      refine own_st (fun _ kz => XS.aload X41.here hx rfl (hb hby ds_93) rfl rfl kz) ?_
      show own_Win p e below s _ _ _ (T41.setTop (mkF m 95 #[.val (.ref t), .val (.int sv), .val (.int ev), .val (.ref aLo), .val (.ref aHi), .val (.ref aSp), .val (.int (0 : Int32)), .val (.int (0 : Int32)), .val (.double z0), .second, .val (.int (1 : Int32)), .val (.double z0), .second, .unset, .unset] [(.ref aHi)]))
      refine own_st (fun _ kz => XS.iload X41.here hx rfl (hb hby ds_95) rfl kz) ?_
      show own_Win p e below s _ _ _ (T41.setTop (mkF m 97 #[.val (.ref t), .val (.int sv), .val (.int ev), .val (.ref aLo), .val (.ref aHi), .val (.ref aSp), .val (.int (0 : Int32)), .val (.int (0 : Int32)), .val (.double z0), .second, .val (.int (1 : Int32)), .val (.double z0), .second, .unset, .unset] [(.int (1 : Int32)), (.ref aHi)]))
      refine own_daload X41 hx hZ e41 c_hi_h10 (i := 1) rfl (by decide) (x := (fHi 1)) rfl rfl rfl (hb hby ds_97) ?_
      show own_Win p e below s _ _ _ (T41.setTop (mkF m 98 #[.val (.ref t), .val (.int sv), .val (.int ev), .val (.ref aLo), .val (.ref aHi), .val (.ref aSp), .val (.int (0 : Int32)), .val (.int (0 : Int32)), .val (.double z0), .second, .val (.int (1 : Int32)), .val (.double z0), .second, .unset, .unset] [(.double (fHi 1))]))
      refine own_st (fun _ kz => XS.aloadN X41.here hx rfl (hb hby ds_98) rfl rfl kz) ?_
      show own_Win p e below s _ _ _ (T41.setTop (mkF m 99 #[.val (.ref t), .val (.int sv), .val (.int ev), .val (.ref aLo), .val (.ref aHi), .val (.ref aSp), .val (.int (0 : Int32)), .val (.int (0 : Int32)), .val (.double z0), .second, .val (.int (1 : Int32)), .val (.double z0), .second, .unset, .unset] [(.ref aLo), (.double (fHi 1))]))
      refine own_st (fun _ kz => XS.iload X41.here hx rfl (hb hby ds_99) rfl kz) ?_
      show own_Win p e below s _ _ _ (T41.setTop (mkF m 101 #[.val (.ref t), .val (.int sv), .val (.int ev), .val (.ref aLo), .val (.ref aHi), .val (.ref aSp), .val (.int (0 : Int32)), .val (.int (0 : Int32)), .val (.double z0), .second, .val (.int (1 : Int32)), .val (.double z0), .second, .unset, .unset] [(.int (1 : Int32)), (.ref aLo), (.double (fHi 1))]))
      refine own_daload X41 hx hZ e41 c_lo_h10 (i := 1) rfl (by decide) (x := (fLo 1)) rfl rfl rfl (hb hby ds_101) ?_
      show own_Win p e below s _ _ _ (T41.setTop (mkF m 102 #[.val (.ref t), .val (.int sv), .val (.int ev), .val (.ref aLo), .val (.ref aHi), .val (.ref aSp), .val (.int (0 : Int32)), .val (.int (0 : Int32)), .val (.double z0), .second, .val (.int (1 : Int32)), .val (.double z0), .second, .unset, .unset] [(.double (fLo 1)), (.double (fHi 1))]))
      have dr : FP.Core.DInt r1 (FP.dsub (fHi 1) (fLo 1)) := by
        have := own_sp dH1 dL1 (by omega)
        rwa [show L1 + r1 - L1 = r1 by omega] at this
      refine own_st (fun _ kz => XS.dsubS X41.here hx rfl (hb hby ds_102) rfl (own_nnI dr) rfl kz) ?_
      show own_Win p e below s _ _ _ (T41.setTop (mkF m 103 #[.val (.ref t), .val (.int sv), .val (.int ev), .val (.ref aLo), .val (.ref aHi), .val (.ref aSp), .val (.int (0 : Int32)), .val (.int (0 : Int32)), .val (.double z0), .second, .val (.int (1 : Int32)), .val (.double z0), .second, .unset, .unset] [(.double (FP.dsub (fHi 1) (fLo 1)))]))
      refine own_st (fun _ kz => XS.aload X41.here hx rfl (hb hby ds_103) rfl rfl kz) ?_
      show own_Win p e below s _ _ _ (T41.setTop (mkF m 105 #[.val (.ref t), .val (.int sv), .val (.int ev), .val (.ref aLo), .val (.ref aHi), .val (.ref aSp), .val (.int (0 : Int32)), .val (.int (0 : Int32)), .val (.double z0), .second, .val (.int (1 : Int32)), .val (.double z0), .second, .unset, .unset] [(.ref aSp), (.double (FP.dsub (fHi 1) (fLo 1)))]))
      refine own_st (fun _ kz => XS.iload X41.here hx rfl (hb hby ds_105) rfl kz) ?_
      show own_Win p e below s _ _ _ (T41.setTop (mkF m 107 #[.val (.ref t), .val (.int sv), .val (.int ev), .val (.ref aLo), .val (.ref aHi), .val (.ref aSp), .val (.int (0 : Int32)), .val (.int (0 : Int32)), .val (.double z0), .second, .val (.int (1 : Int32)), .val (.double z0), .second, .unset, .unset] [(.int (1 : Int32)), (.ref aSp), (.double (FP.dsub (fHi 1) (fLo 1)))]))
      refine own_daload X41 hx hZ e41 c_sp_h10 (i := 1) rfl (by decide) (x := (fSp 1)) rfl rfl rfl (hb hby ds_107) ?_
      show own_Win p e below s _ _ _ (T41.setTop (mkF m 108 #[.val (.ref t), .val (.int sv), .val (.int ev), .val (.ref aLo), .val (.ref aHi), .val (.ref aSp), .val (.int (0 : Int32)), .val (.int (0 : Int32)), .val (.double z0), .second, .val (.int (1 : Int32)), .val (.double z0), .second, .unset, .unset] [(.double (fSp 1)), (.double (FP.dsub (fHi 1) (fLo 1)))]))
      refine own_st (fun _ kz => XS.ddivS X41.here hx rfl (hb hby ds_108) rfl (own_zq ra1 (by omega) dr dS1).1 rfl kz) ?_
      show own_Win p e below s _ _ _ (T41.setTop (mkF m 109 #[.val (.ref t), .val (.int sv), .val (.int ev), .val (.ref aLo), .val (.ref aHi), .val (.ref aSp), .val (.int (0 : Int32)), .val (.int (0 : Int32)), .val (.double z0), .second, .val (.int (1 : Int32)), .val (.double z0), .second, .unset, .unset] [(.double (FP.ddiv (FP.dsub (fHi 1) (fLo 1)) (fSp 1)))]))
      refine own_st (fun _ kz => XS.goto X41.here hx rfl (pc0 := 109) (pc' := 113) rfl (hb hby ds_109) (by decide) (by decide) kz) ?_
      show own_Win p e below s _ _ _ (T41.setTop (mkF m 113 #[.val (.ref t), .val (.int sv), .val (.int ev), .val (.ref aLo), .val (.ref aHi), .val (.ref aSp), .val (.int (0 : Int32)), .val (.int (0 : Int32)), .val (.double z0), .second, .val (.int (1 : Int32)), .val (.double z0), .second, .unset, .unset] [(.double (FP.ddiv (FP.dsub (fHi 1) (fLo 1)) (fSp 1)))]))
      exact tl1 _ z0 (FP.ddiv (FP.dsub (fHi 1) (fLo 1)) (fSp 1)) X41 e41 hz0 (Or.inr ⟨by omega, _, _, dr, dS1, rfl⟩)
  have tl0 : ∀ (T : State) (z0 : UInt64), Stand p l e ({ frames := 2, cells := 2, slots := 4, locals := 40 } : Room) s m #[(.ref t), (.int sv), (.int ev), (.ref aLo), (.ref aHi), (.ref aSp)] below meth c T L10 0 0 → T.heap = h10 → own_Sh r0 s0 z0 → own_Win p e below s (Q_rmS Z t aI aP aF aT aL aH aLo aHi aSp sv ev sN fF fT fL fH fLo fHi fSp L0 L1 r0 r1 s0 s1 O V h0 n0) ({ frames := 2, cells := 2, slots := 4, locals := 40 } : Room).cells ({ frames := 2, cells := 2, slots := 4, locals := 40 } : Room).slots (T.setTop (mkF m 113 #[.val (.ref t), .val (.int sv), .val (.int ev), .val (.ref aLo), .val (.ref aHi), .val (.ref aSp), .val (.int (0 : Int32)), .val (.int (0 : Int32)), .val (.double (13830554455654793216 : UInt64)), .second, .val (.int (0 : Int32)), .unset, .unset, .unset, .unset] [(.double z0)])) := by
    intro T z0 X eT hz0
    show own_Win p e below s _ _ _ (T.setTop (mkF m 113 #[.val (.ref t), .val (.int sv), .val (.int ev), .val (.ref aLo), .val (.ref aHi), .val (.ref aSp), .val (.int (0 : Int32)), .val (.int (0 : Int32)), .val (.double (13830554455654793216 : UInt64)), .second, .val (.int (0 : Int32)), .unset, .unset, .unset, .unset] [(.double z0)]))
    refine own_st (fun _ kz => XS.dstore X.here hx rfl (hb hby ds_113) rfl (l' := #[.val (.ref t), .val (.int sv), .val (.int ev), .val (.ref aLo), .val (.ref aHi), .val (.ref aSp), .val (.int (0 : Int32)), .val (.int (0 : Int32)), .val (.double (13830554455654793216 : UInt64)), .second, .val (.int (0 : Int32)), .val (.double z0), .second, .unset, .unset]) rfl kz) ?_
    show own_Win p e below s _ _ _ (T.setTop (mkF m 115 #[.val (.ref t), .val (.int sv), .val (.int ev), .val (.ref aLo), .val (.ref aHi), .val (.ref aSp), .val (.int (0 : Int32)), .val (.int (0 : Int32)), .val (.double (13830554455654793216 : UInt64)), .second, .val (.int (0 : Int32)), .val (.double z0), .second, .unset, .unset] []))
    refine own_st (fun _ kz => XS.dload X.here hx rfl (hb hby ds_115) rfl kz) ?_
    show own_Win p e below s _ _ _ (T.setTop (mkF m 117 #[.val (.ref t), .val (.int sv), .val (.int ev), .val (.ref aLo), .val (.ref aHi), .val (.ref aSp), .val (.int (0 : Int32)), .val (.int (0 : Int32)), .val (.double (13830554455654793216 : UInt64)), .second, .val (.int (0 : Int32)), .val (.double z0), .second, .unset, .unset] [(.double z0)]))
    refine own_st (fun _ kz => XS.dload X.here hx rfl (hb hby ds_117) rfl kz) ?_
    show own_Win p e below s _ _ _ (T.setTop (mkF m 119 #[.val (.ref t), .val (.int sv), .val (.int ev), .val (.ref aLo), .val (.ref aHi), .val (.ref aSp), .val (.int (0 : Int32)), .val (.int (0 : Int32)), .val (.double (13830554455654793216 : UInt64)), .second, .val (.int (0 : Int32)), .val (.double z0), .second, .unset, .unset] [(.double (13830554455654793216 : UInt64)), (.double z0)]))
    refine own_st (fun _ kz => XS.dcmpS X.here hx rfl (hb hby ds_119) rfl rfl kz) ?_
    show own_Win p e below s _ _ _ (T.setTop (mkF m 120 #[.val (.ref t), .val (.int sv), .val (.int ev), .val (.ref aLo), .val (.ref aHi), .val (.ref aSp), .val (.int (0 : Int32)), .val (.int (0 : Int32)), .val (.double (13830554455654793216 : UInt64)), .second, .val (.int (0 : Int32)), .val (.double z0), .second, .unset, .unset] [(.int (cmpValue (FP.dcmp z0 (13830554455654793216 : UInt64)) .l))]))
    refine own_st (fun _ kz => XS.ifNo X.here hx rfl (hb hby ds_120) rfl (own_first ra0 hz0) kz) ?_
    show own_Win p e below s _ _ _ (T.setTop (mkF m 123 #[.val (.ref t), .val (.int sv), .val (.int ev), .val (.ref aLo), .val (.ref aHi), .val (.ref aSp), .val (.int (0 : Int32)), .val (.int (0 : Int32)), .val (.double (13830554455654793216 : UInt64)), .second, .val (.int (0 : Int32)), .val (.double z0), .second, .unset, .unset] []))
    refine own_st (fun _ kz => XS.iload X.here hx rfl (hb hby ds_123) rfl kz) ?_
    show own_Win p e below s _ _ _ (T.setTop (mkF m 125 #[.val (.ref t), .val (.int sv), .val (.int ev), .val (.ref aLo), .val (.ref aHi), .val (.ref aSp), .val (.int (0 : Int32)), .val (.int (0 : Int32)), .val (.double (13830554455654793216 : UInt64)), .second, .val (.int (0 : Int32)), .val (.double z0), .second, .unset, .unset] [(.int (0 : Int32))]))
    refine own_st (fun _ kz => XS.istore X.here hx rfl (hb hby ds_125) rfl (l' := #[.val (.ref t), .val (.int sv), .val (.int ev), .val (.ref aLo), .val (.ref aHi), .val (.ref aSp), .val (.int (0 : Int32)), .val (.int (0 : Int32)), .val (.double (13830554455654793216 : UInt64)), .second, .val (.int (0 : Int32)), .val (.double z0), .second, .unset, .unset]) rfl kz) ?_
    show own_Win p e below s _ _ _ (T.setTop (mkF m 127 #[.val (.ref t), .val (.int sv), .val (.int ev), .val (.ref aLo), .val (.ref aHi), .val (.ref aSp), .val (.int (0 : Int32)), .val (.int (0 : Int32)), .val (.double (13830554455654793216 : UInt64)), .second, .val (.int (0 : Int32)), .val (.double z0), .second, .unset, .unset] []))
    refine own_st (fun _ kz => XS.dload X.here hx rfl (hb hby ds_127) rfl kz) ?_
    show own_Win p e below s _ _ _ (T.setTop (mkF m 129 #[.val (.ref t), .val (.int sv), .val (.int ev), .val (.ref aLo), .val (.ref aHi), .val (.ref aSp), .val (.int (0 : Int32)), .val (.int (0 : Int32)), .val (.double (13830554455654793216 : UInt64)), .second, .val (.int (0 : Int32)), .val (.double z0), .second, .unset, .unset] [(.double z0)]))
    refine own_st (fun _ kz => XS.dstore X.here hx rfl (hb hby ds_129) rfl (l' := #[.val (.ref t), .val (.int sv), .val (.int ev), .val (.ref aLo), .val (.ref aHi), .val (.ref aSp), .val (.int (0 : Int32)), .val (.int (0 : Int32)), .val (.double z0), .second, .val (.int (0 : Int32)), .val (.double z0), .second, .unset, .unset]) rfl kz) ?_
    show own_Win p e below s _ _ _ (T.setTop (mkF m 131 #[.val (.ref t), .val (.int sv), .val (.int ev), .val (.ref aLo), .val (.ref aHi), .val (.ref aSp), .val (.int (0 : Int32)), .val (.int (0 : Int32)), .val (.double z0), .second, .val (.int (0 : Int32)), .val (.double z0), .second, .unset, .unset] []))
    refine own_st (fun _ kz => XS.iinc X.here hx rfl (hb hby ds_131) rfl (l' := #[.val (.ref t), .val (.int sv), .val (.int ev), .val (.ref aLo), .val (.ref aHi), .val (.ref aSp), .val (.int (0 : Int32)), .val (.int (0 : Int32)), .val (.double z0), .second, .val (.int ((0 : Int32) + (1 : Int32))), .val (.double z0), .second, .unset, .unset]) rfl kz) ?_
    show own_Win p e below s _ _ _ (T.setTop (mkF m 134 #[.val (.ref t), .val (.int sv), .val (.int ev), .val (.ref aLo), .val (.ref aHi), .val (.ref aSp), .val (.int (0 : Int32)), .val (.int (0 : Int32)), .val (.double z0), .second, .val (.int ((0 : Int32) + (1 : Int32))), .val (.double z0), .second, .unset, .unset] []))
    refine own_st (fun _ kz => XS.goto X.here hx rfl (pc0 := 134) (pc' := 74) rfl (hb hby ds_134) (by decide) (by decide) kz) ?_
    show own_Win p e below s _ _ _ (T.setTop (mkF m 74 #[.val (.ref t), .val (.int sv), .val (.int ev), .val (.ref aLo), .val (.ref aHi), .val (.ref aSp), .val (.int (0 : Int32)), .val (.int (0 : Int32)), .val (.double z0), .second, .val (.int ((0 : Int32) + (1 : Int32))), .val (.double z0), .second, .unset, .unset] []))
    show own_Win p e below s _ _ _ (T.setTop (mkF m 74 #[.val (.ref t), .val (.int sv), .val (.int ev), .val (.ref aLo), .val (.ref aHi), .val (.ref aSp), .val (.int (0 : Int32)), .val (.int (0 : Int32)), .val (.double z0), .second, .val (.int (1 : Int32)), .val (.double z0), .second, .unset, .unset] []))
    exact tlA _ z0 X eT hz0
  refine own_st (fun _ kz => XS.iload X11.here hx rfl (hb hby ds_74) rfl kz) ?_
  show own_Win p e below s _ _ _ (T11.setTop (mkF m 76 #[.val (.ref t), .val (.int sv), .val (.int ev), .val (.ref aLo), .val (.ref aHi), .val (.ref aSp), .val (.int (0 : Int32)), .val (.int (0 : Int32)), .val (.double (13830554455654793216 : UInt64)), .second, .val (.int (0 : Int32)), .unset, .unset, .unset, .unset] [(.int (0 : Int32))]))
  refine own_st (fun _ kz => XS.aloadN X11.here hx rfl (hb hby ds_76) rfl rfl kz) ?_
  show own_Win p e below s _ _ _ (T11.setTop (mkF m 77 #[.val (.ref t), .val (.int sv), .val (.int ev), .val (.ref aLo), .val (.ref aHi), .val (.ref aSp), .val (.int (0 : Int32)), .val (.int (0 : Int32)), .val (.double (13830554455654793216 : UInt64)), .second, .val (.int (0 : Int32)), .unset, .unset, .unset, .unset] [(.ref t), (.int (0 : Int32))]))
  obtain ⟨T12, X12, e12, st12⟩ := getF X11 hx hZ hown (host := "") (Or.inl (hw _ (List.mem_of_getElem? (i := 15) rfl))) Via.refl e11 c_T_h10.2.1 (g := (mkF m 77 #[.val (.ref t), .val (.int sv), .val (.int ev), .val (.ref aLo), .val (.ref aHi), .val (.ref aSp), .val (.int (0 : Int32)), .val (.int (0 : Int32)), .val (.double (13830554455654793216 : UInt64)), .second, .val (.int (0 : Int32)), .unset, .unset, .unset, .unset] [(.ref t), (.int (0 : Int32))])) rfl rfl (hb hby ds_77)
  refine own_st st12 ?_
  show own_Win p e below s _ _ _ (T12.setTop (mkF m 80 #[.val (.ref t), .val (.int sv), .val (.int ev), .val (.ref aLo), .val (.ref aHi), .val (.ref aSp), .val (.int (0 : Int32)), .val (.int (0 : Int32)), .val (.double (13830554455654793216 : UInt64)), .second, .val (.int (0 : Int32)), .unset, .unset, .unset, .unset] [(.int (2 : Int32)), (.int (0 : Int32))]))
  refine own_st (fun _ kz => XS.icmpNo X12.here hx rfl (hb hby ds_80) rfl (by decide) kz) ?_
  show own_Win p e below s _ _ _ (T12.setTop (mkF m 83 #[.val (.ref t), .val (.int sv), .val (.int ev), .val (.ref aLo), .val (.ref aHi), .val (.ref aSp), .val (.int (0 : Int32)), .val (.int (0 : Int32)), .val (.double (13830554455654793216 : UInt64)), .second, .val (.int (0 : Int32)), .unset, .unset, .unset, .unset] []))
  refine own_st (fun _ kz => XS.aload X12.here hx rfl (hb hby ds_83) rfl rfl kz) ?_
  show own_Win p e below s _ _ _ (T12.setTop (mkF m 85 #[.val (.ref t), .val (.int sv), .val (.int ev), .val (.ref aLo), .val (.ref aHi), .val (.ref aSp), .val (.int (0 : Int32)), .val (.int (0 : Int32)), .val (.double (13830554455654793216 : UInt64)), .second, .val (.int (0 : Int32)), .unset, .unset, .unset, .unset] [(.ref aSp)]))
  refine own_st (fun _ kz => XS.iload X12.here hx rfl (hb hby ds_85) rfl kz) ?_
  show own_Win p e below s _ _ _ (T12.setTop (mkF m 87 #[.val (.ref t), .val (.int sv), .val (.int ev), .val (.ref aLo), .val (.ref aHi), .val (.ref aSp), .val (.int (0 : Int32)), .val (.int (0 : Int32)), .val (.double (13830554455654793216 : UInt64)), .second, .val (.int (0 : Int32)), .unset, .unset, .unset, .unset] [(.int (0 : Int32)), (.ref aSp)]))
  refine own_daload X12 hx hZ e12 c_sp_h10 (i := 0) rfl (by decide) (x := (fSp 0)) rfl rfl rfl (hb hby ds_87) ?_
  show own_Win p e below s _ _ _ (T12.setTop (mkF m 88 #[.val (.ref t), .val (.int sv), .val (.int ev), .val (.ref aLo), .val (.ref aHi), .val (.ref aSp), .val (.int (0 : Int32)), .val (.int (0 : Int32)), .val (.double (13830554455654793216 : UInt64)), .second, .val (.int (0 : Int32)), .unset, .unset, .unset, .unset] [(.double (fSp 0))]))
  refine own_st (fun _ kz => XS.dconst0 X12.here hx rfl (hb hby ds_88) rfl kz) ?_
  show own_Win p e below s _ _ _ (T12.setTop (mkF m 89 #[.val (.ref t), .val (.int sv), .val (.int ev), .val (.ref aLo), .val (.ref aHi), .val (.ref aSp), .val (.int (0 : Int32)), .val (.int (0 : Int32)), .val (.double (13830554455654793216 : UInt64)), .second, .val (.int (0 : Int32)), .unset, .unset, .unset, .unset] [(.double (FP.dconst0)), (.double (fSp 0))]))
  refine own_st (fun _ kz => XS.dcmpS X12.here hx rfl (hb hby ds_89) rfl rfl kz) ?_
  show own_Win p e below s _ _ _ (T12.setTop (mkF m 90 #[.val (.ref t), .val (.int sv), .val (.int ev), .val (.ref aLo), .val (.ref aHi), .val (.ref aSp), .val (.int (0 : Int32)), .val (.int (0 : Int32)), .val (.double (13830554455654793216 : UInt64)), .second, .val (.int (0 : Int32)), .unset, .unset, .unset, .unset] [(.int (cmpValue (FP.dcmp (fSp 0) (FP.dconst0)) .l))]))
  by_cases q0 : s0 ≤ 0
  ·
    refine own_st (fun _ kz => XS.ifYes X12.here hx rfl (pc0 := 90) (pc' := 112) rfl (hb hby ds_90) rfl (by rw [own_hc dS0 own_D0]; exact decide_eq_true q0) (by decide) (by decide) kz) ?_
    show own_Win p e below s _ _ _ (T12.setTop (mkF m 112 #[.val (.ref t), .val (.int sv), .val (.int ev), .val (.ref aLo), .val (.ref aHi), .val (.ref aSp), .val (.int (0 : Int32)), .val (.int (0 : Int32)), .val (.double (13830554455654793216 : UInt64)), .second, .val (.int (0 : Int32)), .unset, .unset, .unset, .unset] []))
    refine own_st (fun _ kz => XS.dconst0 X12.here hx rfl (hb hby ds_112) rfl kz) ?_
    show own_Win p e below s _ _ _ (T12.setTop (mkF m 113 #[.val (.ref t), .val (.int sv), .val (.int ev), .val (.ref aLo), .val (.ref aHi), .val (.ref aSp), .val (.int (0 : Int32)), .val (.int (0 : Int32)), .val (.double (13830554455654793216 : UInt64)), .second, .val (.int (0 : Int32)), .unset, .unset, .unset, .unset] [(.double (FP.dconst0))]))
    exact tl0 _  FP.dconst0 X12 e12  (Or.inl ⟨by omega, own_D0⟩)
  ·
    refine own_st (fun _ kz => XS.ifNo X12.here hx rfl (hb hby ds_90) rfl (by rw [own_hc dS0 own_D0]; exact decide_eq_false q0) kz) ?_
    show own_Win p e below s _ _ _ (T12.setTop (mkF m 93 #[.val (.ref t), .val (.int sv), .val (.int ev), .val (.ref aLo), .val (.ref aHi), .val (.ref aSp), .val (.int (0 : Int32)), .val (.int (0 : Int32)), .val (.double (13830554455654793216 : UInt64)), .second, .val (.int (0 : Int32)), .unset, .unset, .unset, .unset] []))
    refine own_st (fun _ kz => XS.aload X12.here hx rfl (hb hby ds_93) rfl rfl kz) ?_
    show own_Win p e below s _ _ _ (T12.setTop (mkF m 95 #[.val (.ref t), .val (.int sv), .val (.int ev), .val (.ref aLo), .val (.ref aHi), .val (.ref aSp), .val (.int (0 : Int32)), .val (.int (0 : Int32)), .val (.double (13830554455654793216 : UInt64)), .second, .val (.int (0 : Int32)), .unset, .unset, .unset, .unset] [(.ref aHi)]))
    refine own_st (fun _ kz => XS.iload X12.here hx rfl (hb hby ds_95) rfl kz) ?_
    show own_Win p e below s _ _ _ (T12.setTop (mkF m 97 #[.val (.ref t), .val (.int sv), .val (.int ev), .val (.ref aLo), .val (.ref aHi), .val (.ref aSp), .val (.int (0 : Int32)), .val (.int (0 : Int32)), .val (.double (13830554455654793216 : UInt64)), .second, .val (.int (0 : Int32)), .unset, .unset, .unset, .unset] [(.int (0 : Int32)), (.ref aHi)]))
    refine own_daload X12 hx hZ e12 c_hi_h10 (i := 0) rfl (by decide) (x := (fHi 0)) rfl rfl rfl (hb hby ds_97) ?_
    show own_Win p e below s _ _ _ (T12.setTop (mkF m 98 #[.val (.ref t), .val (.int sv), .val (.int ev), .val (.ref aLo), .val (.ref aHi), .val (.ref aSp), .val (.int (0 : Int32)), .val (.int (0 : Int32)), .val (.double (13830554455654793216 : UInt64)), .second, .val (.int (0 : Int32)), .unset, .unset, .unset, .unset] [(.double (fHi 0))]))
    refine own_st (fun _ kz => XS.aloadN X12.here hx rfl (hb hby ds_98) rfl rfl kz) ?_
    show own_Win p e below s _ _ _ (T12.setTop (mkF m 99 #[.val (.ref t), .val (.int sv), .val (.int ev), .val (.ref aLo), .val (.ref aHi), .val (.ref aSp), .val (.int (0 : Int32)), .val (.int (0 : Int32)), .val (.double (13830554455654793216 : UInt64)), .second, .val (.int (0 : Int32)), .unset, .unset, .unset, .unset] [(.ref aLo), (.double (fHi 0))]))
    refine own_st (fun _ kz => XS.iload X12.here hx rfl (hb hby ds_99) rfl kz) ?_
    show own_Win p e below s _ _ _ (T12.setTop (mkF m 101 #[.val (.ref t), .val (.int sv), .val (.int ev), .val (.ref aLo), .val (.ref aHi), .val (.ref aSp), .val (.int (0 : Int32)), .val (.int (0 : Int32)), .val (.double (13830554455654793216 : UInt64)), .second, .val (.int (0 : Int32)), .unset, .unset, .unset, .unset] [(.int (0 : Int32)), (.ref aLo), (.double (fHi 0))]))
    refine own_daload X12 hx hZ e12 c_lo_h10 (i := 0) rfl (by decide) (x := (fLo 0)) rfl rfl rfl (hb hby ds_101) ?_
    show own_Win p e below s _ _ _ (T12.setTop (mkF m 102 #[.val (.ref t), .val (.int sv), .val (.int ev), .val (.ref aLo), .val (.ref aHi), .val (.ref aSp), .val (.int (0 : Int32)), .val (.int (0 : Int32)), .val (.double (13830554455654793216 : UInt64)), .second, .val (.int (0 : Int32)), .unset, .unset, .unset, .unset] [(.double (fLo 0)), (.double (fHi 0))]))
    have dr : FP.Core.DInt r0 (FP.dsub (fHi 0) (fLo 0)) := by
      have := own_sp dH0 dL0 (by omega)
      rwa [show L0 + r0 - L0 = r0 by omega] at this
    refine own_st (fun _ kz => XS.dsubS X12.here hx rfl (hb hby ds_102) rfl (own_nnI dr) rfl kz) ?_
    show own_Win p e below s _ _ _ (T12.setTop (mkF m 103 #[.val (.ref t), .val (.int sv), .val (.int ev), .val (.ref aLo), .val (.ref aHi), .val (.ref aSp), .val (.int (0 : Int32)), .val (.int (0 : Int32)), .val (.double (13830554455654793216 : UInt64)), .second, .val (.int (0 : Int32)), .unset, .unset, .unset, .unset] [(.double (FP.dsub (fHi 0) (fLo 0)))]))
    refine own_st (fun _ kz => XS.aload X12.here hx rfl (hb hby ds_103) rfl rfl kz) ?_
    show own_Win p e below s _ _ _ (T12.setTop (mkF m 105 #[.val (.ref t), .val (.int sv), .val (.int ev), .val (.ref aLo), .val (.ref aHi), .val (.ref aSp), .val (.int (0 : Int32)), .val (.int (0 : Int32)), .val (.double (13830554455654793216 : UInt64)), .second, .val (.int (0 : Int32)), .unset, .unset, .unset, .unset] [(.ref aSp), (.double (FP.dsub (fHi 0) (fLo 0)))]))
    refine own_st (fun _ kz => XS.iload X12.here hx rfl (hb hby ds_105) rfl kz) ?_
    show own_Win p e below s _ _ _ (T12.setTop (mkF m 107 #[.val (.ref t), .val (.int sv), .val (.int ev), .val (.ref aLo), .val (.ref aHi), .val (.ref aSp), .val (.int (0 : Int32)), .val (.int (0 : Int32)), .val (.double (13830554455654793216 : UInt64)), .second, .val (.int (0 : Int32)), .unset, .unset, .unset, .unset] [(.int (0 : Int32)), (.ref aSp), (.double (FP.dsub (fHi 0) (fLo 0)))]))
    refine own_daload X12 hx hZ e12 c_sp_h10 (i := 0) rfl (by decide) (x := (fSp 0)) rfl rfl rfl (hb hby ds_107) ?_
    show own_Win p e below s _ _ _ (T12.setTop (mkF m 108 #[.val (.ref t), .val (.int sv), .val (.int ev), .val (.ref aLo), .val (.ref aHi), .val (.ref aSp), .val (.int (0 : Int32)), .val (.int (0 : Int32)), .val (.double (13830554455654793216 : UInt64)), .second, .val (.int (0 : Int32)), .unset, .unset, .unset, .unset] [(.double (fSp 0)), (.double (FP.dsub (fHi 0) (fLo 0)))]))
    refine own_st (fun _ kz => XS.ddivS X12.here hx rfl (hb hby ds_108) rfl (own_zq ra0 (by omega) dr dS0).1 rfl kz) ?_
    show own_Win p e below s _ _ _ (T12.setTop (mkF m 109 #[.val (.ref t), .val (.int sv), .val (.int ev), .val (.ref aLo), .val (.ref aHi), .val (.ref aSp), .val (.int (0 : Int32)), .val (.int (0 : Int32)), .val (.double (13830554455654793216 : UInt64)), .second, .val (.int (0 : Int32)), .unset, .unset, .unset, .unset] [(.double (FP.ddiv (FP.dsub (fHi 0) (fLo 0)) (fSp 0)))]))
    refine own_st (fun _ kz => XS.goto X12.here hx rfl (pc0 := 109) (pc' := 113) rfl (hb hby ds_109) (by decide) (by decide) kz) ?_
    show own_Win p e below s _ _ _ (T12.setTop (mkF m 113 #[.val (.ref t), .val (.int sv), .val (.int ev), .val (.ref aLo), .val (.ref aHi), .val (.ref aSp), .val (.int (0 : Int32)), .val (.int (0 : Int32)), .val (.double (13830554455654793216 : UInt64)), .second, .val (.int (0 : Int32)), .unset, .unset, .unset, .unset] [(.double (FP.ddiv (FP.dsub (fHi 0) (fLo 0)) (fSp 0)))]))
    exact tl0 _  (FP.ddiv (FP.dsub (fHi 0) (fLo 0)) (fSp 0)) X12 e12  (Or.inr ⟨by omega, _, _, dr, dS0, rfl⟩)
theorem own_m15 (x : Int32) : 0 ≤ (x &&& 15).toInt ∧ (x &&& 15).toInt ≤ 15 := by
  have := c_and x 15 (by decide)
  have : (15 : Int32).toInt = 15 := rfl
  omega
theorem own_m1 (x : Int32) : 0 ≤ (x &&& 1).toInt ∧ (x &&& 1).toInt ≤ 1 := by
  have := c_and x 1 (by decide)
  have : (1 : Int32).toInt = 1 := rfl
  omega
theorem own_s30 {r x : Int32} (h1 : 0 ≤ r.toInt) (h2 : r.toInt ≤ 15) (h3 : 0 ≤ x.toInt) (h4 : x.toInt ≤ 15) : (r + x).toInt = r.toInt + x.toInt := by
  have := c_iadd r x
  have := rng32 (r + x)
  omega
theorem own_end {sv b : Int32} (h1 : 0 ≤ sv.toInt) (h2 : sv.toInt ≤ 1) (h3 : 0 ≤ b.toInt) (h4 : b.toInt ≤ 1) : (sv + (16 : Int32) + b).toInt = sv.toInt + 16 + b.toInt := by
  have := c_iadd sv 16
  have := rng32 (sv + 16)
  have := c_iadd (sv + 16) b
  have := rng32 (sv + 16 + b)
  have : (16 : Int32).toInt = 16 := rfl
  omega
theorem own_hiD (a r : Int32) : FP.Core.DInt (a.toInt + r.toInt) (FP.l2d (a.toInt64 + r.toInt64)) := by
  have h1 := rng32 a
  have h2 := rng32 r
  have e : (a.toInt64 + r.toInt64).toInt = a.toInt + r.toInt := by
    have := c_ladd a.toInt64 r.toInt64
    have := rng64 (a.toInt64 + r.toInt64)
    rw [c_i2l, c_i2l] at *
    omega
  rw [← e]
  exact own_l2d (by rw [e]; omega)
/-- what the eighteen calls have laid, as an arrangement -/
theorem own_open {Z : State} {h : Heap} {aI aP aA aB : Addr} (F : own_Filled Z h aI aP aA aB 18) : ∃ (O : Nat → Nat → UInt64) (V : Nat → Nat → Int), own_Ia Z h aI 18 (own_I (fun k => k)) ∧ own_Da Z h aP 36 (own_P O (fun k => k)) ∧ own_Da Z h aA 18 (O 0) ∧ own_Da Z h aB 18 (O 1) ∧ ∀ u d, u < 2 → d < 18 → FP.Core.DInt (V u d) (O u d) := by
  obtain ⟨fI, fP, f0, f1, F_I, F_P, F_A, F_B, hf⟩ := F
  have hO : ∀ u d, ∃ v, u < 2 → d < 18 → FP.Core.DInt v ((if u = 0 then f0 d else f1 d)) := by
    intro u d
    by_cases hd : d < 18
    · obtain ⟨-, -, -, ⟨v0, d0⟩, v1, d1⟩ := hf d hd
      by_cases hu : u = 0
      · exact ⟨v0, fun _ _ => by rw [if_pos hu]; exact d0⟩
      · exact ⟨v1, fun _ _ => by rw [if_neg hu]; exact d1⟩
    · exact ⟨0, fun _ q => absurd q hd⟩
  refine ⟨fun u d => if u = 0 then f0 d else f1 d, fun u d => Classical.choose (hO u d), own_Av.congr F_I (fun k hk => ?_), own_Av.congr F_P (fun k hk => ?_), own_Av.congr F_A (fun k hk => rfl), own_Av.congr F_B (fun k hk => rfl), fun u d => Classical.choose_spec (hO u d)⟩
  · rw [(hf k hk).1]; rfl
  · obtain ⟨-, q1, q2, -⟩ := hf (k / 2) (by omega)
    show Value.double (fP k) = Value.double (if k % 2 = 0 then f0 (k / 2) else f1 (k / 2))
    by_cases z : k % 2 = 0
    · rw [if_pos z, ← q1, show 2 * (k / 2) = k by omega]
    · rw [if_neg z, ← q2, show 2 * (k / 2) + 1 = k by omega]
set_option maxRecDepth 65536 in
set_option maxHeartbeats 40000000 in
theorem efL (m : MethodId) (p1 p2 : Int64) (p3 p4 p5 : Int32) : entryFrame m #[(.long p1), (.long p2), (.int p3), (.int p4), (.int p5)] maxLocals = mkF m 0 #[.val (.long p1), .second, .val (.long p2), .second, .val (.int p3), .val (.int p4), .val (.int p5), .unset, .unset, .unset, .unset, .unset, .unset, .unset, .unset, .unset, .unset, .unset, .unset, .unset, .unset, .unset, .unset, .unset, .unset, .unset, .unset, .unset, .unset, .unset, .unset, .unset, .unset, .unset, .unset, .unset, .unset] [] := by first | (simp [entryFrame, mkF, argsToLocals, Value.category, maxLocals]; done) | rfl
def Q_rm0 (Z : State) (p1 p2 : Int64) (p3 p4 p5 : Int32) (h0 : Heap) (n0 : Nat) : Option Value → Heap → List Loc → Prop := fun v h L => v = some (.int 1) ∧ Fr n0 L
set_option maxRecDepth 65536 in
set_option maxHeartbeats 40000000 in
theorem rm0 (l : Launch) (Z : State) (a0 : Array Value) (hw : ∀ d ∈ tables_1, d.before a0 Z = true) (ws : List Jvm.Cond) (p1 p2 : Int64) (p3 p4 p5 : Int32) (h0 : Heap) (n0 : Nat) (Z0 : n0 ≤ h0.size)  :
    MetFree l x (head1 (Jvm.Cond.code x code maxLocals ret :: ws) room_1) (fun az Uz => az = #[(.long p1), (.long p2), (.int p3), (.int p4), (.int p5)] ∧ Z.Warmed39 Uz.vm ∧ Uz.heap = h0) (fun _ _ _ _ _ => True) (fun _ Uz oz Vz => ∃ vz Lz, oz = .returned vz ∧ (Q_rm0 Z p1 p2 p3 p4 p5 h0 n0) vz Vz.heap Lz ∧ FrameEnd Uz oz Vz Lz room_1.cells room_1.slots) := by
  refine MetFree.of_bodySF (plainFor_of_name pnL) hisR ?_
  intro p e s m args below meth c s₁ Bd hml0 hP hK
  obtain ⟨rfl, hZ, hh⟩ := hP
  have hx := Bd.exec
  have hby := Bd.bytes
  have hlk := BodyLoose.notSynchronized Bd
  have hml : c.maxLocals = maxLocals := hml0
  have hown : s.vm.findClass "com/example/skyweave/skyweave/KdTreeSplitPinLaw" = some m.cls := findClass_of_methodNamed Bd.named
  have hnm := (name_of_methodNamed Bd.named Bd.method).1
  have X0 : Stand p l e room_1 s m #[(.long p1), (.long p2), (.int p3), (.int p4), (.int p5)] below meth c s₁ [] 0 0 := Stand.of_body Bd
  have e0 : s₁.heap = h0 := by rw [← hh, Bd.state]; rfl
  have N0 := Fr.nil n0
  show own_Win p e below s (Q_rm0 Z p1 p2 p3 p4 p5 h0 n0) _ _ _
  refine own_st (fun tz kz => castTop (efL m p1 p2 p3 p4 p5) kz) ?_
  show own_Win p e below s _ _ _ (s₁.setTop (mkF m 0 #[.val (.long p1), .second, .val (.long p2), .second, .val (.int p3), .val (.int p4), .val (.int p5), .unset, .unset, .unset, .unset, .unset, .unset, .unset, .unset, .unset, .unset, .unset, .unset, .unset, .unset, .unset, .unset, .unset, .unset, .unset, .unset, .unset, .unset, .unset, .unset, .unset, .unset, .unset, .unset, .unset, .unset] []))
  obtain ⟨Ls1, hLs1⟩ : ∃ L : Array Slot, L = #[.val (.long p1), .second, .val (.long p2), .second, .val (.int p3), .val (.int p4), .val (.int p5), .unset, .unset, .unset, .unset, .unset, .unset, .unset, .unset, .unset, .unset, .unset, .unset, .unset, .unset, .unset, .unset, .unset, .unset, .unset, .unset, .unset, .unset, .unset, .unset, .unset, .unset, .unset, .unset, .unset, .unset] := ⟨_, rfl⟩
  rw [← hLs1]
  show own_Win p e below s _ _ _ (s₁.setTop (mkF m 0 Ls1 []))
  refine own_st (fun _ kz => XS.iload X0.here hx rfl (v := p5) (hb hby at_0) (by show Ls1[_]? = _; rw [hLs1]; rfl) kz) ?_
  show own_Win p e below s _ _ _ (s₁.setTop (mkF m 2 Ls1 [(.int p5)]))
  refine own_st (fun _ kz => XS.bipush X0.here hx rfl (hb hby at_2) kz) ?_
  show own_Win p e below s _ _ _ (s₁.setTop (mkF m 4 Ls1 [(.int (15 : Int32)), (.int p5)]))
  refine own_st (fun _ kz => XS.iand X0.here hx rfl (hb hby at_4) rfl kz) ?_
  show own_Win p e below s _ _ _ (s₁.setTop (mkF m 5 Ls1 [(.int (p5 &&& (15 : Int32)))]))
  have hr0 := own_m15 p5
  generalize (p5 &&& (15 : Int32)) = r0 at hr0 ⊢
  show own_Win p e below s _ _ _ (s₁.setTop (mkF m 5 Ls1 [(.int r0)]))
  obtain ⟨Ls2, hLs2⟩ : ∃ L : Array Slot, L = #[.val (.long p1), .second, .val (.long p2), .second, .val (.int p3), .val (.int p4), .val (.int p5), .val (.int r0), .unset, .unset, .unset, .unset, .unset, .unset, .unset, .unset, .unset, .unset, .unset, .unset, .unset, .unset, .unset, .unset, .unset, .unset, .unset, .unset, .unset, .unset, .unset, .unset, .unset, .unset, .unset, .unset, .unset] := ⟨_, rfl⟩
  refine own_st (fun _ kz => XS.istore X0.here hx rfl (hb hby at_5) rfl (l' := Ls2) (by show storeLocals Ls1 _ _ = _; rw [hLs1, hLs2]; rfl) kz) ?_
  show own_Win p e below s _ _ _ (s₁.setTop (mkF m 7 Ls2 []))
  refine own_st (fun _ kz => XS.iload X0.here hx rfl (v := p5) (hb hby at_7) (by show Ls2[_]? = _; rw [hLs2]; rfl) kz) ?_
  show own_Win p e below s _ _ _ (s₁.setTop (mkF m 9 Ls2 [(.int p5)]))
  refine own_st (fun _ kz => XS.iconst X0.here hx rfl (hb hby at_9) kz) ?_
  show own_Win p e below s _ _ _ (s₁.setTop (mkF m 10 Ls2 [(.int (4 : Int32)), (.int p5)]))
  refine own_st (fun _ kz => XT.iushr X0.here hx rfl (hb hby at_10) rfl kz) ?_
  show own_Win p e below s _ _ _ (s₁.setTop (mkF m 11 Ls2 [(.int (XT.ushr p5 (4 : Int32)))]))
  refine own_st (fun _ kz => XS.bipush X0.here hx rfl (hb hby at_11) kz) ?_
  show own_Win p e below s _ _ _ (s₁.setTop (mkF m 13 Ls2 [(.int (15 : Int32)), (.int (XT.ushr p5 (4 : Int32)))]))
  refine own_st (fun _ kz => XS.iand X0.here hx rfl (hb hby at_13) rfl kz) ?_
  show own_Win p e below s _ _ _ (s₁.setTop (mkF m 14 Ls2 [(.int ((XT.ushr p5 (4 : Int32)) &&& (15 : Int32)))]))
  have hr1 := own_m15 (XT.ushr p5 (4 : Int32))
  generalize ((XT.ushr p5 (4 : Int32)) &&& (15 : Int32)) = r1 at hr1 ⊢
  show own_Win p e below s _ _ _ (s₁.setTop (mkF m 14 Ls2 [(.int r1)]))
  obtain ⟨Ls3, hLs3⟩ : ∃ L : Array Slot, L = #[.val (.long p1), .second, .val (.long p2), .second, .val (.int p3), .val (.int p4), .val (.int p5), .val (.int r0), .val (.int r1), .unset, .unset, .unset, .unset, .unset, .unset, .unset, .unset, .unset, .unset, .unset, .unset, .unset, .unset, .unset, .unset, .unset, .unset, .unset, .unset, .unset, .unset, .unset, .unset, .unset, .unset, .unset, .unset] := ⟨_, rfl⟩
  refine own_st (fun _ kz => XS.istore X0.here hx rfl (hb hby at_14) rfl (l' := Ls3) (by show storeLocals Ls2 _ _ = _; rw [hLs2, hLs3]; rfl) kz) ?_
  show own_Win p e below s _ _ _ (s₁.setTop (mkF m 16 Ls3 []))
  refine own_st (fun _ kz => XS.iload X0.here hx rfl (v := r0) (hb hby at_16) (by show Ls3[_]? = _; rw [hLs3]; rfl) kz) ?_
  show own_Win p e below s _ _ _ (s₁.setTop (mkF m 18 Ls3 [(.int r0)]))
  refine own_st (fun _ kz => XS.iload X0.here hx rfl (v := p5) (hb hby at_18) (by show Ls3[_]? = _; rw [hLs3]; rfl) kz) ?_
  show own_Win p e below s _ _ _ (s₁.setTop (mkF m 20 Ls3 [(.int p5), (.int r0)]))
  refine own_st (fun _ kz => XS.bipush X0.here hx rfl (hb hby at_20) kz) ?_
  show own_Win p e below s _ _ _ (s₁.setTop (mkF m 22 Ls3 [(.int (8 : Int32)), (.int p5), (.int r0)]))
  refine own_st (fun _ kz => XT.iushr X0.here hx rfl (hb hby at_22) rfl kz) ?_
  show own_Win p e below s _ _ _ (s₁.setTop (mkF m 23 Ls3 [(.int (XT.ushr p5 (8 : Int32))), (.int r0)]))
  refine own_st (fun _ kz => XS.bipush X0.here hx rfl (hb hby at_23) kz) ?_
  show own_Win p e below s _ _ _ (s₁.setTop (mkF m 25 Ls3 [(.int (15 : Int32)), (.int (XT.ushr p5 (8 : Int32))), (.int r0)]))
  refine own_st (fun _ kz => XS.iand X0.here hx rfl (hb hby at_25) rfl kz) ?_
  show own_Win p e below s _ _ _ (s₁.setTop (mkF m 26 Ls3 [(.int ((XT.ushr p5 (8 : Int32)) &&& (15 : Int32))), (.int r0)]))
  have hx0 := own_m15 (XT.ushr p5 (8 : Int32))
  generalize ((XT.ushr p5 (8 : Int32)) &&& (15 : Int32)) = x0 at hx0 ⊢
  show own_Win p e below s _ _ _ (s₁.setTop (mkF m 26 Ls3 [(.int x0), (.int r0)]))
  refine own_st (fun _ kz => XS.iadd X0.here hx rfl (hb hby at_26) rfl kz) ?_
  show own_Win p e below s _ _ _ (s₁.setTop (mkF m 27 Ls3 [(.int (r0 + x0))]))
  have hs0 := own_s30 hr0.1 hr0.2 hx0.1 hx0.2
  generalize (r0 + x0) = s0 at hs0 ⊢
  show own_Win p e below s _ _ _ (s₁.setTop (mkF m 27 Ls3 [(.int s0)]))
  obtain ⟨Ls4, hLs4⟩ : ∃ L : Array Slot, L = #[.val (.long p1), .second, .val (.long p2), .second, .val (.int p3), .val (.int p4), .val (.int p5), .val (.int r0), .val (.int r1), .val (.int s0), .unset, .unset, .unset, .unset, .unset, .unset, .unset, .unset, .unset, .unset, .unset, .unset, .unset, .unset, .unset, .unset, .unset, .unset, .unset, .unset, .unset, .unset, .unset, .unset, .unset, .unset, .unset] := ⟨_, rfl⟩
  refine own_st (fun _ kz => XS.istore X0.here hx rfl (hb hby at_27) rfl (l' := Ls4) (by show storeLocals Ls3 _ _ = _; rw [hLs3, hLs4]; rfl) kz) ?_
  show own_Win p e below s _ _ _ (s₁.setTop (mkF m 29 Ls4 []))
  refine own_st (fun _ kz => XS.iload X0.here hx rfl (v := r1) (hb hby at_29) (by show Ls4[_]? = _; rw [hLs4]; rfl) kz) ?_
  show own_Win p e below s _ _ _ (s₁.setTop (mkF m 31 Ls4 [(.int r1)]))
  refine own_st (fun _ kz => XS.iload X0.here hx rfl (v := p5) (hb hby at_31) (by show Ls4[_]? = _; rw [hLs4]; rfl) kz) ?_
  show own_Win p e below s _ _ _ (s₁.setTop (mkF m 33 Ls4 [(.int p5), (.int r1)]))
  refine own_st (fun _ kz => XS.bipush X0.here hx rfl (hb hby at_33) kz) ?_
  show own_Win p e below s _ _ _ (s₁.setTop (mkF m 35 Ls4 [(.int (12 : Int32)), (.int p5), (.int r1)]))
  refine own_st (fun _ kz => XT.iushr X0.here hx rfl (hb hby at_35) rfl kz) ?_
  show own_Win p e below s _ _ _ (s₁.setTop (mkF m 36 Ls4 [(.int (XT.ushr p5 (12 : Int32))), (.int r1)]))
  refine own_st (fun _ kz => XS.bipush X0.here hx rfl (hb hby at_36) kz) ?_
  show own_Win p e below s _ _ _ (s₁.setTop (mkF m 38 Ls4 [(.int (15 : Int32)), (.int (XT.ushr p5 (12 : Int32))), (.int r1)]))
  refine own_st (fun _ kz => XS.iand X0.here hx rfl (hb hby at_38) rfl kz) ?_
  show own_Win p e below s _ _ _ (s₁.setTop (mkF m 39 Ls4 [(.int ((XT.ushr p5 (12 : Int32)) &&& (15 : Int32))), (.int r1)]))
  have hx1 := own_m15 (XT.ushr p5 (12 : Int32))
  generalize ((XT.ushr p5 (12 : Int32)) &&& (15 : Int32)) = x1 at hx1 ⊢
  show own_Win p e below s _ _ _ (s₁.setTop (mkF m 39 Ls4 [(.int x1), (.int r1)]))
  refine own_st (fun _ kz => XS.iadd X0.here hx rfl (hb hby at_39) rfl kz) ?_
  show own_Win p e below s _ _ _ (s₁.setTop (mkF m 40 Ls4 [(.int (r1 + x1))]))
  have hs1 := own_s30 hr1.1 hr1.2 hx1.1 hx1.2
  generalize (r1 + x1) = s1 at hs1 ⊢
  show own_Win p e below s _ _ _ (s₁.setTop (mkF m 40 Ls4 [(.int s1)]))
  obtain ⟨Ls5, hLs5⟩ : ∃ L : Array Slot, L = #[.val (.long p1), .second, .val (.long p2), .second, .val (.int p3), .val (.int p4), .val (.int p5), .val (.int r0), .val (.int r1), .val (.int s0), .val (.int s1), .unset, .unset, .unset, .unset, .unset, .unset, .unset, .unset, .unset, .unset, .unset, .unset, .unset, .unset, .unset, .unset, .unset, .unset, .unset, .unset, .unset, .unset, .unset, .unset, .unset, .unset] := ⟨_, rfl⟩
  refine own_st (fun _ kz => XS.istore X0.here hx rfl (hb hby at_40) rfl (l' := Ls5) (by show storeLocals Ls4 _ _ = _; rw [hLs4, hLs5]; rfl) kz) ?_
  show own_Win p e below s _ _ _ (s₁.setTop (mkF m 42 Ls5 []))
  refine own_st (fun _ kz => XS.iload X0.here hx rfl (v := p5) (hb hby at_42) (by show Ls5[_]? = _; rw [hLs5]; rfl) kz) ?_
  show own_Win p e below s _ _ _ (s₁.setTop (mkF m 44 Ls5 [(.int p5)]))
  refine own_st (fun _ kz => XS.bipush X0.here hx rfl (hb hby at_44) kz) ?_
  show own_Win p e below s _ _ _ (s₁.setTop (mkF m 46 Ls5 [(.int (16 : Int32)), (.int p5)]))
  refine own_st (fun _ kz => XT.iushr X0.here hx rfl (hb hby at_46) rfl kz) ?_
  show own_Win p e below s _ _ _ (s₁.setTop (mkF m 47 Ls5 [(.int (XT.ushr p5 (16 : Int32)))]))
  refine own_st (fun _ kz => XS.iconst X0.here hx rfl (hb hby at_47) kz) ?_
  show own_Win p e below s _ _ _ (s₁.setTop (mkF m 48 Ls5 [(.int (1 : Int32)), (.int (XT.ushr p5 (16 : Int32)))]))
  refine own_st (fun _ kz => XS.iand X0.here hx rfl (hb hby at_48) rfl kz) ?_
  show own_Win p e below s _ _ _ (s₁.setTop (mkF m 49 Ls5 [(.int ((XT.ushr p5 (16 : Int32)) &&& (1 : Int32)))]))
  have hsv := own_m1 (XT.ushr p5 (16 : Int32))
  generalize ((XT.ushr p5 (16 : Int32)) &&& (1 : Int32)) = sv at hsv ⊢
  show own_Win p e below s _ _ _ (s₁.setTop (mkF m 49 Ls5 [(.int sv)]))
  obtain ⟨Ls6, hLs6⟩ : ∃ L : Array Slot, L = #[.val (.long p1), .second, .val (.long p2), .second, .val (.int p3), .val (.int p4), .val (.int p5), .val (.int r0), .val (.int r1), .val (.int s0), .val (.int s1), .val (.int sv), .unset, .unset, .unset, .unset, .unset, .unset, .unset, .unset, .unset, .unset, .unset, .unset, .unset, .unset, .unset, .unset, .unset, .unset, .unset, .unset, .unset, .unset, .unset, .unset, .unset] := ⟨_, rfl⟩
  refine own_st (fun _ kz => XS.istore X0.here hx rfl (hb hby at_49) rfl (l' := Ls6) (by show storeLocals Ls5 _ _ = _; rw [hLs5, hLs6]; rfl) kz) ?_
  show own_Win p e below s _ _ _ (s₁.setTop (mkF m 51 Ls6 []))
  refine own_st (fun _ kz => XS.iload X0.here hx rfl (v := sv) (hb hby at_51) (by show Ls6[_]? = _; rw [hLs6]; rfl) kz) ?_
  show own_Win p e below s _ _ _ (s₁.setTop (mkF m 53 Ls6 [(.int sv)]))
  refine own_st (fun _ kz => XS.bipush X0.here hx rfl (hb hby at_53) kz) ?_
  show own_Win p e below s _ _ _ (s₁.setTop (mkF m 55 Ls6 [(.int (16 : Int32)), (.int sv)]))
  refine own_st (fun _ kz => XS.iadd X0.here hx rfl (hb hby at_55) rfl kz) ?_
  show own_Win p e below s _ _ _ (s₁.setTop (mkF m 56 Ls6 [(.int (sv + (16 : Int32)))]))
  refine own_st (fun _ kz => XS.iload X0.here hx rfl (v := p5) (hb hby at_56) (by show Ls6[_]? = _; rw [hLs6]; rfl) kz) ?_
  show own_Win p e below s _ _ _ (s₁.setTop (mkF m 58 Ls6 [(.int p5), (.int (sv + (16 : Int32)))]))
  refine own_st (fun _ kz => XS.bipush X0.here hx rfl (hb hby at_58) kz) ?_
  show own_Win p e below s _ _ _ (s₁.setTop (mkF m 60 Ls6 [(.int (17 : Int32)), (.int p5), (.int (sv + (16 : Int32)))]))
  refine own_st (fun _ kz => XT.iushr X0.here hx rfl (hb hby at_60) rfl kz) ?_
  show own_Win p e below s _ _ _ (s₁.setTop (mkF m 61 Ls6 [(.int (XT.ushr p5 (17 : Int32))), (.int (sv + (16 : Int32)))]))
  refine own_st (fun _ kz => XS.iconst X0.here hx rfl (hb hby at_61) kz) ?_
  show own_Win p e below s _ _ _ (s₁.setTop (mkF m 62 Ls6 [(.int (1 : Int32)), (.int (XT.ushr p5 (17 : Int32))), (.int (sv + (16 : Int32)))]))
  refine own_st (fun _ kz => XS.iand X0.here hx rfl (hb hby at_62) rfl kz) ?_
  show own_Win p e below s _ _ _ (s₁.setTop (mkF m 63 Ls6 [(.int ((XT.ushr p5 (17 : Int32)) &&& (1 : Int32))), (.int (sv + (16 : Int32)))]))
  have hbv := own_m1 (XT.ushr p5 (17 : Int32))
  generalize ((XT.ushr p5 (17 : Int32)) &&& (1 : Int32)) = bv at hbv ⊢
  show own_Win p e below s _ _ _ (s₁.setTop (mkF m 63 Ls6 [(.int bv), (.int (sv + (16 : Int32)))]))
  refine own_st (fun _ kz => XS.iadd X0.here hx rfl (hb hby at_63) rfl kz) ?_
  show own_Win p e below s _ _ _ (s₁.setTop (mkF m 64 Ls6 [(.int ((sv + (16 : Int32)) + bv))]))
  have hev := own_end hsv.1 hsv.2 hbv.1 hbv.2
  generalize (sv + (16 : Int32) + bv) = ev at hev ⊢
  show own_Win p e below s _ _ _ (s₁.setTop (mkF m 64 Ls6 [(.int ev)]))
  obtain ⟨sN, hsN⟩ : ∃ n : Nat, sv.toInt = (n : Int) := ⟨sv.toInt.toNat, by omega⟩
  obtain ⟨eN, heN⟩ : ∃ n : Nat, ev.toInt = (n : Int) := ⟨ev.toInt.toNat, by omega⟩
  obtain ⟨Ls7, hLs7⟩ : ∃ L : Array Slot, L = #[.val (.long p1), .second, .val (.long p2), .second, .val (.int p3), .val (.int p4), .val (.int p5), .val (.int r0), .val (.int r1), .val (.int s0), .val (.int s1), .val (.int sv), .val (.int ev), .unset, .unset, .unset, .unset, .unset, .unset, .unset, .unset, .unset, .unset, .unset, .unset, .unset, .unset, .unset, .unset, .unset, .unset, .unset, .unset, .unset, .unset, .unset, .unset] := ⟨_, rfl⟩
  refine own_st (fun _ kz => XS.istore X0.here hx rfl (hb hby at_64) rfl (l' := Ls7) (by show storeLocals Ls6 _ _ = _; rw [hLs6, hLs7]; rfl) kz) ?_
  show own_Win p e below s _ _ _ (s₁.setTop (mkF m 66 Ls7 []))
  refine own_st (fun _ kz => XS.iload X0.here hx rfl (v := p5) (hb hby at_66) (by show Ls7[_]? = _; rw [hLs7]; rfl) kz) ?_
  show own_Win p e below s _ _ _ (s₁.setTop (mkF m 68 Ls7 [(.int p5)]))
  refine own_st (fun _ kz => XS.bipush X0.here hx rfl (hb hby at_68) kz) ?_
  show own_Win p e below s _ _ _ (s₁.setTop (mkF m 70 Ls7 [(.int (18 : Int32)), (.int p5)]))
  refine own_st (fun _ kz => XT.iushr X0.here hx rfl (hb hby at_70) rfl kz) ?_
  show own_Win p e below s _ _ _ (s₁.setTop (mkF m 71 Ls7 [(.int (XT.ushr p5 (18 : Int32)))]))
  refine own_st (fun _ kz => XS.iconst X0.here hx rfl (hb hby at_71) kz) ?_
  show own_Win p e below s _ _ _ (s₁.setTop (mkF m 72 Ls7 [(.int (3 : Int32)), (.int (XT.ushr p5 (18 : Int32)))]))
  refine own_st (fun _ kz => XS.iand X0.here hx rfl (hb hby at_72) rfl kz) ?_
  show own_Win p e below s _ _ _ (s₁.setTop (mkF m 73 Ls7 [(.int ((XT.ushr p5 (18 : Int32)) &&& (3 : Int32)))]))
  refine own_st (fun _ kz => XS.iconst X0.here hx rfl (hb hby at_73) kz) ?_
  show own_Win p e below s _ _ _ (s₁.setTop (mkF m 74 Ls7 [(.int (3 : Int32)), (.int ((XT.ushr p5 (18 : Int32)) &&& (3 : Int32)))]))
  generalize ((XT.ushr p5 (18 : Int32)) &&& (3 : Int32)) = kk
  show own_Win p e below s _ _ _ (s₁.setTop (mkF m 74 Ls7 [(.int (3 : Int32)), (.int kk)]))
  have tl96 : ∀ (nw wv : Int32) (wn : Nat), ((nw = 1 ∧ wv = 0 ∧ wn = 0) ∨ (nw = 0 ∧ wv = 2 ∧ wn = 2)) → own_Win p e below s (Q_rm0 Z p1 p2 p3 p4 p5 h0 n0) room_1.cells room_1.slots (s₁.setTop (mkF m 96 #[.val (.long p1), .second, .val (.long p2), .second, .val (.int p3), .val (.int p4), .val (.int p5), .val (.int r0), .val (.int r1), .val (.int s0), .val (.int s1), .val (.int sv), .val (.int ev), .val (.int nw), .val (.int wv), .unset, .unset, .unset, .unset, .unset, .unset, .unset, .unset, .unset, .unset, .unset, .unset, .unset, .unset, .unset, .unset, .unset, .unset, .unset, .unset, .unset, .unset] [])) := by
    intro nw wv wn hnw
    have hwn : wv.toInt = (wn : Int) := by rcases hnw with ⟨-, q, r⟩ | ⟨-, q, r⟩ <;> (rw [q, r]; rfl)
    have wn2 : wn ≤ 2 := by rcases hnw with ⟨-, -, r⟩ | ⟨-, -, r⟩ <;> omega
    obtain ⟨Lb1, hLb1⟩ : ∃ L : Array Slot, L = #[.val (.long p1), .second, .val (.long p2), .second, .val (.int p3), .val (.int p4), .val (.int p5), .val (.int r0), .val (.int r1), .val (.int s0), .val (.int s1), .val (.int sv), .val (.int ev), .val (.int nw), .val (.int wv), .unset, .unset, .unset, .unset, .unset, .unset, .unset, .unset, .unset, .unset, .unset, .unset, .unset, .unset, .unset, .unset, .unset, .unset, .unset, .unset, .unset, .unset] := ⟨_, rfl⟩
    rw [← hLb1]
    show own_Win p e below s _ _ _ (s₁.setTop (mkF m 96 Lb1 []))
    refine own_st (fun _ kz => XS.bipush X0.here hx rfl (hb hby at_96) kz) ?_
    show own_Win p e below s _ _ _ (s₁.setTop (mkF m 98 Lb1 [(.int (18 : Int32))]))
    refine own_newI X0 hx hZ (hw _ (List.mem_of_getElem? (i := 0) rfl)) e0 (n := 18) (cap := 18) rfl (Nat.le_refl _) (by decide) (by decide) (by decide) rfl rfl (hb hby at_98) ?_
    intro T1 h1 a1 X1 e1 g1 E1 F1
    show own_Win p e below s _ _ _ (T1.setTop (mkF m 100 Lb1 [(.ref a1)]))
    have Z1 : n0 ≤ h1.size := Nat.le_trans Z0 E1.1
    have q_a1 : n0 ≤ a1 := by rw [g1]; exact Z0
    obtain ⟨Lb2, hLb2⟩ : ∃ L : Array Slot, L = #[.val (.long p1), .second, .val (.long p2), .second, .val (.int p3), .val (.int p4), .val (.int p5), .val (.int r0), .val (.int r1), .val (.int s0), .val (.int s1), .val (.int sv), .val (.int ev), .val (.int nw), .val (.int wv), .val (.ref a1), .unset, .unset, .unset, .unset, .unset, .unset, .unset, .unset, .unset, .unset, .unset, .unset, .unset, .unset, .unset, .unset, .unset, .unset, .unset, .unset, .unset] := ⟨_, rfl⟩
    refine own_st (fun _ kz => XS.astore X1.here hx rfl (hb hby at_100) rfl rfl (l' := Lb2) (by show storeLocals Lb1 _ _ = _; rw [hLb1, hLb2]; rfl) kz) ?_
    show own_Win p e below s _ _ _ (T1.setTop (mkF m 102 Lb2 []))
    refine own_st (fun _ kz => XS.bipush X1.here hx rfl (hb hby at_102) kz) ?_
    show own_Win p e below s _ _ _ (T1.setTop (mkF m 104 Lb2 [(.int (36 : Int32))]))
    refine own_newD X1 hx hZ (hw _ (List.mem_of_getElem? (i := 1) rfl)) e1 (n := 36) (cap := 36) rfl (Nat.le_refl _) (by decide) (by decide) (by decide) rfl rfl (hb hby at_104) ?_
    intro T2 h2 a2 X2 e2 g2 E2 F2 Ex2
    show own_Win p e below s _ _ _ (T2.setTop (mkF m 106 Lb2 [(.ref a2)]))
    have lt_a1_a2 : @LT.lt Nat _ a1 a2 := by rw [g2]; exact (own_Av.lt F1)
    have Z2 : n0 ≤ h2.size := Nat.le_trans Z1 E2.1
    have q_a2 : n0 ≤ a2 := by rw [g2]; exact Z1
    have c_I_h2 : own_Ia Z h2 a1 18 (fun _ => 0) := own_Av.ext E2 F1
    obtain ⟨Lb3, hLb3⟩ : ∃ L : Array Slot, L = #[.val (.long p1), .second, .val (.long p2), .second, .val (.int p3), .val (.int p4), .val (.int p5), .val (.int r0), .val (.int r1), .val (.int s0), .val (.int s1), .val (.int sv), .val (.int ev), .val (.int nw), .val (.int wv), .val (.ref a1), .val (.ref a2), .unset, .unset, .unset, .unset, .unset, .unset, .unset, .unset, .unset, .unset, .unset, .unset, .unset, .unset, .unset, .unset, .unset, .unset, .unset, .unset] := ⟨_, rfl⟩
    refine own_st (fun _ kz => XS.astore X2.here hx rfl (hb hby at_106) rfl rfl (l' := Lb3) (by show storeLocals Lb2 _ _ = _; rw [hLb2, hLb3]; rfl) kz) ?_
    show own_Win p e below s _ _ _ (T2.setTop (mkF m 108 Lb3 []))
    refine own_st (fun _ kz => XS.bipush X2.here hx rfl (hb hby at_108) kz) ?_
    show own_Win p e below s _ _ _ (T2.setTop (mkF m 110 Lb3 [(.int (18 : Int32))]))
    refine own_newD X2 hx hZ (hw _ (List.mem_of_getElem? (i := 1) rfl)) e2 (n := 18) (cap := 18) rfl (Nat.le_refl _) (by decide) (by decide) (by decide) rfl rfl (hb hby at_110) ?_
    intro T3 h3 a3 X3 e3 g3 E3 F3 Ex3
    show own_Win p e below s _ _ _ (T3.setTop (mkF m 112 Lb3 [(.ref a3)]))
    have lt_a1_a3 : @LT.lt Nat _ a1 a3 := by rw [g3]; exact (own_Av.lt c_I_h2)
    have lt_a2_a3 : @LT.lt Nat _ a2 a3 := by rw [g3]; exact (own_Av.lt F2)
    have Z3 : n0 ≤ h3.size := Nat.le_trans Z2 E3.1
    have q_a3 : n0 ≤ a3 := by rw [g3]; exact Z2
    have c_I_h3 : own_Ia Z h3 a1 18 (fun _ => 0) := own_Av.ext E3 c_I_h2
    have c_P_h3 : own_Da Z h3 a2 36 (fun _ => 0) := own_Av.ext E3 F2
    obtain ⟨Lb4, hLb4⟩ : ∃ L : Array Slot, L = #[.val (.long p1), .second, .val (.long p2), .second, .val (.int p3), .val (.int p4), .val (.int p5), .val (.int r0), .val (.int r1), .val (.int s0), .val (.int s1), .val (.int sv), .val (.int ev), .val (.int nw), .val (.int wv), .val (.ref a1), .val (.ref a2), .val (.ref a3), .unset, .unset, .unset, .unset, .unset, .unset, .unset, .unset, .unset, .unset, .unset, .unset, .unset, .unset, .unset, .unset, .unset, .unset, .unset] := ⟨_, rfl⟩
    refine own_st (fun _ kz => XS.astore X3.here hx rfl (hb hby at_112) rfl rfl (l' := Lb4) (by show storeLocals Lb3 _ _ = _; rw [hLb3, hLb4]; rfl) kz) ?_
    show own_Win p e below s _ _ _ (T3.setTop (mkF m 114 Lb4 []))
    refine own_st (fun _ kz => XS.bipush X3.here hx rfl (hb hby at_114) kz) ?_
    show own_Win p e below s _ _ _ (T3.setTop (mkF m 116 Lb4 [(.int (18 : Int32))]))
    refine own_newD X3 hx hZ (hw _ (List.mem_of_getElem? (i := 1) rfl)) e3 (n := 18) (cap := 18) rfl (Nat.le_refl _) (by decide) (by decide) (by decide) rfl rfl (hb hby at_116) ?_
    intro T4 h4 a4 X4 e4 g4 E4 F4 Ex4
    show own_Win p e below s _ _ _ (T4.setTop (mkF m 118 Lb4 [(.ref a4)]))
    have lt_a1_a4 : @LT.lt Nat _ a1 a4 := by rw [g4]; exact (own_Av.lt c_I_h3)
    have lt_a2_a4 : @LT.lt Nat _ a2 a4 := by rw [g4]; exact (own_Av.lt c_P_h3)
    have lt_a3_a4 : @LT.lt Nat _ a3 a4 := by rw [g4]; exact (own_Av.lt F3)
    have Z4 : n0 ≤ h4.size := Nat.le_trans Z3 E4.1
    have q_a4 : n0 ≤ a4 := by rw [g4]; exact Z3
    have c_I_h4 : own_Ia Z h4 a1 18 (fun _ => 0) := own_Av.ext E4 c_I_h3
    have c_P_h4 : own_Da Z h4 a2 36 (fun _ => 0) := own_Av.ext E4 c_P_h3
    have c_A_h4 : own_Da Z h4 a3 18 (fun _ => 0) := own_Av.ext E4 F3
    obtain ⟨Lb5, hLb5⟩ : ∃ L : Array Slot, L = #[.val (.long p1), .second, .val (.long p2), .second, .val (.int p3), .val (.int p4), .val (.int p5), .val (.int r0), .val (.int r1), .val (.int s0), .val (.int s1), .val (.int sv), .val (.int ev), .val (.int nw), .val (.int wv), .val (.ref a1), .val (.ref a2), .val (.ref a3), .val (.ref a4), .unset, .unset, .unset, .unset, .unset, .unset, .unset, .unset, .unset, .unset, .unset, .unset, .unset, .unset, .unset, .unset, .unset, .unset] := ⟨_, rfl⟩
    refine own_st (fun _ kz => XS.astore X4.here hx rfl (hb hby at_118) rfl rfl (l' := Lb5) (by show storeLocals Lb4 _ _ = _; rw [hLb4, hLb5]; rfl) kz) ?_
    show own_Win p e below s _ _ _ (T4.setTop (mkF m 120 Lb5 []))
    have FF0 : own_Filled Z h4 a1 a2 a3 a4 0 := ⟨_, _, _, _, c_I_h4, c_P_h4, c_A_h4, F4, fun j q => absurd q (Nat.not_lt_zero j)⟩
    refine own_st (fun _ kz => XS.aload X4.here hx rfl (v := (.ref a1)) (hb hby at_120) (by show Lb5[_]? = _; rw [hLb5]; rfl) rfl kz) ?_
    show own_Win p e below s _ _ _ (T4.setTop (mkF m 122 Lb5 [(.ref a1)]))
    refine own_st (fun _ kz => XS.aload X4.here hx rfl (v := (.ref a2)) (hb hby at_122) (by show Lb5[_]? = _; rw [hLb5]; rfl) rfl kz) ?_
    show own_Win p e below s _ _ _ (T4.setTop (mkF m 124 Lb5 [(.ref a2), (.ref a1)]))
    refine own_st (fun _ kz => XS.aload X4.here hx rfl (v := (.ref a3)) (hb hby at_124) (by show Lb5[_]? = _; rw [hLb5]; rfl) rfl kz) ?_
    show own_Win p e below s _ _ _ (T4.setTop (mkF m 126 Lb5 [(.ref a3), (.ref a2), (.ref a1)]))
    refine own_st (fun _ kz => XS.aload X4.here hx rfl (v := (.ref a4)) (hb hby at_126) (by show Lb5[_]? = _; rw [hLb5]; rfl) rfl kz) ?_
    show own_Win p e below s _ _ _ (T4.setTop (mkF m 128 Lb5 [(.ref a4), (.ref a3), (.ref a2), (.ref a1)]))
    refine own_st (fun _ kz => XS.iconst X4.here hx rfl (hb hby at_128) kz) ?_
    show own_Win p e below s _ _ _ (T4.setTop (mkF m 129 Lb5 [(.int (0 : Int32)), (.ref a4), (.ref a3), (.ref a2), (.ref a1)]))
    refine own_st (fun _ kz => XT.lloadN X4.here hx rfl (v := p1) (hb hby at_129) (by show Lb5[_]? = _; rw [hLb5]; rfl) kz) ?_
    show own_Win p e below s _ _ _ (T4.setTop (mkF m 130 Lb5 [(.long p1), (.int (0 : Int32)), (.ref a4), (.ref a3), (.ref a2), (.ref a1)]))
    refine own_st (fun _ kz => XT.lloadN X4.here hx rfl (v := p2) (hb hby at_130) (by show Lb5[_]? = _; rw [hLb5]; rfl) kz) ?_
    show own_Win p e below s _ _ _ (T4.setTop (mkF m 131 Lb5 [(.long p2), (.long p1), (.int (0 : Int32)), (.ref a4), (.ref a3), (.ref a2), (.ref a1)]))
    refine own_st (fun _ kz => XS.iload X4.here hx rfl (v := p3) (hb hby at_131) (by show Lb5[_]? = _; rw [hLb5]; rfl) kz) ?_
    show own_Win p e below s _ _ _ (T4.setTop (mkF m 133 Lb5 [(.int p3), (.long p2), (.long p1), (.int (0 : Int32)), (.ref a4), (.ref a3), (.ref a2), (.ref a1)]))
    refine own_st (fun _ kz => XS.iload X4.here hx rfl (v := p4) (hb hby at_133) (by show Lb5[_]? = _; rw [hLb5]; rfl) kz) ?_
    show own_Win p e below s _ _ _ (T4.setTop (mkF m 135 Lb5 [(.int p4), (.int p3), (.long p2), (.long p1), (.int (0 : Int32)), (.ref a4), (.ref a3), (.ref a2), (.ref a1)]))
    refine own_st (fun _ kz => XS.iload X4.here hx rfl (v := r0) (hb hby at_135) (by show Lb5[_]? = _; rw [hLb5]; rfl) kz) ?_
    show own_Win p e below s _ _ _ (T4.setTop (mkF m 137 Lb5 [(.int r0), (.int p4), (.int p3), (.long p2), (.long p1), (.int (0 : Int32)), (.ref a4), (.ref a3), (.ref a2), (.ref a1)]))
    refine own_st (fun _ kz => XS.iload X4.here hx rfl (v := r1) (hb hby at_137) (by show Lb5[_]? = _; rw [hLb5]; rfl) kz) ?_
    show own_Win p e below s _ _ _ (T4.setTop (mkF m 139 Lb5 [(.int r1), (.int r0), (.int p4), (.int p3), (.long p2), (.long p1), (.int (0 : Int32)), (.ref a4), (.ref a3), (.ref a2), (.ref a1)]))
    refine own_callS X4 hx hZ hown (y := yP) (hw _ (List.mem_of_getElem? (i := 2) rfl)) (hw _ (List.mem_of_getElem? (i := 3) rfl)) (hw _ (List.mem_of_getElem? (i := 4) rfl)) (hw _ (List.mem_of_getElem? (i := 5) rfl)) (by decide) e4 (rmP l Z a0 hw [] a1 a2 a3 a4 0 (0 : Int32) p1 p2 p3 p4 r0 r1 h4 n0 Z4 FF0 q_a1 lt_a1_a2 lt_a2_a3 lt_a3_a4 rfl (by decide) hr0.1 hr0.2 hr1.1 hr1.2) (by decide) (W := 0) (by decide) rfl (by rw [hml]; show Lb5.size = _; rw [hLb5]; rfl) (argsL := [(.ref a1), (.ref a2), (.ref a3), (.ref a4), (.int (0 : Int32)), (.long p1), (.long p2), (.int p3), (.int p4), (.int r0), (.int r1)]) (rest := []) (lenOf pdP rfl) rfl (Nat.le_of_eq rfl) (hb hby at_139) rfl (by decide) (by decide) ?_
    intro T100 v100 L100 X100 hQ100
    obtain ⟨h100, e100⟩ : ∃ z, T100.heap = z := ⟨_, rfl⟩
    rw [e100] at hQ100
    obtain ⟨rfl, M100, K100, FF1⟩ := hQ100
    have N100 := Fr.app N0 M100
    have Z100 : n0 ≤ h100.size := Nat.le_trans Z4 K100.1
    show own_Win p e below s _ _ _ (T100.setTop (mkF m 142 Lb5 []))
    refine own_st (fun _ kz => XS.aload X100.here hx rfl (v := (.ref a1)) (hb hby at_142) (by show Lb5[_]? = _; rw [hLb5]; rfl) rfl kz) ?_
    show own_Win p e below s _ _ _ (T100.setTop (mkF m 144 Lb5 [(.ref a1)]))
    refine own_st (fun _ kz => XS.aload X100.here hx rfl (v := (.ref a2)) (hb hby at_144) (by show Lb5[_]? = _; rw [hLb5]; rfl) rfl kz) ?_
    show own_Win p e below s _ _ _ (T100.setTop (mkF m 146 Lb5 [(.ref a2), (.ref a1)]))
    refine own_st (fun _ kz => XS.aload X100.here hx rfl (v := (.ref a3)) (hb hby at_146) (by show Lb5[_]? = _; rw [hLb5]; rfl) rfl kz) ?_
    show own_Win p e below s _ _ _ (T100.setTop (mkF m 148 Lb5 [(.ref a3), (.ref a2), (.ref a1)]))
    refine own_st (fun _ kz => XS.aload X100.here hx rfl (v := (.ref a4)) (hb hby at_148) (by show Lb5[_]? = _; rw [hLb5]; rfl) rfl kz) ?_
    show own_Win p e below s _ _ _ (T100.setTop (mkF m 150 Lb5 [(.ref a4), (.ref a3), (.ref a2), (.ref a1)]))
    refine own_st (fun _ kz => XS.iconst X100.here hx rfl (hb hby at_150) kz) ?_
    show own_Win p e below s _ _ _ (T100.setTop (mkF m 151 Lb5 [(.int (1 : Int32)), (.ref a4), (.ref a3), (.ref a2), (.ref a1)]))
    refine own_st (fun _ kz => XT.lloadN X100.here hx rfl (v := p1) (hb hby at_151) (by show Lb5[_]? = _; rw [hLb5]; rfl) kz) ?_
    show own_Win p e below s _ _ _ (T100.setTop (mkF m 152 Lb5 [(.long p1), (.int (1 : Int32)), (.ref a4), (.ref a3), (.ref a2), (.ref a1)]))
    refine own_st (fun _ kz => XT.lloadN X100.here hx rfl (v := p2) (hb hby at_152) (by show Lb5[_]? = _; rw [hLb5]; rfl) kz) ?_
    show own_Win p e below s _ _ _ (T100.setTop (mkF m 153 Lb5 [(.long p2), (.long p1), (.int (1 : Int32)), (.ref a4), (.ref a3), (.ref a2), (.ref a1)]))
    refine own_st (fun _ kz => XS.iload X100.here hx rfl (v := p3) (hb hby at_153) (by show Lb5[_]? = _; rw [hLb5]; rfl) kz) ?_
    show own_Win p e below s _ _ _ (T100.setTop (mkF m 155 Lb5 [(.int p3), (.long p2), (.long p1), (.int (1 : Int32)), (.ref a4), (.ref a3), (.ref a2), (.ref a1)]))
    refine own_st (fun _ kz => XS.iload X100.here hx rfl (v := p4) (hb hby at_155) (by show Lb5[_]? = _; rw [hLb5]; rfl) kz) ?_
    show own_Win p e below s _ _ _ (T100.setTop (mkF m 157 Lb5 [(.int p4), (.int p3), (.long p2), (.long p1), (.int (1 : Int32)), (.ref a4), (.ref a3), (.ref a2), (.ref a1)]))
    refine own_st (fun _ kz => XS.iload X100.here hx rfl (v := r0) (hb hby at_157) (by show Lb5[_]? = _; rw [hLb5]; rfl) kz) ?_
    show own_Win p e below s _ _ _ (T100.setTop (mkF m 159 Lb5 [(.int r0), (.int p4), (.int p3), (.long p2), (.long p1), (.int (1 : Int32)), (.ref a4), (.ref a3), (.ref a2), (.ref a1)]))
    refine own_st (fun _ kz => XS.iload X100.here hx rfl (v := r1) (hb hby at_159) (by show Lb5[_]? = _; rw [hLb5]; rfl) kz) ?_
    show own_Win p e below s _ _ _ (T100.setTop (mkF m 161 Lb5 [(.int r1), (.int r0), (.int p4), (.int p3), (.long p2), (.long p1), (.int (1 : Int32)), (.ref a4), (.ref a3), (.ref a2), (.ref a1)]))
    refine own_callS X100 hx hZ hown (y := yP) (hw _ (List.mem_of_getElem? (i := 2) rfl)) (hw _ (List.mem_of_getElem? (i := 3) rfl)) (hw _ (List.mem_of_getElem? (i := 4) rfl)) (hw _ (List.mem_of_getElem? (i := 5) rfl)) (by decide) e100 (rmP l Z a0 hw [] a1 a2 a3 a4 1 (1 : Int32) p1 p2 p3 p4 r0 r1 h100 n0 Z100 FF1 q_a1 lt_a1_a2 lt_a2_a3 lt_a3_a4 rfl (by decide) hr0.1 hr0.2 hr1.1 hr1.2) (by decide) (W := 0) (by decide) rfl (by rw [hml]; show Lb5.size = _; rw [hLb5]; rfl) (argsL := [(.ref a1), (.ref a2), (.ref a3), (.ref a4), (.int (1 : Int32)), (.long p1), (.long p2), (.int p3), (.int p4), (.int r0), (.int r1)]) (rest := []) (lenOf pdP rfl) rfl (Nat.le_of_eq rfl) (hb hby at_161) rfl (by decide) (by decide) ?_
    intro T101 v101 L101 X101 hQ101
    obtain ⟨h101, e101⟩ : ∃ z, T101.heap = z := ⟨_, rfl⟩
    rw [e101] at hQ101
    obtain ⟨rfl, M101, K101, FF2⟩ := hQ101
    have N101 := Fr.app N100 M101
    have Z101 : n0 ≤ h101.size := Nat.le_trans Z100 K101.1
    show own_Win p e below s _ _ _ (T101.setTop (mkF m 164 Lb5 []))
    refine own_st (fun _ kz => XS.aload X101.here hx rfl (v := (.ref a1)) (hb hby at_164) (by show Lb5[_]? = _; rw [hLb5]; rfl) rfl kz) ?_
    show own_Win p e below s _ _ _ (T101.setTop (mkF m 166 Lb5 [(.ref a1)]))
    refine own_st (fun _ kz => XS.aload X101.here hx rfl (v := (.ref a2)) (hb hby at_166) (by show Lb5[_]? = _; rw [hLb5]; rfl) rfl kz) ?_
    show own_Win p e below s _ _ _ (T101.setTop (mkF m 168 Lb5 [(.ref a2), (.ref a1)]))
    refine own_st (fun _ kz => XS.aload X101.here hx rfl (v := (.ref a3)) (hb hby at_168) (by show Lb5[_]? = _; rw [hLb5]; rfl) rfl kz) ?_
    show own_Win p e below s _ _ _ (T101.setTop (mkF m 170 Lb5 [(.ref a3), (.ref a2), (.ref a1)]))
    refine own_st (fun _ kz => XS.aload X101.here hx rfl (v := (.ref a4)) (hb hby at_170) (by show Lb5[_]? = _; rw [hLb5]; rfl) rfl kz) ?_
    show own_Win p e below s _ _ _ (T101.setTop (mkF m 172 Lb5 [(.ref a4), (.ref a3), (.ref a2), (.ref a1)]))
    refine own_st (fun _ kz => XS.iconst X101.here hx rfl (hb hby at_172) kz) ?_
    show own_Win p e below s _ _ _ (T101.setTop (mkF m 173 Lb5 [(.int (2 : Int32)), (.ref a4), (.ref a3), (.ref a2), (.ref a1)]))
    refine own_st (fun _ kz => XT.lloadN X101.here hx rfl (v := p1) (hb hby at_173) (by show Lb5[_]? = _; rw [hLb5]; rfl) kz) ?_
    show own_Win p e below s _ _ _ (T101.setTop (mkF m 174 Lb5 [(.long p1), (.int (2 : Int32)), (.ref a4), (.ref a3), (.ref a2), (.ref a1)]))
    refine own_st (fun _ kz => XT.lloadN X101.here hx rfl (v := p2) (hb hby at_174) (by show Lb5[_]? = _; rw [hLb5]; rfl) kz) ?_
    show own_Win p e below s _ _ _ (T101.setTop (mkF m 175 Lb5 [(.long p2), (.long p1), (.int (2 : Int32)), (.ref a4), (.ref a3), (.ref a2), (.ref a1)]))
    refine own_st (fun _ kz => XS.iload X101.here hx rfl (v := p3) (hb hby at_175) (by show Lb5[_]? = _; rw [hLb5]; rfl) kz) ?_
    show own_Win p e below s _ _ _ (T101.setTop (mkF m 177 Lb5 [(.int p3), (.long p2), (.long p1), (.int (2 : Int32)), (.ref a4), (.ref a3), (.ref a2), (.ref a1)]))
    refine own_st (fun _ kz => XS.iload X101.here hx rfl (v := p4) (hb hby at_177) (by show Lb5[_]? = _; rw [hLb5]; rfl) kz) ?_
    show own_Win p e below s _ _ _ (T101.setTop (mkF m 179 Lb5 [(.int p4), (.int p3), (.long p2), (.long p1), (.int (2 : Int32)), (.ref a4), (.ref a3), (.ref a2), (.ref a1)]))
    refine own_st (fun _ kz => XS.iload X101.here hx rfl (v := r0) (hb hby at_179) (by show Lb5[_]? = _; rw [hLb5]; rfl) kz) ?_
    show own_Win p e below s _ _ _ (T101.setTop (mkF m 181 Lb5 [(.int r0), (.int p4), (.int p3), (.long p2), (.long p1), (.int (2 : Int32)), (.ref a4), (.ref a3), (.ref a2), (.ref a1)]))
    refine own_st (fun _ kz => XS.iload X101.here hx rfl (v := r1) (hb hby at_181) (by show Lb5[_]? = _; rw [hLb5]; rfl) kz) ?_
    show own_Win p e below s _ _ _ (T101.setTop (mkF m 183 Lb5 [(.int r1), (.int r0), (.int p4), (.int p3), (.long p2), (.long p1), (.int (2 : Int32)), (.ref a4), (.ref a3), (.ref a2), (.ref a1)]))
    refine own_callS X101 hx hZ hown (y := yP) (hw _ (List.mem_of_getElem? (i := 2) rfl)) (hw _ (List.mem_of_getElem? (i := 3) rfl)) (hw _ (List.mem_of_getElem? (i := 4) rfl)) (hw _ (List.mem_of_getElem? (i := 5) rfl)) (by decide) e101 (rmP l Z a0 hw [] a1 a2 a3 a4 2 (2 : Int32) p1 p2 p3 p4 r0 r1 h101 n0 Z101 FF2 q_a1 lt_a1_a2 lt_a2_a3 lt_a3_a4 rfl (by decide) hr0.1 hr0.2 hr1.1 hr1.2) (by decide) (W := 0) (by decide) rfl (by rw [hml]; show Lb5.size = _; rw [hLb5]; rfl) (argsL := [(.ref a1), (.ref a2), (.ref a3), (.ref a4), (.int (2 : Int32)), (.long p1), (.long p2), (.int p3), (.int p4), (.int r0), (.int r1)]) (rest := []) (lenOf pdP rfl) rfl (Nat.le_of_eq rfl) (hb hby at_183) rfl (by decide) (by decide) ?_
    intro T102 v102 L102 X102 hQ102
    obtain ⟨h102, e102⟩ : ∃ z, T102.heap = z := ⟨_, rfl⟩
    rw [e102] at hQ102
    obtain ⟨rfl, M102, K102, FF3⟩ := hQ102
    have N102 := Fr.app N101 M102
    have Z102 : n0 ≤ h102.size := Nat.le_trans Z101 K102.1
    show own_Win p e below s _ _ _ (T102.setTop (mkF m 186 Lb5 []))
    refine own_st (fun _ kz => XS.aload X102.here hx rfl (v := (.ref a1)) (hb hby at_186) (by show Lb5[_]? = _; rw [hLb5]; rfl) rfl kz) ?_
    show own_Win p e below s _ _ _ (T102.setTop (mkF m 188 Lb5 [(.ref a1)]))
    refine own_st (fun _ kz => XS.aload X102.here hx rfl (v := (.ref a2)) (hb hby at_188) (by show Lb5[_]? = _; rw [hLb5]; rfl) rfl kz) ?_
    show own_Win p e below s _ _ _ (T102.setTop (mkF m 190 Lb5 [(.ref a2), (.ref a1)]))
    refine own_st (fun _ kz => XS.aload X102.here hx rfl (v := (.ref a3)) (hb hby at_190) (by show Lb5[_]? = _; rw [hLb5]; rfl) rfl kz) ?_
    show own_Win p e below s _ _ _ (T102.setTop (mkF m 192 Lb5 [(.ref a3), (.ref a2), (.ref a1)]))
    refine own_st (fun _ kz => XS.aload X102.here hx rfl (v := (.ref a4)) (hb hby at_192) (by show Lb5[_]? = _; rw [hLb5]; rfl) rfl kz) ?_
    show own_Win p e below s _ _ _ (T102.setTop (mkF m 194 Lb5 [(.ref a4), (.ref a3), (.ref a2), (.ref a1)]))
    refine own_st (fun _ kz => XS.iconst X102.here hx rfl (hb hby at_194) kz) ?_
    show own_Win p e below s _ _ _ (T102.setTop (mkF m 195 Lb5 [(.int (3 : Int32)), (.ref a4), (.ref a3), (.ref a2), (.ref a1)]))
    refine own_st (fun _ kz => XT.lloadN X102.here hx rfl (v := p1) (hb hby at_195) (by show Lb5[_]? = _; rw [hLb5]; rfl) kz) ?_
    show own_Win p e below s _ _ _ (T102.setTop (mkF m 196 Lb5 [(.long p1), (.int (3 : Int32)), (.ref a4), (.ref a3), (.ref a2), (.ref a1)]))
    refine own_st (fun _ kz => XT.lloadN X102.here hx rfl (v := p2) (hb hby at_196) (by show Lb5[_]? = _; rw [hLb5]; rfl) kz) ?_
    show own_Win p e below s _ _ _ (T102.setTop (mkF m 197 Lb5 [(.long p2), (.long p1), (.int (3 : Int32)), (.ref a4), (.ref a3), (.ref a2), (.ref a1)]))
    refine own_st (fun _ kz => XS.iload X102.here hx rfl (v := p3) (hb hby at_197) (by show Lb5[_]? = _; rw [hLb5]; rfl) kz) ?_
    show own_Win p e below s _ _ _ (T102.setTop (mkF m 199 Lb5 [(.int p3), (.long p2), (.long p1), (.int (3 : Int32)), (.ref a4), (.ref a3), (.ref a2), (.ref a1)]))
    refine own_st (fun _ kz => XS.iload X102.here hx rfl (v := p4) (hb hby at_199) (by show Lb5[_]? = _; rw [hLb5]; rfl) kz) ?_
    show own_Win p e below s _ _ _ (T102.setTop (mkF m 201 Lb5 [(.int p4), (.int p3), (.long p2), (.long p1), (.int (3 : Int32)), (.ref a4), (.ref a3), (.ref a2), (.ref a1)]))
    refine own_st (fun _ kz => XS.iload X102.here hx rfl (v := r0) (hb hby at_201) (by show Lb5[_]? = _; rw [hLb5]; rfl) kz) ?_
    show own_Win p e below s _ _ _ (T102.setTop (mkF m 203 Lb5 [(.int r0), (.int p4), (.int p3), (.long p2), (.long p1), (.int (3 : Int32)), (.ref a4), (.ref a3), (.ref a2), (.ref a1)]))
    refine own_st (fun _ kz => XS.iload X102.here hx rfl (v := r1) (hb hby at_203) (by show Lb5[_]? = _; rw [hLb5]; rfl) kz) ?_
    show own_Win p e below s _ _ _ (T102.setTop (mkF m 205 Lb5 [(.int r1), (.int r0), (.int p4), (.int p3), (.long p2), (.long p1), (.int (3 : Int32)), (.ref a4), (.ref a3), (.ref a2), (.ref a1)]))
    refine own_callS X102 hx hZ hown (y := yP) (hw _ (List.mem_of_getElem? (i := 2) rfl)) (hw _ (List.mem_of_getElem? (i := 3) rfl)) (hw _ (List.mem_of_getElem? (i := 4) rfl)) (hw _ (List.mem_of_getElem? (i := 5) rfl)) (by decide) e102 (rmP l Z a0 hw [] a1 a2 a3 a4 3 (3 : Int32) p1 p2 p3 p4 r0 r1 h102 n0 Z102 FF3 q_a1 lt_a1_a2 lt_a2_a3 lt_a3_a4 rfl (by decide) hr0.1 hr0.2 hr1.1 hr1.2) (by decide) (W := 0) (by decide) rfl (by rw [hml]; show Lb5.size = _; rw [hLb5]; rfl) (argsL := [(.ref a1), (.ref a2), (.ref a3), (.ref a4), (.int (3 : Int32)), (.long p1), (.long p2), (.int p3), (.int p4), (.int r0), (.int r1)]) (rest := []) (lenOf pdP rfl) rfl (Nat.le_of_eq rfl) (hb hby at_205) rfl (by decide) (by decide) ?_
    intro T103 v103 L103 X103 hQ103
    obtain ⟨h103, e103⟩ : ∃ z, T103.heap = z := ⟨_, rfl⟩
    rw [e103] at hQ103
    obtain ⟨rfl, M103, K103, FF4⟩ := hQ103
    have N103 := Fr.app N102 M103
    have Z103 : n0 ≤ h103.size := Nat.le_trans Z102 K103.1
    show own_Win p e below s _ _ _ (T103.setTop (mkF m 208 Lb5 []))
    refine own_st (fun _ kz => XS.aload X103.here hx rfl (v := (.ref a1)) (hb hby at_208) (by show Lb5[_]? = _; rw [hLb5]; rfl) rfl kz) ?_
    show own_Win p e below s _ _ _ (T103.setTop (mkF m 210 Lb5 [(.ref a1)]))
    refine own_st (fun _ kz => XS.aload X103.here hx rfl (v := (.ref a2)) (hb hby at_210) (by show Lb5[_]? = _; rw [hLb5]; rfl) rfl kz) ?_
    show own_Win p e below s _ _ _ (T103.setTop (mkF m 212 Lb5 [(.ref a2), (.ref a1)]))
    refine own_st (fun _ kz => XS.aload X103.here hx rfl (v := (.ref a3)) (hb hby at_212) (by show Lb5[_]? = _; rw [hLb5]; rfl) rfl kz) ?_
    show own_Win p e below s _ _ _ (T103.setTop (mkF m 214 Lb5 [(.ref a3), (.ref a2), (.ref a1)]))
    refine own_st (fun _ kz => XS.aload X103.here hx rfl (v := (.ref a4)) (hb hby at_214) (by show Lb5[_]? = _; rw [hLb5]; rfl) rfl kz) ?_
    show own_Win p e below s _ _ _ (T103.setTop (mkF m 216 Lb5 [(.ref a4), (.ref a3), (.ref a2), (.ref a1)]))
    refine own_st (fun _ kz => XS.iconst X103.here hx rfl (hb hby at_216) kz) ?_
    show own_Win p e below s _ _ _ (T103.setTop (mkF m 217 Lb5 [(.int (4 : Int32)), (.ref a4), (.ref a3), (.ref a2), (.ref a1)]))
    refine own_st (fun _ kz => XT.lloadN X103.here hx rfl (v := p1) (hb hby at_217) (by show Lb5[_]? = _; rw [hLb5]; rfl) kz) ?_
    show own_Win p e below s _ _ _ (T103.setTop (mkF m 218 Lb5 [(.long p1), (.int (4 : Int32)), (.ref a4), (.ref a3), (.ref a2), (.ref a1)]))
    refine own_st (fun _ kz => XT.lloadN X103.here hx rfl (v := p2) (hb hby at_218) (by show Lb5[_]? = _; rw [hLb5]; rfl) kz) ?_
    show own_Win p e below s _ _ _ (T103.setTop (mkF m 219 Lb5 [(.long p2), (.long p1), (.int (4 : Int32)), (.ref a4), (.ref a3), (.ref a2), (.ref a1)]))
    refine own_st (fun _ kz => XS.iload X103.here hx rfl (v := p3) (hb hby at_219) (by show Lb5[_]? = _; rw [hLb5]; rfl) kz) ?_
    show own_Win p e below s _ _ _ (T103.setTop (mkF m 221 Lb5 [(.int p3), (.long p2), (.long p1), (.int (4 : Int32)), (.ref a4), (.ref a3), (.ref a2), (.ref a1)]))
    refine own_st (fun _ kz => XS.iload X103.here hx rfl (v := p4) (hb hby at_221) (by show Lb5[_]? = _; rw [hLb5]; rfl) kz) ?_
    show own_Win p e below s _ _ _ (T103.setTop (mkF m 223 Lb5 [(.int p4), (.int p3), (.long p2), (.long p1), (.int (4 : Int32)), (.ref a4), (.ref a3), (.ref a2), (.ref a1)]))
    refine own_st (fun _ kz => XS.iload X103.here hx rfl (v := r0) (hb hby at_223) (by show Lb5[_]? = _; rw [hLb5]; rfl) kz) ?_
    show own_Win p e below s _ _ _ (T103.setTop (mkF m 225 Lb5 [(.int r0), (.int p4), (.int p3), (.long p2), (.long p1), (.int (4 : Int32)), (.ref a4), (.ref a3), (.ref a2), (.ref a1)]))
    refine own_st (fun _ kz => XS.iload X103.here hx rfl (v := r1) (hb hby at_225) (by show Lb5[_]? = _; rw [hLb5]; rfl) kz) ?_
    show own_Win p e below s _ _ _ (T103.setTop (mkF m 227 Lb5 [(.int r1), (.int r0), (.int p4), (.int p3), (.long p2), (.long p1), (.int (4 : Int32)), (.ref a4), (.ref a3), (.ref a2), (.ref a1)]))
    refine own_callS X103 hx hZ hown (y := yP) (hw _ (List.mem_of_getElem? (i := 2) rfl)) (hw _ (List.mem_of_getElem? (i := 3) rfl)) (hw _ (List.mem_of_getElem? (i := 4) rfl)) (hw _ (List.mem_of_getElem? (i := 5) rfl)) (by decide) e103 (rmP l Z a0 hw [] a1 a2 a3 a4 4 (4 : Int32) p1 p2 p3 p4 r0 r1 h103 n0 Z103 FF4 q_a1 lt_a1_a2 lt_a2_a3 lt_a3_a4 rfl (by decide) hr0.1 hr0.2 hr1.1 hr1.2) (by decide) (W := 0) (by decide) rfl (by rw [hml]; show Lb5.size = _; rw [hLb5]; rfl) (argsL := [(.ref a1), (.ref a2), (.ref a3), (.ref a4), (.int (4 : Int32)), (.long p1), (.long p2), (.int p3), (.int p4), (.int r0), (.int r1)]) (rest := []) (lenOf pdP rfl) rfl (Nat.le_of_eq rfl) (hb hby at_227) rfl (by decide) (by decide) ?_
    intro T104 v104 L104 X104 hQ104
    obtain ⟨h104, e104⟩ : ∃ z, T104.heap = z := ⟨_, rfl⟩
    rw [e104] at hQ104
    obtain ⟨rfl, M104, K104, FF5⟩ := hQ104
    have N104 := Fr.app N103 M104
    have Z104 : n0 ≤ h104.size := Nat.le_trans Z103 K104.1
    show own_Win p e below s _ _ _ (T104.setTop (mkF m 230 Lb5 []))
    refine own_st (fun _ kz => XS.aload X104.here hx rfl (v := (.ref a1)) (hb hby at_230) (by show Lb5[_]? = _; rw [hLb5]; rfl) rfl kz) ?_
    show own_Win p e below s _ _ _ (T104.setTop (mkF m 232 Lb5 [(.ref a1)]))
    refine own_st (fun _ kz => XS.aload X104.here hx rfl (v := (.ref a2)) (hb hby at_232) (by show Lb5[_]? = _; rw [hLb5]; rfl) rfl kz) ?_
    show own_Win p e below s _ _ _ (T104.setTop (mkF m 234 Lb5 [(.ref a2), (.ref a1)]))
    refine own_st (fun _ kz => XS.aload X104.here hx rfl (v := (.ref a3)) (hb hby at_234) (by show Lb5[_]? = _; rw [hLb5]; rfl) rfl kz) ?_
    show own_Win p e below s _ _ _ (T104.setTop (mkF m 236 Lb5 [(.ref a3), (.ref a2), (.ref a1)]))
    refine own_st (fun _ kz => XS.aload X104.here hx rfl (v := (.ref a4)) (hb hby at_236) (by show Lb5[_]? = _; rw [hLb5]; rfl) rfl kz) ?_
    show own_Win p e below s _ _ _ (T104.setTop (mkF m 238 Lb5 [(.ref a4), (.ref a3), (.ref a2), (.ref a1)]))
    refine own_st (fun _ kz => XS.iconst X104.here hx rfl (hb hby at_238) kz) ?_
    show own_Win p e below s _ _ _ (T104.setTop (mkF m 239 Lb5 [(.int (5 : Int32)), (.ref a4), (.ref a3), (.ref a2), (.ref a1)]))
    refine own_st (fun _ kz => XT.lloadN X104.here hx rfl (v := p1) (hb hby at_239) (by show Lb5[_]? = _; rw [hLb5]; rfl) kz) ?_
    show own_Win p e below s _ _ _ (T104.setTop (mkF m 240 Lb5 [(.long p1), (.int (5 : Int32)), (.ref a4), (.ref a3), (.ref a2), (.ref a1)]))
    refine own_st (fun _ kz => XT.lloadN X104.here hx rfl (v := p2) (hb hby at_240) (by show Lb5[_]? = _; rw [hLb5]; rfl) kz) ?_
    show own_Win p e below s _ _ _ (T104.setTop (mkF m 241 Lb5 [(.long p2), (.long p1), (.int (5 : Int32)), (.ref a4), (.ref a3), (.ref a2), (.ref a1)]))
    refine own_st (fun _ kz => XS.iload X104.here hx rfl (v := p3) (hb hby at_241) (by show Lb5[_]? = _; rw [hLb5]; rfl) kz) ?_
    show own_Win p e below s _ _ _ (T104.setTop (mkF m 243 Lb5 [(.int p3), (.long p2), (.long p1), (.int (5 : Int32)), (.ref a4), (.ref a3), (.ref a2), (.ref a1)]))
    refine own_st (fun _ kz => XS.iload X104.here hx rfl (v := p4) (hb hby at_243) (by show Lb5[_]? = _; rw [hLb5]; rfl) kz) ?_
    show own_Win p e below s _ _ _ (T104.setTop (mkF m 245 Lb5 [(.int p4), (.int p3), (.long p2), (.long p1), (.int (5 : Int32)), (.ref a4), (.ref a3), (.ref a2), (.ref a1)]))
    refine own_st (fun _ kz => XS.iload X104.here hx rfl (v := r0) (hb hby at_245) (by show Lb5[_]? = _; rw [hLb5]; rfl) kz) ?_
    show own_Win p e below s _ _ _ (T104.setTop (mkF m 247 Lb5 [(.int r0), (.int p4), (.int p3), (.long p2), (.long p1), (.int (5 : Int32)), (.ref a4), (.ref a3), (.ref a2), (.ref a1)]))
    refine own_st (fun _ kz => XS.iload X104.here hx rfl (v := r1) (hb hby at_247) (by show Lb5[_]? = _; rw [hLb5]; rfl) kz) ?_
    show own_Win p e below s _ _ _ (T104.setTop (mkF m 249 Lb5 [(.int r1), (.int r0), (.int p4), (.int p3), (.long p2), (.long p1), (.int (5 : Int32)), (.ref a4), (.ref a3), (.ref a2), (.ref a1)]))
    refine own_callS X104 hx hZ hown (y := yP) (hw _ (List.mem_of_getElem? (i := 2) rfl)) (hw _ (List.mem_of_getElem? (i := 3) rfl)) (hw _ (List.mem_of_getElem? (i := 4) rfl)) (hw _ (List.mem_of_getElem? (i := 5) rfl)) (by decide) e104 (rmP l Z a0 hw [] a1 a2 a3 a4 5 (5 : Int32) p1 p2 p3 p4 r0 r1 h104 n0 Z104 FF5 q_a1 lt_a1_a2 lt_a2_a3 lt_a3_a4 rfl (by decide) hr0.1 hr0.2 hr1.1 hr1.2) (by decide) (W := 0) (by decide) rfl (by rw [hml]; show Lb5.size = _; rw [hLb5]; rfl) (argsL := [(.ref a1), (.ref a2), (.ref a3), (.ref a4), (.int (5 : Int32)), (.long p1), (.long p2), (.int p3), (.int p4), (.int r0), (.int r1)]) (rest := []) (lenOf pdP rfl) rfl (Nat.le_of_eq rfl) (hb hby at_249) rfl (by decide) (by decide) ?_
    intro T105 v105 L105 X105 hQ105
    obtain ⟨h105, e105⟩ : ∃ z, T105.heap = z := ⟨_, rfl⟩
    rw [e105] at hQ105
    obtain ⟨rfl, M105, K105, FF6⟩ := hQ105
    have N105 := Fr.app N104 M105
    have Z105 : n0 ≤ h105.size := Nat.le_trans Z104 K105.1
    show own_Win p e below s _ _ _ (T105.setTop (mkF m 252 Lb5 []))
    refine own_st (fun _ kz => XS.aload X105.here hx rfl (v := (.ref a1)) (hb hby at_252) (by show Lb5[_]? = _; rw [hLb5]; rfl) rfl kz) ?_
    show own_Win p e below s _ _ _ (T105.setTop (mkF m 254 Lb5 [(.ref a1)]))
    refine own_st (fun _ kz => XS.aload X105.here hx rfl (v := (.ref a2)) (hb hby at_254) (by show Lb5[_]? = _; rw [hLb5]; rfl) rfl kz) ?_
    show own_Win p e below s _ _ _ (T105.setTop (mkF m 256 Lb5 [(.ref a2), (.ref a1)]))
    refine own_st (fun _ kz => XS.aload X105.here hx rfl (v := (.ref a3)) (hb hby at_256) (by show Lb5[_]? = _; rw [hLb5]; rfl) rfl kz) ?_
    show own_Win p e below s _ _ _ (T105.setTop (mkF m 258 Lb5 [(.ref a3), (.ref a2), (.ref a1)]))
    refine own_st (fun _ kz => XS.aload X105.here hx rfl (v := (.ref a4)) (hb hby at_258) (by show Lb5[_]? = _; rw [hLb5]; rfl) rfl kz) ?_
    show own_Win p e below s _ _ _ (T105.setTop (mkF m 260 Lb5 [(.ref a4), (.ref a3), (.ref a2), (.ref a1)]))
    refine own_st (fun _ kz => XS.bipush X105.here hx rfl (hb hby at_260) kz) ?_
    show own_Win p e below s _ _ _ (T105.setTop (mkF m 262 Lb5 [(.int (6 : Int32)), (.ref a4), (.ref a3), (.ref a2), (.ref a1)]))
    refine own_st (fun _ kz => XT.lloadN X105.here hx rfl (v := p1) (hb hby at_262) (by show Lb5[_]? = _; rw [hLb5]; rfl) kz) ?_
    show own_Win p e below s _ _ _ (T105.setTop (mkF m 263 Lb5 [(.long p1), (.int (6 : Int32)), (.ref a4), (.ref a3), (.ref a2), (.ref a1)]))
    refine own_st (fun _ kz => XT.lloadN X105.here hx rfl (v := p2) (hb hby at_263) (by show Lb5[_]? = _; rw [hLb5]; rfl) kz) ?_
    show own_Win p e below s _ _ _ (T105.setTop (mkF m 264 Lb5 [(.long p2), (.long p1), (.int (6 : Int32)), (.ref a4), (.ref a3), (.ref a2), (.ref a1)]))
    refine own_st (fun _ kz => XS.iload X105.here hx rfl (v := p3) (hb hby at_264) (by show Lb5[_]? = _; rw [hLb5]; rfl) kz) ?_
    show own_Win p e below s _ _ _ (T105.setTop (mkF m 266 Lb5 [(.int p3), (.long p2), (.long p1), (.int (6 : Int32)), (.ref a4), (.ref a3), (.ref a2), (.ref a1)]))
    refine own_st (fun _ kz => XS.iload X105.here hx rfl (v := p4) (hb hby at_266) (by show Lb5[_]? = _; rw [hLb5]; rfl) kz) ?_
    show own_Win p e below s _ _ _ (T105.setTop (mkF m 268 Lb5 [(.int p4), (.int p3), (.long p2), (.long p1), (.int (6 : Int32)), (.ref a4), (.ref a3), (.ref a2), (.ref a1)]))
    refine own_st (fun _ kz => XS.iload X105.here hx rfl (v := r0) (hb hby at_268) (by show Lb5[_]? = _; rw [hLb5]; rfl) kz) ?_
    show own_Win p e below s _ _ _ (T105.setTop (mkF m 270 Lb5 [(.int r0), (.int p4), (.int p3), (.long p2), (.long p1), (.int (6 : Int32)), (.ref a4), (.ref a3), (.ref a2), (.ref a1)]))
    refine own_st (fun _ kz => XS.iload X105.here hx rfl (v := r1) (hb hby at_270) (by show Lb5[_]? = _; rw [hLb5]; rfl) kz) ?_
    show own_Win p e below s _ _ _ (T105.setTop (mkF m 272 Lb5 [(.int r1), (.int r0), (.int p4), (.int p3), (.long p2), (.long p1), (.int (6 : Int32)), (.ref a4), (.ref a3), (.ref a2), (.ref a1)]))
    refine own_callS X105 hx hZ hown (y := yP) (hw _ (List.mem_of_getElem? (i := 2) rfl)) (hw _ (List.mem_of_getElem? (i := 3) rfl)) (hw _ (List.mem_of_getElem? (i := 4) rfl)) (hw _ (List.mem_of_getElem? (i := 5) rfl)) (by decide) e105 (rmP l Z a0 hw [] a1 a2 a3 a4 6 (6 : Int32) p1 p2 p3 p4 r0 r1 h105 n0 Z105 FF6 q_a1 lt_a1_a2 lt_a2_a3 lt_a3_a4 rfl (by decide) hr0.1 hr0.2 hr1.1 hr1.2) (by decide) (W := 0) (by decide) rfl (by rw [hml]; show Lb5.size = _; rw [hLb5]; rfl) (argsL := [(.ref a1), (.ref a2), (.ref a3), (.ref a4), (.int (6 : Int32)), (.long p1), (.long p2), (.int p3), (.int p4), (.int r0), (.int r1)]) (rest := []) (lenOf pdP rfl) rfl (Nat.le_of_eq rfl) (hb hby at_272) rfl (by decide) (by decide) ?_
    intro T106 v106 L106 X106 hQ106
    obtain ⟨h106, e106⟩ : ∃ z, T106.heap = z := ⟨_, rfl⟩
    rw [e106] at hQ106
    obtain ⟨rfl, M106, K106, FF7⟩ := hQ106
    have N106 := Fr.app N105 M106
    have Z106 : n0 ≤ h106.size := Nat.le_trans Z105 K106.1
    show own_Win p e below s _ _ _ (T106.setTop (mkF m 275 Lb5 []))
    refine own_st (fun _ kz => XS.aload X106.here hx rfl (v := (.ref a1)) (hb hby at_275) (by show Lb5[_]? = _; rw [hLb5]; rfl) rfl kz) ?_
    show own_Win p e below s _ _ _ (T106.setTop (mkF m 277 Lb5 [(.ref a1)]))
    refine own_st (fun _ kz => XS.aload X106.here hx rfl (v := (.ref a2)) (hb hby at_277) (by show Lb5[_]? = _; rw [hLb5]; rfl) rfl kz) ?_
    show own_Win p e below s _ _ _ (T106.setTop (mkF m 279 Lb5 [(.ref a2), (.ref a1)]))
    refine own_st (fun _ kz => XS.aload X106.here hx rfl (v := (.ref a3)) (hb hby at_279) (by show Lb5[_]? = _; rw [hLb5]; rfl) rfl kz) ?_
    show own_Win p e below s _ _ _ (T106.setTop (mkF m 281 Lb5 [(.ref a3), (.ref a2), (.ref a1)]))
    refine own_st (fun _ kz => XS.aload X106.here hx rfl (v := (.ref a4)) (hb hby at_281) (by show Lb5[_]? = _; rw [hLb5]; rfl) rfl kz) ?_
    show own_Win p e below s _ _ _ (T106.setTop (mkF m 283 Lb5 [(.ref a4), (.ref a3), (.ref a2), (.ref a1)]))
    refine own_st (fun _ kz => XS.bipush X106.here hx rfl (hb hby at_283) kz) ?_
    show own_Win p e below s _ _ _ (T106.setTop (mkF m 285 Lb5 [(.int (7 : Int32)), (.ref a4), (.ref a3), (.ref a2), (.ref a1)]))
    refine own_st (fun _ kz => XT.lloadN X106.here hx rfl (v := p1) (hb hby at_285) (by show Lb5[_]? = _; rw [hLb5]; rfl) kz) ?_
    show own_Win p e below s _ _ _ (T106.setTop (mkF m 286 Lb5 [(.long p1), (.int (7 : Int32)), (.ref a4), (.ref a3), (.ref a2), (.ref a1)]))
    refine own_st (fun _ kz => XT.lloadN X106.here hx rfl (v := p2) (hb hby at_286) (by show Lb5[_]? = _; rw [hLb5]; rfl) kz) ?_
    show own_Win p e below s _ _ _ (T106.setTop (mkF m 287 Lb5 [(.long p2), (.long p1), (.int (7 : Int32)), (.ref a4), (.ref a3), (.ref a2), (.ref a1)]))
    refine own_st (fun _ kz => XS.iload X106.here hx rfl (v := p3) (hb hby at_287) (by show Lb5[_]? = _; rw [hLb5]; rfl) kz) ?_
    show own_Win p e below s _ _ _ (T106.setTop (mkF m 289 Lb5 [(.int p3), (.long p2), (.long p1), (.int (7 : Int32)), (.ref a4), (.ref a3), (.ref a2), (.ref a1)]))
    refine own_st (fun _ kz => XS.iload X106.here hx rfl (v := p4) (hb hby at_289) (by show Lb5[_]? = _; rw [hLb5]; rfl) kz) ?_
    show own_Win p e below s _ _ _ (T106.setTop (mkF m 291 Lb5 [(.int p4), (.int p3), (.long p2), (.long p1), (.int (7 : Int32)), (.ref a4), (.ref a3), (.ref a2), (.ref a1)]))
    refine own_st (fun _ kz => XS.iload X106.here hx rfl (v := r0) (hb hby at_291) (by show Lb5[_]? = _; rw [hLb5]; rfl) kz) ?_
    show own_Win p e below s _ _ _ (T106.setTop (mkF m 293 Lb5 [(.int r0), (.int p4), (.int p3), (.long p2), (.long p1), (.int (7 : Int32)), (.ref a4), (.ref a3), (.ref a2), (.ref a1)]))
    refine own_st (fun _ kz => XS.iload X106.here hx rfl (v := r1) (hb hby at_293) (by show Lb5[_]? = _; rw [hLb5]; rfl) kz) ?_
    show own_Win p e below s _ _ _ (T106.setTop (mkF m 295 Lb5 [(.int r1), (.int r0), (.int p4), (.int p3), (.long p2), (.long p1), (.int (7 : Int32)), (.ref a4), (.ref a3), (.ref a2), (.ref a1)]))
    refine own_callS X106 hx hZ hown (y := yP) (hw _ (List.mem_of_getElem? (i := 2) rfl)) (hw _ (List.mem_of_getElem? (i := 3) rfl)) (hw _ (List.mem_of_getElem? (i := 4) rfl)) (hw _ (List.mem_of_getElem? (i := 5) rfl)) (by decide) e106 (rmP l Z a0 hw [] a1 a2 a3 a4 7 (7 : Int32) p1 p2 p3 p4 r0 r1 h106 n0 Z106 FF7 q_a1 lt_a1_a2 lt_a2_a3 lt_a3_a4 rfl (by decide) hr0.1 hr0.2 hr1.1 hr1.2) (by decide) (W := 0) (by decide) rfl (by rw [hml]; show Lb5.size = _; rw [hLb5]; rfl) (argsL := [(.ref a1), (.ref a2), (.ref a3), (.ref a4), (.int (7 : Int32)), (.long p1), (.long p2), (.int p3), (.int p4), (.int r0), (.int r1)]) (rest := []) (lenOf pdP rfl) rfl (Nat.le_of_eq rfl) (hb hby at_295) rfl (by decide) (by decide) ?_
    intro T107 v107 L107 X107 hQ107
    obtain ⟨h107, e107⟩ : ∃ z, T107.heap = z := ⟨_, rfl⟩
    rw [e107] at hQ107
    obtain ⟨rfl, M107, K107, FF8⟩ := hQ107
    have N107 := Fr.app N106 M107
    have Z107 : n0 ≤ h107.size := Nat.le_trans Z106 K107.1
    show own_Win p e below s _ _ _ (T107.setTop (mkF m 298 Lb5 []))
    refine own_st (fun _ kz => XS.aload X107.here hx rfl (v := (.ref a1)) (hb hby at_298) (by show Lb5[_]? = _; rw [hLb5]; rfl) rfl kz) ?_
    show own_Win p e below s _ _ _ (T107.setTop (mkF m 300 Lb5 [(.ref a1)]))
    refine own_st (fun _ kz => XS.aload X107.here hx rfl (v := (.ref a2)) (hb hby at_300) (by show Lb5[_]? = _; rw [hLb5]; rfl) rfl kz) ?_
    show own_Win p e below s _ _ _ (T107.setTop (mkF m 302 Lb5 [(.ref a2), (.ref a1)]))
    refine own_st (fun _ kz => XS.aload X107.here hx rfl (v := (.ref a3)) (hb hby at_302) (by show Lb5[_]? = _; rw [hLb5]; rfl) rfl kz) ?_
    show own_Win p e below s _ _ _ (T107.setTop (mkF m 304 Lb5 [(.ref a3), (.ref a2), (.ref a1)]))
    refine own_st (fun _ kz => XS.aload X107.here hx rfl (v := (.ref a4)) (hb hby at_304) (by show Lb5[_]? = _; rw [hLb5]; rfl) rfl kz) ?_
    show own_Win p e below s _ _ _ (T107.setTop (mkF m 306 Lb5 [(.ref a4), (.ref a3), (.ref a2), (.ref a1)]))
    refine own_st (fun _ kz => XS.bipush X107.here hx rfl (hb hby at_306) kz) ?_
    show own_Win p e below s _ _ _ (T107.setTop (mkF m 308 Lb5 [(.int (8 : Int32)), (.ref a4), (.ref a3), (.ref a2), (.ref a1)]))
    refine own_st (fun _ kz => XT.lloadN X107.here hx rfl (v := p1) (hb hby at_308) (by show Lb5[_]? = _; rw [hLb5]; rfl) kz) ?_
    show own_Win p e below s _ _ _ (T107.setTop (mkF m 309 Lb5 [(.long p1), (.int (8 : Int32)), (.ref a4), (.ref a3), (.ref a2), (.ref a1)]))
    refine own_st (fun _ kz => XT.lloadN X107.here hx rfl (v := p2) (hb hby at_309) (by show Lb5[_]? = _; rw [hLb5]; rfl) kz) ?_
    show own_Win p e below s _ _ _ (T107.setTop (mkF m 310 Lb5 [(.long p2), (.long p1), (.int (8 : Int32)), (.ref a4), (.ref a3), (.ref a2), (.ref a1)]))
    refine own_st (fun _ kz => XS.iload X107.here hx rfl (v := p3) (hb hby at_310) (by show Lb5[_]? = _; rw [hLb5]; rfl) kz) ?_
    show own_Win p e below s _ _ _ (T107.setTop (mkF m 312 Lb5 [(.int p3), (.long p2), (.long p1), (.int (8 : Int32)), (.ref a4), (.ref a3), (.ref a2), (.ref a1)]))
    refine own_st (fun _ kz => XS.iload X107.here hx rfl (v := p4) (hb hby at_312) (by show Lb5[_]? = _; rw [hLb5]; rfl) kz) ?_
    show own_Win p e below s _ _ _ (T107.setTop (mkF m 314 Lb5 [(.int p4), (.int p3), (.long p2), (.long p1), (.int (8 : Int32)), (.ref a4), (.ref a3), (.ref a2), (.ref a1)]))
    refine own_st (fun _ kz => XS.iload X107.here hx rfl (v := r0) (hb hby at_314) (by show Lb5[_]? = _; rw [hLb5]; rfl) kz) ?_
    show own_Win p e below s _ _ _ (T107.setTop (mkF m 316 Lb5 [(.int r0), (.int p4), (.int p3), (.long p2), (.long p1), (.int (8 : Int32)), (.ref a4), (.ref a3), (.ref a2), (.ref a1)]))
    refine own_st (fun _ kz => XS.iload X107.here hx rfl (v := r1) (hb hby at_316) (by show Lb5[_]? = _; rw [hLb5]; rfl) kz) ?_
    show own_Win p e below s _ _ _ (T107.setTop (mkF m 318 Lb5 [(.int r1), (.int r0), (.int p4), (.int p3), (.long p2), (.long p1), (.int (8 : Int32)), (.ref a4), (.ref a3), (.ref a2), (.ref a1)]))
    refine own_callS X107 hx hZ hown (y := yP) (hw _ (List.mem_of_getElem? (i := 2) rfl)) (hw _ (List.mem_of_getElem? (i := 3) rfl)) (hw _ (List.mem_of_getElem? (i := 4) rfl)) (hw _ (List.mem_of_getElem? (i := 5) rfl)) (by decide) e107 (rmP l Z a0 hw [] a1 a2 a3 a4 8 (8 : Int32) p1 p2 p3 p4 r0 r1 h107 n0 Z107 FF8 q_a1 lt_a1_a2 lt_a2_a3 lt_a3_a4 rfl (by decide) hr0.1 hr0.2 hr1.1 hr1.2) (by decide) (W := 0) (by decide) rfl (by rw [hml]; show Lb5.size = _; rw [hLb5]; rfl) (argsL := [(.ref a1), (.ref a2), (.ref a3), (.ref a4), (.int (8 : Int32)), (.long p1), (.long p2), (.int p3), (.int p4), (.int r0), (.int r1)]) (rest := []) (lenOf pdP rfl) rfl (Nat.le_of_eq rfl) (hb hby at_318) rfl (by decide) (by decide) ?_
    intro T108 v108 L108 X108 hQ108
    obtain ⟨h108, e108⟩ : ∃ z, T108.heap = z := ⟨_, rfl⟩
    rw [e108] at hQ108
    obtain ⟨rfl, M108, K108, FF9⟩ := hQ108
    have N108 := Fr.app N107 M108
    have Z108 : n0 ≤ h108.size := Nat.le_trans Z107 K108.1
    show own_Win p e below s _ _ _ (T108.setTop (mkF m 321 Lb5 []))
    refine own_st (fun _ kz => XS.aload X108.here hx rfl (v := (.ref a1)) (hb hby at_321) (by show Lb5[_]? = _; rw [hLb5]; rfl) rfl kz) ?_
    show own_Win p e below s _ _ _ (T108.setTop (mkF m 323 Lb5 [(.ref a1)]))
    refine own_st (fun _ kz => XS.aload X108.here hx rfl (v := (.ref a2)) (hb hby at_323) (by show Lb5[_]? = _; rw [hLb5]; rfl) rfl kz) ?_
    show own_Win p e below s _ _ _ (T108.setTop (mkF m 325 Lb5 [(.ref a2), (.ref a1)]))
    refine own_st (fun _ kz => XS.aload X108.here hx rfl (v := (.ref a3)) (hb hby at_325) (by show Lb5[_]? = _; rw [hLb5]; rfl) rfl kz) ?_
    show own_Win p e below s _ _ _ (T108.setTop (mkF m 327 Lb5 [(.ref a3), (.ref a2), (.ref a1)]))
    refine own_st (fun _ kz => XS.aload X108.here hx rfl (v := (.ref a4)) (hb hby at_327) (by show Lb5[_]? = _; rw [hLb5]; rfl) rfl kz) ?_
    show own_Win p e below s _ _ _ (T108.setTop (mkF m 329 Lb5 [(.ref a4), (.ref a3), (.ref a2), (.ref a1)]))
    refine own_st (fun _ kz => XS.bipush X108.here hx rfl (hb hby at_329) kz) ?_
    show own_Win p e below s _ _ _ (T108.setTop (mkF m 331 Lb5 [(.int (9 : Int32)), (.ref a4), (.ref a3), (.ref a2), (.ref a1)]))
    refine own_st (fun _ kz => XT.lloadN X108.here hx rfl (v := p1) (hb hby at_331) (by show Lb5[_]? = _; rw [hLb5]; rfl) kz) ?_
    show own_Win p e below s _ _ _ (T108.setTop (mkF m 332 Lb5 [(.long p1), (.int (9 : Int32)), (.ref a4), (.ref a3), (.ref a2), (.ref a1)]))
    refine own_st (fun _ kz => XT.lloadN X108.here hx rfl (v := p2) (hb hby at_332) (by show Lb5[_]? = _; rw [hLb5]; rfl) kz) ?_
    show own_Win p e below s _ _ _ (T108.setTop (mkF m 333 Lb5 [(.long p2), (.long p1), (.int (9 : Int32)), (.ref a4), (.ref a3), (.ref a2), (.ref a1)]))
    refine own_st (fun _ kz => XS.iload X108.here hx rfl (v := p3) (hb hby at_333) (by show Lb5[_]? = _; rw [hLb5]; rfl) kz) ?_
    show own_Win p e below s _ _ _ (T108.setTop (mkF m 335 Lb5 [(.int p3), (.long p2), (.long p1), (.int (9 : Int32)), (.ref a4), (.ref a3), (.ref a2), (.ref a1)]))
    refine own_st (fun _ kz => XS.iload X108.here hx rfl (v := p4) (hb hby at_335) (by show Lb5[_]? = _; rw [hLb5]; rfl) kz) ?_
    show own_Win p e below s _ _ _ (T108.setTop (mkF m 337 Lb5 [(.int p4), (.int p3), (.long p2), (.long p1), (.int (9 : Int32)), (.ref a4), (.ref a3), (.ref a2), (.ref a1)]))
    refine own_st (fun _ kz => XS.iload X108.here hx rfl (v := r0) (hb hby at_337) (by show Lb5[_]? = _; rw [hLb5]; rfl) kz) ?_
    show own_Win p e below s _ _ _ (T108.setTop (mkF m 339 Lb5 [(.int r0), (.int p4), (.int p3), (.long p2), (.long p1), (.int (9 : Int32)), (.ref a4), (.ref a3), (.ref a2), (.ref a1)]))
    refine own_st (fun _ kz => XS.iload X108.here hx rfl (v := r1) (hb hby at_339) (by show Lb5[_]? = _; rw [hLb5]; rfl) kz) ?_
    show own_Win p e below s _ _ _ (T108.setTop (mkF m 341 Lb5 [(.int r1), (.int r0), (.int p4), (.int p3), (.long p2), (.long p1), (.int (9 : Int32)), (.ref a4), (.ref a3), (.ref a2), (.ref a1)]))
    refine own_callS X108 hx hZ hown (y := yP) (hw _ (List.mem_of_getElem? (i := 2) rfl)) (hw _ (List.mem_of_getElem? (i := 3) rfl)) (hw _ (List.mem_of_getElem? (i := 4) rfl)) (hw _ (List.mem_of_getElem? (i := 5) rfl)) (by decide) e108 (rmP l Z a0 hw [] a1 a2 a3 a4 9 (9 : Int32) p1 p2 p3 p4 r0 r1 h108 n0 Z108 FF9 q_a1 lt_a1_a2 lt_a2_a3 lt_a3_a4 rfl (by decide) hr0.1 hr0.2 hr1.1 hr1.2) (by decide) (W := 0) (by decide) rfl (by rw [hml]; show Lb5.size = _; rw [hLb5]; rfl) (argsL := [(.ref a1), (.ref a2), (.ref a3), (.ref a4), (.int (9 : Int32)), (.long p1), (.long p2), (.int p3), (.int p4), (.int r0), (.int r1)]) (rest := []) (lenOf pdP rfl) rfl (Nat.le_of_eq rfl) (hb hby at_341) rfl (by decide) (by decide) ?_
    intro T109 v109 L109 X109 hQ109
    obtain ⟨h109, e109⟩ : ∃ z, T109.heap = z := ⟨_, rfl⟩
    rw [e109] at hQ109
    obtain ⟨rfl, M109, K109, FF10⟩ := hQ109
    have N109 := Fr.app N108 M109
    have Z109 : n0 ≤ h109.size := Nat.le_trans Z108 K109.1
    show own_Win p e below s _ _ _ (T109.setTop (mkF m 344 Lb5 []))
    refine own_st (fun _ kz => XS.aload X109.here hx rfl (v := (.ref a1)) (hb hby at_344) (by show Lb5[_]? = _; rw [hLb5]; rfl) rfl kz) ?_
    show own_Win p e below s _ _ _ (T109.setTop (mkF m 346 Lb5 [(.ref a1)]))
    refine own_st (fun _ kz => XS.aload X109.here hx rfl (v := (.ref a2)) (hb hby at_346) (by show Lb5[_]? = _; rw [hLb5]; rfl) rfl kz) ?_
    show own_Win p e below s _ _ _ (T109.setTop (mkF m 348 Lb5 [(.ref a2), (.ref a1)]))
    refine own_st (fun _ kz => XS.aload X109.here hx rfl (v := (.ref a3)) (hb hby at_348) (by show Lb5[_]? = _; rw [hLb5]; rfl) rfl kz) ?_
    show own_Win p e below s _ _ _ (T109.setTop (mkF m 350 Lb5 [(.ref a3), (.ref a2), (.ref a1)]))
    refine own_st (fun _ kz => XS.aload X109.here hx rfl (v := (.ref a4)) (hb hby at_350) (by show Lb5[_]? = _; rw [hLb5]; rfl) rfl kz) ?_
    show own_Win p e below s _ _ _ (T109.setTop (mkF m 352 Lb5 [(.ref a4), (.ref a3), (.ref a2), (.ref a1)]))
    refine own_st (fun _ kz => XS.bipush X109.here hx rfl (hb hby at_352) kz) ?_
    show own_Win p e below s _ _ _ (T109.setTop (mkF m 354 Lb5 [(.int (10 : Int32)), (.ref a4), (.ref a3), (.ref a2), (.ref a1)]))
    refine own_st (fun _ kz => XT.lloadN X109.here hx rfl (v := p1) (hb hby at_354) (by show Lb5[_]? = _; rw [hLb5]; rfl) kz) ?_
    show own_Win p e below s _ _ _ (T109.setTop (mkF m 355 Lb5 [(.long p1), (.int (10 : Int32)), (.ref a4), (.ref a3), (.ref a2), (.ref a1)]))
    refine own_st (fun _ kz => XT.lloadN X109.here hx rfl (v := p2) (hb hby at_355) (by show Lb5[_]? = _; rw [hLb5]; rfl) kz) ?_
    show own_Win p e below s _ _ _ (T109.setTop (mkF m 356 Lb5 [(.long p2), (.long p1), (.int (10 : Int32)), (.ref a4), (.ref a3), (.ref a2), (.ref a1)]))
    refine own_st (fun _ kz => XS.iload X109.here hx rfl (v := p3) (hb hby at_356) (by show Lb5[_]? = _; rw [hLb5]; rfl) kz) ?_
    show own_Win p e below s _ _ _ (T109.setTop (mkF m 358 Lb5 [(.int p3), (.long p2), (.long p1), (.int (10 : Int32)), (.ref a4), (.ref a3), (.ref a2), (.ref a1)]))
    refine own_st (fun _ kz => XS.iload X109.here hx rfl (v := p4) (hb hby at_358) (by show Lb5[_]? = _; rw [hLb5]; rfl) kz) ?_
    show own_Win p e below s _ _ _ (T109.setTop (mkF m 360 Lb5 [(.int p4), (.int p3), (.long p2), (.long p1), (.int (10 : Int32)), (.ref a4), (.ref a3), (.ref a2), (.ref a1)]))
    refine own_st (fun _ kz => XS.iload X109.here hx rfl (v := r0) (hb hby at_360) (by show Lb5[_]? = _; rw [hLb5]; rfl) kz) ?_
    show own_Win p e below s _ _ _ (T109.setTop (mkF m 362 Lb5 [(.int r0), (.int p4), (.int p3), (.long p2), (.long p1), (.int (10 : Int32)), (.ref a4), (.ref a3), (.ref a2), (.ref a1)]))
    refine own_st (fun _ kz => XS.iload X109.here hx rfl (v := r1) (hb hby at_362) (by show Lb5[_]? = _; rw [hLb5]; rfl) kz) ?_
    show own_Win p e below s _ _ _ (T109.setTop (mkF m 364 Lb5 [(.int r1), (.int r0), (.int p4), (.int p3), (.long p2), (.long p1), (.int (10 : Int32)), (.ref a4), (.ref a3), (.ref a2), (.ref a1)]))
    refine own_callS X109 hx hZ hown (y := yP) (hw _ (List.mem_of_getElem? (i := 2) rfl)) (hw _ (List.mem_of_getElem? (i := 3) rfl)) (hw _ (List.mem_of_getElem? (i := 4) rfl)) (hw _ (List.mem_of_getElem? (i := 5) rfl)) (by decide) e109 (rmP l Z a0 hw [] a1 a2 a3 a4 10 (10 : Int32) p1 p2 p3 p4 r0 r1 h109 n0 Z109 FF10 q_a1 lt_a1_a2 lt_a2_a3 lt_a3_a4 rfl (by decide) hr0.1 hr0.2 hr1.1 hr1.2) (by decide) (W := 0) (by decide) rfl (by rw [hml]; show Lb5.size = _; rw [hLb5]; rfl) (argsL := [(.ref a1), (.ref a2), (.ref a3), (.ref a4), (.int (10 : Int32)), (.long p1), (.long p2), (.int p3), (.int p4), (.int r0), (.int r1)]) (rest := []) (lenOf pdP rfl) rfl (Nat.le_of_eq rfl) (hb hby at_364) rfl (by decide) (by decide) ?_
    intro T110 v110 L110 X110 hQ110
    obtain ⟨h110, e110⟩ : ∃ z, T110.heap = z := ⟨_, rfl⟩
    rw [e110] at hQ110
    obtain ⟨rfl, M110, K110, FF11⟩ := hQ110
    have N110 := Fr.app N109 M110
    have Z110 : n0 ≤ h110.size := Nat.le_trans Z109 K110.1
    show own_Win p e below s _ _ _ (T110.setTop (mkF m 367 Lb5 []))
    refine own_st (fun _ kz => XS.aload X110.here hx rfl (v := (.ref a1)) (hb hby at_367) (by show Lb5[_]? = _; rw [hLb5]; rfl) rfl kz) ?_
    show own_Win p e below s _ _ _ (T110.setTop (mkF m 369 Lb5 [(.ref a1)]))
    refine own_st (fun _ kz => XS.aload X110.here hx rfl (v := (.ref a2)) (hb hby at_369) (by show Lb5[_]? = _; rw [hLb5]; rfl) rfl kz) ?_
    show own_Win p e below s _ _ _ (T110.setTop (mkF m 371 Lb5 [(.ref a2), (.ref a1)]))
    refine own_st (fun _ kz => XS.aload X110.here hx rfl (v := (.ref a3)) (hb hby at_371) (by show Lb5[_]? = _; rw [hLb5]; rfl) rfl kz) ?_
    show own_Win p e below s _ _ _ (T110.setTop (mkF m 373 Lb5 [(.ref a3), (.ref a2), (.ref a1)]))
    refine own_st (fun _ kz => XS.aload X110.here hx rfl (v := (.ref a4)) (hb hby at_373) (by show Lb5[_]? = _; rw [hLb5]; rfl) rfl kz) ?_
    show own_Win p e below s _ _ _ (T110.setTop (mkF m 375 Lb5 [(.ref a4), (.ref a3), (.ref a2), (.ref a1)]))
    refine own_st (fun _ kz => XS.bipush X110.here hx rfl (hb hby at_375) kz) ?_
    show own_Win p e below s _ _ _ (T110.setTop (mkF m 377 Lb5 [(.int (11 : Int32)), (.ref a4), (.ref a3), (.ref a2), (.ref a1)]))
    refine own_st (fun _ kz => XT.lloadN X110.here hx rfl (v := p1) (hb hby at_377) (by show Lb5[_]? = _; rw [hLb5]; rfl) kz) ?_
    show own_Win p e below s _ _ _ (T110.setTop (mkF m 378 Lb5 [(.long p1), (.int (11 : Int32)), (.ref a4), (.ref a3), (.ref a2), (.ref a1)]))
    refine own_st (fun _ kz => XT.lloadN X110.here hx rfl (v := p2) (hb hby at_378) (by show Lb5[_]? = _; rw [hLb5]; rfl) kz) ?_
    show own_Win p e below s _ _ _ (T110.setTop (mkF m 379 Lb5 [(.long p2), (.long p1), (.int (11 : Int32)), (.ref a4), (.ref a3), (.ref a2), (.ref a1)]))
    refine own_st (fun _ kz => XS.iload X110.here hx rfl (v := p3) (hb hby at_379) (by show Lb5[_]? = _; rw [hLb5]; rfl) kz) ?_
    show own_Win p e below s _ _ _ (T110.setTop (mkF m 381 Lb5 [(.int p3), (.long p2), (.long p1), (.int (11 : Int32)), (.ref a4), (.ref a3), (.ref a2), (.ref a1)]))
    refine own_st (fun _ kz => XS.iload X110.here hx rfl (v := p4) (hb hby at_381) (by show Lb5[_]? = _; rw [hLb5]; rfl) kz) ?_
    show own_Win p e below s _ _ _ (T110.setTop (mkF m 383 Lb5 [(.int p4), (.int p3), (.long p2), (.long p1), (.int (11 : Int32)), (.ref a4), (.ref a3), (.ref a2), (.ref a1)]))
    refine own_st (fun _ kz => XS.iload X110.here hx rfl (v := r0) (hb hby at_383) (by show Lb5[_]? = _; rw [hLb5]; rfl) kz) ?_
    show own_Win p e below s _ _ _ (T110.setTop (mkF m 385 Lb5 [(.int r0), (.int p4), (.int p3), (.long p2), (.long p1), (.int (11 : Int32)), (.ref a4), (.ref a3), (.ref a2), (.ref a1)]))
    refine own_st (fun _ kz => XS.iload X110.here hx rfl (v := r1) (hb hby at_385) (by show Lb5[_]? = _; rw [hLb5]; rfl) kz) ?_
    show own_Win p e below s _ _ _ (T110.setTop (mkF m 387 Lb5 [(.int r1), (.int r0), (.int p4), (.int p3), (.long p2), (.long p1), (.int (11 : Int32)), (.ref a4), (.ref a3), (.ref a2), (.ref a1)]))
    refine own_callS X110 hx hZ hown (y := yP) (hw _ (List.mem_of_getElem? (i := 2) rfl)) (hw _ (List.mem_of_getElem? (i := 3) rfl)) (hw _ (List.mem_of_getElem? (i := 4) rfl)) (hw _ (List.mem_of_getElem? (i := 5) rfl)) (by decide) e110 (rmP l Z a0 hw [] a1 a2 a3 a4 11 (11 : Int32) p1 p2 p3 p4 r0 r1 h110 n0 Z110 FF11 q_a1 lt_a1_a2 lt_a2_a3 lt_a3_a4 rfl (by decide) hr0.1 hr0.2 hr1.1 hr1.2) (by decide) (W := 0) (by decide) rfl (by rw [hml]; show Lb5.size = _; rw [hLb5]; rfl) (argsL := [(.ref a1), (.ref a2), (.ref a3), (.ref a4), (.int (11 : Int32)), (.long p1), (.long p2), (.int p3), (.int p4), (.int r0), (.int r1)]) (rest := []) (lenOf pdP rfl) rfl (Nat.le_of_eq rfl) (hb hby at_387) rfl (by decide) (by decide) ?_
    intro T111 v111 L111 X111 hQ111
    obtain ⟨h111, e111⟩ : ∃ z, T111.heap = z := ⟨_, rfl⟩
    rw [e111] at hQ111
    obtain ⟨rfl, M111, K111, FF12⟩ := hQ111
    have N111 := Fr.app N110 M111
    have Z111 : n0 ≤ h111.size := Nat.le_trans Z110 K111.1
    show own_Win p e below s _ _ _ (T111.setTop (mkF m 390 Lb5 []))
    refine own_st (fun _ kz => XS.aload X111.here hx rfl (v := (.ref a1)) (hb hby at_390) (by show Lb5[_]? = _; rw [hLb5]; rfl) rfl kz) ?_
    show own_Win p e below s _ _ _ (T111.setTop (mkF m 392 Lb5 [(.ref a1)]))
    refine own_st (fun _ kz => XS.aload X111.here hx rfl (v := (.ref a2)) (hb hby at_392) (by show Lb5[_]? = _; rw [hLb5]; rfl) rfl kz) ?_
    show own_Win p e below s _ _ _ (T111.setTop (mkF m 394 Lb5 [(.ref a2), (.ref a1)]))
    refine own_st (fun _ kz => XS.aload X111.here hx rfl (v := (.ref a3)) (hb hby at_394) (by show Lb5[_]? = _; rw [hLb5]; rfl) rfl kz) ?_
    show own_Win p e below s _ _ _ (T111.setTop (mkF m 396 Lb5 [(.ref a3), (.ref a2), (.ref a1)]))
    refine own_st (fun _ kz => XS.aload X111.here hx rfl (v := (.ref a4)) (hb hby at_396) (by show Lb5[_]? = _; rw [hLb5]; rfl) rfl kz) ?_
    show own_Win p e below s _ _ _ (T111.setTop (mkF m 398 Lb5 [(.ref a4), (.ref a3), (.ref a2), (.ref a1)]))
    refine own_st (fun _ kz => XS.bipush X111.here hx rfl (hb hby at_398) kz) ?_
    show own_Win p e below s _ _ _ (T111.setTop (mkF m 400 Lb5 [(.int (12 : Int32)), (.ref a4), (.ref a3), (.ref a2), (.ref a1)]))
    refine own_st (fun _ kz => XT.lloadN X111.here hx rfl (v := p1) (hb hby at_400) (by show Lb5[_]? = _; rw [hLb5]; rfl) kz) ?_
    show own_Win p e below s _ _ _ (T111.setTop (mkF m 401 Lb5 [(.long p1), (.int (12 : Int32)), (.ref a4), (.ref a3), (.ref a2), (.ref a1)]))
    refine own_st (fun _ kz => XT.lloadN X111.here hx rfl (v := p2) (hb hby at_401) (by show Lb5[_]? = _; rw [hLb5]; rfl) kz) ?_
    show own_Win p e below s _ _ _ (T111.setTop (mkF m 402 Lb5 [(.long p2), (.long p1), (.int (12 : Int32)), (.ref a4), (.ref a3), (.ref a2), (.ref a1)]))
    refine own_st (fun _ kz => XS.iload X111.here hx rfl (v := p3) (hb hby at_402) (by show Lb5[_]? = _; rw [hLb5]; rfl) kz) ?_
    show own_Win p e below s _ _ _ (T111.setTop (mkF m 404 Lb5 [(.int p3), (.long p2), (.long p1), (.int (12 : Int32)), (.ref a4), (.ref a3), (.ref a2), (.ref a1)]))
    refine own_st (fun _ kz => XS.iload X111.here hx rfl (v := p4) (hb hby at_404) (by show Lb5[_]? = _; rw [hLb5]; rfl) kz) ?_
    show own_Win p e below s _ _ _ (T111.setTop (mkF m 406 Lb5 [(.int p4), (.int p3), (.long p2), (.long p1), (.int (12 : Int32)), (.ref a4), (.ref a3), (.ref a2), (.ref a1)]))
    refine own_st (fun _ kz => XS.iload X111.here hx rfl (v := r0) (hb hby at_406) (by show Lb5[_]? = _; rw [hLb5]; rfl) kz) ?_
    show own_Win p e below s _ _ _ (T111.setTop (mkF m 408 Lb5 [(.int r0), (.int p4), (.int p3), (.long p2), (.long p1), (.int (12 : Int32)), (.ref a4), (.ref a3), (.ref a2), (.ref a1)]))
    refine own_st (fun _ kz => XS.iload X111.here hx rfl (v := r1) (hb hby at_408) (by show Lb5[_]? = _; rw [hLb5]; rfl) kz) ?_
    show own_Win p e below s _ _ _ (T111.setTop (mkF m 410 Lb5 [(.int r1), (.int r0), (.int p4), (.int p3), (.long p2), (.long p1), (.int (12 : Int32)), (.ref a4), (.ref a3), (.ref a2), (.ref a1)]))
    refine own_callS X111 hx hZ hown (y := yP) (hw _ (List.mem_of_getElem? (i := 2) rfl)) (hw _ (List.mem_of_getElem? (i := 3) rfl)) (hw _ (List.mem_of_getElem? (i := 4) rfl)) (hw _ (List.mem_of_getElem? (i := 5) rfl)) (by decide) e111 (rmP l Z a0 hw [] a1 a2 a3 a4 12 (12 : Int32) p1 p2 p3 p4 r0 r1 h111 n0 Z111 FF12 q_a1 lt_a1_a2 lt_a2_a3 lt_a3_a4 rfl (by decide) hr0.1 hr0.2 hr1.1 hr1.2) (by decide) (W := 0) (by decide) rfl (by rw [hml]; show Lb5.size = _; rw [hLb5]; rfl) (argsL := [(.ref a1), (.ref a2), (.ref a3), (.ref a4), (.int (12 : Int32)), (.long p1), (.long p2), (.int p3), (.int p4), (.int r0), (.int r1)]) (rest := []) (lenOf pdP rfl) rfl (Nat.le_of_eq rfl) (hb hby at_410) rfl (by decide) (by decide) ?_
    intro T112 v112 L112 X112 hQ112
    obtain ⟨h112, e112⟩ : ∃ z, T112.heap = z := ⟨_, rfl⟩
    rw [e112] at hQ112
    obtain ⟨rfl, M112, K112, FF13⟩ := hQ112
    have N112 := Fr.app N111 M112
    have Z112 : n0 ≤ h112.size := Nat.le_trans Z111 K112.1
    show own_Win p e below s _ _ _ (T112.setTop (mkF m 413 Lb5 []))
    refine own_st (fun _ kz => XS.aload X112.here hx rfl (v := (.ref a1)) (hb hby at_413) (by show Lb5[_]? = _; rw [hLb5]; rfl) rfl kz) ?_
    show own_Win p e below s _ _ _ (T112.setTop (mkF m 415 Lb5 [(.ref a1)]))
    refine own_st (fun _ kz => XS.aload X112.here hx rfl (v := (.ref a2)) (hb hby at_415) (by show Lb5[_]? = _; rw [hLb5]; rfl) rfl kz) ?_
    show own_Win p e below s _ _ _ (T112.setTop (mkF m 417 Lb5 [(.ref a2), (.ref a1)]))
    refine own_st (fun _ kz => XS.aload X112.here hx rfl (v := (.ref a3)) (hb hby at_417) (by show Lb5[_]? = _; rw [hLb5]; rfl) rfl kz) ?_
    show own_Win p e below s _ _ _ (T112.setTop (mkF m 419 Lb5 [(.ref a3), (.ref a2), (.ref a1)]))
    refine own_st (fun _ kz => XS.aload X112.here hx rfl (v := (.ref a4)) (hb hby at_419) (by show Lb5[_]? = _; rw [hLb5]; rfl) rfl kz) ?_
    show own_Win p e below s _ _ _ (T112.setTop (mkF m 421 Lb5 [(.ref a4), (.ref a3), (.ref a2), (.ref a1)]))
    refine own_st (fun _ kz => XS.bipush X112.here hx rfl (hb hby at_421) kz) ?_
    show own_Win p e below s _ _ _ (T112.setTop (mkF m 423 Lb5 [(.int (13 : Int32)), (.ref a4), (.ref a3), (.ref a2), (.ref a1)]))
    refine own_st (fun _ kz => XT.lloadN X112.here hx rfl (v := p1) (hb hby at_423) (by show Lb5[_]? = _; rw [hLb5]; rfl) kz) ?_
    show own_Win p e below s _ _ _ (T112.setTop (mkF m 424 Lb5 [(.long p1), (.int (13 : Int32)), (.ref a4), (.ref a3), (.ref a2), (.ref a1)]))
    refine own_st (fun _ kz => XT.lloadN X112.here hx rfl (v := p2) (hb hby at_424) (by show Lb5[_]? = _; rw [hLb5]; rfl) kz) ?_
    show own_Win p e below s _ _ _ (T112.setTop (mkF m 425 Lb5 [(.long p2), (.long p1), (.int (13 : Int32)), (.ref a4), (.ref a3), (.ref a2), (.ref a1)]))
    refine own_st (fun _ kz => XS.iload X112.here hx rfl (v := p3) (hb hby at_425) (by show Lb5[_]? = _; rw [hLb5]; rfl) kz) ?_
    show own_Win p e below s _ _ _ (T112.setTop (mkF m 427 Lb5 [(.int p3), (.long p2), (.long p1), (.int (13 : Int32)), (.ref a4), (.ref a3), (.ref a2), (.ref a1)]))
    refine own_st (fun _ kz => XS.iload X112.here hx rfl (v := p4) (hb hby at_427) (by show Lb5[_]? = _; rw [hLb5]; rfl) kz) ?_
    show own_Win p e below s _ _ _ (T112.setTop (mkF m 429 Lb5 [(.int p4), (.int p3), (.long p2), (.long p1), (.int (13 : Int32)), (.ref a4), (.ref a3), (.ref a2), (.ref a1)]))
    refine own_st (fun _ kz => XS.iload X112.here hx rfl (v := r0) (hb hby at_429) (by show Lb5[_]? = _; rw [hLb5]; rfl) kz) ?_
    show own_Win p e below s _ _ _ (T112.setTop (mkF m 431 Lb5 [(.int r0), (.int p4), (.int p3), (.long p2), (.long p1), (.int (13 : Int32)), (.ref a4), (.ref a3), (.ref a2), (.ref a1)]))
    refine own_st (fun _ kz => XS.iload X112.here hx rfl (v := r1) (hb hby at_431) (by show Lb5[_]? = _; rw [hLb5]; rfl) kz) ?_
    show own_Win p e below s _ _ _ (T112.setTop (mkF m 433 Lb5 [(.int r1), (.int r0), (.int p4), (.int p3), (.long p2), (.long p1), (.int (13 : Int32)), (.ref a4), (.ref a3), (.ref a2), (.ref a1)]))
    refine own_callS X112 hx hZ hown (y := yP) (hw _ (List.mem_of_getElem? (i := 2) rfl)) (hw _ (List.mem_of_getElem? (i := 3) rfl)) (hw _ (List.mem_of_getElem? (i := 4) rfl)) (hw _ (List.mem_of_getElem? (i := 5) rfl)) (by decide) e112 (rmP l Z a0 hw [] a1 a2 a3 a4 13 (13 : Int32) p1 p2 p3 p4 r0 r1 h112 n0 Z112 FF13 q_a1 lt_a1_a2 lt_a2_a3 lt_a3_a4 rfl (by decide) hr0.1 hr0.2 hr1.1 hr1.2) (by decide) (W := 0) (by decide) rfl (by rw [hml]; show Lb5.size = _; rw [hLb5]; rfl) (argsL := [(.ref a1), (.ref a2), (.ref a3), (.ref a4), (.int (13 : Int32)), (.long p1), (.long p2), (.int p3), (.int p4), (.int r0), (.int r1)]) (rest := []) (lenOf pdP rfl) rfl (Nat.le_of_eq rfl) (hb hby at_433) rfl (by decide) (by decide) ?_
    intro T113 v113 L113 X113 hQ113
    obtain ⟨h113, e113⟩ : ∃ z, T113.heap = z := ⟨_, rfl⟩
    rw [e113] at hQ113
    obtain ⟨rfl, M113, K113, FF14⟩ := hQ113
    have N113 := Fr.app N112 M113
    have Z113 : n0 ≤ h113.size := Nat.le_trans Z112 K113.1
    show own_Win p e below s _ _ _ (T113.setTop (mkF m 436 Lb5 []))
    refine own_st (fun _ kz => XS.aload X113.here hx rfl (v := (.ref a1)) (hb hby at_436) (by show Lb5[_]? = _; rw [hLb5]; rfl) rfl kz) ?_
    show own_Win p e below s _ _ _ (T113.setTop (mkF m 438 Lb5 [(.ref a1)]))
    refine own_st (fun _ kz => XS.aload X113.here hx rfl (v := (.ref a2)) (hb hby at_438) (by show Lb5[_]? = _; rw [hLb5]; rfl) rfl kz) ?_
    show own_Win p e below s _ _ _ (T113.setTop (mkF m 440 Lb5 [(.ref a2), (.ref a1)]))
    refine own_st (fun _ kz => XS.aload X113.here hx rfl (v := (.ref a3)) (hb hby at_440) (by show Lb5[_]? = _; rw [hLb5]; rfl) rfl kz) ?_
    show own_Win p e below s _ _ _ (T113.setTop (mkF m 442 Lb5 [(.ref a3), (.ref a2), (.ref a1)]))
    refine own_st (fun _ kz => XS.aload X113.here hx rfl (v := (.ref a4)) (hb hby at_442) (by show Lb5[_]? = _; rw [hLb5]; rfl) rfl kz) ?_
    show own_Win p e below s _ _ _ (T113.setTop (mkF m 444 Lb5 [(.ref a4), (.ref a3), (.ref a2), (.ref a1)]))
    refine own_st (fun _ kz => XS.bipush X113.here hx rfl (hb hby at_444) kz) ?_
    show own_Win p e below s _ _ _ (T113.setTop (mkF m 446 Lb5 [(.int (14 : Int32)), (.ref a4), (.ref a3), (.ref a2), (.ref a1)]))
    refine own_st (fun _ kz => XT.lloadN X113.here hx rfl (v := p1) (hb hby at_446) (by show Lb5[_]? = _; rw [hLb5]; rfl) kz) ?_
    show own_Win p e below s _ _ _ (T113.setTop (mkF m 447 Lb5 [(.long p1), (.int (14 : Int32)), (.ref a4), (.ref a3), (.ref a2), (.ref a1)]))
    refine own_st (fun _ kz => XT.lloadN X113.here hx rfl (v := p2) (hb hby at_447) (by show Lb5[_]? = _; rw [hLb5]; rfl) kz) ?_
    show own_Win p e below s _ _ _ (T113.setTop (mkF m 448 Lb5 [(.long p2), (.long p1), (.int (14 : Int32)), (.ref a4), (.ref a3), (.ref a2), (.ref a1)]))
    refine own_st (fun _ kz => XS.iload X113.here hx rfl (v := p3) (hb hby at_448) (by show Lb5[_]? = _; rw [hLb5]; rfl) kz) ?_
    show own_Win p e below s _ _ _ (T113.setTop (mkF m 450 Lb5 [(.int p3), (.long p2), (.long p1), (.int (14 : Int32)), (.ref a4), (.ref a3), (.ref a2), (.ref a1)]))
    refine own_st (fun _ kz => XS.iload X113.here hx rfl (v := p4) (hb hby at_450) (by show Lb5[_]? = _; rw [hLb5]; rfl) kz) ?_
    show own_Win p e below s _ _ _ (T113.setTop (mkF m 452 Lb5 [(.int p4), (.int p3), (.long p2), (.long p1), (.int (14 : Int32)), (.ref a4), (.ref a3), (.ref a2), (.ref a1)]))
    refine own_st (fun _ kz => XS.iload X113.here hx rfl (v := r0) (hb hby at_452) (by show Lb5[_]? = _; rw [hLb5]; rfl) kz) ?_
    show own_Win p e below s _ _ _ (T113.setTop (mkF m 454 Lb5 [(.int r0), (.int p4), (.int p3), (.long p2), (.long p1), (.int (14 : Int32)), (.ref a4), (.ref a3), (.ref a2), (.ref a1)]))
    refine own_st (fun _ kz => XS.iload X113.here hx rfl (v := r1) (hb hby at_454) (by show Lb5[_]? = _; rw [hLb5]; rfl) kz) ?_
    show own_Win p e below s _ _ _ (T113.setTop (mkF m 456 Lb5 [(.int r1), (.int r0), (.int p4), (.int p3), (.long p2), (.long p1), (.int (14 : Int32)), (.ref a4), (.ref a3), (.ref a2), (.ref a1)]))
    refine own_callS X113 hx hZ hown (y := yP) (hw _ (List.mem_of_getElem? (i := 2) rfl)) (hw _ (List.mem_of_getElem? (i := 3) rfl)) (hw _ (List.mem_of_getElem? (i := 4) rfl)) (hw _ (List.mem_of_getElem? (i := 5) rfl)) (by decide) e113 (rmP l Z a0 hw [] a1 a2 a3 a4 14 (14 : Int32) p1 p2 p3 p4 r0 r1 h113 n0 Z113 FF14 q_a1 lt_a1_a2 lt_a2_a3 lt_a3_a4 rfl (by decide) hr0.1 hr0.2 hr1.1 hr1.2) (by decide) (W := 0) (by decide) rfl (by rw [hml]; show Lb5.size = _; rw [hLb5]; rfl) (argsL := [(.ref a1), (.ref a2), (.ref a3), (.ref a4), (.int (14 : Int32)), (.long p1), (.long p2), (.int p3), (.int p4), (.int r0), (.int r1)]) (rest := []) (lenOf pdP rfl) rfl (Nat.le_of_eq rfl) (hb hby at_456) rfl (by decide) (by decide) ?_
    intro T114 v114 L114 X114 hQ114
    obtain ⟨h114, e114⟩ : ∃ z, T114.heap = z := ⟨_, rfl⟩
    rw [e114] at hQ114
    obtain ⟨rfl, M114, K114, FF15⟩ := hQ114
    have N114 := Fr.app N113 M114
    have Z114 : n0 ≤ h114.size := Nat.le_trans Z113 K114.1
    show own_Win p e below s _ _ _ (T114.setTop (mkF m 459 Lb5 []))
    refine own_st (fun _ kz => XS.aload X114.here hx rfl (v := (.ref a1)) (hb hby at_459) (by show Lb5[_]? = _; rw [hLb5]; rfl) rfl kz) ?_
    show own_Win p e below s _ _ _ (T114.setTop (mkF m 461 Lb5 [(.ref a1)]))
    refine own_st (fun _ kz => XS.aload X114.here hx rfl (v := (.ref a2)) (hb hby at_461) (by show Lb5[_]? = _; rw [hLb5]; rfl) rfl kz) ?_
    show own_Win p e below s _ _ _ (T114.setTop (mkF m 463 Lb5 [(.ref a2), (.ref a1)]))
    refine own_st (fun _ kz => XS.aload X114.here hx rfl (v := (.ref a3)) (hb hby at_463) (by show Lb5[_]? = _; rw [hLb5]; rfl) rfl kz) ?_
    show own_Win p e below s _ _ _ (T114.setTop (mkF m 465 Lb5 [(.ref a3), (.ref a2), (.ref a1)]))
    refine own_st (fun _ kz => XS.aload X114.here hx rfl (v := (.ref a4)) (hb hby at_465) (by show Lb5[_]? = _; rw [hLb5]; rfl) rfl kz) ?_
    show own_Win p e below s _ _ _ (T114.setTop (mkF m 467 Lb5 [(.ref a4), (.ref a3), (.ref a2), (.ref a1)]))
    refine own_st (fun _ kz => XS.bipush X114.here hx rfl (hb hby at_467) kz) ?_
    show own_Win p e below s _ _ _ (T114.setTop (mkF m 469 Lb5 [(.int (15 : Int32)), (.ref a4), (.ref a3), (.ref a2), (.ref a1)]))
    refine own_st (fun _ kz => XT.lloadN X114.here hx rfl (v := p1) (hb hby at_469) (by show Lb5[_]? = _; rw [hLb5]; rfl) kz) ?_
    show own_Win p e below s _ _ _ (T114.setTop (mkF m 470 Lb5 [(.long p1), (.int (15 : Int32)), (.ref a4), (.ref a3), (.ref a2), (.ref a1)]))
    refine own_st (fun _ kz => XT.lloadN X114.here hx rfl (v := p2) (hb hby at_470) (by show Lb5[_]? = _; rw [hLb5]; rfl) kz) ?_
    show own_Win p e below s _ _ _ (T114.setTop (mkF m 471 Lb5 [(.long p2), (.long p1), (.int (15 : Int32)), (.ref a4), (.ref a3), (.ref a2), (.ref a1)]))
    refine own_st (fun _ kz => XS.iload X114.here hx rfl (v := p3) (hb hby at_471) (by show Lb5[_]? = _; rw [hLb5]; rfl) kz) ?_
    show own_Win p e below s _ _ _ (T114.setTop (mkF m 473 Lb5 [(.int p3), (.long p2), (.long p1), (.int (15 : Int32)), (.ref a4), (.ref a3), (.ref a2), (.ref a1)]))
    refine own_st (fun _ kz => XS.iload X114.here hx rfl (v := p4) (hb hby at_473) (by show Lb5[_]? = _; rw [hLb5]; rfl) kz) ?_
    show own_Win p e below s _ _ _ (T114.setTop (mkF m 475 Lb5 [(.int p4), (.int p3), (.long p2), (.long p1), (.int (15 : Int32)), (.ref a4), (.ref a3), (.ref a2), (.ref a1)]))
    refine own_st (fun _ kz => XS.iload X114.here hx rfl (v := r0) (hb hby at_475) (by show Lb5[_]? = _; rw [hLb5]; rfl) kz) ?_
    show own_Win p e below s _ _ _ (T114.setTop (mkF m 477 Lb5 [(.int r0), (.int p4), (.int p3), (.long p2), (.long p1), (.int (15 : Int32)), (.ref a4), (.ref a3), (.ref a2), (.ref a1)]))
    refine own_st (fun _ kz => XS.iload X114.here hx rfl (v := r1) (hb hby at_477) (by show Lb5[_]? = _; rw [hLb5]; rfl) kz) ?_
    show own_Win p e below s _ _ _ (T114.setTop (mkF m 479 Lb5 [(.int r1), (.int r0), (.int p4), (.int p3), (.long p2), (.long p1), (.int (15 : Int32)), (.ref a4), (.ref a3), (.ref a2), (.ref a1)]))
    refine own_callS X114 hx hZ hown (y := yP) (hw _ (List.mem_of_getElem? (i := 2) rfl)) (hw _ (List.mem_of_getElem? (i := 3) rfl)) (hw _ (List.mem_of_getElem? (i := 4) rfl)) (hw _ (List.mem_of_getElem? (i := 5) rfl)) (by decide) e114 (rmP l Z a0 hw [] a1 a2 a3 a4 15 (15 : Int32) p1 p2 p3 p4 r0 r1 h114 n0 Z114 FF15 q_a1 lt_a1_a2 lt_a2_a3 lt_a3_a4 rfl (by decide) hr0.1 hr0.2 hr1.1 hr1.2) (by decide) (W := 0) (by decide) rfl (by rw [hml]; show Lb5.size = _; rw [hLb5]; rfl) (argsL := [(.ref a1), (.ref a2), (.ref a3), (.ref a4), (.int (15 : Int32)), (.long p1), (.long p2), (.int p3), (.int p4), (.int r0), (.int r1)]) (rest := []) (lenOf pdP rfl) rfl (Nat.le_of_eq rfl) (hb hby at_479) rfl (by decide) (by decide) ?_
    intro T115 v115 L115 X115 hQ115
    obtain ⟨h115, e115⟩ : ∃ z, T115.heap = z := ⟨_, rfl⟩
    rw [e115] at hQ115
    obtain ⟨rfl, M115, K115, FF16⟩ := hQ115
    have N115 := Fr.app N114 M115
    have Z115 : n0 ≤ h115.size := Nat.le_trans Z114 K115.1
    show own_Win p e below s _ _ _ (T115.setTop (mkF m 482 Lb5 []))
    refine own_st (fun _ kz => XS.aload X115.here hx rfl (v := (.ref a1)) (hb hby at_482) (by show Lb5[_]? = _; rw [hLb5]; rfl) rfl kz) ?_
    show own_Win p e below s _ _ _ (T115.setTop (mkF m 484 Lb5 [(.ref a1)]))
    refine own_st (fun _ kz => XS.aload X115.here hx rfl (v := (.ref a2)) (hb hby at_484) (by show Lb5[_]? = _; rw [hLb5]; rfl) rfl kz) ?_
    show own_Win p e below s _ _ _ (T115.setTop (mkF m 486 Lb5 [(.ref a2), (.ref a1)]))
    refine own_st (fun _ kz => XS.aload X115.here hx rfl (v := (.ref a3)) (hb hby at_486) (by show Lb5[_]? = _; rw [hLb5]; rfl) rfl kz) ?_
    show own_Win p e below s _ _ _ (T115.setTop (mkF m 488 Lb5 [(.ref a3), (.ref a2), (.ref a1)]))
    refine own_st (fun _ kz => XS.aload X115.here hx rfl (v := (.ref a4)) (hb hby at_488) (by show Lb5[_]? = _; rw [hLb5]; rfl) rfl kz) ?_
    show own_Win p e below s _ _ _ (T115.setTop (mkF m 490 Lb5 [(.ref a4), (.ref a3), (.ref a2), (.ref a1)]))
    refine own_st (fun _ kz => XS.bipush X115.here hx rfl (hb hby at_490) kz) ?_
    show own_Win p e below s _ _ _ (T115.setTop (mkF m 492 Lb5 [(.int (16 : Int32)), (.ref a4), (.ref a3), (.ref a2), (.ref a1)]))
    refine own_st (fun _ kz => XT.lloadN X115.here hx rfl (v := p1) (hb hby at_492) (by show Lb5[_]? = _; rw [hLb5]; rfl) kz) ?_
    show own_Win p e below s _ _ _ (T115.setTop (mkF m 493 Lb5 [(.long p1), (.int (16 : Int32)), (.ref a4), (.ref a3), (.ref a2), (.ref a1)]))
    refine own_st (fun _ kz => XT.lloadN X115.here hx rfl (v := p2) (hb hby at_493) (by show Lb5[_]? = _; rw [hLb5]; rfl) kz) ?_
    show own_Win p e below s _ _ _ (T115.setTop (mkF m 494 Lb5 [(.long p2), (.long p1), (.int (16 : Int32)), (.ref a4), (.ref a3), (.ref a2), (.ref a1)]))
    refine own_st (fun _ kz => XS.iload X115.here hx rfl (v := p3) (hb hby at_494) (by show Lb5[_]? = _; rw [hLb5]; rfl) kz) ?_
    show own_Win p e below s _ _ _ (T115.setTop (mkF m 496 Lb5 [(.int p3), (.long p2), (.long p1), (.int (16 : Int32)), (.ref a4), (.ref a3), (.ref a2), (.ref a1)]))
    refine own_st (fun _ kz => XS.iload X115.here hx rfl (v := p4) (hb hby at_496) (by show Lb5[_]? = _; rw [hLb5]; rfl) kz) ?_
    show own_Win p e below s _ _ _ (T115.setTop (mkF m 498 Lb5 [(.int p4), (.int p3), (.long p2), (.long p1), (.int (16 : Int32)), (.ref a4), (.ref a3), (.ref a2), (.ref a1)]))
    refine own_st (fun _ kz => XS.iload X115.here hx rfl (v := r0) (hb hby at_498) (by show Lb5[_]? = _; rw [hLb5]; rfl) kz) ?_
    show own_Win p e below s _ _ _ (T115.setTop (mkF m 500 Lb5 [(.int r0), (.int p4), (.int p3), (.long p2), (.long p1), (.int (16 : Int32)), (.ref a4), (.ref a3), (.ref a2), (.ref a1)]))
    refine own_st (fun _ kz => XS.iload X115.here hx rfl (v := r1) (hb hby at_500) (by show Lb5[_]? = _; rw [hLb5]; rfl) kz) ?_
    show own_Win p e below s _ _ _ (T115.setTop (mkF m 502 Lb5 [(.int r1), (.int r0), (.int p4), (.int p3), (.long p2), (.long p1), (.int (16 : Int32)), (.ref a4), (.ref a3), (.ref a2), (.ref a1)]))
    refine own_callS X115 hx hZ hown (y := yP) (hw _ (List.mem_of_getElem? (i := 2) rfl)) (hw _ (List.mem_of_getElem? (i := 3) rfl)) (hw _ (List.mem_of_getElem? (i := 4) rfl)) (hw _ (List.mem_of_getElem? (i := 5) rfl)) (by decide) e115 (rmP l Z a0 hw [] a1 a2 a3 a4 16 (16 : Int32) p1 p2 p3 p4 r0 r1 h115 n0 Z115 FF16 q_a1 lt_a1_a2 lt_a2_a3 lt_a3_a4 rfl (by decide) hr0.1 hr0.2 hr1.1 hr1.2) (by decide) (W := 0) (by decide) rfl (by rw [hml]; show Lb5.size = _; rw [hLb5]; rfl) (argsL := [(.ref a1), (.ref a2), (.ref a3), (.ref a4), (.int (16 : Int32)), (.long p1), (.long p2), (.int p3), (.int p4), (.int r0), (.int r1)]) (rest := []) (lenOf pdP rfl) rfl (Nat.le_of_eq rfl) (hb hby at_502) rfl (by decide) (by decide) ?_
    intro T116 v116 L116 X116 hQ116
    obtain ⟨h116, e116⟩ : ∃ z, T116.heap = z := ⟨_, rfl⟩
    rw [e116] at hQ116
    obtain ⟨rfl, M116, K116, FF17⟩ := hQ116
    have N116 := Fr.app N115 M116
    have Z116 : n0 ≤ h116.size := Nat.le_trans Z115 K116.1
    show own_Win p e below s _ _ _ (T116.setTop (mkF m 505 Lb5 []))
    refine own_st (fun _ kz => XS.aload X116.here hx rfl (v := (.ref a1)) (hb hby at_505) (by show Lb5[_]? = _; rw [hLb5]; rfl) rfl kz) ?_
    show own_Win p e below s _ _ _ (T116.setTop (mkF m 507 Lb5 [(.ref a1)]))
    refine own_st (fun _ kz => XS.aload X116.here hx rfl (v := (.ref a2)) (hb hby at_507) (by show Lb5[_]? = _; rw [hLb5]; rfl) rfl kz) ?_
    show own_Win p e below s _ _ _ (T116.setTop (mkF m 509 Lb5 [(.ref a2), (.ref a1)]))
    refine own_st (fun _ kz => XS.aload X116.here hx rfl (v := (.ref a3)) (hb hby at_509) (by show Lb5[_]? = _; rw [hLb5]; rfl) rfl kz) ?_
    show own_Win p e below s _ _ _ (T116.setTop (mkF m 511 Lb5 [(.ref a3), (.ref a2), (.ref a1)]))
    refine own_st (fun _ kz => XS.aload X116.here hx rfl (v := (.ref a4)) (hb hby at_511) (by show Lb5[_]? = _; rw [hLb5]; rfl) rfl kz) ?_
    show own_Win p e below s _ _ _ (T116.setTop (mkF m 513 Lb5 [(.ref a4), (.ref a3), (.ref a2), (.ref a1)]))
    refine own_st (fun _ kz => XS.bipush X116.here hx rfl (hb hby at_513) kz) ?_
    show own_Win p e below s _ _ _ (T116.setTop (mkF m 515 Lb5 [(.int (17 : Int32)), (.ref a4), (.ref a3), (.ref a2), (.ref a1)]))
    refine own_st (fun _ kz => XT.lloadN X116.here hx rfl (v := p1) (hb hby at_515) (by show Lb5[_]? = _; rw [hLb5]; rfl) kz) ?_
    show own_Win p e below s _ _ _ (T116.setTop (mkF m 516 Lb5 [(.long p1), (.int (17 : Int32)), (.ref a4), (.ref a3), (.ref a2), (.ref a1)]))
    refine own_st (fun _ kz => XT.lloadN X116.here hx rfl (v := p2) (hb hby at_516) (by show Lb5[_]? = _; rw [hLb5]; rfl) kz) ?_
    show own_Win p e below s _ _ _ (T116.setTop (mkF m 517 Lb5 [(.long p2), (.long p1), (.int (17 : Int32)), (.ref a4), (.ref a3), (.ref a2), (.ref a1)]))
    refine own_st (fun _ kz => XS.iload X116.here hx rfl (v := p3) (hb hby at_517) (by show Lb5[_]? = _; rw [hLb5]; rfl) kz) ?_
    show own_Win p e below s _ _ _ (T116.setTop (mkF m 519 Lb5 [(.int p3), (.long p2), (.long p1), (.int (17 : Int32)), (.ref a4), (.ref a3), (.ref a2), (.ref a1)]))
    refine own_st (fun _ kz => XS.iload X116.here hx rfl (v := p4) (hb hby at_519) (by show Lb5[_]? = _; rw [hLb5]; rfl) kz) ?_
    show own_Win p e below s _ _ _ (T116.setTop (mkF m 521 Lb5 [(.int p4), (.int p3), (.long p2), (.long p1), (.int (17 : Int32)), (.ref a4), (.ref a3), (.ref a2), (.ref a1)]))
    refine own_st (fun _ kz => XS.iload X116.here hx rfl (v := r0) (hb hby at_521) (by show Lb5[_]? = _; rw [hLb5]; rfl) kz) ?_
    show own_Win p e below s _ _ _ (T116.setTop (mkF m 523 Lb5 [(.int r0), (.int p4), (.int p3), (.long p2), (.long p1), (.int (17 : Int32)), (.ref a4), (.ref a3), (.ref a2), (.ref a1)]))
    refine own_st (fun _ kz => XS.iload X116.here hx rfl (v := r1) (hb hby at_523) (by show Lb5[_]? = _; rw [hLb5]; rfl) kz) ?_
    show own_Win p e below s _ _ _ (T116.setTop (mkF m 525 Lb5 [(.int r1), (.int r0), (.int p4), (.int p3), (.long p2), (.long p1), (.int (17 : Int32)), (.ref a4), (.ref a3), (.ref a2), (.ref a1)]))
    refine own_callS X116 hx hZ hown (y := yP) (hw _ (List.mem_of_getElem? (i := 2) rfl)) (hw _ (List.mem_of_getElem? (i := 3) rfl)) (hw _ (List.mem_of_getElem? (i := 4) rfl)) (hw _ (List.mem_of_getElem? (i := 5) rfl)) (by decide) e116 (rmP l Z a0 hw [] a1 a2 a3 a4 17 (17 : Int32) p1 p2 p3 p4 r0 r1 h116 n0 Z116 FF17 q_a1 lt_a1_a2 lt_a2_a3 lt_a3_a4 rfl (by decide) hr0.1 hr0.2 hr1.1 hr1.2) (by decide) (W := 0) (by decide) rfl (by rw [hml]; show Lb5.size = _; rw [hLb5]; rfl) (argsL := [(.ref a1), (.ref a2), (.ref a3), (.ref a4), (.int (17 : Int32)), (.long p1), (.long p2), (.int p3), (.int p4), (.int r0), (.int r1)]) (rest := []) (lenOf pdP rfl) rfl (Nat.le_of_eq rfl) (hb hby at_525) rfl (by decide) (by decide) ?_
    intro T117 v117 L117 X117 hQ117
    obtain ⟨h117, e117⟩ : ∃ z, T117.heap = z := ⟨_, rfl⟩
    rw [e117] at hQ117
    obtain ⟨rfl, M117, K117, FF18⟩ := hQ117
    have N117 := Fr.app N116 M117
    have Z117 : n0 ≤ h117.size := Nat.le_trans Z116 K117.1
    show own_Win p e below s _ _ _ (T117.setTop (mkF m 528 Lb5 []))
    obtain ⟨O, V, F_I, F_Q, F_A, F_B, hD⟩ := own_open FF18
    refine own_st (fun _ kz => XS.iload X117.here hx rfl (v := p3) (hb hby at_528) (by show Lb5[_]? = _; rw [hLb5]; rfl) kz) ?_
    show own_Win p e below s _ _ _ (T117.setTop (mkF m 530 Lb5 [(.int p3)]))
    refine own_st (fun _ kz => XS.i2dS X117.here hx rfl (hb hby at_530) rfl rfl kz) ?_
    show own_Win p e below s _ _ _ (T117.setTop (mkF m 531 Lb5 [(.double (FP.i2d p3))]))
    obtain ⟨Lb6, hLb6⟩ : ∃ L : Array Slot, L = #[.val (.long p1), .second, .val (.long p2), .second, .val (.int p3), .val (.int p4), .val (.int p5), .val (.int r0), .val (.int r1), .val (.int s0), .val (.int s1), .val (.int sv), .val (.int ev), .val (.int nw), .val (.int wv), .val (.ref a1), .val (.ref a2), .val (.ref a3), .val (.ref a4), .val (.double (FP.i2d p3)), .second, .unset, .unset, .unset, .unset, .unset, .unset, .unset, .unset, .unset, .unset, .unset, .unset, .unset, .unset, .unset, .unset] := ⟨_, rfl⟩
    refine own_st (fun _ kz => XS.dstore X117.here hx rfl (hb hby at_531) rfl (l' := Lb6) (by show storeLocals Lb5 _ _ = _; rw [hLb5, hLb6]; rfl) kz) ?_
    show own_Win p e below s _ _ _ (T117.setTop (mkF m 533 Lb6 []))
    refine own_st (fun _ kz => XS.iload X117.here hx rfl (v := p4) (hb hby at_533) (by show Lb6[_]? = _; rw [hLb6]; rfl) kz) ?_
    show own_Win p e below s _ _ _ (T117.setTop (mkF m 535 Lb6 [(.int p4)]))
    refine own_st (fun _ kz => XS.i2dS X117.here hx rfl (hb hby at_535) rfl rfl kz) ?_
    show own_Win p e below s _ _ _ (T117.setTop (mkF m 536 Lb6 [(.double (FP.i2d p4))]))
    obtain ⟨Lb7, hLb7⟩ : ∃ L : Array Slot, L = #[.val (.long p1), .second, .val (.long p2), .second, .val (.int p3), .val (.int p4), .val (.int p5), .val (.int r0), .val (.int r1), .val (.int s0), .val (.int s1), .val (.int sv), .val (.int ev), .val (.int nw), .val (.int wv), .val (.ref a1), .val (.ref a2), .val (.ref a3), .val (.ref a4), .val (.double (FP.i2d p3)), .second, .val (.double (FP.i2d p4)), .second, .unset, .unset, .unset, .unset, .unset, .unset, .unset, .unset, .unset, .unset, .unset, .unset, .unset, .unset] := ⟨_, rfl⟩
    refine own_st (fun _ kz => XS.dstore X117.here hx rfl (hb hby at_536) rfl (l' := Lb7) (by show storeLocals Lb6 _ _ = _; rw [hLb6, hLb7]; rfl) kz) ?_
    show own_Win p e below s _ _ _ (T117.setTop (mkF m 538 Lb7 []))
    refine own_st (fun _ kz => XS.iload X117.here hx rfl (v := p3) (hb hby at_538) (by show Lb7[_]? = _; rw [hLb7]; rfl) kz) ?_
    show own_Win p e below s _ _ _ (T117.setTop (mkF m 540 Lb7 [(.int p3)]))
    refine own_st (fun _ kz => XT.i2l X117.here hx rfl (hb hby at_540) rfl kz) ?_
    show own_Win p e below s _ _ _ (T117.setTop (mkF m 541 Lb7 [(.long (p3.toInt64))]))
    refine own_st (fun _ kz => XS.iload X117.here hx rfl (v := r0) (hb hby at_541) (by show Lb7[_]? = _; rw [hLb7]; rfl) kz) ?_
    show own_Win p e below s _ _ _ (T117.setTop (mkF m 543 Lb7 [(.int r0), (.long (p3.toInt64))]))
    refine own_st (fun _ kz => XT.i2l X117.here hx rfl (hb hby at_543) rfl kz) ?_
    show own_Win p e below s _ _ _ (T117.setTop (mkF m 544 Lb7 [(.long (r0.toInt64)), (.long (p3.toInt64))]))
    refine own_st (fun _ kz => XT.ladd X117.here hx rfl (hb hby at_544) rfl kz) ?_
    show own_Win p e below s _ _ _ (T117.setTop (mkF m 545 Lb7 [(.long ((p3.toInt64) + (r0.toInt64)))]))
    refine own_st (fun _ kz => XS.l2dS X117.here hx rfl (hb hby at_545) rfl rfl kz) ?_
    show own_Win p e below s _ _ _ (T117.setTop (mkF m 546 Lb7 [(.double (FP.l2d ((p3.toInt64) + (r0.toInt64))))]))
    obtain ⟨Lb8, hLb8⟩ : ∃ L : Array Slot, L = #[.val (.long p1), .second, .val (.long p2), .second, .val (.int p3), .val (.int p4), .val (.int p5), .val (.int r0), .val (.int r1), .val (.int s0), .val (.int s1), .val (.int sv), .val (.int ev), .val (.int nw), .val (.int wv), .val (.ref a1), .val (.ref a2), .val (.ref a3), .val (.ref a4), .val (.double (FP.i2d p3)), .second, .val (.double (FP.i2d p4)), .second, .val (.double (FP.l2d ((p3.toInt64) + (r0.toInt64)))), .second, .unset, .unset, .unset, .unset, .unset, .unset, .unset, .unset, .unset, .unset, .unset, .unset] := ⟨_, rfl⟩
    refine own_st (fun _ kz => XS.dstore X117.here hx rfl (hb hby at_546) rfl (l' := Lb8) (by show storeLocals Lb7 _ _ = _; rw [hLb7, hLb8]; rfl) kz) ?_
    show own_Win p e below s _ _ _ (T117.setTop (mkF m 548 Lb8 []))
    refine own_st (fun _ kz => XS.iload X117.here hx rfl (v := p4) (hb hby at_548) (by show Lb8[_]? = _; rw [hLb8]; rfl) kz) ?_
    show own_Win p e below s _ _ _ (T117.setTop (mkF m 550 Lb8 [(.int p4)]))
    refine own_st (fun _ kz => XT.i2l X117.here hx rfl (hb hby at_550) rfl kz) ?_
    show own_Win p e below s _ _ _ (T117.setTop (mkF m 551 Lb8 [(.long (p4.toInt64))]))
    refine own_st (fun _ kz => XS.iload X117.here hx rfl (v := r1) (hb hby at_551) (by show Lb8[_]? = _; rw [hLb8]; rfl) kz) ?_
    show own_Win p e below s _ _ _ (T117.setTop (mkF m 553 Lb8 [(.int r1), (.long (p4.toInt64))]))
    refine own_st (fun _ kz => XT.i2l X117.here hx rfl (hb hby at_553) rfl kz) ?_
    show own_Win p e below s _ _ _ (T117.setTop (mkF m 554 Lb8 [(.long (r1.toInt64)), (.long (p4.toInt64))]))
    refine own_st (fun _ kz => XT.ladd X117.here hx rfl (hb hby at_554) rfl kz) ?_
    show own_Win p e below s _ _ _ (T117.setTop (mkF m 555 Lb8 [(.long ((p4.toInt64) + (r1.toInt64)))]))
    refine own_st (fun _ kz => XS.l2dS X117.here hx rfl (hb hby at_555) rfl rfl kz) ?_
    show own_Win p e below s _ _ _ (T117.setTop (mkF m 556 Lb8 [(.double (FP.l2d ((p4.toInt64) + (r1.toInt64))))]))
    obtain ⟨Lb9, hLb9⟩ : ∃ L : Array Slot, L = #[.val (.long p1), .second, .val (.long p2), .second, .val (.int p3), .val (.int p4), .val (.int p5), .val (.int r0), .val (.int r1), .val (.int s0), .val (.int s1), .val (.int sv), .val (.int ev), .val (.int nw), .val (.int wv), .val (.ref a1), .val (.ref a2), .val (.ref a3), .val (.ref a4), .val (.double (FP.i2d p3)), .second, .val (.double (FP.i2d p4)), .second, .val (.double (FP.l2d ((p3.toInt64) + (r0.toInt64)))), .second, .val (.double (FP.l2d ((p4.toInt64) + (r1.toInt64)))), .second, .unset, .unset, .unset, .unset, .unset, .unset, .unset, .unset, .unset, .unset] := ⟨_, rfl⟩
    refine own_st (fun _ kz => XS.dstore X117.here hx rfl (hb hby at_556) rfl (l' := Lb9) (by show storeLocals Lb8 _ _ = _; rw [hLb8, hLb9]; rfl) kz) ?_
    show own_Win p e below s _ _ _ (T117.setTop (mkF m 558 Lb9 []))
    refine own_st (fun _ kz => XS.iconst X117.here hx rfl (hb hby at_558) kz) ?_
    show own_Win p e below s _ _ _ (T117.setTop (mkF m 559 Lb9 [(.int (2 : Int32))]))
    refine own_newD X117 hx hZ (hw _ (List.mem_of_getElem? (i := 1) rfl)) e117 (n := 2) (cap := 2) rfl (Nat.le_refl _) (by decide) (by decide) (by decide) rfl rfl (hb hby at_559) ?_
    intro T201 h201 a201 X201 e201 g201 E201 F201 Ex201
    show own_Win p e below s _ _ _ (T201.setTop (mkF m 561 Lb9 [(.ref a201)]))
    have lt_a1_a201 : @LT.lt Nat _ a1 a201 := by rw [g201]; exact (own_Av.lt F_I)
    have lt_a2_a201 : @LT.lt Nat _ a2 a201 := by rw [g201]; exact (own_Av.lt F_Q)
    have lt_a3_a201 : @LT.lt Nat _ a3 a201 := by rw [g201]; exact (own_Av.lt F_A)
    have lt_a4_a201 : @LT.lt Nat _ a4 a201 := by rw [g201]; exact (own_Av.lt F_B)
    have Z201 : n0 ≤ h201.size := Nat.le_trans Z117 E201.1
    have q_a201 : n0 ≤ a201 := by rw [g201]; exact Z117
    have c_I_h201 : own_Ia Z h201 a1 18 (own_I (fun k => k)) := own_Av.ext E201 F_I
    have c_Q_h201 : own_Da Z h201 a2 36 (own_P O (fun k => k)) := own_Av.ext E201 F_Q
    have c_A_h201 : own_Da Z h201 a3 18 (O 0) := own_Av.ext E201 F_A
    have c_B_h201 : own_Da Z h201 a4 18 (O 1) := own_Av.ext E201 F_B
    obtain ⟨Lb10, hLb10⟩ : ∃ L : Array Slot, L = #[.val (.long p1), .second, .val (.long p2), .second, .val (.int p3), .val (.int p4), .val (.int p5), .val (.int r0), .val (.int r1), .val (.int s0), .val (.int s1), .val (.int sv), .val (.int ev), .val (.int nw), .val (.int wv), .val (.ref a1), .val (.ref a2), .val (.ref a3), .val (.ref a4), .val (.double (FP.i2d p3)), .second, .val (.double (FP.i2d p4)), .second, .val (.double (FP.l2d ((p3.toInt64) + (r0.toInt64)))), .second, .val (.double (FP.l2d ((p4.toInt64) + (r1.toInt64)))), .second, .val (.ref a201), .unset, .unset, .unset, .unset, .unset, .unset, .unset, .unset, .unset] := ⟨_, rfl⟩
    refine own_st (fun _ kz => XS.astore X201.here hx rfl (hb hby at_561) rfl rfl (l' := Lb10) (by show storeLocals Lb9 _ _ = _; rw [hLb9, hLb10]; rfl) kz) ?_
    show own_Win p e below s _ _ _ (T201.setTop (mkF m 563 Lb10 []))
    refine own_st (fun _ kz => XS.iconst X201.here hx rfl (hb hby at_563) kz) ?_
    show own_Win p e below s _ _ _ (T201.setTop (mkF m 564 Lb10 [(.int (2 : Int32))]))
    refine own_newD X201 hx hZ (hw _ (List.mem_of_getElem? (i := 1) rfl)) e201 (n := 2) (cap := 2) rfl (Nat.le_refl _) (by decide) (by decide) (by decide) rfl rfl (hb hby at_564) ?_
    intro T202 h202 a202 X202 e202 g202 E202 F202 Ex202
    show own_Win p e below s _ _ _ (T202.setTop (mkF m 566 Lb10 [(.ref a202)]))
    have lt_a1_a202 : @LT.lt Nat _ a1 a202 := by rw [g202]; exact (own_Av.lt c_I_h201)
    have lt_a2_a202 : @LT.lt Nat _ a2 a202 := by rw [g202]; exact (own_Av.lt c_Q_h201)
    have lt_a3_a202 : @LT.lt Nat _ a3 a202 := by rw [g202]; exact (own_Av.lt c_A_h201)
    have lt_a4_a202 : @LT.lt Nat _ a4 a202 := by rw [g202]; exact (own_Av.lt c_B_h201)
    have lt_a201_a202 : @LT.lt Nat _ a201 a202 := by rw [g202]; exact (own_Av.lt F201)
    have Z202 : n0 ≤ h202.size := Nat.le_trans Z201 E202.1
    have q_a202 : n0 ≤ a202 := by rw [g202]; exact Z201
    have c_I_h202 : own_Ia Z h202 a1 18 (own_I (fun k => k)) := own_Av.ext E202 c_I_h201
    have c_Q_h202 : own_Da Z h202 a2 36 (own_P O (fun k => k)) := own_Av.ext E202 c_Q_h201
    have c_A_h202 : own_Da Z h202 a3 18 (O 0) := own_Av.ext E202 c_A_h201
    have c_B_h202 : own_Da Z h202 a4 18 (O 1) := own_Av.ext E202 c_B_h201
    have c_lo_h202 : own_Da Z h202 a201 2 (fun _ => 0) := own_Av.ext E202 F201
    have c_lox_h202 : Exa Z h202 a201 "[D" := Exa.ext E202 Ex201
    obtain ⟨Lb11, hLb11⟩ : ∃ L : Array Slot, L = #[.val (.long p1), .second, .val (.long p2), .second, .val (.int p3), .val (.int p4), .val (.int p5), .val (.int r0), .val (.int r1), .val (.int s0), .val (.int s1), .val (.int sv), .val (.int ev), .val (.int nw), .val (.int wv), .val (.ref a1), .val (.ref a2), .val (.ref a3), .val (.ref a4), .val (.double (FP.i2d p3)), .second, .val (.double (FP.i2d p4)), .second, .val (.double (FP.l2d ((p3.toInt64) + (r0.toInt64)))), .second, .val (.double (FP.l2d ((p4.toInt64) + (r1.toInt64)))), .second, .val (.ref a201), .val (.ref a202), .unset, .unset, .unset, .unset, .unset, .unset, .unset, .unset] := ⟨_, rfl⟩
    refine own_st (fun _ kz => XS.astore X202.here hx rfl (hb hby at_566) rfl rfl (l' := Lb11) (by show storeLocals Lb10 _ _ = _; rw [hLb10, hLb11]; rfl) kz) ?_
    show own_Win p e below s _ _ _ (T202.setTop (mkF m 568 Lb11 []))
    refine own_st (fun _ kz => XS.iconst X202.here hx rfl (hb hby at_568) kz) ?_
    show own_Win p e below s _ _ _ (T202.setTop (mkF m 569 Lb11 [(.int (2 : Int32))]))
    refine own_newD X202 hx hZ (hw _ (List.mem_of_getElem? (i := 1) rfl)) e202 (n := 2) (cap := 2) rfl (Nat.le_refl _) (by decide) (by decide) (by decide) rfl rfl (hb hby at_569) ?_
    intro T203 h203 a203 X203 e203 g203 E203 F203 Ex203
    show own_Win p e below s _ _ _ (T203.setTop (mkF m 571 Lb11 [(.ref a203)]))
    have lt_a1_a203 : @LT.lt Nat _ a1 a203 := by rw [g203]; exact (own_Av.lt c_I_h202)
    have lt_a2_a203 : @LT.lt Nat _ a2 a203 := by rw [g203]; exact (own_Av.lt c_Q_h202)
    have lt_a3_a203 : @LT.lt Nat _ a3 a203 := by rw [g203]; exact (own_Av.lt c_A_h202)
    have lt_a4_a203 : @LT.lt Nat _ a4 a203 := by rw [g203]; exact (own_Av.lt c_B_h202)
    have lt_a201_a203 : @LT.lt Nat _ a201 a203 := by rw [g203]; exact (own_Av.lt c_lo_h202)
    have lt_a202_a203 : @LT.lt Nat _ a202 a203 := by rw [g203]; exact (own_Av.lt F202)
    have Z203 : n0 ≤ h203.size := Nat.le_trans Z202 E203.1
    have q_a203 : n0 ≤ a203 := by rw [g203]; exact Z202
    have c_I_h203 : own_Ia Z h203 a1 18 (own_I (fun k => k)) := own_Av.ext E203 c_I_h202
    have c_Q_h203 : own_Da Z h203 a2 36 (own_P O (fun k => k)) := own_Av.ext E203 c_Q_h202
    have c_A_h203 : own_Da Z h203 a3 18 (O 0) := own_Av.ext E203 c_A_h202
    have c_B_h203 : own_Da Z h203 a4 18 (O 1) := own_Av.ext E203 c_B_h202
    have c_lo_h203 : own_Da Z h203 a201 2 (fun _ => 0) := own_Av.ext E203 c_lo_h202
    have c_lox_h203 : Exa Z h203 a201 "[D" := Exa.ext E203 c_lox_h202
    have c_hi_h203 : own_Da Z h203 a202 2 (fun _ => 0) := own_Av.ext E203 F202
    have c_hix_h203 : Exa Z h203 a202 "[D" := Exa.ext E203 Ex202
    obtain ⟨Lb12, hLb12⟩ : ∃ L : Array Slot, L = #[.val (.long p1), .second, .val (.long p2), .second, .val (.int p3), .val (.int p4), .val (.int p5), .val (.int r0), .val (.int r1), .val (.int s0), .val (.int s1), .val (.int sv), .val (.int ev), .val (.int nw), .val (.int wv), .val (.ref a1), .val (.ref a2), .val (.ref a3), .val (.ref a4), .val (.double (FP.i2d p3)), .second, .val (.double (FP.i2d p4)), .second, .val (.double (FP.l2d ((p3.toInt64) + (r0.toInt64)))), .second, .val (.double (FP.l2d ((p4.toInt64) + (r1.toInt64)))), .second, .val (.ref a201), .val (.ref a202), .val (.ref a203), .unset, .unset, .unset, .unset, .unset, .unset, .unset] := ⟨_, rfl⟩
    refine own_st (fun _ kz => XS.astore X203.here hx rfl (hb hby at_571) rfl rfl (l' := Lb12) (by show storeLocals Lb11 _ _ = _; rw [hLb11, hLb12]; rfl) kz) ?_
    show own_Win p e below s _ _ _ (T203.setTop (mkF m 573 Lb12 []))
    refine own_st (fun _ kz => XS.aload X203.here hx rfl (v := (.ref a201)) (hb hby at_573) (by show Lb12[_]? = _; rw [hLb12]; rfl) rfl kz) ?_
    show own_Win p e below s _ _ _ (T203.setTop (mkF m 575 Lb12 [(.ref a201)]))
    refine own_st (fun _ kz => XS.iconst X203.here hx rfl (hb hby at_575) kz) ?_
    show own_Win p e below s _ _ _ (T203.setTop (mkF m 576 Lb12 [(.int (0 : Int32)), (.ref a201)]))
    refine own_st (fun _ kz => XS.dload X203.here hx rfl (v := (FP.i2d p3)) (hb hby at_576) (by show Lb12[_]? = _; rw [hLb12]; rfl) kz) ?_
    show own_Win p e below s _ _ _ (T203.setTop (mkF m 578 Lb12 [(.double (FP.i2d p3)), (.int (0 : Int32)), (.ref a201)]))
    refine own_dastore X203 hx hZ e203 c_lo_h203 (i := 0) rfl (by decide) N117 (by omega) rfl rfl (hb hby at_578) ?_
    intro T204 h204 L204 X204 e204 N204 W204 F204
    show own_Win p e below s _ _ _ (T204.setTop (mkF m 579 Lb12 []))
    have Z204 : n0 ≤ h204.size := by rw [Wr.size W204]; exact Z203
    have c_I_h204 : own_Ia Z h204 a1 18 (own_I (fun k => k)) := own_Av.other W204 c_I_h203 (Nat.ne_of_lt (by omega))
    have c_Q_h204 : own_Da Z h204 a2 36 (own_P O (fun k => k)) := own_Av.other W204 c_Q_h203 (Nat.ne_of_lt (by omega))
    have c_A_h204 : own_Da Z h204 a3 18 (O 0) := own_Av.other W204 c_A_h203 (Nat.ne_of_lt (by omega))
    have c_B_h204 : own_Da Z h204 a4 18 (O 1) := own_Av.other W204 c_B_h203 (Nat.ne_of_lt (by omega))
    have c_lox_h204 : Exa Z h204 a201 "[D" := Exa.wr W204 c_lox_h203
    have c_hi_h204 : own_Da Z h204 a202 2 (fun _ => 0) := own_Av.other W204 c_hi_h203 (Nat.ne_of_gt (by omega))
    have c_hix_h204 : Exa Z h204 a202 "[D" := Exa.wr W204 c_hix_h203
    have c_sp_h204 : own_Da Z h204 a203 2 (fun _ => 0) := own_Av.other W204 F203 (Nat.ne_of_gt (by omega))
    refine own_st (fun _ kz => XS.aload X204.here hx rfl (v := (.ref a201)) (hb hby at_579) (by show Lb12[_]? = _; rw [hLb12]; rfl) rfl kz) ?_
    show own_Win p e below s _ _ _ (T204.setTop (mkF m 581 Lb12 [(.ref a201)]))
    refine own_st (fun _ kz => XS.iconst X204.here hx rfl (hb hby at_581) kz) ?_
    show own_Win p e below s _ _ _ (T204.setTop (mkF m 582 Lb12 [(.int (1 : Int32)), (.ref a201)]))
    refine own_st (fun _ kz => XS.dload X204.here hx rfl (v := (FP.i2d p4)) (hb hby at_582) (by show Lb12[_]? = _; rw [hLb12]; rfl) kz) ?_
    show own_Win p e below s _ _ _ (T204.setTop (mkF m 584 Lb12 [(.double (FP.i2d p4)), (.int (1 : Int32)), (.ref a201)]))
    refine own_dastore X204 hx hZ e204 F204 (i := 1) rfl (by decide) N204 (by omega) rfl rfl (hb hby at_584) ?_
    intro T205 h205 L205 X205 e205 N205 W205 F205
    show own_Win p e below s _ _ _ (T205.setTop (mkF m 585 Lb12 []))
    have Z205 : n0 ≤ h205.size := by rw [Wr.size W205]; exact Z204
    have c_I_h205 : own_Ia Z h205 a1 18 (own_I (fun k => k)) := own_Av.other W205 c_I_h204 (Nat.ne_of_lt (by omega))
    have c_Q_h205 : own_Da Z h205 a2 36 (own_P O (fun k => k)) := own_Av.other W205 c_Q_h204 (Nat.ne_of_lt (by omega))
    have c_A_h205 : own_Da Z h205 a3 18 (O 0) := own_Av.other W205 c_A_h204 (Nat.ne_of_lt (by omega))
    have c_B_h205 : own_Da Z h205 a4 18 (O 1) := own_Av.other W205 c_B_h204 (Nat.ne_of_lt (by omega))
    have c_lox_h205 : Exa Z h205 a201 "[D" := Exa.wr W205 c_lox_h204
    have c_hi_h205 : own_Da Z h205 a202 2 (fun _ => 0) := own_Av.other W205 c_hi_h204 (Nat.ne_of_gt (by omega))
    have c_hix_h205 : Exa Z h205 a202 "[D" := Exa.wr W205 c_hix_h204
    have c_sp_h205 : own_Da Z h205 a203 2 (fun _ => 0) := own_Av.other W205 c_sp_h204 (Nat.ne_of_gt (by omega))
    refine own_st (fun _ kz => XS.aload X205.here hx rfl (v := (.ref a202)) (hb hby at_585) (by show Lb12[_]? = _; rw [hLb12]; rfl) rfl kz) ?_
    show own_Win p e below s _ _ _ (T205.setTop (mkF m 587 Lb12 [(.ref a202)]))
    refine own_st (fun _ kz => XS.iconst X205.here hx rfl (hb hby at_587) kz) ?_
    show own_Win p e below s _ _ _ (T205.setTop (mkF m 588 Lb12 [(.int (0 : Int32)), (.ref a202)]))
    refine own_st (fun _ kz => XS.dload X205.here hx rfl (v := (FP.l2d ((p3.toInt64) + (r0.toInt64)))) (hb hby at_588) (by show Lb12[_]? = _; rw [hLb12]; rfl) kz) ?_
    show own_Win p e below s _ _ _ (T205.setTop (mkF m 590 Lb12 [(.double (FP.l2d ((p3.toInt64) + (r0.toInt64)))), (.int (0 : Int32)), (.ref a202)]))
    refine own_dastore X205 hx hZ e205 c_hi_h205 (i := 0) rfl (by decide) N205 (by omega) rfl rfl (hb hby at_590) ?_
    intro T206 h206 L206 X206 e206 N206 W206 F206
    show own_Win p e below s _ _ _ (T206.setTop (mkF m 591 Lb12 []))
    have Z206 : n0 ≤ h206.size := by rw [Wr.size W206]; exact Z205
    have c_I_h206 : own_Ia Z h206 a1 18 (own_I (fun k => k)) := own_Av.other W206 c_I_h205 (Nat.ne_of_lt (by omega))
    have c_Q_h206 : own_Da Z h206 a2 36 (own_P O (fun k => k)) := own_Av.other W206 c_Q_h205 (Nat.ne_of_lt (by omega))
    have c_A_h206 : own_Da Z h206 a3 18 (O 0) := own_Av.other W206 c_A_h205 (Nat.ne_of_lt (by omega))
    have c_B_h206 : own_Da Z h206 a4 18 (O 1) := own_Av.other W206 c_B_h205 (Nat.ne_of_lt (by omega))
    have c_lo_h206 : own_Da Z h206 a201 2 (own_up (own_up (fun _ => 0) 0 (FP.i2d p3)) 1 (FP.i2d p4)) := own_Av.other W206 F205 (Nat.ne_of_lt (by omega))
    have c_lox_h206 : Exa Z h206 a201 "[D" := Exa.wr W206 c_lox_h205
    have c_hix_h206 : Exa Z h206 a202 "[D" := Exa.wr W206 c_hix_h205
    have c_sp_h206 : own_Da Z h206 a203 2 (fun _ => 0) := own_Av.other W206 c_sp_h205 (Nat.ne_of_gt (by omega))
    refine own_st (fun _ kz => XS.aload X206.here hx rfl (v := (.ref a202)) (hb hby at_591) (by show Lb12[_]? = _; rw [hLb12]; rfl) rfl kz) ?_
    show own_Win p e below s _ _ _ (T206.setTop (mkF m 593 Lb12 [(.ref a202)]))
    refine own_st (fun _ kz => XS.iconst X206.here hx rfl (hb hby at_593) kz) ?_
    show own_Win p e below s _ _ _ (T206.setTop (mkF m 594 Lb12 [(.int (1 : Int32)), (.ref a202)]))
    refine own_st (fun _ kz => XS.dload X206.here hx rfl (v := (FP.l2d ((p4.toInt64) + (r1.toInt64)))) (hb hby at_594) (by show Lb12[_]? = _; rw [hLb12]; rfl) kz) ?_
    show own_Win p e below s _ _ _ (T206.setTop (mkF m 596 Lb12 [(.double (FP.l2d ((p4.toInt64) + (r1.toInt64)))), (.int (1 : Int32)), (.ref a202)]))
    refine own_dastore X206 hx hZ e206 F206 (i := 1) rfl (by decide) N206 (by omega) rfl rfl (hb hby at_596) ?_
    intro T207 h207 L207 X207 e207 N207 W207 F207
    show own_Win p e below s _ _ _ (T207.setTop (mkF m 597 Lb12 []))
    have Z207 : n0 ≤ h207.size := by rw [Wr.size W207]; exact Z206
    have c_I_h207 : own_Ia Z h207 a1 18 (own_I (fun k => k)) := own_Av.other W207 c_I_h206 (Nat.ne_of_lt (by omega))
    have c_Q_h207 : own_Da Z h207 a2 36 (own_P O (fun k => k)) := own_Av.other W207 c_Q_h206 (Nat.ne_of_lt (by omega))
    have c_A_h207 : own_Da Z h207 a3 18 (O 0) := own_Av.other W207 c_A_h206 (Nat.ne_of_lt (by omega))
    have c_B_h207 : own_Da Z h207 a4 18 (O 1) := own_Av.other W207 c_B_h206 (Nat.ne_of_lt (by omega))
    have c_lo_h207 : own_Da Z h207 a201 2 (own_up (own_up (fun _ => 0) 0 (FP.i2d p3)) 1 (FP.i2d p4)) := own_Av.other W207 c_lo_h206 (Nat.ne_of_lt (by omega))
    have c_lox_h207 : Exa Z h207 a201 "[D" := Exa.wr W207 c_lox_h206
    have c_hix_h207 : Exa Z h207 a202 "[D" := Exa.wr W207 c_hix_h206
    have c_sp_h207 : own_Da Z h207 a203 2 (fun _ => 0) := own_Av.other W207 c_sp_h206 (Nat.ne_of_gt (by omega))
    refine own_st (fun _ kz => XS.aload X207.here hx rfl (v := (.ref a203)) (hb hby at_597) (by show Lb12[_]? = _; rw [hLb12]; rfl) rfl kz) ?_
    show own_Win p e below s _ _ _ (T207.setTop (mkF m 599 Lb12 [(.ref a203)]))
    refine own_st (fun _ kz => XS.iconst X207.here hx rfl (hb hby at_599) kz) ?_
    show own_Win p e below s _ _ _ (T207.setTop (mkF m 600 Lb12 [(.int (0 : Int32)), (.ref a203)]))
    refine own_st (fun _ kz => XS.iload X207.here hx rfl (v := s0) (hb hby at_600) (by show Lb12[_]? = _; rw [hLb12]; rfl) kz) ?_
    show own_Win p e below s _ _ _ (T207.setTop (mkF m 602 Lb12 [(.int s0), (.int (0 : Int32)), (.ref a203)]))
    refine own_st (fun _ kz => XS.i2dS X207.here hx rfl (hb hby at_602) rfl rfl kz) ?_
    show own_Win p e below s _ _ _ (T207.setTop (mkF m 603 Lb12 [(.double (FP.i2d s0)), (.int (0 : Int32)), (.ref a203)]))
    refine own_dastore X207 hx hZ e207 c_sp_h207 (i := 0) rfl (by decide) N207 (by omega) rfl rfl (hb hby at_603) ?_
    intro T208 h208 L208 X208 e208 N208 W208 F208
    show own_Win p e below s _ _ _ (T208.setTop (mkF m 604 Lb12 []))
    have Z208 : n0 ≤ h208.size := by rw [Wr.size W208]; exact Z207
    have c_I_h208 : own_Ia Z h208 a1 18 (own_I (fun k => k)) := own_Av.other W208 c_I_h207 (Nat.ne_of_lt (by omega))
    have c_Q_h208 : own_Da Z h208 a2 36 (own_P O (fun k => k)) := own_Av.other W208 c_Q_h207 (Nat.ne_of_lt (by omega))
    have c_A_h208 : own_Da Z h208 a3 18 (O 0) := own_Av.other W208 c_A_h207 (Nat.ne_of_lt (by omega))
    have c_B_h208 : own_Da Z h208 a4 18 (O 1) := own_Av.other W208 c_B_h207 (Nat.ne_of_lt (by omega))
    have c_lo_h208 : own_Da Z h208 a201 2 (own_up (own_up (fun _ => 0) 0 (FP.i2d p3)) 1 (FP.i2d p4)) := own_Av.other W208 c_lo_h207 (Nat.ne_of_lt (by omega))
    have c_lox_h208 : Exa Z h208 a201 "[D" := Exa.wr W208 c_lox_h207
    have c_hi_h208 : own_Da Z h208 a202 2 (own_up (own_up (fun _ => 0) 0 (FP.l2d ((p3.toInt64) + (r0.toInt64)))) 1 (FP.l2d ((p4.toInt64) + (r1.toInt64)))) := own_Av.other W208 F207 (Nat.ne_of_lt (by omega))
    have c_hix_h208 : Exa Z h208 a202 "[D" := Exa.wr W208 c_hix_h207
    refine own_st (fun _ kz => XS.aload X208.here hx rfl (v := (.ref a203)) (hb hby at_604) (by show Lb12[_]? = _; rw [hLb12]; rfl) rfl kz) ?_
    show own_Win p e below s _ _ _ (T208.setTop (mkF m 606 Lb12 [(.ref a203)]))
    refine own_st (fun _ kz => XS.iconst X208.here hx rfl (hb hby at_606) kz) ?_
    show own_Win p e below s _ _ _ (T208.setTop (mkF m 607 Lb12 [(.int (1 : Int32)), (.ref a203)]))
    refine own_st (fun _ kz => XS.iload X208.here hx rfl (v := s1) (hb hby at_607) (by show Lb12[_]? = _; rw [hLb12]; rfl) kz) ?_
    show own_Win p e below s _ _ _ (T208.setTop (mkF m 609 Lb12 [(.int s1), (.int (1 : Int32)), (.ref a203)]))
    refine own_st (fun _ kz => XS.i2dS X208.here hx rfl (hb hby at_609) rfl rfl kz) ?_
    show own_Win p e below s _ _ _ (T208.setTop (mkF m 610 Lb12 [(.double (FP.i2d s1)), (.int (1 : Int32)), (.ref a203)]))
    refine own_dastore X208 hx hZ e208 F208 (i := 1) rfl (by decide) N208 (by omega) rfl rfl (hb hby at_610) ?_
    intro T209 h209 L209 X209 e209 N209 W209 F209
    show own_Win p e below s _ _ _ (T209.setTop (mkF m 611 Lb12 []))
    have Z209 : n0 ≤ h209.size := by rw [Wr.size W209]; exact Z208
    have c_I_h209 : own_Ia Z h209 a1 18 (own_I (fun k => k)) := own_Av.other W209 c_I_h208 (Nat.ne_of_lt (by omega))
    have c_Q_h209 : own_Da Z h209 a2 36 (own_P O (fun k => k)) := own_Av.other W209 c_Q_h208 (Nat.ne_of_lt (by omega))
    have c_A_h209 : own_Da Z h209 a3 18 (O 0) := own_Av.other W209 c_A_h208 (Nat.ne_of_lt (by omega))
    have c_B_h209 : own_Da Z h209 a4 18 (O 1) := own_Av.other W209 c_B_h208 (Nat.ne_of_lt (by omega))
    have c_lo_h209 : own_Da Z h209 a201 2 (own_up (own_up (fun _ => 0) 0 (FP.i2d p3)) 1 (FP.i2d p4)) := own_Av.other W209 c_lo_h208 (Nat.ne_of_lt (by omega))
    have c_lox_h209 : Exa Z h209 a201 "[D" := Exa.wr W209 c_lox_h208
    have c_hi_h209 : own_Da Z h209 a202 2 (own_up (own_up (fun _ => 0) 0 (FP.l2d ((p3.toInt64) + (r0.toInt64)))) 1 (FP.l2d ((p4.toInt64) + (r1.toInt64)))) := own_Av.other W209 c_hi_h208 (Nat.ne_of_lt (by omega))
    have c_hix_h209 : Exa Z h209 a202 "[D" := Exa.wr W209 c_hix_h208
    obtain ⟨T210, h210, X210, e210, E210, A210, D210, -, st210⟩ := newO X209 hx hZ hown (hw _ (List.mem_of_getElem? (i := 6) rfl)) (hw _ (List.mem_of_getElem? (i := 7) rfl)) (hw _ (List.mem_of_getElem? (i := 8) rfl)) e209 (g := (mkF m 611 Lb12 [])) rfl (hb hby at_611) (by decide) (by decide)
    obtain ⟨t, gt⟩ : ∃ z, z = h209.size := ⟨_, rfl⟩
    rw [← gt] at A210 D210 st210
    refine own_st st210 ?_
    have lt_a1_t : @LT.lt Nat _ a1 t := by rw [gt]; exact (own_Av.lt c_I_h209)
    have lt_a2_t : @LT.lt Nat _ a2 t := by rw [gt]; exact (own_Av.lt c_Q_h209)
    have lt_a3_t : @LT.lt Nat _ a3 t := by rw [gt]; exact (own_Av.lt c_A_h209)
    have lt_a4_t : @LT.lt Nat _ a4 t := by rw [gt]; exact (own_Av.lt c_B_h209)
    have lt_a201_t : @LT.lt Nat _ a201 t := by rw [gt]; exact (own_Av.lt c_lo_h209)
    have lt_a202_t : @LT.lt Nat _ a202 t := by rw [gt]; exact (own_Av.lt c_hi_h209)
    have lt_a203_t : @LT.lt Nat _ a203 t := by rw [gt]; exact (own_Av.lt F209)
    have Z210 : n0 ≤ h210.size := Nat.le_trans Z209 E210.1
    have f_width : Fld Z h210 t "com/example/skyweave/skyweave/KdTree" "width" "I" (.int (0 : Int32)) := D210 (Or.inr (hw _ (List.mem_of_getElem? (i := 16) rfl))) (ty := .int) (by decide)
    have f_ids : Fld Z h210 t "com/example/skyweave/skyweave/KdTree" "ids" "[I" .null := D210 (Or.inr (hw _ (List.mem_of_getElem? (i := 18) rfl))) (ty := (.array .int)) (by decide)
    have f_points : Fld Z h210 t "com/example/skyweave/skyweave/KdTree" "points" "[D" .null := D210 (Or.inr (hw _ (List.mem_of_getElem? (i := 20) rfl))) (ty := (.array .double)) (by decide)
    have f_from : Fld Z h210 t "com/example/skyweave/skyweave/KdTree" "from" "[I" .null := D210 (Or.inr (hw _ (List.mem_of_getElem? (i := 22) rfl))) (ty := (.array .int)) (by decide)
    have f_to : Fld Z h210 t "com/example/skyweave/skyweave/KdTree" "to" "[I" .null := D210 (Or.inr (hw _ (List.mem_of_getElem? (i := 24) rfl))) (ty := (.array .int)) (by decide)
    have f_lowHalf : Fld Z h210 t "com/example/skyweave/skyweave/KdTree" "lowHalf" "[I" .null := D210 (Or.inr (hw _ (List.mem_of_getElem? (i := 26) rfl))) (ty := (.array .int)) (by decide)
    have f_highHalf : Fld Z h210 t "com/example/skyweave/skyweave/KdTree" "highHalf" "[I" .null := D210 (Or.inr (hw _ (List.mem_of_getElem? (i := 28) rfl))) (ty := (.array .int)) (by decide)
    have f_best : Fld Z h210 t "com/example/skyweave/skyweave/KdTree" "best" "[D" .null := D210 (Or.inr (hw _ (List.mem_of_getElem? (i := 30) rfl))) (ty := (.array .double)) (by decide)
    have f_groups : Fld Z h210 t "com/example/skyweave/skyweave/KdTree" "groups" "I" (.int (0 : Int32)) := D210 (Or.inl (hw _ (List.mem_of_getElem? (i := 37) rfl))) (ty := .int) (by decide)
    have c_I_h210 : own_Ia Z h210 a1 18 (own_I (fun k => k)) := own_Av.ext E210 c_I_h209
    have c_Q_h210 : own_Da Z h210 a2 36 (own_P O (fun k => k)) := own_Av.ext E210 c_Q_h209
    have c_A_h210 : own_Da Z h210 a3 18 (O 0) := own_Av.ext E210 c_A_h209
    have c_B_h210 : own_Da Z h210 a4 18 (O 1) := own_Av.ext E210 c_B_h209
    have c_lo_h210 : own_Da Z h210 a201 2 (own_up (own_up (fun _ => 0) 0 (FP.i2d p3)) 1 (FP.i2d p4)) := own_Av.ext E210 c_lo_h209
    have c_lox_h210 : Exa Z h210 a201 "[D" := Exa.ext E210 c_lox_h209
    have c_hi_h210 : own_Da Z h210 a202 2 (own_up (own_up (fun _ => 0) 0 (FP.l2d ((p3.toInt64) + (r0.toInt64)))) 1 (FP.l2d ((p4.toInt64) + (r1.toInt64)))) := own_Av.ext E210 c_hi_h209
    have c_hix_h210 : Exa Z h210 a202 "[D" := Exa.ext E210 c_hix_h209
    have c_sp_h210 : own_Da Z h210 a203 2 (own_up (own_up (fun _ => 0) 0 (FP.i2d s0)) 1 (FP.i2d s1)) := own_Av.ext E210 F209
    show own_Win p e below s _ _ _ (T210.setTop (mkF m 614 Lb12 [(.ref t)]))
    refine own_st (fun _ kz => XS.dup X210.here hx rfl (hb hby at_614) rfl rfl kz) ?_
    show own_Win p e below s _ _ _ (T210.setTop (mkF m 615 Lb12 [(.ref t), (.ref t)]))
    refine own_st (fun _ kz => XS.iload X210.here hx rfl (v := wv) (hb hby at_615) (by show Lb12[_]? = _; rw [hLb12]; rfl) kz) ?_
    show own_Win p e below s _ _ _ (T210.setTop (mkF m 617 Lb12 [(.int wv), (.ref t), (.ref t)]))
    refine own_st (fun _ kz => XS.aload X210.here hx rfl (v := (.ref a1)) (hb hby at_617) (by show Lb12[_]? = _; rw [hLb12]; rfl) rfl kz) ?_
    show own_Win p e below s _ _ _ (T210.setTop (mkF m 619 Lb12 [(.ref a1), (.int wv), (.ref t), (.ref t)]))
    refine own_st (fun _ kz => XS.aload X210.here hx rfl (v := (.ref a2)) (hb hby at_619) (by show Lb12[_]? = _; rw [hLb12]; rfl) rfl kz) ?_
    show own_Win p e below s _ _ _ (T210.setTop (mkF m 621 Lb12 [(.ref a2), (.ref a1), (.int wv), (.ref t), (.ref t)]))
    refine own_st (fun _ kz => XS.iconst X210.here hx rfl (hb hby at_621) kz) ?_
    show own_Win p e below s _ _ _ (T210.setTop (mkF m 622 Lb12 [(.int (1 : Int32)), (.ref a2), (.ref a1), (.int wv), (.ref t), (.ref t)]))
    refine own_callI X210 hx hZ (y := yI) rfl hown (hw _ (List.mem_of_getElem? (i := 9) rfl)) (hw _ (List.mem_of_getElem? (i := 10) rfl)) (hw _ (List.mem_of_getElem? (i := 11) rfl)) (hw _ (List.mem_of_getElem? (i := 8) rfl)) (by decide) e210 (a := t) (rmI l Z a0 hw [] t a1 a2 wv wn (own_I (fun k => k)) h210 n0 Z210 A210 q_a1 (by omega) (by omega) c_I_h210 hwn wn2 f_width f_ids f_points f_from f_to f_lowHalf f_highHalf f_best f_groups) (by decide) (W := 1) (by decide) rfl (by rw [hml]; show Lb12.size = _; rw [hLb12]; rfl) (argsL := [.int wv, .ref a1, .ref a2, .int (1 : Int32)]) (rest := [.ref t]) (lenOf pdI rfl) rfl (Nat.le_of_eq rfl) (hb hby at_622) rfl (by decide) (by decide) ?_
    intro T300 v300 L300 X300 hQ300
    obtain ⟨h300, e300⟩ : ∃ z, T300.heap = z := ⟨_, rfl⟩
    rw [e300] at hQ300
    obtain ⟨rfl, M300, K300, aF, aT, aL, aH, FS, l1, l2, l3, l4, GF, GU, GL, GH⟩ := hQ300
    have N300 := Fr.app N209 M300
    have Z300 : n0 ≤ h300.size := Nat.le_trans Z210 K300.1
    have c_I_h300 : own_Ia Z h300 a1 18 (own_I (fun k => k)) := own_Av.keep K300 c_I_h210 (ninS (Nat.ne_of_lt (by omega)) nin0)
    have c_Q_h300 : own_Da Z h300 a2 36 (own_P O (fun k => k)) := own_Av.keep K300 c_Q_h210 (ninS (Nat.ne_of_lt (by omega)) nin0)
    have c_A_h300 : own_Da Z h300 a3 18 (O 0) := own_Av.keep K300 c_A_h210 (ninS (Nat.ne_of_lt (by omega)) nin0)
    have c_B_h300 : own_Da Z h300 a4 18 (O 1) := own_Av.keep K300 c_B_h210 (ninS (Nat.ne_of_lt (by omega)) nin0)
    have c_lo_h300 : own_Da Z h300 a201 2 (own_up (own_up (fun _ => 0) 0 (FP.i2d p3)) 1 (FP.i2d p4)) := own_Av.keep K300 c_lo_h210 (ninS (Nat.ne_of_lt (by omega)) nin0)
    have c_lox_h300 : Exa Z h300 a201 "[D" := Exa.keep c_lox_h210 K300
    have c_hi_h300 : own_Da Z h300 a202 2 (own_up (own_up (fun _ => 0) 0 (FP.l2d ((p3.toInt64) + (r0.toInt64)))) 1 (FP.l2d ((p4.toInt64) + (r1.toInt64)))) := own_Av.keep K300 c_hi_h210 (ninS (Nat.ne_of_lt (by omega)) nin0)
    have c_hix_h300 : Exa Z h300 a202 "[D" := Exa.keep c_hix_h210 K300
    have c_sp_h300 : own_Da Z h300 a203 2 (own_up (own_up (fun _ => 0) 0 (FP.i2d s0)) 1 (FP.i2d s1)) := own_Av.keep K300 c_sp_h210 (ninS (Nat.ne_of_lt (by omega)) nin0)
    show own_Win p e below s _ _ _ (T300.setTop (mkF m 625 Lb12 [(.ref t)]))
    obtain ⟨Lb13, hLb13⟩ : ∃ L : Array Slot, L = #[.val (.long p1), .second, .val (.long p2), .second, .val (.int p3), .val (.int p4), .val (.int p5), .val (.int r0), .val (.int r1), .val (.int s0), .val (.int s1), .val (.int sv), .val (.int ev), .val (.int nw), .val (.int wv), .val (.ref a1), .val (.ref a2), .val (.ref a3), .val (.ref a4), .val (.double (FP.i2d p3)), .second, .val (.double (FP.i2d p4)), .second, .val (.double (FP.l2d ((p3.toInt64) + (r0.toInt64)))), .second, .val (.double (FP.l2d ((p4.toInt64) + (r1.toInt64)))), .second, .val (.ref a201), .val (.ref a202), .val (.ref a203), .val (.ref t), .unset, .unset, .unset, .unset, .unset, .unset] := ⟨_, rfl⟩
    refine own_st (fun _ kz => XS.astore X300.here hx rfl (hb hby at_625) rfl rfl (l' := Lb13) (by show storeLocals Lb12 _ _ = _; rw [hLb12, hLb13]; rfl) kz) ?_
    show own_Win p e below s _ _ _ (T300.setTop (mkF m 627 Lb13 []))
    refine own_st (fun _ kz => XS.aload X300.here hx rfl (v := (.ref t)) (hb hby at_627) (by show Lb13[_]? = _; rw [hLb13]; rfl) rfl kz) ?_
    show own_Win p e below s _ _ _ (T300.setTop (mkF m 629 Lb13 [(.ref t)]))
    refine own_st (fun _ kz => XS.iload X300.here hx rfl (v := sv) (hb hby at_629) (by show Lb13[_]? = _; rw [hLb13]; rfl) kz) ?_
    show own_Win p e below s _ _ _ (T300.setTop (mkF m 631 Lb13 [(.int sv), (.ref t)]))
    refine own_st (fun _ kz => XS.iload X300.here hx rfl (v := ev) (hb hby at_631) (by show Lb13[_]? = _; rw [hLb13]; rfl) kz) ?_
    show own_Win p e below s _ _ _ (T300.setTop (mkF m 633 Lb13 [(.int ev), (.int sv), (.ref t)]))
    refine own_st (fun _ kz => XS.aload X300.here hx rfl (v := (.ref a201)) (hb hby at_633) (by show Lb13[_]? = _; rw [hLb13]; rfl) rfl kz) ?_
    show own_Win p e below s _ _ _ (T300.setTop (mkF m 635 Lb13 [(.ref a201), (.int ev), (.int sv), (.ref t)]))
    refine own_st (fun _ kz => XS.aload X300.here hx rfl (v := (.ref a202)) (hb hby at_635) (by show Lb13[_]? = _; rw [hLb13]; rfl) rfl kz) ?_
    show own_Win p e below s _ _ _ (T300.setTop (mkF m 637 Lb13 [(.ref a202), (.ref a201), (.int ev), (.int sv), (.ref t)]))
    refine own_st (fun _ kz => XS.aload X300.here hx rfl (v := (.ref a203)) (hb hby at_637) (by show Lb13[_]? = _; rw [hLb13]; rfl) rfl kz) ?_
    show own_Win p e below s _ _ _ (T300.setTop (mkF m 639 Lb13 [(.ref a203), (.ref a202), (.ref a201), (.int ev), (.int sv), (.ref t)]))
    have hm : (XT.ushr (sv + ev) (1 : Int32)).toInt = (((sN + eN) / 2 : Nat) : Int) := own_mid hsN heN (by omega) (by omega)
    have ha : (Int32.ofNat (own_w r0.toInt r1.toInt s0.toInt s1.toInt)).toInt = (((own_w r0.toInt r1.toInt s0.toInt s1.toInt) : Nat) : Int) := own_ofNat (by have := own_w2 r0.toInt r1.toInt s0.toInt s1.toInt; omega)
    have w2 := own_w2 r0.toInt r1.toInt s0.toInt s1.toInt
    have tlS : ∀ (T : State) (locs : List Loc) (C S : Nat) (h : Heap) (gv : Int32) (σ : Nat → Nat) (gF gT gL gH : Nat → Int32), Stand p l e room_1 s m #[(.long p1), (.long p2), (.int p3), (.int p4), (.int p5)] below meth c T locs C S → C ≤ 40 → S ≤ 384 → T.heap = h → n0 ≤ h.size → Fr n0 locs → own_Fs Z h t wv gv a1 a2 aF aT aL aH → own_Ia Z h a1 18 (own_I σ) → own_Da Z h a2 36 (own_P O σ) → own_Da Z h a3 18 (O 0) → own_Da Z h a4 18 (O 1) → own_Da Z h a201 2 (own_up (own_up (fun _ => 0) 0 (FP.i2d p3)) 1 (FP.i2d p4)) → own_Da Z h a202 2 (own_up (own_up (fun _ => 0) 0 (FP.l2d ((p3.toInt64) + (r0.toInt64)))) 1 (FP.l2d ((p4.toInt64) + (r1.toInt64)))) → own_Da Z h a203 2 (own_up (own_up (fun _ => 0) 0 (FP.i2d s0)) 1 (FP.i2d s1)) → own_Ia Z h aF 6 gF → own_Ia Z h aT 6 gT → own_Ia Z h aL 6 gL → own_Ia Z h aH 6 gH → own_ok sN eN σ → gF 0 = sv → gT 0 = ev → (((nw = 1 ∨ ¬ (16 : Int32) < ev - sv) ∧ ((∀ k, σ k = k) ∧ gL 0 = -1 ∧ gH 0 = -1)) ∨ ((nw = 0 ∧ (16 : Int32) < ev - sv) ∧ (own_Part (fun k => V (own_w r0.toInt r1.toInt s0.toInt s1.toInt) (σ k)) sN eN ((sN + eN) / 2) ∧ gL 0 = 1 ∧ gH 0 = 2 ∧ gF 1 = sv ∧ gT 1 = (XT.ushr (sv + ev) (1 : Int32)) ∧ gL 1 = -1 ∧ gH 1 = -1 ∧ gF 2 = (XT.ushr (sv + ev) (1 : Int32)) ∧ gT 2 = ev ∧ gL 2 = -1 ∧ gH 2 = -1))) → own_Win p e below s (Q_rm0 Z p1 p2 p3 p4 p5 h0 n0) room_1.cells room_1.slots (T.setTop (mkF m 642 Lb13 [.int (0 : Int32)])) := by
      intro T locs C S h gv σ gF gT gL gH X hC hS eT Z9 N FS FI FQ FA FB Flo Fhi Fsp GF GU GL GH hok hF0 hT0 hcase
      show own_Win p e below s _ _ _ (T.setTop (mkF m 642 Lb13 [(.int (0 : Int32))]))
      obtain ⟨Lb301, hLb301⟩ : ∃ L : Array Slot, L = #[.val (.long p1), .second, .val (.long p2), .second, .val (.int p3), .val (.int p4), .val (.int p5), .val (.int r0), .val (.int r1), .val (.int s0), .val (.int s1), .val (.int sv), .val (.int ev), .val (.int nw), .val (.int wv), .val (.ref a1), .val (.ref a2), .val (.ref a3), .val (.ref a4), .val (.double (FP.i2d p3)), .second, .val (.double (FP.i2d p4)), .second, .val (.double (FP.l2d ((p3.toInt64) + (r0.toInt64)))), .second, .val (.double (FP.l2d ((p4.toInt64) + (r1.toInt64)))), .second, .val (.ref a201), .val (.ref a202), .val (.ref a203), .val (.ref t), .val (.int (0 : Int32)), .unset, .unset, .unset, .unset, .unset] := ⟨_, rfl⟩
      refine own_st (fun _ kz => XS.istore X.here hx rfl (hb hby at_642) rfl (l' := Lb301) (by show storeLocals Lb13 _ _ = _; rw [hLb13, hLb301]; rfl) kz) ?_
      show own_Win p e below s _ _ _ (T.setTop (mkF m 644 Lb301 []))
      have tlE : ∀ (T : State) (locs : List Loc) (sp : Int32), Stand p l e room_1 s m #[(.long p1), (.long p2), (.int p3), (.int p4), (.int p5)] below meth c T locs C S → T.heap = h → Fr n0 locs → ((sp = 0 ∧ ((∀ k, σ k = k) ∧ gL 0 = -1 ∧ gH 0 = -1)) ∨ (sp = 1 ∧ (own_Part (fun k => V (own_w r0.toInt r1.toInt s0.toInt s1.toInt) (σ k)) sN eN ((sN + eN) / 2) ∧ gL 0 = 1 ∧ gH 0 = 2 ∧ gF 1 = sv ∧ gT 1 = (XT.ushr (sv + ev) (1 : Int32)) ∧ gL 1 = -1 ∧ gH 1 = -1 ∧ gF 2 = (XT.ushr (sv + ev) (1 : Int32)) ∧ gT 2 = ev ∧ gL 2 = -1 ∧ gH 2 = -1))) → own_Win p e below s (Q_rm0 Z p1 p2 p3 p4 p5 h0 n0) room_1.cells room_1.slots (T.setTop (mkF m 1002 #[.val (.long p1), .second, .val (.long p2), .second, .val (.int p3), .val (.int p4), .val (.int p5), .val (.int r0), .val (.int r1), .val (.int s0), .val (.int s1), .val (.int sv), .val (.int ev), .val (.int nw), .val (.int wv), .val (.ref a1), .val (.ref a2), .val (.ref a3), .val (.ref a4), .val (.double (FP.i2d p3)), .second, .val (.double (FP.i2d p4)), .second, .val (.double (FP.l2d ((p3.toInt64) + (r0.toInt64)))), .second, .val (.double (FP.l2d ((p4.toInt64) + (r1.toInt64)))), .second, .val (.ref a201), .val (.ref a202), .val (.ref a203), .val (.ref t), .val (.int (0 : Int32)), .val (.int sp), .val (.int (XT.ushr (sv + ev) (1 : Int32))), .val (.int (Int32.ofNat (own_w r0.toInt r1.toInt s0.toInt s1.toInt))), .val (.int (1 : Int32)), .unset] [])) := by
        intro T locs sp X eT N hc
        have hsp : sp = 0 ∨ sp = 1 := hc.imp (·.1) (·.1)
        have hpt : sp = 1 → own_Part (fun k => V (own_w r0.toInt r1.toInt s0.toInt s1.toInt) (σ k)) sN eN ((sN + eN) / 2) := fun q => by rcases hc with ⟨r, -⟩ | ⟨-, r, -⟩; rw [r] at q; exact absurd q (by decide); exact r
        have hid : ∀ k, sp = 0 ∨ k < sN ∨ eN ≤ k → σ k = k := fun k q => by rcases q with q | q; rcases hc with ⟨-, r, -⟩ | ⟨r, -⟩; exact r k; rw [r] at q; exact absurd q (by decide); exact hok.2.2 k q
        obtain ⟨Le1, hLe1⟩ : ∃ L : Array Slot, L = #[.val (.long p1), .second, .val (.long p2), .second, .val (.int p3), .val (.int p4), .val (.int p5), .val (.int r0), .val (.int r1), .val (.int s0), .val (.int s1), .val (.int sv), .val (.int ev), .val (.int nw), .val (.int wv), .val (.ref a1), .val (.ref a2), .val (.ref a3), .val (.ref a4), .val (.double (FP.i2d p3)), .second, .val (.double (FP.i2d p4)), .second, .val (.double (FP.l2d ((p3.toInt64) + (r0.toInt64)))), .second, .val (.double (FP.l2d ((p4.toInt64) + (r1.toInt64)))), .second, .val (.ref a201), .val (.ref a202), .val (.ref a203), .val (.ref t), .val (.int (0 : Int32)), .val (.int sp), .val (.int (XT.ushr (sv + ev) (1 : Int32))), .val (.int (Int32.ofNat (own_w r0.toInt r1.toInt s0.toInt s1.toInt))), .val (.int (1 : Int32)), .unset] := ⟨_, rfl⟩
        rw [← hLe1]
        show own_Win p e below s _ _ _ (T.setTop (mkF m 1002 Le1 []))
        refine own_st (fun _ kz => XS.iconst X.here hx rfl (hb hby at_1002) kz) ?_
        show own_Win p e below s _ _ _ (T.setTop (mkF m 1003 Le1 [(.int (0 : Int32))]))
        show own_Win p e below s _ _ _ (T.setTop (mkF m 1003 Le1 [(.int (own_seen σ 0))]))
        obtain ⟨Le2, hLe2⟩ : ∃ L : Array Slot, L = #[.val (.long p1), .second, .val (.long p2), .second, .val (.int p3), .val (.int p4), .val (.int p5), .val (.int r0), .val (.int r1), .val (.int s0), .val (.int s1), .val (.int sv), .val (.int ev), .val (.int nw), .val (.int wv), .val (.ref a1), .val (.ref a2), .val (.ref a3), .val (.ref a4), .val (.double (FP.i2d p3)), .second, .val (.double (FP.i2d p4)), .second, .val (.double (FP.l2d ((p3.toInt64) + (r0.toInt64)))), .second, .val (.double (FP.l2d ((p4.toInt64) + (r1.toInt64)))), .second, .val (.ref a201), .val (.ref a202), .val (.ref a203), .val (.ref t), .val (.int (0 : Int32)), .val (.int sp), .val (.int (XT.ushr (sv + ev) (1 : Int32))), .val (.int (Int32.ofNat (own_w r0.toInt r1.toInt s0.toInt s1.toInt))), .val (.int (1 : Int32)), .val (.int (own_seen σ 0))] := ⟨_, rfl⟩
        refine own_st (fun _ kz => XS.istore X.here hx rfl (hb hby at_1003) rfl (l' := Le2) (by show storeLocals Le1 _ _ = _; rw [hLe1, hLe2]; rfl) kz) ?_
        show own_Win p e below s _ _ _ (T.setTop (mkF m 1005 Le2 []))
        refine own_st (fun _ kz => XS.iload X.here hx rfl (v := (own_seen σ 0)) (hb hby at_1005) (by show Le2[_]? = _; rw [hLe2]; rfl) kz) ?_
        show own_Win p e below s _ _ _ (T.setTop (mkF m 1007 Le2 [(.int (own_seen σ 0))]))
        refine own_st (fun _ kz => XS.aload X.here hx rfl (v := (.ref t)) (hb hby at_1007) (by show Le2[_]? = _; rw [hLe2]; rfl) rfl kz) ?_
        show own_Win p e below s _ _ _ (T.setTop (mkF m 1009 Le2 [(.ref t), (.int (own_seen σ 0))]))
        refine own_st (fun _ kz => XS.iconst X.here hx rfl (hb hby at_1009) kz) ?_
        show own_Win p e below s _ _ _ (T.setTop (mkF m 1010 Le2 [(.int (0 : Int32)), (.ref t), (.int (own_seen σ 0))]))
        refine own_st (fun _ kz => XS.iload X.here hx rfl (v := sv) (hb hby at_1010) (by show Le2[_]? = _; rw [hLe2]; rfl) kz) ?_
        show own_Win p e below s _ _ _ (T.setTop (mkF m 1012 Le2 [(.int sv), (.int (0 : Int32)), (.ref t), (.int (own_seen σ 0))]))
        refine own_st (fun _ kz => XS.iload X.here hx rfl (v := (XT.ushr (sv + ev) (1 : Int32))) (hb hby at_1012) (by show Le2[_]? = _; rw [hLe2]; rfl) kz) ?_
        show own_Win p e below s _ _ _ (T.setTop (mkF m 1014 Le2 [(.int (XT.ushr (sv + ev) (1 : Int32))), (.int sv), (.int (0 : Int32)), (.ref t), (.int (own_seen σ 0))]))
        refine own_st (fun _ kz => XS.iload X.here hx rfl (v := ev) (hb hby at_1014) (by show Le2[_]? = _; rw [hLe2]; rfl) kz) ?_
        show own_Win p e below s _ _ _ (T.setTop (mkF m 1016 Le2 [(.int ev), (.int (XT.ushr (sv + ev) (1 : Int32))), (.int sv), (.int (0 : Int32)), (.ref t), (.int (own_seen σ 0))]))
        refine own_st (fun _ kz => XS.iload X.here hx rfl (v := (Int32.ofNat (own_w r0.toInt r1.toInt s0.toInt s1.toInt))) (hb hby at_1016) (by show Le2[_]? = _; rw [hLe2]; rfl) kz) ?_
        show own_Win p e below s _ _ _ (T.setTop (mkF m 1018 Le2 [(.int (Int32.ofNat (own_w r0.toInt r1.toInt s0.toInt s1.toInt))), (.int ev), (.int (XT.ushr (sv + ev) (1 : Int32))), (.int sv), (.int (0 : Int32)), (.ref t), (.int (own_seen σ 0))]))
        refine own_st (fun _ kz => XS.aload X.here hx rfl (v := (.ref a3)) (hb hby at_1018) (by show Le2[_]? = _; rw [hLe2]; rfl) rfl kz) ?_
        show own_Win p e below s _ _ _ (T.setTop (mkF m 1020 Le2 [(.ref a3), (.int (Int32.ofNat (own_w r0.toInt r1.toInt s0.toInt s1.toInt))), (.int ev), (.int (XT.ushr (sv + ev) (1 : Int32))), (.int sv), (.int (0 : Int32)), (.ref t), (.int (own_seen σ 0))]))
        refine own_st (fun _ kz => XS.aload X.here hx rfl (v := (.ref a4)) (hb hby at_1020) (by show Le2[_]? = _; rw [hLe2]; rfl) rfl kz) ?_
        show own_Win p e below s _ _ _ (T.setTop (mkF m 1022 Le2 [(.ref a4), (.ref a3), (.int (Int32.ofNat (own_w r0.toInt r1.toInt s0.toInt s1.toInt))), (.int ev), (.int (XT.ushr (sv + ev) (1 : Int32))), (.int sv), (.int (0 : Int32)), (.ref t), (.int (own_seen σ 0))]))
        refine own_st (fun _ kz => XS.iload X.here hx rfl (v := sp) (hb hby at_1022) (by show Le2[_]? = _; rw [hLe2]; rfl) kz) ?_
        show own_Win p e below s _ _ _ (T.setTop (mkF m 1024 Le2 [(.int sp), (.ref a4), (.ref a3), (.int (Int32.ofNat (own_w r0.toInt r1.toInt s0.toInt s1.toInt))), (.int ev), (.int (XT.ushr (sv + ev) (1 : Int32))), (.int sv), (.int (0 : Int32)), (.ref t), (.int (own_seen σ 0))]))
        refine own_callS X hx hZ hown (y := yQ) (hw _ (List.mem_of_getElem? (i := 45) rfl)) (hw _ (List.mem_of_getElem? (i := 46) rfl)) (hw _ (List.mem_of_getElem? (i := 4) rfl)) (hw _ (List.mem_of_getElem? (i := 47) rfl)) (by decide) eT (rmQ l Z a0 hw [] t a1 a2 aF aT aL aH a3 a4 wv gv (0 : Int32) sv (XT.ushr (sv + ev) (1 : Int32)) ev (Int32.ofNat (own_w r0.toInt r1.toInt s0.toInt s1.toInt)) sp 0 sN ((sN + eN) / 2) eN (own_w r0.toInt r1.toInt s0.toInt s1.toInt) σ O V h n0 Z9 FS FI FQ FA FB rfl (by decide) hsN hm (by omega) heN ha w2 hok.1 hD hsp (hid 0) hpt) (by decide) (W := 1) (by decide) rfl (by rw [hml]; show Le2.size = _; rw [hLe2]; rfl) (argsL := [(.ref t), (.int (0 : Int32)), (.int sv), (.int (XT.ushr (sv + ev) (1 : Int32))), (.int ev), (.int (Int32.ofNat (own_w r0.toInt r1.toInt s0.toInt s1.toInt))), (.ref a3), (.ref a4), (.int sp)]) (rest := [(.int (own_seen σ 0))]) (lenOf pdQ rfl) rfl (Nat.le_of_eq rfl) (hb hby at_1024) rfl hC hS ?_
        intro T600 v600 L600 X600 hQ600
        obtain ⟨rfl, M600, e600⟩ := hQ600
        have N600 := Fr.app N M600
        show own_Win p e below s _ _ _ (T600.setTop (mkF m 1027 Le2 [(.int ((1 : Int32) <<< (own_I σ 0 &&& 31))), (.int (own_seen σ 0))]))
        refine own_st (fun _ kz => XT.ior X600.here hx rfl (hb hby at_1027) rfl kz) ?_
        show own_Win p e below s _ _ _ (T600.setTop (mkF m 1028 Le2 [(.int ((own_seen σ 0) ||| ((1 : Int32) <<< (own_I σ 0 &&& 31))))]))
        show own_Win p e below s _ _ _ (T600.setTop (mkF m 1028 Le2 [(.int (own_seen σ 1))]))
        obtain ⟨Le3, hLe3⟩ : ∃ L : Array Slot, L = #[.val (.long p1), .second, .val (.long p2), .second, .val (.int p3), .val (.int p4), .val (.int p5), .val (.int r0), .val (.int r1), .val (.int s0), .val (.int s1), .val (.int sv), .val (.int ev), .val (.int nw), .val (.int wv), .val (.ref a1), .val (.ref a2), .val (.ref a3), .val (.ref a4), .val (.double (FP.i2d p3)), .second, .val (.double (FP.i2d p4)), .second, .val (.double (FP.l2d ((p3.toInt64) + (r0.toInt64)))), .second, .val (.double (FP.l2d ((p4.toInt64) + (r1.toInt64)))), .second, .val (.ref a201), .val (.ref a202), .val (.ref a203), .val (.ref t), .val (.int (0 : Int32)), .val (.int sp), .val (.int (XT.ushr (sv + ev) (1 : Int32))), .val (.int (Int32.ofNat (own_w r0.toInt r1.toInt s0.toInt s1.toInt))), .val (.int (1 : Int32)), .val (.int (own_seen σ 1))] := ⟨_, rfl⟩
        refine own_st (fun _ kz => XS.istore X600.here hx rfl (hb hby at_1028) rfl (l' := Le3) (by show storeLocals Le2 _ _ = _; rw [hLe2, hLe3]; rfl) kz) ?_
        show own_Win p e below s _ _ _ (T600.setTop (mkF m 1030 Le3 []))
        refine own_st (fun _ kz => XS.iload X600.here hx rfl (v := (own_seen σ 1)) (hb hby at_1030) (by show Le3[_]? = _; rw [hLe3]; rfl) kz) ?_
        show own_Win p e below s _ _ _ (T600.setTop (mkF m 1032 Le3 [(.int (own_seen σ 1))]))
        refine own_st (fun _ kz => XS.aload X600.here hx rfl (v := (.ref t)) (hb hby at_1032) (by show Le3[_]? = _; rw [hLe3]; rfl) rfl kz) ?_
        show own_Win p e below s _ _ _ (T600.setTop (mkF m 1034 Le3 [(.ref t), (.int (own_seen σ 1))]))
        refine own_st (fun _ kz => XS.iconst X600.here hx rfl (hb hby at_1034) kz) ?_
        show own_Win p e below s _ _ _ (T600.setTop (mkF m 1035 Le3 [(.int (1 : Int32)), (.ref t), (.int (own_seen σ 1))]))
        refine own_st (fun _ kz => XS.iload X600.here hx rfl (v := sv) (hb hby at_1035) (by show Le3[_]? = _; rw [hLe3]; rfl) kz) ?_
        show own_Win p e below s _ _ _ (T600.setTop (mkF m 1037 Le3 [(.int sv), (.int (1 : Int32)), (.ref t), (.int (own_seen σ 1))]))
        refine own_st (fun _ kz => XS.iload X600.here hx rfl (v := (XT.ushr (sv + ev) (1 : Int32))) (hb hby at_1037) (by show Le3[_]? = _; rw [hLe3]; rfl) kz) ?_
        show own_Win p e below s _ _ _ (T600.setTop (mkF m 1039 Le3 [(.int (XT.ushr (sv + ev) (1 : Int32))), (.int sv), (.int (1 : Int32)), (.ref t), (.int (own_seen σ 1))]))
        refine own_st (fun _ kz => XS.iload X600.here hx rfl (v := ev) (hb hby at_1039) (by show Le3[_]? = _; rw [hLe3]; rfl) kz) ?_
        show own_Win p e below s _ _ _ (T600.setTop (mkF m 1041 Le3 [(.int ev), (.int (XT.ushr (sv + ev) (1 : Int32))), (.int sv), (.int (1 : Int32)), (.ref t), (.int (own_seen σ 1))]))
        refine own_st (fun _ kz => XS.iload X600.here hx rfl (v := (Int32.ofNat (own_w r0.toInt r1.toInt s0.toInt s1.toInt))) (hb hby at_1041) (by show Le3[_]? = _; rw [hLe3]; rfl) kz) ?_
        show own_Win p e below s _ _ _ (T600.setTop (mkF m 1043 Le3 [(.int (Int32.ofNat (own_w r0.toInt r1.toInt s0.toInt s1.toInt))), (.int ev), (.int (XT.ushr (sv + ev) (1 : Int32))), (.int sv), (.int (1 : Int32)), (.ref t), (.int (own_seen σ 1))]))
        refine own_st (fun _ kz => XS.aload X600.here hx rfl (v := (.ref a3)) (hb hby at_1043) (by show Le3[_]? = _; rw [hLe3]; rfl) rfl kz) ?_
        show own_Win p e below s _ _ _ (T600.setTop (mkF m 1045 Le3 [(.ref a3), (.int (Int32.ofNat (own_w r0.toInt r1.toInt s0.toInt s1.toInt))), (.int ev), (.int (XT.ushr (sv + ev) (1 : Int32))), (.int sv), (.int (1 : Int32)), (.ref t), (.int (own_seen σ 1))]))
        refine own_st (fun _ kz => XS.aload X600.here hx rfl (v := (.ref a4)) (hb hby at_1045) (by show Le3[_]? = _; rw [hLe3]; rfl) rfl kz) ?_
        show own_Win p e below s _ _ _ (T600.setTop (mkF m 1047 Le3 [(.ref a4), (.ref a3), (.int (Int32.ofNat (own_w r0.toInt r1.toInt s0.toInt s1.toInt))), (.int ev), (.int (XT.ushr (sv + ev) (1 : Int32))), (.int sv), (.int (1 : Int32)), (.ref t), (.int (own_seen σ 1))]))
        refine own_st (fun _ kz => XS.iload X600.here hx rfl (v := sp) (hb hby at_1047) (by show Le3[_]? = _; rw [hLe3]; rfl) kz) ?_
        show own_Win p e below s _ _ _ (T600.setTop (mkF m 1049 Le3 [(.int sp), (.ref a4), (.ref a3), (.int (Int32.ofNat (own_w r0.toInt r1.toInt s0.toInt s1.toInt))), (.int ev), (.int (XT.ushr (sv + ev) (1 : Int32))), (.int sv), (.int (1 : Int32)), (.ref t), (.int (own_seen σ 1))]))
        refine own_callS X600 hx hZ hown (y := yQ) (hw _ (List.mem_of_getElem? (i := 45) rfl)) (hw _ (List.mem_of_getElem? (i := 46) rfl)) (hw _ (List.mem_of_getElem? (i := 4) rfl)) (hw _ (List.mem_of_getElem? (i := 47) rfl)) (by decide) e600 (rmQ l Z a0 hw [] t a1 a2 aF aT aL aH a3 a4 wv gv (1 : Int32) sv (XT.ushr (sv + ev) (1 : Int32)) ev (Int32.ofNat (own_w r0.toInt r1.toInt s0.toInt s1.toInt)) sp 1 sN ((sN + eN) / 2) eN (own_w r0.toInt r1.toInt s0.toInt s1.toInt) σ O V h n0 Z9 FS FI FQ FA FB rfl (by decide) hsN hm (by omega) heN ha w2 hok.1 hD hsp (hid 1) hpt) (by decide) (W := 1) (by decide) rfl (by rw [hml]; show Le3.size = _; rw [hLe3]; rfl) (argsL := [(.ref t), (.int (1 : Int32)), (.int sv), (.int (XT.ushr (sv + ev) (1 : Int32))), (.int ev), (.int (Int32.ofNat (own_w r0.toInt r1.toInt s0.toInt s1.toInt))), (.ref a3), (.ref a4), (.int sp)]) (rest := [(.int (own_seen σ 1))]) (lenOf pdQ rfl) rfl (Nat.le_of_eq rfl) (hb hby at_1049) rfl hC hS ?_
        intro T601 v601 L601 X601 hQ601
        obtain ⟨rfl, M601, e601⟩ := hQ601
        have N601 := Fr.app N600 M601
        show own_Win p e below s _ _ _ (T601.setTop (mkF m 1052 Le3 [(.int ((1 : Int32) <<< (own_I σ 1 &&& 31))), (.int (own_seen σ 1))]))
        refine own_st (fun _ kz => XT.ior X601.here hx rfl (hb hby at_1052) rfl kz) ?_
        show own_Win p e below s _ _ _ (T601.setTop (mkF m 1053 Le3 [(.int ((own_seen σ 1) ||| ((1 : Int32) <<< (own_I σ 1 &&& 31))))]))
        show own_Win p e below s _ _ _ (T601.setTop (mkF m 1053 Le3 [(.int (own_seen σ 2))]))
        obtain ⟨Le4, hLe4⟩ : ∃ L : Array Slot, L = #[.val (.long p1), .second, .val (.long p2), .second, .val (.int p3), .val (.int p4), .val (.int p5), .val (.int r0), .val (.int r1), .val (.int s0), .val (.int s1), .val (.int sv), .val (.int ev), .val (.int nw), .val (.int wv), .val (.ref a1), .val (.ref a2), .val (.ref a3), .val (.ref a4), .val (.double (FP.i2d p3)), .second, .val (.double (FP.i2d p4)), .second, .val (.double (FP.l2d ((p3.toInt64) + (r0.toInt64)))), .second, .val (.double (FP.l2d ((p4.toInt64) + (r1.toInt64)))), .second, .val (.ref a201), .val (.ref a202), .val (.ref a203), .val (.ref t), .val (.int (0 : Int32)), .val (.int sp), .val (.int (XT.ushr (sv + ev) (1 : Int32))), .val (.int (Int32.ofNat (own_w r0.toInt r1.toInt s0.toInt s1.toInt))), .val (.int (1 : Int32)), .val (.int (own_seen σ 2))] := ⟨_, rfl⟩
        refine own_st (fun _ kz => XS.istore X601.here hx rfl (hb hby at_1053) rfl (l' := Le4) (by show storeLocals Le3 _ _ = _; rw [hLe3, hLe4]; rfl) kz) ?_
        show own_Win p e below s _ _ _ (T601.setTop (mkF m 1055 Le4 []))
        refine own_st (fun _ kz => XS.iload X601.here hx rfl (v := (own_seen σ 2)) (hb hby at_1055) (by show Le4[_]? = _; rw [hLe4]; rfl) kz) ?_
        show own_Win p e below s _ _ _ (T601.setTop (mkF m 1057 Le4 [(.int (own_seen σ 2))]))
        refine own_st (fun _ kz => XS.aload X601.here hx rfl (v := (.ref t)) (hb hby at_1057) (by show Le4[_]? = _; rw [hLe4]; rfl) rfl kz) ?_
        show own_Win p e below s _ _ _ (T601.setTop (mkF m 1059 Le4 [(.ref t), (.int (own_seen σ 2))]))
        refine own_st (fun _ kz => XS.iconst X601.here hx rfl (hb hby at_1059) kz) ?_
        show own_Win p e below s _ _ _ (T601.setTop (mkF m 1060 Le4 [(.int (2 : Int32)), (.ref t), (.int (own_seen σ 2))]))
        refine own_st (fun _ kz => XS.iload X601.here hx rfl (v := sv) (hb hby at_1060) (by show Le4[_]? = _; rw [hLe4]; rfl) kz) ?_
        show own_Win p e below s _ _ _ (T601.setTop (mkF m 1062 Le4 [(.int sv), (.int (2 : Int32)), (.ref t), (.int (own_seen σ 2))]))
        refine own_st (fun _ kz => XS.iload X601.here hx rfl (v := (XT.ushr (sv + ev) (1 : Int32))) (hb hby at_1062) (by show Le4[_]? = _; rw [hLe4]; rfl) kz) ?_
        show own_Win p e below s _ _ _ (T601.setTop (mkF m 1064 Le4 [(.int (XT.ushr (sv + ev) (1 : Int32))), (.int sv), (.int (2 : Int32)), (.ref t), (.int (own_seen σ 2))]))
        refine own_st (fun _ kz => XS.iload X601.here hx rfl (v := ev) (hb hby at_1064) (by show Le4[_]? = _; rw [hLe4]; rfl) kz) ?_
        show own_Win p e below s _ _ _ (T601.setTop (mkF m 1066 Le4 [(.int ev), (.int (XT.ushr (sv + ev) (1 : Int32))), (.int sv), (.int (2 : Int32)), (.ref t), (.int (own_seen σ 2))]))
        refine own_st (fun _ kz => XS.iload X601.here hx rfl (v := (Int32.ofNat (own_w r0.toInt r1.toInt s0.toInt s1.toInt))) (hb hby at_1066) (by show Le4[_]? = _; rw [hLe4]; rfl) kz) ?_
        show own_Win p e below s _ _ _ (T601.setTop (mkF m 1068 Le4 [(.int (Int32.ofNat (own_w r0.toInt r1.toInt s0.toInt s1.toInt))), (.int ev), (.int (XT.ushr (sv + ev) (1 : Int32))), (.int sv), (.int (2 : Int32)), (.ref t), (.int (own_seen σ 2))]))
        refine own_st (fun _ kz => XS.aload X601.here hx rfl (v := (.ref a3)) (hb hby at_1068) (by show Le4[_]? = _; rw [hLe4]; rfl) rfl kz) ?_
        show own_Win p e below s _ _ _ (T601.setTop (mkF m 1070 Le4 [(.ref a3), (.int (Int32.ofNat (own_w r0.toInt r1.toInt s0.toInt s1.toInt))), (.int ev), (.int (XT.ushr (sv + ev) (1 : Int32))), (.int sv), (.int (2 : Int32)), (.ref t), (.int (own_seen σ 2))]))
        refine own_st (fun _ kz => XS.aload X601.here hx rfl (v := (.ref a4)) (hb hby at_1070) (by show Le4[_]? = _; rw [hLe4]; rfl) rfl kz) ?_
        show own_Win p e below s _ _ _ (T601.setTop (mkF m 1072 Le4 [(.ref a4), (.ref a3), (.int (Int32.ofNat (own_w r0.toInt r1.toInt s0.toInt s1.toInt))), (.int ev), (.int (XT.ushr (sv + ev) (1 : Int32))), (.int sv), (.int (2 : Int32)), (.ref t), (.int (own_seen σ 2))]))
        refine own_st (fun _ kz => XS.iload X601.here hx rfl (v := sp) (hb hby at_1072) (by show Le4[_]? = _; rw [hLe4]; rfl) kz) ?_
        show own_Win p e below s _ _ _ (T601.setTop (mkF m 1074 Le4 [(.int sp), (.ref a4), (.ref a3), (.int (Int32.ofNat (own_w r0.toInt r1.toInt s0.toInt s1.toInt))), (.int ev), (.int (XT.ushr (sv + ev) (1 : Int32))), (.int sv), (.int (2 : Int32)), (.ref t), (.int (own_seen σ 2))]))
        refine own_callS X601 hx hZ hown (y := yQ) (hw _ (List.mem_of_getElem? (i := 45) rfl)) (hw _ (List.mem_of_getElem? (i := 46) rfl)) (hw _ (List.mem_of_getElem? (i := 4) rfl)) (hw _ (List.mem_of_getElem? (i := 47) rfl)) (by decide) e601 (rmQ l Z a0 hw [] t a1 a2 aF aT aL aH a3 a4 wv gv (2 : Int32) sv (XT.ushr (sv + ev) (1 : Int32)) ev (Int32.ofNat (own_w r0.toInt r1.toInt s0.toInt s1.toInt)) sp 2 sN ((sN + eN) / 2) eN (own_w r0.toInt r1.toInt s0.toInt s1.toInt) σ O V h n0 Z9 FS FI FQ FA FB rfl (by decide) hsN hm (by omega) heN ha w2 hok.1 hD hsp (hid 2) hpt) (by decide) (W := 1) (by decide) rfl (by rw [hml]; show Le4.size = _; rw [hLe4]; rfl) (argsL := [(.ref t), (.int (2 : Int32)), (.int sv), (.int (XT.ushr (sv + ev) (1 : Int32))), (.int ev), (.int (Int32.ofNat (own_w r0.toInt r1.toInt s0.toInt s1.toInt))), (.ref a3), (.ref a4), (.int sp)]) (rest := [(.int (own_seen σ 2))]) (lenOf pdQ rfl) rfl (Nat.le_of_eq rfl) (hb hby at_1074) rfl hC hS ?_
        intro T602 v602 L602 X602 hQ602
        obtain ⟨rfl, M602, e602⟩ := hQ602
        have N602 := Fr.app N601 M602
        show own_Win p e below s _ _ _ (T602.setTop (mkF m 1077 Le4 [(.int ((1 : Int32) <<< (own_I σ 2 &&& 31))), (.int (own_seen σ 2))]))
        refine own_st (fun _ kz => XT.ior X602.here hx rfl (hb hby at_1077) rfl kz) ?_
        show own_Win p e below s _ _ _ (T602.setTop (mkF m 1078 Le4 [(.int ((own_seen σ 2) ||| ((1 : Int32) <<< (own_I σ 2 &&& 31))))]))
        show own_Win p e below s _ _ _ (T602.setTop (mkF m 1078 Le4 [(.int (own_seen σ 3))]))
        obtain ⟨Le5, hLe5⟩ : ∃ L : Array Slot, L = #[.val (.long p1), .second, .val (.long p2), .second, .val (.int p3), .val (.int p4), .val (.int p5), .val (.int r0), .val (.int r1), .val (.int s0), .val (.int s1), .val (.int sv), .val (.int ev), .val (.int nw), .val (.int wv), .val (.ref a1), .val (.ref a2), .val (.ref a3), .val (.ref a4), .val (.double (FP.i2d p3)), .second, .val (.double (FP.i2d p4)), .second, .val (.double (FP.l2d ((p3.toInt64) + (r0.toInt64)))), .second, .val (.double (FP.l2d ((p4.toInt64) + (r1.toInt64)))), .second, .val (.ref a201), .val (.ref a202), .val (.ref a203), .val (.ref t), .val (.int (0 : Int32)), .val (.int sp), .val (.int (XT.ushr (sv + ev) (1 : Int32))), .val (.int (Int32.ofNat (own_w r0.toInt r1.toInt s0.toInt s1.toInt))), .val (.int (1 : Int32)), .val (.int (own_seen σ 3))] := ⟨_, rfl⟩
        refine own_st (fun _ kz => XS.istore X602.here hx rfl (hb hby at_1078) rfl (l' := Le5) (by show storeLocals Le4 _ _ = _; rw [hLe4, hLe5]; rfl) kz) ?_
        show own_Win p e below s _ _ _ (T602.setTop (mkF m 1080 Le5 []))
        refine own_st (fun _ kz => XS.iload X602.here hx rfl (v := (own_seen σ 3)) (hb hby at_1080) (by show Le5[_]? = _; rw [hLe5]; rfl) kz) ?_
        show own_Win p e below s _ _ _ (T602.setTop (mkF m 1082 Le5 [(.int (own_seen σ 3))]))
        refine own_st (fun _ kz => XS.aload X602.here hx rfl (v := (.ref t)) (hb hby at_1082) (by show Le5[_]? = _; rw [hLe5]; rfl) rfl kz) ?_
        show own_Win p e below s _ _ _ (T602.setTop (mkF m 1084 Le5 [(.ref t), (.int (own_seen σ 3))]))
        refine own_st (fun _ kz => XS.iconst X602.here hx rfl (hb hby at_1084) kz) ?_
        show own_Win p e below s _ _ _ (T602.setTop (mkF m 1085 Le5 [(.int (3 : Int32)), (.ref t), (.int (own_seen σ 3))]))
        refine own_st (fun _ kz => XS.iload X602.here hx rfl (v := sv) (hb hby at_1085) (by show Le5[_]? = _; rw [hLe5]; rfl) kz) ?_
        show own_Win p e below s _ _ _ (T602.setTop (mkF m 1087 Le5 [(.int sv), (.int (3 : Int32)), (.ref t), (.int (own_seen σ 3))]))
        refine own_st (fun _ kz => XS.iload X602.here hx rfl (v := (XT.ushr (sv + ev) (1 : Int32))) (hb hby at_1087) (by show Le5[_]? = _; rw [hLe5]; rfl) kz) ?_
        show own_Win p e below s _ _ _ (T602.setTop (mkF m 1089 Le5 [(.int (XT.ushr (sv + ev) (1 : Int32))), (.int sv), (.int (3 : Int32)), (.ref t), (.int (own_seen σ 3))]))
        refine own_st (fun _ kz => XS.iload X602.here hx rfl (v := ev) (hb hby at_1089) (by show Le5[_]? = _; rw [hLe5]; rfl) kz) ?_
        show own_Win p e below s _ _ _ (T602.setTop (mkF m 1091 Le5 [(.int ev), (.int (XT.ushr (sv + ev) (1 : Int32))), (.int sv), (.int (3 : Int32)), (.ref t), (.int (own_seen σ 3))]))
        refine own_st (fun _ kz => XS.iload X602.here hx rfl (v := (Int32.ofNat (own_w r0.toInt r1.toInt s0.toInt s1.toInt))) (hb hby at_1091) (by show Le5[_]? = _; rw [hLe5]; rfl) kz) ?_
        show own_Win p e below s _ _ _ (T602.setTop (mkF m 1093 Le5 [(.int (Int32.ofNat (own_w r0.toInt r1.toInt s0.toInt s1.toInt))), (.int ev), (.int (XT.ushr (sv + ev) (1 : Int32))), (.int sv), (.int (3 : Int32)), (.ref t), (.int (own_seen σ 3))]))
        refine own_st (fun _ kz => XS.aload X602.here hx rfl (v := (.ref a3)) (hb hby at_1093) (by show Le5[_]? = _; rw [hLe5]; rfl) rfl kz) ?_
        show own_Win p e below s _ _ _ (T602.setTop (mkF m 1095 Le5 [(.ref a3), (.int (Int32.ofNat (own_w r0.toInt r1.toInt s0.toInt s1.toInt))), (.int ev), (.int (XT.ushr (sv + ev) (1 : Int32))), (.int sv), (.int (3 : Int32)), (.ref t), (.int (own_seen σ 3))]))
        refine own_st (fun _ kz => XS.aload X602.here hx rfl (v := (.ref a4)) (hb hby at_1095) (by show Le5[_]? = _; rw [hLe5]; rfl) rfl kz) ?_
        show own_Win p e below s _ _ _ (T602.setTop (mkF m 1097 Le5 [(.ref a4), (.ref a3), (.int (Int32.ofNat (own_w r0.toInt r1.toInt s0.toInt s1.toInt))), (.int ev), (.int (XT.ushr (sv + ev) (1 : Int32))), (.int sv), (.int (3 : Int32)), (.ref t), (.int (own_seen σ 3))]))
        refine own_st (fun _ kz => XS.iload X602.here hx rfl (v := sp) (hb hby at_1097) (by show Le5[_]? = _; rw [hLe5]; rfl) kz) ?_
        show own_Win p e below s _ _ _ (T602.setTop (mkF m 1099 Le5 [(.int sp), (.ref a4), (.ref a3), (.int (Int32.ofNat (own_w r0.toInt r1.toInt s0.toInt s1.toInt))), (.int ev), (.int (XT.ushr (sv + ev) (1 : Int32))), (.int sv), (.int (3 : Int32)), (.ref t), (.int (own_seen σ 3))]))
        refine own_callS X602 hx hZ hown (y := yQ) (hw _ (List.mem_of_getElem? (i := 45) rfl)) (hw _ (List.mem_of_getElem? (i := 46) rfl)) (hw _ (List.mem_of_getElem? (i := 4) rfl)) (hw _ (List.mem_of_getElem? (i := 47) rfl)) (by decide) e602 (rmQ l Z a0 hw [] t a1 a2 aF aT aL aH a3 a4 wv gv (3 : Int32) sv (XT.ushr (sv + ev) (1 : Int32)) ev (Int32.ofNat (own_w r0.toInt r1.toInt s0.toInt s1.toInt)) sp 3 sN ((sN + eN) / 2) eN (own_w r0.toInt r1.toInt s0.toInt s1.toInt) σ O V h n0 Z9 FS FI FQ FA FB rfl (by decide) hsN hm (by omega) heN ha w2 hok.1 hD hsp (hid 3) hpt) (by decide) (W := 1) (by decide) rfl (by rw [hml]; show Le5.size = _; rw [hLe5]; rfl) (argsL := [(.ref t), (.int (3 : Int32)), (.int sv), (.int (XT.ushr (sv + ev) (1 : Int32))), (.int ev), (.int (Int32.ofNat (own_w r0.toInt r1.toInt s0.toInt s1.toInt))), (.ref a3), (.ref a4), (.int sp)]) (rest := [(.int (own_seen σ 3))]) (lenOf pdQ rfl) rfl (Nat.le_of_eq rfl) (hb hby at_1099) rfl hC hS ?_
        intro T603 v603 L603 X603 hQ603
        obtain ⟨rfl, M603, e603⟩ := hQ603
        have N603 := Fr.app N602 M603
        show own_Win p e below s _ _ _ (T603.setTop (mkF m 1102 Le5 [(.int ((1 : Int32) <<< (own_I σ 3 &&& 31))), (.int (own_seen σ 3))]))
        refine own_st (fun _ kz => XT.ior X603.here hx rfl (hb hby at_1102) rfl kz) ?_
        show own_Win p e below s _ _ _ (T603.setTop (mkF m 1103 Le5 [(.int ((own_seen σ 3) ||| ((1 : Int32) <<< (own_I σ 3 &&& 31))))]))
        show own_Win p e below s _ _ _ (T603.setTop (mkF m 1103 Le5 [(.int (own_seen σ 4))]))
        obtain ⟨Le6, hLe6⟩ : ∃ L : Array Slot, L = #[.val (.long p1), .second, .val (.long p2), .second, .val (.int p3), .val (.int p4), .val (.int p5), .val (.int r0), .val (.int r1), .val (.int s0), .val (.int s1), .val (.int sv), .val (.int ev), .val (.int nw), .val (.int wv), .val (.ref a1), .val (.ref a2), .val (.ref a3), .val (.ref a4), .val (.double (FP.i2d p3)), .second, .val (.double (FP.i2d p4)), .second, .val (.double (FP.l2d ((p3.toInt64) + (r0.toInt64)))), .second, .val (.double (FP.l2d ((p4.toInt64) + (r1.toInt64)))), .second, .val (.ref a201), .val (.ref a202), .val (.ref a203), .val (.ref t), .val (.int (0 : Int32)), .val (.int sp), .val (.int (XT.ushr (sv + ev) (1 : Int32))), .val (.int (Int32.ofNat (own_w r0.toInt r1.toInt s0.toInt s1.toInt))), .val (.int (1 : Int32)), .val (.int (own_seen σ 4))] := ⟨_, rfl⟩
        refine own_st (fun _ kz => XS.istore X603.here hx rfl (hb hby at_1103) rfl (l' := Le6) (by show storeLocals Le5 _ _ = _; rw [hLe5, hLe6]; rfl) kz) ?_
        show own_Win p e below s _ _ _ (T603.setTop (mkF m 1105 Le6 []))
        refine own_st (fun _ kz => XS.iload X603.here hx rfl (v := (own_seen σ 4)) (hb hby at_1105) (by show Le6[_]? = _; rw [hLe6]; rfl) kz) ?_
        show own_Win p e below s _ _ _ (T603.setTop (mkF m 1107 Le6 [(.int (own_seen σ 4))]))
        refine own_st (fun _ kz => XS.aload X603.here hx rfl (v := (.ref t)) (hb hby at_1107) (by show Le6[_]? = _; rw [hLe6]; rfl) rfl kz) ?_
        show own_Win p e below s _ _ _ (T603.setTop (mkF m 1109 Le6 [(.ref t), (.int (own_seen σ 4))]))
        refine own_st (fun _ kz => XS.iconst X603.here hx rfl (hb hby at_1109) kz) ?_
        show own_Win p e below s _ _ _ (T603.setTop (mkF m 1110 Le6 [(.int (4 : Int32)), (.ref t), (.int (own_seen σ 4))]))
        refine own_st (fun _ kz => XS.iload X603.here hx rfl (v := sv) (hb hby at_1110) (by show Le6[_]? = _; rw [hLe6]; rfl) kz) ?_
        show own_Win p e below s _ _ _ (T603.setTop (mkF m 1112 Le6 [(.int sv), (.int (4 : Int32)), (.ref t), (.int (own_seen σ 4))]))
        refine own_st (fun _ kz => XS.iload X603.here hx rfl (v := (XT.ushr (sv + ev) (1 : Int32))) (hb hby at_1112) (by show Le6[_]? = _; rw [hLe6]; rfl) kz) ?_
        show own_Win p e below s _ _ _ (T603.setTop (mkF m 1114 Le6 [(.int (XT.ushr (sv + ev) (1 : Int32))), (.int sv), (.int (4 : Int32)), (.ref t), (.int (own_seen σ 4))]))
        refine own_st (fun _ kz => XS.iload X603.here hx rfl (v := ev) (hb hby at_1114) (by show Le6[_]? = _; rw [hLe6]; rfl) kz) ?_
        show own_Win p e below s _ _ _ (T603.setTop (mkF m 1116 Le6 [(.int ev), (.int (XT.ushr (sv + ev) (1 : Int32))), (.int sv), (.int (4 : Int32)), (.ref t), (.int (own_seen σ 4))]))
        refine own_st (fun _ kz => XS.iload X603.here hx rfl (v := (Int32.ofNat (own_w r0.toInt r1.toInt s0.toInt s1.toInt))) (hb hby at_1116) (by show Le6[_]? = _; rw [hLe6]; rfl) kz) ?_
        show own_Win p e below s _ _ _ (T603.setTop (mkF m 1118 Le6 [(.int (Int32.ofNat (own_w r0.toInt r1.toInt s0.toInt s1.toInt))), (.int ev), (.int (XT.ushr (sv + ev) (1 : Int32))), (.int sv), (.int (4 : Int32)), (.ref t), (.int (own_seen σ 4))]))
        refine own_st (fun _ kz => XS.aload X603.here hx rfl (v := (.ref a3)) (hb hby at_1118) (by show Le6[_]? = _; rw [hLe6]; rfl) rfl kz) ?_
        show own_Win p e below s _ _ _ (T603.setTop (mkF m 1120 Le6 [(.ref a3), (.int (Int32.ofNat (own_w r0.toInt r1.toInt s0.toInt s1.toInt))), (.int ev), (.int (XT.ushr (sv + ev) (1 : Int32))), (.int sv), (.int (4 : Int32)), (.ref t), (.int (own_seen σ 4))]))
        refine own_st (fun _ kz => XS.aload X603.here hx rfl (v := (.ref a4)) (hb hby at_1120) (by show Le6[_]? = _; rw [hLe6]; rfl) rfl kz) ?_
        show own_Win p e below s _ _ _ (T603.setTop (mkF m 1122 Le6 [(.ref a4), (.ref a3), (.int (Int32.ofNat (own_w r0.toInt r1.toInt s0.toInt s1.toInt))), (.int ev), (.int (XT.ushr (sv + ev) (1 : Int32))), (.int sv), (.int (4 : Int32)), (.ref t), (.int (own_seen σ 4))]))
        refine own_st (fun _ kz => XS.iload X603.here hx rfl (v := sp) (hb hby at_1122) (by show Le6[_]? = _; rw [hLe6]; rfl) kz) ?_
        show own_Win p e below s _ _ _ (T603.setTop (mkF m 1124 Le6 [(.int sp), (.ref a4), (.ref a3), (.int (Int32.ofNat (own_w r0.toInt r1.toInt s0.toInt s1.toInt))), (.int ev), (.int (XT.ushr (sv + ev) (1 : Int32))), (.int sv), (.int (4 : Int32)), (.ref t), (.int (own_seen σ 4))]))
        refine own_callS X603 hx hZ hown (y := yQ) (hw _ (List.mem_of_getElem? (i := 45) rfl)) (hw _ (List.mem_of_getElem? (i := 46) rfl)) (hw _ (List.mem_of_getElem? (i := 4) rfl)) (hw _ (List.mem_of_getElem? (i := 47) rfl)) (by decide) e603 (rmQ l Z a0 hw [] t a1 a2 aF aT aL aH a3 a4 wv gv (4 : Int32) sv (XT.ushr (sv + ev) (1 : Int32)) ev (Int32.ofNat (own_w r0.toInt r1.toInt s0.toInt s1.toInt)) sp 4 sN ((sN + eN) / 2) eN (own_w r0.toInt r1.toInt s0.toInt s1.toInt) σ O V h n0 Z9 FS FI FQ FA FB rfl (by decide) hsN hm (by omega) heN ha w2 hok.1 hD hsp (hid 4) hpt) (by decide) (W := 1) (by decide) rfl (by rw [hml]; show Le6.size = _; rw [hLe6]; rfl) (argsL := [(.ref t), (.int (4 : Int32)), (.int sv), (.int (XT.ushr (sv + ev) (1 : Int32))), (.int ev), (.int (Int32.ofNat (own_w r0.toInt r1.toInt s0.toInt s1.toInt))), (.ref a3), (.ref a4), (.int sp)]) (rest := [(.int (own_seen σ 4))]) (lenOf pdQ rfl) rfl (Nat.le_of_eq rfl) (hb hby at_1124) rfl hC hS ?_
        intro T604 v604 L604 X604 hQ604
        obtain ⟨rfl, M604, e604⟩ := hQ604
        have N604 := Fr.app N603 M604
        show own_Win p e below s _ _ _ (T604.setTop (mkF m 1127 Le6 [(.int ((1 : Int32) <<< (own_I σ 4 &&& 31))), (.int (own_seen σ 4))]))
        refine own_st (fun _ kz => XT.ior X604.here hx rfl (hb hby at_1127) rfl kz) ?_
        show own_Win p e below s _ _ _ (T604.setTop (mkF m 1128 Le6 [(.int ((own_seen σ 4) ||| ((1 : Int32) <<< (own_I σ 4 &&& 31))))]))
        show own_Win p e below s _ _ _ (T604.setTop (mkF m 1128 Le6 [(.int (own_seen σ 5))]))
        obtain ⟨Le7, hLe7⟩ : ∃ L : Array Slot, L = #[.val (.long p1), .second, .val (.long p2), .second, .val (.int p3), .val (.int p4), .val (.int p5), .val (.int r0), .val (.int r1), .val (.int s0), .val (.int s1), .val (.int sv), .val (.int ev), .val (.int nw), .val (.int wv), .val (.ref a1), .val (.ref a2), .val (.ref a3), .val (.ref a4), .val (.double (FP.i2d p3)), .second, .val (.double (FP.i2d p4)), .second, .val (.double (FP.l2d ((p3.toInt64) + (r0.toInt64)))), .second, .val (.double (FP.l2d ((p4.toInt64) + (r1.toInt64)))), .second, .val (.ref a201), .val (.ref a202), .val (.ref a203), .val (.ref t), .val (.int (0 : Int32)), .val (.int sp), .val (.int (XT.ushr (sv + ev) (1 : Int32))), .val (.int (Int32.ofNat (own_w r0.toInt r1.toInt s0.toInt s1.toInt))), .val (.int (1 : Int32)), .val (.int (own_seen σ 5))] := ⟨_, rfl⟩
        refine own_st (fun _ kz => XS.istore X604.here hx rfl (hb hby at_1128) rfl (l' := Le7) (by show storeLocals Le6 _ _ = _; rw [hLe6, hLe7]; rfl) kz) ?_
        show own_Win p e below s _ _ _ (T604.setTop (mkF m 1130 Le7 []))
        refine own_st (fun _ kz => XS.iload X604.here hx rfl (v := (own_seen σ 5)) (hb hby at_1130) (by show Le7[_]? = _; rw [hLe7]; rfl) kz) ?_
        show own_Win p e below s _ _ _ (T604.setTop (mkF m 1132 Le7 [(.int (own_seen σ 5))]))
        refine own_st (fun _ kz => XS.aload X604.here hx rfl (v := (.ref t)) (hb hby at_1132) (by show Le7[_]? = _; rw [hLe7]; rfl) rfl kz) ?_
        show own_Win p e below s _ _ _ (T604.setTop (mkF m 1134 Le7 [(.ref t), (.int (own_seen σ 5))]))
        refine own_st (fun _ kz => XS.iconst X604.here hx rfl (hb hby at_1134) kz) ?_
        show own_Win p e below s _ _ _ (T604.setTop (mkF m 1135 Le7 [(.int (5 : Int32)), (.ref t), (.int (own_seen σ 5))]))
        refine own_st (fun _ kz => XS.iload X604.here hx rfl (v := sv) (hb hby at_1135) (by show Le7[_]? = _; rw [hLe7]; rfl) kz) ?_
        show own_Win p e below s _ _ _ (T604.setTop (mkF m 1137 Le7 [(.int sv), (.int (5 : Int32)), (.ref t), (.int (own_seen σ 5))]))
        refine own_st (fun _ kz => XS.iload X604.here hx rfl (v := (XT.ushr (sv + ev) (1 : Int32))) (hb hby at_1137) (by show Le7[_]? = _; rw [hLe7]; rfl) kz) ?_
        show own_Win p e below s _ _ _ (T604.setTop (mkF m 1139 Le7 [(.int (XT.ushr (sv + ev) (1 : Int32))), (.int sv), (.int (5 : Int32)), (.ref t), (.int (own_seen σ 5))]))
        refine own_st (fun _ kz => XS.iload X604.here hx rfl (v := ev) (hb hby at_1139) (by show Le7[_]? = _; rw [hLe7]; rfl) kz) ?_
        show own_Win p e below s _ _ _ (T604.setTop (mkF m 1141 Le7 [(.int ev), (.int (XT.ushr (sv + ev) (1 : Int32))), (.int sv), (.int (5 : Int32)), (.ref t), (.int (own_seen σ 5))]))
        refine own_st (fun _ kz => XS.iload X604.here hx rfl (v := (Int32.ofNat (own_w r0.toInt r1.toInt s0.toInt s1.toInt))) (hb hby at_1141) (by show Le7[_]? = _; rw [hLe7]; rfl) kz) ?_
        show own_Win p e below s _ _ _ (T604.setTop (mkF m 1143 Le7 [(.int (Int32.ofNat (own_w r0.toInt r1.toInt s0.toInt s1.toInt))), (.int ev), (.int (XT.ushr (sv + ev) (1 : Int32))), (.int sv), (.int (5 : Int32)), (.ref t), (.int (own_seen σ 5))]))
        refine own_st (fun _ kz => XS.aload X604.here hx rfl (v := (.ref a3)) (hb hby at_1143) (by show Le7[_]? = _; rw [hLe7]; rfl) rfl kz) ?_
        show own_Win p e below s _ _ _ (T604.setTop (mkF m 1145 Le7 [(.ref a3), (.int (Int32.ofNat (own_w r0.toInt r1.toInt s0.toInt s1.toInt))), (.int ev), (.int (XT.ushr (sv + ev) (1 : Int32))), (.int sv), (.int (5 : Int32)), (.ref t), (.int (own_seen σ 5))]))
        refine own_st (fun _ kz => XS.aload X604.here hx rfl (v := (.ref a4)) (hb hby at_1145) (by show Le7[_]? = _; rw [hLe7]; rfl) rfl kz) ?_
        show own_Win p e below s _ _ _ (T604.setTop (mkF m 1147 Le7 [(.ref a4), (.ref a3), (.int (Int32.ofNat (own_w r0.toInt r1.toInt s0.toInt s1.toInt))), (.int ev), (.int (XT.ushr (sv + ev) (1 : Int32))), (.int sv), (.int (5 : Int32)), (.ref t), (.int (own_seen σ 5))]))
        refine own_st (fun _ kz => XS.iload X604.here hx rfl (v := sp) (hb hby at_1147) (by show Le7[_]? = _; rw [hLe7]; rfl) kz) ?_
        show own_Win p e below s _ _ _ (T604.setTop (mkF m 1149 Le7 [(.int sp), (.ref a4), (.ref a3), (.int (Int32.ofNat (own_w r0.toInt r1.toInt s0.toInt s1.toInt))), (.int ev), (.int (XT.ushr (sv + ev) (1 : Int32))), (.int sv), (.int (5 : Int32)), (.ref t), (.int (own_seen σ 5))]))
        refine own_callS X604 hx hZ hown (y := yQ) (hw _ (List.mem_of_getElem? (i := 45) rfl)) (hw _ (List.mem_of_getElem? (i := 46) rfl)) (hw _ (List.mem_of_getElem? (i := 4) rfl)) (hw _ (List.mem_of_getElem? (i := 47) rfl)) (by decide) e604 (rmQ l Z a0 hw [] t a1 a2 aF aT aL aH a3 a4 wv gv (5 : Int32) sv (XT.ushr (sv + ev) (1 : Int32)) ev (Int32.ofNat (own_w r0.toInt r1.toInt s0.toInt s1.toInt)) sp 5 sN ((sN + eN) / 2) eN (own_w r0.toInt r1.toInt s0.toInt s1.toInt) σ O V h n0 Z9 FS FI FQ FA FB rfl (by decide) hsN hm (by omega) heN ha w2 hok.1 hD hsp (hid 5) hpt) (by decide) (W := 1) (by decide) rfl (by rw [hml]; show Le7.size = _; rw [hLe7]; rfl) (argsL := [(.ref t), (.int (5 : Int32)), (.int sv), (.int (XT.ushr (sv + ev) (1 : Int32))), (.int ev), (.int (Int32.ofNat (own_w r0.toInt r1.toInt s0.toInt s1.toInt))), (.ref a3), (.ref a4), (.int sp)]) (rest := [(.int (own_seen σ 5))]) (lenOf pdQ rfl) rfl (Nat.le_of_eq rfl) (hb hby at_1149) rfl hC hS ?_
        intro T605 v605 L605 X605 hQ605
        obtain ⟨rfl, M605, e605⟩ := hQ605
        have N605 := Fr.app N604 M605
        show own_Win p e below s _ _ _ (T605.setTop (mkF m 1152 Le7 [(.int ((1 : Int32) <<< (own_I σ 5 &&& 31))), (.int (own_seen σ 5))]))
        refine own_st (fun _ kz => XT.ior X605.here hx rfl (hb hby at_1152) rfl kz) ?_
        show own_Win p e below s _ _ _ (T605.setTop (mkF m 1153 Le7 [(.int ((own_seen σ 5) ||| ((1 : Int32) <<< (own_I σ 5 &&& 31))))]))
        show own_Win p e below s _ _ _ (T605.setTop (mkF m 1153 Le7 [(.int (own_seen σ 6))]))
        obtain ⟨Le8, hLe8⟩ : ∃ L : Array Slot, L = #[.val (.long p1), .second, .val (.long p2), .second, .val (.int p3), .val (.int p4), .val (.int p5), .val (.int r0), .val (.int r1), .val (.int s0), .val (.int s1), .val (.int sv), .val (.int ev), .val (.int nw), .val (.int wv), .val (.ref a1), .val (.ref a2), .val (.ref a3), .val (.ref a4), .val (.double (FP.i2d p3)), .second, .val (.double (FP.i2d p4)), .second, .val (.double (FP.l2d ((p3.toInt64) + (r0.toInt64)))), .second, .val (.double (FP.l2d ((p4.toInt64) + (r1.toInt64)))), .second, .val (.ref a201), .val (.ref a202), .val (.ref a203), .val (.ref t), .val (.int (0 : Int32)), .val (.int sp), .val (.int (XT.ushr (sv + ev) (1 : Int32))), .val (.int (Int32.ofNat (own_w r0.toInt r1.toInt s0.toInt s1.toInt))), .val (.int (1 : Int32)), .val (.int (own_seen σ 6))] := ⟨_, rfl⟩
        refine own_st (fun _ kz => XS.istore X605.here hx rfl (hb hby at_1153) rfl (l' := Le8) (by show storeLocals Le7 _ _ = _; rw [hLe7, hLe8]; rfl) kz) ?_
        show own_Win p e below s _ _ _ (T605.setTop (mkF m 1155 Le8 []))
        refine own_st (fun _ kz => XS.iload X605.here hx rfl (v := (own_seen σ 6)) (hb hby at_1155) (by show Le8[_]? = _; rw [hLe8]; rfl) kz) ?_
        show own_Win p e below s _ _ _ (T605.setTop (mkF m 1157 Le8 [(.int (own_seen σ 6))]))
        refine own_st (fun _ kz => XS.aload X605.here hx rfl (v := (.ref t)) (hb hby at_1157) (by show Le8[_]? = _; rw [hLe8]; rfl) rfl kz) ?_
        show own_Win p e below s _ _ _ (T605.setTop (mkF m 1159 Le8 [(.ref t), (.int (own_seen σ 6))]))
        refine own_st (fun _ kz => XS.bipush X605.here hx rfl (hb hby at_1159) kz) ?_
        show own_Win p e below s _ _ _ (T605.setTop (mkF m 1161 Le8 [(.int (6 : Int32)), (.ref t), (.int (own_seen σ 6))]))
        refine own_st (fun _ kz => XS.iload X605.here hx rfl (v := sv) (hb hby at_1161) (by show Le8[_]? = _; rw [hLe8]; rfl) kz) ?_
        show own_Win p e below s _ _ _ (T605.setTop (mkF m 1163 Le8 [(.int sv), (.int (6 : Int32)), (.ref t), (.int (own_seen σ 6))]))
        refine own_st (fun _ kz => XS.iload X605.here hx rfl (v := (XT.ushr (sv + ev) (1 : Int32))) (hb hby at_1163) (by show Le8[_]? = _; rw [hLe8]; rfl) kz) ?_
        show own_Win p e below s _ _ _ (T605.setTop (mkF m 1165 Le8 [(.int (XT.ushr (sv + ev) (1 : Int32))), (.int sv), (.int (6 : Int32)), (.ref t), (.int (own_seen σ 6))]))
        refine own_st (fun _ kz => XS.iload X605.here hx rfl (v := ev) (hb hby at_1165) (by show Le8[_]? = _; rw [hLe8]; rfl) kz) ?_
        show own_Win p e below s _ _ _ (T605.setTop (mkF m 1167 Le8 [(.int ev), (.int (XT.ushr (sv + ev) (1 : Int32))), (.int sv), (.int (6 : Int32)), (.ref t), (.int (own_seen σ 6))]))
        refine own_st (fun _ kz => XS.iload X605.here hx rfl (v := (Int32.ofNat (own_w r0.toInt r1.toInt s0.toInt s1.toInt))) (hb hby at_1167) (by show Le8[_]? = _; rw [hLe8]; rfl) kz) ?_
        show own_Win p e below s _ _ _ (T605.setTop (mkF m 1169 Le8 [(.int (Int32.ofNat (own_w r0.toInt r1.toInt s0.toInt s1.toInt))), (.int ev), (.int (XT.ushr (sv + ev) (1 : Int32))), (.int sv), (.int (6 : Int32)), (.ref t), (.int (own_seen σ 6))]))
        refine own_st (fun _ kz => XS.aload X605.here hx rfl (v := (.ref a3)) (hb hby at_1169) (by show Le8[_]? = _; rw [hLe8]; rfl) rfl kz) ?_
        show own_Win p e below s _ _ _ (T605.setTop (mkF m 1171 Le8 [(.ref a3), (.int (Int32.ofNat (own_w r0.toInt r1.toInt s0.toInt s1.toInt))), (.int ev), (.int (XT.ushr (sv + ev) (1 : Int32))), (.int sv), (.int (6 : Int32)), (.ref t), (.int (own_seen σ 6))]))
        refine own_st (fun _ kz => XS.aload X605.here hx rfl (v := (.ref a4)) (hb hby at_1171) (by show Le8[_]? = _; rw [hLe8]; rfl) rfl kz) ?_
        show own_Win p e below s _ _ _ (T605.setTop (mkF m 1173 Le8 [(.ref a4), (.ref a3), (.int (Int32.ofNat (own_w r0.toInt r1.toInt s0.toInt s1.toInt))), (.int ev), (.int (XT.ushr (sv + ev) (1 : Int32))), (.int sv), (.int (6 : Int32)), (.ref t), (.int (own_seen σ 6))]))
        refine own_st (fun _ kz => XS.iload X605.here hx rfl (v := sp) (hb hby at_1173) (by show Le8[_]? = _; rw [hLe8]; rfl) kz) ?_
        show own_Win p e below s _ _ _ (T605.setTop (mkF m 1175 Le8 [(.int sp), (.ref a4), (.ref a3), (.int (Int32.ofNat (own_w r0.toInt r1.toInt s0.toInt s1.toInt))), (.int ev), (.int (XT.ushr (sv + ev) (1 : Int32))), (.int sv), (.int (6 : Int32)), (.ref t), (.int (own_seen σ 6))]))
        refine own_callS X605 hx hZ hown (y := yQ) (hw _ (List.mem_of_getElem? (i := 45) rfl)) (hw _ (List.mem_of_getElem? (i := 46) rfl)) (hw _ (List.mem_of_getElem? (i := 4) rfl)) (hw _ (List.mem_of_getElem? (i := 47) rfl)) (by decide) e605 (rmQ l Z a0 hw [] t a1 a2 aF aT aL aH a3 a4 wv gv (6 : Int32) sv (XT.ushr (sv + ev) (1 : Int32)) ev (Int32.ofNat (own_w r0.toInt r1.toInt s0.toInt s1.toInt)) sp 6 sN ((sN + eN) / 2) eN (own_w r0.toInt r1.toInt s0.toInt s1.toInt) σ O V h n0 Z9 FS FI FQ FA FB rfl (by decide) hsN hm (by omega) heN ha w2 hok.1 hD hsp (hid 6) hpt) (by decide) (W := 1) (by decide) rfl (by rw [hml]; show Le8.size = _; rw [hLe8]; rfl) (argsL := [(.ref t), (.int (6 : Int32)), (.int sv), (.int (XT.ushr (sv + ev) (1 : Int32))), (.int ev), (.int (Int32.ofNat (own_w r0.toInt r1.toInt s0.toInt s1.toInt))), (.ref a3), (.ref a4), (.int sp)]) (rest := [(.int (own_seen σ 6))]) (lenOf pdQ rfl) rfl (Nat.le_of_eq rfl) (hb hby at_1175) rfl hC hS ?_
        intro T606 v606 L606 X606 hQ606
        obtain ⟨rfl, M606, e606⟩ := hQ606
        have N606 := Fr.app N605 M606
        show own_Win p e below s _ _ _ (T606.setTop (mkF m 1178 Le8 [(.int ((1 : Int32) <<< (own_I σ 6 &&& 31))), (.int (own_seen σ 6))]))
        refine own_st (fun _ kz => XT.ior X606.here hx rfl (hb hby at_1178) rfl kz) ?_
        show own_Win p e below s _ _ _ (T606.setTop (mkF m 1179 Le8 [(.int ((own_seen σ 6) ||| ((1 : Int32) <<< (own_I σ 6 &&& 31))))]))
        show own_Win p e below s _ _ _ (T606.setTop (mkF m 1179 Le8 [(.int (own_seen σ 7))]))
        obtain ⟨Le9, hLe9⟩ : ∃ L : Array Slot, L = #[.val (.long p1), .second, .val (.long p2), .second, .val (.int p3), .val (.int p4), .val (.int p5), .val (.int r0), .val (.int r1), .val (.int s0), .val (.int s1), .val (.int sv), .val (.int ev), .val (.int nw), .val (.int wv), .val (.ref a1), .val (.ref a2), .val (.ref a3), .val (.ref a4), .val (.double (FP.i2d p3)), .second, .val (.double (FP.i2d p4)), .second, .val (.double (FP.l2d ((p3.toInt64) + (r0.toInt64)))), .second, .val (.double (FP.l2d ((p4.toInt64) + (r1.toInt64)))), .second, .val (.ref a201), .val (.ref a202), .val (.ref a203), .val (.ref t), .val (.int (0 : Int32)), .val (.int sp), .val (.int (XT.ushr (sv + ev) (1 : Int32))), .val (.int (Int32.ofNat (own_w r0.toInt r1.toInt s0.toInt s1.toInt))), .val (.int (1 : Int32)), .val (.int (own_seen σ 7))] := ⟨_, rfl⟩
        refine own_st (fun _ kz => XS.istore X606.here hx rfl (hb hby at_1179) rfl (l' := Le9) (by show storeLocals Le8 _ _ = _; rw [hLe8, hLe9]; rfl) kz) ?_
        show own_Win p e below s _ _ _ (T606.setTop (mkF m 1181 Le9 []))
        refine own_st (fun _ kz => XS.iload X606.here hx rfl (v := (own_seen σ 7)) (hb hby at_1181) (by show Le9[_]? = _; rw [hLe9]; rfl) kz) ?_
        show own_Win p e below s _ _ _ (T606.setTop (mkF m 1183 Le9 [(.int (own_seen σ 7))]))
        refine own_st (fun _ kz => XS.aload X606.here hx rfl (v := (.ref t)) (hb hby at_1183) (by show Le9[_]? = _; rw [hLe9]; rfl) rfl kz) ?_
        show own_Win p e below s _ _ _ (T606.setTop (mkF m 1185 Le9 [(.ref t), (.int (own_seen σ 7))]))
        refine own_st (fun _ kz => XS.bipush X606.here hx rfl (hb hby at_1185) kz) ?_
        show own_Win p e below s _ _ _ (T606.setTop (mkF m 1187 Le9 [(.int (7 : Int32)), (.ref t), (.int (own_seen σ 7))]))
        refine own_st (fun _ kz => XS.iload X606.here hx rfl (v := sv) (hb hby at_1187) (by show Le9[_]? = _; rw [hLe9]; rfl) kz) ?_
        show own_Win p e below s _ _ _ (T606.setTop (mkF m 1189 Le9 [(.int sv), (.int (7 : Int32)), (.ref t), (.int (own_seen σ 7))]))
        refine own_st (fun _ kz => XS.iload X606.here hx rfl (v := (XT.ushr (sv + ev) (1 : Int32))) (hb hby at_1189) (by show Le9[_]? = _; rw [hLe9]; rfl) kz) ?_
        show own_Win p e below s _ _ _ (T606.setTop (mkF m 1191 Le9 [(.int (XT.ushr (sv + ev) (1 : Int32))), (.int sv), (.int (7 : Int32)), (.ref t), (.int (own_seen σ 7))]))
        refine own_st (fun _ kz => XS.iload X606.here hx rfl (v := ev) (hb hby at_1191) (by show Le9[_]? = _; rw [hLe9]; rfl) kz) ?_
        show own_Win p e below s _ _ _ (T606.setTop (mkF m 1193 Le9 [(.int ev), (.int (XT.ushr (sv + ev) (1 : Int32))), (.int sv), (.int (7 : Int32)), (.ref t), (.int (own_seen σ 7))]))
        refine own_st (fun _ kz => XS.iload X606.here hx rfl (v := (Int32.ofNat (own_w r0.toInt r1.toInt s0.toInt s1.toInt))) (hb hby at_1193) (by show Le9[_]? = _; rw [hLe9]; rfl) kz) ?_
        show own_Win p e below s _ _ _ (T606.setTop (mkF m 1195 Le9 [(.int (Int32.ofNat (own_w r0.toInt r1.toInt s0.toInt s1.toInt))), (.int ev), (.int (XT.ushr (sv + ev) (1 : Int32))), (.int sv), (.int (7 : Int32)), (.ref t), (.int (own_seen σ 7))]))
        refine own_st (fun _ kz => XS.aload X606.here hx rfl (v := (.ref a3)) (hb hby at_1195) (by show Le9[_]? = _; rw [hLe9]; rfl) rfl kz) ?_
        show own_Win p e below s _ _ _ (T606.setTop (mkF m 1197 Le9 [(.ref a3), (.int (Int32.ofNat (own_w r0.toInt r1.toInt s0.toInt s1.toInt))), (.int ev), (.int (XT.ushr (sv + ev) (1 : Int32))), (.int sv), (.int (7 : Int32)), (.ref t), (.int (own_seen σ 7))]))
        refine own_st (fun _ kz => XS.aload X606.here hx rfl (v := (.ref a4)) (hb hby at_1197) (by show Le9[_]? = _; rw [hLe9]; rfl) rfl kz) ?_
        show own_Win p e below s _ _ _ (T606.setTop (mkF m 1199 Le9 [(.ref a4), (.ref a3), (.int (Int32.ofNat (own_w r0.toInt r1.toInt s0.toInt s1.toInt))), (.int ev), (.int (XT.ushr (sv + ev) (1 : Int32))), (.int sv), (.int (7 : Int32)), (.ref t), (.int (own_seen σ 7))]))
        refine own_st (fun _ kz => XS.iload X606.here hx rfl (v := sp) (hb hby at_1199) (by show Le9[_]? = _; rw [hLe9]; rfl) kz) ?_
        show own_Win p e below s _ _ _ (T606.setTop (mkF m 1201 Le9 [(.int sp), (.ref a4), (.ref a3), (.int (Int32.ofNat (own_w r0.toInt r1.toInt s0.toInt s1.toInt))), (.int ev), (.int (XT.ushr (sv + ev) (1 : Int32))), (.int sv), (.int (7 : Int32)), (.ref t), (.int (own_seen σ 7))]))
        refine own_callS X606 hx hZ hown (y := yQ) (hw _ (List.mem_of_getElem? (i := 45) rfl)) (hw _ (List.mem_of_getElem? (i := 46) rfl)) (hw _ (List.mem_of_getElem? (i := 4) rfl)) (hw _ (List.mem_of_getElem? (i := 47) rfl)) (by decide) e606 (rmQ l Z a0 hw [] t a1 a2 aF aT aL aH a3 a4 wv gv (7 : Int32) sv (XT.ushr (sv + ev) (1 : Int32)) ev (Int32.ofNat (own_w r0.toInt r1.toInt s0.toInt s1.toInt)) sp 7 sN ((sN + eN) / 2) eN (own_w r0.toInt r1.toInt s0.toInt s1.toInt) σ O V h n0 Z9 FS FI FQ FA FB rfl (by decide) hsN hm (by omega) heN ha w2 hok.1 hD hsp (hid 7) hpt) (by decide) (W := 1) (by decide) rfl (by rw [hml]; show Le9.size = _; rw [hLe9]; rfl) (argsL := [(.ref t), (.int (7 : Int32)), (.int sv), (.int (XT.ushr (sv + ev) (1 : Int32))), (.int ev), (.int (Int32.ofNat (own_w r0.toInt r1.toInt s0.toInt s1.toInt))), (.ref a3), (.ref a4), (.int sp)]) (rest := [(.int (own_seen σ 7))]) (lenOf pdQ rfl) rfl (Nat.le_of_eq rfl) (hb hby at_1201) rfl hC hS ?_
        intro T607 v607 L607 X607 hQ607
        obtain ⟨rfl, M607, e607⟩ := hQ607
        have N607 := Fr.app N606 M607
        show own_Win p e below s _ _ _ (T607.setTop (mkF m 1204 Le9 [(.int ((1 : Int32) <<< (own_I σ 7 &&& 31))), (.int (own_seen σ 7))]))
        refine own_st (fun _ kz => XT.ior X607.here hx rfl (hb hby at_1204) rfl kz) ?_
        show own_Win p e below s _ _ _ (T607.setTop (mkF m 1205 Le9 [(.int ((own_seen σ 7) ||| ((1 : Int32) <<< (own_I σ 7 &&& 31))))]))
        show own_Win p e below s _ _ _ (T607.setTop (mkF m 1205 Le9 [(.int (own_seen σ 8))]))
        obtain ⟨Le10, hLe10⟩ : ∃ L : Array Slot, L = #[.val (.long p1), .second, .val (.long p2), .second, .val (.int p3), .val (.int p4), .val (.int p5), .val (.int r0), .val (.int r1), .val (.int s0), .val (.int s1), .val (.int sv), .val (.int ev), .val (.int nw), .val (.int wv), .val (.ref a1), .val (.ref a2), .val (.ref a3), .val (.ref a4), .val (.double (FP.i2d p3)), .second, .val (.double (FP.i2d p4)), .second, .val (.double (FP.l2d ((p3.toInt64) + (r0.toInt64)))), .second, .val (.double (FP.l2d ((p4.toInt64) + (r1.toInt64)))), .second, .val (.ref a201), .val (.ref a202), .val (.ref a203), .val (.ref t), .val (.int (0 : Int32)), .val (.int sp), .val (.int (XT.ushr (sv + ev) (1 : Int32))), .val (.int (Int32.ofNat (own_w r0.toInt r1.toInt s0.toInt s1.toInt))), .val (.int (1 : Int32)), .val (.int (own_seen σ 8))] := ⟨_, rfl⟩
        refine own_st (fun _ kz => XS.istore X607.here hx rfl (hb hby at_1205) rfl (l' := Le10) (by show storeLocals Le9 _ _ = _; rw [hLe9, hLe10]; rfl) kz) ?_
        show own_Win p e below s _ _ _ (T607.setTop (mkF m 1207 Le10 []))
        refine own_st (fun _ kz => XS.iload X607.here hx rfl (v := (own_seen σ 8)) (hb hby at_1207) (by show Le10[_]? = _; rw [hLe10]; rfl) kz) ?_
        show own_Win p e below s _ _ _ (T607.setTop (mkF m 1209 Le10 [(.int (own_seen σ 8))]))
        refine own_st (fun _ kz => XS.aload X607.here hx rfl (v := (.ref t)) (hb hby at_1209) (by show Le10[_]? = _; rw [hLe10]; rfl) rfl kz) ?_
        show own_Win p e below s _ _ _ (T607.setTop (mkF m 1211 Le10 [(.ref t), (.int (own_seen σ 8))]))
        refine own_st (fun _ kz => XS.bipush X607.here hx rfl (hb hby at_1211) kz) ?_
        show own_Win p e below s _ _ _ (T607.setTop (mkF m 1213 Le10 [(.int (8 : Int32)), (.ref t), (.int (own_seen σ 8))]))
        refine own_st (fun _ kz => XS.iload X607.here hx rfl (v := sv) (hb hby at_1213) (by show Le10[_]? = _; rw [hLe10]; rfl) kz) ?_
        show own_Win p e below s _ _ _ (T607.setTop (mkF m 1215 Le10 [(.int sv), (.int (8 : Int32)), (.ref t), (.int (own_seen σ 8))]))
        refine own_st (fun _ kz => XS.iload X607.here hx rfl (v := (XT.ushr (sv + ev) (1 : Int32))) (hb hby at_1215) (by show Le10[_]? = _; rw [hLe10]; rfl) kz) ?_
        show own_Win p e below s _ _ _ (T607.setTop (mkF m 1217 Le10 [(.int (XT.ushr (sv + ev) (1 : Int32))), (.int sv), (.int (8 : Int32)), (.ref t), (.int (own_seen σ 8))]))
        refine own_st (fun _ kz => XS.iload X607.here hx rfl (v := ev) (hb hby at_1217) (by show Le10[_]? = _; rw [hLe10]; rfl) kz) ?_
        show own_Win p e below s _ _ _ (T607.setTop (mkF m 1219 Le10 [(.int ev), (.int (XT.ushr (sv + ev) (1 : Int32))), (.int sv), (.int (8 : Int32)), (.ref t), (.int (own_seen σ 8))]))
        refine own_st (fun _ kz => XS.iload X607.here hx rfl (v := (Int32.ofNat (own_w r0.toInt r1.toInt s0.toInt s1.toInt))) (hb hby at_1219) (by show Le10[_]? = _; rw [hLe10]; rfl) kz) ?_
        show own_Win p e below s _ _ _ (T607.setTop (mkF m 1221 Le10 [(.int (Int32.ofNat (own_w r0.toInt r1.toInt s0.toInt s1.toInt))), (.int ev), (.int (XT.ushr (sv + ev) (1 : Int32))), (.int sv), (.int (8 : Int32)), (.ref t), (.int (own_seen σ 8))]))
        refine own_st (fun _ kz => XS.aload X607.here hx rfl (v := (.ref a3)) (hb hby at_1221) (by show Le10[_]? = _; rw [hLe10]; rfl) rfl kz) ?_
        show own_Win p e below s _ _ _ (T607.setTop (mkF m 1223 Le10 [(.ref a3), (.int (Int32.ofNat (own_w r0.toInt r1.toInt s0.toInt s1.toInt))), (.int ev), (.int (XT.ushr (sv + ev) (1 : Int32))), (.int sv), (.int (8 : Int32)), (.ref t), (.int (own_seen σ 8))]))
        refine own_st (fun _ kz => XS.aload X607.here hx rfl (v := (.ref a4)) (hb hby at_1223) (by show Le10[_]? = _; rw [hLe10]; rfl) rfl kz) ?_
        show own_Win p e below s _ _ _ (T607.setTop (mkF m 1225 Le10 [(.ref a4), (.ref a3), (.int (Int32.ofNat (own_w r0.toInt r1.toInt s0.toInt s1.toInt))), (.int ev), (.int (XT.ushr (sv + ev) (1 : Int32))), (.int sv), (.int (8 : Int32)), (.ref t), (.int (own_seen σ 8))]))
        refine own_st (fun _ kz => XS.iload X607.here hx rfl (v := sp) (hb hby at_1225) (by show Le10[_]? = _; rw [hLe10]; rfl) kz) ?_
        show own_Win p e below s _ _ _ (T607.setTop (mkF m 1227 Le10 [(.int sp), (.ref a4), (.ref a3), (.int (Int32.ofNat (own_w r0.toInt r1.toInt s0.toInt s1.toInt))), (.int ev), (.int (XT.ushr (sv + ev) (1 : Int32))), (.int sv), (.int (8 : Int32)), (.ref t), (.int (own_seen σ 8))]))
        refine own_callS X607 hx hZ hown (y := yQ) (hw _ (List.mem_of_getElem? (i := 45) rfl)) (hw _ (List.mem_of_getElem? (i := 46) rfl)) (hw _ (List.mem_of_getElem? (i := 4) rfl)) (hw _ (List.mem_of_getElem? (i := 47) rfl)) (by decide) e607 (rmQ l Z a0 hw [] t a1 a2 aF aT aL aH a3 a4 wv gv (8 : Int32) sv (XT.ushr (sv + ev) (1 : Int32)) ev (Int32.ofNat (own_w r0.toInt r1.toInt s0.toInt s1.toInt)) sp 8 sN ((sN + eN) / 2) eN (own_w r0.toInt r1.toInt s0.toInt s1.toInt) σ O V h n0 Z9 FS FI FQ FA FB rfl (by decide) hsN hm (by omega) heN ha w2 hok.1 hD hsp (hid 8) hpt) (by decide) (W := 1) (by decide) rfl (by rw [hml]; show Le10.size = _; rw [hLe10]; rfl) (argsL := [(.ref t), (.int (8 : Int32)), (.int sv), (.int (XT.ushr (sv + ev) (1 : Int32))), (.int ev), (.int (Int32.ofNat (own_w r0.toInt r1.toInt s0.toInt s1.toInt))), (.ref a3), (.ref a4), (.int sp)]) (rest := [(.int (own_seen σ 8))]) (lenOf pdQ rfl) rfl (Nat.le_of_eq rfl) (hb hby at_1227) rfl hC hS ?_
        intro T608 v608 L608 X608 hQ608
        obtain ⟨rfl, M608, e608⟩ := hQ608
        have N608 := Fr.app N607 M608
        show own_Win p e below s _ _ _ (T608.setTop (mkF m 1230 Le10 [(.int ((1 : Int32) <<< (own_I σ 8 &&& 31))), (.int (own_seen σ 8))]))
        refine own_st (fun _ kz => XT.ior X608.here hx rfl (hb hby at_1230) rfl kz) ?_
        show own_Win p e below s _ _ _ (T608.setTop (mkF m 1231 Le10 [(.int ((own_seen σ 8) ||| ((1 : Int32) <<< (own_I σ 8 &&& 31))))]))
        show own_Win p e below s _ _ _ (T608.setTop (mkF m 1231 Le10 [(.int (own_seen σ 9))]))
        obtain ⟨Le11, hLe11⟩ : ∃ L : Array Slot, L = #[.val (.long p1), .second, .val (.long p2), .second, .val (.int p3), .val (.int p4), .val (.int p5), .val (.int r0), .val (.int r1), .val (.int s0), .val (.int s1), .val (.int sv), .val (.int ev), .val (.int nw), .val (.int wv), .val (.ref a1), .val (.ref a2), .val (.ref a3), .val (.ref a4), .val (.double (FP.i2d p3)), .second, .val (.double (FP.i2d p4)), .second, .val (.double (FP.l2d ((p3.toInt64) + (r0.toInt64)))), .second, .val (.double (FP.l2d ((p4.toInt64) + (r1.toInt64)))), .second, .val (.ref a201), .val (.ref a202), .val (.ref a203), .val (.ref t), .val (.int (0 : Int32)), .val (.int sp), .val (.int (XT.ushr (sv + ev) (1 : Int32))), .val (.int (Int32.ofNat (own_w r0.toInt r1.toInt s0.toInt s1.toInt))), .val (.int (1 : Int32)), .val (.int (own_seen σ 9))] := ⟨_, rfl⟩
        refine own_st (fun _ kz => XS.istore X608.here hx rfl (hb hby at_1231) rfl (l' := Le11) (by show storeLocals Le10 _ _ = _; rw [hLe10, hLe11]; rfl) kz) ?_
        show own_Win p e below s _ _ _ (T608.setTop (mkF m 1233 Le11 []))
        refine own_st (fun _ kz => XS.iload X608.here hx rfl (v := (own_seen σ 9)) (hb hby at_1233) (by show Le11[_]? = _; rw [hLe11]; rfl) kz) ?_
        show own_Win p e below s _ _ _ (T608.setTop (mkF m 1235 Le11 [(.int (own_seen σ 9))]))
        refine own_st (fun _ kz => XS.aload X608.here hx rfl (v := (.ref t)) (hb hby at_1235) (by show Le11[_]? = _; rw [hLe11]; rfl) rfl kz) ?_
        show own_Win p e below s _ _ _ (T608.setTop (mkF m 1237 Le11 [(.ref t), (.int (own_seen σ 9))]))
        refine own_st (fun _ kz => XS.bipush X608.here hx rfl (hb hby at_1237) kz) ?_
        show own_Win p e below s _ _ _ (T608.setTop (mkF m 1239 Le11 [(.int (9 : Int32)), (.ref t), (.int (own_seen σ 9))]))
        refine own_st (fun _ kz => XS.iload X608.here hx rfl (v := sv) (hb hby at_1239) (by show Le11[_]? = _; rw [hLe11]; rfl) kz) ?_
        show own_Win p e below s _ _ _ (T608.setTop (mkF m 1241 Le11 [(.int sv), (.int (9 : Int32)), (.ref t), (.int (own_seen σ 9))]))
        refine own_st (fun _ kz => XS.iload X608.here hx rfl (v := (XT.ushr (sv + ev) (1 : Int32))) (hb hby at_1241) (by show Le11[_]? = _; rw [hLe11]; rfl) kz) ?_
        show own_Win p e below s _ _ _ (T608.setTop (mkF m 1243 Le11 [(.int (XT.ushr (sv + ev) (1 : Int32))), (.int sv), (.int (9 : Int32)), (.ref t), (.int (own_seen σ 9))]))
        refine own_st (fun _ kz => XS.iload X608.here hx rfl (v := ev) (hb hby at_1243) (by show Le11[_]? = _; rw [hLe11]; rfl) kz) ?_
        show own_Win p e below s _ _ _ (T608.setTop (mkF m 1245 Le11 [(.int ev), (.int (XT.ushr (sv + ev) (1 : Int32))), (.int sv), (.int (9 : Int32)), (.ref t), (.int (own_seen σ 9))]))
        refine own_st (fun _ kz => XS.iload X608.here hx rfl (v := (Int32.ofNat (own_w r0.toInt r1.toInt s0.toInt s1.toInt))) (hb hby at_1245) (by show Le11[_]? = _; rw [hLe11]; rfl) kz) ?_
        show own_Win p e below s _ _ _ (T608.setTop (mkF m 1247 Le11 [(.int (Int32.ofNat (own_w r0.toInt r1.toInt s0.toInt s1.toInt))), (.int ev), (.int (XT.ushr (sv + ev) (1 : Int32))), (.int sv), (.int (9 : Int32)), (.ref t), (.int (own_seen σ 9))]))
        refine own_st (fun _ kz => XS.aload X608.here hx rfl (v := (.ref a3)) (hb hby at_1247) (by show Le11[_]? = _; rw [hLe11]; rfl) rfl kz) ?_
        show own_Win p e below s _ _ _ (T608.setTop (mkF m 1249 Le11 [(.ref a3), (.int (Int32.ofNat (own_w r0.toInt r1.toInt s0.toInt s1.toInt))), (.int ev), (.int (XT.ushr (sv + ev) (1 : Int32))), (.int sv), (.int (9 : Int32)), (.ref t), (.int (own_seen σ 9))]))
        refine own_st (fun _ kz => XS.aload X608.here hx rfl (v := (.ref a4)) (hb hby at_1249) (by show Le11[_]? = _; rw [hLe11]; rfl) rfl kz) ?_
        show own_Win p e below s _ _ _ (T608.setTop (mkF m 1251 Le11 [(.ref a4), (.ref a3), (.int (Int32.ofNat (own_w r0.toInt r1.toInt s0.toInt s1.toInt))), (.int ev), (.int (XT.ushr (sv + ev) (1 : Int32))), (.int sv), (.int (9 : Int32)), (.ref t), (.int (own_seen σ 9))]))
        refine own_st (fun _ kz => XS.iload X608.here hx rfl (v := sp) (hb hby at_1251) (by show Le11[_]? = _; rw [hLe11]; rfl) kz) ?_
        show own_Win p e below s _ _ _ (T608.setTop (mkF m 1253 Le11 [(.int sp), (.ref a4), (.ref a3), (.int (Int32.ofNat (own_w r0.toInt r1.toInt s0.toInt s1.toInt))), (.int ev), (.int (XT.ushr (sv + ev) (1 : Int32))), (.int sv), (.int (9 : Int32)), (.ref t), (.int (own_seen σ 9))]))
        refine own_callS X608 hx hZ hown (y := yQ) (hw _ (List.mem_of_getElem? (i := 45) rfl)) (hw _ (List.mem_of_getElem? (i := 46) rfl)) (hw _ (List.mem_of_getElem? (i := 4) rfl)) (hw _ (List.mem_of_getElem? (i := 47) rfl)) (by decide) e608 (rmQ l Z a0 hw [] t a1 a2 aF aT aL aH a3 a4 wv gv (9 : Int32) sv (XT.ushr (sv + ev) (1 : Int32)) ev (Int32.ofNat (own_w r0.toInt r1.toInt s0.toInt s1.toInt)) sp 9 sN ((sN + eN) / 2) eN (own_w r0.toInt r1.toInt s0.toInt s1.toInt) σ O V h n0 Z9 FS FI FQ FA FB rfl (by decide) hsN hm (by omega) heN ha w2 hok.1 hD hsp (hid 9) hpt) (by decide) (W := 1) (by decide) rfl (by rw [hml]; show Le11.size = _; rw [hLe11]; rfl) (argsL := [(.ref t), (.int (9 : Int32)), (.int sv), (.int (XT.ushr (sv + ev) (1 : Int32))), (.int ev), (.int (Int32.ofNat (own_w r0.toInt r1.toInt s0.toInt s1.toInt))), (.ref a3), (.ref a4), (.int sp)]) (rest := [(.int (own_seen σ 9))]) (lenOf pdQ rfl) rfl (Nat.le_of_eq rfl) (hb hby at_1253) rfl hC hS ?_
        intro T609 v609 L609 X609 hQ609
        obtain ⟨rfl, M609, e609⟩ := hQ609
        have N609 := Fr.app N608 M609
        show own_Win p e below s _ _ _ (T609.setTop (mkF m 1256 Le11 [(.int ((1 : Int32) <<< (own_I σ 9 &&& 31))), (.int (own_seen σ 9))]))
        refine own_st (fun _ kz => XT.ior X609.here hx rfl (hb hby at_1256) rfl kz) ?_
        show own_Win p e below s _ _ _ (T609.setTop (mkF m 1257 Le11 [(.int ((own_seen σ 9) ||| ((1 : Int32) <<< (own_I σ 9 &&& 31))))]))
        show own_Win p e below s _ _ _ (T609.setTop (mkF m 1257 Le11 [(.int (own_seen σ 10))]))
        obtain ⟨Le12, hLe12⟩ : ∃ L : Array Slot, L = #[.val (.long p1), .second, .val (.long p2), .second, .val (.int p3), .val (.int p4), .val (.int p5), .val (.int r0), .val (.int r1), .val (.int s0), .val (.int s1), .val (.int sv), .val (.int ev), .val (.int nw), .val (.int wv), .val (.ref a1), .val (.ref a2), .val (.ref a3), .val (.ref a4), .val (.double (FP.i2d p3)), .second, .val (.double (FP.i2d p4)), .second, .val (.double (FP.l2d ((p3.toInt64) + (r0.toInt64)))), .second, .val (.double (FP.l2d ((p4.toInt64) + (r1.toInt64)))), .second, .val (.ref a201), .val (.ref a202), .val (.ref a203), .val (.ref t), .val (.int (0 : Int32)), .val (.int sp), .val (.int (XT.ushr (sv + ev) (1 : Int32))), .val (.int (Int32.ofNat (own_w r0.toInt r1.toInt s0.toInt s1.toInt))), .val (.int (1 : Int32)), .val (.int (own_seen σ 10))] := ⟨_, rfl⟩
        refine own_st (fun _ kz => XS.istore X609.here hx rfl (hb hby at_1257) rfl (l' := Le12) (by show storeLocals Le11 _ _ = _; rw [hLe11, hLe12]; rfl) kz) ?_
        show own_Win p e below s _ _ _ (T609.setTop (mkF m 1259 Le12 []))
        refine own_st (fun _ kz => XS.iload X609.here hx rfl (v := (own_seen σ 10)) (hb hby at_1259) (by show Le12[_]? = _; rw [hLe12]; rfl) kz) ?_
        show own_Win p e below s _ _ _ (T609.setTop (mkF m 1261 Le12 [(.int (own_seen σ 10))]))
        refine own_st (fun _ kz => XS.aload X609.here hx rfl (v := (.ref t)) (hb hby at_1261) (by show Le12[_]? = _; rw [hLe12]; rfl) rfl kz) ?_
        show own_Win p e below s _ _ _ (T609.setTop (mkF m 1263 Le12 [(.ref t), (.int (own_seen σ 10))]))
        refine own_st (fun _ kz => XS.bipush X609.here hx rfl (hb hby at_1263) kz) ?_
        show own_Win p e below s _ _ _ (T609.setTop (mkF m 1265 Le12 [(.int (10 : Int32)), (.ref t), (.int (own_seen σ 10))]))
        refine own_st (fun _ kz => XS.iload X609.here hx rfl (v := sv) (hb hby at_1265) (by show Le12[_]? = _; rw [hLe12]; rfl) kz) ?_
        show own_Win p e below s _ _ _ (T609.setTop (mkF m 1267 Le12 [(.int sv), (.int (10 : Int32)), (.ref t), (.int (own_seen σ 10))]))
        refine own_st (fun _ kz => XS.iload X609.here hx rfl (v := (XT.ushr (sv + ev) (1 : Int32))) (hb hby at_1267) (by show Le12[_]? = _; rw [hLe12]; rfl) kz) ?_
        show own_Win p e below s _ _ _ (T609.setTop (mkF m 1269 Le12 [(.int (XT.ushr (sv + ev) (1 : Int32))), (.int sv), (.int (10 : Int32)), (.ref t), (.int (own_seen σ 10))]))
        refine own_st (fun _ kz => XS.iload X609.here hx rfl (v := ev) (hb hby at_1269) (by show Le12[_]? = _; rw [hLe12]; rfl) kz) ?_
        show own_Win p e below s _ _ _ (T609.setTop (mkF m 1271 Le12 [(.int ev), (.int (XT.ushr (sv + ev) (1 : Int32))), (.int sv), (.int (10 : Int32)), (.ref t), (.int (own_seen σ 10))]))
        refine own_st (fun _ kz => XS.iload X609.here hx rfl (v := (Int32.ofNat (own_w r0.toInt r1.toInt s0.toInt s1.toInt))) (hb hby at_1271) (by show Le12[_]? = _; rw [hLe12]; rfl) kz) ?_
        show own_Win p e below s _ _ _ (T609.setTop (mkF m 1273 Le12 [(.int (Int32.ofNat (own_w r0.toInt r1.toInt s0.toInt s1.toInt))), (.int ev), (.int (XT.ushr (sv + ev) (1 : Int32))), (.int sv), (.int (10 : Int32)), (.ref t), (.int (own_seen σ 10))]))
        refine own_st (fun _ kz => XS.aload X609.here hx rfl (v := (.ref a3)) (hb hby at_1273) (by show Le12[_]? = _; rw [hLe12]; rfl) rfl kz) ?_
        show own_Win p e below s _ _ _ (T609.setTop (mkF m 1275 Le12 [(.ref a3), (.int (Int32.ofNat (own_w r0.toInt r1.toInt s0.toInt s1.toInt))), (.int ev), (.int (XT.ushr (sv + ev) (1 : Int32))), (.int sv), (.int (10 : Int32)), (.ref t), (.int (own_seen σ 10))]))
        refine own_st (fun _ kz => XS.aload X609.here hx rfl (v := (.ref a4)) (hb hby at_1275) (by show Le12[_]? = _; rw [hLe12]; rfl) rfl kz) ?_
        show own_Win p e below s _ _ _ (T609.setTop (mkF m 1277 Le12 [(.ref a4), (.ref a3), (.int (Int32.ofNat (own_w r0.toInt r1.toInt s0.toInt s1.toInt))), (.int ev), (.int (XT.ushr (sv + ev) (1 : Int32))), (.int sv), (.int (10 : Int32)), (.ref t), (.int (own_seen σ 10))]))
        refine own_st (fun _ kz => XS.iload X609.here hx rfl (v := sp) (hb hby at_1277) (by show Le12[_]? = _; rw [hLe12]; rfl) kz) ?_
        show own_Win p e below s _ _ _ (T609.setTop (mkF m 1279 Le12 [(.int sp), (.ref a4), (.ref a3), (.int (Int32.ofNat (own_w r0.toInt r1.toInt s0.toInt s1.toInt))), (.int ev), (.int (XT.ushr (sv + ev) (1 : Int32))), (.int sv), (.int (10 : Int32)), (.ref t), (.int (own_seen σ 10))]))
        refine own_callS X609 hx hZ hown (y := yQ) (hw _ (List.mem_of_getElem? (i := 45) rfl)) (hw _ (List.mem_of_getElem? (i := 46) rfl)) (hw _ (List.mem_of_getElem? (i := 4) rfl)) (hw _ (List.mem_of_getElem? (i := 47) rfl)) (by decide) e609 (rmQ l Z a0 hw [] t a1 a2 aF aT aL aH a3 a4 wv gv (10 : Int32) sv (XT.ushr (sv + ev) (1 : Int32)) ev (Int32.ofNat (own_w r0.toInt r1.toInt s0.toInt s1.toInt)) sp 10 sN ((sN + eN) / 2) eN (own_w r0.toInt r1.toInt s0.toInt s1.toInt) σ O V h n0 Z9 FS FI FQ FA FB rfl (by decide) hsN hm (by omega) heN ha w2 hok.1 hD hsp (hid 10) hpt) (by decide) (W := 1) (by decide) rfl (by rw [hml]; show Le12.size = _; rw [hLe12]; rfl) (argsL := [(.ref t), (.int (10 : Int32)), (.int sv), (.int (XT.ushr (sv + ev) (1 : Int32))), (.int ev), (.int (Int32.ofNat (own_w r0.toInt r1.toInt s0.toInt s1.toInt))), (.ref a3), (.ref a4), (.int sp)]) (rest := [(.int (own_seen σ 10))]) (lenOf pdQ rfl) rfl (Nat.le_of_eq rfl) (hb hby at_1279) rfl hC hS ?_
        intro T610 v610 L610 X610 hQ610
        obtain ⟨rfl, M610, e610⟩ := hQ610
        have N610 := Fr.app N609 M610
        show own_Win p e below s _ _ _ (T610.setTop (mkF m 1282 Le12 [(.int ((1 : Int32) <<< (own_I σ 10 &&& 31))), (.int (own_seen σ 10))]))
        refine own_st (fun _ kz => XT.ior X610.here hx rfl (hb hby at_1282) rfl kz) ?_
        show own_Win p e below s _ _ _ (T610.setTop (mkF m 1283 Le12 [(.int ((own_seen σ 10) ||| ((1 : Int32) <<< (own_I σ 10 &&& 31))))]))
        show own_Win p e below s _ _ _ (T610.setTop (mkF m 1283 Le12 [(.int (own_seen σ 11))]))
        obtain ⟨Le13, hLe13⟩ : ∃ L : Array Slot, L = #[.val (.long p1), .second, .val (.long p2), .second, .val (.int p3), .val (.int p4), .val (.int p5), .val (.int r0), .val (.int r1), .val (.int s0), .val (.int s1), .val (.int sv), .val (.int ev), .val (.int nw), .val (.int wv), .val (.ref a1), .val (.ref a2), .val (.ref a3), .val (.ref a4), .val (.double (FP.i2d p3)), .second, .val (.double (FP.i2d p4)), .second, .val (.double (FP.l2d ((p3.toInt64) + (r0.toInt64)))), .second, .val (.double (FP.l2d ((p4.toInt64) + (r1.toInt64)))), .second, .val (.ref a201), .val (.ref a202), .val (.ref a203), .val (.ref t), .val (.int (0 : Int32)), .val (.int sp), .val (.int (XT.ushr (sv + ev) (1 : Int32))), .val (.int (Int32.ofNat (own_w r0.toInt r1.toInt s0.toInt s1.toInt))), .val (.int (1 : Int32)), .val (.int (own_seen σ 11))] := ⟨_, rfl⟩
        refine own_st (fun _ kz => XS.istore X610.here hx rfl (hb hby at_1283) rfl (l' := Le13) (by show storeLocals Le12 _ _ = _; rw [hLe12, hLe13]; rfl) kz) ?_
        show own_Win p e below s _ _ _ (T610.setTop (mkF m 1285 Le13 []))
        refine own_st (fun _ kz => XS.iload X610.here hx rfl (v := (own_seen σ 11)) (hb hby at_1285) (by show Le13[_]? = _; rw [hLe13]; rfl) kz) ?_
        show own_Win p e below s _ _ _ (T610.setTop (mkF m 1287 Le13 [(.int (own_seen σ 11))]))
        refine own_st (fun _ kz => XS.aload X610.here hx rfl (v := (.ref t)) (hb hby at_1287) (by show Le13[_]? = _; rw [hLe13]; rfl) rfl kz) ?_
        show own_Win p e below s _ _ _ (T610.setTop (mkF m 1289 Le13 [(.ref t), (.int (own_seen σ 11))]))
        refine own_st (fun _ kz => XS.bipush X610.here hx rfl (hb hby at_1289) kz) ?_
        show own_Win p e below s _ _ _ (T610.setTop (mkF m 1291 Le13 [(.int (11 : Int32)), (.ref t), (.int (own_seen σ 11))]))
        refine own_st (fun _ kz => XS.iload X610.here hx rfl (v := sv) (hb hby at_1291) (by show Le13[_]? = _; rw [hLe13]; rfl) kz) ?_
        show own_Win p e below s _ _ _ (T610.setTop (mkF m 1293 Le13 [(.int sv), (.int (11 : Int32)), (.ref t), (.int (own_seen σ 11))]))
        refine own_st (fun _ kz => XS.iload X610.here hx rfl (v := (XT.ushr (sv + ev) (1 : Int32))) (hb hby at_1293) (by show Le13[_]? = _; rw [hLe13]; rfl) kz) ?_
        show own_Win p e below s _ _ _ (T610.setTop (mkF m 1295 Le13 [(.int (XT.ushr (sv + ev) (1 : Int32))), (.int sv), (.int (11 : Int32)), (.ref t), (.int (own_seen σ 11))]))
        refine own_st (fun _ kz => XS.iload X610.here hx rfl (v := ev) (hb hby at_1295) (by show Le13[_]? = _; rw [hLe13]; rfl) kz) ?_
        show own_Win p e below s _ _ _ (T610.setTop (mkF m 1297 Le13 [(.int ev), (.int (XT.ushr (sv + ev) (1 : Int32))), (.int sv), (.int (11 : Int32)), (.ref t), (.int (own_seen σ 11))]))
        refine own_st (fun _ kz => XS.iload X610.here hx rfl (v := (Int32.ofNat (own_w r0.toInt r1.toInt s0.toInt s1.toInt))) (hb hby at_1297) (by show Le13[_]? = _; rw [hLe13]; rfl) kz) ?_
        show own_Win p e below s _ _ _ (T610.setTop (mkF m 1299 Le13 [(.int (Int32.ofNat (own_w r0.toInt r1.toInt s0.toInt s1.toInt))), (.int ev), (.int (XT.ushr (sv + ev) (1 : Int32))), (.int sv), (.int (11 : Int32)), (.ref t), (.int (own_seen σ 11))]))
        refine own_st (fun _ kz => XS.aload X610.here hx rfl (v := (.ref a3)) (hb hby at_1299) (by show Le13[_]? = _; rw [hLe13]; rfl) rfl kz) ?_
        show own_Win p e below s _ _ _ (T610.setTop (mkF m 1301 Le13 [(.ref a3), (.int (Int32.ofNat (own_w r0.toInt r1.toInt s0.toInt s1.toInt))), (.int ev), (.int (XT.ushr (sv + ev) (1 : Int32))), (.int sv), (.int (11 : Int32)), (.ref t), (.int (own_seen σ 11))]))
        refine own_st (fun _ kz => XS.aload X610.here hx rfl (v := (.ref a4)) (hb hby at_1301) (by show Le13[_]? = _; rw [hLe13]; rfl) rfl kz) ?_
        show own_Win p e below s _ _ _ (T610.setTop (mkF m 1303 Le13 [(.ref a4), (.ref a3), (.int (Int32.ofNat (own_w r0.toInt r1.toInt s0.toInt s1.toInt))), (.int ev), (.int (XT.ushr (sv + ev) (1 : Int32))), (.int sv), (.int (11 : Int32)), (.ref t), (.int (own_seen σ 11))]))
        refine own_st (fun _ kz => XS.iload X610.here hx rfl (v := sp) (hb hby at_1303) (by show Le13[_]? = _; rw [hLe13]; rfl) kz) ?_
        show own_Win p e below s _ _ _ (T610.setTop (mkF m 1305 Le13 [(.int sp), (.ref a4), (.ref a3), (.int (Int32.ofNat (own_w r0.toInt r1.toInt s0.toInt s1.toInt))), (.int ev), (.int (XT.ushr (sv + ev) (1 : Int32))), (.int sv), (.int (11 : Int32)), (.ref t), (.int (own_seen σ 11))]))
        refine own_callS X610 hx hZ hown (y := yQ) (hw _ (List.mem_of_getElem? (i := 45) rfl)) (hw _ (List.mem_of_getElem? (i := 46) rfl)) (hw _ (List.mem_of_getElem? (i := 4) rfl)) (hw _ (List.mem_of_getElem? (i := 47) rfl)) (by decide) e610 (rmQ l Z a0 hw [] t a1 a2 aF aT aL aH a3 a4 wv gv (11 : Int32) sv (XT.ushr (sv + ev) (1 : Int32)) ev (Int32.ofNat (own_w r0.toInt r1.toInt s0.toInt s1.toInt)) sp 11 sN ((sN + eN) / 2) eN (own_w r0.toInt r1.toInt s0.toInt s1.toInt) σ O V h n0 Z9 FS FI FQ FA FB rfl (by decide) hsN hm (by omega) heN ha w2 hok.1 hD hsp (hid 11) hpt) (by decide) (W := 1) (by decide) rfl (by rw [hml]; show Le13.size = _; rw [hLe13]; rfl) (argsL := [(.ref t), (.int (11 : Int32)), (.int sv), (.int (XT.ushr (sv + ev) (1 : Int32))), (.int ev), (.int (Int32.ofNat (own_w r0.toInt r1.toInt s0.toInt s1.toInt))), (.ref a3), (.ref a4), (.int sp)]) (rest := [(.int (own_seen σ 11))]) (lenOf pdQ rfl) rfl (Nat.le_of_eq rfl) (hb hby at_1305) rfl hC hS ?_
        intro T611 v611 L611 X611 hQ611
        obtain ⟨rfl, M611, e611⟩ := hQ611
        have N611 := Fr.app N610 M611
        show own_Win p e below s _ _ _ (T611.setTop (mkF m 1308 Le13 [(.int ((1 : Int32) <<< (own_I σ 11 &&& 31))), (.int (own_seen σ 11))]))
        refine own_st (fun _ kz => XT.ior X611.here hx rfl (hb hby at_1308) rfl kz) ?_
        show own_Win p e below s _ _ _ (T611.setTop (mkF m 1309 Le13 [(.int ((own_seen σ 11) ||| ((1 : Int32) <<< (own_I σ 11 &&& 31))))]))
        show own_Win p e below s _ _ _ (T611.setTop (mkF m 1309 Le13 [(.int (own_seen σ 12))]))
        obtain ⟨Le14, hLe14⟩ : ∃ L : Array Slot, L = #[.val (.long p1), .second, .val (.long p2), .second, .val (.int p3), .val (.int p4), .val (.int p5), .val (.int r0), .val (.int r1), .val (.int s0), .val (.int s1), .val (.int sv), .val (.int ev), .val (.int nw), .val (.int wv), .val (.ref a1), .val (.ref a2), .val (.ref a3), .val (.ref a4), .val (.double (FP.i2d p3)), .second, .val (.double (FP.i2d p4)), .second, .val (.double (FP.l2d ((p3.toInt64) + (r0.toInt64)))), .second, .val (.double (FP.l2d ((p4.toInt64) + (r1.toInt64)))), .second, .val (.ref a201), .val (.ref a202), .val (.ref a203), .val (.ref t), .val (.int (0 : Int32)), .val (.int sp), .val (.int (XT.ushr (sv + ev) (1 : Int32))), .val (.int (Int32.ofNat (own_w r0.toInt r1.toInt s0.toInt s1.toInt))), .val (.int (1 : Int32)), .val (.int (own_seen σ 12))] := ⟨_, rfl⟩
        refine own_st (fun _ kz => XS.istore X611.here hx rfl (hb hby at_1309) rfl (l' := Le14) (by show storeLocals Le13 _ _ = _; rw [hLe13, hLe14]; rfl) kz) ?_
        show own_Win p e below s _ _ _ (T611.setTop (mkF m 1311 Le14 []))
        refine own_st (fun _ kz => XS.iload X611.here hx rfl (v := (own_seen σ 12)) (hb hby at_1311) (by show Le14[_]? = _; rw [hLe14]; rfl) kz) ?_
        show own_Win p e below s _ _ _ (T611.setTop (mkF m 1313 Le14 [(.int (own_seen σ 12))]))
        refine own_st (fun _ kz => XS.aload X611.here hx rfl (v := (.ref t)) (hb hby at_1313) (by show Le14[_]? = _; rw [hLe14]; rfl) rfl kz) ?_
        show own_Win p e below s _ _ _ (T611.setTop (mkF m 1315 Le14 [(.ref t), (.int (own_seen σ 12))]))
        refine own_st (fun _ kz => XS.bipush X611.here hx rfl (hb hby at_1315) kz) ?_
        show own_Win p e below s _ _ _ (T611.setTop (mkF m 1317 Le14 [(.int (12 : Int32)), (.ref t), (.int (own_seen σ 12))]))
        refine own_st (fun _ kz => XS.iload X611.here hx rfl (v := sv) (hb hby at_1317) (by show Le14[_]? = _; rw [hLe14]; rfl) kz) ?_
        show own_Win p e below s _ _ _ (T611.setTop (mkF m 1319 Le14 [(.int sv), (.int (12 : Int32)), (.ref t), (.int (own_seen σ 12))]))
        refine own_st (fun _ kz => XS.iload X611.here hx rfl (v := (XT.ushr (sv + ev) (1 : Int32))) (hb hby at_1319) (by show Le14[_]? = _; rw [hLe14]; rfl) kz) ?_
        show own_Win p e below s _ _ _ (T611.setTop (mkF m 1321 Le14 [(.int (XT.ushr (sv + ev) (1 : Int32))), (.int sv), (.int (12 : Int32)), (.ref t), (.int (own_seen σ 12))]))
        refine own_st (fun _ kz => XS.iload X611.here hx rfl (v := ev) (hb hby at_1321) (by show Le14[_]? = _; rw [hLe14]; rfl) kz) ?_
        show own_Win p e below s _ _ _ (T611.setTop (mkF m 1323 Le14 [(.int ev), (.int (XT.ushr (sv + ev) (1 : Int32))), (.int sv), (.int (12 : Int32)), (.ref t), (.int (own_seen σ 12))]))
        refine own_st (fun _ kz => XS.iload X611.here hx rfl (v := (Int32.ofNat (own_w r0.toInt r1.toInt s0.toInt s1.toInt))) (hb hby at_1323) (by show Le14[_]? = _; rw [hLe14]; rfl) kz) ?_
        show own_Win p e below s _ _ _ (T611.setTop (mkF m 1325 Le14 [(.int (Int32.ofNat (own_w r0.toInt r1.toInt s0.toInt s1.toInt))), (.int ev), (.int (XT.ushr (sv + ev) (1 : Int32))), (.int sv), (.int (12 : Int32)), (.ref t), (.int (own_seen σ 12))]))
        refine own_st (fun _ kz => XS.aload X611.here hx rfl (v := (.ref a3)) (hb hby at_1325) (by show Le14[_]? = _; rw [hLe14]; rfl) rfl kz) ?_
        show own_Win p e below s _ _ _ (T611.setTop (mkF m 1327 Le14 [(.ref a3), (.int (Int32.ofNat (own_w r0.toInt r1.toInt s0.toInt s1.toInt))), (.int ev), (.int (XT.ushr (sv + ev) (1 : Int32))), (.int sv), (.int (12 : Int32)), (.ref t), (.int (own_seen σ 12))]))
        refine own_st (fun _ kz => XS.aload X611.here hx rfl (v := (.ref a4)) (hb hby at_1327) (by show Le14[_]? = _; rw [hLe14]; rfl) rfl kz) ?_
        show own_Win p e below s _ _ _ (T611.setTop (mkF m 1329 Le14 [(.ref a4), (.ref a3), (.int (Int32.ofNat (own_w r0.toInt r1.toInt s0.toInt s1.toInt))), (.int ev), (.int (XT.ushr (sv + ev) (1 : Int32))), (.int sv), (.int (12 : Int32)), (.ref t), (.int (own_seen σ 12))]))
        refine own_st (fun _ kz => XS.iload X611.here hx rfl (v := sp) (hb hby at_1329) (by show Le14[_]? = _; rw [hLe14]; rfl) kz) ?_
        show own_Win p e below s _ _ _ (T611.setTop (mkF m 1331 Le14 [(.int sp), (.ref a4), (.ref a3), (.int (Int32.ofNat (own_w r0.toInt r1.toInt s0.toInt s1.toInt))), (.int ev), (.int (XT.ushr (sv + ev) (1 : Int32))), (.int sv), (.int (12 : Int32)), (.ref t), (.int (own_seen σ 12))]))
        refine own_callS X611 hx hZ hown (y := yQ) (hw _ (List.mem_of_getElem? (i := 45) rfl)) (hw _ (List.mem_of_getElem? (i := 46) rfl)) (hw _ (List.mem_of_getElem? (i := 4) rfl)) (hw _ (List.mem_of_getElem? (i := 47) rfl)) (by decide) e611 (rmQ l Z a0 hw [] t a1 a2 aF aT aL aH a3 a4 wv gv (12 : Int32) sv (XT.ushr (sv + ev) (1 : Int32)) ev (Int32.ofNat (own_w r0.toInt r1.toInt s0.toInt s1.toInt)) sp 12 sN ((sN + eN) / 2) eN (own_w r0.toInt r1.toInt s0.toInt s1.toInt) σ O V h n0 Z9 FS FI FQ FA FB rfl (by decide) hsN hm (by omega) heN ha w2 hok.1 hD hsp (hid 12) hpt) (by decide) (W := 1) (by decide) rfl (by rw [hml]; show Le14.size = _; rw [hLe14]; rfl) (argsL := [(.ref t), (.int (12 : Int32)), (.int sv), (.int (XT.ushr (sv + ev) (1 : Int32))), (.int ev), (.int (Int32.ofNat (own_w r0.toInt r1.toInt s0.toInt s1.toInt))), (.ref a3), (.ref a4), (.int sp)]) (rest := [(.int (own_seen σ 12))]) (lenOf pdQ rfl) rfl (Nat.le_of_eq rfl) (hb hby at_1331) rfl hC hS ?_
        intro T612 v612 L612 X612 hQ612
        obtain ⟨rfl, M612, e612⟩ := hQ612
        have N612 := Fr.app N611 M612
        show own_Win p e below s _ _ _ (T612.setTop (mkF m 1334 Le14 [(.int ((1 : Int32) <<< (own_I σ 12 &&& 31))), (.int (own_seen σ 12))]))
        refine own_st (fun _ kz => XT.ior X612.here hx rfl (hb hby at_1334) rfl kz) ?_
        show own_Win p e below s _ _ _ (T612.setTop (mkF m 1335 Le14 [(.int ((own_seen σ 12) ||| ((1 : Int32) <<< (own_I σ 12 &&& 31))))]))
        show own_Win p e below s _ _ _ (T612.setTop (mkF m 1335 Le14 [(.int (own_seen σ 13))]))
        obtain ⟨Le15, hLe15⟩ : ∃ L : Array Slot, L = #[.val (.long p1), .second, .val (.long p2), .second, .val (.int p3), .val (.int p4), .val (.int p5), .val (.int r0), .val (.int r1), .val (.int s0), .val (.int s1), .val (.int sv), .val (.int ev), .val (.int nw), .val (.int wv), .val (.ref a1), .val (.ref a2), .val (.ref a3), .val (.ref a4), .val (.double (FP.i2d p3)), .second, .val (.double (FP.i2d p4)), .second, .val (.double (FP.l2d ((p3.toInt64) + (r0.toInt64)))), .second, .val (.double (FP.l2d ((p4.toInt64) + (r1.toInt64)))), .second, .val (.ref a201), .val (.ref a202), .val (.ref a203), .val (.ref t), .val (.int (0 : Int32)), .val (.int sp), .val (.int (XT.ushr (sv + ev) (1 : Int32))), .val (.int (Int32.ofNat (own_w r0.toInt r1.toInt s0.toInt s1.toInt))), .val (.int (1 : Int32)), .val (.int (own_seen σ 13))] := ⟨_, rfl⟩
        refine own_st (fun _ kz => XS.istore X612.here hx rfl (hb hby at_1335) rfl (l' := Le15) (by show storeLocals Le14 _ _ = _; rw [hLe14, hLe15]; rfl) kz) ?_
        show own_Win p e below s _ _ _ (T612.setTop (mkF m 1337 Le15 []))
        refine own_st (fun _ kz => XS.iload X612.here hx rfl (v := (own_seen σ 13)) (hb hby at_1337) (by show Le15[_]? = _; rw [hLe15]; rfl) kz) ?_
        show own_Win p e below s _ _ _ (T612.setTop (mkF m 1339 Le15 [(.int (own_seen σ 13))]))
        refine own_st (fun _ kz => XS.aload X612.here hx rfl (v := (.ref t)) (hb hby at_1339) (by show Le15[_]? = _; rw [hLe15]; rfl) rfl kz) ?_
        show own_Win p e below s _ _ _ (T612.setTop (mkF m 1341 Le15 [(.ref t), (.int (own_seen σ 13))]))
        refine own_st (fun _ kz => XS.bipush X612.here hx rfl (hb hby at_1341) kz) ?_
        show own_Win p e below s _ _ _ (T612.setTop (mkF m 1343 Le15 [(.int (13 : Int32)), (.ref t), (.int (own_seen σ 13))]))
        refine own_st (fun _ kz => XS.iload X612.here hx rfl (v := sv) (hb hby at_1343) (by show Le15[_]? = _; rw [hLe15]; rfl) kz) ?_
        show own_Win p e below s _ _ _ (T612.setTop (mkF m 1345 Le15 [(.int sv), (.int (13 : Int32)), (.ref t), (.int (own_seen σ 13))]))
        refine own_st (fun _ kz => XS.iload X612.here hx rfl (v := (XT.ushr (sv + ev) (1 : Int32))) (hb hby at_1345) (by show Le15[_]? = _; rw [hLe15]; rfl) kz) ?_
        show own_Win p e below s _ _ _ (T612.setTop (mkF m 1347 Le15 [(.int (XT.ushr (sv + ev) (1 : Int32))), (.int sv), (.int (13 : Int32)), (.ref t), (.int (own_seen σ 13))]))
        refine own_st (fun _ kz => XS.iload X612.here hx rfl (v := ev) (hb hby at_1347) (by show Le15[_]? = _; rw [hLe15]; rfl) kz) ?_
        show own_Win p e below s _ _ _ (T612.setTop (mkF m 1349 Le15 [(.int ev), (.int (XT.ushr (sv + ev) (1 : Int32))), (.int sv), (.int (13 : Int32)), (.ref t), (.int (own_seen σ 13))]))
        refine own_st (fun _ kz => XS.iload X612.here hx rfl (v := (Int32.ofNat (own_w r0.toInt r1.toInt s0.toInt s1.toInt))) (hb hby at_1349) (by show Le15[_]? = _; rw [hLe15]; rfl) kz) ?_
        show own_Win p e below s _ _ _ (T612.setTop (mkF m 1351 Le15 [(.int (Int32.ofNat (own_w r0.toInt r1.toInt s0.toInt s1.toInt))), (.int ev), (.int (XT.ushr (sv + ev) (1 : Int32))), (.int sv), (.int (13 : Int32)), (.ref t), (.int (own_seen σ 13))]))
        refine own_st (fun _ kz => XS.aload X612.here hx rfl (v := (.ref a3)) (hb hby at_1351) (by show Le15[_]? = _; rw [hLe15]; rfl) rfl kz) ?_
        show own_Win p e below s _ _ _ (T612.setTop (mkF m 1353 Le15 [(.ref a3), (.int (Int32.ofNat (own_w r0.toInt r1.toInt s0.toInt s1.toInt))), (.int ev), (.int (XT.ushr (sv + ev) (1 : Int32))), (.int sv), (.int (13 : Int32)), (.ref t), (.int (own_seen σ 13))]))
        refine own_st (fun _ kz => XS.aload X612.here hx rfl (v := (.ref a4)) (hb hby at_1353) (by show Le15[_]? = _; rw [hLe15]; rfl) rfl kz) ?_
        show own_Win p e below s _ _ _ (T612.setTop (mkF m 1355 Le15 [(.ref a4), (.ref a3), (.int (Int32.ofNat (own_w r0.toInt r1.toInt s0.toInt s1.toInt))), (.int ev), (.int (XT.ushr (sv + ev) (1 : Int32))), (.int sv), (.int (13 : Int32)), (.ref t), (.int (own_seen σ 13))]))
        refine own_st (fun _ kz => XS.iload X612.here hx rfl (v := sp) (hb hby at_1355) (by show Le15[_]? = _; rw [hLe15]; rfl) kz) ?_
        show own_Win p e below s _ _ _ (T612.setTop (mkF m 1357 Le15 [(.int sp), (.ref a4), (.ref a3), (.int (Int32.ofNat (own_w r0.toInt r1.toInt s0.toInt s1.toInt))), (.int ev), (.int (XT.ushr (sv + ev) (1 : Int32))), (.int sv), (.int (13 : Int32)), (.ref t), (.int (own_seen σ 13))]))
        refine own_callS X612 hx hZ hown (y := yQ) (hw _ (List.mem_of_getElem? (i := 45) rfl)) (hw _ (List.mem_of_getElem? (i := 46) rfl)) (hw _ (List.mem_of_getElem? (i := 4) rfl)) (hw _ (List.mem_of_getElem? (i := 47) rfl)) (by decide) e612 (rmQ l Z a0 hw [] t a1 a2 aF aT aL aH a3 a4 wv gv (13 : Int32) sv (XT.ushr (sv + ev) (1 : Int32)) ev (Int32.ofNat (own_w r0.toInt r1.toInt s0.toInt s1.toInt)) sp 13 sN ((sN + eN) / 2) eN (own_w r0.toInt r1.toInt s0.toInt s1.toInt) σ O V h n0 Z9 FS FI FQ FA FB rfl (by decide) hsN hm (by omega) heN ha w2 hok.1 hD hsp (hid 13) hpt) (by decide) (W := 1) (by decide) rfl (by rw [hml]; show Le15.size = _; rw [hLe15]; rfl) (argsL := [(.ref t), (.int (13 : Int32)), (.int sv), (.int (XT.ushr (sv + ev) (1 : Int32))), (.int ev), (.int (Int32.ofNat (own_w r0.toInt r1.toInt s0.toInt s1.toInt))), (.ref a3), (.ref a4), (.int sp)]) (rest := [(.int (own_seen σ 13))]) (lenOf pdQ rfl) rfl (Nat.le_of_eq rfl) (hb hby at_1357) rfl hC hS ?_
        intro T613 v613 L613 X613 hQ613
        obtain ⟨rfl, M613, e613⟩ := hQ613
        have N613 := Fr.app N612 M613
        show own_Win p e below s _ _ _ (T613.setTop (mkF m 1360 Le15 [(.int ((1 : Int32) <<< (own_I σ 13 &&& 31))), (.int (own_seen σ 13))]))
        refine own_st (fun _ kz => XT.ior X613.here hx rfl (hb hby at_1360) rfl kz) ?_
        show own_Win p e below s _ _ _ (T613.setTop (mkF m 1361 Le15 [(.int ((own_seen σ 13) ||| ((1 : Int32) <<< (own_I σ 13 &&& 31))))]))
        show own_Win p e below s _ _ _ (T613.setTop (mkF m 1361 Le15 [(.int (own_seen σ 14))]))
        obtain ⟨Le16, hLe16⟩ : ∃ L : Array Slot, L = #[.val (.long p1), .second, .val (.long p2), .second, .val (.int p3), .val (.int p4), .val (.int p5), .val (.int r0), .val (.int r1), .val (.int s0), .val (.int s1), .val (.int sv), .val (.int ev), .val (.int nw), .val (.int wv), .val (.ref a1), .val (.ref a2), .val (.ref a3), .val (.ref a4), .val (.double (FP.i2d p3)), .second, .val (.double (FP.i2d p4)), .second, .val (.double (FP.l2d ((p3.toInt64) + (r0.toInt64)))), .second, .val (.double (FP.l2d ((p4.toInt64) + (r1.toInt64)))), .second, .val (.ref a201), .val (.ref a202), .val (.ref a203), .val (.ref t), .val (.int (0 : Int32)), .val (.int sp), .val (.int (XT.ushr (sv + ev) (1 : Int32))), .val (.int (Int32.ofNat (own_w r0.toInt r1.toInt s0.toInt s1.toInt))), .val (.int (1 : Int32)), .val (.int (own_seen σ 14))] := ⟨_, rfl⟩
        refine own_st (fun _ kz => XS.istore X613.here hx rfl (hb hby at_1361) rfl (l' := Le16) (by show storeLocals Le15 _ _ = _; rw [hLe15, hLe16]; rfl) kz) ?_
        show own_Win p e below s _ _ _ (T613.setTop (mkF m 1363 Le16 []))
        refine own_st (fun _ kz => XS.iload X613.here hx rfl (v := (own_seen σ 14)) (hb hby at_1363) (by show Le16[_]? = _; rw [hLe16]; rfl) kz) ?_
        show own_Win p e below s _ _ _ (T613.setTop (mkF m 1365 Le16 [(.int (own_seen σ 14))]))
        refine own_st (fun _ kz => XS.aload X613.here hx rfl (v := (.ref t)) (hb hby at_1365) (by show Le16[_]? = _; rw [hLe16]; rfl) rfl kz) ?_
        show own_Win p e below s _ _ _ (T613.setTop (mkF m 1367 Le16 [(.ref t), (.int (own_seen σ 14))]))
        refine own_st (fun _ kz => XS.bipush X613.here hx rfl (hb hby at_1367) kz) ?_
        show own_Win p e below s _ _ _ (T613.setTop (mkF m 1369 Le16 [(.int (14 : Int32)), (.ref t), (.int (own_seen σ 14))]))
        refine own_st (fun _ kz => XS.iload X613.here hx rfl (v := sv) (hb hby at_1369) (by show Le16[_]? = _; rw [hLe16]; rfl) kz) ?_
        show own_Win p e below s _ _ _ (T613.setTop (mkF m 1371 Le16 [(.int sv), (.int (14 : Int32)), (.ref t), (.int (own_seen σ 14))]))
        refine own_st (fun _ kz => XS.iload X613.here hx rfl (v := (XT.ushr (sv + ev) (1 : Int32))) (hb hby at_1371) (by show Le16[_]? = _; rw [hLe16]; rfl) kz) ?_
        show own_Win p e below s _ _ _ (T613.setTop (mkF m 1373 Le16 [(.int (XT.ushr (sv + ev) (1 : Int32))), (.int sv), (.int (14 : Int32)), (.ref t), (.int (own_seen σ 14))]))
        refine own_st (fun _ kz => XS.iload X613.here hx rfl (v := ev) (hb hby at_1373) (by show Le16[_]? = _; rw [hLe16]; rfl) kz) ?_
        show own_Win p e below s _ _ _ (T613.setTop (mkF m 1375 Le16 [(.int ev), (.int (XT.ushr (sv + ev) (1 : Int32))), (.int sv), (.int (14 : Int32)), (.ref t), (.int (own_seen σ 14))]))
        refine own_st (fun _ kz => XS.iload X613.here hx rfl (v := (Int32.ofNat (own_w r0.toInt r1.toInt s0.toInt s1.toInt))) (hb hby at_1375) (by show Le16[_]? = _; rw [hLe16]; rfl) kz) ?_
        show own_Win p e below s _ _ _ (T613.setTop (mkF m 1377 Le16 [(.int (Int32.ofNat (own_w r0.toInt r1.toInt s0.toInt s1.toInt))), (.int ev), (.int (XT.ushr (sv + ev) (1 : Int32))), (.int sv), (.int (14 : Int32)), (.ref t), (.int (own_seen σ 14))]))
        refine own_st (fun _ kz => XS.aload X613.here hx rfl (v := (.ref a3)) (hb hby at_1377) (by show Le16[_]? = _; rw [hLe16]; rfl) rfl kz) ?_
        show own_Win p e below s _ _ _ (T613.setTop (mkF m 1379 Le16 [(.ref a3), (.int (Int32.ofNat (own_w r0.toInt r1.toInt s0.toInt s1.toInt))), (.int ev), (.int (XT.ushr (sv + ev) (1 : Int32))), (.int sv), (.int (14 : Int32)), (.ref t), (.int (own_seen σ 14))]))
        refine own_st (fun _ kz => XS.aload X613.here hx rfl (v := (.ref a4)) (hb hby at_1379) (by show Le16[_]? = _; rw [hLe16]; rfl) rfl kz) ?_
        show own_Win p e below s _ _ _ (T613.setTop (mkF m 1381 Le16 [(.ref a4), (.ref a3), (.int (Int32.ofNat (own_w r0.toInt r1.toInt s0.toInt s1.toInt))), (.int ev), (.int (XT.ushr (sv + ev) (1 : Int32))), (.int sv), (.int (14 : Int32)), (.ref t), (.int (own_seen σ 14))]))
        refine own_st (fun _ kz => XS.iload X613.here hx rfl (v := sp) (hb hby at_1381) (by show Le16[_]? = _; rw [hLe16]; rfl) kz) ?_
        show own_Win p e below s _ _ _ (T613.setTop (mkF m 1383 Le16 [(.int sp), (.ref a4), (.ref a3), (.int (Int32.ofNat (own_w r0.toInt r1.toInt s0.toInt s1.toInt))), (.int ev), (.int (XT.ushr (sv + ev) (1 : Int32))), (.int sv), (.int (14 : Int32)), (.ref t), (.int (own_seen σ 14))]))
        refine own_callS X613 hx hZ hown (y := yQ) (hw _ (List.mem_of_getElem? (i := 45) rfl)) (hw _ (List.mem_of_getElem? (i := 46) rfl)) (hw _ (List.mem_of_getElem? (i := 4) rfl)) (hw _ (List.mem_of_getElem? (i := 47) rfl)) (by decide) e613 (rmQ l Z a0 hw [] t a1 a2 aF aT aL aH a3 a4 wv gv (14 : Int32) sv (XT.ushr (sv + ev) (1 : Int32)) ev (Int32.ofNat (own_w r0.toInt r1.toInt s0.toInt s1.toInt)) sp 14 sN ((sN + eN) / 2) eN (own_w r0.toInt r1.toInt s0.toInt s1.toInt) σ O V h n0 Z9 FS FI FQ FA FB rfl (by decide) hsN hm (by omega) heN ha w2 hok.1 hD hsp (hid 14) hpt) (by decide) (W := 1) (by decide) rfl (by rw [hml]; show Le16.size = _; rw [hLe16]; rfl) (argsL := [(.ref t), (.int (14 : Int32)), (.int sv), (.int (XT.ushr (sv + ev) (1 : Int32))), (.int ev), (.int (Int32.ofNat (own_w r0.toInt r1.toInt s0.toInt s1.toInt))), (.ref a3), (.ref a4), (.int sp)]) (rest := [(.int (own_seen σ 14))]) (lenOf pdQ rfl) rfl (Nat.le_of_eq rfl) (hb hby at_1383) rfl hC hS ?_
        intro T614 v614 L614 X614 hQ614
        obtain ⟨rfl, M614, e614⟩ := hQ614
        have N614 := Fr.app N613 M614
        show own_Win p e below s _ _ _ (T614.setTop (mkF m 1386 Le16 [(.int ((1 : Int32) <<< (own_I σ 14 &&& 31))), (.int (own_seen σ 14))]))
        refine own_st (fun _ kz => XT.ior X614.here hx rfl (hb hby at_1386) rfl kz) ?_
        show own_Win p e below s _ _ _ (T614.setTop (mkF m 1387 Le16 [(.int ((own_seen σ 14) ||| ((1 : Int32) <<< (own_I σ 14 &&& 31))))]))
        show own_Win p e below s _ _ _ (T614.setTop (mkF m 1387 Le16 [(.int (own_seen σ 15))]))
        obtain ⟨Le17, hLe17⟩ : ∃ L : Array Slot, L = #[.val (.long p1), .second, .val (.long p2), .second, .val (.int p3), .val (.int p4), .val (.int p5), .val (.int r0), .val (.int r1), .val (.int s0), .val (.int s1), .val (.int sv), .val (.int ev), .val (.int nw), .val (.int wv), .val (.ref a1), .val (.ref a2), .val (.ref a3), .val (.ref a4), .val (.double (FP.i2d p3)), .second, .val (.double (FP.i2d p4)), .second, .val (.double (FP.l2d ((p3.toInt64) + (r0.toInt64)))), .second, .val (.double (FP.l2d ((p4.toInt64) + (r1.toInt64)))), .second, .val (.ref a201), .val (.ref a202), .val (.ref a203), .val (.ref t), .val (.int (0 : Int32)), .val (.int sp), .val (.int (XT.ushr (sv + ev) (1 : Int32))), .val (.int (Int32.ofNat (own_w r0.toInt r1.toInt s0.toInt s1.toInt))), .val (.int (1 : Int32)), .val (.int (own_seen σ 15))] := ⟨_, rfl⟩
        refine own_st (fun _ kz => XS.istore X614.here hx rfl (hb hby at_1387) rfl (l' := Le17) (by show storeLocals Le16 _ _ = _; rw [hLe16, hLe17]; rfl) kz) ?_
        show own_Win p e below s _ _ _ (T614.setTop (mkF m 1389 Le17 []))
        refine own_st (fun _ kz => XS.iload X614.here hx rfl (v := (own_seen σ 15)) (hb hby at_1389) (by show Le17[_]? = _; rw [hLe17]; rfl) kz) ?_
        show own_Win p e below s _ _ _ (T614.setTop (mkF m 1391 Le17 [(.int (own_seen σ 15))]))
        refine own_st (fun _ kz => XS.aload X614.here hx rfl (v := (.ref t)) (hb hby at_1391) (by show Le17[_]? = _; rw [hLe17]; rfl) rfl kz) ?_
        show own_Win p e below s _ _ _ (T614.setTop (mkF m 1393 Le17 [(.ref t), (.int (own_seen σ 15))]))
        refine own_st (fun _ kz => XS.bipush X614.here hx rfl (hb hby at_1393) kz) ?_
        show own_Win p e below s _ _ _ (T614.setTop (mkF m 1395 Le17 [(.int (15 : Int32)), (.ref t), (.int (own_seen σ 15))]))
        refine own_st (fun _ kz => XS.iload X614.here hx rfl (v := sv) (hb hby at_1395) (by show Le17[_]? = _; rw [hLe17]; rfl) kz) ?_
        show own_Win p e below s _ _ _ (T614.setTop (mkF m 1397 Le17 [(.int sv), (.int (15 : Int32)), (.ref t), (.int (own_seen σ 15))]))
        refine own_st (fun _ kz => XS.iload X614.here hx rfl (v := (XT.ushr (sv + ev) (1 : Int32))) (hb hby at_1397) (by show Le17[_]? = _; rw [hLe17]; rfl) kz) ?_
        show own_Win p e below s _ _ _ (T614.setTop (mkF m 1399 Le17 [(.int (XT.ushr (sv + ev) (1 : Int32))), (.int sv), (.int (15 : Int32)), (.ref t), (.int (own_seen σ 15))]))
        refine own_st (fun _ kz => XS.iload X614.here hx rfl (v := ev) (hb hby at_1399) (by show Le17[_]? = _; rw [hLe17]; rfl) kz) ?_
        show own_Win p e below s _ _ _ (T614.setTop (mkF m 1401 Le17 [(.int ev), (.int (XT.ushr (sv + ev) (1 : Int32))), (.int sv), (.int (15 : Int32)), (.ref t), (.int (own_seen σ 15))]))
        refine own_st (fun _ kz => XS.iload X614.here hx rfl (v := (Int32.ofNat (own_w r0.toInt r1.toInt s0.toInt s1.toInt))) (hb hby at_1401) (by show Le17[_]? = _; rw [hLe17]; rfl) kz) ?_
        show own_Win p e below s _ _ _ (T614.setTop (mkF m 1403 Le17 [(.int (Int32.ofNat (own_w r0.toInt r1.toInt s0.toInt s1.toInt))), (.int ev), (.int (XT.ushr (sv + ev) (1 : Int32))), (.int sv), (.int (15 : Int32)), (.ref t), (.int (own_seen σ 15))]))
        refine own_st (fun _ kz => XS.aload X614.here hx rfl (v := (.ref a3)) (hb hby at_1403) (by show Le17[_]? = _; rw [hLe17]; rfl) rfl kz) ?_
        show own_Win p e below s _ _ _ (T614.setTop (mkF m 1405 Le17 [(.ref a3), (.int (Int32.ofNat (own_w r0.toInt r1.toInt s0.toInt s1.toInt))), (.int ev), (.int (XT.ushr (sv + ev) (1 : Int32))), (.int sv), (.int (15 : Int32)), (.ref t), (.int (own_seen σ 15))]))
        refine own_st (fun _ kz => XS.aload X614.here hx rfl (v := (.ref a4)) (hb hby at_1405) (by show Le17[_]? = _; rw [hLe17]; rfl) rfl kz) ?_
        show own_Win p e below s _ _ _ (T614.setTop (mkF m 1407 Le17 [(.ref a4), (.ref a3), (.int (Int32.ofNat (own_w r0.toInt r1.toInt s0.toInt s1.toInt))), (.int ev), (.int (XT.ushr (sv + ev) (1 : Int32))), (.int sv), (.int (15 : Int32)), (.ref t), (.int (own_seen σ 15))]))
        refine own_st (fun _ kz => XS.iload X614.here hx rfl (v := sp) (hb hby at_1407) (by show Le17[_]? = _; rw [hLe17]; rfl) kz) ?_
        show own_Win p e below s _ _ _ (T614.setTop (mkF m 1409 Le17 [(.int sp), (.ref a4), (.ref a3), (.int (Int32.ofNat (own_w r0.toInt r1.toInt s0.toInt s1.toInt))), (.int ev), (.int (XT.ushr (sv + ev) (1 : Int32))), (.int sv), (.int (15 : Int32)), (.ref t), (.int (own_seen σ 15))]))
        refine own_callS X614 hx hZ hown (y := yQ) (hw _ (List.mem_of_getElem? (i := 45) rfl)) (hw _ (List.mem_of_getElem? (i := 46) rfl)) (hw _ (List.mem_of_getElem? (i := 4) rfl)) (hw _ (List.mem_of_getElem? (i := 47) rfl)) (by decide) e614 (rmQ l Z a0 hw [] t a1 a2 aF aT aL aH a3 a4 wv gv (15 : Int32) sv (XT.ushr (sv + ev) (1 : Int32)) ev (Int32.ofNat (own_w r0.toInt r1.toInt s0.toInt s1.toInt)) sp 15 sN ((sN + eN) / 2) eN (own_w r0.toInt r1.toInt s0.toInt s1.toInt) σ O V h n0 Z9 FS FI FQ FA FB rfl (by decide) hsN hm (by omega) heN ha w2 hok.1 hD hsp (hid 15) hpt) (by decide) (W := 1) (by decide) rfl (by rw [hml]; show Le17.size = _; rw [hLe17]; rfl) (argsL := [(.ref t), (.int (15 : Int32)), (.int sv), (.int (XT.ushr (sv + ev) (1 : Int32))), (.int ev), (.int (Int32.ofNat (own_w r0.toInt r1.toInt s0.toInt s1.toInt))), (.ref a3), (.ref a4), (.int sp)]) (rest := [(.int (own_seen σ 15))]) (lenOf pdQ rfl) rfl (Nat.le_of_eq rfl) (hb hby at_1409) rfl hC hS ?_
        intro T615 v615 L615 X615 hQ615
        obtain ⟨rfl, M615, e615⟩ := hQ615
        have N615 := Fr.app N614 M615
        show own_Win p e below s _ _ _ (T615.setTop (mkF m 1412 Le17 [(.int ((1 : Int32) <<< (own_I σ 15 &&& 31))), (.int (own_seen σ 15))]))
        refine own_st (fun _ kz => XT.ior X615.here hx rfl (hb hby at_1412) rfl kz) ?_
        show own_Win p e below s _ _ _ (T615.setTop (mkF m 1413 Le17 [(.int ((own_seen σ 15) ||| ((1 : Int32) <<< (own_I σ 15 &&& 31))))]))
        show own_Win p e below s _ _ _ (T615.setTop (mkF m 1413 Le17 [(.int (own_seen σ 16))]))
        obtain ⟨Le18, hLe18⟩ : ∃ L : Array Slot, L = #[.val (.long p1), .second, .val (.long p2), .second, .val (.int p3), .val (.int p4), .val (.int p5), .val (.int r0), .val (.int r1), .val (.int s0), .val (.int s1), .val (.int sv), .val (.int ev), .val (.int nw), .val (.int wv), .val (.ref a1), .val (.ref a2), .val (.ref a3), .val (.ref a4), .val (.double (FP.i2d p3)), .second, .val (.double (FP.i2d p4)), .second, .val (.double (FP.l2d ((p3.toInt64) + (r0.toInt64)))), .second, .val (.double (FP.l2d ((p4.toInt64) + (r1.toInt64)))), .second, .val (.ref a201), .val (.ref a202), .val (.ref a203), .val (.ref t), .val (.int (0 : Int32)), .val (.int sp), .val (.int (XT.ushr (sv + ev) (1 : Int32))), .val (.int (Int32.ofNat (own_w r0.toInt r1.toInt s0.toInt s1.toInt))), .val (.int (1 : Int32)), .val (.int (own_seen σ 16))] := ⟨_, rfl⟩
        refine own_st (fun _ kz => XS.istore X615.here hx rfl (hb hby at_1413) rfl (l' := Le18) (by show storeLocals Le17 _ _ = _; rw [hLe17, hLe18]; rfl) kz) ?_
        show own_Win p e below s _ _ _ (T615.setTop (mkF m 1415 Le18 []))
        refine own_st (fun _ kz => XS.iload X615.here hx rfl (v := (own_seen σ 16)) (hb hby at_1415) (by show Le18[_]? = _; rw [hLe18]; rfl) kz) ?_
        show own_Win p e below s _ _ _ (T615.setTop (mkF m 1417 Le18 [(.int (own_seen σ 16))]))
        refine own_st (fun _ kz => XS.aload X615.here hx rfl (v := (.ref t)) (hb hby at_1417) (by show Le18[_]? = _; rw [hLe18]; rfl) rfl kz) ?_
        show own_Win p e below s _ _ _ (T615.setTop (mkF m 1419 Le18 [(.ref t), (.int (own_seen σ 16))]))
        refine own_st (fun _ kz => XS.bipush X615.here hx rfl (hb hby at_1419) kz) ?_
        show own_Win p e below s _ _ _ (T615.setTop (mkF m 1421 Le18 [(.int (16 : Int32)), (.ref t), (.int (own_seen σ 16))]))
        refine own_st (fun _ kz => XS.iload X615.here hx rfl (v := sv) (hb hby at_1421) (by show Le18[_]? = _; rw [hLe18]; rfl) kz) ?_
        show own_Win p e below s _ _ _ (T615.setTop (mkF m 1423 Le18 [(.int sv), (.int (16 : Int32)), (.ref t), (.int (own_seen σ 16))]))
        refine own_st (fun _ kz => XS.iload X615.here hx rfl (v := (XT.ushr (sv + ev) (1 : Int32))) (hb hby at_1423) (by show Le18[_]? = _; rw [hLe18]; rfl) kz) ?_
        show own_Win p e below s _ _ _ (T615.setTop (mkF m 1425 Le18 [(.int (XT.ushr (sv + ev) (1 : Int32))), (.int sv), (.int (16 : Int32)), (.ref t), (.int (own_seen σ 16))]))
        refine own_st (fun _ kz => XS.iload X615.here hx rfl (v := ev) (hb hby at_1425) (by show Le18[_]? = _; rw [hLe18]; rfl) kz) ?_
        show own_Win p e below s _ _ _ (T615.setTop (mkF m 1427 Le18 [(.int ev), (.int (XT.ushr (sv + ev) (1 : Int32))), (.int sv), (.int (16 : Int32)), (.ref t), (.int (own_seen σ 16))]))
        refine own_st (fun _ kz => XS.iload X615.here hx rfl (v := (Int32.ofNat (own_w r0.toInt r1.toInt s0.toInt s1.toInt))) (hb hby at_1427) (by show Le18[_]? = _; rw [hLe18]; rfl) kz) ?_
        show own_Win p e below s _ _ _ (T615.setTop (mkF m 1429 Le18 [(.int (Int32.ofNat (own_w r0.toInt r1.toInt s0.toInt s1.toInt))), (.int ev), (.int (XT.ushr (sv + ev) (1 : Int32))), (.int sv), (.int (16 : Int32)), (.ref t), (.int (own_seen σ 16))]))
        refine own_st (fun _ kz => XS.aload X615.here hx rfl (v := (.ref a3)) (hb hby at_1429) (by show Le18[_]? = _; rw [hLe18]; rfl) rfl kz) ?_
        show own_Win p e below s _ _ _ (T615.setTop (mkF m 1431 Le18 [(.ref a3), (.int (Int32.ofNat (own_w r0.toInt r1.toInt s0.toInt s1.toInt))), (.int ev), (.int (XT.ushr (sv + ev) (1 : Int32))), (.int sv), (.int (16 : Int32)), (.ref t), (.int (own_seen σ 16))]))
        refine own_st (fun _ kz => XS.aload X615.here hx rfl (v := (.ref a4)) (hb hby at_1431) (by show Le18[_]? = _; rw [hLe18]; rfl) rfl kz) ?_
        show own_Win p e below s _ _ _ (T615.setTop (mkF m 1433 Le18 [(.ref a4), (.ref a3), (.int (Int32.ofNat (own_w r0.toInt r1.toInt s0.toInt s1.toInt))), (.int ev), (.int (XT.ushr (sv + ev) (1 : Int32))), (.int sv), (.int (16 : Int32)), (.ref t), (.int (own_seen σ 16))]))
        refine own_st (fun _ kz => XS.iload X615.here hx rfl (v := sp) (hb hby at_1433) (by show Le18[_]? = _; rw [hLe18]; rfl) kz) ?_
        show own_Win p e below s _ _ _ (T615.setTop (mkF m 1435 Le18 [(.int sp), (.ref a4), (.ref a3), (.int (Int32.ofNat (own_w r0.toInt r1.toInt s0.toInt s1.toInt))), (.int ev), (.int (XT.ushr (sv + ev) (1 : Int32))), (.int sv), (.int (16 : Int32)), (.ref t), (.int (own_seen σ 16))]))
        refine own_callS X615 hx hZ hown (y := yQ) (hw _ (List.mem_of_getElem? (i := 45) rfl)) (hw _ (List.mem_of_getElem? (i := 46) rfl)) (hw _ (List.mem_of_getElem? (i := 4) rfl)) (hw _ (List.mem_of_getElem? (i := 47) rfl)) (by decide) e615 (rmQ l Z a0 hw [] t a1 a2 aF aT aL aH a3 a4 wv gv (16 : Int32) sv (XT.ushr (sv + ev) (1 : Int32)) ev (Int32.ofNat (own_w r0.toInt r1.toInt s0.toInt s1.toInt)) sp 16 sN ((sN + eN) / 2) eN (own_w r0.toInt r1.toInt s0.toInt s1.toInt) σ O V h n0 Z9 FS FI FQ FA FB rfl (by decide) hsN hm (by omega) heN ha w2 hok.1 hD hsp (hid 16) hpt) (by decide) (W := 1) (by decide) rfl (by rw [hml]; show Le18.size = _; rw [hLe18]; rfl) (argsL := [(.ref t), (.int (16 : Int32)), (.int sv), (.int (XT.ushr (sv + ev) (1 : Int32))), (.int ev), (.int (Int32.ofNat (own_w r0.toInt r1.toInt s0.toInt s1.toInt))), (.ref a3), (.ref a4), (.int sp)]) (rest := [(.int (own_seen σ 16))]) (lenOf pdQ rfl) rfl (Nat.le_of_eq rfl) (hb hby at_1435) rfl hC hS ?_
        intro T616 v616 L616 X616 hQ616
        obtain ⟨rfl, M616, e616⟩ := hQ616
        have N616 := Fr.app N615 M616
        show own_Win p e below s _ _ _ (T616.setTop (mkF m 1438 Le18 [(.int ((1 : Int32) <<< (own_I σ 16 &&& 31))), (.int (own_seen σ 16))]))
        refine own_st (fun _ kz => XT.ior X616.here hx rfl (hb hby at_1438) rfl kz) ?_
        show own_Win p e below s _ _ _ (T616.setTop (mkF m 1439 Le18 [(.int ((own_seen σ 16) ||| ((1 : Int32) <<< (own_I σ 16 &&& 31))))]))
        show own_Win p e below s _ _ _ (T616.setTop (mkF m 1439 Le18 [(.int (own_seen σ 17))]))
        obtain ⟨Le19, hLe19⟩ : ∃ L : Array Slot, L = #[.val (.long p1), .second, .val (.long p2), .second, .val (.int p3), .val (.int p4), .val (.int p5), .val (.int r0), .val (.int r1), .val (.int s0), .val (.int s1), .val (.int sv), .val (.int ev), .val (.int nw), .val (.int wv), .val (.ref a1), .val (.ref a2), .val (.ref a3), .val (.ref a4), .val (.double (FP.i2d p3)), .second, .val (.double (FP.i2d p4)), .second, .val (.double (FP.l2d ((p3.toInt64) + (r0.toInt64)))), .second, .val (.double (FP.l2d ((p4.toInt64) + (r1.toInt64)))), .second, .val (.ref a201), .val (.ref a202), .val (.ref a203), .val (.ref t), .val (.int (0 : Int32)), .val (.int sp), .val (.int (XT.ushr (sv + ev) (1 : Int32))), .val (.int (Int32.ofNat (own_w r0.toInt r1.toInt s0.toInt s1.toInt))), .val (.int (1 : Int32)), .val (.int (own_seen σ 17))] := ⟨_, rfl⟩
        refine own_st (fun _ kz => XS.istore X616.here hx rfl (hb hby at_1439) rfl (l' := Le19) (by show storeLocals Le18 _ _ = _; rw [hLe18, hLe19]; rfl) kz) ?_
        show own_Win p e below s _ _ _ (T616.setTop (mkF m 1441 Le19 []))
        refine own_st (fun _ kz => XS.iload X616.here hx rfl (v := (own_seen σ 17)) (hb hby at_1441) (by show Le19[_]? = _; rw [hLe19]; rfl) kz) ?_
        show own_Win p e below s _ _ _ (T616.setTop (mkF m 1443 Le19 [(.int (own_seen σ 17))]))
        refine own_st (fun _ kz => XS.aload X616.here hx rfl (v := (.ref t)) (hb hby at_1443) (by show Le19[_]? = _; rw [hLe19]; rfl) rfl kz) ?_
        show own_Win p e below s _ _ _ (T616.setTop (mkF m 1445 Le19 [(.ref t), (.int (own_seen σ 17))]))
        refine own_st (fun _ kz => XS.bipush X616.here hx rfl (hb hby at_1445) kz) ?_
        show own_Win p e below s _ _ _ (T616.setTop (mkF m 1447 Le19 [(.int (17 : Int32)), (.ref t), (.int (own_seen σ 17))]))
        refine own_st (fun _ kz => XS.iload X616.here hx rfl (v := sv) (hb hby at_1447) (by show Le19[_]? = _; rw [hLe19]; rfl) kz) ?_
        show own_Win p e below s _ _ _ (T616.setTop (mkF m 1449 Le19 [(.int sv), (.int (17 : Int32)), (.ref t), (.int (own_seen σ 17))]))
        refine own_st (fun _ kz => XS.iload X616.here hx rfl (v := (XT.ushr (sv + ev) (1 : Int32))) (hb hby at_1449) (by show Le19[_]? = _; rw [hLe19]; rfl) kz) ?_
        show own_Win p e below s _ _ _ (T616.setTop (mkF m 1451 Le19 [(.int (XT.ushr (sv + ev) (1 : Int32))), (.int sv), (.int (17 : Int32)), (.ref t), (.int (own_seen σ 17))]))
        refine own_st (fun _ kz => XS.iload X616.here hx rfl (v := ev) (hb hby at_1451) (by show Le19[_]? = _; rw [hLe19]; rfl) kz) ?_
        show own_Win p e below s _ _ _ (T616.setTop (mkF m 1453 Le19 [(.int ev), (.int (XT.ushr (sv + ev) (1 : Int32))), (.int sv), (.int (17 : Int32)), (.ref t), (.int (own_seen σ 17))]))
        refine own_st (fun _ kz => XS.iload X616.here hx rfl (v := (Int32.ofNat (own_w r0.toInt r1.toInt s0.toInt s1.toInt))) (hb hby at_1453) (by show Le19[_]? = _; rw [hLe19]; rfl) kz) ?_
        show own_Win p e below s _ _ _ (T616.setTop (mkF m 1455 Le19 [(.int (Int32.ofNat (own_w r0.toInt r1.toInt s0.toInt s1.toInt))), (.int ev), (.int (XT.ushr (sv + ev) (1 : Int32))), (.int sv), (.int (17 : Int32)), (.ref t), (.int (own_seen σ 17))]))
        refine own_st (fun _ kz => XS.aload X616.here hx rfl (v := (.ref a3)) (hb hby at_1455) (by show Le19[_]? = _; rw [hLe19]; rfl) rfl kz) ?_
        show own_Win p e below s _ _ _ (T616.setTop (mkF m 1457 Le19 [(.ref a3), (.int (Int32.ofNat (own_w r0.toInt r1.toInt s0.toInt s1.toInt))), (.int ev), (.int (XT.ushr (sv + ev) (1 : Int32))), (.int sv), (.int (17 : Int32)), (.ref t), (.int (own_seen σ 17))]))
        refine own_st (fun _ kz => XS.aload X616.here hx rfl (v := (.ref a4)) (hb hby at_1457) (by show Le19[_]? = _; rw [hLe19]; rfl) rfl kz) ?_
        show own_Win p e below s _ _ _ (T616.setTop (mkF m 1459 Le19 [(.ref a4), (.ref a3), (.int (Int32.ofNat (own_w r0.toInt r1.toInt s0.toInt s1.toInt))), (.int ev), (.int (XT.ushr (sv + ev) (1 : Int32))), (.int sv), (.int (17 : Int32)), (.ref t), (.int (own_seen σ 17))]))
        refine own_st (fun _ kz => XS.iload X616.here hx rfl (v := sp) (hb hby at_1459) (by show Le19[_]? = _; rw [hLe19]; rfl) kz) ?_
        show own_Win p e below s _ _ _ (T616.setTop (mkF m 1461 Le19 [(.int sp), (.ref a4), (.ref a3), (.int (Int32.ofNat (own_w r0.toInt r1.toInt s0.toInt s1.toInt))), (.int ev), (.int (XT.ushr (sv + ev) (1 : Int32))), (.int sv), (.int (17 : Int32)), (.ref t), (.int (own_seen σ 17))]))
        refine own_callS X616 hx hZ hown (y := yQ) (hw _ (List.mem_of_getElem? (i := 45) rfl)) (hw _ (List.mem_of_getElem? (i := 46) rfl)) (hw _ (List.mem_of_getElem? (i := 4) rfl)) (hw _ (List.mem_of_getElem? (i := 47) rfl)) (by decide) e616 (rmQ l Z a0 hw [] t a1 a2 aF aT aL aH a3 a4 wv gv (17 : Int32) sv (XT.ushr (sv + ev) (1 : Int32)) ev (Int32.ofNat (own_w r0.toInt r1.toInt s0.toInt s1.toInt)) sp 17 sN ((sN + eN) / 2) eN (own_w r0.toInt r1.toInt s0.toInt s1.toInt) σ O V h n0 Z9 FS FI FQ FA FB rfl (by decide) hsN hm (by omega) heN ha w2 hok.1 hD hsp (hid 17) hpt) (by decide) (W := 1) (by decide) rfl (by rw [hml]; show Le19.size = _; rw [hLe19]; rfl) (argsL := [(.ref t), (.int (17 : Int32)), (.int sv), (.int (XT.ushr (sv + ev) (1 : Int32))), (.int ev), (.int (Int32.ofNat (own_w r0.toInt r1.toInt s0.toInt s1.toInt))), (.ref a3), (.ref a4), (.int sp)]) (rest := [(.int (own_seen σ 17))]) (lenOf pdQ rfl) rfl (Nat.le_of_eq rfl) (hb hby at_1461) rfl hC hS ?_
        intro T617 v617 L617 X617 hQ617
        obtain ⟨rfl, M617, e617⟩ := hQ617
        have N617 := Fr.app N616 M617
        show own_Win p e below s _ _ _ (T617.setTop (mkF m 1464 Le19 [(.int ((1 : Int32) <<< (own_I σ 17 &&& 31))), (.int (own_seen σ 17))]))
        refine own_st (fun _ kz => XT.ior X617.here hx rfl (hb hby at_1464) rfl kz) ?_
        show own_Win p e below s _ _ _ (T617.setTop (mkF m 1465 Le19 [(.int ((own_seen σ 17) ||| ((1 : Int32) <<< (own_I σ 17 &&& 31))))]))
        show own_Win p e below s _ _ _ (T617.setTop (mkF m 1465 Le19 [(.int (own_seen σ 18))]))
        obtain ⟨Le20, hLe20⟩ : ∃ L : Array Slot, L = #[.val (.long p1), .second, .val (.long p2), .second, .val (.int p3), .val (.int p4), .val (.int p5), .val (.int r0), .val (.int r1), .val (.int s0), .val (.int s1), .val (.int sv), .val (.int ev), .val (.int nw), .val (.int wv), .val (.ref a1), .val (.ref a2), .val (.ref a3), .val (.ref a4), .val (.double (FP.i2d p3)), .second, .val (.double (FP.i2d p4)), .second, .val (.double (FP.l2d ((p3.toInt64) + (r0.toInt64)))), .second, .val (.double (FP.l2d ((p4.toInt64) + (r1.toInt64)))), .second, .val (.ref a201), .val (.ref a202), .val (.ref a203), .val (.ref t), .val (.int (0 : Int32)), .val (.int sp), .val (.int (XT.ushr (sv + ev) (1 : Int32))), .val (.int (Int32.ofNat (own_w r0.toInt r1.toInt s0.toInt s1.toInt))), .val (.int (1 : Int32)), .val (.int (own_seen σ 18))] := ⟨_, rfl⟩
        refine own_st (fun _ kz => XS.istore X617.here hx rfl (hb hby at_1465) rfl (l' := Le20) (by show storeLocals Le19 _ _ = _; rw [hLe19, hLe20]; rfl) kz) ?_
        show own_Win p e below s _ _ _ (T617.setTop (mkF m 1467 Le20 []))
        refine own_st (fun _ kz => XS.iload X617.here hx rfl (v := (1 : Int32)) (hb hby at_1467) (by show Le20[_]? = _; rw [hLe20]; rfl) kz) ?_
        show own_Win p e below s _ _ _ (T617.setTop (mkF m 1469 Le20 [(.int (1 : Int32))]))
        refine own_st (fun _ kz => XS.ifNo X617.here hx rfl (hb hby at_1469) rfl (by decide) kz) ?_
        show own_Win p e below s _ _ _ (T617.setTop (mkF m 1472 Le20 []))
        refine own_st (fun _ kz => XS.iload X617.here hx rfl (v := (own_seen σ 18)) (hb hby at_1472) (by show Le20[_]? = _; rw [hLe20]; rfl) kz) ?_
        show own_Win p e below s _ _ _ (T617.setTop (mkF m 1474 Le20 [(.int (own_seen σ 18))]))
        refine own_st (fun tz kz => X617.ldcInt hx hown (mvT hZ (hw _ (List.mem_of_getElem? (i := 50) rfl))) (g := (mkF m 1474 Le20 [(.int (own_seen σ 18))])) rfl (hb hby at_1474) tz kz) ?_
        show own_Win p e below s _ _ _ (T617.setTop (mkF m 1476 Le20 [(.int (262143 : Int32)), (.int (own_seen σ 18))]))
        refine own_st (fun _ kz => XS.icmpNo X617.here hx rfl (hb hby at_1476) rfl (teq (own_seen18 hok)).2 kz) ?_
        show own_Win p e below s _ _ _ (T617.setTop (mkF m 1479 Le20 []))
        refine own_st (fun _ kz => XS.iconst X617.here hx rfl (hb hby at_1479) kz) ?_
        show own_Win p e below s _ _ _ (T617.setTop (mkF m 1480 Le20 [(.int (1 : Int32))]))
        refine own_st (fun _ kz => XS.goto X617.here hx rfl (pc0 := 1480) (pc' := 1484) rfl (hb hby at_1480) (by decide) (by decide) kz) ?_
        show own_Win p e below s _ _ _ (T617.setTop (mkF m 1484 Le20 [(.int (1 : Int32))]))
        exact own_ret X617 hx hlk Bd.returns rfl (Or.inl ⟨rfl, Or.inr (Or.inl rfl), _, rfl⟩) (hb hby at_1484) ⟨rfl, N617⟩ hC hS
      have tlM : ∀ (T : State) (sp : Int32), Stand p l e room_1 s m #[(.long p1), (.long p2), (.int p3), (.int p4), (.int p5)] below meth c T locs C S → T.heap = h → ((sp = 0 ∧ ((∀ k, σ k = k) ∧ gL 0 = -1 ∧ gH 0 = -1)) ∨ (sp = 1 ∧ (own_Part (fun k => V (own_w r0.toInt r1.toInt s0.toInt s1.toInt) (σ k)) sN eN ((sN + eN) / 2) ∧ gL 0 = 1 ∧ gH 0 = 2 ∧ gF 1 = sv ∧ gT 1 = (XT.ushr (sv + ev) (1 : Int32)) ∧ gL 1 = -1 ∧ gH 1 = -1 ∧ gF 2 = (XT.ushr (sv + ev) (1 : Int32)) ∧ gT 2 = ev ∧ gL 2 = -1 ∧ gH 2 = -1))) → own_Win p e below s (Q_rm0 Z p1 p2 p3 p4 p5 h0 n0) room_1.cells room_1.slots (T.setTop (mkF m 664 Lb301 [.int sp])) := by
        intro T sp X eT hc
        show own_Win p e below s _ _ _ (T.setTop (mkF m 664 Lb301 [(.int sp)]))
        obtain ⟨Lb401, hLb401⟩ : ∃ L : Array Slot, L = #[.val (.long p1), .second, .val (.long p2), .second, .val (.int p3), .val (.int p4), .val (.int p5), .val (.int r0), .val (.int r1), .val (.int s0), .val (.int s1), .val (.int sv), .val (.int ev), .val (.int nw), .val (.int wv), .val (.ref a1), .val (.ref a2), .val (.ref a3), .val (.ref a4), .val (.double (FP.i2d p3)), .second, .val (.double (FP.i2d p4)), .second, .val (.double (FP.l2d ((p3.toInt64) + (r0.toInt64)))), .second, .val (.double (FP.l2d ((p4.toInt64) + (r1.toInt64)))), .second, .val (.ref a201), .val (.ref a202), .val (.ref a203), .val (.ref t), .val (.int (0 : Int32)), .val (.int sp), .unset, .unset, .unset, .unset] := ⟨_, rfl⟩
        refine own_st (fun _ kz => XS.istore X.here hx rfl (hb hby at_664) rfl (l' := Lb401) (by show storeLocals Lb301 _ _ = _; rw [hLb301, hLb401]; rfl) kz) ?_
        show own_Win p e below s _ _ _ (T.setTop (mkF m 666 Lb401 []))
        refine own_st (fun _ kz => XS.iload X.here hx rfl (v := sv) (hb hby at_666) (by show Lb401[_]? = _; rw [hLb401]; rfl) kz) ?_
        show own_Win p e below s _ _ _ (T.setTop (mkF m 668 Lb401 [(.int sv)]))
        refine own_st (fun _ kz => XS.iload X.here hx rfl (v := ev) (hb hby at_668) (by show Lb401[_]? = _; rw [hLb401]; rfl) kz) ?_
        show own_Win p e below s _ _ _ (T.setTop (mkF m 670 Lb401 [(.int ev), (.int sv)]))
        refine own_st (fun _ kz => XS.iadd X.here hx rfl (hb hby at_670) rfl kz) ?_
        show own_Win p e below s _ _ _ (T.setTop (mkF m 671 Lb401 [(.int (sv + ev))]))
        refine own_st (fun _ kz => XS.iconst X.here hx rfl (hb hby at_671) kz) ?_
        show own_Win p e below s _ _ _ (T.setTop (mkF m 672 Lb401 [(.int (1 : Int32)), (.int (sv + ev))]))
        refine own_st (fun _ kz => XT.iushr X.here hx rfl (hb hby at_672) rfl kz) ?_
        show own_Win p e below s _ _ _ (T.setTop (mkF m 673 Lb401 [(.int (XT.ushr (sv + ev) (1 : Int32)))]))
        obtain ⟨Lb402, hLb402⟩ : ∃ L : Array Slot, L = #[.val (.long p1), .second, .val (.long p2), .second, .val (.int p3), .val (.int p4), .val (.int p5), .val (.int r0), .val (.int r1), .val (.int s0), .val (.int s1), .val (.int sv), .val (.int ev), .val (.int nw), .val (.int wv), .val (.ref a1), .val (.ref a2), .val (.ref a3), .val (.ref a4), .val (.double (FP.i2d p3)), .second, .val (.double (FP.i2d p4)), .second, .val (.double (FP.l2d ((p3.toInt64) + (r0.toInt64)))), .second, .val (.double (FP.l2d ((p4.toInt64) + (r1.toInt64)))), .second, .val (.ref a201), .val (.ref a202), .val (.ref a203), .val (.ref t), .val (.int (0 : Int32)), .val (.int sp), .val (.int (XT.ushr (sv + ev) (1 : Int32))), .unset, .unset, .unset] := ⟨_, rfl⟩
        refine own_st (fun _ kz => XS.istore X.here hx rfl (hb hby at_673) rfl (l' := Lb402) (by show storeLocals Lb401 _ _ = _; rw [hLb401, hLb402]; rfl) kz) ?_
        show own_Win p e below s _ _ _ (T.setTop (mkF m 675 Lb402 []))
        refine own_st (fun _ kz => XS.iload X.here hx rfl (v := r0) (hb hby at_675) (by show Lb402[_]? = _; rw [hLb402]; rfl) kz) ?_
        show own_Win p e below s _ _ _ (T.setTop (mkF m 677 Lb402 [(.int r0)]))
        refine own_st (fun _ kz => XS.iload X.here hx rfl (v := r1) (hb hby at_677) (by show Lb402[_]? = _; rw [hLb402]; rfl) kz) ?_
        show own_Win p e below s _ _ _ (T.setTop (mkF m 679 Lb402 [(.int r1), (.int r0)]))
        refine own_st (fun _ kz => XS.iload X.here hx rfl (v := s0) (hb hby at_679) (by show Lb402[_]? = _; rw [hLb402]; rfl) kz) ?_
        show own_Win p e below s _ _ _ (T.setTop (mkF m 681 Lb402 [(.int s0), (.int r1), (.int r0)]))
        refine own_st (fun _ kz => XS.iload X.here hx rfl (v := s1) (hb hby at_681) (by show Lb402[_]? = _; rw [hLb402]; rfl) kz) ?_
        show own_Win p e below s _ _ _ (T.setTop (mkF m 683 Lb402 [(.int s1), (.int s0), (.int r1), (.int r0)]))
        refine own_callS X hx hZ hown (y := yW) (hw _ (List.mem_of_getElem? (i := 38) rfl)) (hw _ (List.mem_of_getElem? (i := 39) rfl)) (hw _ (List.mem_of_getElem? (i := 4) rfl)) (hw _ (List.mem_of_getElem? (i := 40) rfl)) (by decide) eT (rmW l Z a0 hw [] r0 r1 s0 s1 h n0 Z9) (by decide) (W := 0) (by decide) rfl (by rw [hml]; show Lb402.size = _; rw [hLb402]; rfl) (argsL := [.int r0, .int r1, .int s0, .int s1]) (rest := []) (lenOf pdW rfl) rfl (Nat.le_of_eq rfl) (hb hby at_683) rfl hC hS ?_
        intro T700 v700 L700 X700 hQ700
        obtain ⟨rfl, M700, e700⟩ := hQ700
        have N700 := Fr.app N M700
        show own_Win p e below s _ _ _ (T700.setTop (mkF m 686 Lb402 [(.int (Int32.ofNat (own_w r0.toInt r1.toInt s0.toInt s1.toInt)))]))
        obtain ⟨Lb403, hLb403⟩ : ∃ L : Array Slot, L = #[.val (.long p1), .second, .val (.long p2), .second, .val (.int p3), .val (.int p4), .val (.int p5), .val (.int r0), .val (.int r1), .val (.int s0), .val (.int s1), .val (.int sv), .val (.int ev), .val (.int nw), .val (.int wv), .val (.ref a1), .val (.ref a2), .val (.ref a3), .val (.ref a4), .val (.double (FP.i2d p3)), .second, .val (.double (FP.i2d p4)), .second, .val (.double (FP.l2d ((p3.toInt64) + (r0.toInt64)))), .second, .val (.double (FP.l2d ((p4.toInt64) + (r1.toInt64)))), .second, .val (.ref a201), .val (.ref a202), .val (.ref a203), .val (.ref t), .val (.int (0 : Int32)), .val (.int sp), .val (.int (XT.ushr (sv + ev) (1 : Int32))), .val (.int (Int32.ofNat (own_w r0.toInt r1.toInt s0.toInt s1.toInt))), .unset, .unset] := ⟨_, rfl⟩
        refine own_st (fun _ kz => XS.istore X700.here hx rfl (hb hby at_686) rfl (l' := Lb403) (by show storeLocals Lb402 _ _ = _; rw [hLb402, hLb403]; rfl) kz) ?_
        show own_Win p e below s _ _ _ (T700.setTop (mkF m 688 Lb403 []))
        refine own_st (fun _ kz => XS.iload X700.here hx rfl (v := (0 : Int32)) (hb hby at_688) (by show Lb403[_]? = _; rw [hLb403]; rfl) kz) ?_
        show own_Win p e below s _ _ _ (T700.setTop (mkF m 690 Lb403 [(.int (0 : Int32))]))
        refine own_st (fun _ kz => XS.ifNo X700.here hx rfl (hb hby at_690) rfl (by decide) kz) ?_
        show own_Win p e below s _ _ _ (T700.setTop (mkF m 693 Lb403 []))
        refine own_st (fun _ kz => XS.aload X700.here hx rfl (v := (.ref t)) (hb hby at_693) (by show Lb403[_]? = _; rw [hLb403]; rfl) rfl kz) ?_
        show own_Win p e below s _ _ _ (T700.setTop (mkF m 695 Lb403 [(.ref t)]))
        obtain ⟨T711, X711, e711, st711⟩ := getF X700 hx hZ hown (host := "") (Or.inl (hw _ (List.mem_of_getElem? (i := 41) rfl))) Via.refl e700 FS.2.2.2.2.1 (g := (mkF m 695 Lb403 [(.ref t)])) rfl rfl (hb hby at_695)
        refine own_st st711 ?_
        show own_Win p e below s _ _ _ (T711.setTop (mkF m 698 Lb403 [(.ref aF)]))
        refine own_st (fun _ kz => XS.iconst X711.here hx rfl (hb hby at_698) kz) ?_
        show own_Win p e below s _ _ _ (T711.setTop (mkF m 699 Lb403 [(.int (0 : Int32)), (.ref aF)]))
        refine own_iaload X711 hx hZ e711 GF (i := 0) rfl (by decide) (x := sv) hF0 rfl rfl (hb hby at_699) ?_
        show own_Win p e below s _ _ _ (T711.setTop (mkF m 700 Lb403 [(.int sv)]))
        refine own_st (fun _ kz => XS.iload X711.here hx rfl (v := sv) (hb hby at_700) (by show Lb403[_]? = _; rw [hLb403]; rfl) kz) ?_
        show own_Win p e below s _ _ _ (T711.setTop (mkF m 702 Lb403 [(.int sv), (.int sv)]))
        refine own_st (fun _ kz => XS.icmpNo X711.here hx rfl (hb hby at_702) rfl (teq rfl).2 kz) ?_
        show own_Win p e below s _ _ _ (T711.setTop (mkF m 705 Lb403 []))
        refine own_st (fun _ kz => XS.aload X711.here hx rfl (v := (.ref t)) (hb hby at_705) (by show Lb403[_]? = _; rw [hLb403]; rfl) rfl kz) ?_
        show own_Win p e below s _ _ _ (T711.setTop (mkF m 707 Lb403 [(.ref t)]))
        obtain ⟨T712, X712, e712, st712⟩ := getF X711 hx hZ hown (host := "") (Or.inl (hw _ (List.mem_of_getElem? (i := 42) rfl))) Via.refl e711 FS.2.2.2.2.2.1 (g := (mkF m 707 Lb403 [(.ref t)])) rfl rfl (hb hby at_707)
        refine own_st st712 ?_
        show own_Win p e below s _ _ _ (T712.setTop (mkF m 710 Lb403 [(.ref aT)]))
        refine own_st (fun _ kz => XS.iconst X712.here hx rfl (hb hby at_710) kz) ?_
        show own_Win p e below s _ _ _ (T712.setTop (mkF m 711 Lb403 [(.int (0 : Int32)), (.ref aT)]))
        refine own_iaload X712 hx hZ e712 GU (i := 0) rfl (by decide) (x := ev) hT0 rfl rfl (hb hby at_711) ?_
        show own_Win p e below s _ _ _ (T712.setTop (mkF m 712 Lb403 [(.int ev)]))
        refine own_st (fun _ kz => XS.iload X712.here hx rfl (v := ev) (hb hby at_712) (by show Lb403[_]? = _; rw [hLb403]; rfl) kz) ?_
        show own_Win p e below s _ _ _ (T712.setTop (mkF m 714 Lb403 [(.int ev), (.int ev)]))
        refine own_st (fun _ kz => XS.icmpNo X712.here hx rfl (hb hby at_714) rfl (teq rfl).2 kz) ?_
        show own_Win p e below s _ _ _ (T712.setTop (mkF m 717 Lb403 []))
        refine own_st (fun _ kz => XS.iconst X712.here hx rfl (hb hby at_717) kz) ?_
        show own_Win p e below s _ _ _ (T712.setTop (mkF m 718 Lb403 [(.int (1 : Int32))]))
        refine own_st (fun _ kz => XS.goto X712.here hx rfl (pc0 := 718) (pc' := 722) rfl (hb hby at_718) (by decide) (by decide) kz) ?_
        show own_Win p e below s _ _ _ (T712.setTop (mkF m 722 Lb403 [(.int (1 : Int32))]))
        obtain ⟨Lb404, hLb404⟩ : ∃ L : Array Slot, L = #[.val (.long p1), .second, .val (.long p2), .second, .val (.int p3), .val (.int p4), .val (.int p5), .val (.int r0), .val (.int r1), .val (.int s0), .val (.int s1), .val (.int sv), .val (.int ev), .val (.int nw), .val (.int wv), .val (.ref a1), .val (.ref a2), .val (.ref a3), .val (.ref a4), .val (.double (FP.i2d p3)), .second, .val (.double (FP.i2d p4)), .second, .val (.double (FP.l2d ((p3.toInt64) + (r0.toInt64)))), .second, .val (.double (FP.l2d ((p4.toInt64) + (r1.toInt64)))), .second, .val (.ref a201), .val (.ref a202), .val (.ref a203), .val (.ref t), .val (.int (0 : Int32)), .val (.int sp), .val (.int (XT.ushr (sv + ev) (1 : Int32))), .val (.int (Int32.ofNat (own_w r0.toInt r1.toInt s0.toInt s1.toInt))), .val (.int (1 : Int32)), .unset] := ⟨_, rfl⟩
        refine own_st (fun _ kz => XS.istore X712.here hx rfl (hb hby at_722) rfl (l' := Lb404) (by show storeLocals Lb403 _ _ = _; rw [hLb403, hLb404]; rfl) kz) ?_
        show own_Win p e below s _ _ _ (T712.setTop (mkF m 724 Lb404 []))
        refine own_st (fun _ kz => XS.iload X712.here hx rfl (v := (1 : Int32)) (hb hby at_724) (by show Lb404[_]? = _; rw [hLb404]; rfl) kz) ?_
        show own_Win p e below s _ _ _ (T712.setTop (mkF m 726 Lb404 [(.int (1 : Int32))]))
        refine own_st (fun _ kz => XS.ifNo X712.here hx rfl (hb hby at_726) rfl (by decide) kz) ?_
        show own_Win p e below s _ _ _ (T712.setTop (mkF m 729 Lb404 []))
        have dlo0 : FP.Core.DInt p3.toInt (FP.i2d p3) := FP.Core.i2d_int p3
        have dlo1 : FP.Core.DInt p4.toInt (FP.i2d p4) := FP.Core.i2d_int p4
        have dhi0 := own_hiD p3 r0
        have dhi1 := own_hiD p4 r1
        have dsp0 : FP.Core.DInt s0.toInt (FP.i2d s0) := FP.Core.i2d_int s0
        have dsp1 : FP.Core.DInt s1.toInt (FP.i2d s1) := FP.Core.i2d_int s1
        refine own_st (fun _ kz => XS.aload X712.here hx rfl (v := (.ref a201)) (hb hby at_729) (by show Lb404[_]? = _; rw [hLb404]; rfl) rfl kz) ?_
        show own_Win p e below s _ _ _ (T712.setTop (mkF m 731 Lb404 [(.ref a201)]))
        refine own_st (fun _ kz => XS.iconst X712.here hx rfl (hb hby at_731) kz) ?_
        show own_Win p e below s _ _ _ (T712.setTop (mkF m 732 Lb404 [(.int (0 : Int32)), (.ref a201)]))
        refine own_daload X712 hx hZ e712 Flo (i := 0) rfl (by decide) (x := (FP.i2d p3)) rfl rfl rfl (hb hby at_732) ?_
        show own_Win p e below s _ _ _ (T712.setTop (mkF m 733 Lb404 [(.double (FP.i2d p3))]))
        refine own_st (fun _ kz => XS.dload X712.here hx rfl (v := (FP.i2d p3)) (hb hby at_733) (by show Lb404[_]? = _; rw [hLb404]; rfl) kz) ?_
        show own_Win p e below s _ _ _ (T712.setTop (mkF m 735 Lb404 [(.double (FP.i2d p3)), (.double (FP.i2d p3))]))
        refine own_st (fun _ kz => XS.dcmpS X712.here hx rfl (hb hby at_735) rfl rfl kz) ?_
        show own_Win p e below s _ _ _ (T712.setTop (mkF m 736 Lb404 [(.int (cmpValue (FP.dcmp (FP.i2d p3) (FP.i2d p3)) .l))]))
        refine own_st (fun _ kz => XS.ifNo X712.here hx rfl (hb hby at_736) rfl (by rw [own_hc dlo0 dlo0]; exact decide_eq_false (by omega)) kz) ?_
        show own_Win p e below s _ _ _ (T712.setTop (mkF m 739 Lb404 []))
        refine own_st (fun _ kz => XS.aload X712.here hx rfl (v := (.ref a201)) (hb hby at_739) (by show Lb404[_]? = _; rw [hLb404]; rfl) rfl kz) ?_
        show own_Win p e below s _ _ _ (T712.setTop (mkF m 741 Lb404 [(.ref a201)]))
        refine own_st (fun _ kz => XS.iconst X712.here hx rfl (hb hby at_741) kz) ?_
        show own_Win p e below s _ _ _ (T712.setTop (mkF m 742 Lb404 [(.int (1 : Int32)), (.ref a201)]))
        refine own_daload X712 hx hZ e712 Flo (i := 1) rfl (by decide) (x := (FP.i2d p4)) rfl rfl rfl (hb hby at_742) ?_
        show own_Win p e below s _ _ _ (T712.setTop (mkF m 743 Lb404 [(.double (FP.i2d p4))]))
        refine own_st (fun _ kz => XS.dload X712.here hx rfl (v := (FP.i2d p4)) (hb hby at_743) (by show Lb404[_]? = _; rw [hLb404]; rfl) kz) ?_
        show own_Win p e below s _ _ _ (T712.setTop (mkF m 745 Lb404 [(.double (FP.i2d p4)), (.double (FP.i2d p4))]))
        refine own_st (fun _ kz => XS.dcmpS X712.here hx rfl (hb hby at_745) rfl rfl kz) ?_
        show own_Win p e below s _ _ _ (T712.setTop (mkF m 746 Lb404 [(.int (cmpValue (FP.dcmp (FP.i2d p4) (FP.i2d p4)) .l))]))
        refine own_st (fun _ kz => XS.ifNo X712.here hx rfl (hb hby at_746) rfl (by rw [own_hc dlo1 dlo1]; exact decide_eq_false (by omega)) kz) ?_
        show own_Win p e below s _ _ _ (T712.setTop (mkF m 749 Lb404 []))
        refine own_st (fun _ kz => XS.aload X712.here hx rfl (v := (.ref a202)) (hb hby at_749) (by show Lb404[_]? = _; rw [hLb404]; rfl) rfl kz) ?_
        show own_Win p e below s _ _ _ (T712.setTop (mkF m 751 Lb404 [(.ref a202)]))
        refine own_st (fun _ kz => XS.iconst X712.here hx rfl (hb hby at_751) kz) ?_
        show own_Win p e below s _ _ _ (T712.setTop (mkF m 752 Lb404 [(.int (0 : Int32)), (.ref a202)]))
        refine own_daload X712 hx hZ e712 Fhi (i := 0) rfl (by decide) (x := (FP.l2d ((p3.toInt64) + (r0.toInt64)))) rfl rfl rfl (hb hby at_752) ?_
        show own_Win p e below s _ _ _ (T712.setTop (mkF m 753 Lb404 [(.double (FP.l2d ((p3.toInt64) + (r0.toInt64))))]))
        refine own_st (fun _ kz => XS.dload X712.here hx rfl (v := (FP.l2d ((p3.toInt64) + (r0.toInt64)))) (hb hby at_753) (by show Lb404[_]? = _; rw [hLb404]; rfl) kz) ?_
        show own_Win p e below s _ _ _ (T712.setTop (mkF m 755 Lb404 [(.double (FP.l2d ((p3.toInt64) + (r0.toInt64)))), (.double (FP.l2d ((p3.toInt64) + (r0.toInt64))))]))
        refine own_st (fun _ kz => XS.dcmpS X712.here hx rfl (hb hby at_755) rfl rfl kz) ?_
        show own_Win p e below s _ _ _ (T712.setTop (mkF m 756 Lb404 [(.int (cmpValue (FP.dcmp (FP.l2d ((p3.toInt64) + (r0.toInt64))) (FP.l2d ((p3.toInt64) + (r0.toInt64)))) .l))]))
        refine own_st (fun _ kz => XS.ifNo X712.here hx rfl (hb hby at_756) rfl (by rw [own_hc dhi0 dhi0]; exact decide_eq_false (by omega)) kz) ?_
        show own_Win p e below s _ _ _ (T712.setTop (mkF m 759 Lb404 []))
        refine own_st (fun _ kz => XS.aload X712.here hx rfl (v := (.ref a202)) (hb hby at_759) (by show Lb404[_]? = _; rw [hLb404]; rfl) rfl kz) ?_
        show own_Win p e below s _ _ _ (T712.setTop (mkF m 761 Lb404 [(.ref a202)]))
        refine own_st (fun _ kz => XS.iconst X712.here hx rfl (hb hby at_761) kz) ?_
        show own_Win p e below s _ _ _ (T712.setTop (mkF m 762 Lb404 [(.int (1 : Int32)), (.ref a202)]))
        refine own_daload X712 hx hZ e712 Fhi (i := 1) rfl (by decide) (x := (FP.l2d ((p4.toInt64) + (r1.toInt64)))) rfl rfl rfl (hb hby at_762) ?_
        show own_Win p e below s _ _ _ (T712.setTop (mkF m 763 Lb404 [(.double (FP.l2d ((p4.toInt64) + (r1.toInt64))))]))
        refine own_st (fun _ kz => XS.dload X712.here hx rfl (v := (FP.l2d ((p4.toInt64) + (r1.toInt64)))) (hb hby at_763) (by show Lb404[_]? = _; rw [hLb404]; rfl) kz) ?_
        show own_Win p e below s _ _ _ (T712.setTop (mkF m 765 Lb404 [(.double (FP.l2d ((p4.toInt64) + (r1.toInt64)))), (.double (FP.l2d ((p4.toInt64) + (r1.toInt64))))]))
        refine own_st (fun _ kz => XS.dcmpS X712.here hx rfl (hb hby at_765) rfl rfl kz) ?_
        show own_Win p e below s _ _ _ (T712.setTop (mkF m 766 Lb404 [(.int (cmpValue (FP.dcmp (FP.l2d ((p4.toInt64) + (r1.toInt64))) (FP.l2d ((p4.toInt64) + (r1.toInt64)))) .l))]))
        refine own_st (fun _ kz => XS.ifNo X712.here hx rfl (hb hby at_766) rfl (by rw [own_hc dhi1 dhi1]; exact decide_eq_false (by omega)) kz) ?_
        show own_Win p e below s _ _ _ (T712.setTop (mkF m 769 Lb404 []))
        refine own_st (fun _ kz => XS.iconst X712.here hx rfl (hb hby at_769) kz) ?_
        show own_Win p e below s _ _ _ (T712.setTop (mkF m 770 Lb404 [(.int (1 : Int32))]))
        refine own_st (fun _ kz => XS.goto X712.here hx rfl (pc0 := 770) (pc' := 774) rfl (hb hby at_770) (by decide) (by decide) kz) ?_
        show own_Win p e below s _ _ _ (T712.setTop (mkF m 774 Lb404 [(.int (1 : Int32))]))
        obtain ⟨Lb405, hLb405⟩ : ∃ L : Array Slot, L = #[.val (.long p1), .second, .val (.long p2), .second, .val (.int p3), .val (.int p4), .val (.int p5), .val (.int r0), .val (.int r1), .val (.int s0), .val (.int s1), .val (.int sv), .val (.int ev), .val (.int nw), .val (.int wv), .val (.ref a1), .val (.ref a2), .val (.ref a3), .val (.ref a4), .val (.double (FP.i2d p3)), .second, .val (.double (FP.i2d p4)), .second, .val (.double (FP.l2d ((p3.toInt64) + (r0.toInt64)))), .second, .val (.double (FP.l2d ((p4.toInt64) + (r1.toInt64)))), .second, .val (.ref a201), .val (.ref a202), .val (.ref a203), .val (.ref t), .val (.int (0 : Int32)), .val (.int sp), .val (.int (XT.ushr (sv + ev) (1 : Int32))), .val (.int (Int32.ofNat (own_w r0.toInt r1.toInt s0.toInt s1.toInt))), .val (.int (1 : Int32)), .unset] := ⟨_, rfl⟩
        refine own_st (fun _ kz => XS.istore X712.here hx rfl (hb hby at_774) rfl (l' := Lb405) (by show storeLocals Lb404 _ _ = _; rw [hLb404, hLb405]; rfl) kz) ?_
        show own_Win p e below s _ _ _ (T712.setTop (mkF m 776 Lb405 []))
        refine own_st (fun _ kz => XS.iload X712.here hx rfl (v := (1 : Int32)) (hb hby at_776) (by show Lb405[_]? = _; rw [hLb405]; rfl) kz) ?_
        show own_Win p e below s _ _ _ (T712.setTop (mkF m 778 Lb405 [(.int (1 : Int32))]))
        refine own_st (fun _ kz => XS.ifNo X712.here hx rfl (hb hby at_778) rfl (by decide) kz) ?_
        show own_Win p e below s _ _ _ (T712.setTop (mkF m 781 Lb405 []))
        refine own_st (fun _ kz => XS.aload X712.here hx rfl (v := (.ref a203)) (hb hby at_781) (by show Lb405[_]? = _; rw [hLb405]; rfl) rfl kz) ?_
        show own_Win p e below s _ _ _ (T712.setTop (mkF m 783 Lb405 [(.ref a203)]))
        refine own_st (fun _ kz => XS.iconst X712.here hx rfl (hb hby at_783) kz) ?_
        show own_Win p e below s _ _ _ (T712.setTop (mkF m 784 Lb405 [(.int (0 : Int32)), (.ref a203)]))
        refine own_daload X712 hx hZ e712 Fsp (i := 0) rfl (by decide) (x := (FP.i2d s0)) rfl rfl rfl (hb hby at_784) ?_
        show own_Win p e below s _ _ _ (T712.setTop (mkF m 785 Lb405 [(.double (FP.i2d s0))]))
        refine own_st (fun _ kz => XS.iload X712.here hx rfl (v := s0) (hb hby at_785) (by show Lb405[_]? = _; rw [hLb405]; rfl) kz) ?_
        show own_Win p e below s _ _ _ (T712.setTop (mkF m 787 Lb405 [(.int s0), (.double (FP.i2d s0))]))
        refine own_st (fun _ kz => XS.i2dS X712.here hx rfl (hb hby at_787) rfl rfl kz) ?_
        show own_Win p e below s _ _ _ (T712.setTop (mkF m 788 Lb405 [(.double (FP.i2d s0)), (.double (FP.i2d s0))]))
        refine own_st (fun _ kz => XS.dcmpS X712.here hx rfl (hb hby at_788) rfl rfl kz) ?_
        show own_Win p e below s _ _ _ (T712.setTop (mkF m 789 Lb405 [(.int (cmpValue (FP.dcmp (FP.i2d s0) (FP.i2d s0)) .l))]))
        refine own_st (fun _ kz => XS.ifNo X712.here hx rfl (hb hby at_789) rfl (by rw [own_hc dsp0 dsp0]; exact decide_eq_false (by omega)) kz) ?_
        show own_Win p e below s _ _ _ (T712.setTop (mkF m 792 Lb405 []))
        refine own_st (fun _ kz => XS.aload X712.here hx rfl (v := (.ref a203)) (hb hby at_792) (by show Lb405[_]? = _; rw [hLb405]; rfl) rfl kz) ?_
        show own_Win p e below s _ _ _ (T712.setTop (mkF m 794 Lb405 [(.ref a203)]))
        refine own_st (fun _ kz => XS.iconst X712.here hx rfl (hb hby at_794) kz) ?_
        show own_Win p e below s _ _ _ (T712.setTop (mkF m 795 Lb405 [(.int (1 : Int32)), (.ref a203)]))
        refine own_daload X712 hx hZ e712 Fsp (i := 1) rfl (by decide) (x := (FP.i2d s1)) rfl rfl rfl (hb hby at_795) ?_
        show own_Win p e below s _ _ _ (T712.setTop (mkF m 796 Lb405 [(.double (FP.i2d s1))]))
        refine own_st (fun _ kz => XS.iload X712.here hx rfl (v := s1) (hb hby at_796) (by show Lb405[_]? = _; rw [hLb405]; rfl) kz) ?_
        show own_Win p e below s _ _ _ (T712.setTop (mkF m 798 Lb405 [(.int s1), (.double (FP.i2d s1))]))
        refine own_st (fun _ kz => XS.i2dS X712.here hx rfl (hb hby at_798) rfl rfl kz) ?_
        show own_Win p e below s _ _ _ (T712.setTop (mkF m 799 Lb405 [(.double (FP.i2d s1)), (.double (FP.i2d s1))]))
        refine own_st (fun _ kz => XS.dcmpS X712.here hx rfl (hb hby at_799) rfl rfl kz) ?_
        show own_Win p e below s _ _ _ (T712.setTop (mkF m 800 Lb405 [(.int (cmpValue (FP.dcmp (FP.i2d s1) (FP.i2d s1)) .l))]))
        refine own_st (fun _ kz => XS.ifNo X712.here hx rfl (hb hby at_800) rfl (by rw [own_hc dsp1 dsp1]; exact decide_eq_false (by omega)) kz) ?_
        show own_Win p e below s _ _ _ (T712.setTop (mkF m 803 Lb405 []))
        refine own_st (fun _ kz => XS.iconst X712.here hx rfl (hb hby at_803) kz) ?_
        show own_Win p e below s _ _ _ (T712.setTop (mkF m 804 Lb405 [(.int (1 : Int32))]))
        refine own_st (fun _ kz => XS.goto X712.here hx rfl (pc0 := 804) (pc' := 808) rfl (hb hby at_804) (by decide) (by decide) kz) ?_
        show own_Win p e below s _ _ _ (T712.setTop (mkF m 808 Lb405 [(.int (1 : Int32))]))
        obtain ⟨Lb406, hLb406⟩ : ∃ L : Array Slot, L = #[.val (.long p1), .second, .val (.long p2), .second, .val (.int p3), .val (.int p4), .val (.int p5), .val (.int r0), .val (.int r1), .val (.int s0), .val (.int s1), .val (.int sv), .val (.int ev), .val (.int nw), .val (.int wv), .val (.ref a1), .val (.ref a2), .val (.ref a3), .val (.ref a4), .val (.double (FP.i2d p3)), .second, .val (.double (FP.i2d p4)), .second, .val (.double (FP.l2d ((p3.toInt64) + (r0.toInt64)))), .second, .val (.double (FP.l2d ((p4.toInt64) + (r1.toInt64)))), .second, .val (.ref a201), .val (.ref a202), .val (.ref a203), .val (.ref t), .val (.int (0 : Int32)), .val (.int sp), .val (.int (XT.ushr (sv + ev) (1 : Int32))), .val (.int (Int32.ofNat (own_w r0.toInt r1.toInt s0.toInt s1.toInt))), .val (.int (1 : Int32)), .unset] := ⟨_, rfl⟩
        refine own_st (fun _ kz => XS.istore X712.here hx rfl (hb hby at_808) rfl (l' := Lb406) (by show storeLocals Lb405 _ _ = _; rw [hLb405, hLb406]; rfl) kz) ?_
        show own_Win p e below s _ _ _ (T712.setTop (mkF m 810 Lb406 []))
        refine own_st (fun _ kz => XS.iload X712.here hx rfl (v := sp) (hb hby at_810) (by show Lb406[_]? = _; rw [hLb406]; rfl) kz) ?_
        show own_Win p e below s _ _ _ (T712.setTop (mkF m 812 Lb406 [(.int sp)]))
        rcases hc with ⟨hsp, hA⟩ | ⟨hsp, hB⟩
        ·
          refine own_st (fun _ kz => XS.ifYes X712.here hx rfl (pc0 := 812) (pc' := 968) rfl (hb hby at_812) rfl (by rw [hsp]; decide) (by decide) (by decide) kz) ?_
          show own_Win p e below s _ _ _ (T712.setTop (mkF m 968 Lb406 []))
          refine own_st (fun _ kz => XS.iload X712.here hx rfl (v := (1 : Int32)) (hb hby at_968) (by show Lb406[_]? = _; rw [hLb406]; rfl) kz) ?_
          show own_Win p e below s _ _ _ (T712.setTop (mkF m 970 Lb406 [(.int (1 : Int32))]))
          refine own_st (fun _ kz => XS.ifNo X712.here hx rfl (hb hby at_970) rfl (by decide) kz) ?_
          show own_Win p e below s _ _ _ (T712.setTop (mkF m 973 Lb406 []))
          refine own_st (fun _ kz => XS.aload X712.here hx rfl (v := (.ref t)) (hb hby at_973) (by show Lb406[_]? = _; rw [hLb406]; rfl) rfl kz) ?_
          show own_Win p e below s _ _ _ (T712.setTop (mkF m 975 Lb406 [(.ref t)]))
          obtain ⟨T713, X713, e713, st713⟩ := getF X712 hx hZ hown (host := "") (Or.inl (hw _ (List.mem_of_getElem? (i := 43) rfl))) Via.refl e712 FS.2.2.2.2.2.2.1 (g := (mkF m 975 Lb406 [(.ref t)])) rfl rfl (hb hby at_975)
          refine own_st st713 ?_
          show own_Win p e below s _ _ _ (T713.setTop (mkF m 978 Lb406 [(.ref aL)]))
          refine own_st (fun _ kz => XS.iconst X713.here hx rfl (hb hby at_978) kz) ?_
          show own_Win p e below s _ _ _ (T713.setTop (mkF m 979 Lb406 [(.int (0 : Int32)), (.ref aL)]))
          refine own_iaload X713 hx hZ e713 GL (i := 0) rfl (by decide) (x := (-1 : Int32)) hA.2.1 rfl rfl (hb hby at_979) ?_
          show own_Win p e below s _ _ _ (T713.setTop (mkF m 980 Lb406 [(.int (-1 : Int32))]))
          refine own_st (fun _ kz => XS.iconst X713.here hx rfl (hb hby at_980) kz) ?_
          show own_Win p e below s _ _ _ (T713.setTop (mkF m 981 Lb406 [(.int (-1 : Int32)), (.int (-1 : Int32))]))
          refine own_st (fun _ kz => XS.icmpNo X713.here hx rfl (hb hby at_981) rfl (teq rfl).2 kz) ?_
          show own_Win p e below s _ _ _ (T713.setTop (mkF m 984 Lb406 []))
          refine own_st (fun _ kz => XS.aload X713.here hx rfl (v := (.ref t)) (hb hby at_984) (by show Lb406[_]? = _; rw [hLb406]; rfl) rfl kz) ?_
          show own_Win p e below s _ _ _ (T713.setTop (mkF m 986 Lb406 [(.ref t)]))
          obtain ⟨T714, X714, e714, st714⟩ := getF X713 hx hZ hown (host := "") (Or.inl (hw _ (List.mem_of_getElem? (i := 44) rfl))) Via.refl e713 FS.2.2.2.2.2.2.2.1 (g := (mkF m 986 Lb406 [(.ref t)])) rfl rfl (hb hby at_986)
          refine own_st st714 ?_
          show own_Win p e below s _ _ _ (T714.setTop (mkF m 989 Lb406 [(.ref aH)]))
          refine own_st (fun _ kz => XS.iconst X714.here hx rfl (hb hby at_989) kz) ?_
          show own_Win p e below s _ _ _ (T714.setTop (mkF m 990 Lb406 [(.int (0 : Int32)), (.ref aH)]))
          refine own_iaload X714 hx hZ e714 GH (i := 0) rfl (by decide) (x := (-1 : Int32)) hA.2.2 rfl rfl (hb hby at_990) ?_
          show own_Win p e below s _ _ _ (T714.setTop (mkF m 991 Lb406 [(.int (-1 : Int32))]))
          refine own_st (fun _ kz => XS.iconst X714.here hx rfl (hb hby at_991) kz) ?_
          show own_Win p e below s _ _ _ (T714.setTop (mkF m 992 Lb406 [(.int (-1 : Int32)), (.int (-1 : Int32))]))
          refine own_st (fun _ kz => XS.icmpNo X714.here hx rfl (hb hby at_992) rfl (teq rfl).2 kz) ?_
          show own_Win p e below s _ _ _ (T714.setTop (mkF m 995 Lb406 []))
          refine own_st (fun _ kz => XS.iconst X714.here hx rfl (hb hby at_995) kz) ?_
          show own_Win p e below s _ _ _ (T714.setTop (mkF m 996 Lb406 [(.int (1 : Int32))]))
          refine own_st (fun _ kz => XS.goto X714.here hx rfl (pc0 := 996) (pc' := 1000) rfl (hb hby at_996) (by decide) (by decide) kz) ?_
          show own_Win p e below s _ _ _ (T714.setTop (mkF m 1000 Lb406 [(.int (1 : Int32))]))
          obtain ⟨Lb407, hLb407⟩ : ∃ L : Array Slot, L = #[.val (.long p1), .second, .val (.long p2), .second, .val (.int p3), .val (.int p4), .val (.int p5), .val (.int r0), .val (.int r1), .val (.int s0), .val (.int s1), .val (.int sv), .val (.int ev), .val (.int nw), .val (.int wv), .val (.ref a1), .val (.ref a2), .val (.ref a3), .val (.ref a4), .val (.double (FP.i2d p3)), .second, .val (.double (FP.i2d p4)), .second, .val (.double (FP.l2d ((p3.toInt64) + (r0.toInt64)))), .second, .val (.double (FP.l2d ((p4.toInt64) + (r1.toInt64)))), .second, .val (.ref a201), .val (.ref a202), .val (.ref a203), .val (.ref t), .val (.int (0 : Int32)), .val (.int sp), .val (.int (XT.ushr (sv + ev) (1 : Int32))), .val (.int (Int32.ofNat (own_w r0.toInt r1.toInt s0.toInt s1.toInt))), .val (.int (1 : Int32)), .unset] := ⟨_, rfl⟩
          refine own_st (fun _ kz => XS.istore X714.here hx rfl (hb hby at_1000) rfl (l' := Lb407) (by show storeLocals Lb406 _ _ = _; rw [hLb406, hLb407]; rfl) kz) ?_
          show own_Win p e below s _ _ _ (T714.setTop (mkF m 1002 Lb407 []))
          rw [hLb407]
          exact tlE _ _ sp X714 e714 N700 (Or.inl ⟨hsp, hA⟩)
        ·
          have hB2 := hB
          obtain ⟨-, b1, b2, b3, b4, b5, b6, b7, b8, b9, b10⟩ := hB2
          refine own_st (fun _ kz => XS.ifNo X712.here hx rfl (hb hby at_812) rfl (by rw [hsp]; decide) kz) ?_
          show own_Win p e below s _ _ _ (T712.setTop (mkF m 815 Lb406 []))
          refine own_st (fun _ kz => XS.iload X712.here hx rfl (v := (1 : Int32)) (hb hby at_815) (by show Lb406[_]? = _; rw [hLb406]; rfl) kz) ?_
          show own_Win p e below s _ _ _ (T712.setTop (mkF m 817 Lb406 [(.int (1 : Int32))]))
          refine own_st (fun _ kz => XS.ifNo X712.here hx rfl (hb hby at_817) rfl (by decide) kz) ?_
          show own_Win p e below s _ _ _ (T712.setTop (mkF m 820 Lb406 []))
          refine own_st (fun _ kz => XS.aload X712.here hx rfl (v := (.ref t)) (hb hby at_820) (by show Lb406[_]? = _; rw [hLb406]; rfl) rfl kz) ?_
          show own_Win p e below s _ _ _ (T712.setTop (mkF m 822 Lb406 [(.ref t)]))
          obtain ⟨T713, X713, e713, st713⟩ := getF X712 hx hZ hown (host := "") (Or.inl (hw _ (List.mem_of_getElem? (i := 43) rfl))) Via.refl e712 FS.2.2.2.2.2.2.1 (g := (mkF m 822 Lb406 [(.ref t)])) rfl rfl (hb hby at_822)
          refine own_st st713 ?_
          show own_Win p e below s _ _ _ (T713.setTop (mkF m 825 Lb406 [(.ref aL)]))
          refine own_st (fun _ kz => XS.iconst X713.here hx rfl (hb hby at_825) kz) ?_
          show own_Win p e below s _ _ _ (T713.setTop (mkF m 826 Lb406 [(.int (0 : Int32)), (.ref aL)]))
          refine own_iaload X713 hx hZ e713 GL (i := 0) rfl (by decide) (x := (1 : Int32)) b1 rfl rfl (hb hby at_826) ?_
          show own_Win p e below s _ _ _ (T713.setTop (mkF m 827 Lb406 [(.int (1 : Int32))]))
          refine own_st (fun _ kz => XS.iconst X713.here hx rfl (hb hby at_827) kz) ?_
          show own_Win p e below s _ _ _ (T713.setTop (mkF m 828 Lb406 [(.int (1 : Int32)), (.int (1 : Int32))]))
          refine own_st (fun _ kz => XS.icmpNo X713.here hx rfl (hb hby at_828) rfl (teq rfl).2 kz) ?_
          show own_Win p e below s _ _ _ (T713.setTop (mkF m 831 Lb406 []))
          refine own_st (fun _ kz => XS.aload X713.here hx rfl (v := (.ref t)) (hb hby at_831) (by show Lb406[_]? = _; rw [hLb406]; rfl) rfl kz) ?_
          show own_Win p e below s _ _ _ (T713.setTop (mkF m 833 Lb406 [(.ref t)]))
          obtain ⟨T714, X714, e714, st714⟩ := getF X713 hx hZ hown (host := "") (Or.inl (hw _ (List.mem_of_getElem? (i := 44) rfl))) Via.refl e713 FS.2.2.2.2.2.2.2.1 (g := (mkF m 833 Lb406 [(.ref t)])) rfl rfl (hb hby at_833)
          refine own_st st714 ?_
          show own_Win p e below s _ _ _ (T714.setTop (mkF m 836 Lb406 [(.ref aH)]))
          refine own_st (fun _ kz => XS.iconst X714.here hx rfl (hb hby at_836) kz) ?_
          show own_Win p e below s _ _ _ (T714.setTop (mkF m 837 Lb406 [(.int (0 : Int32)), (.ref aH)]))
          refine own_iaload X714 hx hZ e714 GH (i := 0) rfl (by decide) (x := (2 : Int32)) b2 rfl rfl (hb hby at_837) ?_
          show own_Win p e below s _ _ _ (T714.setTop (mkF m 838 Lb406 [(.int (2 : Int32))]))
          refine own_st (fun _ kz => XS.iconst X714.here hx rfl (hb hby at_838) kz) ?_
          show own_Win p e below s _ _ _ (T714.setTop (mkF m 839 Lb406 [(.int (2 : Int32)), (.int (2 : Int32))]))
          refine own_st (fun _ kz => XS.icmpNo X714.here hx rfl (hb hby at_839) rfl (teq rfl).2 kz) ?_
          show own_Win p e below s _ _ _ (T714.setTop (mkF m 842 Lb406 []))
          refine own_st (fun _ kz => XS.iconst X714.here hx rfl (hb hby at_842) kz) ?_
          show own_Win p e below s _ _ _ (T714.setTop (mkF m 843 Lb406 [(.int (1 : Int32))]))
          refine own_st (fun _ kz => XS.goto X714.here hx rfl (pc0 := 843) (pc' := 847) rfl (hb hby at_843) (by decide) (by decide) kz) ?_
          show own_Win p e below s _ _ _ (T714.setTop (mkF m 847 Lb406 [(.int (1 : Int32))]))
          obtain ⟨Lb407, hLb407⟩ : ∃ L : Array Slot, L = #[.val (.long p1), .second, .val (.long p2), .second, .val (.int p3), .val (.int p4), .val (.int p5), .val (.int r0), .val (.int r1), .val (.int s0), .val (.int s1), .val (.int sv), .val (.int ev), .val (.int nw), .val (.int wv), .val (.ref a1), .val (.ref a2), .val (.ref a3), .val (.ref a4), .val (.double (FP.i2d p3)), .second, .val (.double (FP.i2d p4)), .second, .val (.double (FP.l2d ((p3.toInt64) + (r0.toInt64)))), .second, .val (.double (FP.l2d ((p4.toInt64) + (r1.toInt64)))), .second, .val (.ref a201), .val (.ref a202), .val (.ref a203), .val (.ref t), .val (.int (0 : Int32)), .val (.int sp), .val (.int (XT.ushr (sv + ev) (1 : Int32))), .val (.int (Int32.ofNat (own_w r0.toInt r1.toInt s0.toInt s1.toInt))), .val (.int (1 : Int32)), .unset] := ⟨_, rfl⟩
          refine own_st (fun _ kz => XS.istore X714.here hx rfl (hb hby at_847) rfl (l' := Lb407) (by show storeLocals Lb406 _ _ = _; rw [hLb406, hLb407]; rfl) kz) ?_
          show own_Win p e below s _ _ _ (T714.setTop (mkF m 849 Lb407 []))
          refine own_st (fun _ kz => XS.iload X714.here hx rfl (v := (1 : Int32)) (hb hby at_849) (by show Lb407[_]? = _; rw [hLb407]; rfl) kz) ?_
          show own_Win p e below s _ _ _ (T714.setTop (mkF m 851 Lb407 [(.int (1 : Int32))]))
          refine own_st (fun _ kz => XS.ifNo X714.here hx rfl (hb hby at_851) rfl (by decide) kz) ?_
          show own_Win p e below s _ _ _ (T714.setTop (mkF m 854 Lb407 []))
          refine own_st (fun _ kz => XS.aload X714.here hx rfl (v := (.ref t)) (hb hby at_854) (by show Lb407[_]? = _; rw [hLb407]; rfl) rfl kz) ?_
          show own_Win p e below s _ _ _ (T714.setTop (mkF m 856 Lb407 [(.ref t)]))
          obtain ⟨T715, X715, e715, st715⟩ := getF X714 hx hZ hown (host := "") (Or.inl (hw _ (List.mem_of_getElem? (i := 41) rfl))) Via.refl e714 FS.2.2.2.2.1 (g := (mkF m 856 Lb407 [(.ref t)])) rfl rfl (hb hby at_856)
          refine own_st st715 ?_
          show own_Win p e below s _ _ _ (T715.setTop (mkF m 859 Lb407 [(.ref aF)]))
          refine own_st (fun _ kz => XS.iconst X715.here hx rfl (hb hby at_859) kz) ?_
          show own_Win p e below s _ _ _ (T715.setTop (mkF m 860 Lb407 [(.int (1 : Int32)), (.ref aF)]))
          refine own_iaload X715 hx hZ e715 GF (i := 1) rfl (by decide) (x := sv) b3 rfl rfl (hb hby at_860) ?_
          show own_Win p e below s _ _ _ (T715.setTop (mkF m 861 Lb407 [(.int sv)]))
          refine own_st (fun _ kz => XS.iload X715.here hx rfl (v := sv) (hb hby at_861) (by show Lb407[_]? = _; rw [hLb407]; rfl) kz) ?_
          show own_Win p e below s _ _ _ (T715.setTop (mkF m 863 Lb407 [(.int sv), (.int sv)]))
          refine own_st (fun _ kz => XS.icmpNo X715.here hx rfl (hb hby at_863) rfl (teq rfl).2 kz) ?_
          show own_Win p e below s _ _ _ (T715.setTop (mkF m 866 Lb407 []))
          refine own_st (fun _ kz => XS.aload X715.here hx rfl (v := (.ref t)) (hb hby at_866) (by show Lb407[_]? = _; rw [hLb407]; rfl) rfl kz) ?_
          show own_Win p e below s _ _ _ (T715.setTop (mkF m 868 Lb407 [(.ref t)]))
          obtain ⟨T716, X716, e716, st716⟩ := getF X715 hx hZ hown (host := "") (Or.inl (hw _ (List.mem_of_getElem? (i := 42) rfl))) Via.refl e715 FS.2.2.2.2.2.1 (g := (mkF m 868 Lb407 [(.ref t)])) rfl rfl (hb hby at_868)
          refine own_st st716 ?_
          show own_Win p e below s _ _ _ (T716.setTop (mkF m 871 Lb407 [(.ref aT)]))
          refine own_st (fun _ kz => XS.iconst X716.here hx rfl (hb hby at_871) kz) ?_
          show own_Win p e below s _ _ _ (T716.setTop (mkF m 872 Lb407 [(.int (1 : Int32)), (.ref aT)]))
          refine own_iaload X716 hx hZ e716 GU (i := 1) rfl (by decide) (x := (XT.ushr (sv + ev) (1 : Int32))) b4 rfl rfl (hb hby at_872) ?_
          show own_Win p e below s _ _ _ (T716.setTop (mkF m 873 Lb407 [(.int (XT.ushr (sv + ev) (1 : Int32)))]))
          refine own_st (fun _ kz => XS.iload X716.here hx rfl (v := (XT.ushr (sv + ev) (1 : Int32))) (hb hby at_873) (by show Lb407[_]? = _; rw [hLb407]; rfl) kz) ?_
          show own_Win p e below s _ _ _ (T716.setTop (mkF m 875 Lb407 [(.int (XT.ushr (sv + ev) (1 : Int32))), (.int (XT.ushr (sv + ev) (1 : Int32)))]))
          refine own_st (fun _ kz => XS.icmpNo X716.here hx rfl (hb hby at_875) rfl (teq rfl).2 kz) ?_
          show own_Win p e below s _ _ _ (T716.setTop (mkF m 878 Lb407 []))
          refine own_st (fun _ kz => XS.aload X716.here hx rfl (v := (.ref t)) (hb hby at_878) (by show Lb407[_]? = _; rw [hLb407]; rfl) rfl kz) ?_
          show own_Win p e below s _ _ _ (T716.setTop (mkF m 880 Lb407 [(.ref t)]))
          obtain ⟨T717, X717, e717, st717⟩ := getF X716 hx hZ hown (host := "") (Or.inl (hw _ (List.mem_of_getElem? (i := 43) rfl))) Via.refl e716 FS.2.2.2.2.2.2.1 (g := (mkF m 880 Lb407 [(.ref t)])) rfl rfl (hb hby at_880)
          refine own_st st717 ?_
          show own_Win p e below s _ _ _ (T717.setTop (mkF m 883 Lb407 [(.ref aL)]))
          refine own_st (fun _ kz => XS.iconst X717.here hx rfl (hb hby at_883) kz) ?_
          show own_Win p e below s _ _ _ (T717.setTop (mkF m 884 Lb407 [(.int (1 : Int32)), (.ref aL)]))
          refine own_iaload X717 hx hZ e717 GL (i := 1) rfl (by decide) (x := (-1 : Int32)) b5 rfl rfl (hb hby at_884) ?_
          show own_Win p e below s _ _ _ (T717.setTop (mkF m 885 Lb407 [(.int (-1 : Int32))]))
          refine own_st (fun _ kz => XS.iconst X717.here hx rfl (hb hby at_885) kz) ?_
          show own_Win p e below s _ _ _ (T717.setTop (mkF m 886 Lb407 [(.int (-1 : Int32)), (.int (-1 : Int32))]))
          refine own_st (fun _ kz => XS.icmpNo X717.here hx rfl (hb hby at_886) rfl (teq rfl).2 kz) ?_
          show own_Win p e below s _ _ _ (T717.setTop (mkF m 889 Lb407 []))
          refine own_st (fun _ kz => XS.aload X717.here hx rfl (v := (.ref t)) (hb hby at_889) (by show Lb407[_]? = _; rw [hLb407]; rfl) rfl kz) ?_
          show own_Win p e below s _ _ _ (T717.setTop (mkF m 891 Lb407 [(.ref t)]))
          obtain ⟨T718, X718, e718, st718⟩ := getF X717 hx hZ hown (host := "") (Or.inl (hw _ (List.mem_of_getElem? (i := 44) rfl))) Via.refl e717 FS.2.2.2.2.2.2.2.1 (g := (mkF m 891 Lb407 [(.ref t)])) rfl rfl (hb hby at_891)
          refine own_st st718 ?_
          show own_Win p e below s _ _ _ (T718.setTop (mkF m 894 Lb407 [(.ref aH)]))
          refine own_st (fun _ kz => XS.iconst X718.here hx rfl (hb hby at_894) kz) ?_
          show own_Win p e below s _ _ _ (T718.setTop (mkF m 895 Lb407 [(.int (1 : Int32)), (.ref aH)]))
          refine own_iaload X718 hx hZ e718 GH (i := 1) rfl (by decide) (x := (-1 : Int32)) b6 rfl rfl (hb hby at_895) ?_
          show own_Win p e below s _ _ _ (T718.setTop (mkF m 896 Lb407 [(.int (-1 : Int32))]))
          refine own_st (fun _ kz => XS.iconst X718.here hx rfl (hb hby at_896) kz) ?_
          show own_Win p e below s _ _ _ (T718.setTop (mkF m 897 Lb407 [(.int (-1 : Int32)), (.int (-1 : Int32))]))
          refine own_st (fun _ kz => XS.icmpNo X718.here hx rfl (hb hby at_897) rfl (teq rfl).2 kz) ?_
          show own_Win p e below s _ _ _ (T718.setTop (mkF m 900 Lb407 []))
          refine own_st (fun _ kz => XS.iconst X718.here hx rfl (hb hby at_900) kz) ?_
          show own_Win p e below s _ _ _ (T718.setTop (mkF m 901 Lb407 [(.int (1 : Int32))]))
          refine own_st (fun _ kz => XS.goto X718.here hx rfl (pc0 := 901) (pc' := 905) rfl (hb hby at_901) (by decide) (by decide) kz) ?_
          show own_Win p e below s _ _ _ (T718.setTop (mkF m 905 Lb407 [(.int (1 : Int32))]))
          obtain ⟨Lb408, hLb408⟩ : ∃ L : Array Slot, L = #[.val (.long p1), .second, .val (.long p2), .second, .val (.int p3), .val (.int p4), .val (.int p5), .val (.int r0), .val (.int r1), .val (.int s0), .val (.int s1), .val (.int sv), .val (.int ev), .val (.int nw), .val (.int wv), .val (.ref a1), .val (.ref a2), .val (.ref a3), .val (.ref a4), .val (.double (FP.i2d p3)), .second, .val (.double (FP.i2d p4)), .second, .val (.double (FP.l2d ((p3.toInt64) + (r0.toInt64)))), .second, .val (.double (FP.l2d ((p4.toInt64) + (r1.toInt64)))), .second, .val (.ref a201), .val (.ref a202), .val (.ref a203), .val (.ref t), .val (.int (0 : Int32)), .val (.int sp), .val (.int (XT.ushr (sv + ev) (1 : Int32))), .val (.int (Int32.ofNat (own_w r0.toInt r1.toInt s0.toInt s1.toInt))), .val (.int (1 : Int32)), .unset] := ⟨_, rfl⟩
          refine own_st (fun _ kz => XS.istore X718.here hx rfl (hb hby at_905) rfl (l' := Lb408) (by show storeLocals Lb407 _ _ = _; rw [hLb407, hLb408]; rfl) kz) ?_
          show own_Win p e below s _ _ _ (T718.setTop (mkF m 907 Lb408 []))
          refine own_st (fun _ kz => XS.iload X718.here hx rfl (v := (1 : Int32)) (hb hby at_907) (by show Lb408[_]? = _; rw [hLb408]; rfl) kz) ?_
          show own_Win p e below s _ _ _ (T718.setTop (mkF m 909 Lb408 [(.int (1 : Int32))]))
          refine own_st (fun _ kz => XS.ifNo X718.here hx rfl (hb hby at_909) rfl (by decide) kz) ?_
          show own_Win p e below s _ _ _ (T718.setTop (mkF m 912 Lb408 []))
          refine own_st (fun _ kz => XS.aload X718.here hx rfl (v := (.ref t)) (hb hby at_912) (by show Lb408[_]? = _; rw [hLb408]; rfl) rfl kz) ?_
          show own_Win p e below s _ _ _ (T718.setTop (mkF m 914 Lb408 [(.ref t)]))
          obtain ⟨T719, X719, e719, st719⟩ := getF X718 hx hZ hown (host := "") (Or.inl (hw _ (List.mem_of_getElem? (i := 41) rfl))) Via.refl e718 FS.2.2.2.2.1 (g := (mkF m 914 Lb408 [(.ref t)])) rfl rfl (hb hby at_914)
          refine own_st st719 ?_
          show own_Win p e below s _ _ _ (T719.setTop (mkF m 917 Lb408 [(.ref aF)]))
          refine own_st (fun _ kz => XS.iconst X719.here hx rfl (hb hby at_917) kz) ?_
          show own_Win p e below s _ _ _ (T719.setTop (mkF m 918 Lb408 [(.int (2 : Int32)), (.ref aF)]))
          refine own_iaload X719 hx hZ e719 GF (i := 2) rfl (by decide) (x := (XT.ushr (sv + ev) (1 : Int32))) b7 rfl rfl (hb hby at_918) ?_
          show own_Win p e below s _ _ _ (T719.setTop (mkF m 919 Lb408 [(.int (XT.ushr (sv + ev) (1 : Int32)))]))
          refine own_st (fun _ kz => XS.iload X719.here hx rfl (v := (XT.ushr (sv + ev) (1 : Int32))) (hb hby at_919) (by show Lb408[_]? = _; rw [hLb408]; rfl) kz) ?_
          show own_Win p e below s _ _ _ (T719.setTop (mkF m 921 Lb408 [(.int (XT.ushr (sv + ev) (1 : Int32))), (.int (XT.ushr (sv + ev) (1 : Int32)))]))
          refine own_st (fun _ kz => XS.icmpNo X719.here hx rfl (hb hby at_921) rfl (teq rfl).2 kz) ?_
          show own_Win p e below s _ _ _ (T719.setTop (mkF m 924 Lb408 []))
          refine own_st (fun _ kz => XS.aload X719.here hx rfl (v := (.ref t)) (hb hby at_924) (by show Lb408[_]? = _; rw [hLb408]; rfl) rfl kz) ?_
          show own_Win p e below s _ _ _ (T719.setTop (mkF m 926 Lb408 [(.ref t)]))
          obtain ⟨T720, X720, e720, st720⟩ := getF X719 hx hZ hown (host := "") (Or.inl (hw _ (List.mem_of_getElem? (i := 42) rfl))) Via.refl e719 FS.2.2.2.2.2.1 (g := (mkF m 926 Lb408 [(.ref t)])) rfl rfl (hb hby at_926)
          refine own_st st720 ?_
          show own_Win p e below s _ _ _ (T720.setTop (mkF m 929 Lb408 [(.ref aT)]))
          refine own_st (fun _ kz => XS.iconst X720.here hx rfl (hb hby at_929) kz) ?_
          show own_Win p e below s _ _ _ (T720.setTop (mkF m 930 Lb408 [(.int (2 : Int32)), (.ref aT)]))
          refine own_iaload X720 hx hZ e720 GU (i := 2) rfl (by decide) (x := ev) b8 rfl rfl (hb hby at_930) ?_
          show own_Win p e below s _ _ _ (T720.setTop (mkF m 931 Lb408 [(.int ev)]))
          refine own_st (fun _ kz => XS.iload X720.here hx rfl (v := ev) (hb hby at_931) (by show Lb408[_]? = _; rw [hLb408]; rfl) kz) ?_
          show own_Win p e below s _ _ _ (T720.setTop (mkF m 933 Lb408 [(.int ev), (.int ev)]))
          refine own_st (fun _ kz => XS.icmpNo X720.here hx rfl (hb hby at_933) rfl (teq rfl).2 kz) ?_
          show own_Win p e below s _ _ _ (T720.setTop (mkF m 936 Lb408 []))
          refine own_st (fun _ kz => XS.aload X720.here hx rfl (v := (.ref t)) (hb hby at_936) (by show Lb408[_]? = _; rw [hLb408]; rfl) rfl kz) ?_
          show own_Win p e below s _ _ _ (T720.setTop (mkF m 938 Lb408 [(.ref t)]))
          obtain ⟨T721, X721, e721, st721⟩ := getF X720 hx hZ hown (host := "") (Or.inl (hw _ (List.mem_of_getElem? (i := 43) rfl))) Via.refl e720 FS.2.2.2.2.2.2.1 (g := (mkF m 938 Lb408 [(.ref t)])) rfl rfl (hb hby at_938)
          refine own_st st721 ?_
          show own_Win p e below s _ _ _ (T721.setTop (mkF m 941 Lb408 [(.ref aL)]))
          refine own_st (fun _ kz => XS.iconst X721.here hx rfl (hb hby at_941) kz) ?_
          show own_Win p e below s _ _ _ (T721.setTop (mkF m 942 Lb408 [(.int (2 : Int32)), (.ref aL)]))
          refine own_iaload X721 hx hZ e721 GL (i := 2) rfl (by decide) (x := (-1 : Int32)) b9 rfl rfl (hb hby at_942) ?_
          show own_Win p e below s _ _ _ (T721.setTop (mkF m 943 Lb408 [(.int (-1 : Int32))]))
          refine own_st (fun _ kz => XS.iconst X721.here hx rfl (hb hby at_943) kz) ?_
          show own_Win p e below s _ _ _ (T721.setTop (mkF m 944 Lb408 [(.int (-1 : Int32)), (.int (-1 : Int32))]))
          refine own_st (fun _ kz => XS.icmpNo X721.here hx rfl (hb hby at_944) rfl (teq rfl).2 kz) ?_
          show own_Win p e below s _ _ _ (T721.setTop (mkF m 947 Lb408 []))
          refine own_st (fun _ kz => XS.aload X721.here hx rfl (v := (.ref t)) (hb hby at_947) (by show Lb408[_]? = _; rw [hLb408]; rfl) rfl kz) ?_
          show own_Win p e below s _ _ _ (T721.setTop (mkF m 949 Lb408 [(.ref t)]))
          obtain ⟨T722, X722, e722, st722⟩ := getF X721 hx hZ hown (host := "") (Or.inl (hw _ (List.mem_of_getElem? (i := 44) rfl))) Via.refl e721 FS.2.2.2.2.2.2.2.1 (g := (mkF m 949 Lb408 [(.ref t)])) rfl rfl (hb hby at_949)
          refine own_st st722 ?_
          show own_Win p e below s _ _ _ (T722.setTop (mkF m 952 Lb408 [(.ref aH)]))
          refine own_st (fun _ kz => XS.iconst X722.here hx rfl (hb hby at_952) kz) ?_
          show own_Win p e below s _ _ _ (T722.setTop (mkF m 953 Lb408 [(.int (2 : Int32)), (.ref aH)]))
          refine own_iaload X722 hx hZ e722 GH (i := 2) rfl (by decide) (x := (-1 : Int32)) b10 rfl rfl (hb hby at_953) ?_
          show own_Win p e below s _ _ _ (T722.setTop (mkF m 954 Lb408 [(.int (-1 : Int32))]))
          refine own_st (fun _ kz => XS.iconst X722.here hx rfl (hb hby at_954) kz) ?_
          show own_Win p e below s _ _ _ (T722.setTop (mkF m 955 Lb408 [(.int (-1 : Int32)), (.int (-1 : Int32))]))
          refine own_st (fun _ kz => XS.icmpNo X722.here hx rfl (hb hby at_955) rfl (teq rfl).2 kz) ?_
          show own_Win p e below s _ _ _ (T722.setTop (mkF m 958 Lb408 []))
          refine own_st (fun _ kz => XS.iconst X722.here hx rfl (hb hby at_958) kz) ?_
          show own_Win p e below s _ _ _ (T722.setTop (mkF m 959 Lb408 [(.int (1 : Int32))]))
          refine own_st (fun _ kz => XS.goto X722.here hx rfl (pc0 := 959) (pc' := 963) rfl (hb hby at_959) (by decide) (by decide) kz) ?_
          show own_Win p e below s _ _ _ (T722.setTop (mkF m 963 Lb408 [(.int (1 : Int32))]))
          obtain ⟨Lb409, hLb409⟩ : ∃ L : Array Slot, L = #[.val (.long p1), .second, .val (.long p2), .second, .val (.int p3), .val (.int p4), .val (.int p5), .val (.int r0), .val (.int r1), .val (.int s0), .val (.int s1), .val (.int sv), .val (.int ev), .val (.int nw), .val (.int wv), .val (.ref a1), .val (.ref a2), .val (.ref a3), .val (.ref a4), .val (.double (FP.i2d p3)), .second, .val (.double (FP.i2d p4)), .second, .val (.double (FP.l2d ((p3.toInt64) + (r0.toInt64)))), .second, .val (.double (FP.l2d ((p4.toInt64) + (r1.toInt64)))), .second, .val (.ref a201), .val (.ref a202), .val (.ref a203), .val (.ref t), .val (.int (0 : Int32)), .val (.int sp), .val (.int (XT.ushr (sv + ev) (1 : Int32))), .val (.int (Int32.ofNat (own_w r0.toInt r1.toInt s0.toInt s1.toInt))), .val (.int (1 : Int32)), .unset] := ⟨_, rfl⟩
          refine own_st (fun _ kz => XS.istore X722.here hx rfl (hb hby at_963) rfl (l' := Lb409) (by show storeLocals Lb408 _ _ = _; rw [hLb408, hLb409]; rfl) kz) ?_
          show own_Win p e below s _ _ _ (T722.setTop (mkF m 965 Lb409 []))
          refine own_st (fun _ kz => XS.goto X722.here hx rfl (pc0 := 965) (pc' := 1002) rfl (hb hby at_965) (by decide) (by decide) kz) ?_
          show own_Win p e below s _ _ _ (T722.setTop (mkF m 1002 Lb409 []))
          rw [hLb409]
          exact tlE _ _ sp X722 e722 N700 (Or.inr ⟨hsp, hB⟩)
      refine own_st (fun _ kz => XS.iload X.here hx rfl (v := nw) (hb hby at_644) (by show Lb301[_]? = _; rw [hLb301]; rfl) kz) ?_
      show own_Win p e below s _ _ _ (T.setTop (mkF m 646 Lb301 [(.int nw)]))
      rcases hcase with ⟨hA1, hA2⟩ | ⟨hB1, hB2⟩
      ·
        rcases hnw with ⟨q, -, -⟩ | ⟨q, -, -⟩
        ·
          refine own_st (fun _ kz => XS.ifYes X.here hx rfl (pc0 := 646) (pc' := 663) rfl (hb hby at_646) rfl (by rw [q]; decide) (by decide) (by decide) kz) ?_
          show own_Win p e below s _ _ _ (T.setTop (mkF m 663 Lb301 []))
          refine own_st (fun _ kz => XS.iconst X.here hx rfl (hb hby at_663) kz) ?_
          show own_Win p e below s _ _ _ (T.setTop (mkF m 664 Lb301 [(.int (0 : Int32))]))
          exact tlM _ 0 X eT (Or.inl ⟨rfl, hA2⟩)
        ·
          have h16 : ¬ (16 : Int32) < ev - sv := by rcases hA1 with z | z; rw [z] at q; exact absurd q (by decide); exact z
          refine own_st (fun _ kz => XS.ifNo X.here hx rfl (hb hby at_646) rfl (by rw [q]; decide) kz) ?_
          show own_Win p e below s _ _ _ (T.setTop (mkF m 649 Lb301 []))
          refine own_st (fun _ kz => XS.iload X.here hx rfl (v := ev) (hb hby at_649) (by show Lb301[_]? = _; rw [hLb301]; rfl) kz) ?_
          show own_Win p e below s _ _ _ (T.setTop (mkF m 651 Lb301 [(.int ev)]))
          refine own_st (fun _ kz => XS.iload X.here hx rfl (v := sv) (hb hby at_651) (by show Lb301[_]? = _; rw [hLb301]; rfl) kz) ?_
          show own_Win p e below s _ _ _ (T.setTop (mkF m 653 Lb301 [(.int sv), (.int ev)]))
          refine own_st (fun _ kz => XS.isub X.here hx rfl (hb hby at_653) rfl kz) ?_
          show own_Win p e below s _ _ _ (T.setTop (mkF m 654 Lb301 [(.int (ev - sv))]))
          refine own_st (fun _ kz => XS.bipush X.here hx rfl (hb hby at_654) kz) ?_
          show own_Win p e below s _ _ _ (T.setTop (mkF m 656 Lb301 [(.int (16 : Int32)), (.int (ev - sv))]))
          refine own_st (fun _ kz => XS.icmpYes X.here hx rfl (pc0 := 656) (pc' := 663) rfl (hb hby at_656) rfl (flt h16).2.2.2 (by decide) (by decide) kz) ?_
          show own_Win p e below s _ _ _ (T.setTop (mkF m 663 Lb301 []))
          refine own_st (fun _ kz => XS.iconst X.here hx rfl (hb hby at_663) kz) ?_
          show own_Win p e below s _ _ _ (T.setTop (mkF m 664 Lb301 [(.int (0 : Int32))]))
          exact tlM _ 0 X eT (Or.inl ⟨rfl, hA2⟩)
      ·
        refine own_st (fun _ kz => XS.ifNo X.here hx rfl (hb hby at_646) rfl (by rw [hB1.1]; decide) kz) ?_
        show own_Win p e below s _ _ _ (T.setTop (mkF m 649 Lb301 []))
        refine own_st (fun _ kz => XS.iload X.here hx rfl (v := ev) (hb hby at_649) (by show Lb301[_]? = _; rw [hLb301]; rfl) kz) ?_
        show own_Win p e below s _ _ _ (T.setTop (mkF m 651 Lb301 [(.int ev)]))
        refine own_st (fun _ kz => XS.iload X.here hx rfl (v := sv) (hb hby at_651) (by show Lb301[_]? = _; rw [hLb301]; rfl) kz) ?_
        show own_Win p e below s _ _ _ (T.setTop (mkF m 653 Lb301 [(.int sv), (.int ev)]))
        refine own_st (fun _ kz => XS.isub X.here hx rfl (hb hby at_653) rfl kz) ?_
        show own_Win p e below s _ _ _ (T.setTop (mkF m 654 Lb301 [(.int (ev - sv))]))
        refine own_st (fun _ kz => XS.bipush X.here hx rfl (hb hby at_654) kz) ?_
        show own_Win p e below s _ _ _ (T.setTop (mkF m 656 Lb301 [(.int (16 : Int32)), (.int (ev - sv))]))
        refine own_st (fun _ kz => XS.icmpNo X.here hx rfl (hb hby at_656) rfl (tlt hB1.2).2.2.2 kz) ?_
        show own_Win p e below s _ _ _ (T.setTop (mkF m 659 Lb301 []))
        refine own_st (fun _ kz => XS.iconst X.here hx rfl (hb hby at_659) kz) ?_
        show own_Win p e below s _ _ _ (T.setTop (mkF m 660 Lb301 [(.int (1 : Int32))]))
        refine own_st (fun _ kz => XS.goto X.here hx rfl (pc0 := 660) (pc' := 664) rfl (hb hby at_660) (by decide) (by decide) kz) ?_
        show own_Win p e below s _ _ _ (T.setTop (mkF m 664 Lb301 [(.int (1 : Int32))]))
        exact tlM _ 1 X eT (Or.inr ⟨rfl, hB2⟩)
    by_cases hq : nw = 1 ∨ ¬ (16 : Int32) < ev - sv
    ·
      have hc : ¬ (16 : Int32) < ev - sv ∨ wv = 0 := by rcases hq with q | q; rcases hnw with ⟨-, r, -⟩ | ⟨r, -, -⟩; exact Or.inr r; rw [r] at q; exact absurd q (by decide); exact Or.inl q
      refine own_callV X300 hx hZ hown (C := "com/example/skyweave/skyweave/KdTree") (y := yS) (hw _ (List.mem_of_getElem? (i := 31) rfl)) (hw _ (List.mem_of_getElem? (i := 32) rfl)) (hw _ (List.mem_of_getElem? (i := 34) rfl)) (hw _ (List.mem_of_getElem? (i := 33) rfl)) (hw _ (List.mem_of_getElem? (i := 35) rfl)) (hw _ (List.mem_of_getElem? (i := 8) rfl)) (by decide) e300 FS.1 (rmLf l Z a0 hw [] t a1 a2 aF aT aL aH a201 a202 a203 wv 0 sv ev 0 (fun _ => 0) (fun _ => 0) (fun _ => 0) (fun _ => 0) h300 n0 Z300 FS (by omega) l1 l2 l3 l4 GF GU GL GH rfl (by decide) hc) (by decide) (W := 0) (by decide) rfl (by rw [hml]; show Lb13.size = _; rw [hLb13]; rfl) (argsL := [.int sv, .int ev, .ref a201, .ref a202, .ref a203]) (rest := []) (lenOf pdS rfl) rfl (Nat.le_of_eq rfl) (hb hby at_639) rfl (by decide) (by decide) ?_
      intro T310 v310 L310 X310 hQ310
      obtain ⟨h310, e310⟩ : ∃ z, T310.heap = z := ⟨_, rfl⟩
      rw [e310] at hQ310
      obtain ⟨rfl, M310, K310, FS2, GF2, GU2, GL2, GH2⟩ := hQ310
      have N310 := Fr.app N300 M310
      have Z310 : n0 ≤ h310.size := Nat.le_trans Z300 K310.1
      have c_I_h310 : own_Ia Z h310 a1 18 (own_I (fun k => k)) := own_Av.keep K310 c_I_h300 (ninS (Nat.ne_of_lt (by omega)) (ninS (Nat.ne_of_lt (by omega)) (ninS (Nat.ne_of_lt (by omega)) (ninS (Nat.ne_of_lt (by omega)) (ninS (Nat.ne_of_lt (by omega)) nin0)))))
      have c_Q_h310 : own_Da Z h310 a2 36 (own_P O (fun k => k)) := own_Av.keep K310 c_Q_h300 (ninS (Nat.ne_of_lt (by omega)) (ninS (Nat.ne_of_lt (by omega)) (ninS (Nat.ne_of_lt (by omega)) (ninS (Nat.ne_of_lt (by omega)) (ninS (Nat.ne_of_lt (by omega)) nin0)))))
      have c_A_h310 : own_Da Z h310 a3 18 (O 0) := own_Av.keep K310 c_A_h300 (ninS (Nat.ne_of_lt (by omega)) (ninS (Nat.ne_of_lt (by omega)) (ninS (Nat.ne_of_lt (by omega)) (ninS (Nat.ne_of_lt (by omega)) (ninS (Nat.ne_of_lt (by omega)) nin0)))))
      have c_B_h310 : own_Da Z h310 a4 18 (O 1) := own_Av.keep K310 c_B_h300 (ninS (Nat.ne_of_lt (by omega)) (ninS (Nat.ne_of_lt (by omega)) (ninS (Nat.ne_of_lt (by omega)) (ninS (Nat.ne_of_lt (by omega)) (ninS (Nat.ne_of_lt (by omega)) nin0)))))
      have c_lo_h310 : own_Da Z h310 a201 2 (own_up (own_up (fun _ => 0) 0 (FP.i2d p3)) 1 (FP.i2d p4)) := own_Av.keep K310 c_lo_h300 (ninS (Nat.ne_of_lt (by omega)) (ninS (Nat.ne_of_lt (by omega)) (ninS (Nat.ne_of_lt (by omega)) (ninS (Nat.ne_of_lt (by omega)) (ninS (Nat.ne_of_lt (by omega)) nin0)))))
      have c_lox_h310 : Exa Z h310 a201 "[D" := Exa.keep c_lox_h300 K310
      have c_hi_h310 : own_Da Z h310 a202 2 (own_up (own_up (fun _ => 0) 0 (FP.l2d ((p3.toInt64) + (r0.toInt64)))) 1 (FP.l2d ((p4.toInt64) + (r1.toInt64)))) := own_Av.keep K310 c_hi_h300 (ninS (Nat.ne_of_lt (by omega)) (ninS (Nat.ne_of_lt (by omega)) (ninS (Nat.ne_of_lt (by omega)) (ninS (Nat.ne_of_lt (by omega)) (ninS (Nat.ne_of_lt (by omega)) nin0)))))
      have c_hix_h310 : Exa Z h310 a202 "[D" := Exa.keep c_hix_h300 K310
      have c_sp_h310 : own_Da Z h310 a203 2 (own_up (own_up (fun _ => 0) 0 (FP.i2d s0)) 1 (FP.i2d s1)) := own_Av.keep K310 c_sp_h300 (ninS (Nat.ne_of_lt (by omega)) (ninS (Nat.ne_of_lt (by omega)) (ninS (Nat.ne_of_lt (by omega)) (ninS (Nat.ne_of_lt (by omega)) (ninS (Nat.ne_of_lt (by omega)) nin0)))))
      exact tlS _ _ _ _ h310 _ (fun k => k) _ _ _ _ X310 (by decide) (by decide) e310 Z310 N310 FS2 c_I_h310 c_Q_h310 c_A_h310 c_B_h310 c_lo_h310 c_hi_h310 c_sp_h310 GF2 GU2 GL2 GH2 (own_ok_id _ _) rfl rfl (Or.inl ⟨hq, fun _ => rfl, rfl, rfl⟩)
    ·
      have hw2 : nw = 0 ∧ wv = 2 := by rcases hnw with ⟨q, -, -⟩ | ⟨q, r, -⟩; exact absurd (Or.inl q) hq; exact ⟨q, r⟩
      have h16 : (16 : Int32) < ev - sv := by refine Decidable.byContradiction fun z => hq (Or.inr z)
      have e17 : eN = sN + 17 := by
        rw [Int32.lt_iff_toInt_lt] at h16
        have := c_isub ev sv
        have := rng32 (ev - sv)
        have : (16 : Int32).toInt = 16 := rfl
        omega
      obtain ⟨hn0, rfl⟩ := hw2
      subst e17
      have dlo0 : FP.Core.DInt p3.toInt (FP.i2d p3) := FP.Core.i2d_int p3
      have dlo1 : FP.Core.DInt p4.toInt (FP.i2d p4) := FP.Core.i2d_int p4
      have dhi0 := own_hiD p3 r0
      have dhi1 := own_hiD p4 r1
      have dsp0 : FP.Core.DInt s0.toInt (FP.i2d s0) := FP.Core.i2d_int s0
      have dsp1 : FP.Core.DInt s1.toInt (FP.i2d s1) := FP.Core.i2d_int s1
      refine own_callV X300 hx hZ hown (C := "com/example/skyweave/skyweave/KdTree") (y := yS) (hw _ (List.mem_of_getElem? (i := 31) rfl)) (hw _ (List.mem_of_getElem? (i := 32) rfl)) (hw _ (List.mem_of_getElem? (i := 34) rfl)) (hw _ (List.mem_of_getElem? (i := 33) rfl)) (hw _ (List.mem_of_getElem? (i := 35) rfl)) (hw _ (List.mem_of_getElem? (i := 8) rfl)) (by decide) e300 FS.1 (rmS l Z a0 hw [] t a1 a2 aF aT aL aH a201 a202 a203 sv ev sN (fun _ => 0) (fun _ => 0) (fun _ => 0) (fun _ => 0) (own_up (own_up (fun _ => 0) 0 (FP.i2d p3)) 1 (FP.i2d p4)) (own_up (own_up (fun _ => 0) 0 (FP.l2d ((p3.toInt64) + (r0.toInt64)))) 1 (FP.l2d ((p4.toInt64) + (r1.toInt64)))) (own_up (own_up (fun _ => 0) 0 (FP.i2d s0)) 1 (FP.i2d s1)) p3.toInt p4.toInt r0.toInt r1.toInt s0.toInt s1.toInt O V h300 n0 Z300 FS q_a1 (by omega) (by omega) (by omega) (by omega) (by omega) l1 l2 l3 l4 GF GU GL GH c_I_h300 c_Q_h300 c_lo_h300 c_hi_h300 c_sp_h300 c_lox_h300 c_hix_h300 dlo0 dhi0 dsp0 hr0.1 hr0.2 (by omega) (by omega) dlo1 dhi1 dsp1 hr1.1 hr1.2 (by omega) (by omega) (by omega) hsN heN hD) (by decide) (W := 0) (by decide) rfl (by rw [hml]; show Lb13.size = _; rw [hLb13]; rfl) (argsL := [.int sv, .int ev, .ref a201, .ref a202, .ref a203]) (rest := []) (lenOf pdS rfl) rfl (Nat.le_of_eq rfl) (hb hby at_639) rfl (by decide) (by decide) ?_
      intro T320 v320 L320 X320 hQ320
      obtain ⟨h320, e320⟩ : ∃ z, T320.heap = z := ⟨_, rfl⟩
      rw [e320] at hQ320
      obtain ⟨rfl, M320, K320, σ2, gF2, gT2, gL2, gH2, mv2, hmv, hmv2, FS2, FI2, FQ2, hok2, hpt2, GF2, GU2, GL2, GH2, c1, c2, c3, c4, c5, c6, c7, c8, c9, c10, c11, c12⟩ := hQ320
      have N320 := Fr.app N300 M320
      have Z320 : n0 ≤ h320.size := Nat.le_trans Z300 K320.1
      have c_A_h320 : own_Da Z h320 a3 18 (O 0) := own_Av.keep K320 c_A_h300 (ninS (Nat.ne_of_gt (by omega)) (ninS (Nat.ne_of_gt (by omega)) (ninS (Nat.ne_of_lt (by omega)) (ninS (Nat.ne_of_lt (by omega)) (ninS (Nat.ne_of_lt (by omega)) (ninS (Nat.ne_of_lt (by omega)) (ninS (Nat.ne_of_lt (by omega)) nin0)))))))
      have c_B_h320 : own_Da Z h320 a4 18 (O 1) := own_Av.keep K320 c_B_h300 (ninS (Nat.ne_of_gt (by omega)) (ninS (Nat.ne_of_gt (by omega)) (ninS (Nat.ne_of_lt (by omega)) (ninS (Nat.ne_of_lt (by omega)) (ninS (Nat.ne_of_lt (by omega)) (ninS (Nat.ne_of_lt (by omega)) (ninS (Nat.ne_of_lt (by omega)) nin0)))))))
      have c_lo_h320 : own_Da Z h320 a201 2 (own_up (own_up (fun _ => 0) 0 (FP.i2d p3)) 1 (FP.i2d p4)) := own_Av.keep K320 c_lo_h300 (ninS (Nat.ne_of_gt (by omega)) (ninS (Nat.ne_of_gt (by omega)) (ninS (Nat.ne_of_lt (by omega)) (ninS (Nat.ne_of_lt (by omega)) (ninS (Nat.ne_of_lt (by omega)) (ninS (Nat.ne_of_lt (by omega)) (ninS (Nat.ne_of_lt (by omega)) nin0)))))))
      have c_lox_h320 : Exa Z h320 a201 "[D" := Exa.keep c_lox_h300 K320
      have c_hi_h320 : own_Da Z h320 a202 2 (own_up (own_up (fun _ => 0) 0 (FP.l2d ((p3.toInt64) + (r0.toInt64)))) 1 (FP.l2d ((p4.toInt64) + (r1.toInt64)))) := own_Av.keep K320 c_hi_h300 (ninS (Nat.ne_of_gt (by omega)) (ninS (Nat.ne_of_gt (by omega)) (ninS (Nat.ne_of_lt (by omega)) (ninS (Nat.ne_of_lt (by omega)) (ninS (Nat.ne_of_lt (by omega)) (ninS (Nat.ne_of_lt (by omega)) (ninS (Nat.ne_of_lt (by omega)) nin0)))))))
      have c_hix_h320 : Exa Z h320 a202 "[D" := Exa.keep c_hix_h300 K320
      have c_sp_h320 : own_Da Z h320 a203 2 (own_up (own_up (fun _ => 0) 0 (FP.i2d s0)) 1 (FP.i2d s1)) := own_Av.keep K320 c_sp_h300 (ninS (Nat.ne_of_gt (by omega)) (ninS (Nat.ne_of_gt (by omega)) (ninS (Nat.ne_of_lt (by omega)) (ninS (Nat.ne_of_lt (by omega)) (ninS (Nat.ne_of_lt (by omega)) (ninS (Nat.ne_of_lt (by omega)) (ninS (Nat.ne_of_lt (by omega)) nin0)))))))
      subst hmv
      have hm8 : (sN + (sN + 17)) / 2 = sN + 8 := by omega
      exact tlS _ _ _ _ h320 _ σ2 gF2 gT2 gL2 gH2 X320 (by decide) (by decide) e320 Z320 N320 FS2 FI2 FQ2 c_A_h320 c_B_h320 c_lo_h320 c_hi_h320 c_sp_h320 GF2 GU2 GL2 GH2 hok2 c1 c2 (Or.inr ⟨⟨hn0, h16⟩, by rw [hm8]; exact hpt2, c3, c4, c5, c6, c7, c8, c9, c10, c11, c12⟩)
  by_cases qk : kk = 3
  ·
    refine own_st (fun _ kz => XS.icmpNo X0.here hx rfl (hb hby at_74) rfl (teq qk).2 kz) ?_
    show own_Win p e below s _ _ _ (s₁.setTop (mkF m 77 Ls7 []))
    refine own_st (fun _ kz => XS.iconst X0.here hx rfl (hb hby at_77) kz) ?_
    show own_Win p e below s _ _ _ (s₁.setTop (mkF m 78 Ls7 [(.int (1 : Int32))]))
    refine own_st (fun _ kz => XS.goto X0.here hx rfl (pc0 := 78) (pc' := 82) rfl (hb hby at_78) (by decide) (by decide) kz) ?_
    show own_Win p e below s _ _ _ (s₁.setTop (mkF m 82 Ls7 [(.int (1 : Int32))]))
    obtain ⟨Ls8, hLs8⟩ : ∃ L : Array Slot, L = #[.val (.long p1), .second, .val (.long p2), .second, .val (.int p3), .val (.int p4), .val (.int p5), .val (.int r0), .val (.int r1), .val (.int s0), .val (.int s1), .val (.int sv), .val (.int ev), .val (.int (1 : Int32)), .unset, .unset, .unset, .unset, .unset, .unset, .unset, .unset, .unset, .unset, .unset, .unset, .unset, .unset, .unset, .unset, .unset, .unset, .unset, .unset, .unset, .unset, .unset] := ⟨_, rfl⟩
    refine own_st (fun _ kz => XS.istore X0.here hx rfl (hb hby at_82) rfl (l' := Ls8) (by show storeLocals Ls7 _ _ = _; rw [hLs7, hLs8]; rfl) kz) ?_
    show own_Win p e below s _ _ _ (s₁.setTop (mkF m 84 Ls8 []))
    refine own_st (fun _ kz => XS.iload X0.here hx rfl (v := (1 : Int32)) (hb hby at_84) (by show Ls8[_]? = _; rw [hLs8]; rfl) kz) ?_
    show own_Win p e below s _ _ _ (s₁.setTop (mkF m 86 Ls8 [(.int (1 : Int32))]))
    refine own_st (fun _ kz => XS.ifNo X0.here hx rfl (hb hby at_86) rfl (by decide) kz) ?_
    show own_Win p e below s _ _ _ (s₁.setTop (mkF m 89 Ls8 []))
    refine own_st (fun _ kz => XS.iconst X0.here hx rfl (hb hby at_89) kz) ?_
    show own_Win p e below s _ _ _ (s₁.setTop (mkF m 90 Ls8 [(.int (0 : Int32))]))
    refine own_st (fun _ kz => XS.goto X0.here hx rfl (pc0 := 90) (pc' := 94) rfl (hb hby at_90) (by decide) (by decide) kz) ?_
    show own_Win p e below s _ _ _ (s₁.setTop (mkF m 94 Ls8 [(.int (0 : Int32))]))
    obtain ⟨Ls9, hLs9⟩ : ∃ L : Array Slot, L = #[.val (.long p1), .second, .val (.long p2), .second, .val (.int p3), .val (.int p4), .val (.int p5), .val (.int r0), .val (.int r1), .val (.int s0), .val (.int s1), .val (.int sv), .val (.int ev), .val (.int (1 : Int32)), .val (.int (0 : Int32)), .unset, .unset, .unset, .unset, .unset, .unset, .unset, .unset, .unset, .unset, .unset, .unset, .unset, .unset, .unset, .unset, .unset, .unset, .unset, .unset, .unset, .unset] := ⟨_, rfl⟩
    refine own_st (fun _ kz => XS.istore X0.here hx rfl (hb hby at_94) rfl (l' := Ls9) (by show storeLocals Ls8 _ _ = _; rw [hLs8, hLs9]; rfl) kz) ?_
    show own_Win p e below s _ _ _ (s₁.setTop (mkF m 96 Ls9 []))
    rw [hLs9]
    exact tl96 1 0 0 (Or.inl ⟨rfl, rfl, rfl⟩)
  ·
    refine own_st (fun _ kz => XS.icmpYes X0.here hx rfl (pc0 := 74) (pc' := 81) rfl (hb hby at_74) rfl (feq qk).2 (by decide) (by decide) kz) ?_
    show own_Win p e below s _ _ _ (s₁.setTop (mkF m 81 Ls7 []))
    refine own_st (fun _ kz => XS.iconst X0.here hx rfl (hb hby at_81) kz) ?_
    show own_Win p e below s _ _ _ (s₁.setTop (mkF m 82 Ls7 [(.int (0 : Int32))]))
    obtain ⟨Ls8, hLs8⟩ : ∃ L : Array Slot, L = #[.val (.long p1), .second, .val (.long p2), .second, .val (.int p3), .val (.int p4), .val (.int p5), .val (.int r0), .val (.int r1), .val (.int s0), .val (.int s1), .val (.int sv), .val (.int ev), .val (.int (0 : Int32)), .unset, .unset, .unset, .unset, .unset, .unset, .unset, .unset, .unset, .unset, .unset, .unset, .unset, .unset, .unset, .unset, .unset, .unset, .unset, .unset, .unset, .unset, .unset] := ⟨_, rfl⟩
    refine own_st (fun _ kz => XS.istore X0.here hx rfl (hb hby at_82) rfl (l' := Ls8) (by show storeLocals Ls7 _ _ = _; rw [hLs7, hLs8]; rfl) kz) ?_
    show own_Win p e below s _ _ _ (s₁.setTop (mkF m 84 Ls8 []))
    refine own_st (fun _ kz => XS.iload X0.here hx rfl (v := (0 : Int32)) (hb hby at_84) (by show Ls8[_]? = _; rw [hLs8]; rfl) kz) ?_
    show own_Win p e below s _ _ _ (s₁.setTop (mkF m 86 Ls8 [(.int (0 : Int32))]))
    refine own_st (fun _ kz => XS.ifYes X0.here hx rfl (pc0 := 86) (pc' := 93) rfl (hb hby at_86) rfl (by decide) (by decide) (by decide) kz) ?_
    show own_Win p e below s _ _ _ (s₁.setTop (mkF m 93 Ls8 []))
    refine own_st (fun _ kz => XS.iconst X0.here hx rfl (hb hby at_93) kz) ?_
    show own_Win p e below s _ _ _ (s₁.setTop (mkF m 94 Ls8 [(.int (2 : Int32))]))
    obtain ⟨Ls9, hLs9⟩ : ∃ L : Array Slot, L = #[.val (.long p1), .second, .val (.long p2), .second, .val (.int p3), .val (.int p4), .val (.int p5), .val (.int r0), .val (.int r1), .val (.int s0), .val (.int s1), .val (.int sv), .val (.int ev), .val (.int (0 : Int32)), .val (.int (2 : Int32)), .unset, .unset, .unset, .unset, .unset, .unset, .unset, .unset, .unset, .unset, .unset, .unset, .unset, .unset, .unset, .unset, .unset, .unset, .unset, .unset, .unset, .unset] := ⟨_, rfl⟩
    refine own_st (fun _ kz => XS.istore X0.here hx rfl (hb hby at_94) rfl (l' := Ls9) (by show storeLocals Ls8 _ _ = _; rw [hLs8, hLs9]; rfl) kz) ?_
    show own_Win p e below s _ _ _ (s₁.setTop (mkF m 96 Ls9 []))
    rw [hLs9]
    exact tl96 0 2 2 (Or.inr ⟨rfl, rfl, rfl⟩)
set_option maxRecDepth 65536 in
set_option maxHeartbeats 40000000 in
theorem comes_1 {Post : Tables → Env → Array Value → State → Outcome → State → Prop} (hpost : ∀ tb e args s v u, (limb_1_1.after args s (.returned v) u = true ∧ limb_1_2.after args s (.returned v) u = true ∧ True) → FrameEnd s (.returned v) u (Jvm.fieldLocs frame_1_writes args s ++ Jvm.arrayLocs frame_1_arrays args s ++ Jvm.staticLocs frame_1_statics s) 40 384 → Post tb e args s (.returned v) u) :
    ArmFor flags0 classFile x code maxLocals ret World_1 tables_1 room_1 Calls_1 rest_1 Pre_1 Post := by
  intro l hfl _ _ p e ha hc hk s m args below hf hA hF happ hP
  obtain ⟨hcalls, hrest, hpre⟩ := hP
  obtain ⟨-, -, -, hnamed, -, -, -, hat⟩ := (Spec.applies_iff hf).mp happ
  obtain ⟨hg, hn⟩ := and_e (Cond.before_iff.mp (show (Jvm.Cond.and given_1 narrow_1).before args s = true from hpre))
  obtain ⟨h1, g1⟩ := and_e hg
  obtain ⟨k1, g2⟩ := and_e g1
  obtain ⟨k2, g3⟩ := and_e g2
  obtain ⟨k3, g4⟩ := and_e g3
  obtain ⟨k4, g5⟩ := and_e g4
  obtain ⟨w0, w1, w2, w3, w4, rfl⟩ : ∃ w0 w1 w2 w3 w4 : Value, args = #[w0, w1, w2, w3, w4] := by
    have hs : args.size = 5 := by simpa [Cond.value, given_1] using h1
    obtain ⟨L⟩ := args
    match L, hs with
    | [w0, w1, w2, w3, w4], _ => exact ⟨w0, w1, w2, w3, w4, rfl⟩
  have hw := fun d (hd : d ∈ tables_1) => atoms_spec (ws := Jvm.Cond.code x code maxLocals ret :: tables_1) hat d (List.mem_cons_of_mem _ hd)
  obtain ⟨i0, e0⟩ := isL_v k1
  obtain rfl : w0 = (.long i0) := Option.some.inj e0
  obtain ⟨i1, e1⟩ := isL_v k2
  obtain rfl : w1 = (.long i1) := Option.some.inj e1
  obtain ⟨i2, e2⟩ := is_v k3
  obtain rfl : w2 = (.int i2) := Option.some.inj e2
  obtain ⟨i3, e3⟩ := is_v k4
  obtain rfl : w3 = (.int i3) := Option.some.inj e3
  obtain ⟨i4, e4⟩ := is_v g5
  obtain rfl : w4 = (.int i4) := Option.some.inj e4
  obtain ⟨n, o, h1, h2, h3, _, L, rfl, ⟨rfl, N⟩, hq⟩ := rm0 l s _ hw tables_1 i0 i1 i2 i3 i4 s.heap s.heap.size (Nat.le_refl _) p e ha hc hk s m _ below hf ((Spec.applies_iff_loose hf).mp happ).1 ⟨rfl, State.Warmed39.refl s, rfl⟩ trivial
  refine ⟨n, _, h1, h2, h3, hpost _ _ _ _ _ _ ⟨Cond.after_iff.mpr rfl, Cond.after_iff.mpr (eq_i res_at (Term.int_eval (1)) rfl), trivial⟩ ⟨hq.1, hq.2.1, (hq.2.2.sift fun y hy => Or.inr (N y hy)).mono (by decide) (by decide)⟩⟩
theorem main_1_1 : Claimed_1_1 := comes_1 fun _ _ _ _ _ _ h hF => ⟨h.1, hF⟩
theorem main_1_2 : Claimed_1_2 := comes_1 fun _ _ _ _ _ _ h hF => ⟨h.2.1, hF⟩
end Jvm.Pilot.@@N@@
namespace Jvm.Pilot.@@N@@
open Jvm Jvm.ClassFile Sem Op Lib Jvm.Free Jvm.Stand Jvm.Pilot.@@N@@.Jvm.D
/-! MADE BY PROGRAM (witnessworld.py) out of the Statement's table words and the real class files: 11 classes; the members and pool entries that the words name. The judged class is class 1, her method 1. -/
namespace start1
open Jvm.ClassFile
def u (s : String) : CpInfo := .utf8 (stringToUtf16 s)
/-- a pool by its gaps: so many unusable entries, then the entry; so many at the end -/
def gap : Nat → List CpInfo → List CpInfo
  | 0, r => r
  | n + 1, r => .unusable :: gap n r
def poolList (es : List (Nat × CpInfo)) (last : Nat) : List CpInfo := es.foldr (fun e r => gap e.1 (e.2 :: r)) (gap last [])
def pool (es : List (Nat × CpInfo)) (last : Nat) : Array CpInfo := ⟨poolList es last⟩
def fileOf (pool : Array CpInfo) (this : Nat) (attrs : Array Attribute := #[]) (ms : Array MethodInfo := #[]) (fl : Nat := 33) (sup : Nat := 0) (ifs : Array Nat := #[]) (fds : Array FieldInfo := #[]) : ClassFile where
  minorVersion := 0
  majorVersion := 65
  constantPool := pool
  accessFlags := fl
  thisClass := this
  superClass := sup
  interfaces := ifs
  fields := fds
  methods := ms
  attributes := attrs
def plain (name : String) (sup : Option ClassId) : Class where
  name := name
  kind := .ordinary
  loader := none
  accessFlags := 33
  super := sup
  interfaces := #[]
  cf := none
  fields := #[]
  methods := #[]
  instanceTypes := #[]
  staticTypes := #[]
  resolved := #[]
  callSites := []
  init := .initialized
  statics := none
  mirror := none

def pool0 : Array CpInfo := pool [(5, u "<init>"), (0, u "()V"), (1, .class_ 10), (1, u "java/lang/Object"), (85, u "clone"), (0, u "()Ljava/lang/Object;")] 26

def k0c0 : Code := { maxStack := 0, maxLocals := 1, code := object_method_1_code, exceptionTable := #[], attributes := #[] }
def k0m0 : Method := { name := "<init>", desc := "()V", sig := { parameters := [], returnType := none }, accessFlags := 1, code := some k0c0 }
def k0m1 : Method := { name := "clone", desc := "()Ljava/lang/Object;", sig := { parameters := [], returnType := some (.object "java/lang/Object") }, accessFlags := 260, code := none }
/-- java/lang/Object -/
def k0 : Class := { plain "java/lang/Object" none with
  accessFlags := 33
  interfaces := #[]
  cf := some (fileOf pool0 8 #[] #[{ accessFlags := 1, nameIndex := 5, descriptorIndex := 6, attributes := #[] }, { accessFlags := 260, nameIndex := 96, descriptorIndex := 97, attributes := #[] }] 33 0 #[] #[])
  fields := #[]
  methods := #[k0m0, k0m1]
  instanceTypes := #[]
  staticTypes := #[]
  resolved := Array.replicate 124 none
  statics := none }

def pool1 : Array CpInfo := pool [(2, .class_ 4), (1, u "java/lang/Object"), (0, u "<init>"), (0, u "()V"), (0, .methodref 8 9), (0, .class_ 10), (0, .nameAndType 11 12), (0, u "com/example/skyweave/skyweave/KdTreeSplitPinLaw"), (0, u "put"), (0, u "([I[D[D[DIJJIIII)V"), (0, .class_ 14), (0, u "com/example/skyweave/skyweave/KdTree"), (0, .methodref 13 16), (0, .nameAndType 5 17), (0, u "(I[I[DI)V"), (0, .methodref 13 19), (0, .nameAndType 20 21), (0, u "split"), (0, u "(II[D[D[D)I"), (0, .methodref 8 23), (0, .nameAndType 24 25), (0, u "widest"), (0, u "(IIII)I"), (0, .fieldref 13 27), (0, .nameAndType 28 29), (0, u "from"), (0, u "[I"), (0, .fieldref 13 31), (0, .nameAndType 32 29), (0, u "to"), (0, .fieldref 13 34), (0, .nameAndType 35 29), (0, u "lowHalf"), (0, .fieldref 13 37), (0, .nameAndType 38 29), (0, u "highHalf"), (0, .methodref 8 40), (0, .nameAndType 41 42), (0, u "pos"), (0, u "(Lcom/example/skyweave/skyweave/KdTree;IIIII[D[DZ)I"), (0, .integer 262143), (0, .fieldref 13 45), (0, .nameAndType 46 29), (0, u "ids"), (0, .fieldref 13 48), (0, .nameAndType 49 50), (0, u "points"), (0, u "[D"), (2, u "law"), (0, u "(JJIII)Z")] 5

def k1m0 : Method := { name := "<init>", desc := "()V", sig := { parameters := [], returnType := none }, accessFlags := 1, code := none }
def k1c1 : Code := { maxStack := 13, maxLocals := 37, code := code, exceptionTable := #[], attributes := #[] }
def k1m1 : Method := { name := "law", desc := "(JJIII)Z", sig := { parameters := [.long, .long, .int, .int, .int], returnType := some .boolean }, accessFlags := 9, code := some k1c1 }
def k1c2 : Code := { maxStack := 4, maxLocals := 19, code := method_3_code, exceptionTable := #[], attributes := #[] }
def k1m2 : Method := { name := "put", desc := "([I[D[D[DIJJIIII)V", sig := { parameters := [(.array .int), (.array .double), (.array .double), (.array .double), .int, .long, .long, .int, .int, .int, .int], returnType := none }, accessFlags := 10, code := some k1c2 }
def k1c3 : Code := { maxStack := 6, maxLocals := 4, code := method_4_code, exceptionTable := #[], attributes := #[] }
def k1m3 : Method := { name := "widest", desc := "(IIII)I", sig := { parameters := [.int, .int, .int, .int], returnType := some .int }, accessFlags := 10, code := some k1c3 }
def k1c4 : Code := { maxStack := 4, maxLocals := 15, code := method_5_code, exceptionTable := #[], attributes := #[] }
def k1m4 : Method := { name := "pos", desc := "(Lcom/example/skyweave/skyweave/KdTree;IIIII[D[DZ)I", sig := { parameters := [(.object "com/example/skyweave/skyweave/KdTree"), .int, .int, .int, .int, .int, (.array .double), (.array .double), .boolean], returnType := some .int }, accessFlags := 10, code := some k1c4 }
/-- com/example/skyweave/skyweave/KdTreeSplitPinLaw -/
def k1 : Class := { plain "com/example/skyweave/skyweave/KdTreeSplitPinLaw" (some 0) with
  accessFlags := 49
  interfaces := #[]
  cf := some (fileOf pool1 8 #[] #[{ accessFlags := 1, nameIndex := 5, descriptorIndex := 6, attributes := #[] }, { accessFlags := 9, nameIndex := 53, descriptorIndex := 54, attributes := #[] }, { accessFlags := 10, nameIndex := 11, descriptorIndex := 12, attributes := #[] }, { accessFlags := 10, nameIndex := 24, descriptorIndex := 25, attributes := #[] }, { accessFlags := 10, nameIndex := 41, descriptorIndex := 42, attributes := #[] }] 49 2 #[] #[])
  fields := #[]
  methods := #[k1m0, k1m1, k1m2, k1m3, k1m4]
  instanceTypes := #[]
  staticTypes := #[]
  resolved := Array.replicate 60 none
  statics := none }

def pool2 : Array CpInfo := pool [(1, .methodref 2 3), (0, .class_ 4), (0, .nameAndType 5 6), (0, u "java/lang/Object"), (0, u "<init>"), (0, u "()V"), (0, .fieldref 8 9), (0, .class_ 10), (0, .nameAndType 11 12), (0, u "com/example/skyweave/skyweave/KdTree"), (0, u "width"), (0, u "I"), (0, .fieldref 8 14), (0, .nameAndType 15 16), (0, u "ids"), (0, u "[I"), (0, .fieldref 8 18), (0, .nameAndType 19 20), (0, u "points"), (0, u "[D"), (0, .fieldref 8 22), (0, .nameAndType 23 16), (0, u "from"), (0, .fieldref 8 25), (0, .nameAndType 26 16), (0, u "to"), (0, .fieldref 8 28), (0, .nameAndType 29 16), (0, u "lowHalf"), (0, .fieldref 8 31), (0, .nameAndType 32 16), (0, u "highHalf"), (0, .fieldref 8 34), (0, .nameAndType 35 20), (0, u "best"), (21, .fieldref 8 58), (0, .nameAndType 59 12), (0, u "groups"), (0, .double 13830554455654793216), (1, .methodref 8 63), (0, .nameAndType 64 65), (0, u "placeMiddle"), (0, u "(IIII)V"), (0, .methodref 67 68), (0, .class_ 20), (0, .nameAndType 69 70), (0, u "clone"), (0, u "()Ljava/lang/Object;"), (0, .methodref 8 72), (0, .nameAndType 73 74), (0, u "split"), (0, u "(II[D[D[D)I"), (3, .methodref 8 79), (0, .nameAndType 80 81), (0, u "swap"), (0, u "(II)V"), (0, u "LEAF"), (2, u "WAITING"), (1, u "(I[I[DI)V")] 8

def k2c0 : Code := { maxStack := 3, maxLocals := 6, code := prog_13_method_1_code, exceptionTable := #[], attributes := #[] }
def k2m0 : Method := { name := "<init>", desc := "(I[I[DI)V", sig := { parameters := [.int, (.array .int), (.array .double), .int], returnType := none }, accessFlags := 0, code := some k2c0 }
def k2c1 : Code := { maxStack := 8, maxLocals := 15, code := prog_13_method_3_code, exceptionTable := #[], attributes := #[] }
def k2m1 : Method := { name := "split", desc := "(II[D[D[D)I", sig := { parameters := [.int, .int, (.array .double), (.array .double), (.array .double)], returnType := some .int }, accessFlags := 0, code := some k2c1 }
def k2c2 : Code := { maxStack := 4, maxLocals := 11, code := prog_13_method_5_code, exceptionTable := #[], attributes := #[] }
def k2m2 : Method := { name := "placeMiddle", desc := "(IIII)V", sig := { parameters := [.int, .int, .int, .int], returnType := none }, accessFlags := 2, code := some k2c2 }
def k2c3 : Code := { maxStack := 5, maxLocals := 7, code := prog_13_method_6_code, exceptionTable := #[], attributes := #[] }
def k2m3 : Method := { name := "swap", desc := "(II)V", sig := { parameters := [.int, .int], returnType := none }, accessFlags := 2, code := some k2c3 }
/-- com/example/skyweave/skyweave/KdTree -/
def k2 : Class := { plain "com/example/skyweave/skyweave/KdTree" (some 0) with
  accessFlags := 48
  interfaces := #[]
  cf := some (fileOf pool2 8 #[] #[{ accessFlags := 0, nameIndex := 5, descriptorIndex := 87, attributes := #[] }, { accessFlags := 0, nameIndex := 73, descriptorIndex := 74, attributes := #[] }, { accessFlags := 2, nameIndex := 64, descriptorIndex := 65, attributes := #[] }, { accessFlags := 2, nameIndex := 80, descriptorIndex := 81, attributes := #[] }] 48 2 #[] #[{ accessFlags := 24, nameIndex := 82, descriptorIndex := 12, attributes := #[] }, { accessFlags := 24, nameIndex := 85, descriptorIndex := 12, attributes := #[] }, { accessFlags := 18, nameIndex := 11, descriptorIndex := 12, attributes := #[] }, { accessFlags := 16, nameIndex := 15, descriptorIndex := 16, attributes := #[] }, { accessFlags := 16, nameIndex := 19, descriptorIndex := 20, attributes := #[] }, { accessFlags := 16, nameIndex := 23, descriptorIndex := 16, attributes := #[] }, { accessFlags := 16, nameIndex := 26, descriptorIndex := 16, attributes := #[] }, { accessFlags := 16, nameIndex := 29, descriptorIndex := 16, attributes := #[] }, { accessFlags := 16, nameIndex := 32, descriptorIndex := 16, attributes := #[] }, { accessFlags := 16, nameIndex := 35, descriptorIndex := 20, attributes := #[] }, { accessFlags := 2, nameIndex := 59, descriptorIndex := 12, attributes := #[] }])
  fields := #[{ name := "LEAF", type := .int, accessFlags := 24, slot := 0, constantValue := 0 }, { name := "WAITING", type := .int, accessFlags := 24, slot := 1, constantValue := 0 }, { name := "width", type := .int, accessFlags := 18, slot := 0, constantValue := 0 }, { name := "ids", type := (.array .int), accessFlags := 16, slot := 1, constantValue := 0 }, { name := "points", type := (.array .double), accessFlags := 16, slot := 2, constantValue := 0 }, { name := "from", type := (.array .int), accessFlags := 16, slot := 3, constantValue := 0 }, { name := "to", type := (.array .int), accessFlags := 16, slot := 4, constantValue := 0 }, { name := "lowHalf", type := (.array .int), accessFlags := 16, slot := 5, constantValue := 0 }, { name := "highHalf", type := (.array .int), accessFlags := 16, slot := 6, constantValue := 0 }, { name := "best", type := (.array .double), accessFlags := 16, slot := 7, constantValue := 0 }, { name := "groups", type := .int, accessFlags := 2, slot := 8, constantValue := 0 }]
  methods := #[k2m0, k2m1, k2m2, k2m3]
  instanceTypes := #[.int, (.array .int), (.array .double), (.array .int), (.array .int), (.array .int), (.array .int), (.array .double), .int]
  staticTypes := #[.int, .int]
  resolved := Array.replicate 96 none
  statics := none }

def pool3 : Array CpInfo := pool [(1, .class_ 2), (0, u "java/lang/Cloneable"), (0, .class_ 4), (0, u "java/lang/Object")] 2

/-- java/lang/Cloneable -/
def k3 : Class := { plain "java/lang/Cloneable" (some 0) with
  accessFlags := 1537
  interfaces := #[]
  cf := some (fileOf pool3 1 #[] #[] 1537 3 #[] #[])
  fields := #[]
  methods := #[]
  instanceTypes := #[]
  staticTypes := #[]
  resolved := Array.replicate 7 none
  statics := none }

def pool4 : Array CpInfo := pool [(1, u "java/io/Serializable"), (0, .class_ 1), (0, u "java/lang/Object"), (0, .class_ 3)] 3

/-- java/io/Serializable -/
def k4 : Class := { plain "java/io/Serializable" (some 0) with
  accessFlags := 1537
  interfaces := #[]
  cf := some (fileOf pool4 2 #[] #[] 1537 4 #[] #[])
  fields := #[]
  methods := #[]
  instanceTypes := #[]
  staticTypes := #[]
  resolved := Array.replicate 8 none
  statics := none }

/-- the primitive byte -/
def k5 : Class := { plain "byte" none with kind := .primitive 'B', accessFlags := 0x411 }
/-- [B -/
def k6 : Class := { plain "[B" (some 0) with kind := .array 5 .byte, interfaces := #[3, 4], accessFlags := 1041 }

/-- the primitive double -/
def k7 : Class := { plain "double" none with kind := .primitive 'D', accessFlags := 0x411 }
/-- [D -/
def k8 : Class := { plain "[D" (some 0) with kind := .array 7 .double, interfaces := #[3, 4], accessFlags := 1041 }

/-- the primitive int -/
def k9 : Class := { plain "int" none with kind := .primitive 'I', accessFlags := 0x411 }
/-- [I -/
def k10 : Class := { plain "[I" (some 0) with kind := .array 9 .int, interfaces := #[3, 4], accessFlags := 1041 }

def heap : Heap := #[]
def classes : Array Class := #[k0, k1, k2, k3, k4, k5, k6, k7, k8, k9, k10]
def interned : List (Array UInt16 × Addr) := []
def slotsUsed : Nat := 0
def theMethod : MethodId := ⟨1, 1⟩
def args0 : Array Value := #[.long 1, .long 2, .int 3, .int 4, .int 5]
def aboutOver (below : List Frame) : State where
  vm := { classes := classes, interned := interned.toArray }
  heap := heap
  slotsUsed := slotsUsed
  threads := #[{ frames := .invoking theMethod args0 :: below }]
def below0 : List Frame := [.native { method := ⟨0, 0⟩, args := #[] }]
def about1 : State := aboutOver below0
def p0 : Program := .bare "" "" ""
def e0 : Env := launch0.env 0 0 0
theorem w_frames : about1.frames = Frame.invoking theMethod args0 :: below0 := rfl
set_option maxRecDepth 65536 in
theorem w_args : argsFit about1.vm theMethod args0 = true := by decide +kernel
set_option maxRecDepth 65536 in
theorem w_heap : heapFits about1 = true := by decide +kernel
set_option maxRecDepth 65536 in
theorem w_runnable : about1.curStatus? = some .runnable := by decide +kernel
set_option maxRecDepth 65536 in
theorem w_alone : about1.alone = true := by decide +kernel
set_option maxRecDepth 65536 in
theorem w_named : about1.methodNamed? x = some theMethod := by decide +kernel
set_option maxRecDepth 65536 in
theorem w_hears : about1.hears theMethod below0 = true := by decide +kernel
set_option maxRecDepth 65536 in
theorem w_ripe : about1.ripe theMethod args0 below0 = true := by decide +kernel
theorem w_running : about1.status = .running := rfl
set_option maxRecDepth 65536 in
theorem w_room : about1.hasRoom e0.platform room_1 = true :=
  launch0.hasRoom_least _ room_1 (by decide +kernel) (by decide +kernel) (by decide +kernel) (by decide +kernel) (by decide +kernel) (by decide +kernel)
theorem allAtoms_all (ts : List Jvm.Cond) (a : Array Jvm.Value) (st : Jvm.State) : (allAtoms ts).before a st = ts.all (fun c => c.before a st) := by
  induction ts with
  | nil => rfl
  | cons c t ih =>
    show (Jvm.Cond.and c (allAtoms t)).before a st = _
    rw [Jvm.Cond.before_and, ih, List.all_cons]
def words1 : List Jvm.Cond := Jvm.Cond.code x code maxLocals ret :: tables_1
/-- a 'code' word, met by the world's own term for the bytes: nothing is compared byte by byte -/
theorem code_word {y : MethodName} {bytes : ByteArray} {mx : Nat} {rt : Option FieldType} {a : Array Value} {s : State} {m : MethodId} {meth : Method} {c : Code} (h1 : s.methodNamed? y = some m) (h2 : s.vm.method? m = some meth) (h3 : meth.code = some c) (h4 : c.code = bytes)
    (h5 : (c.maxLocals == mx && c.exceptionTable.isEmpty && decide (c.maxStack ≤ mostOperands) && decide (meth.sig.returnType = rt) && !meth.locks && decide (parseMethodDescriptor y.desc = some meth.sig)) = true) : (Jvm.Cond.code y bytes mx rt).before a s = true := by
  simp only [Bool.and_eq_true, beq_iff_eq, Bool.not_eq_true', decide_eq_true_eq] at h5
  obtain ⟨⟨⟨⟨⟨g1, g2⟩, g3⟩, g4⟩, g5⟩, g6⟩ := h5
  simp [Cond.before, Cond.holds, Cond.value, h1, h2, h3, h4, g1, g2, g3, g4, g5, g6]
def isCode : Jvm.Cond → Bool
  | .code _ _ _ _ => true
  | _ => false
theorem all_split {L : List Jvm.Cond} {P : Jvm.Cond → Bool} (h1 : L.all (fun c => isCode c || P c) = true) (h2 : ∀ c ∈ L.filter isCode, P c = true) : L.all P = true := by
  refine List.all_eq_true.mpr fun c hc => ?_
  have h := List.all_eq_true.mp h1 c hc
  rcases Bool.eq_false_or_eq_true (isCode c) with hi | hi
  · exact h2 c (List.mem_filter.mpr ⟨hc, hi⟩)
  · simpa [hi] using h
set_option maxRecDepth 65536 in
theorem w_c0 : (Jvm.Cond.code x code maxLocals ret).before args0 about1 = true := code_word (m := ⟨1, 1⟩) (meth := k1m1) (c := k1c1) (by decide +kernel) rfl rfl rfl (by decide +kernel)
set_option maxRecDepth 65536 in
theorem w_c1 : (Jvm.Cond.code ({ cls := "com/example/skyweave/skyweave/KdTreeSplitPinLaw", name := "put", desc := "([I[D[D[DIJJIIII)V" } : Jvm.MethodName) method_3_code (19 : Nat) (Option.none : Option Jvm.ClassFile.FieldType)).before args0 about1 = true := code_word (m := ⟨1, 2⟩) (meth := k1m2) (c := k1c2) (by decide +kernel) rfl rfl rfl (by decide +kernel)
set_option maxRecDepth 65536 in
theorem w_c2 : (Jvm.Cond.code ({ cls := "com/example/skyweave/skyweave/KdTree", name := "<init>", desc := "(I[I[DI)V" } : Jvm.MethodName) prog_13_method_1_code (6 : Nat) (Option.none : Option Jvm.ClassFile.FieldType)).before args0 about1 = true := code_word (m := ⟨2, 0⟩) (meth := k2m0) (c := k2c0) (by decide +kernel) rfl rfl rfl (by decide +kernel)
set_option maxRecDepth 65536 in
theorem w_c3 : (Jvm.Cond.code ({ cls := "java/lang/Object", name := "<init>", desc := "()V" } : Jvm.MethodName) object_method_1_code (1 : Nat) (Option.none : Option Jvm.ClassFile.FieldType)).before args0 about1 = true := code_word (m := ⟨0, 0⟩) (meth := k0m0) (c := k0c0) (by decide +kernel) rfl rfl rfl (by decide +kernel)
set_option maxRecDepth 65536 in
theorem w_c4 : (Jvm.Cond.code ({ cls := "com/example/skyweave/skyweave/KdTree", name := "split", desc := "(II[D[D[D)I" } : Jvm.MethodName) prog_13_method_3_code (15 : Nat) (Option.some Jvm.ClassFile.FieldType.int)).before args0 about1 = true := code_word (m := ⟨2, 1⟩) (meth := k2m1) (c := k2c1) (by decide +kernel) rfl rfl rfl (by decide +kernel)
set_option maxRecDepth 65536 in
theorem w_c5 : (Jvm.Cond.code ({ cls := "com/example/skyweave/skyweave/KdTreeSplitPinLaw", name := "widest", desc := "(IIII)I" } : Jvm.MethodName) method_4_code (4 : Nat) (Option.some Jvm.ClassFile.FieldType.int)).before args0 about1 = true := code_word (m := ⟨1, 3⟩) (meth := k1m3) (c := k1c3) (by decide +kernel) rfl rfl rfl (by decide +kernel)
set_option maxRecDepth 65536 in
theorem w_c6 : (Jvm.Cond.code ({ cls := "com/example/skyweave/skyweave/KdTreeSplitPinLaw", name := "pos", desc := "(Lcom/example/skyweave/skyweave/KdTree;IIIII[D[DZ)I" } : Jvm.MethodName) method_5_code (15 : Nat) (Option.some Jvm.ClassFile.FieldType.int)).before args0 about1 = true := code_word (m := ⟨1, 4⟩) (meth := k1m4) (c := k1c4) (by decide +kernel) rfl rfl rfl (by decide +kernel)
set_option maxRecDepth 65536 in
theorem w_c7 : (Jvm.Cond.code ({ cls := "com/example/skyweave/skyweave/KdTree", name := "placeMiddle", desc := "(IIII)V" } : Jvm.MethodName) prog_13_method_5_code (11 : Nat) (Option.none : Option Jvm.ClassFile.FieldType)).before args0 about1 = true := code_word (m := ⟨2, 2⟩) (meth := k2m2) (c := k2c2) (by decide +kernel) rfl rfl rfl (by decide +kernel)
set_option maxRecDepth 65536 in
theorem w_c8 : (Jvm.Cond.code ({ cls := "com/example/skyweave/skyweave/KdTree", name := "swap", desc := "(II)V" } : Jvm.MethodName) prog_13_method_6_code (7 : Nat) (Option.none : Option Jvm.ClassFile.FieldType)).before args0 about1 = true := code_word (m := ⟨2, 3⟩) (meth := k2m3) (c := k2c3) (by decide +kernel) rfl rfl rfl (by decide +kernel)
def codes1 : List Jvm.Cond := [Jvm.Cond.code x code maxLocals ret, Jvm.Cond.code ({ cls := "com/example/skyweave/skyweave/KdTreeSplitPinLaw", name := "put", desc := "([I[D[D[DIJJIIII)V" } : Jvm.MethodName) method_3_code (19 : Nat) (Option.none : Option Jvm.ClassFile.FieldType), Jvm.Cond.code ({ cls := "com/example/skyweave/skyweave/KdTree", name := "<init>", desc := "(I[I[DI)V" } : Jvm.MethodName) prog_13_method_1_code (6 : Nat) (Option.none : Option Jvm.ClassFile.FieldType), Jvm.Cond.code ({ cls := "java/lang/Object", name := "<init>", desc := "()V" } : Jvm.MethodName) object_method_1_code (1 : Nat) (Option.none : Option Jvm.ClassFile.FieldType), Jvm.Cond.code ({ cls := "com/example/skyweave/skyweave/KdTree", name := "split", desc := "(II[D[D[D)I" } : Jvm.MethodName) prog_13_method_3_code (15 : Nat) (Option.some Jvm.ClassFile.FieldType.int), Jvm.Cond.code ({ cls := "com/example/skyweave/skyweave/KdTreeSplitPinLaw", name := "widest", desc := "(IIII)I" } : Jvm.MethodName) method_4_code (4 : Nat) (Option.some Jvm.ClassFile.FieldType.int), Jvm.Cond.code ({ cls := "com/example/skyweave/skyweave/KdTreeSplitPinLaw", name := "pos", desc := "(Lcom/example/skyweave/skyweave/KdTree;IIIII[D[DZ)I" } : Jvm.MethodName) method_5_code (15 : Nat) (Option.some Jvm.ClassFile.FieldType.int), Jvm.Cond.code ({ cls := "com/example/skyweave/skyweave/KdTree", name := "placeMiddle", desc := "(IIII)V" } : Jvm.MethodName) prog_13_method_5_code (11 : Nat) (Option.none : Option Jvm.ClassFile.FieldType), Jvm.Cond.code ({ cls := "com/example/skyweave/skyweave/KdTree", name := "swap", desc := "(II)V" } : Jvm.MethodName) prog_13_method_6_code (7 : Nat) (Option.none : Option Jvm.ClassFile.FieldType)]
set_option maxRecDepth 65536 in
theorem codes_eq : words1.filter isCode = codes1 := rfl
theorem w_codes : ∀ c ∈ words1.filter isCode, c.before args0 about1 = true := by
  rw [codes_eq]
  intro c hc
  simp only [codes1, List.mem_cons, List.not_mem_nil, or_false] at hc
  rcases hc with rfl | rfl | rfl | rfl | rfl | rfl | rfl | rfl | rfl
  · exact w_c0
  · exact w_c1
  · exact w_c2
  · exact w_c3
  · exact w_c4
  · exact w_c5
  · exact w_c6
  · exact w_c7
  · exact w_c8
set_option maxRecDepth 65536 in
theorem w_t1 : (words1.take 24).all (fun c => isCode c || c.before args0 about1) = true := by decide +kernel
set_option maxRecDepth 65536 in
theorem w_t2 : ((words1.drop 24).take 24).all (fun c => isCode c || c.before args0 about1) = true := by decide +kernel
set_option maxRecDepth 65536 in
theorem w_t3 : ((words1.drop 24).drop 24).all (fun c => isCode c || c.before args0 about1) = true := by decide +kernel
theorem w_tables : (allAtoms (Jvm.Cond.code x code maxLocals ret :: tables_1)).before args0 about1 = true := by
  rw [allAtoms_all]
  show words1.all (fun c => c.before args0 about1) = true
  refine all_split ?_ w_codes
  rw [← List.take_append_drop 24 words1, List.all_append, w_t1, ← List.take_append_drop 24 (words1.drop 24), List.all_append, w_t2, w_t3]
  rfl
set_option maxRecDepth 65536 in
theorem w_case : (Jvm.Cond.and given_1 narrow_1).before args0 about1 = true := by decide +kernel
theorem w_applies : (headSpec (Jvm.Cond.code x code maxLocals ret :: tables_1) room_1).applies x e0.platform about1 = true :=
  (Spec.applies_iff w_frames).mpr ⟨w_running, w_runnable, w_alone, w_named, w_hears, w_ripe, w_room, w_tables⟩
theorem atStart : AtStart classFile x code maxLocals ret World_1 tables_1 room_1 Calls_1 rest_1 Pre_1 launch0 p0 e0 about1 theMethod args0 below0 :=
  ⟨lists_1, trivial, launch0.admits_env _ _ _, launch0.least_env, fairChoices_fair.cas, fairChoices_fair.clock, w_frames, w_args, w_heap, w_applies, trivial, trivial, w_case⟩
end start1
theorem witness_1 : WitnessClaimed_1 := ⟨start1.p0, start1.e0, start1.about1, start1.theMethod, start1.args0, start1.below0, start1.atStart⟩
end Jvm.Pilot.@@N@@
