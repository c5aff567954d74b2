import JvmDerived
import JvmDerived.Pilot.@@N@@Statement
import JvmDerived.Pilot.@@N@@Code
set_option linter.unusedVariables false
set_option linter.unusedSimpArgs false

namespace Jvm.RoadKit
open Sem ClassFile Op Lib Jvm.Stand Jvm.Free Jvm.LawKit
section Own
variable {p : Program} {l : Launch} {e : Env} {R : Room} {s : State} {m : MethodId} {args : Array Value} {below : List Frame} {meth : Method} {c : Code} {T : State} {locs : List Loc} {cells slots : Nat} {Z : State} {a0 : Array Value} {h h' : Heap} {Q : Option Value → Heap → List Loc → Prop} {kc ks : Nat}
/-- the body comes back from S, with what Q says -/
def own_Win (p : Program) (e : Env) (below : List Frame) (s : State) (Q : Option Value → Heap → List Loc → Prop) (kc ks : Nat) (S : State) : Prop :=
  ∃ U o, Steps p.tables e below S U ∧ U.status = .running ∧ Ended U below o ∧ ∃ v L, o = .returned v ∧ Q v U.heap L ∧ FrameEnd s o U L kc ks
theorem own_st {S S' : State} (st : ∀ t, Steps p.tables e below S' t → Steps p.tables e below S t) (w : own_Win p e below s Q kc ks S') : own_Win p e below s Q kc ks S := by
  obtain ⟨U, o, h1, h2⟩ := w
  exact ⟨U, o, st U h1, h2⟩
theorem own_ret (X : Stand p l e R s m args below meth c T locs cells slots) (hx : p.tables.exec = Jvm.exec) (hlk : meth.locks = false) {pc : Nat} {Ls : Array Slot} {w : Value} {t : FieldType} {i : Instr} {rest : List Value} (hret : meth.sig.returnType = some t) (hn : narrow t w = w)
    (hi : (i = .ireturn ∧ (t = .int ∨ t = .boolean ∨ t = .byte ∨ t = .char ∨ t = .short) ∧ ∃ z, w = .int z) ∨ (i = .lreturn ∧ t = .long ∧ ∃ z, w = .long z) ∨ (i = .dreturn ∧ t = .double ∧ ∃ z, w = .double z) ∨ (i = .freturn ∧ t = .float ∧ ∃ z, w = .float z) ∨ (i = .areturn ∧ t.isReference = true ∧ w.isRef = true))
    (hd : decode c.code pc = .ok (i, 1)) (hQ : Q (some w) T.heap locs) (hc : cells ≤ kc) (hs : slots ≤ ks) :
    own_Win p e below s Q kc ks (T.setTop (mkF m pc Ls (w :: rest))) := by
  obtain ⟨fs, hr, hrun, hended, hW, hsame⟩ := X.leave (v := some w) (fun h => by rw [hret] at h; cases h) hlk
  exact ⟨_, _, retOut X hx hret hn hi hd hr, hrun, hended, _, _, rfl, hQ, ⟨_, rfl⟩, hW, hsame.mono hc hs⟩
theorem own_retV (X : Stand p l e R s m args below meth c T locs cells slots) (hx : p.tables.exec = Jvm.exec) (hlk : meth.locks = false) {pc : Nat} {Ls : Array Slot} (hret : meth.sig.returnType = none)
    (hd : decode c.code pc = .ok (.return_, 1)) (hQ : Q none T.heap locs) (hc : cells ≤ kc) (hs : slots ≤ ks) :
    own_Win p e below s Q kc ks (T.setTop (mkF m pc Ls [])) := by
  obtain ⟨fs, hr, hrun, hended, hW, hsame⟩ := X.leave (v := none) (fun _ => rfl) hlk
  exact ⟨_, _, X.returnOut hx hret hd hr, hrun, hended, _, _, rfl, hQ, ⟨_, rfl⟩, hW, hsame.mono hc hs⟩
/-- what a callee's contract is -/
abbrev own_Met (l : Launch) (Z : State) (y : MethodName) (bytes : ByteArray) (maxL : Nat) (ret : Option FieldType) (rm : Room) (as' : Array Value) (h : Heap) (Q' : Option Value → Heap → List Loc → Prop) : Prop :=
  MetFree l y (head1 [Cond.code y bytes maxL ret] rm) (fun a U => a = as' ∧ Z.Warmed39 U.vm ∧ U.heap = h) (fun _ _ _ _ _ => True) (fun _ U o U' => ∃ v L, o = .returned v ∧ Q' v U'.heap L ∧ FrameEnd U o U' L rm.cells rm.slots)
theorem own_callS (X : Stand p l e R s m args below meth c T locs cells slots) (hx : p.tables.exec = Jvm.exec) (hZ : Z.Warmed39 s.vm) {own : String} {index : Nat} {y : MethodName} {bytes : ByteArray} {maxL : Nat} {ret : Option FieldType} {rm : Room} {as' : Array Value} {Q' : Option Value → Heap → List Loc → Prop} {W : Nat}
    (hown : s.vm.findClass own = some m.cls) (w1 : (Cond.methodLink own index y).before a0 Z = true) (w2 : (Cond.static y).before a0 Z = true) (w3 : (Cond.initialized y.cls).before a0 Z = true) (w4 : (Cond.code y bytes maxL ret).before a0 Z = true)
    (hy : y.cls ≠ "java/lang/invoke/MethodHandle" ∧ y.cls ≠ "java/lang/invoke/VarHandle") (eT : T.heap = h) (hM : own_Met l Z y bytes maxL ret rm as' h Q') (hf : rm.frames + 1 ≤ R.frames) (hl : W + (maxL + 11) + rm.locals ≤ R.locals)
    {g : JFrame} (hg : g.method = m) (hsize : g.locals.size = c.maxLocals) {argsL rest : List Value} (hlen : ∀ sig, parseMethodDescriptor y.desc = some sig → argsL.length = sig.parameters.length)
    (hst : g.stack = argsL.reverse ++ rest) (hW : 2 * g.monitorRoom + (rest.map fun v => v.category).sum ≤ W) (hd : decode c.code g.pc = .ok (.invokestatic index, 3)) (has : argsL.toArray = as') (hc : cells + rm.cells ≤ R.cells) (hs : slots + rm.slots ≤ R.slots)
    (k : ∀ (T' : State) (v : Option Value) (L : List Loc), Stand p l e R s m args below meth c T' (locs ++ L) (cells + rm.cells) (slots + rm.slots) → Q' v T'.heap L → own_Win p e below s Q kc ks (T'.setTop { g with pc := g.pc + 3, stack := v.toList ++ rest })) :
    own_Win p e below s Q kc ks (T.setTop g) := by
  obtain ⟨v, vm1, ⟨T', L', c', n'⟩, -, X', ⟨L, hQ, l1, y1, z1⟩, st⟩ := Jvm.LawKit.callS X hx (y := y) (W := W) hown (mvT hZ w1) (mvT hZ w2) (mvT hZ w3) (mvT hZ w4) hy (backOf (W := W) hM hZ w4 w3 hf hl) hg hsize (argsL := argsL) (rest := rest) hlen hst hW hd (fun _ _ => ⟨has, eT, hc, hs⟩)
  dsimp only [Pt.U, Pt.locs, Pt.cells, Pt.slots] at X' l1 y1 z1 st hQ
  subst l1 y1 z1
  exact own_st st (k _ _ _ X' hQ)
theorem own_callV (X : Stand p l e R s m args below meth c T locs cells slots) (hx : p.tables.exec = Jvm.exec) (hZ : Z.Warmed39 s.vm) {own C : String} {index : Nat} {y : MethodName} {bytes : ByteArray} {maxL : Nat} {ret : Option FieldType} {rm : Room} {as' : Array Value} {Q' : Option Value → Heap → List Loc → Prop} {W : Nat}
    (hown : s.vm.findClass own = some m.cls) (w1 : (Cond.methodLink own index y).before a0 Z = true) (w2 : (Cond.declares y).before a0 Z = true) (w3 : (Cond.selects C y y).before a0 Z = true) (w5 : (Cond.instanceMethod y).before a0 Z = true) (w4 : (Cond.code y bytes maxL ret).before a0 Z = true) (w6 : (Cond.initialized y.cls).before a0 Z = true)
    (hy : y.cls ≠ "java/lang/invoke/MethodHandle" ∧ y.cls ≠ "java/lang/invoke/VarHandle") (eT : T.heap = h) {a : Addr} (E : Exa Z h a C) (hM : own_Met l Z y bytes maxL ret rm as' h Q') (hf : rm.frames + 1 ≤ R.frames) (hl : W + (maxL + 11) + rm.locals ≤ R.locals)
    {g : JFrame} (hg : g.method = m) (hsize : g.locals.size = c.maxLocals) {argsL rest : List Value} (hlen : ∀ sig, parseMethodDescriptor y.desc = some sig → argsL.length = sig.parameters.length)
    (hst : g.stack = argsL.reverse ++ .ref a :: rest) (hW : 2 * g.monitorRoom + (rest.map fun v => v.category).sum ≤ W) (hd : decode c.code g.pc = .ok (.invokevirtual index, 3)) (has : (.ref a :: argsL).toArray = as') (hc : cells + rm.cells ≤ R.cells) (hs : slots + rm.slots ≤ R.slots)
    (k : ∀ (T' : State) (v : Option Value) (L : List Loc), Stand p l e R s m args below meth c T' (locs ++ L) (cells + rm.cells) (slots + rm.slots) → Q' v T'.heap L → own_Win p e below s Q kc ks (T'.setTop { g with pc := g.pc + 3, stack := v.toList ++ rest })) :
    own_Win p e below s Q kc ks (T.setTop g) := by
  obtain ⟨cB, kB, q1, q2, q3⟩ := isOf (T := T) hZ eT E
  obtain ⟨v, vm1, ⟨T', L', c', n'⟩, -, X', ⟨L, hQ, l1, y1, z1⟩, st⟩ := X.virtualBack hx (y := y) (z := y) (W := W) hown (mvT hZ w1) (mvT hZ w2) (notFace_of_selects (args := #[]) (mvT hZ w3)) (mvT hZ w3) (mvT hZ w5) hy (backOf (W := W) hM hZ w4 w6 hf hl) q1 q3 hg hsize (Steps.refl _) (argsL := argsL) (rest := rest) hlen hst hW hd (fun _ _ => ⟨has, eT, hc, hs⟩)
  dsimp only [Pt.U, Pt.locs, Pt.cells, Pt.slots] at X' l1 y1 z1 st hQ
  subst l1 y1 z1
  exact own_st (fun t q => st.trans q) (k _ _ _ X' hQ)
theorem own_callI (X : Stand p l e R s m args below meth c T locs cells slots) (hx : p.tables.exec = Jvm.exec) (hZ : Z.Warmed39 s.vm) {own : String} {index : Nat} {y : MethodName} {bytes : ByteArray} {maxL : Nat} {rm : Room} {as' : Array Value} {Q' : Option Value → Heap → List Loc → Prop} {W : Nat}
    (hy1 : y.name = "<init>") (hown : s.vm.findClass own = some m.cls) (w1 : (Cond.methodLink own index y).before a0 Z = true) (w5 : (Cond.instanceMethod y).before a0 Z = true) (w4 : (Cond.code y bytes maxL none).before a0 Z = true) (w6 : (Cond.initialized y.cls).before a0 Z = true)
    (hy : y.cls ≠ "java/lang/invoke/MethodHandle" ∧ y.cls ≠ "java/lang/invoke/VarHandle") (eT : T.heap = h) {a : Addr} (hM : own_Met l Z y bytes maxL none rm as' h Q') (hf : rm.frames + 1 ≤ R.frames) (hl : W + (maxL + 11) + rm.locals ≤ R.locals)
    {g : JFrame} (hg : g.method = m) (hsize : g.locals.size = c.maxLocals) {argsL rest : List Value} (hlen : ∀ sig, parseMethodDescriptor y.desc = some sig → argsL.length = sig.parameters.length)
    (hst : g.stack = argsL.reverse ++ .ref a :: rest) (hW : 2 * g.monitorRoom + (rest.map fun v => v.category).sum ≤ W) (hd : decode c.code g.pc = .ok (.invokespecial index, 3)) (has : (.ref a :: argsL).toArray = as') (hc : cells + rm.cells ≤ R.cells) (hs : slots + rm.slots ≤ R.slots)
    (k : ∀ (T' : State) (v : Option Value) (L : List Loc), Stand p l e R s m args below meth c T' (locs ++ L) (cells + rm.cells) (slots + rm.slots) → Q' v T'.heap L → own_Win p e below s Q kc ks (T'.setTop { g with pc := g.pc + 3, stack := v.toList ++ rest })) :
    own_Win p e below s Q kc ks (T.setTop g) := by
  obtain ⟨v, vm1, ⟨T', L', c', n'⟩, -, X', ⟨L, hQ, l1, y1, z1⟩, st⟩ := X.specialBack hx (y := y) (W := W) hy1 hown (mvT hZ w1) (mvT hZ w5) (mvT hZ w4) hy (backOf (W := W) hM hZ w4 w6 hf hl) hg hsize (Steps.refl _) (a := a) (argsL := argsL) (rest := rest) hlen hst hW hd (fun _ _ => ⟨has, eT, hc, hs⟩)
  dsimp only [Pt.U, Pt.locs, Pt.cells, Pt.slots] at X' l1 y1 z1 st hQ
  subst l1 y1 z1
  exact own_st (fun t q => st.trans q) (k _ _ _ X' hQ)
theorem own_callP (X : Stand p l e R s m args below meth c T locs cells slots) (hx : p.tables.exec = Jvm.exec) (hZ : Z.Warmed39 s.vm) {own C C' : String} {index : Nat} {y z0 : MethodName} {bytes : ByteArray} {maxL : Nat} {ret : Option FieldType} {rm : Room} {as' : Array Value} {Q' : Option Value → Heap → List Loc → Prop} {W : Nat}
    (hown : s.vm.findClass own = some m.cls) (w1 : (Cond.methodLink own index y).before a0 Z = true) (w5 : (Cond.instanceMethod y).before a0 Z = true) (w7 : (Cond.privateMethod y).before a0 Z = true) (w4 : (Cond.code y bytes maxL ret).before a0 Z = true) (w6 : (Cond.initialized y.cls).before a0 Z = true) (w3 : (Cond.selects C' z0 z0).before a0 Z = true) (hzy : z0.cls = y.cls)
    (hy : y.cls ≠ "java/lang/invoke/MethodHandle" ∧ y.cls ≠ "java/lang/invoke/VarHandle") (eT : T.heap = h) {a : Addr} (E : Exa Z h a C) (hM : own_Met l Z y bytes maxL ret rm as' h Q') (hf : rm.frames + 1 ≤ R.frames) (hl : W + (maxL + 11) + rm.locals ≤ R.locals)
    {g : JFrame} (hg : g.method = m) (hsize : g.locals.size = c.maxLocals) {argsL rest : List Value} (hlen : ∀ sig, parseMethodDescriptor y.desc = some sig → argsL.length = sig.parameters.length)
    (hst : g.stack = argsL.reverse ++ .ref a :: rest) (hW : 2 * g.monitorRoom + (rest.map fun v => v.category).sum ≤ W) (hd : decode c.code g.pc = .ok (.invokevirtual index, 3)) (has : (.ref a :: argsL).toArray = as') (hc : cells + rm.cells ≤ R.cells) (hs : slots + rm.slots ≤ R.slots)
    (k : ∀ (T' : State) (v : Option Value) (L : List Loc), Stand p l e R s m args below meth c T' (locs ++ L) (cells + rm.cells) (slots + rm.slots) → Q' v T'.heap L → own_Win p e below s Q kc ks (T'.setTop { g with pc := g.pc + 3, stack := v.toList ++ rest })) :
    own_Win p e below s Q kc ks (T.setTop g) := by
  have i5 : (Cond.instanceMethod y).before args s = true := mvT hZ w5
  have hpriv := Cond.privateMethod_at (mvP (args := args) hZ w7)
  have i3 : (Cond.selects C' z0 z0).before args s = true := mvT hZ w3
  obtain ⟨c2, r2, m2, -, -, q3, -, kP, hkP, hkPi⟩ := Cond.selects_spec i3
  have hcc := findClass_of_methodNamed q3
  rw [hzy] at hcc
  obtain ⟨cell, hcell, hobj⟩ := Exa.cell E
  obtain ⟨v, vm1, ⟨T', L', c', n'⟩, -, X', ⟨L, hQ, l1, y1, z1⟩, st⟩ := X.privateBack hx (y := y) (W := W) hown (mvT hZ w1) i5 (selects_self_of_private hcc hkP hkPi hpriv i5 hy) hpriv (mvT hZ w4) hy (backOf (W := W) hM hZ w4 w6 hf hl) hg hsize (Steps.refl _) (a := a) (by rw [eT]; exact hcell) hobj (argsL := argsL) (rest := rest) hlen hst hW hd (fun _ _ => ⟨has, eT, hc, hs⟩)
  dsimp only [Pt.U, Pt.locs, Pt.cells, Pt.slots] at X' l1 y1 z1 st hQ
  subst l1 y1 z1
  exact own_st (fun t q => st.trans q) (k _ _ _ X' hQ)
end Own
/-! arrays of doubles and of ints, by a function -/
section Arrays
variable {p : Program} {l : Launch} {e : Env} {R : Room} {s : State} {m : MethodId} {args : Array Value} {below : List Frame} {meth : Method} {c : Code} {T : State} {locs : List Loc} {cells slots : Nat} {Z : State} {a0 : Array Value} {h h' : Heap} {Q : Option Value → Heap → List Loc → Prop} {kc ks : Nat}
def own_up {A : Type} (f : Nat → A) (i : Nat) (x : A) : Nat → A := fun k => if k = i then x else f k
theorem own_up_hit {A : Type} (f : Nat → A) (i : Nat) (x : A) : own_up f i x i = x := if_pos rfl
theorem own_up_miss {A : Type} (f : Nat → A) {i k : Nat} (x : A) (q : k ≠ i) : own_up f i x k = f k := if_neg q
def own_Av (Z : State) (h : Heap) (a : Addr) (ty : FieldType) (n : Nat) (f : Nat → Value) : Prop := n < 2 ^ 31 ∧ ∃ c : Cell, Arr Z h a c ty ∧ c.slots.size = n ∧ ∀ k, k < n → c.slots[k]? = some (f k)
def own_Da (Z : State) (h : Heap) (a : Addr) (n : Nat) (f : Nat → UInt64) : Prop := own_Av Z h a .double n (fun k => .double (f k))
def own_Ia (Z : State) (h : Heap) (a : Addr) (n : Nat) (f : Nat → Int32) : Prop := own_Av Z h a .int n (fun k => .int (f k))
section Av
variable {a b : Addr} {ty : FieldType} {n : Nat} {f g : Nat → Value}
theorem own_Av.lt (F : own_Av Z h a ty n f) : a < h.size := by obtain ⟨-, c, A, -⟩ := F; exact A.lt
theorem own_Av.ext (E : Ext h h') (F : own_Av Z h a ty n f) : own_Av Z h' a ty n f := by obtain ⟨q, c, A, r⟩ := F; exact ⟨q, c, A.ext E, r⟩
theorem own_Av.other {sl : Nat} {v : Value} (W : Wr h h' b sl v) (F : own_Av Z h a ty n f) (q : a ≠ b) : own_Av Z h' a ty n f := by obtain ⟨r, c, A, u⟩ := F; exact ⟨r, c, A.other W q, u⟩
theorem own_Av.keep {ws : List Addr} (K : Keep h h' ws) (F : own_Av Z h a ty n f) (q : a ∉ ws) : own_Av Z h' a ty n f := by
  obtain ⟨r, c, A, u⟩ := F
  exact ⟨r, c, ⟨K.2.1 a c A.1 q, A.2⟩, u⟩
theorem own_Av.set {i : Nat} {v : Value} (W : Wr h h' a i v) (F : own_Av Z h a ty n f) (hi : i < n) : own_Av Z h' a ty n (own_up f i v) := by
  obtain ⟨r, c, A, S, H⟩ := F
  refine ⟨r, _, A.same W, by rw [sz_set]; exact S, fun k hk => ?_⟩
  show (c.slots.setIfInBounds i v)[k]? = _
  by_cases e : k = i
  · subst e; rw [own_up_hit]; simp [S, hk]
  · rw [own_up_miss _ _ e, Array.getElem?_setIfInBounds_ne (Ne.symm e)]; exact H k hk
theorem own_Av.congr (F : own_Av Z h a ty n f) (q : ∀ k, k < n → f k = g k) : own_Av Z h a ty n g := by
  obtain ⟨r, c, A, S, H⟩ := F
  exact ⟨r, c, A, S, fun k hk => by rw [← q k hk]; exact H k hk⟩
end Av
theorem own_clamp {j : Int32} {i : Nat} (hj : j.toInt = (i : Int)) : ¬ j < 0 ∧ j.toNatClampNeg = i := by
  refine ⟨fun q => ?_, ?_⟩
  · have := Int32.lt_iff_toInt_lt.mp q
    rw [hj] at this
    have : ((0 : Int32).toInt) = 0 := rfl
    omega
  · show j.toInt.toNat = i
    rw [hj]; rfl
theorem own_daload (X : Stand p l e R s m args below meth c T locs cells slots) (hx : p.tables.exec = Jvm.exec) (hZ : Z.Warmed39 s.vm) (eT : T.heap = h) {a : Addr} {n i : Nat} {f : Nat → UInt64} (F : own_Da Z h a n f) {j : Int32} (hj : j.toInt = (i : Int)) (hi : i < n)
    {x : UInt64} (hv : f i = x) {g : JFrame} (hg : g.method = m) {rest : List Value} (hs : g.stack = .int j :: .ref a :: rest) (hd : decode c.code g.pc = .ok (.daload, 1))
    (k : own_Win p e below s Q kc ks (T.setTop { g with pc := g.pc + 1, stack := .double x :: rest })) : own_Win p e below s Q kc ks (T.setTop g) := by
  obtain ⟨r, cl, A, S, H⟩ := F
  obtain ⟨q1, q2⟩ := own_clamp hj
  subst hv
  exact own_st (fun t q => X.daload hx (cell := cl) (j := j) (v := .double (f i)) (by rw [eT]; exact A.1) (State.isArrayOf_alike hZ.alike A.2.1) A.2.2 (by rw [q2, S]; intro z; rcases z with z | z; exact q1 z; omega) (by rw [q2]; exact H i hi) hg hs hd t q) k
theorem own_iaload (X : Stand p l e R s m args below meth c T locs cells slots) (hx : p.tables.exec = Jvm.exec) (hZ : Z.Warmed39 s.vm) (eT : T.heap = h) {a : Addr} {n i : Nat} {f : Nat → Int32} (F : own_Ia Z h a n f) {j : Int32} (hj : j.toInt = (i : Int)) (hi : i < n)
    {x : Int32} (hv : f i = x) {g : JFrame} (hg : g.method = m) {rest : List Value} (hs : g.stack = .int j :: .ref a :: rest) (hd : decode c.code g.pc = .ok (.iaload, 1))
    (k : own_Win p e below s Q kc ks (T.setTop { g with pc := g.pc + 1, stack := .int x :: rest })) : own_Win p e below s Q kc ks (T.setTop g) := by
  obtain ⟨r, cl, A, S, H⟩ := F
  obtain ⟨q1, q2⟩ := own_clamp hj
  subst hv
  exact own_st (fun t q => X.iaload hx (cell := cl) (j := j) (v := .int (f i)) (by rw [eT]; exact A.1) (State.isArrayOf_alike hZ.alike A.2.1) A.2.2 (by rw [q2, S]; intro z; rcases z with z | z; exact q1 z; omega) (by rw [q2]; exact H i hi) hg hs hd t q) k
theorem own_alen (X : Stand p l e R s m args below meth c T locs cells slots) (hx : p.tables.exec = Jvm.exec) (hZ : Z.Warmed39 s.vm) (eT : T.heap = h) {a : Addr} {ty : FieldType} {n : Nat} {f : Nat → Value} (F : own_Av Z h a ty n f) {z : Int32} (hz : n.toInt32 = z)
    {g : JFrame} (hg : g.method = m) {rest : List Value} (hs : g.stack = .ref a :: rest) (hd : decode c.code g.pc = .ok (.arraylength, 1))
    (k : own_Win p e below s Q kc ks (T.setTop { g with pc := g.pc + 1, stack := .int z :: rest })) : own_Win p e below s Q kc ks (T.setTop g) := by
  obtain ⟨r, cl, A, S, H⟩ := F
  subst hz
  refine own_st (fun t q => X.arraylength hx (cell := cl) (by rw [eT]; exact A.1) (State.isArrayOf_alike hZ.alike A.2.1) hg hs hd t ?_) k
  rw [S]; exact q
theorem own_dastore (X : Stand p l e R s m args below meth c T locs cells slots) (hx : p.tables.exec = Jvm.exec) (hZ : Z.Warmed39 s.vm) (eT : T.heap = h) {a : Addr} {n i : Nat} {f : Nat → UInt64} (F : own_Da Z h a n f) {j : Int32} (hj : j.toInt = (i : Int)) (hi : i < n) {n0 : Nat} (N : Fr n0 locs) (hn : n0 ≤ a)
    {x : UInt64} {g : JFrame} (hg : g.method = m) {rest : List Value} (hs : g.stack = .double x :: .int j :: .ref a :: rest) (hd : decode c.code g.pc = .ok (.dastore, 1))
    (k : ∀ (T' : State) (h' : Heap) (locs' : List Loc), Stand p l e R s m args below meth c T' locs' cells slots → T'.heap = h' → Fr n0 locs' → Wr h h' a i (.double x) → own_Da Z h' a n (own_up f i x) → own_Win p e below s Q kc ks (T'.setTop { g with pc := g.pc + 1, stack := rest })) : own_Win p e below s Q kc ks (T.setTop g) := by
  obtain ⟨r, cl, A, S, H⟩ := F
  obtain ⟨q1, q2⟩ := own_clamp hj
  obtain ⟨T', h1, X', e', W, st⟩ := stD X hx hZ eT A (j := j) (x := x) (by rw [q2, S]; intro z; rcases z with z | z; exact q1 z; omega) hg hs hd
  rw [q2] at X' W
  refine own_st st (k T' h1 _ X' e' (Fr.snoc X' N hn) W ((own_Av.set W ⟨r, cl, A, S, H⟩ hi).congr fun u hu => ?_))
  unfold own_up; split <;> rfl
theorem own_iastore (X : Stand p l e R s m args below meth c T locs cells slots) (hx : p.tables.exec = Jvm.exec) (hZ : Z.Warmed39 s.vm) (eT : T.heap = h) {a : Addr} {n i : Nat} {f : Nat → Int32} (F : own_Ia Z h a n f) {j : Int32} (hj : j.toInt = (i : Int)) (hi : i < n) {n0 : Nat} (N : Fr n0 locs) (hn : n0 ≤ a)
    {x : Int32} {g : JFrame} (hg : g.method = m) {rest : List Value} (hs : g.stack = .int x :: .int j :: .ref a :: rest) (hd : decode c.code g.pc = .ok (.iastore, 1))
    (k : ∀ (T' : State) (h' : Heap) (locs' : List Loc), Stand p l e R s m args below meth c T' locs' cells slots → T'.heap = h' → Fr n0 locs' → Wr h h' a i (.int x) → own_Ia Z h' a n (own_up f i x) → own_Win p e below s Q kc ks (T'.setTop { g with pc := g.pc + 1, stack := rest })) : own_Win p e below s Q kc ks (T.setTop g) := by
  obtain ⟨r, cl, A, S, H⟩ := F
  obtain ⟨q1, q2⟩ := own_clamp hj
  obtain ⟨T', h1, X', e', W, st⟩ := stI X hx hZ eT A (j := j) (x := x) (by rw [q2, S]; intro z; rcases z with z | z; exact q1 z; omega) hg hs hd
  rw [q2] at X' W
  refine own_st st (k T' h1 _ X' e' (Fr.snoc X' N hn) W ((own_Av.set W ⟨r, cl, A, S, H⟩ hi).congr fun u hu => ?_))
  unfold own_up; split <;> rfl
theorem own_newD (X : Stand p l e R s m args below meth c T locs cells slots) (hx : p.tables.exec = Jvm.exec) (hZ : Z.Warmed39 s.vm) (w : (Cond.arrayClass .double).before a0 Z = true) (eT : T.heap = h) {n cap : Nat} {z : Int32} (hz : z.toInt = (n : Int)) (hcap : n ≤ cap) (hb : cap * 8 ≤ 536870912) (hc : cells + 1 ≤ R.cells) (hl : slots + cap ≤ R.slots)
    {g : JFrame} (hg : g.method = m) {rest : List Value} (hs : g.stack = .int z :: rest) (hd : decode c.code g.pc = .ok (.newarray .double, 2))
    (k : ∀ (T' : State) (h' : Heap) (a : Addr), Stand p l e R s m args below meth c T' locs (cells + 1) (slots + cap) → T'.heap = h' → a = h.size → Ext h h' → own_Da Z h' a n (fun _ => 0) → Exa Z h' a "[D" → own_Win p e below s Q kc ks (T'.setTop { g with pc := g.pc + 2, stack := .ref a :: rest })) : own_Win p e below s Q kc ks (T.setTop g) := by
  obtain ⟨q1, q2⟩ := own_clamp hz
  obtain ⟨T', h1, cA, X', e', E, A, Ex, st⟩ := newPE X hx hZ (aty := .double) w eT hg hd hs q1 (cap := cap) (by omega) hb hc hl (ad := "[D") (by decide)
  refine own_st st (k T' h1 _ X' e' rfl E ⟨by omega, _, A, by rw [sz_new, q2], fun u hu => ?_⟩ Ex)
  show (Array.replicate z.toNatClampNeg (defaultValue (newarray.typeOf .double)))[u]? = _
  rw [q2]; simp [hu]; rfl
theorem own_newI (X : Stand p l e R s m args below meth c T locs cells slots) (hx : p.tables.exec = Jvm.exec) (hZ : Z.Warmed39 s.vm) (w : (Cond.arrayClass .int).before a0 Z = true) (eT : T.heap = h) {n cap : Nat} {z : Int32} (hz : z.toInt = (n : Int)) (hcap : n ≤ cap) (hb : cap * 8 ≤ 536870912) (hc : cells + 1 ≤ R.cells) (hl : slots + cap ≤ R.slots)
    {g : JFrame} (hg : g.method = m) {rest : List Value} (hs : g.stack = .int z :: rest) (hd : decode c.code g.pc = .ok (.newarray .int, 2))
    (k : ∀ (T' : State) (h' : Heap) (a : Addr), Stand p l e R s m args below meth c T' locs (cells + 1) (slots + cap) → T'.heap = h' → a = h.size → Ext h h' → own_Ia Z h' a n (fun _ => 0) → own_Win p e below s Q kc ks (T'.setTop { g with pc := g.pc + 2, stack := .ref a :: rest })) : own_Win p e below s Q kc ks (T.setTop g) := by
  obtain ⟨q1, q2⟩ := own_clamp hz
  obtain ⟨T', h1, cA, X', e', E, A, st⟩ := newP X hx hZ (aty := .int) w eT hg hd hs q1 (cap := cap) (by omega) hb hc hl
  refine own_st st (k T' h1 _ X' e' rfl E ⟨by omega, _, A, by rw [sz_new, q2], fun u hu => ?_⟩)
  show (Array.replicate z.toNatClampNeg (defaultValue (newarray.typeOf .int)))[u]? = _
  rw [q2]; simp [hu]; rfl
theorem own_clone (X : Stand p l e R s m args below meth c T locs cells slots) (hx : p.tables.exec = Jvm.exec) (hZ : Z.Warmed39 s.vm) {own : String} {index : Nat} (hown : s.vm.findClass own = some m.cls)
    (w1 : (Cond.methodLink own index ⟨"[D", "clone", "()Ljava/lang/Object;"⟩).before a0 Z = true) (w2 : (Cond.sameMethod "[D" "java/lang/Object" "clone" "()Ljava/lang/Object;").before a0 Z = true) (w3 : (Cond.native ⟨"java/lang/Object", "clone", "()Ljava/lang/Object;"⟩).before a0 Z = true)
    (w4 : (Cond.instanceMethod ⟨"java/lang/Object", "clone", "()Ljava/lang/Object;"⟩).before a0 Z = true) (w5 : (Cond.selects "[D" ⟨"[D", "clone", "()Ljava/lang/Object;"⟩ ⟨"java/lang/Object", "clone", "()Ljava/lang/Object;"⟩).before a0 Z = true) (w6 : (Cond.castable "[D" "java/lang/Cloneable").before a0 Z = true)
    (eT : T.heap = h) {a : Addr} {n : Nat} {f : Nat → UInt64} (F : own_Da Z h a n f) (E : Exa Z h a "[D") {g : JFrame} (hg : g.method = m) (hsize : g.locals.size = c.maxLocals) {rest : List Value} (hs : g.stack = .ref a :: rest) (hd : decode c.code g.pc = .ok (.invokevirtual index, 3))
    (hf : 1 ≤ R.frames) {W : Nat} (hW : 2 * g.monitorRoom + (rest.map fun v => v.category).sum ≤ W) (hl : W + 14 ≤ R.locals) (hc : cells + 1 ≤ R.cells) (hsl : slots + n ≤ R.slots)
    (k : ∀ (T' : State) (h' : Heap) (b : Addr), Stand p l e R s m args below meth c T' locs (cells + 1) (slots + n) → T'.heap = h' → b = h.size → Ext h h' → own_Da Z h' b n f → Exa Z h' b "[D" → own_Win p e below s Q kc ks (T'.setTop { g with pc := g.pc + 3, stack := .ref b :: rest })) : own_Win p e below s Q kc ks (T.setTop g) := by
  obtain ⟨r, cl, A, S, H⟩ := F
  have FC : FitC Z cl := fitC_of A fun i hi v hv => by
    rw [S] at hi
    rw [H i hi] at hv; cases hv; rfl
  obtain ⟨T', h1, X', e', ex, A', E', st⟩ := cloneA X hx hZ hown w1 w2 w3 w4 w5 w6 eT A E FC hg hsize hs hd hf hW hl (cap := n) (by omega) hc hsl
  exact own_st st (k T' h1 _ X' e' rfl ex ⟨r, _, A', S, H⟩ E')
end Arrays
end Jvm.RoadKit

namespace Jvm.Pilot.@@N@@
open Jvm Jvm.ClassFile Sem Op Lib Jvm.Free Jvm.Stand Jvm.LawKit Jvm.RoadKit Bundle Jvm.Pilot.@@N@@.Jvm.D Jvm.Free.Fl

theorem dc_0 : decode prog_1_method_7_code 0 = .ok (.aload_n 0, 1) := by decide +kernel
theorem dc_1 : decode prog_1_method_7_code 1 = .ok (.getstatic 10, 3) := by decide +kernel
theorem dc_4 : decode prog_1_method_7_code 4 = .ok (.if_acmp .ne 11, 3) := by decide +kernel
theorem dc_7 : decode prog_1_method_7_code 7 = .ok (.dload_n 1, 1) := by decide +kernel
theorem dc_8 : decode prog_1_method_7_code 8 = .ok (.dload_n 3, 1) := by decide +kernel
theorem dc_9 : decode prog_1_method_7_code 9 = .ok (.invokestatic 48, 3) := by decide +kernel
theorem dc_12 : decode prog_1_method_7_code 12 = .ok (.goto 6, 3) := by decide +kernel
theorem dc_15 : decode prog_1_method_7_code 15 = .ok (.dload_n 1, 1) := by decide +kernel
theorem dc_16 : decode prog_1_method_7_code 16 = .ok (.dload_n 3, 1) := by decide +kernel
theorem dc_17 : decode prog_1_method_7_code 17 = .ok (.dadd, 1) := by decide +kernel
theorem dc_18 : decode prog_1_method_7_code 18 = .ok (.dreturn, 1) := by decide +kernel
theorem dm_0 : decode jdk_29_method_69_code 0 = .ok (.iload_n 0, 1) := by decide +kernel
theorem dm_1 : decode jdk_29_method_69_code 1 = .ok (.iload_n 1, 1) := by decide +kernel
theorem dm_2 : decode jdk_29_method_69_code 2 = .ok (.if_icmp .gt 7, 3) := by decide +kernel
theorem dm_5 : decode jdk_29_method_69_code 5 = .ok (.iload_n 0, 1) := by decide +kernel
theorem dm_6 : decode jdk_29_method_69_code 6 = .ok (.goto 4, 3) := by decide +kernel
theorem dm_9 : decode jdk_29_method_69_code 9 = .ok (.iload_n 1, 1) := by decide +kernel
theorem dm_10 : decode jdk_29_method_69_code 10 = .ok (.ireturn, 1) := by decide +kernel
theorem pnA : plainName "com/example/skyweave/skyweave/Aggregate" = true := by first | (simp [plainName, overriddenIn]; done) | decide +kernel
theorem pnL : plainName "com/example/skyweave/skyweave/AggregateCombinePinLaw" = true := by first | (simp [plainName, overriddenIn]; done) | decide +kernel
theorem pdC : parseMethodDescriptor "(DD)D" = some ⟨[.double, .double], some .double⟩ := by decide +kernel
theorem pdM : parseMethodDescriptor "(II)I" = some ⟨[.int, .int], some .int⟩ := by decide +kernel
set_option maxRecDepth 65536 in
set_option maxHeartbeats 40000000 in
theorem efC (m : MethodId) (x0 : Addr) (x1 x2 : UInt64) : entryFrame m #[(.ref x0), (.double x1), (.double x2)] 5 = mkF m 0 #[.val (.ref x0), .val (.double x1), .second, .val (.double x2), .second] [] := by first | (simp [entryFrame, mkF, argsToLocals, Value.category]; done) | rfl
set_option maxRecDepth 65536 in
set_option maxHeartbeats 40000000 in
theorem efM (m : MethodId) (x0 x1 : Int32) : entryFrame m #[(.int x0), (.int x1)] 2 = mkF m 0 #[.val (.int x0), .val (.int x1)] [] := by first | (simp [entryFrame, mkF, argsToLocals, Value.category]; done) | rfl
set_option maxRecDepth 65536 in
set_option maxHeartbeats 40000000 in
theorem efL (m : MethodId) (x0 x1 x2 : Int32) : entryFrame m #[(.int x0), (.int x1), (.int x2)] maxLocals = mkF m 0 #[.val (.int x0), .val (.int x1), .val (.int x2), .unset, .unset, .unset, .unset, .unset, .unset] [] := by first | (simp [entryFrame, mkF, argsToLocals, Value.category, maxLocals]; done) | rfl
abbrev own_min (a b : Int32) : Int32 := if b < a then b else a
abbrev yM : MethodName := ⟨"java/lang/Math", "min", "(II)I"⟩
abbrev yC : MethodName := ⟨"com/example/skyweave/skyweave/Aggregate", "combine", "(DD)D"⟩
def Q_rmM (Z : State) (p1 p2 : Int32) (h0 : Heap) (n0 : Nat) : Option Value → Heap → List Loc → Prop := fun v h L => v = some (.int (own_min p1 p2)) ∧ Fr n0 L ∧ h = h0
set_option maxRecDepth 65536 in
set_option maxHeartbeats 40000000 in
theorem rmM (l : Launch) (Z : State) (a0 : Array Value) (hw : ∀ d ∈ tables_1, d.before a0 Z = true) (ws : List Jvm.Cond) (p1 p2 : Int32) (h0 : Heap) (n0 : Nat) (Z0 : n0 ≤ h0.size)  :
    MetFree l yM (head1 (Jvm.Cond.code yM jdk_29_method_69_code 2 (some .int) :: ws) ({ frames := 0, cells := 0, slots := 0, locals := 0 } : Room)) (fun a U => a = #[(.int p1), (.int p2)] ∧ Z.Warmed39 U.vm ∧ U.heap = h0) (fun _ _ _ _ _ => True) (fun _ U o U' => ∃ v L, o = .returned v ∧ (Q_rmM Z p1 p2 h0 n0) v U'.heap L ∧ FrameEnd U o U' L ({ frames := 0, cells := 0, slots := 0, locals := 0 } : Room).cells ({ frames := 0, cells := 0, slots := 0, locals := 0 } : Room).slots) := by
  refine MetFree.of_bodySF (Jvm.Free.JP.mathPlain rfl (by decide +kernel)) hisR ?_
  intro p e s m args below meth c s₁ Bd hml0 hP hK
  obtain ⟨rfl, hZ, hh⟩ := hP
  have hx := Bd.exec
  have hby := Bd.bytes
  have hlk := BodyLoose.notSynchronized Bd
  have hml : c.maxLocals = 2 := hml0
  have hown : s.vm.findClass "java/lang/Math" = some m.cls := findClass_of_methodNamed Bd.named
  have hnm := (name_of_methodNamed Bd.named Bd.method).1
  have X0 : Stand p l e ({ frames := 0, cells := 0, slots := 0, locals := 0 } : Room) s m #[(.int p1), (.int p2)] below meth c s₁ [] 0 0 := Stand.of_body Bd
  have e0 : s₁.heap = h0 := by rw [← hh, Bd.state]; rfl
  have N0 := Fr.nil n0
  show own_Win p e below s (Q_rmM Z p1 p2 h0 n0) _ _ _
  refine own_st (fun t k => castTop (efM m p1 p2) k) ?_
  show own_Win p e below s _ _ _ (s₁.setTop (mkF m 0 #[.val (.int p1), .val (.int p2)] []))
  refine own_st (fun _ kz => XS.iloadN X0.here hx rfl (hb hby dm_0) rfl kz) ?_
  show own_Win p e below s _ _ _ (s₁.setTop (mkF m 1 #[.val (.int p1), .val (.int p2)] [(.int p1)]))
  refine own_st (fun _ kz => XS.iloadN X0.here hx rfl (hb hby dm_1) rfl kz) ?_
  show own_Win p e below s _ _ _ (s₁.setTop (mkF m 2 #[.val (.int p1), .val (.int p2)] [(.int p2), (.int p1)]))
  by_cases q : p2 < p1
  ·
    refine own_st (fun _ kz => XS.icmpYes X0.here hx rfl (pc0 := 2) (pc' := 9) rfl (hb hby dm_2) rfl (tlt q).2.2.1 (by decide) (by decide) kz) ?_
    show own_Win p e below s _ _ _ (s₁.setTop (mkF m 9 #[.val (.int p1), .val (.int p2)] []))
    refine own_st (fun _ kz => XS.iloadN X0.here hx rfl (hb hby dm_9) rfl kz) ?_
    show own_Win p e below s _ _ _ (s₁.setTop (mkF m 10 #[.val (.int p1), .val (.int p2)] [(.int p2)]))
    exact own_ret X0 hx hlk Bd.returns rfl (Or.inl ⟨rfl, Or.inl rfl, _, rfl⟩) (hb hby dm_10) ⟨by rw [own_min, if_pos q], N0, e0⟩ (Nat.le_refl _) (Nat.le_refl _)
  ·
    refine own_st (fun _ kz => XS.icmpNo X0.here hx rfl (hb hby dm_2) rfl (flt q).2.2.1 kz) ?_
    show own_Win p e below s _ _ _ (s₁.setTop (mkF m 5 #[.val (.int p1), .val (.int p2)] []))
    refine own_st (fun _ kz => XS.iloadN X0.here hx rfl (hb hby dm_5) rfl kz) ?_
    show own_Win p e below s _ _ _ (s₁.setTop (mkF m 6 #[.val (.int p1), .val (.int p2)] [(.int p1)]))
    refine own_st (fun _ kz => XS.goto X0.here hx rfl (pc0 := 6) (pc' := 10) rfl (hb hby dm_6) (by decide) (by decide) kz) ?_
    show own_Win p e below s _ _ _ (s₁.setTop (mkF m 10 #[.val (.int p1), .val (.int p2)] [(.int p1)]))
    exact own_ret X0 hx hlk Bd.returns rfl (Or.inl ⟨rfl, Or.inl rfl, _, rfl⟩) (hb hby dm_10) ⟨by rw [own_min, if_neg q], N0, e0⟩ (Nat.le_refl _) (Nat.le_refl _)
theorem own_codeEq : jdk_29_method_72_code = Jvm.Free.Fl.Abs.minDCode := by decide +kernel
theorem own_codeAt {s : State} {args : Array Value} (q : (Jvm.Cond.code ⟨"java/lang/Math", "min", "(DD)D"⟩ jdk_29_method_72_code 4 (some .double)).before args s = true) : (Jvm.Cond.code Jvm.Free.Fl.Abs.minDN Jvm.Free.Fl.Abs.minDCode 4 (some .double)).before args s = true := by rw [← own_codeEq]; exact q
def Q_rmMin (Z : State) (aM : Addr) (x y z : UInt64) (h0 : Heap) (n0 : Nat) : Option Value → Heap → List Loc → Prop := fun v h L => v = some (.double z) ∧ Fr n0 L ∧ h = h0
set_option maxRecDepth 65536 in
set_option maxHeartbeats 40000000 in
theorem rmMin (l : Launch) (Z : State) (a0 : Array Value) (hw : ∀ d ∈ tables_1, d.before a0 Z = true) (ws : List Jvm.Cond) (aM : Addr) (x y z : UInt64) (h0 : Heap) (n0 : Nat) (Z0 : n0 ≤ h0.size) (SM : Sta Z h0 "com/example/skyweave/skyweave/Aggregate" "MIN" "Lcom/example/skyweave/skyweave/Aggregate;" (.ref aM)) (nx : NoNaN64 x) (ny : NoNaN64 y) (hz : Jvm.Native.java_lang_Math.nans.pick64 false x y = z) :
    MetFree l yC (head1 (Jvm.Cond.code yC prog_1_method_7_code 5 (some .double) :: ws) ({ frames := 1, cells := 0, slots := 0, locals := 15 } : Room)) (fun a U => a = #[(.ref aM), (.double x), (.double y)] ∧ Z.Warmed39 U.vm ∧ U.heap = h0) (fun _ _ _ _ _ => True) (fun _ U o U' => ∃ v L, o = .returned v ∧ (Q_rmMin Z aM x y z h0 n0) v U'.heap L ∧ FrameEnd U o U' L ({ frames := 1, cells := 0, slots := 0, locals := 15 } : Room).cells ({ frames := 1, cells := 0, slots := 0, locals := 15 } : Room).slots) := by
  refine MetFree.of_bodySF (plainFor_of_name pnA) hisR ?_
  intro p e s m args below meth c s₁ Bd hml0 hP hK
  obtain ⟨rfl, hZ, hh⟩ := hP
  have hx := Bd.exec
  have hby := Bd.bytes
  have hlk := BodyLoose.notSynchronized Bd
  have hml : c.maxLocals = 5 := hml0
  have hown : s.vm.findClass "com/example/skyweave/skyweave/Aggregate" = some m.cls := findClass_of_methodNamed Bd.named
  have hnm := (name_of_methodNamed Bd.named Bd.method).1
  have X0 : Stand p l e ({ frames := 1, cells := 0, slots := 0, locals := 15 } : Room) s m #[(.ref aM), (.double x), (.double y)] below meth c s₁ [] 0 0 := Stand.of_body Bd
  have e0 : s₁.heap = h0 := by rw [← hh, Bd.state]; rfl
  have N0 := Fr.nil n0
  show own_Win p e below s (Q_rmMin Z aM x y z h0 n0) _ _ _
  refine own_st (fun t k => castTop (efC m aM x y) k) ?_
  show own_Win p e below s _ _ _ (s₁.setTop (mkF m 0 #[.val (.ref aM), .val (.double x), .second, .val (.double y), .second] []))
  refine own_st (fun _ kz => XS.aloadN X0.here hx rfl (hb hby dc_0) rfl rfl kz) ?_
  show own_Win p e below s _ _ _ (s₁.setTop (mkF m 1 #[.val (.ref aM), .val (.double x), .second, .val (.double y), .second] [(.ref aM)]))
  obtain ⟨T1, X1, e1, st1⟩ := getS X0 hx hZ hown (host := "") (hw _ (List.mem_of_getElem? (i := 9) rfl)) Via.refl e0 SM (g := (mkF m 1 #[.val (.ref aM), .val (.double x), .second, .val (.double y), .second] [(.ref aM)])) rfl (hb hby dc_1)
  refine own_st st1 ?_
  show own_Win p e below s _ _ _ (T1.setTop (mkF m 4 #[.val (.ref aM), .val (.double x), .second, .val (.double y), .second] [(.ref aM), (.ref aM)]))
  refine own_st (fun _ kz => XT.acmpNo X1.here hx rfl (hb hby dc_4) rfl rfl rfl (by simp [XT.acmp]) kz) ?_
  show own_Win p e below s _ _ _ (T1.setTop (mkF m 7 #[.val (.ref aM), .val (.double x), .second, .val (.double y), .second] []))
  refine own_st (fun _ kz => XS.dloadN X1.here hx rfl (hb hby dc_7) rfl kz) ?_
  show own_Win p e below s _ _ _ (T1.setTop (mkF m 8 #[.val (.ref aM), .val (.double x), .second, .val (.double y), .second] [(.double x)]))
  refine own_st (fun _ kz => XS.dloadN X1.here hx rfl (hb hby dc_8) rfl kz) ?_
  show own_Win p e below s _ _ _ (T1.setTop (mkF m 9 #[.val (.ref aM), .val (.double x), .second, .val (.double y), .second] [(.double y), (.double x)]))
  obtain ⟨T2, X2, e2, st2⟩ := natS X1 hx hZ hown (hw _ (List.mem_of_getElem? (i := 14) rfl)) (hw _ (List.mem_of_getElem? (i := 15) rfl)) (hw _ (List.mem_of_getElem? (i := 16) rfl)) (hw _ (List.mem_of_getElem? (i := 17) rfl)) (by decide) e1 (W := 0) (F := fun a' => a' = #[.double x, .double y] ∧ NoNaN64 x ∧ NoNaN64 y) (fun c4 => Jvm.Free.Fl.Abs.minD_pays (W := 0) x y (own_codeAt c4) (by decide) (by decide)) (g := (mkF m 9 #[.val (.ref aM), .val (.double x), .second, .val (.double y), .second] [(.double y), (.double x)])) rfl (by rw [hml]; rfl) (argsL := [.double x, .double y]) (rest := []) (lenOf pdC rfl) rfl (Nat.le_of_eq rfl) (hb hby dc_9) (by decide) (by decide) ⟨rfl, nx, ny⟩ (congrArg Value.double hz)
  refine own_st st2 ?_
  show own_Win p e below s _ _ _ (T2.setTop (mkF m 12 #[.val (.ref aM), .val (.double x), .second, .val (.double y), .second] [(.double z)]))
  refine own_st (fun _ kz => XS.goto X2.here hx rfl (pc0 := 12) (pc' := 18) rfl (hb hby dc_12) (by decide) (by decide) kz) ?_
  show own_Win p e below s _ _ _ (T2.setTop (mkF m 18 #[.val (.ref aM), .val (.double x), .second, .val (.double y), .second] [(.double z)]))
  exact own_ret X2 hx hlk Bd.returns rfl (Or.inr (Or.inr (Or.inl ⟨rfl, rfl, _, rfl⟩))) (hb hby dc_18) ⟨rfl, N0, e2⟩ (Nat.le_refl _) (Nat.le_refl _)
def Q_rmAdd (Z : State) (aM a5 : Addr) (x y z : UInt64) (h0 : Heap) (n0 : Nat) : Option Value → Heap → List Loc → Prop := fun v h L => v = some (.double z) ∧ Fr n0 L ∧ h = h0
set_option maxRecDepth 65536 in
set_option maxHeartbeats 40000000 in
theorem rmAdd (l : Launch) (Z : State) (a0 : Array Value) (hw : ∀ d ∈ tables_1, d.before a0 Z = true) (ws : List Jvm.Cond) (aM a5 : Addr) (x y z : UInt64) (h0 : Heap) (n0 : Nat) (Z0 : n0 ≤ h0.size) (SM : Sta Z h0 "com/example/skyweave/skyweave/Aggregate" "MIN" "Lcom/example/skyweave/skyweave/Aggregate;" (.ref aM)) (na : a5 ≠ aM) (nz : NoNaN64 (FP.dadd x y)) (hz : FP.dadd x y = z) :
    MetFree l yC (head1 (Jvm.Cond.code yC prog_1_method_7_code 5 (some .double) :: ws) ({ frames := 1, cells := 0, slots := 0, locals := 15 } : Room)) (fun a U => a = #[(.ref a5), (.double x), (.double y)] ∧ Z.Warmed39 U.vm ∧ U.heap = h0) (fun _ _ _ _ _ => True) (fun _ U o U' => ∃ v L, o = .returned v ∧ (Q_rmAdd Z aM a5 x y z h0 n0) v U'.heap L ∧ FrameEnd U o U' L ({ frames := 1, cells := 0, slots := 0, locals := 15 } : Room).cells ({ frames := 1, cells := 0, slots := 0, locals := 15 } : Room).slots) := by
  refine MetFree.of_bodySF (plainFor_of_name pnA) hisR ?_
  intro p e s m args below meth c s₁ Bd hml0 hP hK
  obtain ⟨rfl, hZ, hh⟩ := hP
  have hx := Bd.exec
  have hby := Bd.bytes
  have hlk := BodyLoose.notSynchronized Bd
  have hml : c.maxLocals = 5 := hml0
  have hown : s.vm.findClass "com/example/skyweave/skyweave/Aggregate" = some m.cls := findClass_of_methodNamed Bd.named
  have hnm := (name_of_methodNamed Bd.named Bd.method).1
  have X0 : Stand p l e ({ frames := 1, cells := 0, slots := 0, locals := 15 } : Room) s m #[(.ref a5), (.double x), (.double y)] below meth c s₁ [] 0 0 := Stand.of_body Bd
  have e0 : s₁.heap = h0 := by rw [← hh, Bd.state]; rfl
  have N0 := Fr.nil n0
  show own_Win p e below s (Q_rmAdd Z aM a5 x y z h0 n0) _ _ _
  refine own_st (fun t k => castTop (efC m a5 x y) k) ?_
  show own_Win p e below s _ _ _ (s₁.setTop (mkF m 0 #[.val (.ref a5), .val (.double x), .second, .val (.double y), .second] []))
  refine own_st (fun _ kz => XS.aloadN X0.here hx rfl (hb hby dc_0) rfl rfl kz) ?_
  show own_Win p e below s _ _ _ (s₁.setTop (mkF m 1 #[.val (.ref a5), .val (.double x), .second, .val (.double y), .second] [(.ref a5)]))
  obtain ⟨T1, X1, e1, st1⟩ := getS X0 hx hZ hown (host := "") (hw _ (List.mem_of_getElem? (i := 9) rfl)) Via.refl e0 SM (g := (mkF m 1 #[.val (.ref a5), .val (.double x), .second, .val (.double y), .second] [(.ref a5)])) rfl (hb hby dc_1)
  refine own_st st1 ?_
  show own_Win p e below s _ _ _ (T1.setTop (mkF m 4 #[.val (.ref a5), .val (.double x), .second, .val (.double y), .second] [(.ref aM), (.ref a5)]))
  refine own_st (fun _ kz => XT.acmpYes X1.here hx rfl (pc0 := 4) (pc' := 15) rfl (hb hby dc_4) rfl rfl rfl (by simp [XT.acmp, na]) (by decide) (by decide) kz) ?_
  show own_Win p e below s _ _ _ (T1.setTop (mkF m 15 #[.val (.ref a5), .val (.double x), .second, .val (.double y), .second] []))
  refine own_st (fun _ kz => XS.dloadN X1.here hx rfl (hb hby dc_15) rfl kz) ?_
  show own_Win p e below s _ _ _ (T1.setTop (mkF m 16 #[.val (.ref a5), .val (.double x), .second, .val (.double y), .second] [(.double x)]))
  refine own_st (fun _ kz => XS.dloadN X1.here hx rfl (hb hby dc_16) rfl kz) ?_
  show own_Win p e below s _ _ _ (T1.setTop (mkF m 17 #[.val (.ref a5), .val (.double x), .second, .val (.double y), .second] [(.double y), (.double x)]))
  refine own_st (fun _ kz => XS.daddS X1.here hx rfl (hb hby dc_17) rfl nz hz kz) ?_
  show own_Win p e below s _ _ _ (T1.setTop (mkF m 18 #[.val (.ref a5), .val (.double x), .second, .val (.double y), .second] [(.double z)]))
  exact own_ret X1 hx hlk Bd.returns rfl (Or.inr (Or.inr (Or.inl ⟨rfl, rfl, _, rfl⟩))) (hb hby dc_18) ⟨rfl, N0, e1⟩ (Nat.le_refl _) (Nat.le_refl _)
theorem own_k (x : Int32) : (x &&& 2147483647) % 3 = 0 ∨ (x &&& 2147483647) % 3 = 1 ∨ (x &&& 2147483647) % 3 = 2 := by
  have h1 := (c_irem (x &&& 2147483647) 3 3 rfl).1
  have h2 := c_and x 2147483647 (by decide)
  have h3 := h1 h2.1
  have h4 : ((x &&& 2147483647) % 3).toInt = 0 ∨ ((x &&& 2147483647) % 3).toInt = 1 ∨ ((x &&& 2147483647) % 3).toInt = 2 := by omega
  rcases h4 with q | q | q
  · exact Or.inl (Int32.toInt_inj.mp q)
  · exact Or.inr (Or.inl (Int32.toInt_inj.mp q))
  · exact Or.inr (Or.inr (Int32.toInt_inj.mp q))
theorem own_cmp {i : Int} {x y : UInt64} (hx : FP.Core.DInt i x) (hy : FP.Core.DInt i y) : cmpValue (FP.dcmp x y) .l = 0 := by
  have : FP.dcmp x y = some (compare i i) := FP.Core.dcmp_int hx hy
  rw [this, FP.Core.compare_self_int]; rfl
theorem own_add (a b : Int32) : cmpValue (FP.dcmp (FP.dadd (FP.i2d a) (FP.i2d b)) (FP.l2d (a.toInt64 + b.toInt64))) .l = 0 := by
  have ha := rng32 a
  have hb := rng32 b
  have e : (a.toInt64 + b.toInt64).toInt = a.toInt + b.toInt := by
    have := c_ladd a.toInt64 b.toInt64
    have := rng64 (a.toInt64 + b.toInt64)
    rw [c_i2l, c_i2l] at *
    omega
  refine own_cmp (i := a.toInt + b.toInt) (FP.Core.dadd_int (FP.Core.i2d_int a) (FP.Core.i2d_int b) ?_) ?_
  · show _ ≤ 9007199254740992; omega
  · rw [← e]; exact FP.Core.l2d_int (by rw [e]; show _ ≤ 9007199254740992; omega)
theorem own_nn (a : Int32) : NoNaN64 (FP.i2d a) := (i2d_fin a).noNaN
theorem own_b53 (a : Int32) : B53 a.toInt64 := by
  have := rng32 a
  unfold B53; rw [c_i2l]; omega
theorem own_mn (a b : Int32) : Jvm.Native.java_lang_Math.nans.pick64 false (FP.i2d a) (FP.i2d b) = FP.i2d (own_min a b) := by
  rw [i2d_w, i2d_w, i2d_w]
  have q : (b.toInt64 < a.toInt64) ↔ b < a := by rw [Int64.lt_iff_toInt_lt, Int32.lt_iff_toInt_lt, c_i2l, c_i2l]
  have q' : (a.toInt64 < b.toInt64) ↔ a < b := by rw [Int64.lt_iff_toInt_lt, Int32.lt_iff_toInt_lt, c_i2l, c_i2l]
  by_cases h : a < b
  · rw [min_l (own_b53 a) (own_b53 b) (q'.mpr h), own_min, if_neg (fun r => by rw [Int32.lt_iff_toInt_lt] at *; omega)]
  · rw [min_g (own_b53 a) (own_b53 b) (fun r => h (q'.mp r)), own_min]
    by_cases h2 : b < a
    · rw [if_pos h2]
    · have : a = b := Int32.toInt_inj.mp (by rw [Int32.lt_iff_toInt_lt] at *; omega)
      rw [if_neg h2, this]
theorem own_self (a : Int32) : cmpValue (FP.dcmp (FP.i2d a) (FP.i2d a)) .l = 0 := dcmpV_self (own_nn a) .l
def Q_rm0 (Z : State) (p1 p2 p3 : Int32) (aS aP aM : Addr) (h0 : Heap) (n0 : Nat) : Option Value → Heap → List Loc → Prop := fun v h L => v = some (.int 1) ∧ Fr n0 L
set_option maxRecDepth 65536 in
set_option maxHeartbeats 40000000 in
theorem rm0 (l : Launch) (Z : State) (a0 : Array Value) (hw : ∀ d ∈ tables_1, d.before a0 Z = true) (ws : List Jvm.Cond) (p1 p2 p3 : Int32) (aS aP aM : Addr) (h0 : Heap) (n0 : Nat) (Z0 : n0 ≤ h0.size) (SS : Sta Z h0 "com/example/skyweave/skyweave/Aggregate" "SUM" "Lcom/example/skyweave/skyweave/Aggregate;" (.ref aS)) (ES : Exa Z h0 aS "com/example/skyweave/skyweave/Aggregate") (SP : Sta Z h0 "com/example/skyweave/skyweave/Aggregate" "PRODUCT" "Lcom/example/skyweave/skyweave/Aggregate;" (.ref aP)) (EP : Exa Z h0 aP "com/example/skyweave/skyweave/Aggregate") (SM : Sta Z h0 "com/example/skyweave/skyweave/Aggregate" "MIN" "Lcom/example/skyweave/skyweave/Aggregate;" (.ref aM)) (EM : Exa Z h0 aM "com/example/skyweave/skyweave/Aggregate") (nS : aS ≠ aM) (nP : aP ≠ aM) :
    MetFree l x (head1 (Jvm.Cond.code x code maxLocals ret :: ws) room_1) (fun a U => a = #[(.int p1), (.int p2), (.int p3)] ∧ Z.Warmed39 U.vm ∧ U.heap = h0) (fun _ _ _ _ _ => True) (fun _ U o U' => ∃ v L, o = .returned v ∧ (Q_rm0 Z p1 p2 p3 aS aP aM h0 n0) v U'.heap L ∧ FrameEnd U o U' L room_1.cells room_1.slots) := by
  refine MetFree.of_bodySF (plainFor_of_name pnL) hisR ?_
  intro p e s m args below meth c s₁ Bd hml0 hP hK
  obtain ⟨rfl, hZ, hh⟩ := hP
  have hx := Bd.exec
  have hby := Bd.bytes
  have hlk := BodyLoose.notSynchronized Bd
  have hml : c.maxLocals = maxLocals := hml0
  have hown : s.vm.findClass "com/example/skyweave/skyweave/AggregateCombinePinLaw" = some m.cls := findClass_of_methodNamed Bd.named
  have hnm := (name_of_methodNamed Bd.named Bd.method).1
  have X0 : Stand p l e room_1 s m #[(.int p1), (.int p2), (.int p3)] below meth c s₁ [] 0 0 := Stand.of_body Bd
  have e0 : s₁.heap = h0 := by rw [← hh, Bd.state]; rfl
  have N0 := Fr.nil n0
  show own_Win p e below s (Q_rm0 Z p1 p2 p3 aS aP aM h0 n0) _ _ _
  refine own_st (fun t k => castTop (efL m p1 p2 p3) k) ?_
  show own_Win p e below s _ _ _ (s₁.setTop (mkF m 0 #[.val (.int p1), .val (.int p2), .val (.int p3), .unset, .unset, .unset, .unset, .unset, .unset] []))
  refine own_st (fun _ kz => XS.iloadN X0.here hx rfl (hb hby at_0) rfl kz) ?_
  show own_Win p e below s _ _ _ (s₁.setTop (mkF m 1 #[.val (.int p1), .val (.int p2), .val (.int p3), .unset, .unset, .unset, .unset, .unset, .unset] [(.int p1)]))
  refine own_st (fun tz kz => X0.ldcInt hx hown (mvT hZ (hw _ (List.mem_of_getElem? (i := 0) rfl))) (g := (mkF m 1 #[.val (.int p1), .val (.int p2), .val (.int p3), .unset, .unset, .unset, .unset, .unset, .unset] [(.int p1)])) rfl (hb hby at_1) tz kz) ?_
  show own_Win p e below s _ _ _ (s₁.setTop (mkF m 3 #[.val (.int p1), .val (.int p2), .val (.int p3), .unset, .unset, .unset, .unset, .unset, .unset] [(.int (2147483647 : Int32)), (.int p1)]))
  refine own_st (fun _ kz => XS.iand X0.here hx rfl (hb hby at_3) rfl kz) ?_
  show own_Win p e below s _ _ _ (s₁.setTop (mkF m 4 #[.val (.int p1), .val (.int p2), .val (.int p3), .unset, .unset, .unset, .unset, .unset, .unset] [(.int (p1 &&& (2147483647 : Int32)))]))
  refine own_st (fun _ kz => XS.iconst X0.here hx rfl (hb hby at_4) kz) ?_
  show own_Win p e below s _ _ _ (s₁.setTop (mkF m 5 #[.val (.int p1), .val (.int p2), .val (.int p3), .unset, .unset, .unset, .unset, .unset, .unset] [(.int (3 : Int32)), (.int (p1 &&& (2147483647 : Int32)))]))
  refine own_st (fun _ kz => iremM X0 hx rfl (hb hby at_5) rfl (by decide) kz) ?_
  show own_Win p e below s _ _ _ (s₁.setTop (mkF m 6 #[.val (.int p1), .val (.int p2), .val (.int p3), .unset, .unset, .unset, .unset, .unset, .unset] [(.int ((p1 &&& (2147483647 : Int32)) % (3 : Int32)))]))
  have hk := own_k p1
  generalize ((p1 &&& (2147483647 : Int32)) % (3 : Int32)) = kk at hk ⊢
  show own_Win p e below s _ _ _ (s₁.setTop (mkF m 6 #[.val (.int p1), .val (.int p2), .val (.int p3), .unset, .unset, .unset, .unset, .unset, .unset] [(.int kk)]))
  refine own_st (fun _ kz => XS.istoreN X0.here hx rfl (hb hby at_6) rfl (l' := #[.val (.int p1), .val (.int p2), .val (.int p3), .val (.int kk), .unset, .unset, .unset, .unset, .unset]) rfl kz) ?_
  show own_Win p e below s _ _ _ (s₁.setTop (mkF m 7 #[.val (.int p1), .val (.int p2), .val (.int p3), .val (.int kk), .unset, .unset, .unset, .unset, .unset] []))
  refine own_st (fun _ kz => XS.iloadN X0.here hx rfl (hb hby at_7) rfl kz) ?_
  show own_Win p e below s _ _ _ (s₁.setTop (mkF m 8 #[.val (.int p1), .val (.int p2), .val (.int p3), .val (.int kk), .unset, .unset, .unset, .unset, .unset] [(.int kk)]))
  rcases hk with q | q | q
  ·
    refine own_st (fun _ kz => XS.ifNo X0.here hx rfl (hb hby at_8) rfl (by rw [q]; decide) kz) ?_
    show own_Win p e below s _ _ _ (s₁.setTop (mkF m 11 #[.val (.int p1), .val (.int p2), .val (.int p3), .val (.int kk), .unset, .unset, .unset, .unset, .unset] []))
    obtain ⟨T1, X1, e1, st1⟩ := getS X0 hx hZ hown (host := "") (hw _ (List.mem_of_getElem? (i := 1) rfl)) Via.refl e0 SS (g := (mkF m 11 #[.val (.int p1), .val (.int p2), .val (.int p3), .val (.int kk), .unset, .unset, .unset, .unset, .unset] [])) rfl (hb hby at_11)
    refine own_st st1 ?_
    show own_Win p e below s _ _ _ (T1.setTop (mkF m 14 #[.val (.int p1), .val (.int p2), .val (.int p3), .val (.int kk), .unset, .unset, .unset, .unset, .unset] [(.ref aS)]))
    refine own_st (fun _ kz => XS.astore X1.here hx rfl (hb hby at_14) rfl rfl (l' := #[.val (.int p1), .val (.int p2), .val (.int p3), .val (.int kk), .val (.ref aS), .unset, .unset, .unset, .unset]) rfl kz) ?_
    show own_Win p e below s _ _ _ (T1.setTop (mkF m 16 #[.val (.int p1), .val (.int p2), .val (.int p3), .val (.int kk), .val (.ref aS), .unset, .unset, .unset, .unset] []))
    refine own_st (fun _ kz => XS.goto X1.here hx rfl (pc0 := 16) (pc' := 37) rfl (hb hby at_16) (by decide) (by decide) kz) ?_
    show own_Win p e below s _ _ _ (T1.setTop (mkF m 37 #[.val (.int p1), .val (.int p2), .val (.int p3), .val (.int kk), .val (.ref aS), .unset, .unset, .unset, .unset] []))
    refine own_st (fun _ kz => XS.aload X1.here hx rfl (hb hby at_37) rfl rfl kz) ?_
    show own_Win p e below s _ _ _ (T1.setTop (mkF m 39 #[.val (.int p1), .val (.int p2), .val (.int p3), .val (.int kk), .val (.ref aS), .unset, .unset, .unset, .unset] [(.ref aS)]))
    refine own_st (fun _ kz => XS.iloadN X1.here hx rfl (hb hby at_39) rfl kz) ?_
    show own_Win p e below s _ _ _ (T1.setTop (mkF m 40 #[.val (.int p1), .val (.int p2), .val (.int p3), .val (.int kk), .val (.ref aS), .unset, .unset, .unset, .unset] [(.int p2), (.ref aS)]))
    refine own_st (fun _ kz => XS.i2dS X1.here hx rfl (hb hby at_40) rfl rfl kz) ?_
    show own_Win p e below s _ _ _ (T1.setTop (mkF m 41 #[.val (.int p1), .val (.int p2), .val (.int p3), .val (.int kk), .val (.ref aS), .unset, .unset, .unset, .unset] [(.double (FP.i2d p2)), (.ref aS)]))
    refine own_st (fun _ kz => XS.iloadN X1.here hx rfl (hb hby at_41) rfl kz) ?_
    show own_Win p e below s _ _ _ (T1.setTop (mkF m 42 #[.val (.int p1), .val (.int p2), .val (.int p3), .val (.int kk), .val (.ref aS), .unset, .unset, .unset, .unset] [(.int p3), (.double (FP.i2d p2)), (.ref aS)]))
    refine own_st (fun _ kz => XS.i2dS X1.here hx rfl (hb hby at_42) rfl rfl kz) ?_
    show own_Win p e below s _ _ _ (T1.setTop (mkF m 43 #[.val (.int p1), .val (.int p2), .val (.int p3), .val (.int kk), .val (.ref aS), .unset, .unset, .unset, .unset] [(.double (FP.i2d p3)), (.double (FP.i2d p2)), (.ref aS)]))
    refine own_callV X1 hx hZ hown (C := "com/example/skyweave/skyweave/Aggregate") (y := yC) (hw _ (List.mem_of_getElem? (i := 4) rfl)) (hw _ (List.mem_of_getElem? (i := 5) rfl)) (hw _ (List.mem_of_getElem? (i := 7) rfl)) (hw _ (List.mem_of_getElem? (i := 6) rfl)) (hw _ (List.mem_of_getElem? (i := 8) rfl)) (hw _ (List.mem_of_getElem? (i := 2) rfl)) (by decide) e1 ES (rmAdd l Z a0 hw [] aM aS (FP.i2d p2) (FP.i2d p3) _ h0 n0 Z0 SM nS (dadd_out (own_nn p2) (i2d_fin p3)) rfl) (by decide) (W := 0) (by decide) rfl (by rw [hml]; rfl) (argsL := [.double (FP.i2d p2), .double (FP.i2d p3)]) (rest := []) (lenOf pdC rfl) rfl (Nat.le_of_eq rfl) (hb hby at_43) rfl (by decide) (by decide) ?_
    intro T20 v20 L20 X20 hQ20
    obtain ⟨rfl, N20, e20⟩ := hQ20
    have N21 := Fr.app N0 N20
    show own_Win p e below s _ _ _ (T20.setTop (mkF m 46 #[.val (.int p1), .val (.int p2), .val (.int p3), .val (.int kk), .val (.ref aS), .unset, .unset, .unset, .unset] [(.double (FP.dadd (FP.i2d p2) (FP.i2d p3)))]))
    refine own_st (fun _ kz => XS.dstore X20.here hx rfl (hb hby at_46) rfl (l' := #[.val (.int p1), .val (.int p2), .val (.int p3), .val (.int kk), .val (.ref aS), .val (.double (FP.dadd (FP.i2d p2) (FP.i2d p3))), .second, .unset, .unset]) rfl kz) ?_
    show own_Win p e below s _ _ _ (T20.setTop (mkF m 48 #[.val (.int p1), .val (.int p2), .val (.int p3), .val (.int kk), .val (.ref aS), .val (.double (FP.dadd (FP.i2d p2) (FP.i2d p3))), .second, .unset, .unset] []))
    refine own_st (fun _ kz => XS.iloadN X20.here hx rfl (hb hby at_48) rfl kz) ?_
    show own_Win p e below s _ _ _ (T20.setTop (mkF m 49 #[.val (.int p1), .val (.int p2), .val (.int p3), .val (.int kk), .val (.ref aS), .val (.double (FP.dadd (FP.i2d p2) (FP.i2d p3))), .second, .unset, .unset] [(.int kk)]))
    refine own_st (fun _ kz => XS.iconst X20.here hx rfl (hb hby at_49) kz) ?_
    show own_Win p e below s _ _ _ (T20.setTop (mkF m 50 #[.val (.int p1), .val (.int p2), .val (.int p3), .val (.int kk), .val (.ref aS), .val (.double (FP.dadd (FP.i2d p2) (FP.i2d p3))), .second, .unset, .unset] [(.int (2 : Int32)), (.int kk)]))
    refine own_st (fun _ kz => XS.icmpYes X20.here hx rfl (pc0 := 50) (pc' := 64) rfl (hb hby at_50) rfl (by rw [q]; decide) (by decide) (by decide) kz) ?_
    show own_Win p e below s _ _ _ (T20.setTop (mkF m 64 #[.val (.int p1), .val (.int p2), .val (.int p3), .val (.int kk), .val (.ref aS), .val (.double (FP.dadd (FP.i2d p2) (FP.i2d p3))), .second, .unset, .unset] []))
    refine own_st (fun _ kz => XS.iloadN X20.here hx rfl (hb hby at_64) rfl kz) ?_
    show own_Win p e below s _ _ _ (T20.setTop (mkF m 65 #[.val (.int p1), .val (.int p2), .val (.int p3), .val (.int kk), .val (.ref aS), .val (.double (FP.dadd (FP.i2d p2) (FP.i2d p3))), .second, .unset, .unset] [(.int p2)]))
    refine own_st (fun _ kz => XT.i2l X20.here hx rfl (hb hby at_65) rfl kz) ?_
    show own_Win p e below s _ _ _ (T20.setTop (mkF m 66 #[.val (.int p1), .val (.int p2), .val (.int p3), .val (.int kk), .val (.ref aS), .val (.double (FP.dadd (FP.i2d p2) (FP.i2d p3))), .second, .unset, .unset] [(.long (p2.toInt64))]))
    refine own_st (fun _ kz => XS.iloadN X20.here hx rfl (hb hby at_66) rfl kz) ?_
    show own_Win p e below s _ _ _ (T20.setTop (mkF m 67 #[.val (.int p1), .val (.int p2), .val (.int p3), .val (.int kk), .val (.ref aS), .val (.double (FP.dadd (FP.i2d p2) (FP.i2d p3))), .second, .unset, .unset] [(.int p3), (.long (p2.toInt64))]))
    refine own_st (fun _ kz => XT.i2l X20.here hx rfl (hb hby at_67) rfl kz) ?_
    show own_Win p e below s _ _ _ (T20.setTop (mkF m 68 #[.val (.int p1), .val (.int p2), .val (.int p3), .val (.int kk), .val (.ref aS), .val (.double (FP.dadd (FP.i2d p2) (FP.i2d p3))), .second, .unset, .unset] [(.long (p3.toInt64)), (.long (p2.toInt64))]))
    refine own_st (fun _ kz => XT.ladd X20.here hx rfl (hb hby at_68) rfl kz) ?_
    show own_Win p e below s _ _ _ (T20.setTop (mkF m 69 #[.val (.int p1), .val (.int p2), .val (.int p3), .val (.int kk), .val (.ref aS), .val (.double (FP.dadd (FP.i2d p2) (FP.i2d p3))), .second, .unset, .unset] [(.long ((p2.toInt64) + (p3.toInt64)))]))
    refine own_st (fun _ kz => XS.l2dS X20.here hx rfl (hb hby at_69) rfl rfl kz) ?_
    show own_Win p e below s _ _ _ (T20.setTop (mkF m 70 #[.val (.int p1), .val (.int p2), .val (.int p3), .val (.int kk), .val (.ref aS), .val (.double (FP.dadd (FP.i2d p2) (FP.i2d p3))), .second, .unset, .unset] [(.double (FP.l2d ((p2.toInt64) + (p3.toInt64))))]))
    refine own_st (fun _ kz => XS.dstore X20.here hx rfl (hb hby at_70) rfl (l' := #[.val (.int p1), .val (.int p2), .val (.int p3), .val (.int kk), .val (.ref aS), .val (.double (FP.dadd (FP.i2d p2) (FP.i2d p3))), .second, .val (.double (FP.l2d ((p2.toInt64) + (p3.toInt64)))), .second]) rfl kz) ?_
    show own_Win p e below s _ _ _ (T20.setTop (mkF m 72 #[.val (.int p1), .val (.int p2), .val (.int p3), .val (.int kk), .val (.ref aS), .val (.double (FP.dadd (FP.i2d p2) (FP.i2d p3))), .second, .val (.double (FP.l2d ((p2.toInt64) + (p3.toInt64)))), .second] []))
    refine own_st (fun _ kz => XS.dload X20.here hx rfl (hb hby at_72) rfl kz) ?_
    show own_Win p e below s _ _ _ (T20.setTop (mkF m 74 #[.val (.int p1), .val (.int p2), .val (.int p3), .val (.int kk), .val (.ref aS), .val (.double (FP.dadd (FP.i2d p2) (FP.i2d p3))), .second, .val (.double (FP.l2d ((p2.toInt64) + (p3.toInt64)))), .second] [(.double (FP.dadd (FP.i2d p2) (FP.i2d p3)))]))
    refine own_st (fun _ kz => XS.dload X20.here hx rfl (hb hby at_74) rfl kz) ?_
    show own_Win p e below s _ _ _ (T20.setTop (mkF m 76 #[.val (.int p1), .val (.int p2), .val (.int p3), .val (.int kk), .val (.ref aS), .val (.double (FP.dadd (FP.i2d p2) (FP.i2d p3))), .second, .val (.double (FP.l2d ((p2.toInt64) + (p3.toInt64)))), .second] [(.double (FP.l2d ((p2.toInt64) + (p3.toInt64)))), (.double (FP.dadd (FP.i2d p2) (FP.i2d p3)))]))
    refine own_st (fun _ kz => XS.dcmpS X20.here hx rfl (hb hby at_76) rfl rfl kz) ?_
    show own_Win p e below s _ _ _ (T20.setTop (mkF m 77 #[.val (.int p1), .val (.int p2), .val (.int p3), .val (.int kk), .val (.ref aS), .val (.double (FP.dadd (FP.i2d p2) (FP.i2d p3))), .second, .val (.double (FP.l2d ((p2.toInt64) + (p3.toInt64)))), .second] [(.int (cmpValue (FP.dcmp (FP.dadd (FP.i2d p2) (FP.i2d p3)) (FP.l2d ((p2.toInt64) + (p3.toInt64)))) .l))]))
    refine own_st (fun _ kz => XS.ifNo X20.here hx rfl (hb hby at_77) rfl (by rw [own_add]; decide) kz) ?_
    show own_Win p e below s _ _ _ (T20.setTop (mkF m 80 #[.val (.int p1), .val (.int p2), .val (.int p3), .val (.int kk), .val (.ref aS), .val (.double (FP.dadd (FP.i2d p2) (FP.i2d p3))), .second, .val (.double (FP.l2d ((p2.toInt64) + (p3.toInt64)))), .second] []))
    refine own_st (fun _ kz => XS.iconst X20.here hx rfl (hb hby at_80) kz) ?_
    show own_Win p e below s _ _ _ (T20.setTop (mkF m 81 #[.val (.int p1), .val (.int p2), .val (.int p3), .val (.int kk), .val (.ref aS), .val (.double (FP.dadd (FP.i2d p2) (FP.i2d p3))), .second, .val (.double (FP.l2d ((p2.toInt64) + (p3.toInt64)))), .second] [(.int (1 : Int32))]))
    refine own_st (fun _ kz => XS.goto X20.here hx rfl (pc0 := 81) (pc' := 85) rfl (hb hby at_81) (by decide) (by decide) kz) ?_
    show own_Win p e below s _ _ _ (T20.setTop (mkF m 85 #[.val (.int p1), .val (.int p2), .val (.int p3), .val (.int kk), .val (.ref aS), .val (.double (FP.dadd (FP.i2d p2) (FP.i2d p3))), .second, .val (.double (FP.l2d ((p2.toInt64) + (p3.toInt64)))), .second] [(.int (1 : Int32))]))
    exact own_ret X20 hx hlk Bd.returns rfl (Or.inl ⟨rfl, Or.inr (Or.inl rfl), _, rfl⟩) (hb hby at_85) ⟨rfl, N21⟩ (by decide) (by decide)
  ·
    refine own_st (fun _ kz => XS.ifYes X0.here hx rfl (pc0 := 8) (pc' := 19) rfl (hb hby at_8) rfl (by rw [q]; decide) (by decide) (by decide) kz) ?_
    show own_Win p e below s _ _ _ (s₁.setTop (mkF m 19 #[.val (.int p1), .val (.int p2), .val (.int p3), .val (.int kk), .unset, .unset, .unset, .unset, .unset] []))
    refine own_st (fun _ kz => XS.iloadN X0.here hx rfl (hb hby at_19) rfl kz) ?_
    show own_Win p e below s _ _ _ (s₁.setTop (mkF m 20 #[.val (.int p1), .val (.int p2), .val (.int p3), .val (.int kk), .unset, .unset, .unset, .unset, .unset] [(.int kk)]))
    refine own_st (fun _ kz => XS.iconst X0.here hx rfl (hb hby at_20) kz) ?_
    show own_Win p e below s _ _ _ (s₁.setTop (mkF m 21 #[.val (.int p1), .val (.int p2), .val (.int p3), .val (.int kk), .unset, .unset, .unset, .unset, .unset] [(.int (1 : Int32)), (.int kk)]))
    refine own_st (fun _ kz => XS.icmpNo X0.here hx rfl (hb hby at_21) rfl (by rw [q]; decide) kz) ?_
    show own_Win p e below s _ _ _ (s₁.setTop (mkF m 24 #[.val (.int p1), .val (.int p2), .val (.int p3), .val (.int kk), .unset, .unset, .unset, .unset, .unset] []))
    obtain ⟨T1, X1, e1, st1⟩ := getS X0 hx hZ hown (host := "") (hw _ (List.mem_of_getElem? (i := 11) rfl)) Via.refl e0 SP (g := (mkF m 24 #[.val (.int p1), .val (.int p2), .val (.int p3), .val (.int kk), .unset, .unset, .unset, .unset, .unset] [])) rfl (hb hby at_24)
    refine own_st st1 ?_
    show own_Win p e below s _ _ _ (T1.setTop (mkF m 27 #[.val (.int p1), .val (.int p2), .val (.int p3), .val (.int kk), .unset, .unset, .unset, .unset, .unset] [(.ref aP)]))
    refine own_st (fun _ kz => XS.astore X1.here hx rfl (hb hby at_27) rfl rfl (l' := #[.val (.int p1), .val (.int p2), .val (.int p3), .val (.int kk), .val (.ref aP), .unset, .unset, .unset, .unset]) rfl kz) ?_
    show own_Win p e below s _ _ _ (T1.setTop (mkF m 29 #[.val (.int p1), .val (.int p2), .val (.int p3), .val (.int kk), .val (.ref aP), .unset, .unset, .unset, .unset] []))
    refine own_st (fun _ kz => XS.goto X1.here hx rfl (pc0 := 29) (pc' := 37) rfl (hb hby at_29) (by decide) (by decide) kz) ?_
    show own_Win p e below s _ _ _ (T1.setTop (mkF m 37 #[.val (.int p1), .val (.int p2), .val (.int p3), .val (.int kk), .val (.ref aP), .unset, .unset, .unset, .unset] []))
    refine own_st (fun _ kz => XS.aload X1.here hx rfl (hb hby at_37) rfl rfl kz) ?_
    show own_Win p e below s _ _ _ (T1.setTop (mkF m 39 #[.val (.int p1), .val (.int p2), .val (.int p3), .val (.int kk), .val (.ref aP), .unset, .unset, .unset, .unset] [(.ref aP)]))
    refine own_st (fun _ kz => XS.iloadN X1.here hx rfl (hb hby at_39) rfl kz) ?_
    show own_Win p e below s _ _ _ (T1.setTop (mkF m 40 #[.val (.int p1), .val (.int p2), .val (.int p3), .val (.int kk), .val (.ref aP), .unset, .unset, .unset, .unset] [(.int p2), (.ref aP)]))
    refine own_st (fun _ kz => XS.i2dS X1.here hx rfl (hb hby at_40) rfl rfl kz) ?_
    show own_Win p e below s _ _ _ (T1.setTop (mkF m 41 #[.val (.int p1), .val (.int p2), .val (.int p3), .val (.int kk), .val (.ref aP), .unset, .unset, .unset, .unset] [(.double (FP.i2d p2)), (.ref aP)]))
    refine own_st (fun _ kz => XS.iloadN X1.here hx rfl (hb hby at_41) rfl kz) ?_
    show own_Win p e below s _ _ _ (T1.setTop (mkF m 42 #[.val (.int p1), .val (.int p2), .val (.int p3), .val (.int kk), .val (.ref aP), .unset, .unset, .unset, .unset] [(.int p3), (.double (FP.i2d p2)), (.ref aP)]))
    refine own_st (fun _ kz => XS.i2dS X1.here hx rfl (hb hby at_42) rfl rfl kz) ?_
    show own_Win p e below s _ _ _ (T1.setTop (mkF m 43 #[.val (.int p1), .val (.int p2), .val (.int p3), .val (.int kk), .val (.ref aP), .unset, .unset, .unset, .unset] [(.double (FP.i2d p3)), (.double (FP.i2d p2)), (.ref aP)]))
    refine own_callV X1 hx hZ hown (C := "com/example/skyweave/skyweave/Aggregate") (y := yC) (hw _ (List.mem_of_getElem? (i := 4) rfl)) (hw _ (List.mem_of_getElem? (i := 5) rfl)) (hw _ (List.mem_of_getElem? (i := 7) rfl)) (hw _ (List.mem_of_getElem? (i := 6) rfl)) (hw _ (List.mem_of_getElem? (i := 8) rfl)) (hw _ (List.mem_of_getElem? (i := 2) rfl)) (by decide) e1 EP (rmAdd l Z a0 hw [] aM aP (FP.i2d p2) (FP.i2d p3) _ h0 n0 Z0 SM nP (dadd_out (own_nn p2) (i2d_fin p3)) rfl) (by decide) (W := 0) (by decide) rfl (by rw [hml]; rfl) (argsL := [.double (FP.i2d p2), .double (FP.i2d p3)]) (rest := []) (lenOf pdC rfl) rfl (Nat.le_of_eq rfl) (hb hby at_43) rfl (by decide) (by decide) ?_
    intro T20 v20 L20 X20 hQ20
    obtain ⟨rfl, N20, e20⟩ := hQ20
    have N21 := Fr.app N0 N20
    show own_Win p e below s _ _ _ (T20.setTop (mkF m 46 #[.val (.int p1), .val (.int p2), .val (.int p3), .val (.int kk), .val (.ref aP), .unset, .unset, .unset, .unset] [(.double (FP.dadd (FP.i2d p2) (FP.i2d p3)))]))
    refine own_st (fun _ kz => XS.dstore X20.here hx rfl (hb hby at_46) rfl (l' := #[.val (.int p1), .val (.int p2), .val (.int p3), .val (.int kk), .val (.ref aP), .val (.double (FP.dadd (FP.i2d p2) (FP.i2d p3))), .second, .unset, .unset]) rfl kz) ?_
    show own_Win p e below s _ _ _ (T20.setTop (mkF m 48 #[.val (.int p1), .val (.int p2), .val (.int p3), .val (.int kk), .val (.ref aP), .val (.double (FP.dadd (FP.i2d p2) (FP.i2d p3))), .second, .unset, .unset] []))
    refine own_st (fun _ kz => XS.iloadN X20.here hx rfl (hb hby at_48) rfl kz) ?_
    show own_Win p e below s _ _ _ (T20.setTop (mkF m 49 #[.val (.int p1), .val (.int p2), .val (.int p3), .val (.int kk), .val (.ref aP), .val (.double (FP.dadd (FP.i2d p2) (FP.i2d p3))), .second, .unset, .unset] [(.int kk)]))
    refine own_st (fun _ kz => XS.iconst X20.here hx rfl (hb hby at_49) kz) ?_
    show own_Win p e below s _ _ _ (T20.setTop (mkF m 50 #[.val (.int p1), .val (.int p2), .val (.int p3), .val (.int kk), .val (.ref aP), .val (.double (FP.dadd (FP.i2d p2) (FP.i2d p3))), .second, .unset, .unset] [(.int (2 : Int32)), (.int kk)]))
    refine own_st (fun _ kz => XS.icmpYes X20.here hx rfl (pc0 := 50) (pc' := 64) rfl (hb hby at_50) rfl (by rw [q]; decide) (by decide) (by decide) kz) ?_
    show own_Win p e below s _ _ _ (T20.setTop (mkF m 64 #[.val (.int p1), .val (.int p2), .val (.int p3), .val (.int kk), .val (.ref aP), .val (.double (FP.dadd (FP.i2d p2) (FP.i2d p3))), .second, .unset, .unset] []))
    refine own_st (fun _ kz => XS.iloadN X20.here hx rfl (hb hby at_64) rfl kz) ?_
    show own_Win p e below s _ _ _ (T20.setTop (mkF m 65 #[.val (.int p1), .val (.int p2), .val (.int p3), .val (.int kk), .val (.ref aP), .val (.double (FP.dadd (FP.i2d p2) (FP.i2d p3))), .second, .unset, .unset] [(.int p2)]))
    refine own_st (fun _ kz => XT.i2l X20.here hx rfl (hb hby at_65) rfl kz) ?_
    show own_Win p e below s _ _ _ (T20.setTop (mkF m 66 #[.val (.int p1), .val (.int p2), .val (.int p3), .val (.int kk), .val (.ref aP), .val (.double (FP.dadd (FP.i2d p2) (FP.i2d p3))), .second, .unset, .unset] [(.long (p2.toInt64))]))
    refine own_st (fun _ kz => XS.iloadN X20.here hx rfl (hb hby at_66) rfl kz) ?_
    show own_Win p e below s _ _ _ (T20.setTop (mkF m 67 #[.val (.int p1), .val (.int p2), .val (.int p3), .val (.int kk), .val (.ref aP), .val (.double (FP.dadd (FP.i2d p2) (FP.i2d p3))), .second, .unset, .unset] [(.int p3), (.long (p2.toInt64))]))
    refine own_st (fun _ kz => XT.i2l X20.here hx rfl (hb hby at_67) rfl kz) ?_
    show own_Win p e below s _ _ _ (T20.setTop (mkF m 68 #[.val (.int p1), .val (.int p2), .val (.int p3), .val (.int kk), .val (.ref aP), .val (.double (FP.dadd (FP.i2d p2) (FP.i2d p3))), .second, .unset, .unset] [(.long (p3.toInt64)), (.long (p2.toInt64))]))
    refine own_st (fun _ kz => XT.ladd X20.here hx rfl (hb hby at_68) rfl kz) ?_
    show own_Win p e below s _ _ _ (T20.setTop (mkF m 69 #[.val (.int p1), .val (.int p2), .val (.int p3), .val (.int kk), .val (.ref aP), .val (.double (FP.dadd (FP.i2d p2) (FP.i2d p3))), .second, .unset, .unset] [(.long ((p2.toInt64) + (p3.toInt64)))]))
    refine own_st (fun _ kz => XS.l2dS X20.here hx rfl (hb hby at_69) rfl rfl kz) ?_
    show own_Win p e below s _ _ _ (T20.setTop (mkF m 70 #[.val (.int p1), .val (.int p2), .val (.int p3), .val (.int kk), .val (.ref aP), .val (.double (FP.dadd (FP.i2d p2) (FP.i2d p3))), .second, .unset, .unset] [(.double (FP.l2d ((p2.toInt64) + (p3.toInt64))))]))
    refine own_st (fun _ kz => XS.dstore X20.here hx rfl (hb hby at_70) rfl (l' := #[.val (.int p1), .val (.int p2), .val (.int p3), .val (.int kk), .val (.ref aP), .val (.double (FP.dadd (FP.i2d p2) (FP.i2d p3))), .second, .val (.double (FP.l2d ((p2.toInt64) + (p3.toInt64)))), .second]) rfl kz) ?_
    show own_Win p e below s _ _ _ (T20.setTop (mkF m 72 #[.val (.int p1), .val (.int p2), .val (.int p3), .val (.int kk), .val (.ref aP), .val (.double (FP.dadd (FP.i2d p2) (FP.i2d p3))), .second, .val (.double (FP.l2d ((p2.toInt64) + (p3.toInt64)))), .second] []))
    refine own_st (fun _ kz => XS.dload X20.here hx rfl (hb hby at_72) rfl kz) ?_
    show own_Win p e below s _ _ _ (T20.setTop (mkF m 74 #[.val (.int p1), .val (.int p2), .val (.int p3), .val (.int kk), .val (.ref aP), .val (.double (FP.dadd (FP.i2d p2) (FP.i2d p3))), .second, .val (.double (FP.l2d ((p2.toInt64) + (p3.toInt64)))), .second] [(.double (FP.dadd (FP.i2d p2) (FP.i2d p3)))]))
    refine own_st (fun _ kz => XS.dload X20.here hx rfl (hb hby at_74) rfl kz) ?_
    show own_Win p e below s _ _ _ (T20.setTop (mkF m 76 #[.val (.int p1), .val (.int p2), .val (.int p3), .val (.int kk), .val (.ref aP), .val (.double (FP.dadd (FP.i2d p2) (FP.i2d p3))), .second, .val (.double (FP.l2d ((p2.toInt64) + (p3.toInt64)))), .second] [(.double (FP.l2d ((p2.toInt64) + (p3.toInt64)))), (.double (FP.dadd (FP.i2d p2) (FP.i2d p3)))]))
    refine own_st (fun _ kz => XS.dcmpS X20.here hx rfl (hb hby at_76) rfl rfl kz) ?_
    show own_Win p e below s _ _ _ (T20.setTop (mkF m 77 #[.val (.int p1), .val (.int p2), .val (.int p3), .val (.int kk), .val (.ref aP), .val (.double (FP.dadd (FP.i2d p2) (FP.i2d p3))), .second, .val (.double (FP.l2d ((p2.toInt64) + (p3.toInt64)))), .second] [(.int (cmpValue (FP.dcmp (FP.dadd (FP.i2d p2) (FP.i2d p3)) (FP.l2d ((p2.toInt64) + (p3.toInt64)))) .l))]))
    refine own_st (fun _ kz => XS.ifNo X20.here hx rfl (hb hby at_77) rfl (by rw [own_add]; decide) kz) ?_
    show own_Win p e below s _ _ _ (T20.setTop (mkF m 80 #[.val (.int p1), .val (.int p2), .val (.int p3), .val (.int kk), .val (.ref aP), .val (.double (FP.dadd (FP.i2d p2) (FP.i2d p3))), .second, .val (.double (FP.l2d ((p2.toInt64) + (p3.toInt64)))), .second] []))
    refine own_st (fun _ kz => XS.iconst X20.here hx rfl (hb hby at_80) kz) ?_
    show own_Win p e below s _ _ _ (T20.setTop (mkF m 81 #[.val (.int p1), .val (.int p2), .val (.int p3), .val (.int kk), .val (.ref aP), .val (.double (FP.dadd (FP.i2d p2) (FP.i2d p3))), .second, .val (.double (FP.l2d ((p2.toInt64) + (p3.toInt64)))), .second] [(.int (1 : Int32))]))
    refine own_st (fun _ kz => XS.goto X20.here hx rfl (pc0 := 81) (pc' := 85) rfl (hb hby at_81) (by decide) (by decide) kz) ?_
    show own_Win p e below s _ _ _ (T20.setTop (mkF m 85 #[.val (.int p1), .val (.int p2), .val (.int p3), .val (.int kk), .val (.ref aP), .val (.double (FP.dadd (FP.i2d p2) (FP.i2d p3))), .second, .val (.double (FP.l2d ((p2.toInt64) + (p3.toInt64)))), .second] [(.int (1 : Int32))]))
    exact own_ret X20 hx hlk Bd.returns rfl (Or.inl ⟨rfl, Or.inr (Or.inl rfl), _, rfl⟩) (hb hby at_85) ⟨rfl, N21⟩ (by decide) (by decide)
  ·
    refine own_st (fun _ kz => XS.ifYes X0.here hx rfl (pc0 := 8) (pc' := 19) rfl (hb hby at_8) rfl (by rw [q]; decide) (by decide) (by decide) kz) ?_
    show own_Win p e below s _ _ _ (s₁.setTop (mkF m 19 #[.val (.int p1), .val (.int p2), .val (.int p3), .val (.int kk), .unset, .unset, .unset, .unset, .unset] []))
    refine own_st (fun _ kz => XS.iloadN X0.here hx rfl (hb hby at_19) rfl kz) ?_
    show own_Win p e below s _ _ _ (s₁.setTop (mkF m 20 #[.val (.int p1), .val (.int p2), .val (.int p3), .val (.int kk), .unset, .unset, .unset, .unset, .unset] [(.int kk)]))
    refine own_st (fun _ kz => XS.iconst X0.here hx rfl (hb hby at_20) kz) ?_
    show own_Win p e below s _ _ _ (s₁.setTop (mkF m 21 #[.val (.int p1), .val (.int p2), .val (.int p3), .val (.int kk), .unset, .unset, .unset, .unset, .unset] [(.int (1 : Int32)), (.int kk)]))
    refine own_st (fun _ kz => XS.icmpYes X0.here hx rfl (pc0 := 21) (pc' := 32) rfl (hb hby at_21) rfl (by rw [q]; decide) (by decide) (by decide) kz) ?_
    show own_Win p e below s _ _ _ (s₁.setTop (mkF m 32 #[.val (.int p1), .val (.int p2), .val (.int p3), .val (.int kk), .unset, .unset, .unset, .unset, .unset] []))
    obtain ⟨T1, X1, e1, st1⟩ := getS X0 hx hZ hown (host := "") (hw _ (List.mem_of_getElem? (i := 13) rfl)) Via.refl e0 SM (g := (mkF m 32 #[.val (.int p1), .val (.int p2), .val (.int p3), .val (.int kk), .unset, .unset, .unset, .unset, .unset] [])) rfl (hb hby at_32)
    refine own_st st1 ?_
    show own_Win p e below s _ _ _ (T1.setTop (mkF m 35 #[.val (.int p1), .val (.int p2), .val (.int p3), .val (.int kk), .unset, .unset, .unset, .unset, .unset] [(.ref aM)]))
    refine own_st (fun _ kz => XS.astore X1.here hx rfl (hb hby at_35) rfl rfl (l' := #[.val (.int p1), .val (.int p2), .val (.int p3), .val (.int kk), .val (.ref aM), .unset, .unset, .unset, .unset]) rfl kz) ?_
    show own_Win p e below s _ _ _ (T1.setTop (mkF m 37 #[.val (.int p1), .val (.int p2), .val (.int p3), .val (.int kk), .val (.ref aM), .unset, .unset, .unset, .unset] []))
    refine own_st (fun _ kz => XS.aload X1.here hx rfl (hb hby at_37) rfl rfl kz) ?_
    show own_Win p e below s _ _ _ (T1.setTop (mkF m 39 #[.val (.int p1), .val (.int p2), .val (.int p3), .val (.int kk), .val (.ref aM), .unset, .unset, .unset, .unset] [(.ref aM)]))
    refine own_st (fun _ kz => XS.iloadN X1.here hx rfl (hb hby at_39) rfl kz) ?_
    show own_Win p e below s _ _ _ (T1.setTop (mkF m 40 #[.val (.int p1), .val (.int p2), .val (.int p3), .val (.int kk), .val (.ref aM), .unset, .unset, .unset, .unset] [(.int p2), (.ref aM)]))
    refine own_st (fun _ kz => XS.i2dS X1.here hx rfl (hb hby at_40) rfl rfl kz) ?_
    show own_Win p e below s _ _ _ (T1.setTop (mkF m 41 #[.val (.int p1), .val (.int p2), .val (.int p3), .val (.int kk), .val (.ref aM), .unset, .unset, .unset, .unset] [(.double (FP.i2d p2)), (.ref aM)]))
    refine own_st (fun _ kz => XS.iloadN X1.here hx rfl (hb hby at_41) rfl kz) ?_
    show own_Win p e below s _ _ _ (T1.setTop (mkF m 42 #[.val (.int p1), .val (.int p2), .val (.int p3), .val (.int kk), .val (.ref aM), .unset, .unset, .unset, .unset] [(.int p3), (.double (FP.i2d p2)), (.ref aM)]))
    refine own_st (fun _ kz => XS.i2dS X1.here hx rfl (hb hby at_42) rfl rfl kz) ?_
    show own_Win p e below s _ _ _ (T1.setTop (mkF m 43 #[.val (.int p1), .val (.int p2), .val (.int p3), .val (.int kk), .val (.ref aM), .unset, .unset, .unset, .unset] [(.double (FP.i2d p3)), (.double (FP.i2d p2)), (.ref aM)]))
    refine own_callV X1 hx hZ hown (C := "com/example/skyweave/skyweave/Aggregate") (y := yC) (hw _ (List.mem_of_getElem? (i := 4) rfl)) (hw _ (List.mem_of_getElem? (i := 5) rfl)) (hw _ (List.mem_of_getElem? (i := 7) rfl)) (hw _ (List.mem_of_getElem? (i := 6) rfl)) (hw _ (List.mem_of_getElem? (i := 8) rfl)) (hw _ (List.mem_of_getElem? (i := 2) rfl)) (by decide) e1 EM (rmMin l Z a0 hw [] aM (FP.i2d p2) (FP.i2d p3) _ h0 n0 Z0 SM (own_nn p2) (own_nn p3) (own_mn p2 p3)) (by decide) (W := 0) (by decide) rfl (by rw [hml]; rfl) (argsL := [.double (FP.i2d p2), .double (FP.i2d p3)]) (rest := []) (lenOf pdC rfl) rfl (Nat.le_of_eq rfl) (hb hby at_43) rfl (by decide) (by decide) ?_
    intro T20 v20 L20 X20 hQ20
    obtain ⟨rfl, N20, e20⟩ := hQ20
    have N21 := Fr.app N0 N20
    show own_Win p e below s _ _ _ (T20.setTop (mkF m 46 #[.val (.int p1), .val (.int p2), .val (.int p3), .val (.int kk), .val (.ref aM), .unset, .unset, .unset, .unset] [(.double (FP.i2d (own_min p2 p3)))]))
    refine own_st (fun _ kz => XS.dstore X20.here hx rfl (hb hby at_46) rfl (l' := #[.val (.int p1), .val (.int p2), .val (.int p3), .val (.int kk), .val (.ref aM), .val (.double (FP.i2d (own_min p2 p3))), .second, .unset, .unset]) rfl kz) ?_
    show own_Win p e below s _ _ _ (T20.setTop (mkF m 48 #[.val (.int p1), .val (.int p2), .val (.int p3), .val (.int kk), .val (.ref aM), .val (.double (FP.i2d (own_min p2 p3))), .second, .unset, .unset] []))
    refine own_st (fun _ kz => XS.iloadN X20.here hx rfl (hb hby at_48) rfl kz) ?_
    show own_Win p e below s _ _ _ (T20.setTop (mkF m 49 #[.val (.int p1), .val (.int p2), .val (.int p3), .val (.int kk), .val (.ref aM), .val (.double (FP.i2d (own_min p2 p3))), .second, .unset, .unset] [(.int kk)]))
    refine own_st (fun _ kz => XS.iconst X20.here hx rfl (hb hby at_49) kz) ?_
    show own_Win p e below s _ _ _ (T20.setTop (mkF m 50 #[.val (.int p1), .val (.int p2), .val (.int p3), .val (.int kk), .val (.ref aM), .val (.double (FP.i2d (own_min p2 p3))), .second, .unset, .unset] [(.int (2 : Int32)), (.int kk)]))
    refine own_st (fun _ kz => XS.icmpNo X20.here hx rfl (hb hby at_50) rfl (by rw [q]; decide) kz) ?_
    show own_Win p e below s _ _ _ (T20.setTop (mkF m 53 #[.val (.int p1), .val (.int p2), .val (.int p3), .val (.int kk), .val (.ref aM), .val (.double (FP.i2d (own_min p2 p3))), .second, .unset, .unset] []))
    refine own_st (fun _ kz => XS.iloadN X20.here hx rfl (hb hby at_53) rfl kz) ?_
    show own_Win p e below s _ _ _ (T20.setTop (mkF m 54 #[.val (.int p1), .val (.int p2), .val (.int p3), .val (.int kk), .val (.ref aM), .val (.double (FP.i2d (own_min p2 p3))), .second, .unset, .unset] [(.int p2)]))
    refine own_st (fun _ kz => XS.iloadN X20.here hx rfl (hb hby at_54) rfl kz) ?_
    show own_Win p e below s _ _ _ (T20.setTop (mkF m 55 #[.val (.int p1), .val (.int p2), .val (.int p3), .val (.int kk), .val (.ref aM), .val (.double (FP.i2d (own_min p2 p3))), .second, .unset, .unset] [(.int p3), (.int p2)]))
    refine own_callS X20 hx hZ hown (y := yM) (hw _ (List.mem_of_getElem? (i := 18) rfl)) (hw _ (List.mem_of_getElem? (i := 19) rfl)) (hw _ (List.mem_of_getElem? (i := 16) rfl)) (hw _ (List.mem_of_getElem? (i := 20) rfl)) (by decide) e20 (rmM l Z a0 hw [] p2 p3 h0 n0 Z0) (by decide) (W := 0) (by decide) rfl (by rw [hml]; rfl) (argsL := [.int p2, .int p3]) (rest := []) (lenOf pdM rfl) rfl (Nat.le_of_eq rfl) (hb hby at_55) rfl (by decide) (by decide) ?_
    intro T30 v30 L30 X30 hQ30
    obtain ⟨rfl, N30, e30⟩ := hQ30
    have N31 := Fr.app N21 N30
    show own_Win p e below s _ _ _ (T30.setTop (mkF m 58 #[.val (.int p1), .val (.int p2), .val (.int p3), .val (.int kk), .val (.ref aM), .val (.double (FP.i2d (own_min p2 p3))), .second, .unset, .unset] [(.int (own_min p2 p3))]))
    refine own_st (fun _ kz => XS.i2dS X30.here hx rfl (hb hby at_58) rfl rfl kz) ?_
    show own_Win p e below s _ _ _ (T30.setTop (mkF m 59 #[.val (.int p1), .val (.int p2), .val (.int p3), .val (.int kk), .val (.ref aM), .val (.double (FP.i2d (own_min p2 p3))), .second, .unset, .unset] [(.double (FP.i2d (own_min p2 p3)))]))
    refine own_st (fun _ kz => XS.dstore X30.here hx rfl (hb hby at_59) rfl (l' := #[.val (.int p1), .val (.int p2), .val (.int p3), .val (.int kk), .val (.ref aM), .val (.double (FP.i2d (own_min p2 p3))), .second, .val (.double (FP.i2d (own_min p2 p3))), .second]) rfl kz) ?_
    show own_Win p e below s _ _ _ (T30.setTop (mkF m 61 #[.val (.int p1), .val (.int p2), .val (.int p3), .val (.int kk), .val (.ref aM), .val (.double (FP.i2d (own_min p2 p3))), .second, .val (.double (FP.i2d (own_min p2 p3))), .second] []))
    refine own_st (fun _ kz => XS.goto X30.here hx rfl (pc0 := 61) (pc' := 72) rfl (hb hby at_61) (by decide) (by decide) kz) ?_
    show own_Win p e below s _ _ _ (T30.setTop (mkF m 72 #[.val (.int p1), .val (.int p2), .val (.int p3), .val (.int kk), .val (.ref aM), .val (.double (FP.i2d (own_min p2 p3))), .second, .val (.double (FP.i2d (own_min p2 p3))), .second] []))
    refine own_st (fun _ kz => XS.dload X30.here hx rfl (hb hby at_72) rfl kz) ?_
    show own_Win p e below s _ _ _ (T30.setTop (mkF m 74 #[.val (.int p1), .val (.int p2), .val (.int p3), .val (.int kk), .val (.ref aM), .val (.double (FP.i2d (own_min p2 p3))), .second, .val (.double (FP.i2d (own_min p2 p3))), .second] [(.double (FP.i2d (own_min p2 p3)))]))
    refine own_st (fun _ kz => XS.dload X30.here hx rfl (hb hby at_74) rfl kz) ?_
    show own_Win p e below s _ _ _ (T30.setTop (mkF m 76 #[.val (.int p1), .val (.int p2), .val (.int p3), .val (.int kk), .val (.ref aM), .val (.double (FP.i2d (own_min p2 p3))), .second, .val (.double (FP.i2d (own_min p2 p3))), .second] [(.double (FP.i2d (own_min p2 p3))), (.double (FP.i2d (own_min p2 p3)))]))
    refine own_st (fun _ kz => XS.dcmpS X30.here hx rfl (hb hby at_76) rfl rfl kz) ?_
    show own_Win p e below s _ _ _ (T30.setTop (mkF m 77 #[.val (.int p1), .val (.int p2), .val (.int p3), .val (.int kk), .val (.ref aM), .val (.double (FP.i2d (own_min p2 p3))), .second, .val (.double (FP.i2d (own_min p2 p3))), .second] [(.int (cmpValue (FP.dcmp (FP.i2d (own_min p2 p3)) (FP.i2d (own_min p2 p3))) .l))]))
    refine own_st (fun _ kz => XS.ifNo X30.here hx rfl (hb hby at_77) rfl (by rw [own_self]; decide) kz) ?_
    show own_Win p e below s _ _ _ (T30.setTop (mkF m 80 #[.val (.int p1), .val (.int p2), .val (.int p3), .val (.int kk), .val (.ref aM), .val (.double (FP.i2d (own_min p2 p3))), .second, .val (.double (FP.i2d (own_min p2 p3))), .second] []))
    refine own_st (fun _ kz => XS.iconst X30.here hx rfl (hb hby at_80) kz) ?_
    show own_Win p e below s _ _ _ (T30.setTop (mkF m 81 #[.val (.int p1), .val (.int p2), .val (.int p3), .val (.int kk), .val (.ref aM), .val (.double (FP.i2d (own_min p2 p3))), .second, .val (.double (FP.i2d (own_min p2 p3))), .second] [(.int (1 : Int32))]))
    refine own_st (fun _ kz => XS.goto X30.here hx rfl (pc0 := 81) (pc' := 85) rfl (hb hby at_81) (by decide) (by decide) kz) ?_
    show own_Win p e below s _ _ _ (T30.setTop (mkF m 85 #[.val (.int p1), .val (.int p2), .val (.int p3), .val (.int kk), .val (.ref aM), .val (.double (FP.i2d (own_min p2 p3))), .second, .val (.double (FP.i2d (own_min p2 p3))), .second] [(.int (1 : Int32))]))
    exact own_ret X30 hx hlk Bd.returns rfl (Or.inl ⟨rfl, Or.inr (Or.inl rfl), _, rfl⟩) (hb hby at_85) ⟨rfl, N31⟩ (by decide) (by decide)
theorem own_ord {s : State} {args : Array Value} {t : Term} {a : Addr} {k : Int32} (ht : t.eval args s none [] s = some (.ref a)) (h : (Jvm.Cond.eq (.field t "java/lang/Enum" "ordinal" "I") (.int k)).value args s none s [] = some true) : Fld s s.heap a "java/lang/Enum" "ordinal" "I" (.int k) := by
  obtain ⟨x, y, hx, hy, -, -⟩ := cmp_v (Or.inl h)
  rw [Term.int_eval] at hy
  cases hy
  have hx' := hx
  rw [fld_at ht] at hx
  cases x with
  | int z =>
    have : z = k := by simpa [Cond.value, hx', Term.int_eval] using h
    subst this
    exact Fld.start hx
  | _ => simp [Cond.value, hx', Term.int_eval] at h
set_option maxRecDepth 65536 in
set_option maxHeartbeats 40000000 in
theorem comes_1 {Post : Tables → Env → Array Value → State → Outcome → State → Prop} (hpost : ∀ tb e args s v u, (limb_1_1.after args s (.returned v) u = true ∧ limb_1_2.after args s (.returned v) u = true ∧ True) → FrameEnd s (.returned v) u (Jvm.fieldLocs frame_1_writes args s ++ Jvm.arrayLocs frame_1_arrays args s ++ Jvm.staticLocs frame_1_statics s) 0 0 → Post tb e args s (.returned v) u) :
    ArmFor flags0 classFile x code maxLocals ret World_1 tables_1 room_1 Calls_1 rest_1 Pre_1 Post := by
  intro l hfl _ _ p e ha hc hk s m args below hf hA hF happ hP
  obtain ⟨hcalls, hrest, hpre⟩ := hP
  obtain ⟨-, -, -, hnamed, -, -, -, hat⟩ := (Spec.applies_iff hf).mp happ
  obtain ⟨hg, hn⟩ := and_e (Cond.before_iff.mp (show (Jvm.Cond.and given_1 narrow_1).before args s = true from hpre))
  obtain ⟨h1, h2⟩ := and_e hg
  obtain ⟨h2, h3⟩ := and_e h2
  obtain ⟨h3, h4⟩ := and_e h3
  obtain ⟨w0, w1, w2, rfl⟩ : ∃ w0 w1 w2 : Value, args = #[w0, w1, w2] := by
    have hs : args.size = 3 := by simpa [Cond.value, given_1] using h1
    obtain ⟨L⟩ := args
    match L, hs with
    | [w0, w1, w2], _ => exact ⟨w0, w1, w2, rfl⟩
  have hw := fun d (hd : d ∈ tables_1) => atoms_spec (ws := Jvm.Cond.code x code maxLocals ret :: tables_1) hat d (List.mem_cons_of_mem _ hd)
  obtain ⟨i0, e0⟩ := is_v h2
  obtain rfl : w0 = (.int i0) := Option.some.inj e0
  obtain ⟨i1, e1⟩ := is_v h3
  obtain rfl : w1 = (.int i1) := Option.some.inj e1
  obtain ⟨i2, e2⟩ := is_v h4
  obtain rfl : w2 = (.int i2) := Option.some.inj e2
  obtain ⟨n1, hn⟩ := and_e hn
  obtain ⟨n2, hn⟩ := and_e hn
  obtain ⟨n3, hn⟩ := and_e hn
  obtain ⟨n4, hn⟩ := and_e hn
  obtain ⟨n5, n6⟩ := and_e hn
  obtain ⟨aS, tS⟩ := exa_v n1
  obtain ⟨aM, tM⟩ := exa_v n2
  obtain ⟨aP, tP⟩ := exa_v n5
  have ES := Exa.start tS n1
  have EM := Exa.start tM n2
  have EP := Exa.start tP n5
  have SS := Sta.start tS (Or.inr ⟨(hw _ (List.mem_of_getElem? (i := 2) rfl)), (hw _ (List.mem_of_getElem? (i := 3) rfl))⟩)
  have SM := Sta.start tM (Or.inr ⟨(hw _ (List.mem_of_getElem? (i := 2) rfl)), (hw _ (List.mem_of_getElem? (i := 10) rfl))⟩)
  have SP := Sta.start tP (Or.inr ⟨(hw _ (List.mem_of_getElem? (i := 2) rfl)), (hw _ (List.mem_of_getElem? (i := 12) rfl))⟩)
  have fS := own_ord tS n3
  have fM := own_ord tM n4
  have fP := own_ord tP n6
  have nS : aS ≠ aM := Fld.ne fS fM (by decide)
  have nP : aP ≠ aM := Fld.ne fP fM (by decide)
  obtain ⟨n, o, h1, h2, h3, _, L, rfl, ⟨rfl, N⟩, hq⟩ := rm0 l s _ hw tables_1 i0 i1 i2 aS aP aM s.heap s.heap.size (Nat.le_refl _) SS ES SP EP SM EM nS nP p e ha hc hk s m _ below hf ((Spec.applies_iff_loose hf).mp happ).1 ⟨rfl, State.Warmed39.refl s, rfl⟩ trivial
  refine ⟨n, _, h1, h2, h3, hpost _ _ _ _ _ _ ⟨Cond.after_iff.mpr rfl, Cond.after_iff.mpr (eq_i res_at (Term.int_eval (1)) rfl), trivial⟩ ⟨hq.1, hq.2.1, (hq.2.2.sift fun y hy => Or.inr (N y hy)).mono (by decide) (by decide)⟩⟩
theorem main_1_1 : Claimed_1_1 := comes_1 fun _ _ _ _ _ _ h hF => ⟨h.1, hF⟩
theorem main_1_2 : Claimed_1_2 := comes_1 fun _ _ _ _ _ _ h hF => ⟨h.2.1, hF⟩
end Jvm.Pilot.@@N@@
namespace Jvm.Pilot.@@N@@
open Jvm Jvm.ClassFile Sem Op Lib Jvm.Free Jvm.Stand Jvm.Pilot.@@N@@.Jvm.D
/-! MADE BY PROGRAM (witnessworld.py) out of the Statement's table words and the real class files: 13 classes; the members and pool entries that the words name. The judged class is class 1, her method 1. -/
namespace start1
open Jvm.ClassFile
def u (s : String) : CpInfo := .utf8 (stringToUtf16 s)
/-- a pool by its gaps: so many unusable entries, then the entry; so many at the end -/
def gap : Nat → List CpInfo → List CpInfo
  | 0, r => r
  | n + 1, r => .unusable :: gap n r
def poolList (es : List (Nat × CpInfo)) (last : Nat) : List CpInfo := es.foldr (fun e r => gap e.1 (e.2 :: r)) (gap last [])
def pool (es : List (Nat × CpInfo)) (last : Nat) : Array CpInfo := ⟨poolList es last⟩
def fileOf (pool : Array CpInfo) (this : Nat) (attrs : Array Attribute := #[]) (ms : Array MethodInfo := #[]) (fl : Nat := 33) (sup : Nat := 0) (ifs : Array Nat := #[]) (fds : Array FieldInfo := #[]) : ClassFile where
  minorVersion := 0
  majorVersion := 65
  constantPool := pool
  accessFlags := fl
  thisClass := this
  superClass := sup
  interfaces := ifs
  fields := fds
  methods := ms
  attributes := attrs
def plain (name : String) (sup : Option ClassId) : Class where
  name := name
  kind := .ordinary
  loader := none
  accessFlags := 33
  super := sup
  interfaces := #[]
  cf := none
  fields := #[]
  methods := #[]
  instanceTypes := #[]
  staticTypes := #[]
  resolved := #[]
  callSites := []
  init := .initialized
  statics := none
  mirror := none

def pool0 : Array CpInfo := pool [(5, u "<init>"), (0, u "()V"), (1, .class_ 10), (1, u "java/lang/Object")] 113

def k0m0 : Method := { name := "<init>", desc := "()V", sig := { parameters := [], returnType := none }, accessFlags := 1, code := none }
/-- java/lang/Object -/
def k0 : Class := { plain "java/lang/Object" none with
  accessFlags := 33
  interfaces := #[]
  cf := some (fileOf pool0 8 #[] #[{ accessFlags := 1, nameIndex := 5, descriptorIndex := 6, attributes := #[] }] 33 0 #[] #[])
  fields := #[]
  methods := #[k0m0]
  instanceTypes := #[]
  staticTypes := #[]
  resolved := Array.replicate 124 none
  statics := none }

def pool1 : Array CpInfo := pool [(2, .class_ 4), (1, u "java/lang/Object"), (0, u "<init>"), (0, u "()V"), (0, .integer 2147483647), (0, .fieldref 9 10), (0, .class_ 11), (0, .nameAndType 12 13), (0, u "com/example/skyweave/skyweave/Aggregate"), (0, u "SUM"), (0, u "Lcom/example/skyweave/skyweave/Aggregate;"), (0, .fieldref 9 15), (0, .nameAndType 16 13), (0, u "PRODUCT"), (0, .fieldref 9 18), (0, .nameAndType 19 13), (0, u "MIN"), (0, .methodref 9 21), (0, .nameAndType 22 23), (0, u "combine"), (0, u "(DD)D"), (0, .methodref 25 26), (0, .class_ 27), (0, .nameAndType 28 29), (0, u "java/lang/Math"), (0, u "min"), (0, u "(II)I"), (0, .class_ 31), (0, u "com/example/skyweave/skyweave/AggregateCombinePinLaw"), (2, u "law"), (0, u "(III)Z")] 3

def k1m0 : Method := { name := "<init>", desc := "()V", sig := { parameters := [], returnType := none }, accessFlags := 1, code := none }
def k1c1 : Code := { maxStack := 5, maxLocals := 9, code := code, exceptionTable := #[], attributes := #[] }
def k1m1 : Method := { name := "law", desc := "(III)Z", sig := { parameters := [.int, .int, .int], returnType := some .boolean }, accessFlags := 9, code := some k1c1 }
/-- com/example/skyweave/skyweave/AggregateCombinePinLaw -/
def k1 : Class := { plain "com/example/skyweave/skyweave/AggregateCombinePinLaw" (some 0) with
  accessFlags := 49
  interfaces := #[]
  cf := some (fileOf pool1 30 #[] #[{ accessFlags := 1, nameIndex := 5, descriptorIndex := 6, attributes := #[] }, { accessFlags := 9, nameIndex := 34, descriptorIndex := 35, attributes := #[] }] 49 2 #[] #[])
  fields := #[]
  methods := #[k1m0, k1m1]
  instanceTypes := #[]
  staticTypes := #[]
  resolved := Array.replicate 39 none
  statics := none }

def pool2 : Array CpInfo := pool [(1, .class_ 2), (0, u "java/lang/constant/Constable"), (0, .class_ 4), (0, u "java/lang/Object")] 6

/-- java/lang/constant/Constable -/
def k2 : Class := { plain "java/lang/constant/Constable" (some 0) with
  accessFlags := 1537
  interfaces := #[]
  cf := some (fileOf pool2 1 #[] #[] 1537 3 #[] #[])
  fields := #[]
  methods := #[]
  instanceTypes := #[]
  staticTypes := #[]
  resolved := Array.replicate 11 none
  statics := none }

def pool3 : Array CpInfo := pool [(1, .class_ 2), (0, u "java/lang/Comparable"), (0, .class_ 4), (0, u "java/lang/Object")] 7

/-- java/lang/Comparable -/
def k3 : Class := { plain "java/lang/Comparable" (some 0) with
  accessFlags := 1537
  interfaces := #[]
  cf := some (fileOf pool3 1 #[] #[] 1537 3 #[] #[])
  fields := #[]
  methods := #[]
  instanceTypes := #[]
  staticTypes := #[]
  resolved := Array.replicate 12 none
  statics := none }

def pool4 : Array CpInfo := pool [(1, .class_ 2), (0, u "java/io/Serializable"), (0, .class_ 4), (0, u "java/lang/Object")] 2

/-- java/io/Serializable -/
def k4 : Class := { plain "java/io/Serializable" (some 0) with
  accessFlags := 1537
  interfaces := #[]
  cf := some (fileOf pool4 1 #[] #[] 1537 3 #[] #[])
  fields := #[]
  methods := #[]
  instanceTypes := #[]
  staticTypes := #[]
  resolved := Array.replicate 7 none
  statics := none }

def pool5 : Array CpInfo := pool [(2, .class_ 4), (1, u "java/lang/Enum"), (0, u "name"), (0, u "Ljava/lang/String;"), (2, u "ordinal"), (0, u "I"), (1, .class_ 14), (1, u "java/lang/Object"), (4, u "hash"), (86, .class_ 108), (1, u "java/lang/Enum$EnumDesc"), (2, .class_ 112), (0, u "java/lang/constant/Constable"), (0, .class_ 114), (0, u "java/lang/Comparable"), (0, .class_ 116), (0, u "java/io/Serializable")] 87

/-- java/lang/Enum -/
def k5 : Class := { plain "java/lang/Enum" (some 0) with
  accessFlags := 1057
  interfaces := #[2, 3, 4]
  cf := some (fileOf pool5 2 #[.nestMembers #[106]] #[] 1057 12 #[111, 113, 115] #[{ accessFlags := 18, nameIndex := 5, descriptorIndex := 6, attributes := #[] }, { accessFlags := 18, nameIndex := 9, descriptorIndex := 10, attributes := #[] }, { accessFlags := 2, nameIndex := 19, descriptorIndex := 10, attributes := #[] }])
  fields := #[{ name := "name", type := (.object "java/lang/String"), accessFlags := 18, slot := 0, constantValue := 0 }, { name := "ordinal", type := .int, accessFlags := 18, slot := 1, constantValue := 0 }, { name := "hash", type := .int, accessFlags := 2, slot := 2, constantValue := 0 }]
  methods := #[]
  instanceTypes := #[(.object "java/lang/String"), .int, .int]
  staticTypes := #[]
  resolved := Array.replicate 204 none
  statics := none }

def pool6 : Array CpInfo := pool [(1, .class_ 2), (0, u "com/example/skyweave/skyweave/Aggregate"), (2, u "SUM"), (0, u "Lcom/example/skyweave/skyweave/Aggregate;"), (2, u "PRODUCT"), (0, .fieldref 1 11), (0, .nameAndType 12 6), (0, u "MIN"), (2, u "$VALUES"), (0, u "[Lcom/example/skyweave/skyweave/Aggregate;"), (6, .class_ 25), (1, u "java/lang/Enum"), (13, .class_ 41), (1, u "java/lang/Math"), (6, .methodref 39 49), (0, .nameAndType 50 51), (0, u "min"), (0, u "(DD)D"), (29, u "combine")] 8

def k6c0 : Code := { maxStack := 4, maxLocals := 5, code := prog_1_method_7_code, exceptionTable := #[], attributes := #[] }
def k6m0 : Method := { name := "combine", desc := "(DD)D", sig := { parameters := [.double, .double], returnType := some .double }, accessFlags := 0, code := some k6c0 }
/-- com/example/skyweave/skyweave/Aggregate -/
def k6 : Class := { plain "com/example/skyweave/skyweave/Aggregate" (some 5) with
  accessFlags := 16433
  interfaces := #[]
  cf := some (fileOf pool6 1 #[] #[{ accessFlags := 0, nameIndex := 81, descriptorIndex := 51, attributes := #[] }] 16433 23 #[] #[{ accessFlags := 16409, nameIndex := 5, descriptorIndex := 6, attributes := #[] }, { accessFlags := 16409, nameIndex := 9, descriptorIndex := 6, attributes := #[] }, { accessFlags := 16409, nameIndex := 12, descriptorIndex := 6, attributes := #[] }, { accessFlags := 4122, nameIndex := 15, descriptorIndex := 16, attributes := #[] }])
  fields := #[{ name := "SUM", type := (.object "com/example/skyweave/skyweave/Aggregate"), accessFlags := 16409, slot := 0, constantValue := 0 }, { name := "PRODUCT", type := (.object "com/example/skyweave/skyweave/Aggregate"), accessFlags := 16409, slot := 1, constantValue := 0 }, { name := "MIN", type := (.object "com/example/skyweave/skyweave/Aggregate"), accessFlags := 16409, slot := 2, constantValue := 0 }, { name := "$VALUES", type := (.array (.object "com/example/skyweave/skyweave/Aggregate")), accessFlags := 4122, slot := 3, constantValue := 0 }]
  methods := #[k6m0]
  instanceTypes := #[(.object "java/lang/String"), .int, .int]
  staticTypes := #[(.object "com/example/skyweave/skyweave/Aggregate"), (.object "com/example/skyweave/skyweave/Aggregate"), (.object "com/example/skyweave/skyweave/Aggregate"), (.array (.object "com/example/skyweave/skyweave/Aggregate"))]
  resolved := Array.replicate 90 none
  statics := some 0 }

def pool7 : Array CpInfo := pool [(1, .class_ 2), (0, u "java/lang/Math"), (1, .class_ 6), (1, u "java/lang/Object"), (0, u "<init>"), (0, u "()V"), (43, u "(DD)D"), (45, .class_ 100), (1, u "java/lang/Math$RandomNumberGeneratorHolder"), (71, u "negativeZeroFloatBits"), (0, u "J"), (2, u "negativeZeroDoubleBits"), (24, u "min"), (43, u "$assertionsDisabled"), (0, u "Z"), (88, u "(II)I"), (2, u "twoToTheDoubleScaleDown"), (0, u "D"), (4, u "twoToTheDoubleScaleUp"), (9, u "E"), (3, u "PI"), (2, u "TAU"), (2, u "DEGREES_TO_RADIANS"), (0, u "RADIANS_TO_DEGREES")] 94

def k7m0 : Method := { name := "<init>", desc := "()V", sig := { parameters := [], returnType := none }, accessFlags := 2, code := none }
def k7c1 : Code := { maxStack := 2, maxLocals := 2, code := jdk_29_method_69_code, exceptionTable := #[], attributes := #[] }
def k7m1 : Method := { name := "min", desc := "(II)I", sig := { parameters := [.int, .int], returnType := some .int }, accessFlags := 9, code := some k7c1 }
def k7c2 : Code := { maxStack := 4, maxLocals := 4, code := jdk_29_method_72_code, exceptionTable := #[], attributes := #[] }
def k7m2 : Method := { name := "min", desc := "(DD)D", sig := { parameters := [.double, .double], returnType := some .double }, accessFlags := 9, code := some k7c2 }
/-- java/lang/Math -/
def k7 : Class := { plain "java/lang/Math" (some 0) with
  accessFlags := 49
  interfaces := #[]
  cf := some (fileOf pool7 1 #[.nestMembers #[98]] #[{ accessFlags := 2, nameIndex := 7, descriptorIndex := 8, attributes := #[] }, { accessFlags := 9, nameIndex := 201, descriptorIndex := 335, attributes := #[] }, { accessFlags := 9, nameIndex := 201, descriptorIndex := 52, attributes := #[] }] 49 4 #[] #[{ accessFlags := 25, nameIndex := 354, descriptorIndex := 339, attributes := #[] }, { accessFlags := 25, nameIndex := 358, descriptorIndex := 339, attributes := #[] }, { accessFlags := 25, nameIndex := 361, descriptorIndex := 339, attributes := #[] }, { accessFlags := 26, nameIndex := 364, descriptorIndex := 339, attributes := #[] }, { accessFlags := 26, nameIndex := 365, descriptorIndex := 339, attributes := #[] }, { accessFlags := 26, nameIndex := 172, descriptorIndex := 173, attributes := #[] }, { accessFlags := 26, nameIndex := 176, descriptorIndex := 173, attributes := #[] }, { accessFlags := 8, nameIndex := 344, descriptorIndex := 339, attributes := #[] }, { accessFlags := 8, nameIndex := 338, descriptorIndex := 339, attributes := #[] }, { accessFlags := 4120, nameIndex := 245, descriptorIndex := 246, attributes := #[] }])
  fields := #[{ name := "E", type := .double, accessFlags := 25, slot := 0, constantValue := 0 }, { name := "PI", type := .double, accessFlags := 25, slot := 1, constantValue := 0 }, { name := "TAU", type := .double, accessFlags := 25, slot := 2, constantValue := 0 }, { name := "DEGREES_TO_RADIANS", type := .double, accessFlags := 26, slot := 3, constantValue := 0 }, { name := "RADIANS_TO_DEGREES", type := .double, accessFlags := 26, slot := 4, constantValue := 0 }, { name := "negativeZeroFloatBits", type := .long, accessFlags := 26, slot := 5, constantValue := 0 }, { name := "negativeZeroDoubleBits", type := .long, accessFlags := 26, slot := 6, constantValue := 0 }, { name := "twoToTheDoubleScaleUp", type := .double, accessFlags := 8, slot := 7, constantValue := 0 }, { name := "twoToTheDoubleScaleDown", type := .double, accessFlags := 8, slot := 8, constantValue := 0 }, { name := "$assertionsDisabled", type := .boolean, accessFlags := 4120, slot := 9, constantValue := 0 }]
  methods := #[k7m0, k7m1, k7m2]
  instanceTypes := #[]
  staticTypes := #[.double, .double, .double, .double, .double, .long, .long, .double, .double, .boolean]
  resolved := Array.replicate 460 none
  statics := none }

def pool8 : Array CpInfo := pool [(1, u "java/lang/Cloneable"), (0, .class_ 1), (0, u "java/lang/Object"), (0, .class_ 3)] 3

/-- java/lang/Cloneable -/
def k8 : Class := { plain "java/lang/Cloneable" (some 0) with
  accessFlags := 1537
  interfaces := #[]
  cf := some (fileOf pool8 2 #[] #[] 1537 4 #[] #[])
  fields := #[]
  methods := #[]
  instanceTypes := #[]
  staticTypes := #[]
  resolved := Array.replicate 8 none
  statics := none }

/-- the primitive byte -/
def k9 : Class := { plain "byte" none with kind := .primitive 'B', accessFlags := 0x411 }
/-- [B -/
def k10 : Class := { plain "[B" (some 0) with kind := .array 9 .byte, interfaces := #[8, 4], accessFlags := 1041 }

/-- the primitive int -/
def k11 : Class := { plain "int" none with kind := .primitive 'I', accessFlags := 0x411 }
/-- [I -/
def k12 : Class := { plain "[I" (some 0) with kind := .array 11 .int, interfaces := #[8, 4], accessFlags := 1041 }

def heap : Heap := #[{ cls := 6, slots := #[.ref 1, .ref 2, .ref 3, .null], vm := .statics 6 },
  { cls := 6, slots := #[.null, .int 0, .int 0], vm := .none },
  { cls := 6, slots := #[.null, .int 1, .int 0], vm := .none },
  { cls := 6, slots := #[.null, .int 2, .int 0], vm := .none }]
def classes : Array Class := #[k0, k1, k2, k3, k4, k5, k6, k7, k8, k9, k10, k11, k12]
def interned : List (Array UInt16 × Addr) := []
def slotsUsed : Nat := 13
def theMethod : MethodId := ⟨1, 1⟩
def args0 : Array Value := #[.int 1, .int 2, .int 3]
def aboutOver (below : List Frame) : State where
  vm := { classes := classes, interned := interned.toArray }
  heap := heap
  slotsUsed := slotsUsed
  threads := #[{ frames := .invoking theMethod args0 :: below }]
def below0 : List Frame := [.native { method := ⟨0, 0⟩, args := #[] }]
def about1 : State := aboutOver below0
def p0 : Program := .bare "" "" ""
def e0 : Env := launch0.env 0 0 0
theorem w_frames : about1.frames = Frame.invoking theMethod args0 :: below0 := rfl
set_option maxRecDepth 65536 in
theorem w_args : argsFit about1.vm theMethod args0 = true := by decide +kernel
set_option maxRecDepth 65536 in
theorem w_heap : heapFits about1 = true := by decide +kernel
set_option maxRecDepth 65536 in
theorem w_runnable : about1.curStatus? = some .runnable := by decide +kernel
set_option maxRecDepth 65536 in
theorem w_alone : about1.alone = true := by decide +kernel
set_option maxRecDepth 65536 in
theorem w_named : about1.methodNamed? x = some theMethod := by decide +kernel
set_option maxRecDepth 65536 in
theorem w_hears : about1.hears theMethod below0 = true := by decide +kernel
set_option maxRecDepth 65536 in
theorem w_ripe : about1.ripe theMethod args0 below0 = true := by decide +kernel
theorem w_running : about1.status = .running := rfl
set_option maxRecDepth 65536 in
theorem w_room : about1.hasRoom e0.platform room_1 = true :=
  launch0.hasRoom_least _ room_1 (by decide +kernel) (by decide +kernel) (by decide +kernel) (by decide +kernel) (by decide +kernel) (by decide +kernel)
theorem allAtoms_all (ts : List Jvm.Cond) (a : Array Jvm.Value) (st : Jvm.State) : (allAtoms ts).before a st = ts.all (fun c => c.before a st) := by
  induction ts with
  | nil => rfl
  | cons c t ih =>
    show (Jvm.Cond.and c (allAtoms t)).before a st = _
    rw [Jvm.Cond.before_and, ih, List.all_cons]
def words1 : List Jvm.Cond := Jvm.Cond.code x code maxLocals ret :: tables_1
/-- a 'code' word, met by the world's own term for the bytes: nothing is compared byte by byte -/
theorem code_word {y : MethodName} {bytes : ByteArray} {mx : Nat} {rt : Option FieldType} {a : Array Value} {s : State} {m : MethodId} {meth : Method} {c : Code} (h1 : s.methodNamed? y = some m) (h2 : s.vm.method? m = some meth) (h3 : meth.code = some c) (h4 : c.code = bytes)
    (h5 : (c.maxLocals == mx && c.exceptionTable.isEmpty && decide (c.maxStack ≤ mostOperands) && decide (meth.sig.returnType = rt) && !meth.locks && decide (parseMethodDescriptor y.desc = some meth.sig)) = true) : (Jvm.Cond.code y bytes mx rt).before a s = true := by
  simp only [Bool.and_eq_true, beq_iff_eq, Bool.not_eq_true', decide_eq_true_eq] at h5
  obtain ⟨⟨⟨⟨⟨g1, g2⟩, g3⟩, g4⟩, g5⟩, g6⟩ := h5
  simp [Cond.before, Cond.holds, Cond.value, h1, h2, h3, h4, g1, g2, g3, g4, g5, g6]
def isCode : Jvm.Cond → Bool
  | .code _ _ _ _ => true
  | _ => false
theorem all_split {L : List Jvm.Cond} {P : Jvm.Cond → Bool} (h1 : L.all (fun c => isCode c || P c) = true) (h2 : ∀ c ∈ L.filter isCode, P c = true) : L.all P = true := by
  refine List.all_eq_true.mpr fun c hc => ?_
  have h := List.all_eq_true.mp h1 c hc
  rcases Bool.eq_false_or_eq_true (isCode c) with hi | hi
  · exact h2 c (List.mem_filter.mpr ⟨hc, hi⟩)
  · simpa [hi] using h
set_option maxRecDepth 65536 in
theorem w_c0 : (Jvm.Cond.code x code maxLocals ret).before args0 about1 = true := code_word (m := ⟨1, 1⟩) (meth := k1m1) (c := k1c1) (by decide +kernel) rfl rfl rfl (by decide +kernel)
set_option maxRecDepth 65536 in
theorem w_c1 : (Jvm.Cond.code ({ cls := "com/example/skyweave/skyweave/Aggregate", name := "combine", desc := "(DD)D" } : Jvm.MethodName) prog_1_method_7_code (5 : Nat) (Option.some Jvm.ClassFile.FieldType.double)).before args0 about1 = true := code_word (m := ⟨6, 0⟩) (meth := k6m0) (c := k6c0) (by decide +kernel) rfl rfl rfl (by decide +kernel)
set_option maxRecDepth 65536 in
theorem w_c2 : (Jvm.Cond.code ({ cls := "java/lang/Math", name := "min", desc := "(DD)D" } : Jvm.MethodName) jdk_29_method_72_code (4 : Nat) (Option.some Jvm.ClassFile.FieldType.double)).before args0 about1 = true := code_word (m := ⟨7, 2⟩) (meth := k7m2) (c := k7c2) (by decide +kernel) rfl rfl rfl (by decide +kernel)
set_option maxRecDepth 65536 in
theorem w_c3 : (Jvm.Cond.code ({ cls := "java/lang/Math", name := "min", desc := "(II)I" } : Jvm.MethodName) jdk_29_method_69_code (2 : Nat) (Option.some Jvm.ClassFile.FieldType.int)).before args0 about1 = true := code_word (m := ⟨7, 1⟩) (meth := k7m1) (c := k7c1) (by decide +kernel) rfl rfl rfl (by decide +kernel)
def codes1 : List Jvm.Cond := [Jvm.Cond.code x code maxLocals ret, Jvm.Cond.code ({ cls := "com/example/skyweave/skyweave/Aggregate", name := "combine", desc := "(DD)D" } : Jvm.MethodName) prog_1_method_7_code (5 : Nat) (Option.some Jvm.ClassFile.FieldType.double), Jvm.Cond.code ({ cls := "java/lang/Math", name := "min", desc := "(DD)D" } : Jvm.MethodName) jdk_29_method_72_code (4 : Nat) (Option.some Jvm.ClassFile.FieldType.double), Jvm.Cond.code ({ cls := "java/lang/Math", name := "min", desc := "(II)I" } : Jvm.MethodName) jdk_29_method_69_code (2 : Nat) (Option.some Jvm.ClassFile.FieldType.int)]
set_option maxRecDepth 65536 in
theorem codes_eq : words1.filter isCode = codes1 := rfl
theorem w_codes : ∀ c ∈ words1.filter isCode, c.before args0 about1 = true := by
  rw [codes_eq]
  intro c hc
  simp only [codes1, List.mem_cons, List.not_mem_nil, or_false] at hc
  rcases hc with rfl | rfl | rfl | rfl
  · exact w_c0
  · exact w_c1
  · exact w_c2
  · exact w_c3
set_option maxRecDepth 65536 in
theorem w_t1 : words1.all (fun c => isCode c || c.before args0 about1) = true := by decide +kernel
theorem w_tables : (allAtoms (Jvm.Cond.code x code maxLocals ret :: tables_1)).before args0 about1 = true := by
  rw [allAtoms_all]
  show words1.all (fun c => c.before args0 about1) = true
  refine all_split ?_ w_codes
  rw [w_t1]
set_option maxRecDepth 65536 in
theorem w_case : (Jvm.Cond.and given_1 narrow_1).before args0 about1 = true := by decide +kernel
theorem w_applies : (headSpec (Jvm.Cond.code x code maxLocals ret :: tables_1) room_1).applies x e0.platform about1 = true :=
  (Spec.applies_iff w_frames).mpr ⟨w_running, w_runnable, w_alone, w_named, w_hears, w_ripe, w_room, w_tables⟩
theorem atStart : AtStart classFile x code maxLocals ret World_1 tables_1 room_1 Calls_1 rest_1 Pre_1 launch0 p0 e0 about1 theMethod args0 below0 :=
  ⟨lists_1, trivial, launch0.admits_env _ _ _, launch0.least_env, fairChoices_fair.cas, fairChoices_fair.clock, w_frames, w_args, w_heap, w_applies, trivial, trivial, w_case⟩
end start1
theorem witness_1 : WitnessClaimed_1 := ⟨start1.p0, start1.e0, start1.about1, start1.theMethod, start1.args0, start1.below0, start1.atStart⟩
end Jvm.Pilot.@@N@@
