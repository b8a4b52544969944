import JvmDerived
import JvmDerived.Pilot.@@N@@Statement
import JvmDerived.Pilot.@@N@@Code
set_option linter.unusedVariables false
set_option linter.unusedSimpArgs false
namespace Jvm.Pilot.@@N@@
open Jvm Jvm.ClassFile Sem Op Lib Jvm.Free Jvm.Stand Jvm.LawKit Jvm.RoadKit Bundle Jvm.Pilot.@@N@@.Jvm.D
/-! OWN LAYER (the same text in every claim): arrays by a function, and their steps -/
section OwnLayer
variable {p : Program} {l : Launch} {e : Env} {R : Room} {s : State} {m : MethodId} {args : Array Value} {below : List Frame} {meth : Method} {c : Code} {T : State} {locs : List Loc} {cells slots : Nat} {Z : State} {a0 : Array Value} {h h' : Heap} {a b : Addr} {ty : FieldType} {N : Int32} {target : State}
theorem own_retI (X : Stand p l e R s m args below meth c T locs cells slots) (hx : p.tables.exec = Jvm.exec) {pc : Nat} {Ls : Array Slot} {z : Int32} {rest : List Value} (hret : meth.sig.returnType = some .int) (hd : decode c.code pc = .ok (.ireturn, 1)) {fs : List Frame}
    (hl : ∀ (f : JFrame) (acts : List Action), f.method = m → f.locked = none → f.entered = [] → (doReturn e (T.setTop f) acts (some (.int z))).1 = T.setFrames fs) : Steps p.tables e below (T.setTop (mkF m pc Ls (.int z :: rest))) (T.setFrames fs) :=
  retOut X hx hret rfl (Or.inl ⟨rfl, Or.inl rfl, z, rfl⟩) hd hl
theorem own_retJ (X : Stand p l e R s m args below meth c T locs cells slots) (hx : p.tables.exec = Jvm.exec) {pc : Nat} {Ls : Array Slot} {z : Int64} {rest : List Value} (hret : meth.sig.returnType = some .long) (hd : decode c.code pc = .ok (.lreturn, 1)) {fs : List Frame}
    (hl : ∀ (f : JFrame) (acts : List Action), f.method = m → f.locked = none → f.entered = [] → (doReturn e (T.setTop f) acts (some (.long z))).1 = T.setFrames fs) : Steps p.tables e below (T.setTop (mkF m pc Ls (.long z :: rest))) (T.setFrames fs) :=
  retOut X hx hret rfl (Or.inr (Or.inl ⟨rfl, rfl, z, rfl⟩)) hd hl
/-- the written places by a name -/
theorem own_gen {n0 : Nat} (X : Stand p l e R s m args below meth c T locs cells slots) (N : Fr n0 locs) : ∃ L, Stand p l e R s m args below meth c T L cells slots ∧ Fr n0 L := ⟨_, X, N⟩
/-- f with v at the place i -/
def own_up {α : Type} (f : Nat → α) (i : Nat) (v : α) : Nat → α := fun j => if j = i then v else f j
theorem own_up_at {α : Type} (f : Nat → α) (i : Nat) (v : α) : own_up f i v i = v := if_pos rfl
theorem own_up_ne {α : Type} (f : Nat → α) {i j : Nat} (v : α) (q : j ≠ i) : own_up f i v j = f j := if_neg q
/-- an array of N places whose place j holds the int f j -/
def own_AI (Z : State) (h : Heap) (a : Addr) (ty : FieldType) (N : Int32) (f : Nat → Int32) : Prop := ∃ c : Cell, Arr Z h a c ty ∧ c.slots.size = N.toNatClampNeg ∧ ¬ N < 0 ∧ ∀ j, j < N.toNatClampNeg → c.slots[j]? = some (.int (f j))
/-- an array of N places whose place j holds the long f j -/
def own_AJ (Z : State) (h : Heap) (a : Addr) (N : Int32) (f : Nat → Int64) : Prop := ∃ c : Cell, Arr Z h a c .long ∧ c.slots.size = N.toNatClampNeg ∧ ¬ N < 0 ∧ ∀ j, j < N.toNatClampNeg → c.slots[j]? = some (.long (f j))
variable {f : Nat → Int32} {fJ : Nat → Int64}
theorem own_AI.lt (A : own_AI Z h a ty N f) : a < h.size := by obtain ⟨c, A, -⟩ := A; exact A.lt
theorem own_AJ.lt (A : own_AJ Z h a N fJ) : a < h.size := by obtain ⟨c, A, -⟩ := A; exact A.lt
theorem own_AI.ext (A : own_AI Z h a ty N f) (E : Ext h h') : own_AI Z h' a ty N f := by obtain ⟨c, A, r⟩ := A; exact ⟨c, A.ext E, r⟩
theorem own_AJ.ext (A : own_AJ Z h a N fJ) (E : Ext h h') : own_AJ Z h' a N fJ := by obtain ⟨c, A, r⟩ := A; exact ⟨c, A.ext E, r⟩
theorem own_AI.other {sl : Nat} {v : Value} (A : own_AI Z h a ty N f) (W : Wr h h' b sl v) (q : a ≠ b) : own_AI Z h' a ty N f := by obtain ⟨c, A, r⟩ := A; exact ⟨c, A.other W q, r⟩
theorem own_AJ.other {sl : Nat} {v : Value} (A : own_AJ Z h a N fJ) (W : Wr h h' b sl v) (q : a ≠ b) : own_AJ Z h' a N fJ := by obtain ⟨c, A, r⟩ := A; exact ⟨c, A.other W q, r⟩
theorem own_AI.keep {ws : List Addr} (A : own_AI Z h a ty N f) (K : Keep h h' ws) (q : a ∉ ws) : own_AI Z h' a ty N f := by obtain ⟨c, A, r⟩ := A; exact ⟨c, ⟨K.2.1 a c A.1 q, A.2⟩, r⟩
theorem own_AJ.keep {ws : List Addr} (A : own_AJ Z h a N fJ) (K : Keep h h' ws) (q : a ∉ ws) : own_AJ Z h' a N fJ := by obtain ⟨c, A, r⟩ := A; exact ⟨c, ⟨K.2.1 a c A.1 q, A.2⟩, r⟩
theorem own_slots (c : Cell) (i j : Nat) (v : Value) (hj : j < c.slots.size) : (c.setSlot i v).slots[j]? = if j = i then some v else c.slots[j]? := by
  show (c.slots.setIfInBounds i v)[j]? = _
  rw [Array.getElem?_setIfInBounds]
  by_cases q : i = j
  · subst q; simp [hj]
  · simp [q, Ne.symm q]
theorem own_AI.set {i : Nat} {v : Int32} (A : own_AI Z h a ty N f) (W : Wr h h' a i (.int v)) : own_AI Z h' a ty N (own_up f i v) := by
  obtain ⟨c, A, S, M, H⟩ := A
  refine ⟨_, A.same W, by rw [sz_set, S], M, fun j hj => ?_⟩
  rw [own_slots c i j _ (by rw [S]; exact hj)]
  by_cases q : j = i
  · rw [if_pos q, q, own_up_at]
  · rw [if_neg q, own_up_ne _ _ q, H j hj]
theorem own_AJ.set {i : Nat} {v : Int64} (A : own_AJ Z h a N fJ) (W : Wr h h' a i (.long v)) : own_AJ Z h' a N (own_up fJ i v) := by
  obtain ⟨c, A, S, M, H⟩ := A
  refine ⟨_, A.same W, by rw [sz_set, S], M, fun j hj => ?_⟩
  rw [own_slots c i j _ (by rw [S]; exact hj)]
  by_cases q : j = i
  · rw [if_pos q, q, own_up_at]
  · rw [if_neg q, own_up_ne _ _ q, H j hj]
theorem own_AI.fresh {k : ClassId} (A : Arr Z h a (newA k ty N) ty) (hd : defaultValue ty = .int 0) (M : ¬ N < 0) : own_AI Z h a ty N (fun _ => 0) := by
  refine ⟨_, A, sz_new _ _ _, M, fun j hj => ?_⟩
  show (Array.replicate N.toNatClampNeg (defaultValue ty))[j]? = _
  rw [Array.getElem?_replicate, if_pos hj, hd]
theorem own_AJ.fresh {k : ClassId} (A : Arr Z h a (newA k .long N) .long) (M : ¬ N < 0) : own_AJ Z h a N (fun _ => 0) := by
  refine ⟨_, A, sz_new _ _ _, M, fun j hj => ?_⟩
  show (Array.replicate N.toNatClampNeg (defaultValue .long))[j]? = _
  rw [Array.getElem?_replicate, if_pos hj]; rfl
theorem own_AI.congr {f' : Nat → Int32} (A : own_AI Z h a ty N f) (q : ∀ j, j < N.toNatClampNeg → f j = f' j) : own_AI Z h a ty N f' := by
  obtain ⟨c, A, S, M, H⟩ := A
  exact ⟨c, A, S, M, fun j hj => by rw [H j hj, q j hj]⟩
theorem own_AJ.congr {f' : Nat → Int64} (A : own_AJ Z h a N fJ) (q : ∀ j, j < N.toNatClampNeg → fJ j = f' j) : own_AJ Z h a N f' := by
  obtain ⟨c, A, S, M, H⟩ := A
  exact ⟨c, A, S, M, fun j hj => by rw [H j hj, q j hj]⟩
theorem own_lt_nat {j : Int32} (q : ¬ j < 0 ∧ j < N) : j.toNatClampNeg < N.toNatClampNeg := by
  have h1 := nat_of q.1
  have h2 : ¬ N < 0 := by
    intro u; have := q.1; have := q.2
    rw [Int32.lt_iff_toInt_lt] at *; omega
  have h3 := nat_of h2
  have := q.2
  rw [Int32.lt_iff_toInt_lt] at this
  omega
/-- a place in the array, by its number -/
theorem own_ix {j : Int32} (h0 : 0 ≤ j.toInt) (h1 : j.toInt < N.toInt) : ¬ j < 0 ∧ j < N := by
  rw [Int32.lt_iff_toInt_lt, Int32.lt_iff_toInt_lt]
  exact ⟨by show ¬ j.toInt < 0; omega, h1⟩
theorem own_len (X : Stand p l e R s m args below meth c T locs cells slots) (hx : p.tables.exec = Jvm.exec) (hZ : Z.Warmed39 s.vm) (eT : T.heap = h) (A : own_AI Z h a ty N f) {g : JFrame} (hg : g.method = m) {rest : List Value} (hs : g.stack = .ref a :: rest) (hd : decode c.code g.pc = .ok (.arraylength, 1))
    (hr : Steps p.tables e below (T.setTop { g with pc := g.pc + 1, stack := .int N :: rest }) target) : Steps p.tables e below (T.setTop g) target := by
  obtain ⟨cl, A, S, M, -⟩ := A
  refine X.arraylength hx (cell := cl) (by rw [eT]; exact A.1) (State.isArrayOf_alike hZ.alike A.2.1) hg hs hd _ ?_
  rw [len_of S M]; exact hr
theorem own_lenJ (X : Stand p l e R s m args below meth c T locs cells slots) (hx : p.tables.exec = Jvm.exec) (hZ : Z.Warmed39 s.vm) (eT : T.heap = h) (A : own_AJ Z h a N fJ) {g : JFrame} (hg : g.method = m) {rest : List Value} (hs : g.stack = .ref a :: rest) (hd : decode c.code g.pc = .ok (.arraylength, 1))
    (hr : Steps p.tables e below (T.setTop { g with pc := g.pc + 1, stack := .int N :: rest }) target) : Steps p.tables e below (T.setTop g) target := by
  obtain ⟨cl, A, S, M, -⟩ := A
  refine X.arraylength hx (cell := cl) (by rw [eT]; exact A.1) (State.isArrayOf_alike hZ.alike A.2.1) hg hs hd _ ?_
  rw [len_of S M]; exact hr
theorem own_ldI (X : Stand p l e R s m args below meth c T locs cells slots) (hx : p.tables.exec = Jvm.exec) (hZ : Z.Warmed39 s.vm) (eT : T.heap = h) (A : own_AI Z h a .int N f) {j : Int32} (q : ¬ j < 0 ∧ j < N) {g : JFrame} (hg : g.method = m) {rest : List Value} (hs : g.stack = .int j :: .ref a :: rest) (hd : decode c.code g.pc = .ok (.iaload, 1))
    (hr : Steps p.tables e below (T.setTop { g with pc := g.pc + 1, stack := .int (f j.toNatClampNeg) :: rest }) target) : Steps p.tables e below (T.setTop g) target := by
  obtain ⟨cl, A, S, M, H⟩ := A
  exact X.iaload hx (j := j) (by rw [eT]; exact A.1) (State.isArrayOf_alike hZ.alike A.2.1) A.2.2 (inb_of S q) (H _ (own_lt_nat q)) hg hs hd _ hr
theorem own_ldB (X : Stand p l e R s m args below meth c T locs cells slots) (hx : p.tables.exec = Jvm.exec) (hZ : Z.Warmed39 s.vm) (eT : T.heap = h) (A : own_AI Z h a .byte N f) {j : Int32} (q : ¬ j < 0 ∧ j < N) {g : JFrame} (hg : g.method = m) {rest : List Value} (hs : g.stack = .int j :: .ref a :: rest) (hd : decode c.code g.pc = .ok (.baload, 1))
    (hr : Steps p.tables e below (T.setTop { g with pc := g.pc + 1, stack := .int (f j.toNatClampNeg) :: rest }) target) : Steps p.tables e below (T.setTop g) target := by
  obtain ⟨cl, A, S, M, H⟩ := A
  exact X.baloadBytes hx (j := j) (by rw [eT]; exact A.1) (State.isArrayOf_alike hZ.alike A.2.1) A.2.2 (inb_of S q) (H _ (own_lt_nat q)) hg hs hd _ hr
theorem own_ldJ (X : Stand p l e R s m args below meth c T locs cells slots) (hx : p.tables.exec = Jvm.exec) (hZ : Z.Warmed39 s.vm) (eT : T.heap = h) (A : own_AJ Z h a N fJ) {j : Int32} (q : ¬ j < 0 ∧ j < N) {g : JFrame} (hg : g.method = m) {rest : List Value} (hs : g.stack = .int j :: .ref a :: rest) (hd : decode c.code g.pc = .ok (.laload, 1))
    (hr : Steps p.tables e below (T.setTop { g with pc := g.pc + 1, stack := .long (fJ j.toNatClampNeg) :: rest }) target) : Steps p.tables e below (T.setTop g) target := by
  obtain ⟨cl, A, S, M, H⟩ := A
  exact X.laload hx (j := j) (by rw [eT]; exact A.1) (State.isArrayOf_alike hZ.alike A.2.1) A.2.2 (inb_of S q) (H _ (own_lt_nat q)) hg hs hd _ hr
theorem own_stI (X : Stand p l e R s m args below meth c T locs cells slots) (hx : p.tables.exec = Jvm.exec) (hZ : Z.Warmed39 s.vm) (eT : T.heap = h) (A : own_AI Z h a .int N f) {j x : Int32} (q : ¬ j < 0 ∧ j < N) {g : JFrame} (hg : g.method = m) {rest : List Value} (hs : g.stack = .int x :: .int j :: .ref a :: rest) (hd : decode c.code g.pc = .ok (.iastore, 1)) :
    ∃ T' h', Stand p l e R s m args below meth c T' (locs ++ [⟨a, j.toNatClampNeg⟩]) cells slots ∧ T'.heap = h' ∧ Wr h h' a j.toNatClampNeg (.int x) ∧ own_AI Z h' a .int N (own_up f j.toNatClampNeg x) ∧ ∀ target, Steps p.tables e below (T'.setTop { g with pc := g.pc + 1, stack := rest }) target → Steps p.tables e below (T.setTop g) target := by
  have A' := A
  obtain ⟨cl, A, S, M, H⟩ := A
  obtain ⟨T', h', X', e', W', st⟩ := stI X hx hZ eT A (j := j) (inb_of S q) hg hs hd
  exact ⟨T', h', X', e', W', A'.set W', st⟩
theorem own_stB (X : Stand p l e R s m args below meth c T locs cells slots) (hx : p.tables.exec = Jvm.exec) (hZ : Z.Warmed39 s.vm) (eT : T.heap = h) (A : own_AI Z h a .byte N f) {j x : Int32} (q : ¬ j < 0 ∧ j < N) {g : JFrame} (hg : g.method = m) {rest : List Value} (hs : g.stack = .int x :: .int j :: .ref a :: rest) (hd : decode c.code g.pc = .ok (.bastore, 1)) :
    ∃ T' h', Stand p l e R s m args below meth c T' (locs ++ [⟨a, j.toNatClampNeg⟩]) cells slots ∧ T'.heap = h' ∧ Wr h h' a j.toNatClampNeg (.int x.toInt8.toInt32) ∧ own_AI Z h' a .byte N (own_up f j.toNatClampNeg x.toInt8.toInt32) ∧ ∀ target, Steps p.tables e below (T'.setTop { g with pc := g.pc + 1, stack := rest }) target → Steps p.tables e below (T.setTop g) target := by
  have A' := A
  obtain ⟨cl, A, S, M, H⟩ := A
  obtain ⟨T', h', X', e', W', st⟩ := stB X hx hZ eT A (j := j) (inb_of S q) hg hs hd
  exact ⟨T', h', X', e', W', A'.set W', st⟩
theorem own_stJ (X : Stand p l e R s m args below meth c T locs cells slots) (hx : p.tables.exec = Jvm.exec) (hZ : Z.Warmed39 s.vm) (eT : T.heap = h) (A : own_AJ Z h a N fJ) {j : Int32} {x : Int64} (q : ¬ j < 0 ∧ j < N) {g : JFrame} (hg : g.method = m) {rest : List Value} (hs : g.stack = .long x :: .int j :: .ref a :: rest) (hd : decode c.code g.pc = .ok (.lastore, 1)) :
    ∃ T' h', Stand p l e R s m args below meth c T' (locs ++ [⟨a, j.toNatClampNeg⟩]) cells slots ∧ T'.heap = h' ∧ Wr h h' a j.toNatClampNeg (.long x) ∧ own_AJ Z h' a N (own_up fJ j.toNatClampNeg x) ∧ ∀ target, Steps p.tables e below (T'.setTop { g with pc := g.pc + 1, stack := rest }) target → Steps p.tables e below (T.setTop g) target := by
  have A' := A
  obtain ⟨cl, A, S, M, H⟩ := A
  obtain ⟨T', h', X', e', W', st⟩ := stJ X hx hZ eT A (j := j) (inb_of S q) hg hs hd
  exact ⟨T', h', X', e', W', A'.set W', st⟩
theorem own_newI (X : Stand p l e R s m args below meth c T locs cells slots) (hx : p.tables.exec = Jvm.exec) (hZ : Z.Warmed39 s.vm) {aty : ArrayType} (w : (Cond.arrayClass (newarray.typeOf aty)).before a0 Z = true) (hdv : defaultValue (newarray.typeOf aty) = .int 0) (eT : T.heap = h) {g : JFrame} (hg : g.method = m) (hd : decode c.code g.pc = .ok (.newarray aty, 2)) {n : Int32} {rest : List Value} (hs : g.stack = .int n :: rest)
    (hn : ¬ n < 0) {cap : Nat} (hcap : n.toNatClampNeg ≤ cap) (hb : cap * 8 ≤ 536870912) (hc : cells + 1 ≤ R.cells) (hl : slots + cap ≤ R.slots) :
    ∃ T' h', Stand p l e R s m args below meth c T' locs (cells + 1) (slots + cap) ∧ T'.heap = h' ∧ Ext h h' ∧ own_AI Z h' h.size (newarray.typeOf aty) n (fun _ => 0) ∧ ∀ target, Steps p.tables e below (T'.setTop { g with pc := g.pc + 2, stack := .ref h.size :: rest }) target → Steps p.tables e below (T.setTop g) target := by
  obtain ⟨T', h', k, X', e', E', A', st⟩ := newP X hx hZ w eT hg hd hs hn hcap hb hc hl
  exact ⟨T', h', X', e', E', own_AI.fresh A' hdv hn, st⟩
theorem own_newJ (X : Stand p l e R s m args below meth c T locs cells slots) (hx : p.tables.exec = Jvm.exec) (hZ : Z.Warmed39 s.vm) (w : (Cond.arrayClass .long).before a0 Z = true) (eT : T.heap = h) {g : JFrame} (hg : g.method = m) (hd : decode c.code g.pc = .ok (.newarray .long, 2)) {n : Int32} {rest : List Value} (hs : g.stack = .int n :: rest)
    (hn : ¬ n < 0) {cap : Nat} (hcap : n.toNatClampNeg ≤ cap) (hb : cap * 8 ≤ 536870912) (hc : cells + 1 ≤ R.cells) (hl : slots + cap ≤ R.slots) :
    ∃ T' h', Stand p l e R s m args below meth c T' locs (cells + 1) (slots + cap) ∧ T'.heap = h' ∧ Ext h h' ∧ own_AJ Z h' h.size n (fun _ => 0) ∧ ∀ target, Steps p.tables e below (T'.setTop { g with pc := g.pc + 2, stack := .ref h.size :: rest }) target → Steps p.tables e below (T.setTop g) target := by
  obtain ⟨T', h', k, X', e', E', A', st⟩ := newP (aty := .long) X hx hZ w eT hg hd hs hn hcap hb hc hl
  exact ⟨T', h', X', e', E', own_AJ.fresh A' hn, st⟩
theorem own_ne_obj {C : String} {k : Nat} (F : Exa Z h a C) (wi : (Cond.instantiable C k).before a0 Z = true) (A : own_AI Z h b ty N f) : a ≠ b := by obtain ⟨c, A, -⟩ := A; exact ne_arr F wi A
theorem own_ne_objJ {C : String} {k : Nat} (F : Exa Z h a C) (wi : (Cond.instantiable C k).before a0 Z = true) (A : own_AJ Z h b N fJ) : a ≠ b := by obtain ⟨c, A, -⟩ := A; exact ne_arr F wi A
theorem own_selp {s : State} {b0 args : Array Value} {y : MethodName} {n : Nat} (wi : (Cond.instantiable y.cls n).before b0 s = true) (hp : s.PrivateAt y) (hi : (Cond.instanceMethod y).before b0 s = true) (hy : y.cls ≠ "java/lang/invoke/MethodHandle" ∧ y.cls ≠ "java/lang/invoke/VarHandle") : (Cond.selects y.cls y y).before args s = true := by
  obtain ⟨c, k, hc, hk, -, hab, -, -⟩ := Cond.instantiable_spec wi
  have hni : k.isInterface = false := by
    cases q : k.isInterface with
    | false => rfl
    | true => rw [q] at hab; simp at hab
  have r := selects_self_of_private (args := b0) hc hk hni hp hi hy
  exact r
end OwnLayer
/-! OWN LAYER: machine numbers as integers -/
section OwnNums
variable {x y : Int32} {u v : Int64} {a b : Int}
theorem own_i_add (hx : x.toInt = a) (hy : y.toInt = b) (h : -2147483648 ≤ a + b ∧ a + b < 2147483648) : (x + y).toInt = a + b := by
  rw [Jvm.Free.XT.add32 (by rw [hx, hy]; exact h), hx, hy]
theorem own_i_sub (hx : x.toInt = a) (hy : y.toInt = b) (h : -2147483648 ≤ a - b ∧ a - b < 2147483648) : (x - y).toInt = a - b := by
  rw [Jvm.Free.XT.sub32 (by rw [hx, hy]; exact h), hx, hy]
theorem own_i_mul (hx : x.toInt = a) (hy : y.toInt = b) (h : -2147483648 ≤ a * b ∧ a * b < 2147483648) : (x * y).toInt = a * b := by
  rw [Jvm.Free.XT.mul32 (by rw [hx, hy]; exact h), hx, hy]
theorem own_i_div (hx : x.toInt = a) (hy : y.toInt = b) (h : 0 ≤ a ∧ 0 < b) : (x / y).toInt = a / b := by
  rw [(c_idiv x y b hy (fun q => by rw [q] at hy; have : (-1 : Int32).toInt = -1 := rfl; omega)).1 (by omega), hx]
theorem own_i_mod (hx : x.toInt = a) (hy : y.toInt = b) (h : 0 ≤ a ∧ 0 < b) : (x % y).toInt = a % b := by
  rw [(c_irem x y b hy).1 (by omega), hx]
theorem own_l_add (hu : u.toInt = a) (hv : v.toInt = b) (h : -9223372036854775808 ≤ a + b ∧ a + b < 9223372036854775808) : (u + v).toInt = a + b := by
  rw [Jvm.Free.XT.add64 (by rw [hu, hv]; exact h), hu, hv]
theorem own_l_sub (hu : u.toInt = a) (hv : v.toInt = b) (h : -9223372036854775808 ≤ a - b ∧ a - b < 9223372036854775808) : (u - v).toInt = a - b := by
  rw [Jvm.Free.XT.sub64 (by rw [hu, hv]; exact h), hu, hv]
theorem own_l_mul (hu : u.toInt = a) (hv : v.toInt = b) (h : -9223372036854775808 ≤ a * b ∧ a * b < 9223372036854775808) : (u * v).toInt = a * b := by
  rw [Jvm.Free.XT.mul64 (by rw [hu, hv]; exact h), hu, hv]
theorem own_l_div (hu : u.toInt = a) (hv : v.toInt = b) (h : 0 ≤ a ∧ 0 < b) : (u / v).toInt = a / b := by
  rw [(c_ldiv u v b hv (fun q => by rw [q] at hv; have : (-1 : Int64).toInt = -1 := rfl; omega)).1 (by omega), hu]
theorem own_l_divN (hu : u.toInt = a) (hv : v.toInt = b) (h : a < 0 ∧ 0 < b) : (u / v).toInt = -((-a) / b) := by
  rw [(c_ldiv u v b hv (fun q => by rw [q] at hv; have : (-1 : Int64).toInt = -1 := rfl; omega)).2 (by omega), hu]
theorem own_i2l (hx : x.toInt = a) : (x.toInt64).toInt = a := by rw [c_i2l, hx]
theorem own_l2i (hu : u.toInt = a) (h : -2147483648 ≤ a ∧ a < 2147483648) : (u.toInt32).toInt = a := by
  have h1 := c_l2i u; have h2 := rng32 u.toInt32; omega
theorem own_i_mask (m : Int32) (k : Nat) (hk : k ≤ 31) (hm : m.toBitVec.toNat = 2 ^ k - 1) (hx : x.toInt = a) : (x &&& m).toInt = a % (2 ^ k : Nat) := by rw [c_mask x m k hk hm, hx]
theorem own_i_lt (hx : x.toInt = a) (hy : y.toInt = b) : x < y ↔ a < b := by rw [Int32.lt_iff_toInt_lt, hx, hy]
theorem own_l_lt (hu : u.toInt = a) (hv : v.toInt = b) : u < v ↔ a < b := by rw [Int64.lt_iff_toInt_lt, hu, hv]
theorem own_i_eq (hx : x.toInt = a) (hy : y.toInt = b) : x = y ↔ a = b := by rw [← Int32.toInt_inj, hx, hy]
theorem own_l_eq (hu : u.toInt = a) (hv : v.toInt = b) : u = v ↔ a = b := by rw [← Int64.toInt_inj, hu, hv]
theorem own_i_nat (hx : x.toInt = a) (h : 0 ≤ a) : x.toNatClampNeg = a.toNat := by show x.toInt.toNat = a.toNat; rw [hx]
theorem own_i_of (h : x.toInt = y.toInt) : x = y := Int32.toInt_inj.mp h
theorem own_l_of (h : u.toInt = v.toInt) : u = v := Int64.toInt_inj.mp h
end OwnNums
theorem d4_0 : decode method_6_code 0 = .ok (.iload_n 0, 1) := by decide +kernel
theorem d4_1 : decode method_6_code 1 = .ok (.ifCond .ne 6, 3) := by decide +kernel
theorem d4_4 : decode method_6_code 4 = .ok (.bipush 48, 2) := by decide +kernel
theorem d4_6 : decode method_6_code 6 = .ok (.ireturn, 1) := by decide +kernel
theorem d4_7 : decode method_6_code 7 = .ok (.iload_n 0, 1) := by decide +kernel
theorem d4_8 : decode method_6_code 8 = .ok (.iconst 1, 1) := by decide +kernel
theorem d4_9 : decode method_6_code 9 = .ok (.if_icmp .ne 6, 3) := by decide +kernel
theorem d4_12 : decode method_6_code 12 = .ok (.bipush 52, 2) := by decide +kernel
theorem d4_14 : decode method_6_code 14 = .ok (.ireturn, 1) := by decide +kernel
theorem d4_15 : decode method_6_code 15 = .ok (.iload_n 0, 1) := by decide +kernel
theorem d4_16 : decode method_6_code 16 = .ok (.iconst 2, 1) := by decide +kernel
theorem d4_17 : decode method_6_code 17 = .ok (.if_icmp .ne 6, 3) := by decide +kernel
theorem d4_20 : decode method_6_code 20 = .ok (.bipush 57, 2) := by decide +kernel
theorem d4_22 : decode method_6_code 22 = .ok (.ireturn, 1) := by decide +kernel
theorem d4_23 : decode method_6_code 23 = .ok (.iload_n 0, 1) := by decide +kernel
theorem d4_24 : decode method_6_code 24 = .ok (.iconst 3, 1) := by decide +kernel
theorem d4_25 : decode method_6_code 25 = .ok (.if_icmp .ne 15, 3) := by decide +kernel
theorem d4_28 : decode method_6_code 28 = .ok (.iload_n 1, 1) := by decide +kernel
theorem d4_29 : decode method_6_code 29 = .ok (.ifCond .eq 8, 3) := by decide +kernel
theorem d4_32 : decode method_6_code 32 = .ok (.bipush 56, 2) := by decide +kernel
theorem d4_34 : decode method_6_code 34 = .ok (.goto 5, 3) := by decide +kernel
theorem d4_37 : decode method_6_code 37 = .ok (.bipush 45, 2) := by decide +kernel
theorem d4_39 : decode method_6_code 39 = .ok (.ireturn, 1) := by decide +kernel
theorem d4_40 : decode method_6_code 40 = .ok (.iload_n 0, 1) := by decide +kernel
theorem d4_41 : decode method_6_code 41 = .ok (.iconst 4, 1) := by decide +kernel
theorem d4_42 : decode method_6_code 42 = .ok (.if_icmp .ne 6, 3) := by decide +kernel
theorem d4_45 : decode method_6_code 45 = .ok (.bipush 97, 2) := by decide +kernel
theorem d4_47 : decode method_6_code 47 = .ok (.ireturn, 1) := by decide +kernel
theorem d4_48 : decode method_6_code 48 = .ok (.iload_n 0, 1) := by decide +kernel
theorem d4_49 : decode method_6_code 49 = .ok (.iconst 5, 1) := by decide +kernel
theorem d4_50 : decode method_6_code 50 = .ok (.if_icmp .ne 6, 3) := by decide +kernel
theorem d4_53 : decode method_6_code 53 = .ok (.bipush 32, 2) := by decide +kernel
theorem d4_55 : decode method_6_code 55 = .ok (.ireturn, 1) := by decide +kernel
theorem d4_56 : decode method_6_code 56 = .ok (.iload_n 0, 1) := by decide +kernel
theorem d4_57 : decode method_6_code 57 = .ok (.bipush 6, 2) := by decide +kernel
theorem d4_59 : decode method_6_code 59 = .ok (.if_icmp .ne 6, 3) := by decide +kernel
theorem d4_62 : decode method_6_code 62 = .ok (.bipush 43, 2) := by decide +kernel
theorem d4_64 : decode method_6_code 64 = .ok (.ireturn, 1) := by decide +kernel
theorem d4_65 : decode method_6_code 65 = .ok (.bipush (-128), 2) := by decide +kernel
theorem d4_67 : decode method_6_code 67 = .ok (.ireturn, 1) := by decide +kernel
theorem pn_4 : plainName "com/example/vestwright/vestwright/model/GroupedDecimalUngroupPinLaw" = true := by first | (simp [plainName, overriddenIn]; done) | decide +kernel
theorem ef_4 (m : MethodId) (x0 : Int32) (x1 : Int32) : entryFrame m #[(.int x0), (.int x1)] 2 = mkF m 0 #[.val (.int x0), .val (.int x1)] [] := by first | (simp [entryFrame, mkF, argsToLocals, Value.category]; done) | rfl
def own_wb (p0 : Int32) (p1 : Int32) : Int32 := (if p0 = (0 : Int32) then (48 : Int32) else (if p0 = (1 : Int32) then (52 : Int32) else (if p0 = (2 : Int32) then (57 : Int32) else (if p0 = (3 : Int32) then (if p1 = (0 : Int32) then (45 : Int32) else (56 : Int32)) else (if p0 = (4 : Int32) then (97 : Int32) else (if p0 = (5 : Int32) then (32 : Int32) else (if p0 = (6 : Int32) then (43 : Int32) else (-128 : Int32))))))))
def Q1 (Z : State) (p0 : Int32) (p1 : Int32) (h0 : Heap) (n0 : Nat) (v : Option Value) (h : Heap) (L : List Loc) : Prop := v = some (.int (own_wb p0 p1)) ∧ Fr n0 L ∧ h = h0
set_option maxRecDepth 65536 in
set_option maxHeartbeats 40000000 in
theorem rm1 (l : Launch) (Z : State) (a0 : Array Value) (hw : ∀ d ∈ tables_1, d.before a0 Z = true) (ws : List Jvm.Cond) (p0 : Int32) (p1 : Int32) (h0 : Heap) (n0 : Nat) (Z0 : n0 ≤ h0.size)  :
    MetFree l (⟨"com/example/vestwright/vestwright/model/GroupedDecimalUngroupPinLaw", "wholeByte", "(IZ)B"⟩ : MethodName) (head1 (Jvm.Cond.code (⟨"com/example/vestwright/vestwright/model/GroupedDecimalUngroupPinLaw", "wholeByte", "(IZ)B"⟩ : MethodName) method_6_code 2 (some .byte) :: ws) ({ frames := 0, cells := 0, slots := 0, locals := 0 } : Room)) (fun a_ U_ => a_ = #[(.int p0), (.int p1)] ∧ Z.Warmed39 U_.vm ∧ U_.heap = h0) (fun _ _ _ _ _ => True) (fun _ U_ o_ U' => ∃ v_ L_, o_ = .returned v_ ∧ (Q1 Z p0 p1 h0 n0 v_ U'.heap L_) ∧ FrameEnd U_ o_ U' L_ ({ frames := 0, cells := 0, slots := 0, locals := 0 } : Room).cells ({ frames := 0, cells := 0, slots := 0, locals := 0 } : Room).slots) := by
  refine MetFree.of_bodySF (plainFor_of_name pn_4) hisR ?_
  intro p e s m args below meth c s₁ Bd hml0 hP hK
  obtain ⟨rfl, hZ, hh⟩ := hP
  have hx := Bd.exec
  have hby := Bd.bytes
  have hml : c.maxLocals = 2 := hml0
  have hown : s.vm.findClass "com/example/vestwright/vestwright/model/GroupedDecimalUngroupPinLaw" = some m.cls := findClass_of_methodNamed Bd.named
  have hnm := (name_of_methodNamed Bd.named Bd.method).1
  have X0 : Stand p l e ({ frames := 0, cells := 0, slots := 0, locals := 0 } : Room) s m #[(.int p0), (.int p1)] below meth c s₁ [] 0 0 := Stand.of_body Bd
  have e0 : s₁.heap = h0 := by rw [← hh, Bd.state]; rfl
  have N0 := Fr.nil n0
  have pre0 : ∀ t, Steps p.tables e below (s₁.setTop (mkF m 0 #[.val (.int p0), .val (.int p1)] [])) t → Steps p.tables e below (s₁.setTop (entryFrame m #[(.int p0), (.int p1)] 2)) t := fun t k => castTop (ef_4 m p0 p1) k
  obtain ⟨fs, hr, hrun, hended, hW, hsame⟩ := X0.leave (v := some (.int (own_wb p0 p1))) (fun h => by rw [Bd.returns] at h; cases h)
  refine ⟨_, _, pre0 _ ?_, hrun, hended, _, _, rfl, ⟨rfl, N0, e0⟩, ⟨_, rfl⟩, hW, hsame.mono (by decide) (by decide)⟩
  show Steps p.tables e below (s₁.setTop (mkF m 0 #[.val (.int p0), .val (.int p1)] [])) _
  refine XS.iloadN X0.here hx rfl (hb hby d4_0) rfl ?_
  show Steps p.tables e below (s₁.setTop (mkF m 1 #[.val (.int p0), .val (.int p1)] [(.int p0)])) _
  by_cases hc1 : p0 = (0 : Int32)
  · refine XS.ifNo X0.here hx rfl (hb hby d4_1) rfl ((if0 _ _).trans (teq hc1).2) ?_
    show Steps p.tables e below (s₁.setTop (mkF m 4 #[.val (.int p0), .val (.int p1)] [])) _
    refine XS.bipush X0.here hx rfl (hb hby d4_4) ?_
    show Steps p.tables e below (s₁.setTop (mkF m 6 #[.val (.int p0), .val (.int p1)] [(.int (48 : Int32))])) _
    rw [show (own_wb p0 p1) = (48 : Int32) from by unfold own_wb; rw [if_pos hc1]] at hr
    exact retN X0 hx (t := .byte) Bd.returns (by simp) (hb hby d4_6) hr
  · refine XS.ifYes X0.here hx rfl (pc0 := 1) (pc' := 7) rfl (hb hby d4_1) rfl ((if0 _ _).trans (feq hc1).2) (by decide) (by decide) ?_
    show Steps p.tables e below (s₁.setTop (mkF m 7 #[.val (.int p0), .val (.int p1)] [])) _
    refine XS.iloadN X0.here hx rfl (hb hby d4_7) rfl ?_
    show Steps p.tables e below (s₁.setTop (mkF m 8 #[.val (.int p0), .val (.int p1)] [(.int p0)])) _
    refine XS.iconst X0.here hx rfl (hb hby d4_8) ?_
    show Steps p.tables e below (s₁.setTop (mkF m 9 #[.val (.int p0), .val (.int p1)] [(.int (1 : Int32)), (.int p0)])) _
    by_cases hc9 : p0 = (1 : Int32)
    · refine XS.icmpNo X0.here hx rfl (hb hby d4_9) rfl (teq hc9).2 ?_
      show Steps p.tables e below (s₁.setTop (mkF m 12 #[.val (.int p0), .val (.int p1)] [])) _
      refine XS.bipush X0.here hx rfl (hb hby d4_12) ?_
      show Steps p.tables e below (s₁.setTop (mkF m 14 #[.val (.int p0), .val (.int p1)] [(.int (52 : Int32))])) _
      rw [show (own_wb p0 p1) = (52 : Int32) from by unfold own_wb; rw [if_neg hc1, if_pos hc9]] at hr
      exact retN X0 hx (t := .byte) Bd.returns (by simp) (hb hby d4_14) hr
    · refine XS.icmpYes X0.here hx rfl (pc0 := 9) (pc' := 15) rfl (hb hby d4_9) rfl (feq hc9).2 (by decide) (by decide) ?_
      show Steps p.tables e below (s₁.setTop (mkF m 15 #[.val (.int p0), .val (.int p1)] [])) _
      refine XS.iloadN X0.here hx rfl (hb hby d4_15) rfl ?_
      show Steps p.tables e below (s₁.setTop (mkF m 16 #[.val (.int p0), .val (.int p1)] [(.int p0)])) _
      refine XS.iconst X0.here hx rfl (hb hby d4_16) ?_
      show Steps p.tables e below (s₁.setTop (mkF m 17 #[.val (.int p0), .val (.int p1)] [(.int (2 : Int32)), (.int p0)])) _
      by_cases hc17 : p0 = (2 : Int32)
      · refine XS.icmpNo X0.here hx rfl (hb hby d4_17) rfl (teq hc17).2 ?_
        show Steps p.tables e below (s₁.setTop (mkF m 20 #[.val (.int p0), .val (.int p1)] [])) _
        refine XS.bipush X0.here hx rfl (hb hby d4_20) ?_
        show Steps p.tables e below (s₁.setTop (mkF m 22 #[.val (.int p0), .val (.int p1)] [(.int (57 : Int32))])) _
        rw [show (own_wb p0 p1) = (57 : Int32) from by unfold own_wb; rw [if_neg hc1, if_neg hc9, if_pos hc17]] at hr
        exact retN X0 hx (t := .byte) Bd.returns (by simp) (hb hby d4_22) hr
      · refine XS.icmpYes X0.here hx rfl (pc0 := 17) (pc' := 23) rfl (hb hby d4_17) rfl (feq hc17).2 (by decide) (by decide) ?_
        show Steps p.tables e below (s₁.setTop (mkF m 23 #[.val (.int p0), .val (.int p1)] [])) _
        refine XS.iloadN X0.here hx rfl (hb hby d4_23) rfl ?_
        show Steps p.tables e below (s₁.setTop (mkF m 24 #[.val (.int p0), .val (.int p1)] [(.int p0)])) _
        refine XS.iconst X0.here hx rfl (hb hby d4_24) ?_
        show Steps p.tables e below (s₁.setTop (mkF m 25 #[.val (.int p0), .val (.int p1)] [(.int (3 : Int32)), (.int p0)])) _
        by_cases hc25 : p0 = (3 : Int32)
        · refine XS.icmpNo X0.here hx rfl (hb hby d4_25) rfl (teq hc25).2 ?_
          show Steps p.tables e below (s₁.setTop (mkF m 28 #[.val (.int p0), .val (.int p1)] [])) _
          refine XS.iloadN X0.here hx rfl (hb hby d4_28) rfl ?_
          show Steps p.tables e below (s₁.setTop (mkF m 29 #[.val (.int p0), .val (.int p1)] [(.int p1)])) _
          by_cases hc29 : p1 = (0 : Int32)
          · refine XS.ifYes X0.here hx rfl (pc0 := 29) (pc' := 37) rfl (hb hby d4_29) rfl ((if0 _ _).trans (teq hc29).1) (by decide) (by decide) ?_
            show Steps p.tables e below (s₁.setTop (mkF m 37 #[.val (.int p0), .val (.int p1)] [])) _
            refine XS.bipush X0.here hx rfl (hb hby d4_37) ?_
            show Steps p.tables e below (s₁.setTop (mkF m 39 #[.val (.int p0), .val (.int p1)] [(.int (45 : Int32))])) _
            rw [show (own_wb p0 p1) = (45 : Int32) from by unfold own_wb; rw [if_neg hc1, if_neg hc9, if_neg hc17, if_pos hc25, if_pos hc29]] at hr
            exact retN X0 hx (t := .byte) Bd.returns (by simp) (hb hby d4_39) hr
          · refine XS.ifNo X0.here hx rfl (hb hby d4_29) rfl ((if0 _ _).trans (feq hc29).1) ?_
            show Steps p.tables e below (s₁.setTop (mkF m 32 #[.val (.int p0), .val (.int p1)] [])) _
            refine XS.bipush X0.here hx rfl (hb hby d4_32) ?_
            show Steps p.tables e below (s₁.setTop (mkF m 34 #[.val (.int p0), .val (.int p1)] [(.int (56 : Int32))])) _
            refine XS.goto X0.here hx rfl (pc0 := 34) (pc' := 39) rfl (hb hby d4_34) (by decide) (by decide) ?_
            show Steps p.tables e below (s₁.setTop (mkF m 39 #[.val (.int p0), .val (.int p1)] [(.int (56 : Int32))])) _
            rw [show (own_wb p0 p1) = (56 : Int32) from by unfold own_wb; rw [if_neg hc1, if_neg hc9, if_neg hc17, if_pos hc25, if_neg hc29]] at hr
            exact retN X0 hx (t := .byte) Bd.returns (by simp) (hb hby d4_39) hr
        · refine XS.icmpYes X0.here hx rfl (pc0 := 25) (pc' := 40) rfl (hb hby d4_25) rfl (feq hc25).2 (by decide) (by decide) ?_
          show Steps p.tables e below (s₁.setTop (mkF m 40 #[.val (.int p0), .val (.int p1)] [])) _
          refine XS.iloadN X0.here hx rfl (hb hby d4_40) rfl ?_
          show Steps p.tables e below (s₁.setTop (mkF m 41 #[.val (.int p0), .val (.int p1)] [(.int p0)])) _
          refine XS.iconst X0.here hx rfl (hb hby d4_41) ?_
          show Steps p.tables e below (s₁.setTop (mkF m 42 #[.val (.int p0), .val (.int p1)] [(.int (4 : Int32)), (.int p0)])) _
          by_cases hc42 : p0 = (4 : Int32)
          · refine XS.icmpNo X0.here hx rfl (hb hby d4_42) rfl (teq hc42).2 ?_
            show Steps p.tables e below (s₁.setTop (mkF m 45 #[.val (.int p0), .val (.int p1)] [])) _
            refine XS.bipush X0.here hx rfl (hb hby d4_45) ?_
            show Steps p.tables e below (s₁.setTop (mkF m 47 #[.val (.int p0), .val (.int p1)] [(.int (97 : Int32))])) _
            rw [show (own_wb p0 p1) = (97 : Int32) from by unfold own_wb; rw [if_neg hc1, if_neg hc9, if_neg hc17, if_neg hc25, if_pos hc42]] at hr
            exact retN X0 hx (t := .byte) Bd.returns (by simp) (hb hby d4_47) hr
          · refine XS.icmpYes X0.here hx rfl (pc0 := 42) (pc' := 48) rfl (hb hby d4_42) rfl (feq hc42).2 (by decide) (by decide) ?_
            show Steps p.tables e below (s₁.setTop (mkF m 48 #[.val (.int p0), .val (.int p1)] [])) _
            refine XS.iloadN X0.here hx rfl (hb hby d4_48) rfl ?_
            show Steps p.tables e below (s₁.setTop (mkF m 49 #[.val (.int p0), .val (.int p1)] [(.int p0)])) _
            refine XS.iconst X0.here hx rfl (hb hby d4_49) ?_
            show Steps p.tables e below (s₁.setTop (mkF m 50 #[.val (.int p0), .val (.int p1)] [(.int (5 : Int32)), (.int p0)])) _
            by_cases hc50 : p0 = (5 : Int32)
            · refine XS.icmpNo X0.here hx rfl (hb hby d4_50) rfl (teq hc50).2 ?_
              show Steps p.tables e below (s₁.setTop (mkF m 53 #[.val (.int p0), .val (.int p1)] [])) _
              refine XS.bipush X0.here hx rfl (hb hby d4_53) ?_
              show Steps p.tables e below (s₁.setTop (mkF m 55 #[.val (.int p0), .val (.int p1)] [(.int (32 : Int32))])) _
              rw [show (own_wb p0 p1) = (32 : Int32) from by unfold own_wb; rw [if_neg hc1, if_neg hc9, if_neg hc17, if_neg hc25, if_neg hc42, if_pos hc50]] at hr
              exact retN X0 hx (t := .byte) Bd.returns (by simp) (hb hby d4_55) hr
            · refine XS.icmpYes X0.here hx rfl (pc0 := 50) (pc' := 56) rfl (hb hby d4_50) rfl (feq hc50).2 (by decide) (by decide) ?_
              show Steps p.tables e below (s₁.setTop (mkF m 56 #[.val (.int p0), .val (.int p1)] [])) _
              refine XS.iloadN X0.here hx rfl (hb hby d4_56) rfl ?_
              show Steps p.tables e below (s₁.setTop (mkF m 57 #[.val (.int p0), .val (.int p1)] [(.int p0)])) _
              refine XS.bipush X0.here hx rfl (hb hby d4_57) ?_
              show Steps p.tables e below (s₁.setTop (mkF m 59 #[.val (.int p0), .val (.int p1)] [(.int (6 : Int32)), (.int p0)])) _
              by_cases hc59 : p0 = (6 : Int32)
              · refine XS.icmpNo X0.here hx rfl (hb hby d4_59) rfl (teq hc59).2 ?_
                show Steps p.tables e below (s₁.setTop (mkF m 62 #[.val (.int p0), .val (.int p1)] [])) _
                refine XS.bipush X0.here hx rfl (hb hby d4_62) ?_
                show Steps p.tables e below (s₁.setTop (mkF m 64 #[.val (.int p0), .val (.int p1)] [(.int (43 : Int32))])) _
                rw [show (own_wb p0 p1) = (43 : Int32) from by unfold own_wb; rw [if_neg hc1, if_neg hc9, if_neg hc17, if_neg hc25, if_neg hc42, if_neg hc50, if_pos hc59]] at hr
                exact retN X0 hx (t := .byte) Bd.returns (by simp) (hb hby d4_64) hr
              · refine XS.icmpYes X0.here hx rfl (pc0 := 59) (pc' := 65) rfl (hb hby d4_59) rfl (feq hc59).2 (by decide) (by decide) ?_
                show Steps p.tables e below (s₁.setTop (mkF m 65 #[.val (.int p0), .val (.int p1)] [])) _
                refine XS.bipush X0.here hx rfl (hb hby d4_65) ?_
                show Steps p.tables e below (s₁.setTop (mkF m 67 #[.val (.int p0), .val (.int p1)] [(.int (-128 : Int32))])) _
                rw [show (own_wb p0 p1) = (-128 : Int32) from by unfold own_wb; rw [if_neg hc1, if_neg hc9, if_neg hc17, if_neg hc25, if_neg hc42, if_neg hc50, if_neg hc59]] at hr
                exact retN X0 hx (t := .byte) Bd.returns (by simp) (hb hby d4_67) hr
theorem d5_0 : decode method_4_code 0 = .ok (.iload_n 0, 1) := by decide +kernel
theorem d5_1 : decode method_4_code 1 = .ok (.iconst 3, 1) := by decide +kernel
theorem d5_2 : decode method_4_code 2 = .ok (.iload_n 1, 1) := by decide +kernel
theorem d5_3 : decode method_4_code 3 = .ok (.imul, 1) := by decide +kernel
theorem d5_4 : decode method_4_code 4 = .ok (.iushr, 1) := by decide +kernel
theorem d5_5 : decode method_4_code 5 = .ok (.bipush 7, 2) := by decide +kernel
theorem d5_7 : decode method_4_code 7 = .ok (.iand, 1) := by decide +kernel
theorem d5_8 : decode method_4_code 8 = .ok (.ireturn, 1) := by decide +kernel
theorem pn_5 : plainName "com/example/vestwright/vestwright/model/GroupedDecimalUngroupPinLaw" = true := by first | (simp [plainName, overriddenIn]; done) | decide +kernel
theorem ef_5 (m : MethodId) (x0 : Int32) (x1 : Int32) : entryFrame m #[(.int x0), (.int x1)] 2 = mkF m 0 #[.val (.int x0), .val (.int x1)] [] := by first | (simp [entryFrame, mkF, argsToLocals, Value.category]; done) | rfl
def own_fc (p0 : Int32) (p1 : Int32) : Int32 := (((p0.toUInt32 >>> (((3 : Int32) * p1) &&& 31).toUInt32).toInt32) &&& (7 : Int32))
def Q2 (Z : State) (p0 : Int32) (p1 : Int32) (h0 : Heap) (n0 : Nat) (v : Option Value) (h : Heap) (L : List Loc) : Prop := v = some (.int (own_fc p0 p1)) ∧ Fr n0 L ∧ h = h0
set_option maxRecDepth 65536 in
set_option maxHeartbeats 40000000 in
theorem rm2 (l : Launch) (Z : State) (a0 : Array Value) (hw : ∀ d ∈ tables_1, d.before a0 Z = true) (ws : List Jvm.Cond) (p0 : Int32) (p1 : Int32) (h0 : Heap) (n0 : Nat) (Z0 : n0 ≤ h0.size)  :
    MetFree l (⟨"com/example/vestwright/vestwright/model/GroupedDecimalUngroupPinLaw", "fracCode", "(II)I"⟩ : MethodName) (head1 (Jvm.Cond.code (⟨"com/example/vestwright/vestwright/model/GroupedDecimalUngroupPinLaw", "fracCode", "(II)I"⟩ : MethodName) method_4_code 2 (some .int) :: ws) ({ frames := 0, cells := 0, slots := 0, locals := 0 } : Room)) (fun a_ U_ => a_ = #[(.int p0), (.int p1)] ∧ Z.Warmed39 U_.vm ∧ U_.heap = h0) (fun _ _ _ _ _ => True) (fun _ U_ o_ U' => ∃ v_ L_, o_ = .returned v_ ∧ (Q2 Z p0 p1 h0 n0 v_ U'.heap L_) ∧ FrameEnd U_ o_ U' L_ ({ frames := 0, cells := 0, slots := 0, locals := 0 } : Room).cells ({ frames := 0, cells := 0, slots := 0, locals := 0 } : Room).slots) := by
  refine MetFree.of_bodySF (plainFor_of_name pn_5) hisR ?_
  intro p e s m args below meth c s₁ Bd hml0 hP hK
  obtain ⟨rfl, hZ, hh⟩ := hP
  have hx := Bd.exec
  have hby := Bd.bytes
  have hml : c.maxLocals = 2 := hml0
  have hown : s.vm.findClass "com/example/vestwright/vestwright/model/GroupedDecimalUngroupPinLaw" = some m.cls := findClass_of_methodNamed Bd.named
  have hnm := (name_of_methodNamed Bd.named Bd.method).1
  have X0 : Stand p l e ({ frames := 0, cells := 0, slots := 0, locals := 0 } : Room) s m #[(.int p0), (.int p1)] below meth c s₁ [] 0 0 := Stand.of_body Bd
  have e0 : s₁.heap = h0 := by rw [← hh, Bd.state]; rfl
  have N0 := Fr.nil n0
  have pre0 : ∀ t, Steps p.tables e below (s₁.setTop (mkF m 0 #[.val (.int p0), .val (.int p1)] [])) t → Steps p.tables e below (s₁.setTop (entryFrame m #[(.int p0), (.int p1)] 2)) t := fun t k => castTop (ef_5 m p0 p1) k
  obtain ⟨fs, hr, hrun, hended, hW, hsame⟩ := X0.leave (v := some (.int (own_fc p0 p1))) (fun h => by rw [Bd.returns] at h; cases h)
  refine ⟨_, _, pre0 _ ?_, hrun, hended, _, _, rfl, ⟨rfl, N0, e0⟩, ⟨_, rfl⟩, hW, hsame.mono (by decide) (by decide)⟩
  show Steps p.tables e below (s₁.setTop (mkF m 0 #[.val (.int p0), .val (.int p1)] [])) _
  refine XS.iloadN X0.here hx rfl (hb hby d5_0) rfl ?_
  show Steps p.tables e below (s₁.setTop (mkF m 1 #[.val (.int p0), .val (.int p1)] [(.int p0)])) _
  refine XS.iconst X0.here hx rfl (hb hby d5_1) ?_
  show Steps p.tables e below (s₁.setTop (mkF m 2 #[.val (.int p0), .val (.int p1)] [(.int (3 : Int32)), (.int p0)])) _
  refine XS.iloadN X0.here hx rfl (hb hby d5_2) rfl ?_
  show Steps p.tables e below (s₁.setTop (mkF m 3 #[.val (.int p0), .val (.int p1)] [(.int p1), (.int (3 : Int32)), (.int p0)])) _
  refine XS.imul X0.here hx rfl (hb hby d5_3) rfl ?_
  show Steps p.tables e below (s₁.setTop (mkF m 4 #[.val (.int p0), .val (.int p1)] [(.int ((3 : Int32) * p1)), (.int p0)])) _
  refine XS.iushr X0.here hx rfl (hb hby d5_4) rfl ?_
  show Steps p.tables e below (s₁.setTop (mkF m 5 #[.val (.int p0), .val (.int p1)] [(.int ((p0.toUInt32 >>> (((3 : Int32) * p1) &&& 31).toUInt32).toInt32))])) _
  refine XS.bipush X0.here hx rfl (hb hby d5_5) ?_
  show Steps p.tables e below (s₁.setTop (mkF m 7 #[.val (.int p0), .val (.int p1)] [(.int (7 : Int32)), (.int ((p0.toUInt32 >>> (((3 : Int32) * p1) &&& 31).toUInt32).toInt32))])) _
  refine XS.iand X0.here hx rfl (hb hby d5_7) rfl ?_
  show Steps p.tables e below (s₁.setTop (mkF m 8 #[.val (.int p0), .val (.int p1)] [(.int (((p0.toUInt32 >>> (((3 : Int32) * p1) &&& 31).toUInt32).toInt32) &&& (7 : Int32)))])) _
  unfold own_fc at hr
  exact own_retI X0 hx Bd.returns (hb hby d5_8) hr
theorem d6_0 : decode method_7_code 0 = .ok (.iload_n 0, 1) := by decide +kernel
theorem d6_1 : decode method_7_code 1 = .ok (.ifCond .ne 6, 3) := by decide +kernel
theorem d6_4 : decode method_7_code 4 = .ok (.bipush 48, 2) := by decide +kernel
theorem d6_6 : decode method_7_code 6 = .ok (.ireturn, 1) := by decide +kernel
theorem d6_7 : decode method_7_code 7 = .ok (.iload_n 0, 1) := by decide +kernel
theorem d6_8 : decode method_7_code 8 = .ok (.iconst 1, 1) := by decide +kernel
theorem d6_9 : decode method_7_code 9 = .ok (.if_icmp .ne 6, 3) := by decide +kernel
theorem d6_12 : decode method_7_code 12 = .ok (.bipush 54, 2) := by decide +kernel
theorem d6_14 : decode method_7_code 14 = .ok (.ireturn, 1) := by decide +kernel
theorem d6_15 : decode method_7_code 15 = .ok (.iload_n 0, 1) := by decide +kernel
theorem d6_16 : decode method_7_code 16 = .ok (.iconst 2, 1) := by decide +kernel
theorem d6_17 : decode method_7_code 17 = .ok (.if_icmp .ne 6, 3) := by decide +kernel
theorem d6_20 : decode method_7_code 20 = .ok (.bipush 44, 2) := by decide +kernel
theorem d6_22 : decode method_7_code 22 = .ok (.ireturn, 1) := by decide +kernel
theorem d6_23 : decode method_7_code 23 = .ok (.iload_n 0, 1) := by decide +kernel
theorem d6_24 : decode method_7_code 24 = .ok (.iconst 3, 1) := by decide +kernel
theorem d6_25 : decode method_7_code 25 = .ok (.if_icmp .ne 6, 3) := by decide +kernel
theorem d6_28 : decode method_7_code 28 = .ok (.bipush 46, 2) := by decide +kernel
theorem d6_30 : decode method_7_code 30 = .ok (.ireturn, 1) := by decide +kernel
theorem d6_31 : decode method_7_code 31 = .ok (.iload_n 0, 1) := by decide +kernel
theorem d6_32 : decode method_7_code 32 = .ok (.iconst 4, 1) := by decide +kernel
theorem d6_33 : decode method_7_code 33 = .ok (.if_icmp .ne 6, 3) := by decide +kernel
theorem d6_36 : decode method_7_code 36 = .ok (.bipush 45, 2) := by decide +kernel
theorem d6_38 : decode method_7_code 38 = .ok (.ireturn, 1) := by decide +kernel
theorem d6_39 : decode method_7_code 39 = .ok (.iload_n 0, 1) := by decide +kernel
theorem d6_40 : decode method_7_code 40 = .ok (.iconst 5, 1) := by decide +kernel
theorem d6_41 : decode method_7_code 41 = .ok (.if_icmp .ne 6, 3) := by decide +kernel
theorem d6_44 : decode method_7_code 44 = .ok (.bipush 101, 2) := by decide +kernel
theorem d6_46 : decode method_7_code 46 = .ok (.ireturn, 1) := by decide +kernel
theorem d6_47 : decode method_7_code 47 = .ok (.iload_n 0, 1) := by decide +kernel
theorem d6_48 : decode method_7_code 48 = .ok (.bipush 6, 2) := by decide +kernel
theorem d6_50 : decode method_7_code 50 = .ok (.if_icmp .ne 5, 3) := by decide +kernel
theorem d6_53 : decode method_7_code 53 = .ok (.iconst (-1), 1) := by decide +kernel
theorem d6_54 : decode method_7_code 54 = .ok (.ireturn, 1) := by decide +kernel
theorem d6_55 : decode method_7_code 55 = .ok (.bipush 57, 2) := by decide +kernel
theorem d6_57 : decode method_7_code 57 = .ok (.ireturn, 1) := by decide +kernel
theorem pn_6 : plainName "com/example/vestwright/vestwright/model/GroupedDecimalUngroupPinLaw" = true := by first | (simp [plainName, overriddenIn]; done) | decide +kernel
theorem ef_6 (m : MethodId) (x0 : Int32) : entryFrame m #[(.int x0)] 1 = mkF m 0 #[.val (.int x0)] [] := by first | (simp [entryFrame, mkF, argsToLocals, Value.category]; done) | rfl
def own_fb (p0 : Int32) : Int32 := (if p0 = (0 : Int32) then (48 : Int32) else (if p0 = (1 : Int32) then (54 : Int32) else (if p0 = (2 : Int32) then (44 : Int32) else (if p0 = (3 : Int32) then (46 : Int32) else (if p0 = (4 : Int32) then (45 : Int32) else (if p0 = (5 : Int32) then (101 : Int32) else (if p0 = (6 : Int32) then (-1 : Int32) else (57 : Int32))))))))
def Q3 (Z : State) (p0 : Int32) (h0 : Heap) (n0 : Nat) (v : Option Value) (h : Heap) (L : List Loc) : Prop := v = some (.int (own_fb p0)) ∧ Fr n0 L ∧ h = h0
set_option maxRecDepth 65536 in
set_option maxHeartbeats 40000000 in
theorem rm3 (l : Launch) (Z : State) (a0 : Array Value) (hw : ∀ d ∈ tables_1, d.before a0 Z = true) (ws : List Jvm.Cond) (p0 : Int32) (h0 : Heap) (n0 : Nat) (Z0 : n0 ≤ h0.size)  :
    MetFree l (⟨"com/example/vestwright/vestwright/model/GroupedDecimalUngroupPinLaw", "fracByte", "(I)B"⟩ : MethodName) (head1 (Jvm.Cond.code (⟨"com/example/vestwright/vestwright/model/GroupedDecimalUngroupPinLaw", "fracByte", "(I)B"⟩ : MethodName) method_7_code 1 (some .byte) :: ws) ({ frames := 0, cells := 0, slots := 0, locals := 0 } : Room)) (fun a_ U_ => a_ = #[(.int p0)] ∧ Z.Warmed39 U_.vm ∧ U_.heap = h0) (fun _ _ _ _ _ => True) (fun _ U_ o_ U' => ∃ v_ L_, o_ = .returned v_ ∧ (Q3 Z p0 h0 n0 v_ U'.heap L_) ∧ FrameEnd U_ o_ U' L_ ({ frames := 0, cells := 0, slots := 0, locals := 0 } : Room).cells ({ frames := 0, cells := 0, slots := 0, locals := 0 } : Room).slots) := by
  refine MetFree.of_bodySF (plainFor_of_name pn_6) hisR ?_
  intro p e s m args below meth c s₁ Bd hml0 hP hK
  obtain ⟨rfl, hZ, hh⟩ := hP
  have hx := Bd.exec
  have hby := Bd.bytes
  have hml : c.maxLocals = 1 := hml0
  have hown : s.vm.findClass "com/example/vestwright/vestwright/model/GroupedDecimalUngroupPinLaw" = some m.cls := findClass_of_methodNamed Bd.named
  have hnm := (name_of_methodNamed Bd.named Bd.method).1
  have X0 : Stand p l e ({ frames := 0, cells := 0, slots := 0, locals := 0 } : Room) s m #[(.int p0)] below meth c s₁ [] 0 0 := Stand.of_body Bd
  have e0 : s₁.heap = h0 := by rw [← hh, Bd.state]; rfl
  have N0 := Fr.nil n0
  have pre0 : ∀ t, Steps p.tables e below (s₁.setTop (mkF m 0 #[.val (.int p0)] [])) t → Steps p.tables e below (s₁.setTop (entryFrame m #[(.int p0)] 1)) t := fun t k => castTop (ef_6 m p0) k
  obtain ⟨fs, hr, hrun, hended, hW, hsame⟩ := X0.leave (v := some (.int (own_fb p0))) (fun h => by rw [Bd.returns] at h; cases h)
  refine ⟨_, _, pre0 _ ?_, hrun, hended, _, _, rfl, ⟨rfl, N0, e0⟩, ⟨_, rfl⟩, hW, hsame.mono (by decide) (by decide)⟩
  show Steps p.tables e below (s₁.setTop (mkF m 0 #[.val (.int p0)] [])) _
  refine XS.iloadN X0.here hx rfl (hb hby d6_0) rfl ?_
  show Steps p.tables e below (s₁.setTop (mkF m 1 #[.val (.int p0)] [(.int p0)])) _
  by_cases hc1 : p0 = (0 : Int32)
  · refine XS.ifNo X0.here hx rfl (hb hby d6_1) rfl ((if0 _ _).trans (teq hc1).2) ?_
    show Steps p.tables e below (s₁.setTop (mkF m 4 #[.val (.int p0)] [])) _
    refine XS.bipush X0.here hx rfl (hb hby d6_4) ?_
    show Steps p.tables e below (s₁.setTop (mkF m 6 #[.val (.int p0)] [(.int (48 : Int32))])) _
    rw [show (own_fb p0) = (48 : Int32) from by unfold own_fb; rw [if_pos hc1]] at hr
    exact retN X0 hx (t := .byte) Bd.returns (by simp) (hb hby d6_6) hr
  · refine XS.ifYes X0.here hx rfl (pc0 := 1) (pc' := 7) rfl (hb hby d6_1) rfl ((if0 _ _).trans (feq hc1).2) (by decide) (by decide) ?_
    show Steps p.tables e below (s₁.setTop (mkF m 7 #[.val (.int p0)] [])) _
    refine XS.iloadN X0.here hx rfl (hb hby d6_7) rfl ?_
    show Steps p.tables e below (s₁.setTop (mkF m 8 #[.val (.int p0)] [(.int p0)])) _
    refine XS.iconst X0.here hx rfl (hb hby d6_8) ?_
    show Steps p.tables e below (s₁.setTop (mkF m 9 #[.val (.int p0)] [(.int (1 : Int32)), (.int p0)])) _
    by_cases hc9 : p0 = (1 : Int32)
    · refine XS.icmpNo X0.here hx rfl (hb hby d6_9) rfl (teq hc9).2 ?_
      show Steps p.tables e below (s₁.setTop (mkF m 12 #[.val (.int p0)] [])) _
      refine XS.bipush X0.here hx rfl (hb hby d6_12) ?_
      show Steps p.tables e below (s₁.setTop (mkF m 14 #[.val (.int p0)] [(.int (54 : Int32))])) _
      rw [show (own_fb p0) = (54 : Int32) from by unfold own_fb; rw [if_neg hc1, if_pos hc9]] at hr
      exact retN X0 hx (t := .byte) Bd.returns (by simp) (hb hby d6_14) hr
    · refine XS.icmpYes X0.here hx rfl (pc0 := 9) (pc' := 15) rfl (hb hby d6_9) rfl (feq hc9).2 (by decide) (by decide) ?_
      show Steps p.tables e below (s₁.setTop (mkF m 15 #[.val (.int p0)] [])) _
      refine XS.iloadN X0.here hx rfl (hb hby d6_15) rfl ?_
      show Steps p.tables e below (s₁.setTop (mkF m 16 #[.val (.int p0)] [(.int p0)])) _
      refine XS.iconst X0.here hx rfl (hb hby d6_16) ?_
      show Steps p.tables e below (s₁.setTop (mkF m 17 #[.val (.int p0)] [(.int (2 : Int32)), (.int p0)])) _
      by_cases hc17 : p0 = (2 : Int32)
      · refine XS.icmpNo X0.here hx rfl (hb hby d6_17) rfl (teq hc17).2 ?_
        show Steps p.tables e below (s₁.setTop (mkF m 20 #[.val (.int p0)] [])) _
        refine XS.bipush X0.here hx rfl (hb hby d6_20) ?_
        show Steps p.tables e below (s₁.setTop (mkF m 22 #[.val (.int p0)] [(.int (44 : Int32))])) _
        rw [show (own_fb p0) = (44 : Int32) from by unfold own_fb; rw [if_neg hc1, if_neg hc9, if_pos hc17]] at hr
        exact retN X0 hx (t := .byte) Bd.returns (by simp) (hb hby d6_22) hr
      · refine XS.icmpYes X0.here hx rfl (pc0 := 17) (pc' := 23) rfl (hb hby d6_17) rfl (feq hc17).2 (by decide) (by decide) ?_
        show Steps p.tables e below (s₁.setTop (mkF m 23 #[.val (.int p0)] [])) _
        refine XS.iloadN X0.here hx rfl (hb hby d6_23) rfl ?_
        show Steps p.tables e below (s₁.setTop (mkF m 24 #[.val (.int p0)] [(.int p0)])) _
        refine XS.iconst X0.here hx rfl (hb hby d6_24) ?_
        show Steps p.tables e below (s₁.setTop (mkF m 25 #[.val (.int p0)] [(.int (3 : Int32)), (.int p0)])) _
        by_cases hc25 : p0 = (3 : Int32)
        · refine XS.icmpNo X0.here hx rfl (hb hby d6_25) rfl (teq hc25).2 ?_
          show Steps p.tables e below (s₁.setTop (mkF m 28 #[.val (.int p0)] [])) _
          refine XS.bipush X0.here hx rfl (hb hby d6_28) ?_
          show Steps p.tables e below (s₁.setTop (mkF m 30 #[.val (.int p0)] [(.int (46 : Int32))])) _
          rw [show (own_fb p0) = (46 : Int32) from by unfold own_fb; rw [if_neg hc1, if_neg hc9, if_neg hc17, if_pos hc25]] at hr
          exact retN X0 hx (t := .byte) Bd.returns (by simp) (hb hby d6_30) hr
        · refine XS.icmpYes X0.here hx rfl (pc0 := 25) (pc' := 31) rfl (hb hby d6_25) rfl (feq hc25).2 (by decide) (by decide) ?_
          show Steps p.tables e below (s₁.setTop (mkF m 31 #[.val (.int p0)] [])) _
          refine XS.iloadN X0.here hx rfl (hb hby d6_31) rfl ?_
          show Steps p.tables e below (s₁.setTop (mkF m 32 #[.val (.int p0)] [(.int p0)])) _
          refine XS.iconst X0.here hx rfl (hb hby d6_32) ?_
          show Steps p.tables e below (s₁.setTop (mkF m 33 #[.val (.int p0)] [(.int (4 : Int32)), (.int p0)])) _
          by_cases hc33 : p0 = (4 : Int32)
          · refine XS.icmpNo X0.here hx rfl (hb hby d6_33) rfl (teq hc33).2 ?_
            show Steps p.tables e below (s₁.setTop (mkF m 36 #[.val (.int p0)] [])) _
            refine XS.bipush X0.here hx rfl (hb hby d6_36) ?_
            show Steps p.tables e below (s₁.setTop (mkF m 38 #[.val (.int p0)] [(.int (45 : Int32))])) _
            rw [show (own_fb p0) = (45 : Int32) from by unfold own_fb; rw [if_neg hc1, if_neg hc9, if_neg hc17, if_neg hc25, if_pos hc33]] at hr
            exact retN X0 hx (t := .byte) Bd.returns (by simp) (hb hby d6_38) hr
          · refine XS.icmpYes X0.here hx rfl (pc0 := 33) (pc' := 39) rfl (hb hby d6_33) rfl (feq hc33).2 (by decide) (by decide) ?_
            show Steps p.tables e below (s₁.setTop (mkF m 39 #[.val (.int p0)] [])) _
            refine XS.iloadN X0.here hx rfl (hb hby d6_39) rfl ?_
            show Steps p.tables e below (s₁.setTop (mkF m 40 #[.val (.int p0)] [(.int p0)])) _
            refine XS.iconst X0.here hx rfl (hb hby d6_40) ?_
            show Steps p.tables e below (s₁.setTop (mkF m 41 #[.val (.int p0)] [(.int (5 : Int32)), (.int p0)])) _
            by_cases hc41 : p0 = (5 : Int32)
            · refine XS.icmpNo X0.here hx rfl (hb hby d6_41) rfl (teq hc41).2 ?_
              show Steps p.tables e below (s₁.setTop (mkF m 44 #[.val (.int p0)] [])) _
              refine XS.bipush X0.here hx rfl (hb hby d6_44) ?_
              show Steps p.tables e below (s₁.setTop (mkF m 46 #[.val (.int p0)] [(.int (101 : Int32))])) _
              rw [show (own_fb p0) = (101 : Int32) from by unfold own_fb; rw [if_neg hc1, if_neg hc9, if_neg hc17, if_neg hc25, if_neg hc33, if_pos hc41]] at hr
              exact retN X0 hx (t := .byte) Bd.returns (by simp) (hb hby d6_46) hr
            · refine XS.icmpYes X0.here hx rfl (pc0 := 41) (pc' := 47) rfl (hb hby d6_41) rfl (feq hc41).2 (by decide) (by decide) ?_
              show Steps p.tables e below (s₁.setTop (mkF m 47 #[.val (.int p0)] [])) _
              refine XS.iloadN X0.here hx rfl (hb hby d6_47) rfl ?_
              show Steps p.tables e below (s₁.setTop (mkF m 48 #[.val (.int p0)] [(.int p0)])) _
              refine XS.bipush X0.here hx rfl (hb hby d6_48) ?_
              show Steps p.tables e below (s₁.setTop (mkF m 50 #[.val (.int p0)] [(.int (6 : Int32)), (.int p0)])) _
              by_cases hc50 : p0 = (6 : Int32)
              · refine XS.icmpNo X0.here hx rfl (hb hby d6_50) rfl (teq hc50).2 ?_
                show Steps p.tables e below (s₁.setTop (mkF m 53 #[.val (.int p0)] [])) _
                refine XS.iconst X0.here hx rfl (hb hby d6_53) ?_
                show Steps p.tables e below (s₁.setTop (mkF m 54 #[.val (.int p0)] [(.int (-1 : Int32))])) _
                rw [show (own_fb p0) = (-1 : Int32) from by unfold own_fb; rw [if_neg hc1, if_neg hc9, if_neg hc17, if_neg hc25, if_neg hc33, if_neg hc41, if_pos hc50]] at hr
                exact retN X0 hx (t := .byte) Bd.returns (by simp) (hb hby d6_54) hr
              · refine XS.icmpYes X0.here hx rfl (pc0 := 50) (pc' := 55) rfl (hb hby d6_50) rfl (feq hc50).2 (by decide) (by decide) ?_
                show Steps p.tables e below (s₁.setTop (mkF m 55 #[.val (.int p0)] [])) _
                refine XS.bipush X0.here hx rfl (hb hby d6_55) ?_
                show Steps p.tables e below (s₁.setTop (mkF m 57 #[.val (.int p0)] [(.int (57 : Int32))])) _
                rw [show (own_fb p0) = (57 : Int32) from by unfold own_fb; rw [if_neg hc1, if_neg hc9, if_neg hc17, if_neg hc25, if_neg hc33, if_neg hc41, if_neg hc50]] at hr
                exact retN X0 hx (t := .byte) Bd.returns (by simp) (hb hby d6_57) hr
theorem own_wb_n (z f : Int32) : (own_wb z f).toInt8.toInt32 = own_wb z f := by unfold own_wb; repeat' (first | rfl | split)
theorem own_fb_n (z : Int32) : (own_fb z).toInt8.toInt32 = own_fb z := by unfold own_fb; repeat' (first | rfl | split)
theorem d1_0 : decode method_5_code 0 = .ok (.iload_n 0, 1) := by decide +kernel
theorem d1_1 : decode method_5_code 1 = .ok (.iload 4, 2) := by decide +kernel
theorem d1_3 : decode method_5_code 3 = .ok (.if_icmp .lt 5, 3) := by decide +kernel
theorem d1_6 : decode method_5_code 6 = .ok (.iconst 0, 1) := by decide +kernel
theorem d1_7 : decode method_5_code 7 = .ok (.ireturn, 1) := by decide +kernel
theorem d1_8 : decode method_5_code 8 = .ok (.iload_n 0, 1) := by decide +kernel
theorem d1_9 : decode method_5_code 9 = .ok (.iload_n 1, 1) := by decide +kernel
theorem d1_10 : decode method_5_code 10 = .ok (.if_icmp .ge 6, 3) := by decide +kernel
theorem d1_13 : decode method_5_code 13 = .ok (.bipush 45, 2) := by decide +kernel
theorem d1_15 : decode method_5_code 15 = .ok (.ireturn, 1) := by decide +kernel
theorem d1_16 : decode method_5_code 16 = .ok (.iload_n 0, 1) := by decide +kernel
theorem d1_17 : decode method_5_code 17 = .ok (.iload_n 1, 1) := by decide +kernel
theorem d1_18 : decode method_5_code 18 = .ok (.iload_n 2, 1) := by decide +kernel
theorem d1_19 : decode method_5_code 19 = .ok (.iadd, 1) := by decide +kernel
theorem d1_20 : decode method_5_code 20 = .ok (.if_icmp .ge 50, 3) := by decide +kernel
theorem d1_23 : decode method_5_code 23 = .ok (.iload_n 0, 1) := by decide +kernel
theorem d1_24 : decode method_5_code 24 = .ok (.iload_n 1, 1) := by decide +kernel
theorem d1_25 : decode method_5_code 25 = .ok (.isub, 1) := by decide +kernel
theorem d1_26 : decode method_5_code 26 = .ok (.istore 8, 2) := by decide +kernel
theorem d1_28 : decode method_5_code 28 = .ok (.iload_n 3, 1) := by decide +kernel
theorem d1_29 : decode method_5_code 29 = .ok (.iload 8, 2) := by decide +kernel
theorem d1_31 : decode method_5_code 31 = .ok (.iushr, 1) := by decide +kernel
theorem d1_32 : decode method_5_code 32 = .ok (.iconst 1, 1) := by decide +kernel
theorem d1_33 : decode method_5_code 33 = .ok (.iand, 1) := by decide +kernel
theorem d1_34 : decode method_5_code 34 = .ok (.ifCond .eq 6, 3) := by decide +kernel
theorem d1_37 : decode method_5_code 37 = .ok (.bipush 44, 2) := by decide +kernel
theorem d1_39 : decode method_5_code 39 = .ok (.ireturn, 1) := by decide +kernel
theorem d1_40 : decode method_5_code 40 = .ok (.lload 5, 2) := by decide +kernel
theorem d1_42 : decode method_5_code 42 = .ok (.iconst 3, 1) := by decide +kernel
theorem d1_43 : decode method_5_code 43 = .ok (.iload 8, 2) := by decide +kernel
theorem d1_45 : decode method_5_code 45 = .ok (.imul, 1) := by decide +kernel
theorem d1_46 : decode method_5_code 46 = .ok (.lushr, 1) := by decide +kernel
theorem d1_47 : decode method_5_code 47 = .ok (.ldc2_w 27, 3) := by decide +kernel
theorem d1_50 : decode method_5_code 50 = .ok (.land, 1) := by decide +kernel
theorem d1_51 : decode method_5_code 51 = .ok (.l2i, 1) := by decide +kernel
theorem d1_52 : decode method_5_code 52 = .ok (.iload 8, 2) := by decide +kernel
theorem d1_54 : decode method_5_code 54 = .ok (.ifCond .ne 11, 3) := by decide +kernel
theorem d1_57 : decode method_5_code 57 = .ok (.iload_n 1, 1) := by decide +kernel
theorem d1_58 : decode method_5_code 58 = .ok (.ifCond .ne 7, 3) := by decide +kernel
theorem d1_61 : decode method_5_code 61 = .ok (.iconst 1, 1) := by decide +kernel
theorem d1_62 : decode method_5_code 62 = .ok (.goto 4, 3) := by decide +kernel
theorem d1_65 : decode method_5_code 65 = .ok (.iconst 0, 1) := by decide +kernel
theorem d1_66 : decode method_5_code 66 = .ok (.invokestatic 29, 3) := by decide +kernel
theorem d1_69 : decode method_5_code 69 = .ok (.ireturn, 1) := by decide +kernel
theorem d1_70 : decode method_5_code 70 = .ok (.iload_n 0, 1) := by decide +kernel
theorem d1_71 : decode method_5_code 71 = .ok (.iload_n 1, 1) := by decide +kernel
theorem d1_72 : decode method_5_code 72 = .ok (.iload_n 2, 1) := by decide +kernel
theorem d1_73 : decode method_5_code 73 = .ok (.iadd, 1) := by decide +kernel
theorem d1_74 : decode method_5_code 74 = .ok (.if_icmp .ne 6, 3) := by decide +kernel
theorem d1_77 : decode method_5_code 77 = .ok (.bipush 46, 2) := by decide +kernel
theorem d1_79 : decode method_5_code 79 = .ok (.ireturn, 1) := by decide +kernel
theorem d1_80 : decode method_5_code 80 = .ok (.iload 7, 2) := by decide +kernel
theorem d1_82 : decode method_5_code 82 = .ok (.iload_n 0, 1) := by decide +kernel
theorem d1_83 : decode method_5_code 83 = .ok (.iload_n 1, 1) := by decide +kernel
theorem d1_84 : decode method_5_code 84 = .ok (.isub, 1) := by decide +kernel
theorem d1_85 : decode method_5_code 85 = .ok (.iload_n 2, 1) := by decide +kernel
theorem d1_86 : decode method_5_code 86 = .ok (.isub, 1) := by decide +kernel
theorem d1_87 : decode method_5_code 87 = .ok (.iconst 1, 1) := by decide +kernel
theorem d1_88 : decode method_5_code 88 = .ok (.isub, 1) := by decide +kernel
theorem d1_89 : decode method_5_code 89 = .ok (.invokestatic 13, 3) := by decide +kernel
theorem d1_92 : decode method_5_code 92 = .ok (.invokestatic 33, 3) := by decide +kernel
theorem d1_95 : decode method_5_code 95 = .ok (.ireturn, 1) := by decide +kernel
theorem pn_1 : plainName "com/example/vestwright/vestwright/model/GroupedDecimalUngroupPinLaw" = true := by first | (simp [plainName, overriddenIn]; done) | decide +kernel
theorem ef_1 (m : MethodId) (x0 : Int32) (x1 : Int32) (x2 : Int32) (x3 : Int32) (x4 : Int32) (x5 : Int64) (x6 : Int32) : entryFrame m #[(.int x0), (.int x1), (.int x2), (.int x3), (.int x4), (.long x5), (.int x6)] 9 = mkF m 0 #[.val (.int x0), .val (.int x1), .val (.int x2), .val (.int x3), .val (.int x4), .val (.long x5), .second, .val (.int x6), .unset] [] := by first | (simp [entryFrame, mkF, argsToLocals, Value.category]; done) | rfl
def own_first_s0 (g : Int32) (ii : Int32) : Int32 := (if ii = (0 : Int32) then (if g = (0 : Int32) then (1 : Int32) else (0 : Int32)) else (0 : Int32))
set_option maxRecDepth 65536 in
set_option maxHeartbeats 40000000 in
theorem sg_first {p : Program} {l : Launch} {e : Env} {R : Room} {s : State} {m : MethodId} {args : Array Value} {below : List Frame} {meth : Method} {c : Code} {T0 : State} {locs : List Loc} {cells slots : Nat} {Z : State} {a0 : Array Value} {h0 : Heap} {target : State} (kk : Int32) (g : Int32) (w : Int32) (cm : Int32) (n : Int32) (wc : Int64) (fc : Int32) (ii : Int32) (cd : Int32) (X0 : Stand p l e R s m args below meth c T0 locs cells slots) (hx : p.tables.exec = Jvm.exec) (hZ : Z.Warmed39 s.vm) (hw : ∀ d ∈ tables_1, d.before a0 Z = true) (hby : c.code = method_5_code) (hown : s.vm.findClass "com/example/vestwright/vestwright/model/GroupedDecimalUngroupPinLaw" = some m.cls) (e0 : T0.heap = h0) 
    (kt : Steps p.tables e below (T0.setTop (mkF m 66 #[.val (.int kk), .val (.int g), .val (.int w), .val (.int cm), .val (.int n), .val (.long wc), .second, .val (.int fc), .val (.int ii)] [(.int (own_first_s0 g ii)), (.int cd)])) target) : Steps p.tables e below (T0.setTop (mkF m 52 #[.val (.int kk), .val (.int g), .val (.int w), .val (.int cm), .val (.int n), .val (.long wc), .second, .val (.int fc), .val (.int ii)] [(.int cd)])) target := by
  show Steps p.tables e below (T0.setTop (mkF m 52 #[.val (.int kk), .val (.int g), .val (.int w), .val (.int cm), .val (.int n), .val (.long wc), .second, .val (.int fc), .val (.int ii)] [(.int cd)])) _
  refine XS.iload X0.here hx rfl (hb hby d1_52) rfl ?_
  show Steps p.tables e below (T0.setTop (mkF m 54 #[.val (.int kk), .val (.int g), .val (.int w), .val (.int cm), .val (.int n), .val (.long wc), .second, .val (.int fc), .val (.int ii)] [(.int ii), (.int cd)])) _
  by_cases hc54 : ii = (0 : Int32)
  · refine XS.ifNo X0.here hx rfl (hb hby d1_54) rfl ((if0 _ _).trans (teq hc54).2) ?_
    show Steps p.tables e below (T0.setTop (mkF m 57 #[.val (.int kk), .val (.int g), .val (.int w), .val (.int cm), .val (.int n), .val (.long wc), .second, .val (.int fc), .val (.int ii)] [(.int cd)])) _
    refine XS.iloadN X0.here hx rfl (hb hby d1_57) rfl ?_
    show Steps p.tables e below (T0.setTop (mkF m 58 #[.val (.int kk), .val (.int g), .val (.int w), .val (.int cm), .val (.int n), .val (.long wc), .second, .val (.int fc), .val (.int ii)] [(.int g), (.int cd)])) _
    by_cases hc58 : g = (0 : Int32)
    · refine XS.ifNo X0.here hx rfl (hb hby d1_58) rfl ((if0 _ _).trans (teq hc58).2) ?_
      show Steps p.tables e below (T0.setTop (mkF m 61 #[.val (.int kk), .val (.int g), .val (.int w), .val (.int cm), .val (.int n), .val (.long wc), .second, .val (.int fc), .val (.int ii)] [(.int cd)])) _
      refine XS.iconst X0.here hx rfl (hb hby d1_61) ?_
      show Steps p.tables e below (T0.setTop (mkF m 62 #[.val (.int kk), .val (.int g), .val (.int w), .val (.int cm), .val (.int n), .val (.long wc), .second, .val (.int fc), .val (.int ii)] [(.int (1 : Int32)), (.int cd)])) _
      refine XS.goto X0.here hx rfl (pc0 := 62) (pc' := 66) rfl (hb hby d1_62) (by decide) (by decide) ?_
      rw [show (own_first_s0 g ii) = (1 : Int32) from by unfold own_first_s0; rw [if_pos hc54, if_pos hc58]] at kt
      exact kt
    · refine XS.ifYes X0.here hx rfl (pc0 := 58) (pc' := 65) rfl (hb hby d1_58) rfl ((if0 _ _).trans (feq hc58).2) (by decide) (by decide) ?_
      show Steps p.tables e below (T0.setTop (mkF m 65 #[.val (.int kk), .val (.int g), .val (.int w), .val (.int cm), .val (.int n), .val (.long wc), .second, .val (.int fc), .val (.int ii)] [(.int cd)])) _
      refine XS.iconst X0.here hx rfl (hb hby d1_65) ?_
      rw [show (own_first_s0 g ii) = (0 : Int32) from by unfold own_first_s0; rw [if_pos hc54, if_neg hc58]] at kt
      exact kt
  · refine XS.ifYes X0.here hx rfl (pc0 := 54) (pc' := 65) rfl (hb hby d1_54) rfl ((if0 _ _).trans (feq hc54).2) (by decide) (by decide) ?_
    show Steps p.tables e below (T0.setTop (mkF m 65 #[.val (.int kk), .val (.int g), .val (.int w), .val (.int cm), .val (.int n), .val (.long wc), .second, .val (.int fc), .val (.int ii)] [(.int cd)])) _
    refine XS.iconst X0.here hx rfl (hb hby d1_65) ?_
    rw [show (own_first_s0 g ii) = (0 : Int32) from by unfold own_first_s0; rw [if_neg hc54]] at kt
    exact kt
theorem pd_0 : parseMethodDescriptor "(IZ)B" = some ⟨[.int, .boolean], some .byte⟩ := by decide +kernel
theorem pd_1 : parseMethodDescriptor "(II)I" = some ⟨[.int, .int], some .int⟩ := by decide +kernel
theorem pd_2 : parseMethodDescriptor "(I)B" = some ⟨[.int], some .byte⟩ := by decide +kernel
def own_ba (kk g w cm n : Int32) (wc : Int64) (fc : Int32) : Int32 := if kk < n then (if kk < g then (45 : Int32) else (if kk < (g + w) then (if (((cm.toUInt32 >>> ((kk - g) &&& 31).toUInt32).toInt32) &&& (1 : Int32)) = (0 : Int32) then (own_wb ((((wc.toUInt64 >>> (((3 : Int32) * (kk - g)) &&& 0x3f).toInt64.toUInt64).toInt64) &&& (7 : Int64)).toInt32) (own_first_s0 g (kk - g))) else (44 : Int32)) else (if kk = (g + w) then (46 : Int32) else (own_fb (own_fc fc (((kk - g) - w) - (1 : Int32))))))) else (0 : Int32)
def Q4a (Z : State) (kk : Int32) (g : Int32) (w : Int32) (cm : Int32) (n : Int32) (wc : Int64) (fc : Int32) (h0 : Heap) (n0 : Nat) (v : Option Value) (h : Heap) (L : List Loc) : Prop := v = some (.int (own_ba kk g w cm n wc fc)) ∧ Fr n0 L ∧ h = h0
set_option maxRecDepth 65536 in
set_option maxHeartbeats 40000000 in
theorem rm4a (l : Launch) (Z : State) (a0 : Array Value) (hw : ∀ d ∈ tables_1, d.before a0 Z = true) (ws : List Jvm.Cond) (kk : Int32) (g : Int32) (w : Int32) (cm : Int32) (n : Int32) (wc : Int64) (fc : Int32) (h0 : Heap) (n0 : Nat) (Z0 : n0 ≤ h0.size) (q1 : ¬ kk < n) :
    MetFree l (⟨"com/example/vestwright/vestwright/model/GroupedDecimalUngroupPinLaw", "byteAt", "(IIIIIJI)B"⟩ : MethodName) (head1 (Jvm.Cond.code (⟨"com/example/vestwright/vestwright/model/GroupedDecimalUngroupPinLaw", "byteAt", "(IIIIIJI)B"⟩ : MethodName) method_5_code 9 (some .byte) :: ws) ({ frames := 1, cells := 0, slots := 0, locals := 16 } : Room)) (fun a_ U_ => a_ = #[(.int kk), (.int g), (.int w), (.int cm), (.int n), (.long wc), (.int fc)] ∧ Z.Warmed39 U_.vm ∧ U_.heap = h0) (fun _ _ _ _ _ => True) (fun _ U_ o_ U' => ∃ v_ L_, o_ = .returned v_ ∧ (Q4a Z kk g w cm n wc fc h0 n0 v_ U'.heap L_) ∧ FrameEnd U_ o_ U' L_ ({ frames := 1, cells := 0, slots := 0, locals := 16 } : Room).cells ({ frames := 1, cells := 0, slots := 0, locals := 16 } : Room).slots) := by
  refine MetFree.of_bodySF (plainFor_of_name pn_1) hisR ?_
  intro p e s m args below meth c s₁ Bd hml0 hP hK
  obtain ⟨rfl, hZ, hh⟩ := hP
  have hx := Bd.exec
  have hby := Bd.bytes
  have hml : c.maxLocals = 9 := hml0
  have hown : s.vm.findClass "com/example/vestwright/vestwright/model/GroupedDecimalUngroupPinLaw" = some m.cls := findClass_of_methodNamed Bd.named
  have hnm := (name_of_methodNamed Bd.named Bd.method).1
  have X0 : Stand p l e ({ frames := 1, cells := 0, slots := 0, locals := 16 } : Room) s m #[(.int kk), (.int g), (.int w), (.int cm), (.int n), (.long wc), (.int fc)] below meth c s₁ [] 0 0 := Stand.of_body Bd
  have e0 : s₁.heap = h0 := by rw [← hh, Bd.state]; rfl
  have N0 := Fr.nil n0
  have pre0 : ∀ t, Steps p.tables e below (s₁.setTop (mkF m 0 #[.val (.int kk), .val (.int g), .val (.int w), .val (.int cm), .val (.int n), .val (.long wc), .second, .val (.int fc), .unset] [])) t → Steps p.tables e below (s₁.setTop (entryFrame m #[(.int kk), (.int g), (.int w), (.int cm), (.int n), (.long wc), (.int fc)] 9)) t := fun t k => castTop (ef_1 m kk g w cm n wc fc) k
  obtain ⟨fs, hr, hrun, hended, hW, hsame⟩ := X0.leave (v := some (.int (0 : Int32))) (fun h => by rw [Bd.returns] at h; cases h)
  refine ⟨_, _, pre0 _ ?_, hrun, hended, _, _, rfl, ⟨congrArg (fun z => some (Value.int z)) (by unfold own_ba; rw [if_neg q1]), N0, e0⟩, ⟨_, rfl⟩, hW, hsame.mono (by decide) (by decide)⟩
  show Steps p.tables e below (s₁.setTop (mkF m 0 #[.val (.int kk), .val (.int g), .val (.int w), .val (.int cm), .val (.int n), .val (.long wc), .second, .val (.int fc), .unset] [])) _
  refine XS.iloadN X0.here hx rfl (hb hby d1_0) rfl ?_
  show Steps p.tables e below (s₁.setTop (mkF m 1 #[.val (.int kk), .val (.int g), .val (.int w), .val (.int cm), .val (.int n), .val (.long wc), .second, .val (.int fc), .unset] [(.int kk)])) _
  refine XS.iload X0.here hx rfl (hb hby d1_1) rfl ?_
  show Steps p.tables e below (s₁.setTop (mkF m 3 #[.val (.int kk), .val (.int g), .val (.int w), .val (.int cm), .val (.int n), .val (.long wc), .second, .val (.int fc), .unset] [(.int n), (.int kk)])) _
  refine XS.icmpNo X0.here hx rfl (hb hby d1_3) rfl (flt q1).1 ?_
  show Steps p.tables e below (s₁.setTop (mkF m 6 #[.val (.int kk), .val (.int g), .val (.int w), .val (.int cm), .val (.int n), .val (.long wc), .second, .val (.int fc), .unset] [])) _
  refine XS.iconst X0.here hx rfl (hb hby d1_6) ?_
  show Steps p.tables e below (s₁.setTop (mkF m 7 #[.val (.int kk), .val (.int g), .val (.int w), .val (.int cm), .val (.int n), .val (.long wc), .second, .val (.int fc), .unset] [(.int (0 : Int32))])) _
  exact retN X0 hx (t := .byte) Bd.returns (by simp) (hb hby d1_7) hr
def Q4b (Z : State) (kk : Int32) (g : Int32) (w : Int32) (cm : Int32) (n : Int32) (wc : Int64) (fc : Int32) (h0 : Heap) (n0 : Nat) (v : Option Value) (h : Heap) (L : List Loc) : Prop := v = some (.int (own_ba kk g w cm n wc fc)) ∧ Fr n0 L ∧ h = h0
set_option maxRecDepth 65536 in
set_option maxHeartbeats 40000000 in
theorem rm4b (l : Launch) (Z : State) (a0 : Array Value) (hw : ∀ d ∈ tables_1, d.before a0 Z = true) (ws : List Jvm.Cond) (kk : Int32) (g : Int32) (w : Int32) (cm : Int32) (n : Int32) (wc : Int64) (fc : Int32) (h0 : Heap) (n0 : Nat) (Z0 : n0 ≤ h0.size) (q1 : kk < n) (q2 : kk < g) :
    MetFree l (⟨"com/example/vestwright/vestwright/model/GroupedDecimalUngroupPinLaw", "byteAt", "(IIIIIJI)B"⟩ : MethodName) (head1 (Jvm.Cond.code (⟨"com/example/vestwright/vestwright/model/GroupedDecimalUngroupPinLaw", "byteAt", "(IIIIIJI)B"⟩ : MethodName) method_5_code 9 (some .byte) :: ws) ({ frames := 1, cells := 0, slots := 0, locals := 16 } : Room)) (fun a_ U_ => a_ = #[(.int kk), (.int g), (.int w), (.int cm), (.int n), (.long wc), (.int fc)] ∧ Z.Warmed39 U_.vm ∧ U_.heap = h0) (fun _ _ _ _ _ => True) (fun _ U_ o_ U' => ∃ v_ L_, o_ = .returned v_ ∧ (Q4b Z kk g w cm n wc fc h0 n0 v_ U'.heap L_) ∧ FrameEnd U_ o_ U' L_ ({ frames := 1, cells := 0, slots := 0, locals := 16 } : Room).cells ({ frames := 1, cells := 0, slots := 0, locals := 16 } : Room).slots) := by
  refine MetFree.of_bodySF (plainFor_of_name pn_1) hisR ?_
  intro p e s m args below meth c s₁ Bd hml0 hP hK
  obtain ⟨rfl, hZ, hh⟩ := hP
  have hx := Bd.exec
  have hby := Bd.bytes
  have hml : c.maxLocals = 9 := hml0
  have hown : s.vm.findClass "com/example/vestwright/vestwright/model/GroupedDecimalUngroupPinLaw" = some m.cls := findClass_of_methodNamed Bd.named
  have hnm := (name_of_methodNamed Bd.named Bd.method).1
  have X0 : Stand p l e ({ frames := 1, cells := 0, slots := 0, locals := 16 } : Room) s m #[(.int kk), (.int g), (.int w), (.int cm), (.int n), (.long wc), (.int fc)] below meth c s₁ [] 0 0 := Stand.of_body Bd
  have e0 : s₁.heap = h0 := by rw [← hh, Bd.state]; rfl
  have N0 := Fr.nil n0
  have pre0 : ∀ t, Steps p.tables e below (s₁.setTop (mkF m 0 #[.val (.int kk), .val (.int g), .val (.int w), .val (.int cm), .val (.int n), .val (.long wc), .second, .val (.int fc), .unset] [])) t → Steps p.tables e below (s₁.setTop (entryFrame m #[(.int kk), (.int g), (.int w), (.int cm), (.int n), (.long wc), (.int fc)] 9)) t := fun t k => castTop (ef_1 m kk g w cm n wc fc) k
  obtain ⟨fs, hr, hrun, hended, hW, hsame⟩ := X0.leave (v := some (.int (45 : Int32))) (fun h => by rw [Bd.returns] at h; cases h)
  refine ⟨_, _, pre0 _ ?_, hrun, hended, _, _, rfl, ⟨congrArg (fun z => some (Value.int z)) (by unfold own_ba; rw [if_pos q1, if_pos q2]), N0, e0⟩, ⟨_, rfl⟩, hW, hsame.mono (by decide) (by decide)⟩
  show Steps p.tables e below (s₁.setTop (mkF m 0 #[.val (.int kk), .val (.int g), .val (.int w), .val (.int cm), .val (.int n), .val (.long wc), .second, .val (.int fc), .unset] [])) _
  refine XS.iloadN X0.here hx rfl (hb hby d1_0) rfl ?_
  show Steps p.tables e below (s₁.setTop (mkF m 1 #[.val (.int kk), .val (.int g), .val (.int w), .val (.int cm), .val (.int n), .val (.long wc), .second, .val (.int fc), .unset] [(.int kk)])) _
  refine XS.iload X0.here hx rfl (hb hby d1_1) rfl ?_
  show Steps p.tables e below (s₁.setTop (mkF m 3 #[.val (.int kk), .val (.int g), .val (.int w), .val (.int cm), .val (.int n), .val (.long wc), .second, .val (.int fc), .unset] [(.int n), (.int kk)])) _
  refine XS.icmpYes X0.here hx rfl (pc0 := 3) (pc' := 8) rfl (hb hby d1_3) rfl (tlt q1).1 (by decide) (by decide) ?_
  show Steps p.tables e below (s₁.setTop (mkF m 8 #[.val (.int kk), .val (.int g), .val (.int w), .val (.int cm), .val (.int n), .val (.long wc), .second, .val (.int fc), .unset] [])) _
  refine XS.iloadN X0.here hx rfl (hb hby d1_8) rfl ?_
  show Steps p.tables e below (s₁.setTop (mkF m 9 #[.val (.int kk), .val (.int g), .val (.int w), .val (.int cm), .val (.int n), .val (.long wc), .second, .val (.int fc), .unset] [(.int kk)])) _
  refine XS.iloadN X0.here hx rfl (hb hby d1_9) rfl ?_
  show Steps p.tables e below (s₁.setTop (mkF m 10 #[.val (.int kk), .val (.int g), .val (.int w), .val (.int cm), .val (.int n), .val (.long wc), .second, .val (.int fc), .unset] [(.int g), (.int kk)])) _
  refine XS.icmpNo X0.here hx rfl (hb hby d1_10) rfl (tlt q2).2.1 ?_
  show Steps p.tables e below (s₁.setTop (mkF m 13 #[.val (.int kk), .val (.int g), .val (.int w), .val (.int cm), .val (.int n), .val (.long wc), .second, .val (.int fc), .unset] [])) _
  refine XS.bipush X0.here hx rfl (hb hby d1_13) ?_
  show Steps p.tables e below (s₁.setTop (mkF m 15 #[.val (.int kk), .val (.int g), .val (.int w), .val (.int cm), .val (.int n), .val (.long wc), .second, .val (.int fc), .unset] [(.int (45 : Int32))])) _
  exact retN X0 hx (t := .byte) Bd.returns (by simp) (hb hby d1_15) hr
def Q4c (Z : State) (kk : Int32) (g : Int32) (w : Int32) (cm : Int32) (n : Int32) (wc : Int64) (fc : Int32) (h0 : Heap) (n0 : Nat) (v : Option Value) (h : Heap) (L : List Loc) : Prop := v = some (.int (own_ba kk g w cm n wc fc)) ∧ Fr n0 L ∧ h = h0
set_option maxRecDepth 65536 in
set_option maxHeartbeats 40000000 in
theorem rm4c (l : Launch) (Z : State) (a0 : Array Value) (hw : ∀ d ∈ tables_1, d.before a0 Z = true) (ws : List Jvm.Cond) (kk : Int32) (g : Int32) (w : Int32) (cm : Int32) (n : Int32) (wc : Int64) (fc : Int32) (h0 : Heap) (n0 : Nat) (Z0 : n0 ≤ h0.size) (q1 : kk < n) (q2 : ¬ kk < g) (q3 : kk < (g + w)) (q4 : ¬ (((cm.toUInt32 >>> ((kk - g) &&& 31).toUInt32).toInt32) &&& (1 : Int32)) = (0 : Int32)) :
    MetFree l (⟨"com/example/vestwright/vestwright/model/GroupedDecimalUngroupPinLaw", "byteAt", "(IIIIIJI)B"⟩ : MethodName) (head1 (Jvm.Cond.code (⟨"com/example/vestwright/vestwright/model/GroupedDecimalUngroupPinLaw", "byteAt", "(IIIIIJI)B"⟩ : MethodName) method_5_code 9 (some .byte) :: ws) ({ frames := 1, cells := 0, slots := 0, locals := 16 } : Room)) (fun a_ U_ => a_ = #[(.int kk), (.int g), (.int w), (.int cm), (.int n), (.long wc), (.int fc)] ∧ Z.Warmed39 U_.vm ∧ U_.heap = h0) (fun _ _ _ _ _ => True) (fun _ U_ o_ U' => ∃ v_ L_, o_ = .returned v_ ∧ (Q4c Z kk g w cm n wc fc h0 n0 v_ U'.heap L_) ∧ FrameEnd U_ o_ U' L_ ({ frames := 1, cells := 0, slots := 0, locals := 16 } : Room).cells ({ frames := 1, cells := 0, slots := 0, locals := 16 } : Room).slots) := by
  refine MetFree.of_bodySF (plainFor_of_name pn_1) hisR ?_
  intro p e s m args below meth c s₁ Bd hml0 hP hK
  obtain ⟨rfl, hZ, hh⟩ := hP
  have hx := Bd.exec
  have hby := Bd.bytes
  have hml : c.maxLocals = 9 := hml0
  have hown : s.vm.findClass "com/example/vestwright/vestwright/model/GroupedDecimalUngroupPinLaw" = some m.cls := findClass_of_methodNamed Bd.named
  have hnm := (name_of_methodNamed Bd.named Bd.method).1
  have X0 : Stand p l e ({ frames := 1, cells := 0, slots := 0, locals := 16 } : Room) s m #[(.int kk), (.int g), (.int w), (.int cm), (.int n), (.long wc), (.int fc)] below meth c s₁ [] 0 0 := Stand.of_body Bd
  have e0 : s₁.heap = h0 := by rw [← hh, Bd.state]; rfl
  have N0 := Fr.nil n0
  have pre0 : ∀ t, Steps p.tables e below (s₁.setTop (mkF m 0 #[.val (.int kk), .val (.int g), .val (.int w), .val (.int cm), .val (.int n), .val (.long wc), .second, .val (.int fc), .unset] [])) t → Steps p.tables e below (s₁.setTop (entryFrame m #[(.int kk), (.int g), (.int w), (.int cm), (.int n), (.long wc), (.int fc)] 9)) t := fun t k => castTop (ef_1 m kk g w cm n wc fc) k
  obtain ⟨fs, hr, hrun, hended, hW, hsame⟩ := X0.leave (v := some (.int (44 : Int32))) (fun h => by rw [Bd.returns] at h; cases h)
  refine ⟨_, _, pre0 _ ?_, hrun, hended, _, _, rfl, ⟨congrArg (fun z => some (Value.int z)) (by unfold own_ba; rw [if_pos q1, if_neg q2, if_pos q3, if_neg q4]), N0, e0⟩, ⟨_, rfl⟩, hW, hsame.mono (by decide) (by decide)⟩
  show Steps p.tables e below (s₁.setTop (mkF m 0 #[.val (.int kk), .val (.int g), .val (.int w), .val (.int cm), .val (.int n), .val (.long wc), .second, .val (.int fc), .unset] [])) _
  refine XS.iloadN X0.here hx rfl (hb hby d1_0) rfl ?_
  show Steps p.tables e below (s₁.setTop (mkF m 1 #[.val (.int kk), .val (.int g), .val (.int w), .val (.int cm), .val (.int n), .val (.long wc), .second, .val (.int fc), .unset] [(.int kk)])) _
  refine XS.iload X0.here hx rfl (hb hby d1_1) rfl ?_
  show Steps p.tables e below (s₁.setTop (mkF m 3 #[.val (.int kk), .val (.int g), .val (.int w), .val (.int cm), .val (.int n), .val (.long wc), .second, .val (.int fc), .unset] [(.int n), (.int kk)])) _
  refine XS.icmpYes X0.here hx rfl (pc0 := 3) (pc' := 8) rfl (hb hby d1_3) rfl (tlt q1).1 (by decide) (by decide) ?_
  show Steps p.tables e below (s₁.setTop (mkF m 8 #[.val (.int kk), .val (.int g), .val (.int w), .val (.int cm), .val (.int n), .val (.long wc), .second, .val (.int fc), .unset] [])) _
  refine XS.iloadN X0.here hx rfl (hb hby d1_8) rfl ?_
  show Steps p.tables e below (s₁.setTop (mkF m 9 #[.val (.int kk), .val (.int g), .val (.int w), .val (.int cm), .val (.int n), .val (.long wc), .second, .val (.int fc), .unset] [(.int kk)])) _
  refine XS.iloadN X0.here hx rfl (hb hby d1_9) rfl ?_
  show Steps p.tables e below (s₁.setTop (mkF m 10 #[.val (.int kk), .val (.int g), .val (.int w), .val (.int cm), .val (.int n), .val (.long wc), .second, .val (.int fc), .unset] [(.int g), (.int kk)])) _
  refine XS.icmpYes X0.here hx rfl (pc0 := 10) (pc' := 16) rfl (hb hby d1_10) rfl (flt q2).2.1 (by decide) (by decide) ?_
  show Steps p.tables e below (s₁.setTop (mkF m 16 #[.val (.int kk), .val (.int g), .val (.int w), .val (.int cm), .val (.int n), .val (.long wc), .second, .val (.int fc), .unset] [])) _
  refine XS.iloadN X0.here hx rfl (hb hby d1_16) rfl ?_
  show Steps p.tables e below (s₁.setTop (mkF m 17 #[.val (.int kk), .val (.int g), .val (.int w), .val (.int cm), .val (.int n), .val (.long wc), .second, .val (.int fc), .unset] [(.int kk)])) _
  refine XS.iloadN X0.here hx rfl (hb hby d1_17) rfl ?_
  show Steps p.tables e below (s₁.setTop (mkF m 18 #[.val (.int kk), .val (.int g), .val (.int w), .val (.int cm), .val (.int n), .val (.long wc), .second, .val (.int fc), .unset] [(.int g), (.int kk)])) _
  refine XS.iloadN X0.here hx rfl (hb hby d1_18) rfl ?_
  show Steps p.tables e below (s₁.setTop (mkF m 19 #[.val (.int kk), .val (.int g), .val (.int w), .val (.int cm), .val (.int n), .val (.long wc), .second, .val (.int fc), .unset] [(.int w), (.int g), (.int kk)])) _
  refine XS.iadd X0.here hx rfl (hb hby d1_19) rfl ?_
  show Steps p.tables e below (s₁.setTop (mkF m 20 #[.val (.int kk), .val (.int g), .val (.int w), .val (.int cm), .val (.int n), .val (.long wc), .second, .val (.int fc), .unset] [(.int (g + w)), (.int kk)])) _
  refine XS.icmpNo X0.here hx rfl (hb hby d1_20) rfl (tlt q3).2.1 ?_
  show Steps p.tables e below (s₁.setTop (mkF m 23 #[.val (.int kk), .val (.int g), .val (.int w), .val (.int cm), .val (.int n), .val (.long wc), .second, .val (.int fc), .unset] [])) _
  refine XS.iloadN X0.here hx rfl (hb hby d1_23) rfl ?_
  show Steps p.tables e below (s₁.setTop (mkF m 24 #[.val (.int kk), .val (.int g), .val (.int w), .val (.int cm), .val (.int n), .val (.long wc), .second, .val (.int fc), .unset] [(.int kk)])) _
  refine XS.iloadN X0.here hx rfl (hb hby d1_24) rfl ?_
  show Steps p.tables e below (s₁.setTop (mkF m 25 #[.val (.int kk), .val (.int g), .val (.int w), .val (.int cm), .val (.int n), .val (.long wc), .second, .val (.int fc), .unset] [(.int g), (.int kk)])) _
  refine XS.isub X0.here hx rfl (hb hby d1_25) rfl ?_
  show Steps p.tables e below (s₁.setTop (mkF m 26 #[.val (.int kk), .val (.int g), .val (.int w), .val (.int cm), .val (.int n), .val (.long wc), .second, .val (.int fc), .unset] [(.int (kk - g))])) _
  refine XS.istore X0.here hx rfl (hb hby d1_26) rfl (l' := #[.val (.int kk), .val (.int g), .val (.int w), .val (.int cm), .val (.int n), .val (.long wc), .second, .val (.int fc), .val (.int (kk - g))]) rfl ?_
  show Steps p.tables e below (s₁.setTop (mkF m 28 #[.val (.int kk), .val (.int g), .val (.int w), .val (.int cm), .val (.int n), .val (.long wc), .second, .val (.int fc), .val (.int (kk - g))] [])) _
  refine XS.iloadN X0.here hx rfl (hb hby d1_28) rfl ?_
  show Steps p.tables e below (s₁.setTop (mkF m 29 #[.val (.int kk), .val (.int g), .val (.int w), .val (.int cm), .val (.int n), .val (.long wc), .second, .val (.int fc), .val (.int (kk - g))] [(.int cm)])) _
  refine XS.iload X0.here hx rfl (hb hby d1_29) rfl ?_
  show Steps p.tables e below (s₁.setTop (mkF m 31 #[.val (.int kk), .val (.int g), .val (.int w), .val (.int cm), .val (.int n), .val (.long wc), .second, .val (.int fc), .val (.int (kk - g))] [(.int (kk - g)), (.int cm)])) _
  refine XS.iushr X0.here hx rfl (hb hby d1_31) rfl ?_
  show Steps p.tables e below (s₁.setTop (mkF m 32 #[.val (.int kk), .val (.int g), .val (.int w), .val (.int cm), .val (.int n), .val (.long wc), .second, .val (.int fc), .val (.int (kk - g))] [(.int ((cm.toUInt32 >>> ((kk - g) &&& 31).toUInt32).toInt32))])) _
  refine XS.iconst X0.here hx rfl (hb hby d1_32) ?_
  show Steps p.tables e below (s₁.setTop (mkF m 33 #[.val (.int kk), .val (.int g), .val (.int w), .val (.int cm), .val (.int n), .val (.long wc), .second, .val (.int fc), .val (.int (kk - g))] [(.int (1 : Int32)), (.int ((cm.toUInt32 >>> ((kk - g) &&& 31).toUInt32).toInt32))])) _
  refine XS.iand X0.here hx rfl (hb hby d1_33) rfl ?_
  show Steps p.tables e below (s₁.setTop (mkF m 34 #[.val (.int kk), .val (.int g), .val (.int w), .val (.int cm), .val (.int n), .val (.long wc), .second, .val (.int fc), .val (.int (kk - g))] [(.int (((cm.toUInt32 >>> ((kk - g) &&& 31).toUInt32).toInt32) &&& (1 : Int32)))])) _
  refine XS.ifNo X0.here hx rfl (hb hby d1_34) rfl ((if0 _ _).trans (feq q4).1) ?_
  show Steps p.tables e below (s₁.setTop (mkF m 37 #[.val (.int kk), .val (.int g), .val (.int w), .val (.int cm), .val (.int n), .val (.long wc), .second, .val (.int fc), .val (.int (kk - g))] [])) _
  refine XS.bipush X0.here hx rfl (hb hby d1_37) ?_
  show Steps p.tables e below (s₁.setTop (mkF m 39 #[.val (.int kk), .val (.int g), .val (.int w), .val (.int cm), .val (.int n), .val (.long wc), .second, .val (.int fc), .val (.int (kk - g))] [(.int (44 : Int32))])) _
  exact retN X0 hx (t := .byte) Bd.returns (by simp) (hb hby d1_39) hr
def Q4d (Z : State) (kk : Int32) (g : Int32) (w : Int32) (cm : Int32) (n : Int32) (wc : Int64) (fc : Int32) (h0 : Heap) (n0 : Nat) (v : Option Value) (h : Heap) (L : List Loc) : Prop := v = some (.int (own_ba kk g w cm n wc fc)) ∧ Fr n0 L ∧ h = h0
set_option maxRecDepth 65536 in
set_option maxHeartbeats 40000000 in
theorem rm4d (l : Launch) (Z : State) (a0 : Array Value) (hw : ∀ d ∈ tables_1, d.before a0 Z = true) (ws : List Jvm.Cond) (kk : Int32) (g : Int32) (w : Int32) (cm : Int32) (n : Int32) (wc : Int64) (fc : Int32) (h0 : Heap) (n0 : Nat) (Z0 : n0 ≤ h0.size) (q1 : kk < n) (q2 : ¬ kk < g) (q3 : kk < (g + w)) (q4 : (((cm.toUInt32 >>> ((kk - g) &&& 31).toUInt32).toInt32) &&& (1 : Int32)) = (0 : Int32)) :
    MetFree l (⟨"com/example/vestwright/vestwright/model/GroupedDecimalUngroupPinLaw", "byteAt", "(IIIIIJI)B"⟩ : MethodName) (head1 (Jvm.Cond.code (⟨"com/example/vestwright/vestwright/model/GroupedDecimalUngroupPinLaw", "byteAt", "(IIIIIJI)B"⟩ : MethodName) method_5_code 9 (some .byte) :: ws) ({ frames := 1, cells := 0, slots := 0, locals := 16 } : Room)) (fun a_ U_ => a_ = #[(.int kk), (.int g), (.int w), (.int cm), (.int n), (.long wc), (.int fc)] ∧ Z.Warmed39 U_.vm ∧ U_.heap = h0) (fun _ _ _ _ _ => True) (fun _ U_ o_ U' => ∃ v_ L_, o_ = .returned v_ ∧ (Q4d Z kk g w cm n wc fc h0 n0 v_ U'.heap L_) ∧ FrameEnd U_ o_ U' L_ ({ frames := 1, cells := 0, slots := 0, locals := 16 } : Room).cells ({ frames := 1, cells := 0, slots := 0, locals := 16 } : Room).slots) := by
  refine MetFree.of_bodySF (plainFor_of_name pn_1) hisR ?_
  intro p e s m args below meth c s₁ Bd hml0 hP hK
  obtain ⟨rfl, hZ, hh⟩ := hP
  have hx := Bd.exec
  have hby := Bd.bytes
  have hml : c.maxLocals = 9 := hml0
  have hown : s.vm.findClass "com/example/vestwright/vestwright/model/GroupedDecimalUngroupPinLaw" = some m.cls := findClass_of_methodNamed Bd.named
  have hnm := (name_of_methodNamed Bd.named Bd.method).1
  have X0 : Stand p l e ({ frames := 1, cells := 0, slots := 0, locals := 16 } : Room) s m #[(.int kk), (.int g), (.int w), (.int cm), (.int n), (.long wc), (.int fc)] below meth c s₁ [] 0 0 := Stand.of_body Bd
  have e0 : s₁.heap = h0 := by rw [← hh, Bd.state]; rfl
  have N0 := Fr.nil n0
  have pre0 : ∀ t, Steps p.tables e below (s₁.setTop (mkF m 0 #[.val (.int kk), .val (.int g), .val (.int w), .val (.int cm), .val (.int n), .val (.long wc), .second, .val (.int fc), .unset] [])) t → Steps p.tables e below (s₁.setTop (entryFrame m #[(.int kk), (.int g), (.int w), (.int cm), (.int n), (.long wc), (.int fc)] 9)) t := fun t k => castTop (ef_1 m kk g w cm n wc fc) k
  obtain ⟨_, _, ⟨T1, L1, k1, n1⟩, -, X1, ⟨Lc1, hQ1, l1, y1, z1⟩, st1⟩ := Jvm.LawKit.callS X0 hx (y := (⟨"com/example/vestwright/vestwright/model/GroupedDecimalUngroupPinLaw", "wholeByte", "(IZ)B"⟩ : MethodName)) hown (mvT hZ (hw _ (List.mem_of_getElem? (i := 13) rfl))) (mvT hZ (hw _ (List.mem_of_getElem? (i := 14) rfl))) (mvT hZ (hw _ (List.mem_of_getElem? (i := 3) rfl))) (mvT hZ (hw _ (List.mem_of_getElem? (i := 15) rfl))) (by decide) (backOf (W := 0) (rm1 l Z a0 hw [] ((((wc.toUInt64 >>> (((3 : Int32) * (kk - g)) &&& 0x3f).toInt64.toUInt64).toInt64) &&& (7 : Int64)).toInt32) (own_first_s0 g (kk - g))  h0 n0 Z0 ) hZ (hw _ (List.mem_of_getElem? (i := 15) rfl)) (hw _ (List.mem_of_getElem? (i := 3) rfl)) (by decide) (by decide)) (g := (mkF m 66 #[.val (.int kk), .val (.int g), .val (.int w), .val (.int cm), .val (.int n), .val (.long wc), .second, .val (.int fc), .val (.int (kk - g))] [(.int (own_first_s0 g (kk - g))), (.int ((((wc.toUInt64 >>> (((3 : Int32) * (kk - g)) &&& 0x3f).toInt64.toUInt64).toInt64) &&& (7 : Int64)).toInt32))])) rfl (by rw [hml]; rfl) (argsL := [(.int ((((wc.toUInt64 >>> (((3 : Int32) * (kk - g)) &&& 0x3f).toInt64.toUInt64).toInt64) &&& (7 : Int64)).toInt32)), (.int (own_first_s0 g (kk - g)))]) (rest := []) (lenOf pd_0 rfl) rfl (by show 2 * 0 + _ ≤ _; exact Nat.le_of_eq rfl) (hb hby d1_66) (fun _ _ => ⟨rfl, e0, (by decide : 0 + 0 ≤ _), (by decide : 0 + 0 ≤ _)⟩)
  dsimp only [Pt.U, Pt.locs, Pt.cells, Pt.slots] at X1 l1 y1 z1 st1 hQ1
  subst l1 y1 z1
  obtain ⟨rfl, Nq1, e1⟩ := hQ1
  have N1 := Fr.app N0 Nq1
  obtain ⟨fs, hr, hrun, hended, hW, hsame⟩ := X1.leave (v := some (.int (own_wb ((((wc.toUInt64 >>> (((3 : Int32) * (kk - g)) &&& 0x3f).toInt64.toUInt64).toInt64) &&& (7 : Int64)).toInt32) (own_first_s0 g (kk - g))))) (fun h => by rw [Bd.returns] at h; cases h)
  refine ⟨_, _, pre0 _ ?_, hrun, hended, _, _, rfl, ⟨congrArg (fun z => some (Value.int z)) (by unfold own_ba; rw [if_pos q1, if_neg q2, if_pos q3, if_pos q4]), N1, e1⟩, ⟨_, rfl⟩, hW, hsame.mono (by decide) (by decide)⟩
  show Steps p.tables e below (s₁.setTop (mkF m 0 #[.val (.int kk), .val (.int g), .val (.int w), .val (.int cm), .val (.int n), .val (.long wc), .second, .val (.int fc), .unset] [])) _
  refine XS.iloadN X0.here hx rfl (hb hby d1_0) rfl ?_
  show Steps p.tables e below (s₁.setTop (mkF m 1 #[.val (.int kk), .val (.int g), .val (.int w), .val (.int cm), .val (.int n), .val (.long wc), .second, .val (.int fc), .unset] [(.int kk)])) _
  refine XS.iload X0.here hx rfl (hb hby d1_1) rfl ?_
  show Steps p.tables e below (s₁.setTop (mkF m 3 #[.val (.int kk), .val (.int g), .val (.int w), .val (.int cm), .val (.int n), .val (.long wc), .second, .val (.int fc), .unset] [(.int n), (.int kk)])) _
  refine XS.icmpYes X0.here hx rfl (pc0 := 3) (pc' := 8) rfl (hb hby d1_3) rfl (tlt q1).1 (by decide) (by decide) ?_
  show Steps p.tables e below (s₁.setTop (mkF m 8 #[.val (.int kk), .val (.int g), .val (.int w), .val (.int cm), .val (.int n), .val (.long wc), .second, .val (.int fc), .unset] [])) _
  refine XS.iloadN X0.here hx rfl (hb hby d1_8) rfl ?_
  show Steps p.tables e below (s₁.setTop (mkF m 9 #[.val (.int kk), .val (.int g), .val (.int w), .val (.int cm), .val (.int n), .val (.long wc), .second, .val (.int fc), .unset] [(.int kk)])) _
  refine XS.iloadN X0.here hx rfl (hb hby d1_9) rfl ?_
  show Steps p.tables e below (s₁.setTop (mkF m 10 #[.val (.int kk), .val (.int g), .val (.int w), .val (.int cm), .val (.int n), .val (.long wc), .second, .val (.int fc), .unset] [(.int g), (.int kk)])) _
  refine XS.icmpYes X0.here hx rfl (pc0 := 10) (pc' := 16) rfl (hb hby d1_10) rfl (flt q2).2.1 (by decide) (by decide) ?_
  show Steps p.tables e below (s₁.setTop (mkF m 16 #[.val (.int kk), .val (.int g), .val (.int w), .val (.int cm), .val (.int n), .val (.long wc), .second, .val (.int fc), .unset] [])) _
  refine XS.iloadN X0.here hx rfl (hb hby d1_16) rfl ?_
  show Steps p.tables e below (s₁.setTop (mkF m 17 #[.val (.int kk), .val (.int g), .val (.int w), .val (.int cm), .val (.int n), .val (.long wc), .second, .val (.int fc), .unset] [(.int kk)])) _
  refine XS.iloadN X0.here hx rfl (hb hby d1_17) rfl ?_
  show Steps p.tables e below (s₁.setTop (mkF m 18 #[.val (.int kk), .val (.int g), .val (.int w), .val (.int cm), .val (.int n), .val (.long wc), .second, .val (.int fc), .unset] [(.int g), (.int kk)])) _
  refine XS.iloadN X0.here hx rfl (hb hby d1_18) rfl ?_
  show Steps p.tables e below (s₁.setTop (mkF m 19 #[.val (.int kk), .val (.int g), .val (.int w), .val (.int cm), .val (.int n), .val (.long wc), .second, .val (.int fc), .unset] [(.int w), (.int g), (.int kk)])) _
  refine XS.iadd X0.here hx rfl (hb hby d1_19) rfl ?_
  show Steps p.tables e below (s₁.setTop (mkF m 20 #[.val (.int kk), .val (.int g), .val (.int w), .val (.int cm), .val (.int n), .val (.long wc), .second, .val (.int fc), .unset] [(.int (g + w)), (.int kk)])) _
  refine XS.icmpNo X0.here hx rfl (hb hby d1_20) rfl (tlt q3).2.1 ?_
  show Steps p.tables e below (s₁.setTop (mkF m 23 #[.val (.int kk), .val (.int g), .val (.int w), .val (.int cm), .val (.int n), .val (.long wc), .second, .val (.int fc), .unset] [])) _
  refine XS.iloadN X0.here hx rfl (hb hby d1_23) rfl ?_
  show Steps p.tables e below (s₁.setTop (mkF m 24 #[.val (.int kk), .val (.int g), .val (.int w), .val (.int cm), .val (.int n), .val (.long wc), .second, .val (.int fc), .unset] [(.int kk)])) _
  refine XS.iloadN X0.here hx rfl (hb hby d1_24) rfl ?_
  show Steps p.tables e below (s₁.setTop (mkF m 25 #[.val (.int kk), .val (.int g), .val (.int w), .val (.int cm), .val (.int n), .val (.long wc), .second, .val (.int fc), .unset] [(.int g), (.int kk)])) _
  refine XS.isub X0.here hx rfl (hb hby d1_25) rfl ?_
  show Steps p.tables e below (s₁.setTop (mkF m 26 #[.val (.int kk), .val (.int g), .val (.int w), .val (.int cm), .val (.int n), .val (.long wc), .second, .val (.int fc), .unset] [(.int (kk - g))])) _
  refine XS.istore X0.here hx rfl (hb hby d1_26) rfl (l' := #[.val (.int kk), .val (.int g), .val (.int w), .val (.int cm), .val (.int n), .val (.long wc), .second, .val (.int fc), .val (.int (kk - g))]) rfl ?_
  show Steps p.tables e below (s₁.setTop (mkF m 28 #[.val (.int kk), .val (.int g), .val (.int w), .val (.int cm), .val (.int n), .val (.long wc), .second, .val (.int fc), .val (.int (kk - g))] [])) _
  refine XS.iloadN X0.here hx rfl (hb hby d1_28) rfl ?_
  show Steps p.tables e below (s₁.setTop (mkF m 29 #[.val (.int kk), .val (.int g), .val (.int w), .val (.int cm), .val (.int n), .val (.long wc), .second, .val (.int fc), .val (.int (kk - g))] [(.int cm)])) _
  refine XS.iload X0.here hx rfl (hb hby d1_29) rfl ?_
  show Steps p.tables e below (s₁.setTop (mkF m 31 #[.val (.int kk), .val (.int g), .val (.int w), .val (.int cm), .val (.int n), .val (.long wc), .second, .val (.int fc), .val (.int (kk - g))] [(.int (kk - g)), (.int cm)])) _
  refine XS.iushr X0.here hx rfl (hb hby d1_31) rfl ?_
  show Steps p.tables e below (s₁.setTop (mkF m 32 #[.val (.int kk), .val (.int g), .val (.int w), .val (.int cm), .val (.int n), .val (.long wc), .second, .val (.int fc), .val (.int (kk - g))] [(.int ((cm.toUInt32 >>> ((kk - g) &&& 31).toUInt32).toInt32))])) _
  refine XS.iconst X0.here hx rfl (hb hby d1_32) ?_
  show Steps p.tables e below (s₁.setTop (mkF m 33 #[.val (.int kk), .val (.int g), .val (.int w), .val (.int cm), .val (.int n), .val (.long wc), .second, .val (.int fc), .val (.int (kk - g))] [(.int (1 : Int32)), (.int ((cm.toUInt32 >>> ((kk - g) &&& 31).toUInt32).toInt32))])) _
  refine XS.iand X0.here hx rfl (hb hby d1_33) rfl ?_
  show Steps p.tables e below (s₁.setTop (mkF m 34 #[.val (.int kk), .val (.int g), .val (.int w), .val (.int cm), .val (.int n), .val (.long wc), .second, .val (.int fc), .val (.int (kk - g))] [(.int (((cm.toUInt32 >>> ((kk - g) &&& 31).toUInt32).toInt32) &&& (1 : Int32)))])) _
  refine XS.ifYes X0.here hx rfl (pc0 := 34) (pc' := 40) rfl (hb hby d1_34) rfl ((if0 _ _).trans (teq q4).1) (by decide) (by decide) ?_
  show Steps p.tables e below (s₁.setTop (mkF m 40 #[.val (.int kk), .val (.int g), .val (.int w), .val (.int cm), .val (.int n), .val (.long wc), .second, .val (.int fc), .val (.int (kk - g))] [])) _
  refine XS.lload X0.here hx rfl (hb hby d1_40) rfl ?_
  show Steps p.tables e below (s₁.setTop (mkF m 42 #[.val (.int kk), .val (.int g), .val (.int w), .val (.int cm), .val (.int n), .val (.long wc), .second, .val (.int fc), .val (.int (kk - g))] [(.long wc)])) _
  refine XS.iconst X0.here hx rfl (hb hby d1_42) ?_
  show Steps p.tables e below (s₁.setTop (mkF m 43 #[.val (.int kk), .val (.int g), .val (.int w), .val (.int cm), .val (.int n), .val (.long wc), .second, .val (.int fc), .val (.int (kk - g))] [(.int (3 : Int32)), (.long wc)])) _
  refine XS.iload X0.here hx rfl (hb hby d1_43) rfl ?_
  show Steps p.tables e below (s₁.setTop (mkF m 45 #[.val (.int kk), .val (.int g), .val (.int w), .val (.int cm), .val (.int n), .val (.long wc), .second, .val (.int fc), .val (.int (kk - g))] [(.int (kk - g)), (.int (3 : Int32)), (.long wc)])) _
  refine XS.imul X0.here hx rfl (hb hby d1_45) rfl ?_
  show Steps p.tables e below (s₁.setTop (mkF m 46 #[.val (.int kk), .val (.int g), .val (.int w), .val (.int cm), .val (.int n), .val (.long wc), .second, .val (.int fc), .val (.int (kk - g))] [(.int ((3 : Int32) * (kk - g))), (.long wc)])) _
  refine XS.lushr X0.here hx rfl (hb hby d1_46) rfl ?_
  show Steps p.tables e below (s₁.setTop (mkF m 47 #[.val (.int kk), .val (.int g), .val (.int w), .val (.int cm), .val (.int n), .val (.long wc), .second, .val (.int fc), .val (.int (kk - g))] [(.long ((wc.toUInt64 >>> (((3 : Int32) * (kk - g)) &&& 0x3f).toInt64.toUInt64).toInt64))])) _
  refine X0.ldc2J hx hown (mvT hZ (hw _ (List.mem_of_getElem? (i := 12) rfl))) rfl (hb hby d1_47) ?_
  show Steps p.tables e below (s₁.setTop (mkF m 50 #[.val (.int kk), .val (.int g), .val (.int w), .val (.int cm), .val (.int n), .val (.long wc), .second, .val (.int fc), .val (.int (kk - g))] [(.long (7 : Int64)), (.long ((wc.toUInt64 >>> (((3 : Int32) * (kk - g)) &&& 0x3f).toInt64.toUInt64).toInt64))])) _
  refine XS.land X0.here hx rfl (hb hby d1_50) rfl ?_
  show Steps p.tables e below (s₁.setTop (mkF m 51 #[.val (.int kk), .val (.int g), .val (.int w), .val (.int cm), .val (.int n), .val (.long wc), .second, .val (.int fc), .val (.int (kk - g))] [(.long (((wc.toUInt64 >>> (((3 : Int32) * (kk - g)) &&& 0x3f).toInt64.toUInt64).toInt64) &&& (7 : Int64)))])) _
  refine XS.l2i X0.here hx rfl (hb hby d1_51) rfl ?_
  show Steps p.tables e below (s₁.setTop (mkF m 52 #[.val (.int kk), .val (.int g), .val (.int w), .val (.int cm), .val (.int n), .val (.long wc), .second, .val (.int fc), .val (.int (kk - g))] [(.int ((((wc.toUInt64 >>> (((3 : Int32) * (kk - g)) &&& 0x3f).toInt64.toUInt64).toInt64) &&& (7 : Int64)).toInt32))])) _
  refine sg_first kk g w cm n wc fc (kk - g) ((((wc.toUInt64 >>> (((3 : Int32) * (kk - g)) &&& 0x3f).toInt64.toUInt64).toInt64) &&& (7 : Int64)).toInt32) X0 hx hZ hw hby hown e0  ?_
  show Steps p.tables e below (s₁.setTop (mkF m 66 #[.val (.int kk), .val (.int g), .val (.int w), .val (.int cm), .val (.int n), .val (.long wc), .second, .val (.int fc), .val (.int (kk - g))] [(.int (own_first_s0 g (kk - g))), (.int ((((wc.toUInt64 >>> (((3 : Int32) * (kk - g)) &&& 0x3f).toInt64.toUInt64).toInt64) &&& (7 : Int64)).toInt32))])) _
  refine st1 _ ?_
  rw [← own_wb_n] at hr
  show Steps p.tables e below (T1.setTop (mkF m 69 #[.val (.int kk), .val (.int g), .val (.int w), .val (.int cm), .val (.int n), .val (.long wc), .second, .val (.int fc), .val (.int (kk - g))] [(.int (own_wb ((((wc.toUInt64 >>> (((3 : Int32) * (kk - g)) &&& 0x3f).toInt64.toUInt64).toInt64) &&& (7 : Int64)).toInt32) (own_first_s0 g (kk - g))))])) _
  exact retN X1 hx (t := .byte) Bd.returns (by simp) (hb hby d1_69) hr
def Q4e (Z : State) (kk : Int32) (g : Int32) (w : Int32) (cm : Int32) (n : Int32) (wc : Int64) (fc : Int32) (h0 : Heap) (n0 : Nat) (v : Option Value) (h : Heap) (L : List Loc) : Prop := v = some (.int (own_ba kk g w cm n wc fc)) ∧ Fr n0 L ∧ h = h0
set_option maxRecDepth 65536 in
set_option maxHeartbeats 40000000 in
theorem rm4e (l : Launch) (Z : State) (a0 : Array Value) (hw : ∀ d ∈ tables_1, d.before a0 Z = true) (ws : List Jvm.Cond) (kk : Int32) (g : Int32) (w : Int32) (cm : Int32) (n : Int32) (wc : Int64) (fc : Int32) (h0 : Heap) (n0 : Nat) (Z0 : n0 ≤ h0.size) (q1 : kk < n) (q2 : ¬ kk < g) (q3 : ¬ kk < (g + w)) (q5 : kk = (g + w)) :
    MetFree l (⟨"com/example/vestwright/vestwright/model/GroupedDecimalUngroupPinLaw", "byteAt", "(IIIIIJI)B"⟩ : MethodName) (head1 (Jvm.Cond.code (⟨"com/example/vestwright/vestwright/model/GroupedDecimalUngroupPinLaw", "byteAt", "(IIIIIJI)B"⟩ : MethodName) method_5_code 9 (some .byte) :: ws) ({ frames := 1, cells := 0, slots := 0, locals := 16 } : Room)) (fun a_ U_ => a_ = #[(.int kk), (.int g), (.int w), (.int cm), (.int n), (.long wc), (.int fc)] ∧ Z.Warmed39 U_.vm ∧ U_.heap = h0) (fun _ _ _ _ _ => True) (fun _ U_ o_ U' => ∃ v_ L_, o_ = .returned v_ ∧ (Q4e Z kk g w cm n wc fc h0 n0 v_ U'.heap L_) ∧ FrameEnd U_ o_ U' L_ ({ frames := 1, cells := 0, slots := 0, locals := 16 } : Room).cells ({ frames := 1, cells := 0, slots := 0, locals := 16 } : Room).slots) := by
  refine MetFree.of_bodySF (plainFor_of_name pn_1) hisR ?_
  intro p e s m args below meth c s₁ Bd hml0 hP hK
  obtain ⟨rfl, hZ, hh⟩ := hP
  have hx := Bd.exec
  have hby := Bd.bytes
  have hml : c.maxLocals = 9 := hml0
  have hown : s.vm.findClass "com/example/vestwright/vestwright/model/GroupedDecimalUngroupPinLaw" = some m.cls := findClass_of_methodNamed Bd.named
  have hnm := (name_of_methodNamed Bd.named Bd.method).1
  have X0 : Stand p l e ({ frames := 1, cells := 0, slots := 0, locals := 16 } : Room) s m #[(.int kk), (.int g), (.int w), (.int cm), (.int n), (.long wc), (.int fc)] below meth c s₁ [] 0 0 := Stand.of_body Bd
  have e0 : s₁.heap = h0 := by rw [← hh, Bd.state]; rfl
  have N0 := Fr.nil n0
  have pre0 : ∀ t, Steps p.tables e below (s₁.setTop (mkF m 0 #[.val (.int kk), .val (.int g), .val (.int w), .val (.int cm), .val (.int n), .val (.long wc), .second, .val (.int fc), .unset] [])) t → Steps p.tables e below (s₁.setTop (entryFrame m #[(.int kk), (.int g), (.int w), (.int cm), (.int n), (.long wc), (.int fc)] 9)) t := fun t k => castTop (ef_1 m kk g w cm n wc fc) k
  obtain ⟨fs, hr, hrun, hended, hW, hsame⟩ := X0.leave (v := some (.int (46 : Int32))) (fun h => by rw [Bd.returns] at h; cases h)
  refine ⟨_, _, pre0 _ ?_, hrun, hended, _, _, rfl, ⟨congrArg (fun z => some (Value.int z)) (by unfold own_ba; rw [if_pos q1, if_neg q2, if_neg q3, if_pos q5]), N0, e0⟩, ⟨_, rfl⟩, hW, hsame.mono (by decide) (by decide)⟩
  show Steps p.tables e below (s₁.setTop (mkF m 0 #[.val (.int kk), .val (.int g), .val (.int w), .val (.int cm), .val (.int n), .val (.long wc), .second, .val (.int fc), .unset] [])) _
  refine XS.iloadN X0.here hx rfl (hb hby d1_0) rfl ?_
  show Steps p.tables e below (s₁.setTop (mkF m 1 #[.val (.int kk), .val (.int g), .val (.int w), .val (.int cm), .val (.int n), .val (.long wc), .second, .val (.int fc), .unset] [(.int kk)])) _
  refine XS.iload X0.here hx rfl (hb hby d1_1) rfl ?_
  show Steps p.tables e below (s₁.setTop (mkF m 3 #[.val (.int kk), .val (.int g), .val (.int w), .val (.int cm), .val (.int n), .val (.long wc), .second, .val (.int fc), .unset] [(.int n), (.int kk)])) _
  refine XS.icmpYes X0.here hx rfl (pc0 := 3) (pc' := 8) rfl (hb hby d1_3) rfl (tlt q1).1 (by decide) (by decide) ?_
  show Steps p.tables e below (s₁.setTop (mkF m 8 #[.val (.int kk), .val (.int g), .val (.int w), .val (.int cm), .val (.int n), .val (.long wc), .second, .val (.int fc), .unset] [])) _
  refine XS.iloadN X0.here hx rfl (hb hby d1_8) rfl ?_
  show Steps p.tables e below (s₁.setTop (mkF m 9 #[.val (.int kk), .val (.int g), .val (.int w), .val (.int cm), .val (.int n), .val (.long wc), .second, .val (.int fc), .unset] [(.int kk)])) _
  refine XS.iloadN X0.here hx rfl (hb hby d1_9) rfl ?_
  show Steps p.tables e below (s₁.setTop (mkF m 10 #[.val (.int kk), .val (.int g), .val (.int w), .val (.int cm), .val (.int n), .val (.long wc), .second, .val (.int fc), .unset] [(.int g), (.int kk)])) _
  refine XS.icmpYes X0.here hx rfl (pc0 := 10) (pc' := 16) rfl (hb hby d1_10) rfl (flt q2).2.1 (by decide) (by decide) ?_
  show Steps p.tables e below (s₁.setTop (mkF m 16 #[.val (.int kk), .val (.int g), .val (.int w), .val (.int cm), .val (.int n), .val (.long wc), .second, .val (.int fc), .unset] [])) _
  refine XS.iloadN X0.here hx rfl (hb hby d1_16) rfl ?_
  show Steps p.tables e below (s₁.setTop (mkF m 17 #[.val (.int kk), .val (.int g), .val (.int w), .val (.int cm), .val (.int n), .val (.long wc), .second, .val (.int fc), .unset] [(.int kk)])) _
  refine XS.iloadN X0.here hx rfl (hb hby d1_17) rfl ?_
  show Steps p.tables e below (s₁.setTop (mkF m 18 #[.val (.int kk), .val (.int g), .val (.int w), .val (.int cm), .val (.int n), .val (.long wc), .second, .val (.int fc), .unset] [(.int g), (.int kk)])) _
  refine XS.iloadN X0.here hx rfl (hb hby d1_18) rfl ?_
  show Steps p.tables e below (s₁.setTop (mkF m 19 #[.val (.int kk), .val (.int g), .val (.int w), .val (.int cm), .val (.int n), .val (.long wc), .second, .val (.int fc), .unset] [(.int w), (.int g), (.int kk)])) _
  refine XS.iadd X0.here hx rfl (hb hby d1_19) rfl ?_
  show Steps p.tables e below (s₁.setTop (mkF m 20 #[.val (.int kk), .val (.int g), .val (.int w), .val (.int cm), .val (.int n), .val (.long wc), .second, .val (.int fc), .unset] [(.int (g + w)), (.int kk)])) _
  refine XS.icmpYes X0.here hx rfl (pc0 := 20) (pc' := 70) rfl (hb hby d1_20) rfl (flt q3).2.1 (by decide) (by decide) ?_
  show Steps p.tables e below (s₁.setTop (mkF m 70 #[.val (.int kk), .val (.int g), .val (.int w), .val (.int cm), .val (.int n), .val (.long wc), .second, .val (.int fc), .unset] [])) _
  refine XS.iloadN X0.here hx rfl (hb hby d1_70) rfl ?_
  show Steps p.tables e below (s₁.setTop (mkF m 71 #[.val (.int kk), .val (.int g), .val (.int w), .val (.int cm), .val (.int n), .val (.long wc), .second, .val (.int fc), .unset] [(.int kk)])) _
  refine XS.iloadN X0.here hx rfl (hb hby d1_71) rfl ?_
  show Steps p.tables e below (s₁.setTop (mkF m 72 #[.val (.int kk), .val (.int g), .val (.int w), .val (.int cm), .val (.int n), .val (.long wc), .second, .val (.int fc), .unset] [(.int g), (.int kk)])) _
  refine XS.iloadN X0.here hx rfl (hb hby d1_72) rfl ?_
  show Steps p.tables e below (s₁.setTop (mkF m 73 #[.val (.int kk), .val (.int g), .val (.int w), .val (.int cm), .val (.int n), .val (.long wc), .second, .val (.int fc), .unset] [(.int w), (.int g), (.int kk)])) _
  refine XS.iadd X0.here hx rfl (hb hby d1_73) rfl ?_
  show Steps p.tables e below (s₁.setTop (mkF m 74 #[.val (.int kk), .val (.int g), .val (.int w), .val (.int cm), .val (.int n), .val (.long wc), .second, .val (.int fc), .unset] [(.int (g + w)), (.int kk)])) _
  refine XS.icmpNo X0.here hx rfl (hb hby d1_74) rfl (teq q5).2 ?_
  show Steps p.tables e below (s₁.setTop (mkF m 77 #[.val (.int kk), .val (.int g), .val (.int w), .val (.int cm), .val (.int n), .val (.long wc), .second, .val (.int fc), .unset] [])) _
  refine XS.bipush X0.here hx rfl (hb hby d1_77) ?_
  show Steps p.tables e below (s₁.setTop (mkF m 79 #[.val (.int kk), .val (.int g), .val (.int w), .val (.int cm), .val (.int n), .val (.long wc), .second, .val (.int fc), .unset] [(.int (46 : Int32))])) _
  exact retN X0 hx (t := .byte) Bd.returns (by simp) (hb hby d1_79) hr
def Q4f (Z : State) (kk : Int32) (g : Int32) (w : Int32) (cm : Int32) (n : Int32) (wc : Int64) (fc : Int32) (h0 : Heap) (n0 : Nat) (v : Option Value) (h : Heap) (L : List Loc) : Prop := v = some (.int (own_ba kk g w cm n wc fc)) ∧ Fr n0 L ∧ h = h0
set_option maxRecDepth 65536 in
set_option maxHeartbeats 40000000 in
theorem rm4f (l : Launch) (Z : State) (a0 : Array Value) (hw : ∀ d ∈ tables_1, d.before a0 Z = true) (ws : List Jvm.Cond) (kk : Int32) (g : Int32) (w : Int32) (cm : Int32) (n : Int32) (wc : Int64) (fc : Int32) (h0 : Heap) (n0 : Nat) (Z0 : n0 ≤ h0.size) (q1 : kk < n) (q2 : ¬ kk < g) (q3 : ¬ kk < (g + w)) (q5 : ¬ kk = (g + w)) :
    MetFree l (⟨"com/example/vestwright/vestwright/model/GroupedDecimalUngroupPinLaw", "byteAt", "(IIIIIJI)B"⟩ : MethodName) (head1 (Jvm.Cond.code (⟨"com/example/vestwright/vestwright/model/GroupedDecimalUngroupPinLaw", "byteAt", "(IIIIIJI)B"⟩ : MethodName) method_5_code 9 (some .byte) :: ws) ({ frames := 1, cells := 0, slots := 0, locals := 16 } : Room)) (fun a_ U_ => a_ = #[(.int kk), (.int g), (.int w), (.int cm), (.int n), (.long wc), (.int fc)] ∧ Z.Warmed39 U_.vm ∧ U_.heap = h0) (fun _ _ _ _ _ => True) (fun _ U_ o_ U' => ∃ v_ L_, o_ = .returned v_ ∧ (Q4f Z kk g w cm n wc fc h0 n0 v_ U'.heap L_) ∧ FrameEnd U_ o_ U' L_ ({ frames := 1, cells := 0, slots := 0, locals := 16 } : Room).cells ({ frames := 1, cells := 0, slots := 0, locals := 16 } : Room).slots) := by
  refine MetFree.of_bodySF (plainFor_of_name pn_1) hisR ?_
  intro p e s m args below meth c s₁ Bd hml0 hP hK
  obtain ⟨rfl, hZ, hh⟩ := hP
  have hx := Bd.exec
  have hby := Bd.bytes
  have hml : c.maxLocals = 9 := hml0
  have hown : s.vm.findClass "com/example/vestwright/vestwright/model/GroupedDecimalUngroupPinLaw" = some m.cls := findClass_of_methodNamed Bd.named
  have hnm := (name_of_methodNamed Bd.named Bd.method).1
  have X0 : Stand p l e ({ frames := 1, cells := 0, slots := 0, locals := 16 } : Room) s m #[(.int kk), (.int g), (.int w), (.int cm), (.int n), (.long wc), (.int fc)] below meth c s₁ [] 0 0 := Stand.of_body Bd
  have e0 : s₁.heap = h0 := by rw [← hh, Bd.state]; rfl
  have N0 := Fr.nil n0
  have pre0 : ∀ t, Steps p.tables e below (s₁.setTop (mkF m 0 #[.val (.int kk), .val (.int g), .val (.int w), .val (.int cm), .val (.int n), .val (.long wc), .second, .val (.int fc), .unset] [])) t → Steps p.tables e below (s₁.setTop (entryFrame m #[(.int kk), (.int g), (.int w), (.int cm), (.int n), (.long wc), (.int fc)] 9)) t := fun t k => castTop (ef_1 m kk g w cm n wc fc) k
  obtain ⟨_, _, ⟨T1, L1, k1, n1⟩, -, X1, ⟨Lc1, hQ1, l1, y1, z1⟩, st1⟩ := Jvm.LawKit.callS X0 hx (y := (⟨"com/example/vestwright/vestwright/model/GroupedDecimalUngroupPinLaw", "fracCode", "(II)I"⟩ : MethodName)) hown (mvT hZ (hw _ (List.mem_of_getElem? (i := 16) rfl))) (mvT hZ (hw _ (List.mem_of_getElem? (i := 17) rfl))) (mvT hZ (hw _ (List.mem_of_getElem? (i := 3) rfl))) (mvT hZ (hw _ (List.mem_of_getElem? (i := 18) rfl))) (by decide) (backOf (W := 0) (rm2 l Z a0 hw [] fc (((kk - g) - w) - (1 : Int32))  h0 n0 Z0 ) hZ (hw _ (List.mem_of_getElem? (i := 18) rfl)) (hw _ (List.mem_of_getElem? (i := 3) rfl)) (by decide) (by decide)) (g := (mkF m 89 #[.val (.int kk), .val (.int g), .val (.int w), .val (.int cm), .val (.int n), .val (.long wc), .second, .val (.int fc), .unset] [(.int (((kk - g) - w) - (1 : Int32))), (.int fc)])) rfl (by rw [hml]; rfl) (argsL := [(.int fc), (.int (((kk - g) - w) - (1 : Int32)))]) (rest := []) (lenOf pd_1 rfl) rfl (by show 2 * 0 + _ ≤ _; exact Nat.le_of_eq rfl) (hb hby d1_89) (fun _ _ => ⟨rfl, e0, (by decide : 0 + 0 ≤ _), (by decide : 0 + 0 ≤ _)⟩)
  dsimp only [Pt.U, Pt.locs, Pt.cells, Pt.slots] at X1 l1 y1 z1 st1 hQ1
  subst l1 y1 z1
  obtain ⟨rfl, Nq1, e1⟩ := hQ1
  have N1 := Fr.app N0 Nq1
  obtain ⟨Lg2, Xg2, Ng2⟩ := own_gen X1 N1
  obtain ⟨_, _, ⟨T3, L3, k3, n3⟩, -, X3, ⟨Lc3, hQ3, l3, y3, z3⟩, st3⟩ := Jvm.LawKit.callS Xg2 hx (y := (⟨"com/example/vestwright/vestwright/model/GroupedDecimalUngroupPinLaw", "fracByte", "(I)B"⟩ : MethodName)) hown (mvT hZ (hw _ (List.mem_of_getElem? (i := 19) rfl))) (mvT hZ (hw _ (List.mem_of_getElem? (i := 20) rfl))) (mvT hZ (hw _ (List.mem_of_getElem? (i := 3) rfl))) (mvT hZ (hw _ (List.mem_of_getElem? (i := 21) rfl))) (by decide) (backOf (W := 0) (rm3 l Z a0 hw [] (own_fc fc (((kk - g) - w) - (1 : Int32)))  h0 n0 Z0 ) hZ (hw _ (List.mem_of_getElem? (i := 21) rfl)) (hw _ (List.mem_of_getElem? (i := 3) rfl)) (by decide) (by decide)) (g := (mkF m 92 #[.val (.int kk), .val (.int g), .val (.int w), .val (.int cm), .val (.int n), .val (.long wc), .second, .val (.int fc), .unset] [(.int (own_fc fc (((kk - g) - w) - (1 : Int32))))])) rfl (by rw [hml]; rfl) (argsL := [(.int (own_fc fc (((kk - g) - w) - (1 : Int32))))]) (rest := []) (lenOf pd_2 rfl) rfl (by show 2 * 0 + _ ≤ _; exact Nat.le_of_eq rfl) (hb hby d1_92) (fun _ _ => ⟨rfl, e1, (by decide : 0 + 0 ≤ _), (by decide : 0 + 0 ≤ _)⟩)
  dsimp only [Pt.U, Pt.locs, Pt.cells, Pt.slots] at X3 l3 y3 z3 st3 hQ3
  subst l3 y3 z3
  obtain ⟨rfl, Nq3, e3⟩ := hQ3
  have N3 := Fr.app Ng2 Nq3
  obtain ⟨fs, hr, hrun, hended, hW, hsame⟩ := X3.leave (v := some (.int (own_fb (own_fc fc (((kk - g) - w) - (1 : Int32)))))) (fun h => by rw [Bd.returns] at h; cases h)
  refine ⟨_, _, pre0 _ ?_, hrun, hended, _, _, rfl, ⟨congrArg (fun z => some (Value.int z)) (by unfold own_ba; rw [if_pos q1, if_neg q2, if_neg q3, if_neg q5]), N3, e3⟩, ⟨_, rfl⟩, hW, hsame.mono (by decide) (by decide)⟩
  show Steps p.tables e below (s₁.setTop (mkF m 0 #[.val (.int kk), .val (.int g), .val (.int w), .val (.int cm), .val (.int n), .val (.long wc), .second, .val (.int fc), .unset] [])) _
  refine XS.iloadN X0.here hx rfl (hb hby d1_0) rfl ?_
  show Steps p.tables e below (s₁.setTop (mkF m 1 #[.val (.int kk), .val (.int g), .val (.int w), .val (.int cm), .val (.int n), .val (.long wc), .second, .val (.int fc), .unset] [(.int kk)])) _
  refine XS.iload X0.here hx rfl (hb hby d1_1) rfl ?_
  show Steps p.tables e below (s₁.setTop (mkF m 3 #[.val (.int kk), .val (.int g), .val (.int w), .val (.int cm), .val (.int n), .val (.long wc), .second, .val (.int fc), .unset] [(.int n), (.int kk)])) _
  refine XS.icmpYes X0.here hx rfl (pc0 := 3) (pc' := 8) rfl (hb hby d1_3) rfl (tlt q1).1 (by decide) (by decide) ?_
  show Steps p.tables e below (s₁.setTop (mkF m 8 #[.val (.int kk), .val (.int g), .val (.int w), .val (.int cm), .val (.int n), .val (.long wc), .second, .val (.int fc), .unset] [])) _
  refine XS.iloadN X0.here hx rfl (hb hby d1_8) rfl ?_
  show Steps p.tables e below (s₁.setTop (mkF m 9 #[.val (.int kk), .val (.int g), .val (.int w), .val (.int cm), .val (.int n), .val (.long wc), .second, .val (.int fc), .unset] [(.int kk)])) _
  refine XS.iloadN X0.here hx rfl (hb hby d1_9) rfl ?_
  show Steps p.tables e below (s₁.setTop (mkF m 10 #[.val (.int kk), .val (.int g), .val (.int w), .val (.int cm), .val (.int n), .val (.long wc), .second, .val (.int fc), .unset] [(.int g), (.int kk)])) _
  refine XS.icmpYes X0.here hx rfl (pc0 := 10) (pc' := 16) rfl (hb hby d1_10) rfl (flt q2).2.1 (by decide) (by decide) ?_
  show Steps p.tables e below (s₁.setTop (mkF m 16 #[.val (.int kk), .val (.int g), .val (.int w), .val (.int cm), .val (.int n), .val (.long wc), .second, .val (.int fc), .unset] [])) _
  refine XS.iloadN X0.here hx rfl (hb hby d1_16) rfl ?_
  show Steps p.tables e below (s₁.setTop (mkF m 17 #[.val (.int kk), .val (.int g), .val (.int w), .val (.int cm), .val (.int n), .val (.long wc), .second, .val (.int fc), .unset] [(.int kk)])) _
  refine XS.iloadN X0.here hx rfl (hb hby d1_17) rfl ?_
  show Steps p.tables e below (s₁.setTop (mkF m 18 #[.val (.int kk), .val (.int g), .val (.int w), .val (.int cm), .val (.int n), .val (.long wc), .second, .val (.int fc), .unset] [(.int g), (.int kk)])) _
  refine XS.iloadN X0.here hx rfl (hb hby d1_18) rfl ?_
  show Steps p.tables e below (s₁.setTop (mkF m 19 #[.val (.int kk), .val (.int g), .val (.int w), .val (.int cm), .val (.int n), .val (.long wc), .second, .val (.int fc), .unset] [(.int w), (.int g), (.int kk)])) _
  refine XS.iadd X0.here hx rfl (hb hby d1_19) rfl ?_
  show Steps p.tables e below (s₁.setTop (mkF m 20 #[.val (.int kk), .val (.int g), .val (.int w), .val (.int cm), .val (.int n), .val (.long wc), .second, .val (.int fc), .unset] [(.int (g + w)), (.int kk)])) _
  refine XS.icmpYes X0.here hx rfl (pc0 := 20) (pc' := 70) rfl (hb hby d1_20) rfl (flt q3).2.1 (by decide) (by decide) ?_
  show Steps p.tables e below (s₁.setTop (mkF m 70 #[.val (.int kk), .val (.int g), .val (.int w), .val (.int cm), .val (.int n), .val (.long wc), .second, .val (.int fc), .unset] [])) _
  refine XS.iloadN X0.here hx rfl (hb hby d1_70) rfl ?_
  show Steps p.tables e below (s₁.setTop (mkF m 71 #[.val (.int kk), .val (.int g), .val (.int w), .val (.int cm), .val (.int n), .val (.long wc), .second, .val (.int fc), .unset] [(.int kk)])) _
  refine XS.iloadN X0.here hx rfl (hb hby d1_71) rfl ?_
  show Steps p.tables e below (s₁.setTop (mkF m 72 #[.val (.int kk), .val (.int g), .val (.int w), .val (.int cm), .val (.int n), .val (.long wc), .second, .val (.int fc), .unset] [(.int g), (.int kk)])) _
  refine XS.iloadN X0.here hx rfl (hb hby d1_72) rfl ?_
  show Steps p.tables e below (s₁.setTop (mkF m 73 #[.val (.int kk), .val (.int g), .val (.int w), .val (.int cm), .val (.int n), .val (.long wc), .second, .val (.int fc), .unset] [(.int w), (.int g), (.int kk)])) _
  refine XS.iadd X0.here hx rfl (hb hby d1_73) rfl ?_
  show Steps p.tables e below (s₁.setTop (mkF m 74 #[.val (.int kk), .val (.int g), .val (.int w), .val (.int cm), .val (.int n), .val (.long wc), .second, .val (.int fc), .unset] [(.int (g + w)), (.int kk)])) _
  refine XS.icmpYes X0.here hx rfl (pc0 := 74) (pc' := 80) rfl (hb hby d1_74) rfl (feq q5).2 (by decide) (by decide) ?_
  show Steps p.tables e below (s₁.setTop (mkF m 80 #[.val (.int kk), .val (.int g), .val (.int w), .val (.int cm), .val (.int n), .val (.long wc), .second, .val (.int fc), .unset] [])) _
  refine XS.iload X0.here hx rfl (hb hby d1_80) rfl ?_
  show Steps p.tables e below (s₁.setTop (mkF m 82 #[.val (.int kk), .val (.int g), .val (.int w), .val (.int cm), .val (.int n), .val (.long wc), .second, .val (.int fc), .unset] [(.int fc)])) _
  refine XS.iloadN X0.here hx rfl (hb hby d1_82) rfl ?_
  show Steps p.tables e below (s₁.setTop (mkF m 83 #[.val (.int kk), .val (.int g), .val (.int w), .val (.int cm), .val (.int n), .val (.long wc), .second, .val (.int fc), .unset] [(.int kk), (.int fc)])) _
  refine XS.iloadN X0.here hx rfl (hb hby d1_83) rfl ?_
  show Steps p.tables e below (s₁.setTop (mkF m 84 #[.val (.int kk), .val (.int g), .val (.int w), .val (.int cm), .val (.int n), .val (.long wc), .second, .val (.int fc), .unset] [(.int g), (.int kk), (.int fc)])) _
  refine XS.isub X0.here hx rfl (hb hby d1_84) rfl ?_
  show Steps p.tables e below (s₁.setTop (mkF m 85 #[.val (.int kk), .val (.int g), .val (.int w), .val (.int cm), .val (.int n), .val (.long wc), .second, .val (.int fc), .unset] [(.int (kk - g)), (.int fc)])) _
  refine XS.iloadN X0.here hx rfl (hb hby d1_85) rfl ?_
  show Steps p.tables e below (s₁.setTop (mkF m 86 #[.val (.int kk), .val (.int g), .val (.int w), .val (.int cm), .val (.int n), .val (.long wc), .second, .val (.int fc), .unset] [(.int w), (.int (kk - g)), (.int fc)])) _
  refine XS.isub X0.here hx rfl (hb hby d1_86) rfl ?_
  show Steps p.tables e below (s₁.setTop (mkF m 87 #[.val (.int kk), .val (.int g), .val (.int w), .val (.int cm), .val (.int n), .val (.long wc), .second, .val (.int fc), .unset] [(.int ((kk - g) - w)), (.int fc)])) _
  refine XS.iconst X0.here hx rfl (hb hby d1_87) ?_
  show Steps p.tables e below (s₁.setTop (mkF m 88 #[.val (.int kk), .val (.int g), .val (.int w), .val (.int cm), .val (.int n), .val (.long wc), .second, .val (.int fc), .unset] [(.int (1 : Int32)), (.int ((kk - g) - w)), (.int fc)])) _
  refine XS.isub X0.here hx rfl (hb hby d1_88) rfl ?_
  show Steps p.tables e below (s₁.setTop (mkF m 89 #[.val (.int kk), .val (.int g), .val (.int w), .val (.int cm), .val (.int n), .val (.long wc), .second, .val (.int fc), .unset] [(.int (((kk - g) - w) - (1 : Int32))), (.int fc)])) _
  refine st1 _ ?_
  show Steps p.tables e below (T1.setTop (mkF m 92 #[.val (.int kk), .val (.int g), .val (.int w), .val (.int cm), .val (.int n), .val (.long wc), .second, .val (.int fc), .unset] [(.int (own_fc fc (((kk - g) - w) - (1 : Int32))))])) _
  refine st3 _ ?_
  rw [← own_fb_n] at hr
  show Steps p.tables e below (T3.setTop (mkF m 95 #[.val (.int kk), .val (.int g), .val (.int w), .val (.int cm), .val (.int n), .val (.long wc), .second, .val (.int fc), .unset] [(.int (own_fb (own_fc fc (((kk - g) - w) - (1 : Int32)))))])) _
  exact retN X3 hx (t := .byte) Bd.returns (by simp) (hb hby d1_95) hr
def Q4 (Z : State) (kk : Int32) (g : Int32) (w : Int32) (cm : Int32) (n : Int32) (wc : Int64) (fc : Int32) (h0 : Heap) (n0 : Nat) (v : Option Value) (h : Heap) (L : List Loc) : Prop := v = some (.int (own_ba kk g w cm n wc fc)) ∧ Fr n0 L ∧ h = h0
set_option maxRecDepth 65536 in
set_option maxHeartbeats 40000000 in
theorem rm4 (l : Launch) (Z : State) (a0 : Array Value) (hw : ∀ d ∈ tables_1, d.before a0 Z = true) (ws : List Jvm.Cond) (kk : Int32) (g : Int32) (w : Int32) (cm : Int32) (n : Int32) (wc : Int64) (fc : Int32) (h0 : Heap) (n0 : Nat) (Z0 : n0 ≤ h0.size)  :
    MetFree l (⟨"com/example/vestwright/vestwright/model/GroupedDecimalUngroupPinLaw", "byteAt", "(IIIIIJI)B"⟩ : MethodName) (head1 (Jvm.Cond.code (⟨"com/example/vestwright/vestwright/model/GroupedDecimalUngroupPinLaw", "byteAt", "(IIIIIJI)B"⟩ : MethodName) method_5_code 9 (some .byte) :: ws) ({ frames := 1, cells := 0, slots := 0, locals := 16 } : Room)) (fun a_ U_ => a_ = #[(.int kk), (.int g), (.int w), (.int cm), (.int n), (.long wc), (.int fc)] ∧ Z.Warmed39 U_.vm ∧ U_.heap = h0) (fun _ _ _ _ _ => True) (fun _ U_ o_ U' => ∃ v_ L_, o_ = .returned v_ ∧ (Q4 Z kk g w cm n wc fc h0 n0 v_ U'.heap L_) ∧ FrameEnd U_ o_ U' L_ ({ frames := 1, cells := 0, slots := 0, locals := 16 } : Room).cells ({ frames := 1, cells := 0, slots := 0, locals := 16 } : Room).slots) := by
  by_cases q1 : kk < n
  · by_cases q2 : kk < g
    · exact rm4b l Z a0 hw ws kk g w cm n wc fc h0 n0 Z0 q1 q2
    · by_cases q3 : kk < (g + w)
      · by_cases q4 : (((cm.toUInt32 >>> ((kk - g) &&& 31).toUInt32).toInt32) &&& (1 : Int32)) = (0 : Int32)
        · exact rm4d l Z a0 hw ws kk g w cm n wc fc h0 n0 Z0 q1 q2 q3 q4
        · exact rm4c l Z a0 hw ws kk g w cm n wc fc h0 n0 Z0 q1 q2 q3 q4
      · by_cases q5 : kk = (g + w)
        · exact rm4e l Z a0 hw ws kk g w cm n wc fc h0 n0 Z0 q1 q2 q3 q5
        · exact rm4f l Z a0 hw ws kk g w cm n wc fc h0 n0 Z0 q1 q2 q3 q5
  · exact rm4a l Z a0 hw ws kk g w cm n wc fc h0 n0 Z0 q1
theorem d3_0 : decode method_3_code 0 = .ok (.iload_n 0, 1) := by decide +kernel
theorem d3_1 : decode method_3_code 1 = .ok (.iload_n 1, 1) := by decide +kernel
theorem d3_2 : decode method_3_code 2 = .ok (.if_icmp .lt 5, 3) := by decide +kernel
theorem d3_5 : decode method_3_code 5 = .ok (.iconst 1, 1) := by decide +kernel
theorem d3_6 : decode method_3_code 6 = .ok (.ireturn, 1) := by decide +kernel
theorem d3_7 : decode method_3_code 7 = .ok (.iload_n 0, 1) := by decide +kernel
theorem d3_8 : decode method_3_code 8 = .ok (.istore 9, 2) := by decide +kernel
theorem d3_10 : decode method_3_code 10 = .ok (.iload 5, 2) := by decide +kernel
theorem d3_12 : decode method_3_code 12 = .ok (.ifCond .eq 13, 3) := by decide +kernel
theorem d3_15 : decode method_3_code 15 = .ok (.iload 9, 2) := by decide +kernel
theorem d3_17 : decode method_3_code 17 = .ok (.iload 6, 2) := by decide +kernel
theorem d3_19 : decode method_3_code 19 = .ok (.if_icmp .lt 6, 3) := by decide +kernel
theorem d3_22 : decode method_3_code 22 = .ok (.iinc 9 1, 3) := by decide +kernel
theorem d3_25 : decode method_3_code 25 = .ok (.iload 7, 2) := by decide +kernel
theorem d3_27 : decode method_3_code 27 = .ok (.ifCond .eq 13, 3) := by decide +kernel
theorem d3_30 : decode method_3_code 30 = .ok (.iload 9, 2) := by decide +kernel
theorem d3_32 : decode method_3_code 32 = .ok (.iload 8, 2) := by decide +kernel
theorem d3_34 : decode method_3_code 34 = .ok (.if_icmp .lt 6, 3) := by decide +kernel
theorem d3_37 : decode method_3_code 37 = .ok (.iinc 9 1, 3) := by decide +kernel
theorem d3_40 : decode method_3_code 40 = .ok (.aload_n 2, 1) := by decide +kernel
theorem d3_41 : decode method_3_code 41 = .ok (.iload_n 0, 1) := by decide +kernel
theorem d3_42 : decode method_3_code 42 = .ok (.baload, 1) := by decide +kernel
theorem d3_43 : decode method_3_code 43 = .ok (.aload_n 3, 1) := by decide +kernel
theorem d3_44 : decode method_3_code 44 = .ok (.iload 4, 2) := by decide +kernel
theorem d3_46 : decode method_3_code 46 = .ok (.iload 9, 2) := by decide +kernel
theorem d3_48 : decode method_3_code 48 = .ok (.iadd, 1) := by decide +kernel
theorem d3_49 : decode method_3_code 49 = .ok (.baload, 1) := by decide +kernel
theorem d3_50 : decode method_3_code 50 = .ok (.if_icmp .ne 7, 3) := by decide +kernel
theorem d3_53 : decode method_3_code 53 = .ok (.iconst 1, 1) := by decide +kernel
theorem d3_54 : decode method_3_code 54 = .ok (.goto 4, 3) := by decide +kernel
theorem d3_57 : decode method_3_code 57 = .ok (.iconst 0, 1) := by decide +kernel
theorem d3_58 : decode method_3_code 58 = .ok (.ireturn, 1) := by decide +kernel
theorem pn_3 : plainName "com/example/vestwright/vestwright/model/GroupedDecimalUngroupPinLaw" = true := by first | (simp [plainName, overriddenIn]; done) | decide +kernel
theorem ef_3 (m : MethodId) (x0 : Int32) (x1 : Int32) (x2 : Addr) (x3 : Addr) (x4 : Int32) (x5 : Int32) (x6 : Int32) (x7 : Int32) (x8 : Int32) : entryFrame m #[(.int x0), (.int x1), (.ref x2), (.ref x3), (.int x4), (.int x5), (.int x6), (.int x7), (.int x8)] 10 = mkF m 0 #[.val (.int x0), .val (.int x1), .val (.ref x2), .val (.ref x3), .val (.int x4), .val (.int x5), .val (.int x6), .val (.int x7), .val (.int x8), .unset] [] := by first | (simp [entryFrame, mkF, argsToLocals, Value.category]; done) | rfl
def own_ok (p0 : Int32) (p1 : Int32) (p4 : Int32) (p5 : Int32) (p6 : Int32) (p7 : Int32) (p8 : Int32) (pf : Nat → Int32) (tf : Nat → Int32) : Int32 := (if p0 < p1 then (if p5 = (0 : Int32) then (if p7 = (0 : Int32) then (if (pf (p0).toNatClampNeg) = (tf ((p4 + p0)).toNatClampNeg) then (1 : Int32) else (0 : Int32)) else (if p0 < p8 then (if (pf (p0).toNatClampNeg) = (tf ((p4 + p0)).toNatClampNeg) then (1 : Int32) else (0 : Int32)) else (if (pf (p0).toNatClampNeg) = (tf ((p4 + (p0 + (1 : Int32)))).toNatClampNeg) then (1 : Int32) else (0 : Int32)))) else (if p0 < p6 then (if p7 = (0 : Int32) then (if (pf (p0).toNatClampNeg) = (tf ((p4 + p0)).toNatClampNeg) then (1 : Int32) else (0 : Int32)) else (if p0 < p8 then (if (pf (p0).toNatClampNeg) = (tf ((p4 + p0)).toNatClampNeg) then (1 : Int32) else (0 : Int32)) else (if (pf (p0).toNatClampNeg) = (tf ((p4 + (p0 + (1 : Int32)))).toNatClampNeg) then (1 : Int32) else (0 : Int32)))) else (if p7 = (0 : Int32) then (if (pf (p0).toNatClampNeg) = (tf ((p4 + (p0 + (1 : Int32)))).toNatClampNeg) then (1 : Int32) else (0 : Int32)) else (if (p0 + (1 : Int32)) < p8 then (if (pf (p0).toNatClampNeg) = (tf ((p4 + (p0 + (1 : Int32)))).toNatClampNeg) then (1 : Int32) else (0 : Int32)) else (if (pf (p0).toNatClampNeg) = (tf ((p4 + ((p0 + (1 : Int32)) + (1 : Int32)))).toNatClampNeg) then (1 : Int32) else (0 : Int32)))))) else (1 : Int32))
def Q5 (Z : State) (p0 : Int32) (p1 : Int32) (o2 : Addr) (o3 : Addr) (p4 : Int32) (p5 : Int32) (p6 : Int32) (p7 : Int32) (p8 : Int32) (pf : Nat → Int32) (tf : Nat → Int32) (h0 : Heap) (n0 : Nat) (v : Option Value) (h : Heap) (L : List Loc) : Prop := v = some (.int (own_ok p0 p1 p4 p5 p6 p7 p8 pf tf)) ∧ Fr n0 L ∧ h = h0
set_option maxRecDepth 65536 in
set_option maxHeartbeats 40000000 in
theorem rm5 (l : Launch) (Z : State) (a0 : Array Value) (hw : ∀ d ∈ tables_1, d.before a0 Z = true) (ws : List Jvm.Cond) (p0 : Int32) (p1 : Int32) (o2 : Addr) (o3 : Addr) (p4 : Int32) (p5 : Int32) (p6 : Int32) (p7 : Int32) (p8 : Int32) (pf : Nat → Int32) (tf : Nat → Int32) (h0 : Heap) (n0 : Nat) (Z0 : n0 ≤ h0.size) (AP : own_AI Z h0 o2 .byte (64 : Int32) pf) (AT : own_AI Z h0 o3 .byte (72 : Int32) tf) (hj : ¬ p0 < 0 ∧ p0 < (64 : Int32)) (hz : ∀ z : Int32, (z = p0 ∨ z = (p0 + (1 : Int32)) ∨ z = ((p0 + (1 : Int32)) + (1 : Int32))) → ¬ (p4 + z) < 0 ∧ (p4 + z) < (72 : Int32)) :
    MetFree l (⟨"com/example/vestwright/vestwright/model/GroupedDecimalUngroupPinLaw", "okAt", "(II[B[BIZIZI)Z"⟩ : MethodName) (head1 (Jvm.Cond.code (⟨"com/example/vestwright/vestwright/model/GroupedDecimalUngroupPinLaw", "okAt", "(II[B[BIZIZI)Z"⟩ : MethodName) method_3_code 10 (some .boolean) :: ws) ({ frames := 0, cells := 0, slots := 0, locals := 0 } : Room)) (fun a_ U_ => a_ = #[(.int p0), (.int p1), (.ref o2), (.ref o3), (.int p4), (.int p5), (.int p6), (.int p7), (.int p8)] ∧ Z.Warmed39 U_.vm ∧ U_.heap = h0) (fun _ _ _ _ _ => True) (fun _ U_ o_ U' => ∃ v_ L_, o_ = .returned v_ ∧ (Q5 Z p0 p1 o2 o3 p4 p5 p6 p7 p8 pf tf h0 n0 v_ U'.heap L_) ∧ FrameEnd U_ o_ U' L_ ({ frames := 0, cells := 0, slots := 0, locals := 0 } : Room).cells ({ frames := 0, cells := 0, slots := 0, locals := 0 } : Room).slots) := by
  refine MetFree.of_bodySF (plainFor_of_name pn_3) hisR ?_
  intro p e s m args below meth c s₁ Bd hml0 hP hK
  obtain ⟨rfl, hZ, hh⟩ := hP
  have hx := Bd.exec
  have hby := Bd.bytes
  have hml : c.maxLocals = 10 := hml0
  have hown : s.vm.findClass "com/example/vestwright/vestwright/model/GroupedDecimalUngroupPinLaw" = some m.cls := findClass_of_methodNamed Bd.named
  have hnm := (name_of_methodNamed Bd.named Bd.method).1
  have X0 : Stand p l e ({ frames := 0, cells := 0, slots := 0, locals := 0 } : Room) s m #[(.int p0), (.int p1), (.ref o2), (.ref o3), (.int p4), (.int p5), (.int p6), (.int p7), (.int p8)] below meth c s₁ [] 0 0 := Stand.of_body Bd
  have e0 : s₁.heap = h0 := by rw [← hh, Bd.state]; rfl
  have N0 := Fr.nil n0
  have pre0 : ∀ t, Steps p.tables e below (s₁.setTop (mkF m 0 #[.val (.int p0), .val (.int p1), .val (.ref o2), .val (.ref o3), .val (.int p4), .val (.int p5), .val (.int p6), .val (.int p7), .val (.int p8), .unset] [])) t → Steps p.tables e below (s₁.setTop (entryFrame m #[(.int p0), (.int p1), (.ref o2), (.ref o3), (.int p4), (.int p5), (.int p6), (.int p7), (.int p8)] 10)) t := fun t k => castTop (ef_3 m p0 p1 o2 o3 p4 p5 p6 p7 p8) k
  obtain ⟨fs, hr, hrun, hended, hW, hsame⟩ := X0.leave (v := some (.int (own_ok p0 p1 p4 p5 p6 p7 p8 pf tf))) (fun h => by rw [Bd.returns] at h; cases h)
  refine ⟨_, _, pre0 _ ?_, hrun, hended, _, _, rfl, ⟨rfl, N0, e0⟩, ⟨_, rfl⟩, hW, hsame.mono (by decide) (by decide)⟩
  show Steps p.tables e below (s₁.setTop (mkF m 0 #[.val (.int p0), .val (.int p1), .val (.ref o2), .val (.ref o3), .val (.int p4), .val (.int p5), .val (.int p6), .val (.int p7), .val (.int p8), .unset] [])) _
  refine XS.iloadN X0.here hx rfl (hb hby d3_0) rfl ?_
  show Steps p.tables e below (s₁.setTop (mkF m 1 #[.val (.int p0), .val (.int p1), .val (.ref o2), .val (.ref o3), .val (.int p4), .val (.int p5), .val (.int p6), .val (.int p7), .val (.int p8), .unset] [(.int p0)])) _
  refine XS.iloadN X0.here hx rfl (hb hby d3_1) rfl ?_
  show Steps p.tables e below (s₁.setTop (mkF m 2 #[.val (.int p0), .val (.int p1), .val (.ref o2), .val (.ref o3), .val (.int p4), .val (.int p5), .val (.int p6), .val (.int p7), .val (.int p8), .unset] [(.int p1), (.int p0)])) _
  by_cases hc2 : p0 < p1
  · refine XS.icmpYes X0.here hx rfl (pc0 := 2) (pc' := 7) rfl (hb hby d3_2) rfl (tlt hc2).1 (by decide) (by decide) ?_
    show Steps p.tables e below (s₁.setTop (mkF m 7 #[.val (.int p0), .val (.int p1), .val (.ref o2), .val (.ref o3), .val (.int p4), .val (.int p5), .val (.int p6), .val (.int p7), .val (.int p8), .unset] [])) _
    refine XS.iloadN X0.here hx rfl (hb hby d3_7) rfl ?_
    show Steps p.tables e below (s₁.setTop (mkF m 8 #[.val (.int p0), .val (.int p1), .val (.ref o2), .val (.ref o3), .val (.int p4), .val (.int p5), .val (.int p6), .val (.int p7), .val (.int p8), .unset] [(.int p0)])) _
    refine XS.istore X0.here hx rfl (hb hby d3_8) rfl (l' := #[.val (.int p0), .val (.int p1), .val (.ref o2), .val (.ref o3), .val (.int p4), .val (.int p5), .val (.int p6), .val (.int p7), .val (.int p8), .val (.int p0)]) rfl ?_
    show Steps p.tables e below (s₁.setTop (mkF m 10 #[.val (.int p0), .val (.int p1), .val (.ref o2), .val (.ref o3), .val (.int p4), .val (.int p5), .val (.int p6), .val (.int p7), .val (.int p8), .val (.int p0)] [])) _
    refine XS.iload X0.here hx rfl (hb hby d3_10) rfl ?_
    show Steps p.tables e below (s₁.setTop (mkF m 12 #[.val (.int p0), .val (.int p1), .val (.ref o2), .val (.ref o3), .val (.int p4), .val (.int p5), .val (.int p6), .val (.int p7), .val (.int p8), .val (.int p0)] [(.int p5)])) _
    by_cases hc12 : p5 = (0 : Int32)
    · refine XS.ifYes X0.here hx rfl (pc0 := 12) (pc' := 25) rfl (hb hby d3_12) rfl ((if0 _ _).trans (teq hc12).1) (by decide) (by decide) ?_
      show Steps p.tables e below (s₁.setTop (mkF m 25 #[.val (.int p0), .val (.int p1), .val (.ref o2), .val (.ref o3), .val (.int p4), .val (.int p5), .val (.int p6), .val (.int p7), .val (.int p8), .val (.int p0)] [])) _
      refine XS.iload X0.here hx rfl (hb hby d3_25) rfl ?_
      show Steps p.tables e below (s₁.setTop (mkF m 27 #[.val (.int p0), .val (.int p1), .val (.ref o2), .val (.ref o3), .val (.int p4), .val (.int p5), .val (.int p6), .val (.int p7), .val (.int p8), .val (.int p0)] [(.int p7)])) _
      by_cases hc27 : p7 = (0 : Int32)
      · refine XS.ifYes X0.here hx rfl (pc0 := 27) (pc' := 40) rfl (hb hby d3_27) rfl ((if0 _ _).trans (teq hc27).1) (by decide) (by decide) ?_
        show Steps p.tables e below (s₁.setTop (mkF m 40 #[.val (.int p0), .val (.int p1), .val (.ref o2), .val (.ref o3), .val (.int p4), .val (.int p5), .val (.int p6), .val (.int p7), .val (.int p8), .val (.int p0)] [])) _
        refine XS.aloadN X0.here hx rfl (hb hby d3_40) rfl rfl ?_
        show Steps p.tables e below (s₁.setTop (mkF m 41 #[.val (.int p0), .val (.int p1), .val (.ref o2), .val (.ref o3), .val (.int p4), .val (.int p5), .val (.int p6), .val (.int p7), .val (.int p8), .val (.int p0)] [(.ref o2)])) _
        refine XS.iloadN X0.here hx rfl (hb hby d3_41) rfl ?_
        show Steps p.tables e below (s₁.setTop (mkF m 42 #[.val (.int p0), .val (.int p1), .val (.ref o2), .val (.ref o3), .val (.int p4), .val (.int p5), .val (.int p6), .val (.int p7), .val (.int p8), .val (.int p0)] [(.int p0), (.ref o2)])) _
        refine own_ldB X0 hx hZ e0 AP (j := p0) hj rfl rfl (hb hby d3_42) ?_
        show Steps p.tables e below (s₁.setTop (mkF m 43 #[.val (.int p0), .val (.int p1), .val (.ref o2), .val (.ref o3), .val (.int p4), .val (.int p5), .val (.int p6), .val (.int p7), .val (.int p8), .val (.int p0)] [(.int (pf (p0).toNatClampNeg))])) _
        refine XS.aloadN X0.here hx rfl (hb hby d3_43) rfl rfl ?_
        show Steps p.tables e below (s₁.setTop (mkF m 44 #[.val (.int p0), .val (.int p1), .val (.ref o2), .val (.ref o3), .val (.int p4), .val (.int p5), .val (.int p6), .val (.int p7), .val (.int p8), .val (.int p0)] [(.ref o3), (.int (pf (p0).toNatClampNeg))])) _
        refine XS.iload X0.here hx rfl (hb hby d3_44) rfl ?_
        show Steps p.tables e below (s₁.setTop (mkF m 46 #[.val (.int p0), .val (.int p1), .val (.ref o2), .val (.ref o3), .val (.int p4), .val (.int p5), .val (.int p6), .val (.int p7), .val (.int p8), .val (.int p0)] [(.int p4), (.ref o3), (.int (pf (p0).toNatClampNeg))])) _
        refine XS.iload X0.here hx rfl (hb hby d3_46) rfl ?_
        show Steps p.tables e below (s₁.setTop (mkF m 48 #[.val (.int p0), .val (.int p1), .val (.ref o2), .val (.ref o3), .val (.int p4), .val (.int p5), .val (.int p6), .val (.int p7), .val (.int p8), .val (.int p0)] [(.int p0), (.int p4), (.ref o3), (.int (pf (p0).toNatClampNeg))])) _
        refine XS.iadd X0.here hx rfl (hb hby d3_48) rfl ?_
        show Steps p.tables e below (s₁.setTop (mkF m 49 #[.val (.int p0), .val (.int p1), .val (.ref o2), .val (.ref o3), .val (.int p4), .val (.int p5), .val (.int p6), .val (.int p7), .val (.int p8), .val (.int p0)] [(.int (p4 + p0)), (.ref o3), (.int (pf (p0).toNatClampNeg))])) _
        refine own_ldB X0 hx hZ e0 AT (j := (p4 + p0)) (hz p0 (by simp)) rfl rfl (hb hby d3_49) ?_
        show Steps p.tables e below (s₁.setTop (mkF m 50 #[.val (.int p0), .val (.int p1), .val (.ref o2), .val (.ref o3), .val (.int p4), .val (.int p5), .val (.int p6), .val (.int p7), .val (.int p8), .val (.int p0)] [(.int (tf ((p4 + p0)).toNatClampNeg)), (.int (pf (p0).toNatClampNeg))])) _
        by_cases hc50 : (pf (p0).toNatClampNeg) = (tf ((p4 + p0)).toNatClampNeg)
        · refine XS.icmpNo X0.here hx rfl (hb hby d3_50) rfl (teq hc50).2 ?_
          show Steps p.tables e below (s₁.setTop (mkF m 53 #[.val (.int p0), .val (.int p1), .val (.ref o2), .val (.ref o3), .val (.int p4), .val (.int p5), .val (.int p6), .val (.int p7), .val (.int p8), .val (.int p0)] [])) _
          refine XS.iconst X0.here hx rfl (hb hby d3_53) ?_
          show Steps p.tables e below (s₁.setTop (mkF m 54 #[.val (.int p0), .val (.int p1), .val (.ref o2), .val (.ref o3), .val (.int p4), .val (.int p5), .val (.int p6), .val (.int p7), .val (.int p8), .val (.int p0)] [(.int (1 : Int32))])) _
          refine XS.goto X0.here hx rfl (pc0 := 54) (pc' := 58) rfl (hb hby d3_54) (by decide) (by decide) ?_
          show Steps p.tables e below (s₁.setTop (mkF m 58 #[.val (.int p0), .val (.int p1), .val (.ref o2), .val (.ref o3), .val (.int p4), .val (.int p5), .val (.int p6), .val (.int p7), .val (.int p8), .val (.int p0)] [(.int (1 : Int32))])) _
          rw [show (own_ok p0 p1 p4 p5 p6 p7 p8 pf tf) = (1 : Int32) from by unfold own_ok; rw [if_pos hc2, if_pos hc12, if_pos hc27, if_pos hc50]] at hr
          exact retN X0 hx (t := .boolean) Bd.returns (by simp) (hb hby d3_58) hr
        · refine XS.icmpYes X0.here hx rfl (pc0 := 50) (pc' := 57) rfl (hb hby d3_50) rfl (feq hc50).2 (by decide) (by decide) ?_
          show Steps p.tables e below (s₁.setTop (mkF m 57 #[.val (.int p0), .val (.int p1), .val (.ref o2), .val (.ref o3), .val (.int p4), .val (.int p5), .val (.int p6), .val (.int p7), .val (.int p8), .val (.int p0)] [])) _
          refine XS.iconst X0.here hx rfl (hb hby d3_57) ?_
          show Steps p.tables e below (s₁.setTop (mkF m 58 #[.val (.int p0), .val (.int p1), .val (.ref o2), .val (.ref o3), .val (.int p4), .val (.int p5), .val (.int p6), .val (.int p7), .val (.int p8), .val (.int p0)] [(.int (0 : Int32))])) _
          rw [show (own_ok p0 p1 p4 p5 p6 p7 p8 pf tf) = (0 : Int32) from by unfold own_ok; rw [if_pos hc2, if_pos hc12, if_pos hc27, if_neg hc50]] at hr
          exact retN X0 hx (t := .boolean) Bd.returns (by simp) (hb hby d3_58) hr
      · refine XS.ifNo X0.here hx rfl (hb hby d3_27) rfl ((if0 _ _).trans (feq hc27).1) ?_
        show Steps p.tables e below (s₁.setTop (mkF m 30 #[.val (.int p0), .val (.int p1), .val (.ref o2), .val (.ref o3), .val (.int p4), .val (.int p5), .val (.int p6), .val (.int p7), .val (.int p8), .val (.int p0)] [])) _
        refine XS.iload X0.here hx rfl (hb hby d3_30) rfl ?_
        show Steps p.tables e below (s₁.setTop (mkF m 32 #[.val (.int p0), .val (.int p1), .val (.ref o2), .val (.ref o3), .val (.int p4), .val (.int p5), .val (.int p6), .val (.int p7), .val (.int p8), .val (.int p0)] [(.int p0)])) _
        refine XS.iload X0.here hx rfl (hb hby d3_32) rfl ?_
        show Steps p.tables e below (s₁.setTop (mkF m 34 #[.val (.int p0), .val (.int p1), .val (.ref o2), .val (.ref o3), .val (.int p4), .val (.int p5), .val (.int p6), .val (.int p7), .val (.int p8), .val (.int p0)] [(.int p8), (.int p0)])) _
        by_cases hc34 : p0 < p8
        · refine XS.icmpYes X0.here hx rfl (pc0 := 34) (pc' := 40) rfl (hb hby d3_34) rfl (tlt hc34).1 (by decide) (by decide) ?_
          show Steps p.tables e below (s₁.setTop (mkF m 40 #[.val (.int p0), .val (.int p1), .val (.ref o2), .val (.ref o3), .val (.int p4), .val (.int p5), .val (.int p6), .val (.int p7), .val (.int p8), .val (.int p0)] [])) _
          refine XS.aloadN X0.here hx rfl (hb hby d3_40) rfl rfl ?_
          show Steps p.tables e below (s₁.setTop (mkF m 41 #[.val (.int p0), .val (.int p1), .val (.ref o2), .val (.ref o3), .val (.int p4), .val (.int p5), .val (.int p6), .val (.int p7), .val (.int p8), .val (.int p0)] [(.ref o2)])) _
          refine XS.iloadN X0.here hx rfl (hb hby d3_41) rfl ?_
          show Steps p.tables e below (s₁.setTop (mkF m 42 #[.val (.int p0), .val (.int p1), .val (.ref o2), .val (.ref o3), .val (.int p4), .val (.int p5), .val (.int p6), .val (.int p7), .val (.int p8), .val (.int p0)] [(.int p0), (.ref o2)])) _
          refine own_ldB X0 hx hZ e0 AP (j := p0) hj rfl rfl (hb hby d3_42) ?_
          show Steps p.tables e below (s₁.setTop (mkF m 43 #[.val (.int p0), .val (.int p1), .val (.ref o2), .val (.ref o3), .val (.int p4), .val (.int p5), .val (.int p6), .val (.int p7), .val (.int p8), .val (.int p0)] [(.int (pf (p0).toNatClampNeg))])) _
          refine XS.aloadN X0.here hx rfl (hb hby d3_43) rfl rfl ?_
          show Steps p.tables e below (s₁.setTop (mkF m 44 #[.val (.int p0), .val (.int p1), .val (.ref o2), .val (.ref o3), .val (.int p4), .val (.int p5), .val (.int p6), .val (.int p7), .val (.int p8), .val (.int p0)] [(.ref o3), (.int (pf (p0).toNatClampNeg))])) _
          refine XS.iload X0.here hx rfl (hb hby d3_44) rfl ?_
          show Steps p.tables e below (s₁.setTop (mkF m 46 #[.val (.int p0), .val (.int p1), .val (.ref o2), .val (.ref o3), .val (.int p4), .val (.int p5), .val (.int p6), .val (.int p7), .val (.int p8), .val (.int p0)] [(.int p4), (.ref o3), (.int (pf (p0).toNatClampNeg))])) _
          refine XS.iload X0.here hx rfl (hb hby d3_46) rfl ?_
          show Steps p.tables e below (s₁.setTop (mkF m 48 #[.val (.int p0), .val (.int p1), .val (.ref o2), .val (.ref o3), .val (.int p4), .val (.int p5), .val (.int p6), .val (.int p7), .val (.int p8), .val (.int p0)] [(.int p0), (.int p4), (.ref o3), (.int (pf (p0).toNatClampNeg))])) _
          refine XS.iadd X0.here hx rfl (hb hby d3_48) rfl ?_
          show Steps p.tables e below (s₁.setTop (mkF m 49 #[.val (.int p0), .val (.int p1), .val (.ref o2), .val (.ref o3), .val (.int p4), .val (.int p5), .val (.int p6), .val (.int p7), .val (.int p8), .val (.int p0)] [(.int (p4 + p0)), (.ref o3), (.int (pf (p0).toNatClampNeg))])) _
          refine own_ldB X0 hx hZ e0 AT (j := (p4 + p0)) (hz p0 (by simp)) rfl rfl (hb hby d3_49) ?_
          show Steps p.tables e below (s₁.setTop (mkF m 50 #[.val (.int p0), .val (.int p1), .val (.ref o2), .val (.ref o3), .val (.int p4), .val (.int p5), .val (.int p6), .val (.int p7), .val (.int p8), .val (.int p0)] [(.int (tf ((p4 + p0)).toNatClampNeg)), (.int (pf (p0).toNatClampNeg))])) _
          by_cases hc50 : (pf (p0).toNatClampNeg) = (tf ((p4 + p0)).toNatClampNeg)
          · refine XS.icmpNo X0.here hx rfl (hb hby d3_50) rfl (teq hc50).2 ?_
            show Steps p.tables e below (s₁.setTop (mkF m 53 #[.val (.int p0), .val (.int p1), .val (.ref o2), .val (.ref o3), .val (.int p4), .val (.int p5), .val (.int p6), .val (.int p7), .val (.int p8), .val (.int p0)] [])) _
            refine XS.iconst X0.here hx rfl (hb hby d3_53) ?_
            show Steps p.tables e below (s₁.setTop (mkF m 54 #[.val (.int p0), .val (.int p1), .val (.ref o2), .val (.ref o3), .val (.int p4), .val (.int p5), .val (.int p6), .val (.int p7), .val (.int p8), .val (.int p0)] [(.int (1 : Int32))])) _
            refine XS.goto X0.here hx rfl (pc0 := 54) (pc' := 58) rfl (hb hby d3_54) (by decide) (by decide) ?_
            show Steps p.tables e below (s₁.setTop (mkF m 58 #[.val (.int p0), .val (.int p1), .val (.ref o2), .val (.ref o3), .val (.int p4), .val (.int p5), .val (.int p6), .val (.int p7), .val (.int p8), .val (.int p0)] [(.int (1 : Int32))])) _
            rw [show (own_ok p0 p1 p4 p5 p6 p7 p8 pf tf) = (1 : Int32) from by unfold own_ok; rw [if_pos hc2, if_pos hc12, if_neg hc27, if_pos hc34, if_pos hc50]] at hr
            exact retN X0 hx (t := .boolean) Bd.returns (by simp) (hb hby d3_58) hr
          · refine XS.icmpYes X0.here hx rfl (pc0 := 50) (pc' := 57) rfl (hb hby d3_50) rfl (feq hc50).2 (by decide) (by decide) ?_
            show Steps p.tables e below (s₁.setTop (mkF m 57 #[.val (.int p0), .val (.int p1), .val (.ref o2), .val (.ref o3), .val (.int p4), .val (.int p5), .val (.int p6), .val (.int p7), .val (.int p8), .val (.int p0)] [])) _
            refine XS.iconst X0.here hx rfl (hb hby d3_57) ?_
            show Steps p.tables e below (s₁.setTop (mkF m 58 #[.val (.int p0), .val (.int p1), .val (.ref o2), .val (.ref o3), .val (.int p4), .val (.int p5), .val (.int p6), .val (.int p7), .val (.int p8), .val (.int p0)] [(.int (0 : Int32))])) _
            rw [show (own_ok p0 p1 p4 p5 p6 p7 p8 pf tf) = (0 : Int32) from by unfold own_ok; rw [if_pos hc2, if_pos hc12, if_neg hc27, if_pos hc34, if_neg hc50]] at hr
            exact retN X0 hx (t := .boolean) Bd.returns (by simp) (hb hby d3_58) hr
        · refine XS.icmpNo X0.here hx rfl (hb hby d3_34) rfl (flt hc34).1 ?_
          show Steps p.tables e below (s₁.setTop (mkF m 37 #[.val (.int p0), .val (.int p1), .val (.ref o2), .val (.ref o3), .val (.int p4), .val (.int p5), .val (.int p6), .val (.int p7), .val (.int p8), .val (.int p0)] [])) _
          refine XS.iinc X0.here hx rfl (hb hby d3_37) rfl (l' := #[.val (.int p0), .val (.int p1), .val (.ref o2), .val (.ref o3), .val (.int p4), .val (.int p5), .val (.int p6), .val (.int p7), .val (.int p8), .val (.int (p0 + (1 : Int32)))]) rfl ?_
          show Steps p.tables e below (s₁.setTop (mkF m 40 #[.val (.int p0), .val (.int p1), .val (.ref o2), .val (.ref o3), .val (.int p4), .val (.int p5), .val (.int p6), .val (.int p7), .val (.int p8), .val (.int (p0 + (1 : Int32)))] [])) _
          refine XS.aloadN X0.here hx rfl (hb hby d3_40) rfl rfl ?_
          show Steps p.tables e below (s₁.setTop (mkF m 41 #[.val (.int p0), .val (.int p1), .val (.ref o2), .val (.ref o3), .val (.int p4), .val (.int p5), .val (.int p6), .val (.int p7), .val (.int p8), .val (.int (p0 + (1 : Int32)))] [(.ref o2)])) _
          refine XS.iloadN X0.here hx rfl (hb hby d3_41) rfl ?_
          show Steps p.tables e below (s₁.setTop (mkF m 42 #[.val (.int p0), .val (.int p1), .val (.ref o2), .val (.ref o3), .val (.int p4), .val (.int p5), .val (.int p6), .val (.int p7), .val (.int p8), .val (.int (p0 + (1 : Int32)))] [(.int p0), (.ref o2)])) _
          refine own_ldB X0 hx hZ e0 AP (j := p0) hj rfl rfl (hb hby d3_42) ?_
          show Steps p.tables e below (s₁.setTop (mkF m 43 #[.val (.int p0), .val (.int p1), .val (.ref o2), .val (.ref o3), .val (.int p4), .val (.int p5), .val (.int p6), .val (.int p7), .val (.int p8), .val (.int (p0 + (1 : Int32)))] [(.int (pf (p0).toNatClampNeg))])) _
          refine XS.aloadN X0.here hx rfl (hb hby d3_43) rfl rfl ?_
          show Steps p.tables e below (s₁.setTop (mkF m 44 #[.val (.int p0), .val (.int p1), .val (.ref o2), .val (.ref o3), .val (.int p4), .val (.int p5), .val (.int p6), .val (.int p7), .val (.int p8), .val (.int (p0 + (1 : Int32)))] [(.ref o3), (.int (pf (p0).toNatClampNeg))])) _
          refine XS.iload X0.here hx rfl (hb hby d3_44) rfl ?_
          show Steps p.tables e below (s₁.setTop (mkF m 46 #[.val (.int p0), .val (.int p1), .val (.ref o2), .val (.ref o3), .val (.int p4), .val (.int p5), .val (.int p6), .val (.int p7), .val (.int p8), .val (.int (p0 + (1 : Int32)))] [(.int p4), (.ref o3), (.int (pf (p0).toNatClampNeg))])) _
          refine XS.iload X0.here hx rfl (hb hby d3_46) rfl ?_
          show Steps p.tables e below (s₁.setTop (mkF m 48 #[.val (.int p0), .val (.int p1), .val (.ref o2), .val (.ref o3), .val (.int p4), .val (.int p5), .val (.int p6), .val (.int p7), .val (.int p8), .val (.int (p0 + (1 : Int32)))] [(.int (p0 + (1 : Int32))), (.int p4), (.ref o3), (.int (pf (p0).toNatClampNeg))])) _
          refine XS.iadd X0.here hx rfl (hb hby d3_48) rfl ?_
          show Steps p.tables e below (s₁.setTop (mkF m 49 #[.val (.int p0), .val (.int p1), .val (.ref o2), .val (.ref o3), .val (.int p4), .val (.int p5), .val (.int p6), .val (.int p7), .val (.int p8), .val (.int (p0 + (1 : Int32)))] [(.int (p4 + (p0 + (1 : Int32)))), (.ref o3), (.int (pf (p0).toNatClampNeg))])) _
          refine own_ldB X0 hx hZ e0 AT (j := (p4 + (p0 + (1 : Int32)))) (hz (p0 + (1 : Int32)) (by simp)) rfl rfl (hb hby d3_49) ?_
          show Steps p.tables e below (s₁.setTop (mkF m 50 #[.val (.int p0), .val (.int p1), .val (.ref o2), .val (.ref o3), .val (.int p4), .val (.int p5), .val (.int p6), .val (.int p7), .val (.int p8), .val (.int (p0 + (1 : Int32)))] [(.int (tf ((p4 + (p0 + (1 : Int32)))).toNatClampNeg)), (.int (pf (p0).toNatClampNeg))])) _
          by_cases hc50 : (pf (p0).toNatClampNeg) = (tf ((p4 + (p0 + (1 : Int32)))).toNatClampNeg)
          · refine XS.icmpNo X0.here hx rfl (hb hby d3_50) rfl (teq hc50).2 ?_
            show Steps p.tables e below (s₁.setTop (mkF m 53 #[.val (.int p0), .val (.int p1), .val (.ref o2), .val (.ref o3), .val (.int p4), .val (.int p5), .val (.int p6), .val (.int p7), .val (.int p8), .val (.int (p0 + (1 : Int32)))] [])) _
            refine XS.iconst X0.here hx rfl (hb hby d3_53) ?_
            show Steps p.tables e below (s₁.setTop (mkF m 54 #[.val (.int p0), .val (.int p1), .val (.ref o2), .val (.ref o3), .val (.int p4), .val (.int p5), .val (.int p6), .val (.int p7), .val (.int p8), .val (.int (p0 + (1 : Int32)))] [(.int (1 : Int32))])) _
            refine XS.goto X0.here hx rfl (pc0 := 54) (pc' := 58) rfl (hb hby d3_54) (by decide) (by decide) ?_
            show Steps p.tables e below (s₁.setTop (mkF m 58 #[.val (.int p0), .val (.int p1), .val (.ref o2), .val (.ref o3), .val (.int p4), .val (.int p5), .val (.int p6), .val (.int p7), .val (.int p8), .val (.int (p0 + (1 : Int32)))] [(.int (1 : Int32))])) _
            rw [show (own_ok p0 p1 p4 p5 p6 p7 p8 pf tf) = (1 : Int32) from by unfold own_ok; rw [if_pos hc2, if_pos hc12, if_neg hc27, if_neg hc34, if_pos hc50]] at hr
            exact retN X0 hx (t := .boolean) Bd.returns (by simp) (hb hby d3_58) hr
          · refine XS.icmpYes X0.here hx rfl (pc0 := 50) (pc' := 57) rfl (hb hby d3_50) rfl (feq hc50).2 (by decide) (by decide) ?_
            show Steps p.tables e below (s₁.setTop (mkF m 57 #[.val (.int p0), .val (.int p1), .val (.ref o2), .val (.ref o3), .val (.int p4), .val (.int p5), .val (.int p6), .val (.int p7), .val (.int p8), .val (.int (p0 + (1 : Int32)))] [])) _
            refine XS.iconst X0.here hx rfl (hb hby d3_57) ?_
            show Steps p.tables e below (s₁.setTop (mkF m 58 #[.val (.int p0), .val (.int p1), .val (.ref o2), .val (.ref o3), .val (.int p4), .val (.int p5), .val (.int p6), .val (.int p7), .val (.int p8), .val (.int (p0 + (1 : Int32)))] [(.int (0 : Int32))])) _
            rw [show (own_ok p0 p1 p4 p5 p6 p7 p8 pf tf) = (0 : Int32) from by unfold own_ok; rw [if_pos hc2, if_pos hc12, if_neg hc27, if_neg hc34, if_neg hc50]] at hr
            exact retN X0 hx (t := .boolean) Bd.returns (by simp) (hb hby d3_58) hr
    · refine XS.ifNo X0.here hx rfl (hb hby d3_12) rfl ((if0 _ _).trans (feq hc12).1) ?_
      show Steps p.tables e below (s₁.setTop (mkF m 15 #[.val (.int p0), .val (.int p1), .val (.ref o2), .val (.ref o3), .val (.int p4), .val (.int p5), .val (.int p6), .val (.int p7), .val (.int p8), .val (.int p0)] [])) _
      refine XS.iload X0.here hx rfl (hb hby d3_15) rfl ?_
      show Steps p.tables e below (s₁.setTop (mkF m 17 #[.val (.int p0), .val (.int p1), .val (.ref o2), .val (.ref o3), .val (.int p4), .val (.int p5), .val (.int p6), .val (.int p7), .val (.int p8), .val (.int p0)] [(.int p0)])) _
      refine XS.iload X0.here hx rfl (hb hby d3_17) rfl ?_
      show Steps p.tables e below (s₁.setTop (mkF m 19 #[.val (.int p0), .val (.int p1), .val (.ref o2), .val (.ref o3), .val (.int p4), .val (.int p5), .val (.int p6), .val (.int p7), .val (.int p8), .val (.int p0)] [(.int p6), (.int p0)])) _
      by_cases hc19 : p0 < p6
      · refine XS.icmpYes X0.here hx rfl (pc0 := 19) (pc' := 25) rfl (hb hby d3_19) rfl (tlt hc19).1 (by decide) (by decide) ?_
        show Steps p.tables e below (s₁.setTop (mkF m 25 #[.val (.int p0), .val (.int p1), .val (.ref o2), .val (.ref o3), .val (.int p4), .val (.int p5), .val (.int p6), .val (.int p7), .val (.int p8), .val (.int p0)] [])) _
        refine XS.iload X0.here hx rfl (hb hby d3_25) rfl ?_
        show Steps p.tables e below (s₁.setTop (mkF m 27 #[.val (.int p0), .val (.int p1), .val (.ref o2), .val (.ref o3), .val (.int p4), .val (.int p5), .val (.int p6), .val (.int p7), .val (.int p8), .val (.int p0)] [(.int p7)])) _
        by_cases hc27 : p7 = (0 : Int32)
        · refine XS.ifYes X0.here hx rfl (pc0 := 27) (pc' := 40) rfl (hb hby d3_27) rfl ((if0 _ _).trans (teq hc27).1) (by decide) (by decide) ?_
          show Steps p.tables e below (s₁.setTop (mkF m 40 #[.val (.int p0), .val (.int p1), .val (.ref o2), .val (.ref o3), .val (.int p4), .val (.int p5), .val (.int p6), .val (.int p7), .val (.int p8), .val (.int p0)] [])) _
          refine XS.aloadN X0.here hx rfl (hb hby d3_40) rfl rfl ?_
          show Steps p.tables e below (s₁.setTop (mkF m 41 #[.val (.int p0), .val (.int p1), .val (.ref o2), .val (.ref o3), .val (.int p4), .val (.int p5), .val (.int p6), .val (.int p7), .val (.int p8), .val (.int p0)] [(.ref o2)])) _
          refine XS.iloadN X0.here hx rfl (hb hby d3_41) rfl ?_
          show Steps p.tables e below (s₁.setTop (mkF m 42 #[.val (.int p0), .val (.int p1), .val (.ref o2), .val (.ref o3), .val (.int p4), .val (.int p5), .val (.int p6), .val (.int p7), .val (.int p8), .val (.int p0)] [(.int p0), (.ref o2)])) _
          refine own_ldB X0 hx hZ e0 AP (j := p0) hj rfl rfl (hb hby d3_42) ?_
          show Steps p.tables e below (s₁.setTop (mkF m 43 #[.val (.int p0), .val (.int p1), .val (.ref o2), .val (.ref o3), .val (.int p4), .val (.int p5), .val (.int p6), .val (.int p7), .val (.int p8), .val (.int p0)] [(.int (pf (p0).toNatClampNeg))])) _
          refine XS.aloadN X0.here hx rfl (hb hby d3_43) rfl rfl ?_
          show Steps p.tables e below (s₁.setTop (mkF m 44 #[.val (.int p0), .val (.int p1), .val (.ref o2), .val (.ref o3), .val (.int p4), .val (.int p5), .val (.int p6), .val (.int p7), .val (.int p8), .val (.int p0)] [(.ref o3), (.int (pf (p0).toNatClampNeg))])) _
          refine XS.iload X0.here hx rfl (hb hby d3_44) rfl ?_
          show Steps p.tables e below (s₁.setTop (mkF m 46 #[.val (.int p0), .val (.int p1), .val (.ref o2), .val (.ref o3), .val (.int p4), .val (.int p5), .val (.int p6), .val (.int p7), .val (.int p8), .val (.int p0)] [(.int p4), (.ref o3), (.int (pf (p0).toNatClampNeg))])) _
          refine XS.iload X0.here hx rfl (hb hby d3_46) rfl ?_
          show Steps p.tables e below (s₁.setTop (mkF m 48 #[.val (.int p0), .val (.int p1), .val (.ref o2), .val (.ref o3), .val (.int p4), .val (.int p5), .val (.int p6), .val (.int p7), .val (.int p8), .val (.int p0)] [(.int p0), (.int p4), (.ref o3), (.int (pf (p0).toNatClampNeg))])) _
          refine XS.iadd X0.here hx rfl (hb hby d3_48) rfl ?_
          show Steps p.tables e below (s₁.setTop (mkF m 49 #[.val (.int p0), .val (.int p1), .val (.ref o2), .val (.ref o3), .val (.int p4), .val (.int p5), .val (.int p6), .val (.int p7), .val (.int p8), .val (.int p0)] [(.int (p4 + p0)), (.ref o3), (.int (pf (p0).toNatClampNeg))])) _
          refine own_ldB X0 hx hZ e0 AT (j := (p4 + p0)) (hz p0 (by simp)) rfl rfl (hb hby d3_49) ?_
          show Steps p.tables e below (s₁.setTop (mkF m 50 #[.val (.int p0), .val (.int p1), .val (.ref o2), .val (.ref o3), .val (.int p4), .val (.int p5), .val (.int p6), .val (.int p7), .val (.int p8), .val (.int p0)] [(.int (tf ((p4 + p0)).toNatClampNeg)), (.int (pf (p0).toNatClampNeg))])) _
          by_cases hc50 : (pf (p0).toNatClampNeg) = (tf ((p4 + p0)).toNatClampNeg)
          · refine XS.icmpNo X0.here hx rfl (hb hby d3_50) rfl (teq hc50).2 ?_
            show Steps p.tables e below (s₁.setTop (mkF m 53 #[.val (.int p0), .val (.int p1), .val (.ref o2), .val (.ref o3), .val (.int p4), .val (.int p5), .val (.int p6), .val (.int p7), .val (.int p8), .val (.int p0)] [])) _
            refine XS.iconst X0.here hx rfl (hb hby d3_53) ?_
            show Steps p.tables e below (s₁.setTop (mkF m 54 #[.val (.int p0), .val (.int p1), .val (.ref o2), .val (.ref o3), .val (.int p4), .val (.int p5), .val (.int p6), .val (.int p7), .val (.int p8), .val (.int p0)] [(.int (1 : Int32))])) _
            refine XS.goto X0.here hx rfl (pc0 := 54) (pc' := 58) rfl (hb hby d3_54) (by decide) (by decide) ?_
            show Steps p.tables e below (s₁.setTop (mkF m 58 #[.val (.int p0), .val (.int p1), .val (.ref o2), .val (.ref o3), .val (.int p4), .val (.int p5), .val (.int p6), .val (.int p7), .val (.int p8), .val (.int p0)] [(.int (1 : Int32))])) _
            rw [show (own_ok p0 p1 p4 p5 p6 p7 p8 pf tf) = (1 : Int32) from by unfold own_ok; rw [if_pos hc2, if_neg hc12, if_pos hc19, if_pos hc27, if_pos hc50]] at hr
            exact retN X0 hx (t := .boolean) Bd.returns (by simp) (hb hby d3_58) hr
          · refine XS.icmpYes X0.here hx rfl (pc0 := 50) (pc' := 57) rfl (hb hby d3_50) rfl (feq hc50).2 (by decide) (by decide) ?_
            show Steps p.tables e below (s₁.setTop (mkF m 57 #[.val (.int p0), .val (.int p1), .val (.ref o2), .val (.ref o3), .val (.int p4), .val (.int p5), .val (.int p6), .val (.int p7), .val (.int p8), .val (.int p0)] [])) _
            refine XS.iconst X0.here hx rfl (hb hby d3_57) ?_
            show Steps p.tables e below (s₁.setTop (mkF m 58 #[.val (.int p0), .val (.int p1), .val (.ref o2), .val (.ref o3), .val (.int p4), .val (.int p5), .val (.int p6), .val (.int p7), .val (.int p8), .val (.int p0)] [(.int (0 : Int32))])) _
            rw [show (own_ok p0 p1 p4 p5 p6 p7 p8 pf tf) = (0 : Int32) from by unfold own_ok; rw [if_pos hc2, if_neg hc12, if_pos hc19, if_pos hc27, if_neg hc50]] at hr
            exact retN X0 hx (t := .boolean) Bd.returns (by simp) (hb hby d3_58) hr
        · refine XS.ifNo X0.here hx rfl (hb hby d3_27) rfl ((if0 _ _).trans (feq hc27).1) ?_
          show Steps p.tables e below (s₁.setTop (mkF m 30 #[.val (.int p0), .val (.int p1), .val (.ref o2), .val (.ref o3), .val (.int p4), .val (.int p5), .val (.int p6), .val (.int p7), .val (.int p8), .val (.int p0)] [])) _
          refine XS.iload X0.here hx rfl (hb hby d3_30) rfl ?_
          show Steps p.tables e below (s₁.setTop (mkF m 32 #[.val (.int p0), .val (.int p1), .val (.ref o2), .val (.ref o3), .val (.int p4), .val (.int p5), .val (.int p6), .val (.int p7), .val (.int p8), .val (.int p0)] [(.int p0)])) _
          refine XS.iload X0.here hx rfl (hb hby d3_32) rfl ?_
          show Steps p.tables e below (s₁.setTop (mkF m 34 #[.val (.int p0), .val (.int p1), .val (.ref o2), .val (.ref o3), .val (.int p4), .val (.int p5), .val (.int p6), .val (.int p7), .val (.int p8), .val (.int p0)] [(.int p8), (.int p0)])) _
          by_cases hc34 : p0 < p8
          · refine XS.icmpYes X0.here hx rfl (pc0 := 34) (pc' := 40) rfl (hb hby d3_34) rfl (tlt hc34).1 (by decide) (by decide) ?_
            show Steps p.tables e below (s₁.setTop (mkF m 40 #[.val (.int p0), .val (.int p1), .val (.ref o2), .val (.ref o3), .val (.int p4), .val (.int p5), .val (.int p6), .val (.int p7), .val (.int p8), .val (.int p0)] [])) _
            refine XS.aloadN X0.here hx rfl (hb hby d3_40) rfl rfl ?_
            show Steps p.tables e below (s₁.setTop (mkF m 41 #[.val (.int p0), .val (.int p1), .val (.ref o2), .val (.ref o3), .val (.int p4), .val (.int p5), .val (.int p6), .val (.int p7), .val (.int p8), .val (.int p0)] [(.ref o2)])) _
            refine XS.iloadN X0.here hx rfl (hb hby d3_41) rfl ?_
            show Steps p.tables e below (s₁.setTop (mkF m 42 #[.val (.int p0), .val (.int p1), .val (.ref o2), .val (.ref o3), .val (.int p4), .val (.int p5), .val (.int p6), .val (.int p7), .val (.int p8), .val (.int p0)] [(.int p0), (.ref o2)])) _
            refine own_ldB X0 hx hZ e0 AP (j := p0) hj rfl rfl (hb hby d3_42) ?_
            show Steps p.tables e below (s₁.setTop (mkF m 43 #[.val (.int p0), .val (.int p1), .val (.ref o2), .val (.ref o3), .val (.int p4), .val (.int p5), .val (.int p6), .val (.int p7), .val (.int p8), .val (.int p0)] [(.int (pf (p0).toNatClampNeg))])) _
            refine XS.aloadN X0.here hx rfl (hb hby d3_43) rfl rfl ?_
            show Steps p.tables e below (s₁.setTop (mkF m 44 #[.val (.int p0), .val (.int p1), .val (.ref o2), .val (.ref o3), .val (.int p4), .val (.int p5), .val (.int p6), .val (.int p7), .val (.int p8), .val (.int p0)] [(.ref o3), (.int (pf (p0).toNatClampNeg))])) _
            refine XS.iload X0.here hx rfl (hb hby d3_44) rfl ?_
            show Steps p.tables e below (s₁.setTop (mkF m 46 #[.val (.int p0), .val (.int p1), .val (.ref o2), .val (.ref o3), .val (.int p4), .val (.int p5), .val (.int p6), .val (.int p7), .val (.int p8), .val (.int p0)] [(.int p4), (.ref o3), (.int (pf (p0).toNatClampNeg))])) _
            refine XS.iload X0.here hx rfl (hb hby d3_46) rfl ?_
            show Steps p.tables e below (s₁.setTop (mkF m 48 #[.val (.int p0), .val (.int p1), .val (.ref o2), .val (.ref o3), .val (.int p4), .val (.int p5), .val (.int p6), .val (.int p7), .val (.int p8), .val (.int p0)] [(.int p0), (.int p4), (.ref o3), (.int (pf (p0).toNatClampNeg))])) _
            refine XS.iadd X0.here hx rfl (hb hby d3_48) rfl ?_
            show Steps p.tables e below (s₁.setTop (mkF m 49 #[.val (.int p0), .val (.int p1), .val (.ref o2), .val (.ref o3), .val (.int p4), .val (.int p5), .val (.int p6), .val (.int p7), .val (.int p8), .val (.int p0)] [(.int (p4 + p0)), (.ref o3), (.int (pf (p0).toNatClampNeg))])) _
            refine own_ldB X0 hx hZ e0 AT (j := (p4 + p0)) (hz p0 (by simp)) rfl rfl (hb hby d3_49) ?_
            show Steps p.tables e below (s₁.setTop (mkF m 50 #[.val (.int p0), .val (.int p1), .val (.ref o2), .val (.ref o3), .val (.int p4), .val (.int p5), .val (.int p6), .val (.int p7), .val (.int p8), .val (.int p0)] [(.int (tf ((p4 + p0)).toNatClampNeg)), (.int (pf (p0).toNatClampNeg))])) _
            by_cases hc50 : (pf (p0).toNatClampNeg) = (tf ((p4 + p0)).toNatClampNeg)
            · refine XS.icmpNo X0.here hx rfl (hb hby d3_50) rfl (teq hc50).2 ?_
              show Steps p.tables e below (s₁.setTop (mkF m 53 #[.val (.int p0), .val (.int p1), .val (.ref o2), .val (.ref o3), .val (.int p4), .val (.int p5), .val (.int p6), .val (.int p7), .val (.int p8), .val (.int p0)] [])) _
              refine XS.iconst X0.here hx rfl (hb hby d3_53) ?_
              show Steps p.tables e below (s₁.setTop (mkF m 54 #[.val (.int p0), .val (.int p1), .val (.ref o2), .val (.ref o3), .val (.int p4), .val (.int p5), .val (.int p6), .val (.int p7), .val (.int p8), .val (.int p0)] [(.int (1 : Int32))])) _
              refine XS.goto X0.here hx rfl (pc0 := 54) (pc' := 58) rfl (hb hby d3_54) (by decide) (by decide) ?_
              show Steps p.tables e below (s₁.setTop (mkF m 58 #[.val (.int p0), .val (.int p1), .val (.ref o2), .val (.ref o3), .val (.int p4), .val (.int p5), .val (.int p6), .val (.int p7), .val (.int p8), .val (.int p0)] [(.int (1 : Int32))])) _
              rw [show (own_ok p0 p1 p4 p5 p6 p7 p8 pf tf) = (1 : Int32) from by unfold own_ok; rw [if_pos hc2, if_neg hc12, if_pos hc19, if_neg hc27, if_pos hc34, if_pos hc50]] at hr
              exact retN X0 hx (t := .boolean) Bd.returns (by simp) (hb hby d3_58) hr
            · refine XS.icmpYes X0.here hx rfl (pc0 := 50) (pc' := 57) rfl (hb hby d3_50) rfl (feq hc50).2 (by decide) (by decide) ?_
              show Steps p.tables e below (s₁.setTop (mkF m 57 #[.val (.int p0), .val (.int p1), .val (.ref o2), .val (.ref o3), .val (.int p4), .val (.int p5), .val (.int p6), .val (.int p7), .val (.int p8), .val (.int p0)] [])) _
              refine XS.iconst X0.here hx rfl (hb hby d3_57) ?_
              show Steps p.tables e below (s₁.setTop (mkF m 58 #[.val (.int p0), .val (.int p1), .val (.ref o2), .val (.ref o3), .val (.int p4), .val (.int p5), .val (.int p6), .val (.int p7), .val (.int p8), .val (.int p0)] [(.int (0 : Int32))])) _
              rw [show (own_ok p0 p1 p4 p5 p6 p7 p8 pf tf) = (0 : Int32) from by unfold own_ok; rw [if_pos hc2, if_neg hc12, if_pos hc19, if_neg hc27, if_pos hc34, if_neg hc50]] at hr
              exact retN X0 hx (t := .boolean) Bd.returns (by simp) (hb hby d3_58) hr
          · refine XS.icmpNo X0.here hx rfl (hb hby d3_34) rfl (flt hc34).1 ?_
            show Steps p.tables e below (s₁.setTop (mkF m 37 #[.val (.int p0), .val (.int p1), .val (.ref o2), .val (.ref o3), .val (.int p4), .val (.int p5), .val (.int p6), .val (.int p7), .val (.int p8), .val (.int p0)] [])) _
            refine XS.iinc X0.here hx rfl (hb hby d3_37) rfl (l' := #[.val (.int p0), .val (.int p1), .val (.ref o2), .val (.ref o3), .val (.int p4), .val (.int p5), .val (.int p6), .val (.int p7), .val (.int p8), .val (.int (p0 + (1 : Int32)))]) rfl ?_
            show Steps p.tables e below (s₁.setTop (mkF m 40 #[.val (.int p0), .val (.int p1), .val (.ref o2), .val (.ref o3), .val (.int p4), .val (.int p5), .val (.int p6), .val (.int p7), .val (.int p8), .val (.int (p0 + (1 : Int32)))] [])) _
            refine XS.aloadN X0.here hx rfl (hb hby d3_40) rfl rfl ?_
            show Steps p.tables e below (s₁.setTop (mkF m 41 #[.val (.int p0), .val (.int p1), .val (.ref o2), .val (.ref o3), .val (.int p4), .val (.int p5), .val (.int p6), .val (.int p7), .val (.int p8), .val (.int (p0 + (1 : Int32)))] [(.ref o2)])) _
            refine XS.iloadN X0.here hx rfl (hb hby d3_41) rfl ?_
            show Steps p.tables e below (s₁.setTop (mkF m 42 #[.val (.int p0), .val (.int p1), .val (.ref o2), .val (.ref o3), .val (.int p4), .val (.int p5), .val (.int p6), .val (.int p7), .val (.int p8), .val (.int (p0 + (1 : Int32)))] [(.int p0), (.ref o2)])) _
            refine own_ldB X0 hx hZ e0 AP (j := p0) hj rfl rfl (hb hby d3_42) ?_
            show Steps p.tables e below (s₁.setTop (mkF m 43 #[.val (.int p0), .val (.int p1), .val (.ref o2), .val (.ref o3), .val (.int p4), .val (.int p5), .val (.int p6), .val (.int p7), .val (.int p8), .val (.int (p0 + (1 : Int32)))] [(.int (pf (p0).toNatClampNeg))])) _
            refine XS.aloadN X0.here hx rfl (hb hby d3_43) rfl rfl ?_
            show Steps p.tables e below (s₁.setTop (mkF m 44 #[.val (.int p0), .val (.int p1), .val (.ref o2), .val (.ref o3), .val (.int p4), .val (.int p5), .val (.int p6), .val (.int p7), .val (.int p8), .val (.int (p0 + (1 : Int32)))] [(.ref o3), (.int (pf (p0).toNatClampNeg))])) _
            refine XS.iload X0.here hx rfl (hb hby d3_44) rfl ?_
            show Steps p.tables e below (s₁.setTop (mkF m 46 #[.val (.int p0), .val (.int p1), .val (.ref o2), .val (.ref o3), .val (.int p4), .val (.int p5), .val (.int p6), .val (.int p7), .val (.int p8), .val (.int (p0 + (1 : Int32)))] [(.int p4), (.ref o3), (.int (pf (p0).toNatClampNeg))])) _
            refine XS.iload X0.here hx rfl (hb hby d3_46) rfl ?_
            show Steps p.tables e below (s₁.setTop (mkF m 48 #[.val (.int p0), .val (.int p1), .val (.ref o2), .val (.ref o3), .val (.int p4), .val (.int p5), .val (.int p6), .val (.int p7), .val (.int p8), .val (.int (p0 + (1 : Int32)))] [(.int (p0 + (1 : Int32))), (.int p4), (.ref o3), (.int (pf (p0).toNatClampNeg))])) _
            refine XS.iadd X0.here hx rfl (hb hby d3_48) rfl ?_
            show Steps p.tables e below (s₁.setTop (mkF m 49 #[.val (.int p0), .val (.int p1), .val (.ref o2), .val (.ref o3), .val (.int p4), .val (.int p5), .val (.int p6), .val (.int p7), .val (.int p8), .val (.int (p0 + (1 : Int32)))] [(.int (p4 + (p0 + (1 : Int32)))), (.ref o3), (.int (pf (p0).toNatClampNeg))])) _
            refine own_ldB X0 hx hZ e0 AT (j := (p4 + (p0 + (1 : Int32)))) (hz (p0 + (1 : Int32)) (by simp)) rfl rfl (hb hby d3_49) ?_
            show Steps p.tables e below (s₁.setTop (mkF m 50 #[.val (.int p0), .val (.int p1), .val (.ref o2), .val (.ref o3), .val (.int p4), .val (.int p5), .val (.int p6), .val (.int p7), .val (.int p8), .val (.int (p0 + (1 : Int32)))] [(.int (tf ((p4 + (p0 + (1 : Int32)))).toNatClampNeg)), (.int (pf (p0).toNatClampNeg))])) _
            by_cases hc50 : (pf (p0).toNatClampNeg) = (tf ((p4 + (p0 + (1 : Int32)))).toNatClampNeg)
            · refine XS.icmpNo X0.here hx rfl (hb hby d3_50) rfl (teq hc50).2 ?_
              show Steps p.tables e below (s₁.setTop (mkF m 53 #[.val (.int p0), .val (.int p1), .val (.ref o2), .val (.ref o3), .val (.int p4), .val (.int p5), .val (.int p6), .val (.int p7), .val (.int p8), .val (.int (p0 + (1 : Int32)))] [])) _
              refine XS.iconst X0.here hx rfl (hb hby d3_53) ?_
              show Steps p.tables e below (s₁.setTop (mkF m 54 #[.val (.int p0), .val (.int p1), .val (.ref o2), .val (.ref o3), .val (.int p4), .val (.int p5), .val (.int p6), .val (.int p7), .val (.int p8), .val (.int (p0 + (1 : Int32)))] [(.int (1 : Int32))])) _
              refine XS.goto X0.here hx rfl (pc0 := 54) (pc' := 58) rfl (hb hby d3_54) (by decide) (by decide) ?_
              show Steps p.tables e below (s₁.setTop (mkF m 58 #[.val (.int p0), .val (.int p1), .val (.ref o2), .val (.ref o3), .val (.int p4), .val (.int p5), .val (.int p6), .val (.int p7), .val (.int p8), .val (.int (p0 + (1 : Int32)))] [(.int (1 : Int32))])) _
              rw [show (own_ok p0 p1 p4 p5 p6 p7 p8 pf tf) = (1 : Int32) from by unfold own_ok; rw [if_pos hc2, if_neg hc12, if_pos hc19, if_neg hc27, if_neg hc34, if_pos hc50]] at hr
              exact retN X0 hx (t := .boolean) Bd.returns (by simp) (hb hby d3_58) hr
            · refine XS.icmpYes X0.here hx rfl (pc0 := 50) (pc' := 57) rfl (hb hby d3_50) rfl (feq hc50).2 (by decide) (by decide) ?_
              show Steps p.tables e below (s₁.setTop (mkF m 57 #[.val (.int p0), .val (.int p1), .val (.ref o2), .val (.ref o3), .val (.int p4), .val (.int p5), .val (.int p6), .val (.int p7), .val (.int p8), .val (.int (p0 + (1 : Int32)))] [])) _
              refine XS.iconst X0.here hx rfl (hb hby d3_57) ?_
              show Steps p.tables e below (s₁.setTop (mkF m 58 #[.val (.int p0), .val (.int p1), .val (.ref o2), .val (.ref o3), .val (.int p4), .val (.int p5), .val (.int p6), .val (.int p7), .val (.int p8), .val (.int (p0 + (1 : Int32)))] [(.int (0 : Int32))])) _
              rw [show (own_ok p0 p1 p4 p5 p6 p7 p8 pf tf) = (0 : Int32) from by unfold own_ok; rw [if_pos hc2, if_neg hc12, if_pos hc19, if_neg hc27, if_neg hc34, if_neg hc50]] at hr
              exact retN X0 hx (t := .boolean) Bd.returns (by simp) (hb hby d3_58) hr
      · refine XS.icmpNo X0.here hx rfl (hb hby d3_19) rfl (flt hc19).1 ?_
        show Steps p.tables e below (s₁.setTop (mkF m 22 #[.val (.int p0), .val (.int p1), .val (.ref o2), .val (.ref o3), .val (.int p4), .val (.int p5), .val (.int p6), .val (.int p7), .val (.int p8), .val (.int p0)] [])) _
        refine XS.iinc X0.here hx rfl (hb hby d3_22) rfl (l' := #[.val (.int p0), .val (.int p1), .val (.ref o2), .val (.ref o3), .val (.int p4), .val (.int p5), .val (.int p6), .val (.int p7), .val (.int p8), .val (.int (p0 + (1 : Int32)))]) rfl ?_
        show Steps p.tables e below (s₁.setTop (mkF m 25 #[.val (.int p0), .val (.int p1), .val (.ref o2), .val (.ref o3), .val (.int p4), .val (.int p5), .val (.int p6), .val (.int p7), .val (.int p8), .val (.int (p0 + (1 : Int32)))] [])) _
        refine XS.iload X0.here hx rfl (hb hby d3_25) rfl ?_
        show Steps p.tables e below (s₁.setTop (mkF m 27 #[.val (.int p0), .val (.int p1), .val (.ref o2), .val (.ref o3), .val (.int p4), .val (.int p5), .val (.int p6), .val (.int p7), .val (.int p8), .val (.int (p0 + (1 : Int32)))] [(.int p7)])) _
        by_cases hc27 : p7 = (0 : Int32)
        · refine XS.ifYes X0.here hx rfl (pc0 := 27) (pc' := 40) rfl (hb hby d3_27) rfl ((if0 _ _).trans (teq hc27).1) (by decide) (by decide) ?_
          show Steps p.tables e below (s₁.setTop (mkF m 40 #[.val (.int p0), .val (.int p1), .val (.ref o2), .val (.ref o3), .val (.int p4), .val (.int p5), .val (.int p6), .val (.int p7), .val (.int p8), .val (.int (p0 + (1 : Int32)))] [])) _
          refine XS.aloadN X0.here hx rfl (hb hby d3_40) rfl rfl ?_
          show Steps p.tables e below (s₁.setTop (mkF m 41 #[.val (.int p0), .val (.int p1), .val (.ref o2), .val (.ref o3), .val (.int p4), .val (.int p5), .val (.int p6), .val (.int p7), .val (.int p8), .val (.int (p0 + (1 : Int32)))] [(.ref o2)])) _
          refine XS.iloadN X0.here hx rfl (hb hby d3_41) rfl ?_
          show Steps p.tables e below (s₁.setTop (mkF m 42 #[.val (.int p0), .val (.int p1), .val (.ref o2), .val (.ref o3), .val (.int p4), .val (.int p5), .val (.int p6), .val (.int p7), .val (.int p8), .val (.int (p0 + (1 : Int32)))] [(.int p0), (.ref o2)])) _
          refine own_ldB X0 hx hZ e0 AP (j := p0) hj rfl rfl (hb hby d3_42) ?_
          show Steps p.tables e below (s₁.setTop (mkF m 43 #[.val (.int p0), .val (.int p1), .val (.ref o2), .val (.ref o3), .val (.int p4), .val (.int p5), .val (.int p6), .val (.int p7), .val (.int p8), .val (.int (p0 + (1 : Int32)))] [(.int (pf (p0).toNatClampNeg))])) _
          refine XS.aloadN X0.here hx rfl (hb hby d3_43) rfl rfl ?_
          show Steps p.tables e below (s₁.setTop (mkF m 44 #[.val (.int p0), .val (.int p1), .val (.ref o2), .val (.ref o3), .val (.int p4), .val (.int p5), .val (.int p6), .val (.int p7), .val (.int p8), .val (.int (p0 + (1 : Int32)))] [(.ref o3), (.int (pf (p0).toNatClampNeg))])) _
          refine XS.iload X0.here hx rfl (hb hby d3_44) rfl ?_
          show Steps p.tables e below (s₁.setTop (mkF m 46 #[.val (.int p0), .val (.int p1), .val (.ref o2), .val (.ref o3), .val (.int p4), .val (.int p5), .val (.int p6), .val (.int p7), .val (.int p8), .val (.int (p0 + (1 : Int32)))] [(.int p4), (.ref o3), (.int (pf (p0).toNatClampNeg))])) _
          refine XS.iload X0.here hx rfl (hb hby d3_46) rfl ?_
          show Steps p.tables e below (s₁.setTop (mkF m 48 #[.val (.int p0), .val (.int p1), .val (.ref o2), .val (.ref o3), .val (.int p4), .val (.int p5), .val (.int p6), .val (.int p7), .val (.int p8), .val (.int (p0 + (1 : Int32)))] [(.int (p0 + (1 : Int32))), (.int p4), (.ref o3), (.int (pf (p0).toNatClampNeg))])) _
          refine XS.iadd X0.here hx rfl (hb hby d3_48) rfl ?_
          show Steps p.tables e below (s₁.setTop (mkF m 49 #[.val (.int p0), .val (.int p1), .val (.ref o2), .val (.ref o3), .val (.int p4), .val (.int p5), .val (.int p6), .val (.int p7), .val (.int p8), .val (.int (p0 + (1 : Int32)))] [(.int (p4 + (p0 + (1 : Int32)))), (.ref o3), (.int (pf (p0).toNatClampNeg))])) _
          refine own_ldB X0 hx hZ e0 AT (j := (p4 + (p0 + (1 : Int32)))) (hz (p0 + (1 : Int32)) (by simp)) rfl rfl (hb hby d3_49) ?_
          show Steps p.tables e below (s₁.setTop (mkF m 50 #[.val (.int p0), .val (.int p1), .val (.ref o2), .val (.ref o3), .val (.int p4), .val (.int p5), .val (.int p6), .val (.int p7), .val (.int p8), .val (.int (p0 + (1 : Int32)))] [(.int (tf ((p4 + (p0 + (1 : Int32)))).toNatClampNeg)), (.int (pf (p0).toNatClampNeg))])) _
          by_cases hc50 : (pf (p0).toNatClampNeg) = (tf ((p4 + (p0 + (1 : Int32)))).toNatClampNeg)
          · refine XS.icmpNo X0.here hx rfl (hb hby d3_50) rfl (teq hc50).2 ?_
            show Steps p.tables e below (s₁.setTop (mkF m 53 #[.val (.int p0), .val (.int p1), .val (.ref o2), .val (.ref o3), .val (.int p4), .val (.int p5), .val (.int p6), .val (.int p7), .val (.int p8), .val (.int (p0 + (1 : Int32)))] [])) _
            refine XS.iconst X0.here hx rfl (hb hby d3_53) ?_
            show Steps p.tables e below (s₁.setTop (mkF m 54 #[.val (.int p0), .val (.int p1), .val (.ref o2), .val (.ref o3), .val (.int p4), .val (.int p5), .val (.int p6), .val (.int p7), .val (.int p8), .val (.int (p0 + (1 : Int32)))] [(.int (1 : Int32))])) _
            refine XS.goto X0.here hx rfl (pc0 := 54) (pc' := 58) rfl (hb hby d3_54) (by decide) (by decide) ?_
            show Steps p.tables e below (s₁.setTop (mkF m 58 #[.val (.int p0), .val (.int p1), .val (.ref o2), .val (.ref o3), .val (.int p4), .val (.int p5), .val (.int p6), .val (.int p7), .val (.int p8), .val (.int (p0 + (1 : Int32)))] [(.int (1 : Int32))])) _
            rw [show (own_ok p0 p1 p4 p5 p6 p7 p8 pf tf) = (1 : Int32) from by unfold own_ok; rw [if_pos hc2, if_neg hc12, if_neg hc19, if_pos hc27, if_pos hc50]] at hr
            exact retN X0 hx (t := .boolean) Bd.returns (by simp) (hb hby d3_58) hr
          · refine XS.icmpYes X0.here hx rfl (pc0 := 50) (pc' := 57) rfl (hb hby d3_50) rfl (feq hc50).2 (by decide) (by decide) ?_
            show Steps p.tables e below (s₁.setTop (mkF m 57 #[.val (.int p0), .val (.int p1), .val (.ref o2), .val (.ref o3), .val (.int p4), .val (.int p5), .val (.int p6), .val (.int p7), .val (.int p8), .val (.int (p0 + (1 : Int32)))] [])) _
            refine XS.iconst X0.here hx rfl (hb hby d3_57) ?_
            show Steps p.tables e below (s₁.setTop (mkF m 58 #[.val (.int p0), .val (.int p1), .val (.ref o2), .val (.ref o3), .val (.int p4), .val (.int p5), .val (.int p6), .val (.int p7), .val (.int p8), .val (.int (p0 + (1 : Int32)))] [(.int (0 : Int32))])) _
            rw [show (own_ok p0 p1 p4 p5 p6 p7 p8 pf tf) = (0 : Int32) from by unfold own_ok; rw [if_pos hc2, if_neg hc12, if_neg hc19, if_pos hc27, if_neg hc50]] at hr
            exact retN X0 hx (t := .boolean) Bd.returns (by simp) (hb hby d3_58) hr
        · refine XS.ifNo X0.here hx rfl (hb hby d3_27) rfl ((if0 _ _).trans (feq hc27).1) ?_
          show Steps p.tables e below (s₁.setTop (mkF m 30 #[.val (.int p0), .val (.int p1), .val (.ref o2), .val (.ref o3), .val (.int p4), .val (.int p5), .val (.int p6), .val (.int p7), .val (.int p8), .val (.int (p0 + (1 : Int32)))] [])) _
          refine XS.iload X0.here hx rfl (hb hby d3_30) rfl ?_
          show Steps p.tables e below (s₁.setTop (mkF m 32 #[.val (.int p0), .val (.int p1), .val (.ref o2), .val (.ref o3), .val (.int p4), .val (.int p5), .val (.int p6), .val (.int p7), .val (.int p8), .val (.int (p0 + (1 : Int32)))] [(.int (p0 + (1 : Int32)))])) _
          refine XS.iload X0.here hx rfl (hb hby d3_32) rfl ?_
          show Steps p.tables e below (s₁.setTop (mkF m 34 #[.val (.int p0), .val (.int p1), .val (.ref o2), .val (.ref o3), .val (.int p4), .val (.int p5), .val (.int p6), .val (.int p7), .val (.int p8), .val (.int (p0 + (1 : Int32)))] [(.int p8), (.int (p0 + (1 : Int32)))])) _
          by_cases hc34 : (p0 + (1 : Int32)) < p8
          · refine XS.icmpYes X0.here hx rfl (pc0 := 34) (pc' := 40) rfl (hb hby d3_34) rfl (tlt hc34).1 (by decide) (by decide) ?_
            show Steps p.tables e below (s₁.setTop (mkF m 40 #[.val (.int p0), .val (.int p1), .val (.ref o2), .val (.ref o3), .val (.int p4), .val (.int p5), .val (.int p6), .val (.int p7), .val (.int p8), .val (.int (p0 + (1 : Int32)))] [])) _
            refine XS.aloadN X0.here hx rfl (hb hby d3_40) rfl rfl ?_
            show Steps p.tables e below (s₁.setTop (mkF m 41 #[.val (.int p0), .val (.int p1), .val (.ref o2), .val (.ref o3), .val (.int p4), .val (.int p5), .val (.int p6), .val (.int p7), .val (.int p8), .val (.int (p0 + (1 : Int32)))] [(.ref o2)])) _
            refine XS.iloadN X0.here hx rfl (hb hby d3_41) rfl ?_
            show Steps p.tables e below (s₁.setTop (mkF m 42 #[.val (.int p0), .val (.int p1), .val (.ref o2), .val (.ref o3), .val (.int p4), .val (.int p5), .val (.int p6), .val (.int p7), .val (.int p8), .val (.int (p0 + (1 : Int32)))] [(.int p0), (.ref o2)])) _
            refine own_ldB X0 hx hZ e0 AP (j := p0) hj rfl rfl (hb hby d3_42) ?_
            show Steps p.tables e below (s₁.setTop (mkF m 43 #[.val (.int p0), .val (.int p1), .val (.ref o2), .val (.ref o3), .val (.int p4), .val (.int p5), .val (.int p6), .val (.int p7), .val (.int p8), .val (.int (p0 + (1 : Int32)))] [(.int (pf (p0).toNatClampNeg))])) _
            refine XS.aloadN X0.here hx rfl (hb hby d3_43) rfl rfl ?_
            show Steps p.tables e below (s₁.setTop (mkF m 44 #[.val (.int p0), .val (.int p1), .val (.ref o2), .val (.ref o3), .val (.int p4), .val (.int p5), .val (.int p6), .val (.int p7), .val (.int p8), .val (.int (p0 + (1 : Int32)))] [(.ref o3), (.int (pf (p0).toNatClampNeg))])) _
            refine XS.iload X0.here hx rfl (hb hby d3_44) rfl ?_
            show Steps p.tables e below (s₁.setTop (mkF m 46 #[.val (.int p0), .val (.int p1), .val (.ref o2), .val (.ref o3), .val (.int p4), .val (.int p5), .val (.int p6), .val (.int p7), .val (.int p8), .val (.int (p0 + (1 : Int32)))] [(.int p4), (.ref o3), (.int (pf (p0).toNatClampNeg))])) _
            refine XS.iload X0.here hx rfl (hb hby d3_46) rfl ?_
            show Steps p.tables e below (s₁.setTop (mkF m 48 #[.val (.int p0), .val (.int p1), .val (.ref o2), .val (.ref o3), .val (.int p4), .val (.int p5), .val (.int p6), .val (.int p7), .val (.int p8), .val (.int (p0 + (1 : Int32)))] [(.int (p0 + (1 : Int32))), (.int p4), (.ref o3), (.int (pf (p0).toNatClampNeg))])) _
            refine XS.iadd X0.here hx rfl (hb hby d3_48) rfl ?_
            show Steps p.tables e below (s₁.setTop (mkF m 49 #[.val (.int p0), .val (.int p1), .val (.ref o2), .val (.ref o3), .val (.int p4), .val (.int p5), .val (.int p6), .val (.int p7), .val (.int p8), .val (.int (p0 + (1 : Int32)))] [(.int (p4 + (p0 + (1 : Int32)))), (.ref o3), (.int (pf (p0).toNatClampNeg))])) _
            refine own_ldB X0 hx hZ e0 AT (j := (p4 + (p0 + (1 : Int32)))) (hz (p0 + (1 : Int32)) (by simp)) rfl rfl (hb hby d3_49) ?_
            show Steps p.tables e below (s₁.setTop (mkF m 50 #[.val (.int p0), .val (.int p1), .val (.ref o2), .val (.ref o3), .val (.int p4), .val (.int p5), .val (.int p6), .val (.int p7), .val (.int p8), .val (.int (p0 + (1 : Int32)))] [(.int (tf ((p4 + (p0 + (1 : Int32)))).toNatClampNeg)), (.int (pf (p0).toNatClampNeg))])) _
            by_cases hc50 : (pf (p0).toNatClampNeg) = (tf ((p4 + (p0 + (1 : Int32)))).toNatClampNeg)
            · refine XS.icmpNo X0.here hx rfl (hb hby d3_50) rfl (teq hc50).2 ?_
              show Steps p.tables e below (s₁.setTop (mkF m 53 #[.val (.int p0), .val (.int p1), .val (.ref o2), .val (.ref o3), .val (.int p4), .val (.int p5), .val (.int p6), .val (.int p7), .val (.int p8), .val (.int (p0 + (1 : Int32)))] [])) _
              refine XS.iconst X0.here hx rfl (hb hby d3_53) ?_
              show Steps p.tables e below (s₁.setTop (mkF m 54 #[.val (.int p0), .val (.int p1), .val (.ref o2), .val (.ref o3), .val (.int p4), .val (.int p5), .val (.int p6), .val (.int p7), .val (.int p8), .val (.int (p0 + (1 : Int32)))] [(.int (1 : Int32))])) _
              refine XS.goto X0.here hx rfl (pc0 := 54) (pc' := 58) rfl (hb hby d3_54) (by decide) (by decide) ?_
              show Steps p.tables e below (s₁.setTop (mkF m 58 #[.val (.int p0), .val (.int p1), .val (.ref o2), .val (.ref o3), .val (.int p4), .val (.int p5), .val (.int p6), .val (.int p7), .val (.int p8), .val (.int (p0 + (1 : Int32)))] [(.int (1 : Int32))])) _
              rw [show (own_ok p0 p1 p4 p5 p6 p7 p8 pf tf) = (1 : Int32) from by unfold own_ok; rw [if_pos hc2, if_neg hc12, if_neg hc19, if_neg hc27, if_pos hc34, if_pos hc50]] at hr
              exact retN X0 hx (t := .boolean) Bd.returns (by simp) (hb hby d3_58) hr
            · refine XS.icmpYes X0.here hx rfl (pc0 := 50) (pc' := 57) rfl (hb hby d3_50) rfl (feq hc50).2 (by decide) (by decide) ?_
              show Steps p.tables e below (s₁.setTop (mkF m 57 #[.val (.int p0), .val (.int p1), .val (.ref o2), .val (.ref o3), .val (.int p4), .val (.int p5), .val (.int p6), .val (.int p7), .val (.int p8), .val (.int (p0 + (1 : Int32)))] [])) _
              refine XS.iconst X0.here hx rfl (hb hby d3_57) ?_
              show Steps p.tables e below (s₁.setTop (mkF m 58 #[.val (.int p0), .val (.int p1), .val (.ref o2), .val (.ref o3), .val (.int p4), .val (.int p5), .val (.int p6), .val (.int p7), .val (.int p8), .val (.int (p0 + (1 : Int32)))] [(.int (0 : Int32))])) _
              rw [show (own_ok p0 p1 p4 p5 p6 p7 p8 pf tf) = (0 : Int32) from by unfold own_ok; rw [if_pos hc2, if_neg hc12, if_neg hc19, if_neg hc27, if_pos hc34, if_neg hc50]] at hr
              exact retN X0 hx (t := .boolean) Bd.returns (by simp) (hb hby d3_58) hr
          · refine XS.icmpNo X0.here hx rfl (hb hby d3_34) rfl (flt hc34).1 ?_
            show Steps p.tables e below (s₁.setTop (mkF m 37 #[.val (.int p0), .val (.int p1), .val (.ref o2), .val (.ref o3), .val (.int p4), .val (.int p5), .val (.int p6), .val (.int p7), .val (.int p8), .val (.int (p0 + (1 : Int32)))] [])) _
            refine XS.iinc X0.here hx rfl (hb hby d3_37) rfl (l' := #[.val (.int p0), .val (.int p1), .val (.ref o2), .val (.ref o3), .val (.int p4), .val (.int p5), .val (.int p6), .val (.int p7), .val (.int p8), .val (.int ((p0 + (1 : Int32)) + (1 : Int32)))]) rfl ?_
            show Steps p.tables e below (s₁.setTop (mkF m 40 #[.val (.int p0), .val (.int p1), .val (.ref o2), .val (.ref o3), .val (.int p4), .val (.int p5), .val (.int p6), .val (.int p7), .val (.int p8), .val (.int ((p0 + (1 : Int32)) + (1 : Int32)))] [])) _
            refine XS.aloadN X0.here hx rfl (hb hby d3_40) rfl rfl ?_
            show Steps p.tables e below (s₁.setTop (mkF m 41 #[.val (.int p0), .val (.int p1), .val (.ref o2), .val (.ref o3), .val (.int p4), .val (.int p5), .val (.int p6), .val (.int p7), .val (.int p8), .val (.int ((p0 + (1 : Int32)) + (1 : Int32)))] [(.ref o2)])) _
            refine XS.iloadN X0.here hx rfl (hb hby d3_41) rfl ?_
            show Steps p.tables e below (s₁.setTop (mkF m 42 #[.val (.int p0), .val (.int p1), .val (.ref o2), .val (.ref o3), .val (.int p4), .val (.int p5), .val (.int p6), .val (.int p7), .val (.int p8), .val (.int ((p0 + (1 : Int32)) + (1 : Int32)))] [(.int p0), (.ref o2)])) _
            refine own_ldB X0 hx hZ e0 AP (j := p0) hj rfl rfl (hb hby d3_42) ?_
            show Steps p.tables e below (s₁.setTop (mkF m 43 #[.val (.int p0), .val (.int p1), .val (.ref o2), .val (.ref o3), .val (.int p4), .val (.int p5), .val (.int p6), .val (.int p7), .val (.int p8), .val (.int ((p0 + (1 : Int32)) + (1 : Int32)))] [(.int (pf (p0).toNatClampNeg))])) _
            refine XS.aloadN X0.here hx rfl (hb hby d3_43) rfl rfl ?_
            show Steps p.tables e below (s₁.setTop (mkF m 44 #[.val (.int p0), .val (.int p1), .val (.ref o2), .val (.ref o3), .val (.int p4), .val (.int p5), .val (.int p6), .val (.int p7), .val (.int p8), .val (.int ((p0 + (1 : Int32)) + (1 : Int32)))] [(.ref o3), (.int (pf (p0).toNatClampNeg))])) _
            refine XS.iload X0.here hx rfl (hb hby d3_44) rfl ?_
            show Steps p.tables e below (s₁.setTop (mkF m 46 #[.val (.int p0), .val (.int p1), .val (.ref o2), .val (.ref o3), .val (.int p4), .val (.int p5), .val (.int p6), .val (.int p7), .val (.int p8), .val (.int ((p0 + (1 : Int32)) + (1 : Int32)))] [(.int p4), (.ref o3), (.int (pf (p0).toNatClampNeg))])) _
            refine XS.iload X0.here hx rfl (hb hby d3_46) rfl ?_
            show Steps p.tables e below (s₁.setTop (mkF m 48 #[.val (.int p0), .val (.int p1), .val (.ref o2), .val (.ref o3), .val (.int p4), .val (.int p5), .val (.int p6), .val (.int p7), .val (.int p8), .val (.int ((p0 + (1 : Int32)) + (1 : Int32)))] [(.int ((p0 + (1 : Int32)) + (1 : Int32))), (.int p4), (.ref o3), (.int (pf (p0).toNatClampNeg))])) _
            refine XS.iadd X0.here hx rfl (hb hby d3_48) rfl ?_
            show Steps p.tables e below (s₁.setTop (mkF m 49 #[.val (.int p0), .val (.int p1), .val (.ref o2), .val (.ref o3), .val (.int p4), .val (.int p5), .val (.int p6), .val (.int p7), .val (.int p8), .val (.int ((p0 + (1 : Int32)) + (1 : Int32)))] [(.int (p4 + ((p0 + (1 : Int32)) + (1 : Int32)))), (.ref o3), (.int (pf (p0).toNatClampNeg))])) _
            refine own_ldB X0 hx hZ e0 AT (j := (p4 + ((p0 + (1 : Int32)) + (1 : Int32)))) (hz ((p0 + (1 : Int32)) + (1 : Int32)) (by simp)) rfl rfl (hb hby d3_49) ?_
            show Steps p.tables e below (s₁.setTop (mkF m 50 #[.val (.int p0), .val (.int p1), .val (.ref o2), .val (.ref o3), .val (.int p4), .val (.int p5), .val (.int p6), .val (.int p7), .val (.int p8), .val (.int ((p0 + (1 : Int32)) + (1 : Int32)))] [(.int (tf ((p4 + ((p0 + (1 : Int32)) + (1 : Int32)))).toNatClampNeg)), (.int (pf (p0).toNatClampNeg))])) _
            by_cases hc50 : (pf (p0).toNatClampNeg) = (tf ((p4 + ((p0 + (1 : Int32)) + (1 : Int32)))).toNatClampNeg)
            · refine XS.icmpNo X0.here hx rfl (hb hby d3_50) rfl (teq hc50).2 ?_
              show Steps p.tables e below (s₁.setTop (mkF m 53 #[.val (.int p0), .val (.int p1), .val (.ref o2), .val (.ref o3), .val (.int p4), .val (.int p5), .val (.int p6), .val (.int p7), .val (.int p8), .val (.int ((p0 + (1 : Int32)) + (1 : Int32)))] [])) _
              refine XS.iconst X0.here hx rfl (hb hby d3_53) ?_
              show Steps p.tables e below (s₁.setTop (mkF m 54 #[.val (.int p0), .val (.int p1), .val (.ref o2), .val (.ref o3), .val (.int p4), .val (.int p5), .val (.int p6), .val (.int p7), .val (.int p8), .val (.int ((p0 + (1 : Int32)) + (1 : Int32)))] [(.int (1 : Int32))])) _
              refine XS.goto X0.here hx rfl (pc0 := 54) (pc' := 58) rfl (hb hby d3_54) (by decide) (by decide) ?_
              show Steps p.tables e below (s₁.setTop (mkF m 58 #[.val (.int p0), .val (.int p1), .val (.ref o2), .val (.ref o3), .val (.int p4), .val (.int p5), .val (.int p6), .val (.int p7), .val (.int p8), .val (.int ((p0 + (1 : Int32)) + (1 : Int32)))] [(.int (1 : Int32))])) _
              rw [show (own_ok p0 p1 p4 p5 p6 p7 p8 pf tf) = (1 : Int32) from by unfold own_ok; rw [if_pos hc2, if_neg hc12, if_neg hc19, if_neg hc27, if_neg hc34, if_pos hc50]] at hr
              exact retN X0 hx (t := .boolean) Bd.returns (by simp) (hb hby d3_58) hr
            · refine XS.icmpYes X0.here hx rfl (pc0 := 50) (pc' := 57) rfl (hb hby d3_50) rfl (feq hc50).2 (by decide) (by decide) ?_
              show Steps p.tables e below (s₁.setTop (mkF m 57 #[.val (.int p0), .val (.int p1), .val (.ref o2), .val (.ref o3), .val (.int p4), .val (.int p5), .val (.int p6), .val (.int p7), .val (.int p8), .val (.int ((p0 + (1 : Int32)) + (1 : Int32)))] [])) _
              refine XS.iconst X0.here hx rfl (hb hby d3_57) ?_
              show Steps p.tables e below (s₁.setTop (mkF m 58 #[.val (.int p0), .val (.int p1), .val (.ref o2), .val (.ref o3), .val (.int p4), .val (.int p5), .val (.int p6), .val (.int p7), .val (.int p8), .val (.int ((p0 + (1 : Int32)) + (1 : Int32)))] [(.int (0 : Int32))])) _
              rw [show (own_ok p0 p1 p4 p5 p6 p7 p8 pf tf) = (0 : Int32) from by unfold own_ok; rw [if_pos hc2, if_neg hc12, if_neg hc19, if_neg hc27, if_neg hc34, if_neg hc50]] at hr
              exact retN X0 hx (t := .boolean) Bd.returns (by simp) (hb hby d3_58) hr
  · refine XS.icmpNo X0.here hx rfl (hb hby d3_2) rfl (flt hc2).1 ?_
    show Steps p.tables e below (s₁.setTop (mkF m 5 #[.val (.int p0), .val (.int p1), .val (.ref o2), .val (.ref o3), .val (.int p4), .val (.int p5), .val (.int p6), .val (.int p7), .val (.int p8), .unset] [])) _
    refine XS.iconst X0.here hx rfl (hb hby d3_5) ?_
    show Steps p.tables e below (s₁.setTop (mkF m 6 #[.val (.int p0), .val (.int p1), .val (.ref o2), .val (.ref o3), .val (.int p4), .val (.int p5), .val (.int p6), .val (.int p7), .val (.int p8), .unset] [(.int (1 : Int32))])) _
    rw [show (own_ok p0 p1 p4 p5 p6 p7 p8 pf tf) = (1 : Int32) from by unfold own_ok; rw [if_neg hc2]] at hr
    exact retN X0 hx (t := .boolean) Bd.returns (by simp) (hb hby d3_6) hr
theorem d2_0 : decode prog_74_method_2_code 0 = .ok (.iload_n 2, 1) := by decide +kernel
theorem d2_1 : decode prog_74_method_2_code 1 = .ok (.iload_n 1, 1) := by decide +kernel
theorem d2_2 : decode prog_74_method_2_code 2 = .ok (.isub, 1) := by decide +kernel
theorem d2_3 : decode prog_74_method_2_code 3 = .ok (.bipush 64, 2) := by decide +kernel
theorem d2_5 : decode prog_74_method_2_code 5 = .ok (.if_icmp .le 5, 3) := by decide +kernel
theorem d2_8 : decode prog_74_method_2_code 8 = .ok (.iconst (-1), 1) := by decide +kernel
theorem d2_9 : decode prog_74_method_2_code 9 = .ok (.ireturn, 1) := by decide +kernel
theorem d2_10 : decode prog_74_method_2_code 10 = .ok (.iload_n 2, 1) := by decide +kernel
theorem d2_11 : decode prog_74_method_2_code 11 = .ok (.iload_n 1, 1) := by decide +kernel
theorem d2_12 : decode prog_74_method_2_code 12 = .ok (.if_icmp .le 17, 3) := by decide +kernel
theorem d2_15 : decode prog_74_method_2_code 15 = .ok (.aload_n 0, 1) := by decide +kernel
theorem d2_16 : decode prog_74_method_2_code 16 = .ok (.iload_n 1, 1) := by decide +kernel
theorem d2_17 : decode prog_74_method_2_code 17 = .ok (.baload, 1) := by decide +kernel
theorem d2_18 : decode prog_74_method_2_code 18 = .ok (.bipush 45, 2) := by decide +kernel
theorem d2_20 : decode prog_74_method_2_code 20 = .ok (.if_icmp .ne 9, 3) := by decide +kernel
theorem d2_23 : decode prog_74_method_2_code 23 = .ok (.iload_n 1, 1) := by decide +kernel
theorem d2_24 : decode prog_74_method_2_code 24 = .ok (.iconst 1, 1) := by decide +kernel
theorem d2_25 : decode prog_74_method_2_code 25 = .ok (.iadd, 1) := by decide +kernel
theorem d2_26 : decode prog_74_method_2_code 26 = .ok (.goto 4, 3) := by decide +kernel
theorem d2_29 : decode prog_74_method_2_code 29 = .ok (.iload_n 1, 1) := by decide +kernel
theorem d2_30 : decode prog_74_method_2_code 30 = .ok (.istore 4, 2) := by decide +kernel
theorem d2_32 : decode prog_74_method_2_code 32 = .ok (.iload 4, 2) := by decide +kernel
theorem d2_34 : decode prog_74_method_2_code 34 = .ok (.istore 5, 2) := by decide +kernel
theorem d2_36 : decode prog_74_method_2_code 36 = .ok (.iload 5, 2) := by decide +kernel
theorem d2_38 : decode prog_74_method_2_code 38 = .ok (.iload_n 2, 1) := by decide +kernel
theorem d2_39 : decode prog_74_method_2_code 39 = .ok (.if_icmp .ge 18, 3) := by decide +kernel
theorem d2_42 : decode prog_74_method_2_code 42 = .ok (.aload_n 0, 1) := by decide +kernel
theorem d2_43 : decode prog_74_method_2_code 43 = .ok (.iload 5, 2) := by decide +kernel
theorem d2_45 : decode prog_74_method_2_code 45 = .ok (.baload, 1) := by decide +kernel
theorem d2_46 : decode prog_74_method_2_code 46 = .ok (.bipush 46, 2) := by decide +kernel
theorem d2_48 : decode prog_74_method_2_code 48 = .ok (.if_icmp .eq 9, 3) := by decide +kernel
theorem d2_51 : decode prog_74_method_2_code 51 = .ok (.iinc 5 1, 3) := by decide +kernel
theorem d2_54 : decode prog_74_method_2_code 54 = .ok (.goto (-18), 3) := by decide +kernel
theorem d2_57 : decode prog_74_method_2_code 57 = .ok (.iconst 0, 1) := by decide +kernel
theorem d2_58 : decode prog_74_method_2_code 58 = .ok (.istore 6, 2) := by decide +kernel
theorem d2_60 : decode prog_74_method_2_code 60 = .ok (.iload 4, 2) := by decide +kernel
theorem d2_62 : decode prog_74_method_2_code 62 = .ok (.istore 7, 2) := by decide +kernel
theorem d2_64 : decode prog_74_method_2_code 64 = .ok (.iload 7, 2) := by decide +kernel
theorem d2_66 : decode prog_74_method_2_code 66 = .ok (.iload_n 2, 1) := by decide +kernel
theorem d2_67 : decode prog_74_method_2_code 67 = .ok (.if_icmp .ge 28, 3) := by decide +kernel
theorem d2_70 : decode prog_74_method_2_code 70 = .ok (.iload 6, 2) := by decide +kernel
theorem d2_72 : decode prog_74_method_2_code 72 = .ok (.aload_n 0, 1) := by decide +kernel
theorem d2_73 : decode prog_74_method_2_code 73 = .ok (.iload 7, 2) := by decide +kernel
theorem d2_75 : decode prog_74_method_2_code 75 = .ok (.baload, 1) := by decide +kernel
theorem d2_76 : decode prog_74_method_2_code 76 = .ok (.bipush 44, 2) := by decide +kernel
theorem d2_78 : decode prog_74_method_2_code 78 = .ok (.if_icmp .ne 7, 3) := by decide +kernel
theorem d2_81 : decode prog_74_method_2_code 81 = .ok (.iconst 1, 1) := by decide +kernel
theorem d2_82 : decode prog_74_method_2_code 82 = .ok (.goto 4, 3) := by decide +kernel
theorem d2_85 : decode prog_74_method_2_code 85 = .ok (.iconst 0, 1) := by decide +kernel
theorem d2_86 : decode prog_74_method_2_code 86 = .ok (.ior, 1) := by decide +kernel
theorem d2_87 : decode prog_74_method_2_code 87 = .ok (.istore 6, 2) := by decide +kernel
theorem d2_89 : decode prog_74_method_2_code 89 = .ok (.iinc 7 1, 3) := by decide +kernel
theorem d2_92 : decode prog_74_method_2_code 92 = .ok (.goto (-28), 3) := by decide +kernel
theorem d2_95 : decode prog_74_method_2_code 95 = .ok (.iload 6, 2) := by decide +kernel
theorem d2_97 : decode prog_74_method_2_code 97 = .ok (.ifCond .eq 15, 3) := by decide +kernel
theorem d2_100 : decode prog_74_method_2_code 100 = .ok (.iload 5, 2) := by decide +kernel
theorem d2_102 : decode prog_74_method_2_code 102 = .ok (.iload 4, 2) := by decide +kernel
theorem d2_104 : decode prog_74_method_2_code 104 = .ok (.isub, 1) := by decide +kernel
theorem d2_105 : decode prog_74_method_2_code 105 = .ok (.iconst 4, 1) := by decide +kernel
theorem d2_106 : decode prog_74_method_2_code 106 = .ok (.irem, 1) := by decide +kernel
theorem d2_107 : decode prog_74_method_2_code 107 = .ok (.ifCond .ne 5, 3) := by decide +kernel
theorem d2_110 : decode prog_74_method_2_code 110 = .ok (.iconst (-1), 1) := by decide +kernel
theorem d2_111 : decode prog_74_method_2_code 111 = .ok (.ireturn, 1) := by decide +kernel
theorem d2_112 : decode prog_74_method_2_code 112 = .ok (.iconst 0, 1) := by decide +kernel
theorem d2_113 : decode prog_74_method_2_code 113 = .ok (.istore 7, 2) := by decide +kernel
theorem d2_115 : decode prog_74_method_2_code 115 = .ok (.iload_n 1, 1) := by decide +kernel
theorem d2_116 : decode prog_74_method_2_code 116 = .ok (.istore 8, 2) := by decide +kernel
theorem d2_118 : decode prog_74_method_2_code 118 = .ok (.iload 8, 2) := by decide +kernel
theorem d2_120 : decode prog_74_method_2_code 120 = .ok (.iload_n 2, 1) := by decide +kernel
theorem d2_121 : decode prog_74_method_2_code 121 = .ok (.if_icmp .ge 86, 3) := by decide +kernel
theorem d2_124 : decode prog_74_method_2_code 124 = .ok (.iload 8, 2) := by decide +kernel
theorem d2_126 : decode prog_74_method_2_code 126 = .ok (.iload 4, 2) := by decide +kernel
theorem d2_128 : decode prog_74_method_2_code 128 = .ok (.if_icmp .le 24, 3) := by decide +kernel
theorem d2_131 : decode prog_74_method_2_code 131 = .ok (.iload 8, 2) := by decide +kernel
theorem d2_133 : decode prog_74_method_2_code 133 = .ok (.iload 5, 2) := by decide +kernel
theorem d2_135 : decode prog_74_method_2_code 135 = .ok (.if_icmp .ge 17, 3) := by decide +kernel
theorem d2_138 : decode prog_74_method_2_code 138 = .ok (.iload 5, 2) := by decide +kernel
theorem d2_140 : decode prog_74_method_2_code 140 = .ok (.iload 8, 2) := by decide +kernel
theorem d2_142 : decode prog_74_method_2_code 142 = .ok (.isub, 1) := by decide +kernel
theorem d2_143 : decode prog_74_method_2_code 143 = .ok (.iconst 4, 1) := by decide +kernel
theorem d2_144 : decode prog_74_method_2_code 144 = .ok (.irem, 1) := by decide +kernel
theorem d2_145 : decode prog_74_method_2_code 145 = .ok (.ifCond .ne 7, 3) := by decide +kernel
theorem d2_148 : decode prog_74_method_2_code 148 = .ok (.iconst 1, 1) := by decide +kernel
theorem d2_149 : decode prog_74_method_2_code 149 = .ok (.goto 4, 3) := by decide +kernel
theorem d2_152 : decode prog_74_method_2_code 152 = .ok (.iconst 0, 1) := by decide +kernel
theorem d2_153 : decode prog_74_method_2_code 153 = .ok (.istore 9, 2) := by decide +kernel
theorem d2_155 : decode prog_74_method_2_code 155 = .ok (.iload 6, 2) := by decide +kernel
theorem d2_157 : decode prog_74_method_2_code 157 = .ok (.ifCond .eq 24, 3) := by decide +kernel
theorem d2_160 : decode prog_74_method_2_code 160 = .ok (.iload 9, 2) := by decide +kernel
theorem d2_162 : decode prog_74_method_2_code 162 = .ok (.aload_n 0, 1) := by decide +kernel
theorem d2_163 : decode prog_74_method_2_code 163 = .ok (.iload 8, 2) := by decide +kernel
theorem d2_165 : decode prog_74_method_2_code 165 = .ok (.baload, 1) := by decide +kernel
theorem d2_166 : decode prog_74_method_2_code 166 = .ok (.bipush 44, 2) := by decide +kernel
theorem d2_168 : decode prog_74_method_2_code 168 = .ok (.if_icmp .ne 7, 3) := by decide +kernel
theorem d2_171 : decode prog_74_method_2_code 171 = .ok (.iconst 1, 1) := by decide +kernel
theorem d2_172 : decode prog_74_method_2_code 172 = .ok (.goto 4, 3) := by decide +kernel
theorem d2_175 : decode prog_74_method_2_code 175 = .ok (.iconst 0, 1) := by decide +kernel
theorem d2_176 : decode prog_74_method_2_code 176 = .ok (.if_icmp .eq 5, 3) := by decide +kernel
theorem d2_179 : decode prog_74_method_2_code 179 = .ok (.iconst (-1), 1) := by decide +kernel
theorem d2_180 : decode prog_74_method_2_code 180 = .ok (.ireturn, 1) := by decide +kernel
theorem d2_181 : decode prog_74_method_2_code 181 = .ok (.aload_n 0, 1) := by decide +kernel
theorem d2_182 : decode prog_74_method_2_code 182 = .ok (.iload 8, 2) := by decide +kernel
theorem d2_184 : decode prog_74_method_2_code 184 = .ok (.baload, 1) := by decide +kernel
theorem d2_185 : decode prog_74_method_2_code 185 = .ok (.bipush 44, 2) := by decide +kernel
theorem d2_187 : decode prog_74_method_2_code 187 = .ok (.if_icmp .eq 14, 3) := by decide +kernel
theorem d2_190 : decode prog_74_method_2_code 190 = .ok (.aload_n 3, 1) := by decide +kernel
theorem d2_191 : decode prog_74_method_2_code 191 = .ok (.iload 7, 2) := by decide +kernel
theorem d2_193 : decode prog_74_method_2_code 193 = .ok (.iinc 7 1, 3) := by decide +kernel
theorem d2_196 : decode prog_74_method_2_code 196 = .ok (.aload_n 0, 1) := by decide +kernel
theorem d2_197 : decode prog_74_method_2_code 197 = .ok (.iload 8, 2) := by decide +kernel
theorem d2_199 : decode prog_74_method_2_code 199 = .ok (.baload, 1) := by decide +kernel
theorem d2_200 : decode prog_74_method_2_code 200 = .ok (.bastore, 1) := by decide +kernel
theorem d2_201 : decode prog_74_method_2_code 201 = .ok (.iinc 8 1, 3) := by decide +kernel
theorem d2_204 : decode prog_74_method_2_code 204 = .ok (.goto (-86), 3) := by decide +kernel
theorem d2_207 : decode prog_74_method_2_code 207 = .ok (.iload 7, 2) := by decide +kernel
theorem d2_209 : decode prog_74_method_2_code 209 = .ok (.ireturn, 1) := by decide +kernel
theorem pn_2 : plainName "com/example/vestwright/vestwright/model/GroupedDecimal" = true := by first | (simp [plainName, overriddenIn]; done) | decide +kernel
theorem ef_2 (m : MethodId) (x0 : Addr) (x1 : Int32) (x2 : Int32) (x3 : Addr) : entryFrame m #[(.ref x0), (.int x1), (.int x2), (.ref x3)] 10 = mkF m 0 #[.val (.ref x0), .val (.int x1), .val (.int x2), .val (.ref x3), .unset, .unset, .unset, .unset, .unset, .unset] [] := by first | (simp [entryFrame, mkF, argsToLocals, Value.category]; done) | rfl
def own_S1_s0 (s1 : Int32) (e1 : Int32) (tf : Nat → Int32) : Int32 := (if s1 < e1 then (if (tf (s1).toNatClampNeg) = (45 : Int32) then (s1 + (1 : Int32)) else s1) else s1)
set_option maxRecDepth 65536 in
set_option maxHeartbeats 40000000 in
theorem sg_S1 {p : Program} {l : Launch} {e : Env} {R : Room} {s : State} {m : MethodId} {args : Array Value} {below : List Frame} {meth : Method} {c : Code} {T0 : State} {locs : List Loc} {cells slots : Nat} {Z : State} {a0 : Array Value} {h0 : Heap} {target : State} (o0 : Addr) (s1 : Int32) (e1 : Int32) (o3 : Addr) (tf : Nat → Int32) (X0 : Stand p l e R s m args below meth c T0 locs cells slots) (hx : p.tables.exec = Jvm.exec) (hZ : Z.Warmed39 s.vm) (hw : ∀ d ∈ tables_1, d.before a0 Z = true) (hby : c.code = prog_74_method_2_code) (hown : s.vm.findClass "com/example/vestwright/vestwright/model/GroupedDecimal" = some m.cls) (e0 : T0.heap = h0) (AT : own_AI Z h0 o0 .byte (72 : Int32) tf) (hin : ¬ s1 < 0 ∧ s1 < (72 : Int32))
    (kt : Steps p.tables e below (T0.setTop (mkF m 30 #[.val (.ref o0), .val (.int s1), .val (.int e1), .val (.ref o3), .unset, .unset, .unset, .unset, .unset, .unset] [(.int (own_S1_s0 s1 e1 tf))])) target) : Steps p.tables e below (T0.setTop (mkF m 10 #[.val (.ref o0), .val (.int s1), .val (.int e1), .val (.ref o3), .unset, .unset, .unset, .unset, .unset, .unset] [])) target := by
  show Steps p.tables e below (T0.setTop (mkF m 10 #[.val (.ref o0), .val (.int s1), .val (.int e1), .val (.ref o3), .unset, .unset, .unset, .unset, .unset, .unset] [])) _
  refine XS.iloadN X0.here hx rfl (hb hby d2_10) rfl ?_
  show Steps p.tables e below (T0.setTop (mkF m 11 #[.val (.ref o0), .val (.int s1), .val (.int e1), .val (.ref o3), .unset, .unset, .unset, .unset, .unset, .unset] [(.int e1)])) _
  refine XS.iloadN X0.here hx rfl (hb hby d2_11) rfl ?_
  show Steps p.tables e below (T0.setTop (mkF m 12 #[.val (.ref o0), .val (.int s1), .val (.int e1), .val (.ref o3), .unset, .unset, .unset, .unset, .unset, .unset] [(.int s1), (.int e1)])) _
  by_cases hc12 : s1 < e1
  · refine XS.icmpNo X0.here hx rfl (hb hby d2_12) rfl (tlt hc12).2.2.2 ?_
    show Steps p.tables e below (T0.setTop (mkF m 15 #[.val (.ref o0), .val (.int s1), .val (.int e1), .val (.ref o3), .unset, .unset, .unset, .unset, .unset, .unset] [])) _
    refine XS.aloadN X0.here hx rfl (hb hby d2_15) rfl rfl ?_
    show Steps p.tables e below (T0.setTop (mkF m 16 #[.val (.ref o0), .val (.int s1), .val (.int e1), .val (.ref o3), .unset, .unset, .unset, .unset, .unset, .unset] [(.ref o0)])) _
    refine XS.iloadN X0.here hx rfl (hb hby d2_16) rfl ?_
    show Steps p.tables e below (T0.setTop (mkF m 17 #[.val (.ref o0), .val (.int s1), .val (.int e1), .val (.ref o3), .unset, .unset, .unset, .unset, .unset, .unset] [(.int s1), (.ref o0)])) _
    refine own_ldB X0 hx hZ e0 AT (j := s1) hin rfl rfl (hb hby d2_17) ?_
    show Steps p.tables e below (T0.setTop (mkF m 18 #[.val (.ref o0), .val (.int s1), .val (.int e1), .val (.ref o3), .unset, .unset, .unset, .unset, .unset, .unset] [(.int (tf (s1).toNatClampNeg))])) _
    refine XS.bipush X0.here hx rfl (hb hby d2_18) ?_
    show Steps p.tables e below (T0.setTop (mkF m 20 #[.val (.ref o0), .val (.int s1), .val (.int e1), .val (.ref o3), .unset, .unset, .unset, .unset, .unset, .unset] [(.int (45 : Int32)), (.int (tf (s1).toNatClampNeg))])) _
    by_cases hc20 : (tf (s1).toNatClampNeg) = (45 : Int32)
    · refine XS.icmpNo X0.here hx rfl (hb hby d2_20) rfl (teq hc20).2 ?_
      show Steps p.tables e below (T0.setTop (mkF m 23 #[.val (.ref o0), .val (.int s1), .val (.int e1), .val (.ref o3), .unset, .unset, .unset, .unset, .unset, .unset] [])) _
      refine XS.iloadN X0.here hx rfl (hb hby d2_23) rfl ?_
      show Steps p.tables e below (T0.setTop (mkF m 24 #[.val (.ref o0), .val (.int s1), .val (.int e1), .val (.ref o3), .unset, .unset, .unset, .unset, .unset, .unset] [(.int s1)])) _
      refine XS.iconst X0.here hx rfl (hb hby d2_24) ?_
      show Steps p.tables e below (T0.setTop (mkF m 25 #[.val (.ref o0), .val (.int s1), .val (.int e1), .val (.ref o3), .unset, .unset, .unset, .unset, .unset, .unset] [(.int (1 : Int32)), (.int s1)])) _
      refine XS.iadd X0.here hx rfl (hb hby d2_25) rfl ?_
      show Steps p.tables e below (T0.setTop (mkF m 26 #[.val (.ref o0), .val (.int s1), .val (.int e1), .val (.ref o3), .unset, .unset, .unset, .unset, .unset, .unset] [(.int (s1 + (1 : Int32)))])) _
      refine XS.goto X0.here hx rfl (pc0 := 26) (pc' := 30) rfl (hb hby d2_26) (by decide) (by decide) ?_
      rw [show (own_S1_s0 s1 e1 tf) = (s1 + (1 : Int32)) from by unfold own_S1_s0; rw [if_pos hc12, if_pos hc20]] at kt
      exact kt
    · refine XS.icmpYes X0.here hx rfl (pc0 := 20) (pc' := 29) rfl (hb hby d2_20) rfl (feq hc20).2 (by decide) (by decide) ?_
      show Steps p.tables e below (T0.setTop (mkF m 29 #[.val (.ref o0), .val (.int s1), .val (.int e1), .val (.ref o3), .unset, .unset, .unset, .unset, .unset, .unset] [])) _
      refine XS.iloadN X0.here hx rfl (hb hby d2_29) rfl ?_
      rw [show (own_S1_s0 s1 e1 tf) = s1 from by unfold own_S1_s0; rw [if_pos hc12, if_neg hc20]] at kt
      exact kt
  · refine XS.icmpYes X0.here hx rfl (pc0 := 12) (pc' := 29) rfl (hb hby d2_12) rfl (flt hc12).2.2.2 (by decide) (by decide) ?_
    show Steps p.tables e below (T0.setTop (mkF m 29 #[.val (.ref o0), .val (.int s1), .val (.int e1), .val (.ref o3), .unset, .unset, .unset, .unset, .unset, .unset] [])) _
    refine XS.iloadN X0.here hx rfl (hb hby d2_29) rfl ?_
    rw [show (own_S1_s0 s1 e1 tf) = s1 from by unfold own_S1_s0; rw [if_neg hc12]] at kt
    exact kt
set_option maxRecDepth 65536 in
set_option maxHeartbeats 40000000 in
theorem sg_T1 {p : Program} {l : Launch} {e : Env} {R : Room} {s : State} {m : MethodId} {args : Array Value} {below : List Frame} {meth : Method} {c : Code} {T0 : State} {locs : List Loc} {cells slots : Nat} {Z : State} {a0 : Array Value} {h0 : Heap} {target : State} (o0 : Addr) (s1 : Int32) (e1 : Int32) (o3 : Addr) (tf : Nat → Int32) (ws : Int32) (we : Int32) (X0 : Stand p l e R s m args below meth c T0 locs cells slots) (hx : p.tables.exec = Jvm.exec) (hZ : Z.Warmed39 s.vm) (hw : ∀ d ∈ tables_1, d.before a0 Z = true) (hby : c.code = prog_74_method_2_code) (hown : s.vm.findClass "com/example/vestwright/vestwright/model/GroupedDecimal" = some m.cls) (e0 : T0.heap = h0) (AT : own_AI Z h0 o0 .byte (72 : Int32) tf) (hin : ¬ we < 0 ∧ we < (72 : Int32)) (q1 : we < e1) (q2 : ¬ (tf (we).toNatClampNeg) = (46 : Int32))
    (kt : Steps p.tables e below (T0.setTop (mkF m 36 #[.val (.ref o0), .val (.int s1), .val (.int e1), .val (.ref o3), .val (.int ws), .val (.int (we + (1 : Int32))), .unset, .unset, .unset, .unset] [])) target) : Steps p.tables e below (T0.setTop (mkF m 36 #[.val (.ref o0), .val (.int s1), .val (.int e1), .val (.ref o3), .val (.int ws), .val (.int we), .unset, .unset, .unset, .unset] [])) target := by
  show Steps p.tables e below (T0.setTop (mkF m 36 #[.val (.ref o0), .val (.int s1), .val (.int e1), .val (.ref o3), .val (.int ws), .val (.int we), .unset, .unset, .unset, .unset] [])) _
  refine XS.iload X0.here hx rfl (hb hby d2_36) rfl ?_
  show Steps p.tables e below (T0.setTop (mkF m 38 #[.val (.ref o0), .val (.int s1), .val (.int e1), .val (.ref o3), .val (.int ws), .val (.int we), .unset, .unset, .unset, .unset] [(.int we)])) _
  refine XS.iloadN X0.here hx rfl (hb hby d2_38) rfl ?_
  show Steps p.tables e below (T0.setTop (mkF m 39 #[.val (.ref o0), .val (.int s1), .val (.int e1), .val (.ref o3), .val (.int ws), .val (.int we), .unset, .unset, .unset, .unset] [(.int e1), (.int we)])) _
  refine XS.icmpNo X0.here hx rfl (hb hby d2_39) rfl (tlt q1).2.1 ?_
  show Steps p.tables e below (T0.setTop (mkF m 42 #[.val (.ref o0), .val (.int s1), .val (.int e1), .val (.ref o3), .val (.int ws), .val (.int we), .unset, .unset, .unset, .unset] [])) _
  refine XS.aloadN X0.here hx rfl (hb hby d2_42) rfl rfl ?_
  show Steps p.tables e below (T0.setTop (mkF m 43 #[.val (.ref o0), .val (.int s1), .val (.int e1), .val (.ref o3), .val (.int ws), .val (.int we), .unset, .unset, .unset, .unset] [(.ref o0)])) _
  refine XS.iload X0.here hx rfl (hb hby d2_43) rfl ?_
  show Steps p.tables e below (T0.setTop (mkF m 45 #[.val (.ref o0), .val (.int s1), .val (.int e1), .val (.ref o3), .val (.int ws), .val (.int we), .unset, .unset, .unset, .unset] [(.int we), (.ref o0)])) _
  refine own_ldB X0 hx hZ e0 AT (j := we) hin rfl rfl (hb hby d2_45) ?_
  show Steps p.tables e below (T0.setTop (mkF m 46 #[.val (.ref o0), .val (.int s1), .val (.int e1), .val (.ref o3), .val (.int ws), .val (.int we), .unset, .unset, .unset, .unset] [(.int (tf (we).toNatClampNeg))])) _
  refine XS.bipush X0.here hx rfl (hb hby d2_46) ?_
  show Steps p.tables e below (T0.setTop (mkF m 48 #[.val (.ref o0), .val (.int s1), .val (.int e1), .val (.ref o3), .val (.int ws), .val (.int we), .unset, .unset, .unset, .unset] [(.int (46 : Int32)), (.int (tf (we).toNatClampNeg))])) _
  refine XS.icmpNo X0.here hx rfl (hb hby d2_48) rfl (feq q2).1 ?_
  show Steps p.tables e below (T0.setTop (mkF m 51 #[.val (.ref o0), .val (.int s1), .val (.int e1), .val (.ref o3), .val (.int ws), .val (.int we), .unset, .unset, .unset, .unset] [])) _
  refine XS.iinc X0.here hx rfl (hb hby d2_51) rfl (l' := #[.val (.ref o0), .val (.int s1), .val (.int e1), .val (.ref o3), .val (.int ws), .val (.int (we + (1 : Int32))), .unset, .unset, .unset, .unset]) rfl ?_
  show Steps p.tables e below (T0.setTop (mkF m 54 #[.val (.ref o0), .val (.int s1), .val (.int e1), .val (.ref o3), .val (.int ws), .val (.int (we + (1 : Int32))), .unset, .unset, .unset, .unset] [])) _
  refine XS.goto X0.here hx rfl (pc0 := 54) (pc' := 36) rfl (hb hby d2_54) (by decide) (by decide) ?_
  exact kt
set_option maxRecDepth 65536 in
set_option maxHeartbeats 40000000 in
theorem sg_X1a {p : Program} {l : Launch} {e : Env} {R : Room} {s : State} {m : MethodId} {args : Array Value} {below : List Frame} {meth : Method} {c : Code} {T0 : State} {locs : List Loc} {cells slots : Nat} {Z : State} {a0 : Array Value} {h0 : Heap} {target : State} (o0 : Addr) (s1 : Int32) (e1 : Int32) (o3 : Addr) (tf : Nat → Int32) (ws : Int32) (we : Int32) (X0 : Stand p l e R s m args below meth c T0 locs cells slots) (hx : p.tables.exec = Jvm.exec) (hZ : Z.Warmed39 s.vm) (hw : ∀ d ∈ tables_1, d.before a0 Z = true) (hby : c.code = prog_74_method_2_code) (hown : s.vm.findClass "com/example/vestwright/vestwright/model/GroupedDecimal" = some m.cls) (e0 : T0.heap = h0) (AT : own_AI Z h0 o0 .byte (72 : Int32) tf) (q1 : ¬ we < e1)
    (kt : Steps p.tables e below (T0.setTop (mkF m 57 #[.val (.ref o0), .val (.int s1), .val (.int e1), .val (.ref o3), .val (.int ws), .val (.int we), .unset, .unset, .unset, .unset] [])) target) : Steps p.tables e below (T0.setTop (mkF m 36 #[.val (.ref o0), .val (.int s1), .val (.int e1), .val (.ref o3), .val (.int ws), .val (.int we), .unset, .unset, .unset, .unset] [])) target := by
  show Steps p.tables e below (T0.setTop (mkF m 36 #[.val (.ref o0), .val (.int s1), .val (.int e1), .val (.ref o3), .val (.int ws), .val (.int we), .unset, .unset, .unset, .unset] [])) _
  refine XS.iload X0.here hx rfl (hb hby d2_36) rfl ?_
  show Steps p.tables e below (T0.setTop (mkF m 38 #[.val (.ref o0), .val (.int s1), .val (.int e1), .val (.ref o3), .val (.int ws), .val (.int we), .unset, .unset, .unset, .unset] [(.int we)])) _
  refine XS.iloadN X0.here hx rfl (hb hby d2_38) rfl ?_
  show Steps p.tables e below (T0.setTop (mkF m 39 #[.val (.ref o0), .val (.int s1), .val (.int e1), .val (.ref o3), .val (.int ws), .val (.int we), .unset, .unset, .unset, .unset] [(.int e1), (.int we)])) _
  refine XS.icmpYes X0.here hx rfl (pc0 := 39) (pc' := 57) rfl (hb hby d2_39) rfl (flt q1).2.1 (by decide) (by decide) ?_
  exact kt
set_option maxRecDepth 65536 in
set_option maxHeartbeats 40000000 in
theorem sg_X1b {p : Program} {l : Launch} {e : Env} {R : Room} {s : State} {m : MethodId} {args : Array Value} {below : List Frame} {meth : Method} {c : Code} {T0 : State} {locs : List Loc} {cells slots : Nat} {Z : State} {a0 : Array Value} {h0 : Heap} {target : State} (o0 : Addr) (s1 : Int32) (e1 : Int32) (o3 : Addr) (tf : Nat → Int32) (ws : Int32) (we : Int32) (X0 : Stand p l e R s m args below meth c T0 locs cells slots) (hx : p.tables.exec = Jvm.exec) (hZ : Z.Warmed39 s.vm) (hw : ∀ d ∈ tables_1, d.before a0 Z = true) (hby : c.code = prog_74_method_2_code) (hown : s.vm.findClass "com/example/vestwright/vestwright/model/GroupedDecimal" = some m.cls) (e0 : T0.heap = h0) (AT : own_AI Z h0 o0 .byte (72 : Int32) tf) (hin : ¬ we < 0 ∧ we < (72 : Int32)) (q1 : we < e1) (q2 : (tf (we).toNatClampNeg) = (46 : Int32))
    (kt : Steps p.tables e below (T0.setTop (mkF m 57 #[.val (.ref o0), .val (.int s1), .val (.int e1), .val (.ref o3), .val (.int ws), .val (.int we), .unset, .unset, .unset, .unset] [])) target) : Steps p.tables e below (T0.setTop (mkF m 36 #[.val (.ref o0), .val (.int s1), .val (.int e1), .val (.ref o3), .val (.int ws), .val (.int we), .unset, .unset, .unset, .unset] [])) target := by
  show Steps p.tables e below (T0.setTop (mkF m 36 #[.val (.ref o0), .val (.int s1), .val (.int e1), .val (.ref o3), .val (.int ws), .val (.int we), .unset, .unset, .unset, .unset] [])) _
  refine XS.iload X0.here hx rfl (hb hby d2_36) rfl ?_
  show Steps p.tables e below (T0.setTop (mkF m 38 #[.val (.ref o0), .val (.int s1), .val (.int e1), .val (.ref o3), .val (.int ws), .val (.int we), .unset, .unset, .unset, .unset] [(.int we)])) _
  refine XS.iloadN X0.here hx rfl (hb hby d2_38) rfl ?_
  show Steps p.tables e below (T0.setTop (mkF m 39 #[.val (.ref o0), .val (.int s1), .val (.int e1), .val (.ref o3), .val (.int ws), .val (.int we), .unset, .unset, .unset, .unset] [(.int e1), (.int we)])) _
  refine XS.icmpNo X0.here hx rfl (hb hby d2_39) rfl (tlt q1).2.1 ?_
  show Steps p.tables e below (T0.setTop (mkF m 42 #[.val (.ref o0), .val (.int s1), .val (.int e1), .val (.ref o3), .val (.int ws), .val (.int we), .unset, .unset, .unset, .unset] [])) _
  refine XS.aloadN X0.here hx rfl (hb hby d2_42) rfl rfl ?_
  show Steps p.tables e below (T0.setTop (mkF m 43 #[.val (.ref o0), .val (.int s1), .val (.int e1), .val (.ref o3), .val (.int ws), .val (.int we), .unset, .unset, .unset, .unset] [(.ref o0)])) _
  refine XS.iload X0.here hx rfl (hb hby d2_43) rfl ?_
  show Steps p.tables e below (T0.setTop (mkF m 45 #[.val (.ref o0), .val (.int s1), .val (.int e1), .val (.ref o3), .val (.int ws), .val (.int we), .unset, .unset, .unset, .unset] [(.int we), (.ref o0)])) _
  refine own_ldB X0 hx hZ e0 AT (j := we) hin rfl rfl (hb hby d2_45) ?_
  show Steps p.tables e below (T0.setTop (mkF m 46 #[.val (.ref o0), .val (.int s1), .val (.int e1), .val (.ref o3), .val (.int ws), .val (.int we), .unset, .unset, .unset, .unset] [(.int (tf (we).toNatClampNeg))])) _
  refine XS.bipush X0.here hx rfl (hb hby d2_46) ?_
  show Steps p.tables e below (T0.setTop (mkF m 48 #[.val (.ref o0), .val (.int s1), .val (.int e1), .val (.ref o3), .val (.int ws), .val (.int we), .unset, .unset, .unset, .unset] [(.int (46 : Int32)), (.int (tf (we).toNatClampNeg))])) _
  refine XS.icmpYes X0.here hx rfl (pc0 := 48) (pc' := 57) rfl (hb hby d2_48) rfl (teq q2).1 (by decide) (by decide) ?_
  exact kt
def own_T2_l6 (tf : Nat → Int32) (gr : Int32) (i7 : Int32) : Int32 := (if (tf (i7).toNatClampNeg) = (44 : Int32) then (gr ||| (1 : Int32)) else (gr ||| (0 : Int32)))
set_option maxRecDepth 65536 in
set_option maxHeartbeats 40000000 in
theorem sg_T2 {p : Program} {l : Launch} {e : Env} {R : Room} {s : State} {m : MethodId} {args : Array Value} {below : List Frame} {meth : Method} {c : Code} {T0 : State} {locs : List Loc} {cells slots : Nat} {Z : State} {a0 : Array Value} {h0 : Heap} {target : State} (o0 : Addr) (s1 : Int32) (e1 : Int32) (o3 : Addr) (tf : Nat → Int32) (ws : Int32) (we : Int32) (gr : Int32) (i7 : Int32) (X0 : Stand p l e R s m args below meth c T0 locs cells slots) (hx : p.tables.exec = Jvm.exec) (hZ : Z.Warmed39 s.vm) (hw : ∀ d ∈ tables_1, d.before a0 Z = true) (hby : c.code = prog_74_method_2_code) (hown : s.vm.findClass "com/example/vestwright/vestwright/model/GroupedDecimal" = some m.cls) (e0 : T0.heap = h0) (AT : own_AI Z h0 o0 .byte (72 : Int32) tf) (hin : ¬ i7 < 0 ∧ i7 < (72 : Int32)) (q1 : i7 < e1)
    (kt : Steps p.tables e below (T0.setTop (mkF m 64 #[.val (.ref o0), .val (.int s1), .val (.int e1), .val (.ref o3), .val (.int ws), .val (.int we), .val (.int (own_T2_l6 tf gr i7)), .val (.int (i7 + (1 : Int32))), .unset, .unset] [])) target) : Steps p.tables e below (T0.setTop (mkF m 64 #[.val (.ref o0), .val (.int s1), .val (.int e1), .val (.ref o3), .val (.int ws), .val (.int we), .val (.int gr), .val (.int i7), .unset, .unset] [])) target := by
  show Steps p.tables e below (T0.setTop (mkF m 64 #[.val (.ref o0), .val (.int s1), .val (.int e1), .val (.ref o3), .val (.int ws), .val (.int we), .val (.int gr), .val (.int i7), .unset, .unset] [])) _
  refine XS.iload X0.here hx rfl (hb hby d2_64) rfl ?_
  show Steps p.tables e below (T0.setTop (mkF m 66 #[.val (.ref o0), .val (.int s1), .val (.int e1), .val (.ref o3), .val (.int ws), .val (.int we), .val (.int gr), .val (.int i7), .unset, .unset] [(.int i7)])) _
  refine XS.iloadN X0.here hx rfl (hb hby d2_66) rfl ?_
  show Steps p.tables e below (T0.setTop (mkF m 67 #[.val (.ref o0), .val (.int s1), .val (.int e1), .val (.ref o3), .val (.int ws), .val (.int we), .val (.int gr), .val (.int i7), .unset, .unset] [(.int e1), (.int i7)])) _
  refine XS.icmpNo X0.here hx rfl (hb hby d2_67) rfl (tlt q1).2.1 ?_
  show Steps p.tables e below (T0.setTop (mkF m 70 #[.val (.ref o0), .val (.int s1), .val (.int e1), .val (.ref o3), .val (.int ws), .val (.int we), .val (.int gr), .val (.int i7), .unset, .unset] [])) _
  refine XS.iload X0.here hx rfl (hb hby d2_70) rfl ?_
  show Steps p.tables e below (T0.setTop (mkF m 72 #[.val (.ref o0), .val (.int s1), .val (.int e1), .val (.ref o3), .val (.int ws), .val (.int we), .val (.int gr), .val (.int i7), .unset, .unset] [(.int gr)])) _
  refine XS.aloadN X0.here hx rfl (hb hby d2_72) rfl rfl ?_
  show Steps p.tables e below (T0.setTop (mkF m 73 #[.val (.ref o0), .val (.int s1), .val (.int e1), .val (.ref o3), .val (.int ws), .val (.int we), .val (.int gr), .val (.int i7), .unset, .unset] [(.ref o0), (.int gr)])) _
  refine XS.iload X0.here hx rfl (hb hby d2_73) rfl ?_
  show Steps p.tables e below (T0.setTop (mkF m 75 #[.val (.ref o0), .val (.int s1), .val (.int e1), .val (.ref o3), .val (.int ws), .val (.int we), .val (.int gr), .val (.int i7), .unset, .unset] [(.int i7), (.ref o0), (.int gr)])) _
  refine own_ldB X0 hx hZ e0 AT (j := i7) hin rfl rfl (hb hby d2_75) ?_
  show Steps p.tables e below (T0.setTop (mkF m 76 #[.val (.ref o0), .val (.int s1), .val (.int e1), .val (.ref o3), .val (.int ws), .val (.int we), .val (.int gr), .val (.int i7), .unset, .unset] [(.int (tf (i7).toNatClampNeg)), (.int gr)])) _
  refine XS.bipush X0.here hx rfl (hb hby d2_76) ?_
  show Steps p.tables e below (T0.setTop (mkF m 78 #[.val (.ref o0), .val (.int s1), .val (.int e1), .val (.ref o3), .val (.int ws), .val (.int we), .val (.int gr), .val (.int i7), .unset, .unset] [(.int (44 : Int32)), (.int (tf (i7).toNatClampNeg)), (.int gr)])) _
  by_cases hc78 : (tf (i7).toNatClampNeg) = (44 : Int32)
  · refine XS.icmpNo X0.here hx rfl (hb hby d2_78) rfl (teq hc78).2 ?_
    show Steps p.tables e below (T0.setTop (mkF m 81 #[.val (.ref o0), .val (.int s1), .val (.int e1), .val (.ref o3), .val (.int ws), .val (.int we), .val (.int gr), .val (.int i7), .unset, .unset] [(.int gr)])) _
    refine XS.iconst X0.here hx rfl (hb hby d2_81) ?_
    show Steps p.tables e below (T0.setTop (mkF m 82 #[.val (.ref o0), .val (.int s1), .val (.int e1), .val (.ref o3), .val (.int ws), .val (.int we), .val (.int gr), .val (.int i7), .unset, .unset] [(.int (1 : Int32)), (.int gr)])) _
    refine XS.goto X0.here hx rfl (pc0 := 82) (pc' := 86) rfl (hb hby d2_82) (by decide) (by decide) ?_
    show Steps p.tables e below (T0.setTop (mkF m 86 #[.val (.ref o0), .val (.int s1), .val (.int e1), .val (.ref o3), .val (.int ws), .val (.int we), .val (.int gr), .val (.int i7), .unset, .unset] [(.int (1 : Int32)), (.int gr)])) _
    refine XS.ior X0.here hx rfl (hb hby d2_86) rfl ?_
    show Steps p.tables e below (T0.setTop (mkF m 87 #[.val (.ref o0), .val (.int s1), .val (.int e1), .val (.ref o3), .val (.int ws), .val (.int we), .val (.int gr), .val (.int i7), .unset, .unset] [(.int (gr ||| (1 : Int32)))])) _
    refine XS.istore X0.here hx rfl (hb hby d2_87) rfl (l' := #[.val (.ref o0), .val (.int s1), .val (.int e1), .val (.ref o3), .val (.int ws), .val (.int we), .val (.int (gr ||| (1 : Int32))), .val (.int i7), .unset, .unset]) rfl ?_
    show Steps p.tables e below (T0.setTop (mkF m 89 #[.val (.ref o0), .val (.int s1), .val (.int e1), .val (.ref o3), .val (.int ws), .val (.int we), .val (.int (gr ||| (1 : Int32))), .val (.int i7), .unset, .unset] [])) _
    refine XS.iinc X0.here hx rfl (hb hby d2_89) rfl (l' := #[.val (.ref o0), .val (.int s1), .val (.int e1), .val (.ref o3), .val (.int ws), .val (.int we), .val (.int (gr ||| (1 : Int32))), .val (.int (i7 + (1 : Int32))), .unset, .unset]) rfl ?_
    show Steps p.tables e below (T0.setTop (mkF m 92 #[.val (.ref o0), .val (.int s1), .val (.int e1), .val (.ref o3), .val (.int ws), .val (.int we), .val (.int (gr ||| (1 : Int32))), .val (.int (i7 + (1 : Int32))), .unset, .unset] [])) _
    refine XS.goto X0.here hx rfl (pc0 := 92) (pc' := 64) rfl (hb hby d2_92) (by decide) (by decide) ?_
    rw [show (own_T2_l6 tf gr i7) = (gr ||| (1 : Int32)) from by unfold own_T2_l6; rw [if_pos hc78]] at kt
    exact kt
  · refine XS.icmpYes X0.here hx rfl (pc0 := 78) (pc' := 85) rfl (hb hby d2_78) rfl (feq hc78).2 (by decide) (by decide) ?_
    show Steps p.tables e below (T0.setTop (mkF m 85 #[.val (.ref o0), .val (.int s1), .val (.int e1), .val (.ref o3), .val (.int ws), .val (.int we), .val (.int gr), .val (.int i7), .unset, .unset] [(.int gr)])) _
    refine XS.iconst X0.here hx rfl (hb hby d2_85) ?_
    show Steps p.tables e below (T0.setTop (mkF m 86 #[.val (.ref o0), .val (.int s1), .val (.int e1), .val (.ref o3), .val (.int ws), .val (.int we), .val (.int gr), .val (.int i7), .unset, .unset] [(.int (0 : Int32)), (.int gr)])) _
    refine XS.ior X0.here hx rfl (hb hby d2_86) rfl ?_
    show Steps p.tables e below (T0.setTop (mkF m 87 #[.val (.ref o0), .val (.int s1), .val (.int e1), .val (.ref o3), .val (.int ws), .val (.int we), .val (.int gr), .val (.int i7), .unset, .unset] [(.int (gr ||| (0 : Int32)))])) _
    refine XS.istore X0.here hx rfl (hb hby d2_87) rfl (l' := #[.val (.ref o0), .val (.int s1), .val (.int e1), .val (.ref o3), .val (.int ws), .val (.int we), .val (.int (gr ||| (0 : Int32))), .val (.int i7), .unset, .unset]) rfl ?_
    show Steps p.tables e below (T0.setTop (mkF m 89 #[.val (.ref o0), .val (.int s1), .val (.int e1), .val (.ref o3), .val (.int ws), .val (.int we), .val (.int (gr ||| (0 : Int32))), .val (.int i7), .unset, .unset] [])) _
    refine XS.iinc X0.here hx rfl (hb hby d2_89) rfl (l' := #[.val (.ref o0), .val (.int s1), .val (.int e1), .val (.ref o3), .val (.int ws), .val (.int we), .val (.int (gr ||| (0 : Int32))), .val (.int (i7 + (1 : Int32))), .unset, .unset]) rfl ?_
    show Steps p.tables e below (T0.setTop (mkF m 92 #[.val (.ref o0), .val (.int s1), .val (.int e1), .val (.ref o3), .val (.int ws), .val (.int we), .val (.int (gr ||| (0 : Int32))), .val (.int (i7 + (1 : Int32))), .unset, .unset] [])) _
    refine XS.goto X0.here hx rfl (pc0 := 92) (pc' := 64) rfl (hb hby d2_92) (by decide) (by decide) ?_
    rw [show (own_T2_l6 tf gr i7) = (gr ||| (0 : Int32)) from by unfold own_T2_l6; rw [if_neg hc78]] at kt
    exact kt
set_option maxRecDepth 65536 in
set_option maxHeartbeats 40000000 in
theorem sg_X2 {p : Program} {l : Launch} {e : Env} {R : Room} {s : State} {m : MethodId} {args : Array Value} {below : List Frame} {meth : Method} {c : Code} {T0 : State} {locs : List Loc} {cells slots : Nat} {Z : State} {a0 : Array Value} {h0 : Heap} {target : State} (o0 : Addr) (s1 : Int32) (e1 : Int32) (o3 : Addr) (tf : Nat → Int32) (ws : Int32) (we : Int32) (gr : Int32) (i7 : Int32) (X0 : Stand p l e R s m args below meth c T0 locs cells slots) (hx : p.tables.exec = Jvm.exec) (hZ : Z.Warmed39 s.vm) (hw : ∀ d ∈ tables_1, d.before a0 Z = true) (hby : c.code = prog_74_method_2_code) (hown : s.vm.findClass "com/example/vestwright/vestwright/model/GroupedDecimal" = some m.cls) (e0 : T0.heap = h0) (q1 : ¬ i7 < e1)
    (kt : Steps p.tables e below (T0.setTop (mkF m 95 #[.val (.ref o0), .val (.int s1), .val (.int e1), .val (.ref o3), .val (.int ws), .val (.int we), .val (.int gr), .val (.int i7), .unset, .unset] [])) target) : Steps p.tables e below (T0.setTop (mkF m 64 #[.val (.ref o0), .val (.int s1), .val (.int e1), .val (.ref o3), .val (.int ws), .val (.int we), .val (.int gr), .val (.int i7), .unset, .unset] [])) target := by
  show Steps p.tables e below (T0.setTop (mkF m 64 #[.val (.ref o0), .val (.int s1), .val (.int e1), .val (.ref o3), .val (.int ws), .val (.int we), .val (.int gr), .val (.int i7), .unset, .unset] [])) _
  refine XS.iload X0.here hx rfl (hb hby d2_64) rfl ?_
  show Steps p.tables e below (T0.setTop (mkF m 66 #[.val (.ref o0), .val (.int s1), .val (.int e1), .val (.ref o3), .val (.int ws), .val (.int we), .val (.int gr), .val (.int i7), .unset, .unset] [(.int i7)])) _
  refine XS.iloadN X0.here hx rfl (hb hby d2_66) rfl ?_
  show Steps p.tables e below (T0.setTop (mkF m 67 #[.val (.ref o0), .val (.int s1), .val (.int e1), .val (.ref o3), .val (.int ws), .val (.int we), .val (.int gr), .val (.int i7), .unset, .unset] [(.int e1), (.int i7)])) _
  refine XS.icmpYes X0.here hx rfl (pc0 := 67) (pc' := 95) rfl (hb hby d2_67) rfl (flt q1).2.1 (by decide) (by decide) ?_
  exact kt
set_option maxRecDepth 65536 in
set_option maxHeartbeats 40000000 in
theorem sg_S5a {p : Program} {l : Launch} {e : Env} {R : Room} {s : State} {m : MethodId} {args : Array Value} {below : List Frame} {meth : Method} {c : Code} {T0 : State} {locs : List Loc} {cells slots : Nat} {Z : State} {a0 : Array Value} {h0 : Heap} {target : State} (o0 : Addr) (s1 : Int32) (e1 : Int32) (o3 : Addr) (tf : Nat → Int32) (ws : Int32) (we : Int32) (gr : Int32) (i7 : Int32) (X0 : Stand p l e R s m args below meth c T0 locs cells slots) (hx : p.tables.exec = Jvm.exec) (hZ : Z.Warmed39 s.vm) (hw : ∀ d ∈ tables_1, d.before a0 Z = true) (hby : c.code = prog_74_method_2_code) (hown : s.vm.findClass "com/example/vestwright/vestwright/model/GroupedDecimal" = some m.cls) (e0 : T0.heap = h0) (q1 : gr = (0 : Int32))
    (kt : Steps p.tables e below (T0.setTop (mkF m 112 #[.val (.ref o0), .val (.int s1), .val (.int e1), .val (.ref o3), .val (.int ws), .val (.int we), .val (.int gr), .val (.int i7), .unset, .unset] [])) target) : Steps p.tables e below (T0.setTop (mkF m 95 #[.val (.ref o0), .val (.int s1), .val (.int e1), .val (.ref o3), .val (.int ws), .val (.int we), .val (.int gr), .val (.int i7), .unset, .unset] [])) target := by
  show Steps p.tables e below (T0.setTop (mkF m 95 #[.val (.ref o0), .val (.int s1), .val (.int e1), .val (.ref o3), .val (.int ws), .val (.int we), .val (.int gr), .val (.int i7), .unset, .unset] [])) _
  refine XS.iload X0.here hx rfl (hb hby d2_95) rfl ?_
  show Steps p.tables e below (T0.setTop (mkF m 97 #[.val (.ref o0), .val (.int s1), .val (.int e1), .val (.ref o3), .val (.int ws), .val (.int we), .val (.int gr), .val (.int i7), .unset, .unset] [(.int gr)])) _
  refine XS.ifYes X0.here hx rfl (pc0 := 97) (pc' := 112) rfl (hb hby d2_97) rfl ((if0 _ _).trans (teq q1).1) (by decide) (by decide) ?_
  exact kt
set_option maxRecDepth 65536 in
set_option maxHeartbeats 40000000 in
theorem sg_S5b {p : Program} {l : Launch} {e : Env} {R : Room} {s : State} {m : MethodId} {args : Array Value} {below : List Frame} {meth : Method} {c : Code} {T0 : State} {locs : List Loc} {cells slots : Nat} {Z : State} {a0 : Array Value} {h0 : Heap} {target : State} (o0 : Addr) (s1 : Int32) (e1 : Int32) (o3 : Addr) (tf : Nat → Int32) (ws : Int32) (we : Int32) (gr : Int32) (i7 : Int32) (X0 : Stand p l e R s m args below meth c T0 locs cells slots) (hx : p.tables.exec = Jvm.exec) (hZ : Z.Warmed39 s.vm) (hw : ∀ d ∈ tables_1, d.before a0 Z = true) (hby : c.code = prog_74_method_2_code) (hown : s.vm.findClass "com/example/vestwright/vestwright/model/GroupedDecimal" = some m.cls) (e0 : T0.heap = h0) (q1 : ¬ gr = (0 : Int32)) (q2 : ¬ ((we - ws) % (4 : Int32)) = (0 : Int32))
    (kt : Steps p.tables e below (T0.setTop (mkF m 112 #[.val (.ref o0), .val (.int s1), .val (.int e1), .val (.ref o3), .val (.int ws), .val (.int we), .val (.int gr), .val (.int i7), .unset, .unset] [])) target) : Steps p.tables e below (T0.setTop (mkF m 95 #[.val (.ref o0), .val (.int s1), .val (.int e1), .val (.ref o3), .val (.int ws), .val (.int we), .val (.int gr), .val (.int i7), .unset, .unset] [])) target := by
  show Steps p.tables e below (T0.setTop (mkF m 95 #[.val (.ref o0), .val (.int s1), .val (.int e1), .val (.ref o3), .val (.int ws), .val (.int we), .val (.int gr), .val (.int i7), .unset, .unset] [])) _
  refine XS.iload X0.here hx rfl (hb hby d2_95) rfl ?_
  show Steps p.tables e below (T0.setTop (mkF m 97 #[.val (.ref o0), .val (.int s1), .val (.int e1), .val (.ref o3), .val (.int ws), .val (.int we), .val (.int gr), .val (.int i7), .unset, .unset] [(.int gr)])) _
  refine XS.ifNo X0.here hx rfl (hb hby d2_97) rfl ((if0 _ _).trans (feq q1).1) ?_
  show Steps p.tables e below (T0.setTop (mkF m 100 #[.val (.ref o0), .val (.int s1), .val (.int e1), .val (.ref o3), .val (.int ws), .val (.int we), .val (.int gr), .val (.int i7), .unset, .unset] [])) _
  refine XS.iload X0.here hx rfl (hb hby d2_100) rfl ?_
  show Steps p.tables e below (T0.setTop (mkF m 102 #[.val (.ref o0), .val (.int s1), .val (.int e1), .val (.ref o3), .val (.int ws), .val (.int we), .val (.int gr), .val (.int i7), .unset, .unset] [(.int we)])) _
  refine XS.iload X0.here hx rfl (hb hby d2_102) rfl ?_
  show Steps p.tables e below (T0.setTop (mkF m 104 #[.val (.ref o0), .val (.int s1), .val (.int e1), .val (.ref o3), .val (.int ws), .val (.int we), .val (.int gr), .val (.int i7), .unset, .unset] [(.int ws), (.int we)])) _
  refine XS.isub X0.here hx rfl (hb hby d2_104) rfl ?_
  show Steps p.tables e below (T0.setTop (mkF m 105 #[.val (.ref o0), .val (.int s1), .val (.int e1), .val (.ref o3), .val (.int ws), .val (.int we), .val (.int gr), .val (.int i7), .unset, .unset] [(.int (we - ws))])) _
  refine XS.iconst X0.here hx rfl (hb hby d2_105) ?_
  show Steps p.tables e below (T0.setTop (mkF m 106 #[.val (.ref o0), .val (.int s1), .val (.int e1), .val (.ref o3), .val (.int ws), .val (.int we), .val (.int gr), .val (.int i7), .unset, .unset] [(.int (4 : Int32)), (.int (we - ws))])) _
  refine iremM X0 hx rfl (hb hby d2_106) rfl (by decide) ?_
  show Steps p.tables e below (T0.setTop (mkF m 107 #[.val (.ref o0), .val (.int s1), .val (.int e1), .val (.ref o3), .val (.int ws), .val (.int we), .val (.int gr), .val (.int i7), .unset, .unset] [(.int ((we - ws) % (4 : Int32)))])) _
  refine XS.ifYes X0.here hx rfl (pc0 := 107) (pc' := 112) rfl (hb hby d2_107) rfl ((if0 _ _).trans (feq q2).2) (by decide) (by decide) ?_
  exact kt
def own_G1U_l9 (ws : Int32) (we : Int32) (i8 : Int32) : Int32 := (if ws < i8 then (if i8 < we then (if ((we - i8) % (4 : Int32)) = (0 : Int32) then (1 : Int32) else (0 : Int32)) else (0 : Int32)) else (0 : Int32))
set_option maxRecDepth 65536 in
set_option maxHeartbeats 40000000 in
theorem sg_G1U {p : Program} {l : Launch} {e : Env} {R : Room} {s : State} {m : MethodId} {args : Array Value} {below : List Frame} {meth : Method} {c : Code} {T0 : State} {locs : List Loc} {cells slots : Nat} {Z : State} {a0 : Array Value} {h0 : Heap} {target : State} (o0 : Addr) (s1 : Int32) (e1 : Int32) (o3 : Addr) (tf : Nat → Int32) (ws : Int32) (we : Int32) (gr : Int32) (ct : Int32) (i8 : Int32) (X0 : Stand p l e R s m args below meth c T0 locs cells slots) (hx : p.tables.exec = Jvm.exec) (hZ : Z.Warmed39 s.vm) (hw : ∀ d ∈ tables_1, d.before a0 Z = true) (hby : c.code = prog_74_method_2_code) (hown : s.vm.findClass "com/example/vestwright/vestwright/model/GroupedDecimal" = some m.cls) (e0 : T0.heap = h0) (q1 : i8 < e1)
    (kt : Steps p.tables e below (T0.setTop (mkF m 155 #[.val (.ref o0), .val (.int s1), .val (.int e1), .val (.ref o3), .val (.int ws), .val (.int we), .val (.int gr), .val (.int ct), .val (.int i8), .val (.int (own_G1U_l9 ws we i8))] [])) target) : Steps p.tables e below (T0.setTop (mkF m 118 #[.val (.ref o0), .val (.int s1), .val (.int e1), .val (.ref o3), .val (.int ws), .val (.int we), .val (.int gr), .val (.int ct), .val (.int i8), .unset] [])) target := by
  show Steps p.tables e below (T0.setTop (mkF m 118 #[.val (.ref o0), .val (.int s1), .val (.int e1), .val (.ref o3), .val (.int ws), .val (.int we), .val (.int gr), .val (.int ct), .val (.int i8), .unset] [])) _
  refine XS.iload X0.here hx rfl (hb hby d2_118) rfl ?_
  show Steps p.tables e below (T0.setTop (mkF m 120 #[.val (.ref o0), .val (.int s1), .val (.int e1), .val (.ref o3), .val (.int ws), .val (.int we), .val (.int gr), .val (.int ct), .val (.int i8), .unset] [(.int i8)])) _
  refine XS.iloadN X0.here hx rfl (hb hby d2_120) rfl ?_
  show Steps p.tables e below (T0.setTop (mkF m 121 #[.val (.ref o0), .val (.int s1), .val (.int e1), .val (.ref o3), .val (.int ws), .val (.int we), .val (.int gr), .val (.int ct), .val (.int i8), .unset] [(.int e1), (.int i8)])) _
  refine XS.icmpNo X0.here hx rfl (hb hby d2_121) rfl (tlt q1).2.1 ?_
  show Steps p.tables e below (T0.setTop (mkF m 124 #[.val (.ref o0), .val (.int s1), .val (.int e1), .val (.ref o3), .val (.int ws), .val (.int we), .val (.int gr), .val (.int ct), .val (.int i8), .unset] [])) _
  refine XS.iload X0.here hx rfl (hb hby d2_124) rfl ?_
  show Steps p.tables e below (T0.setTop (mkF m 126 #[.val (.ref o0), .val (.int s1), .val (.int e1), .val (.ref o3), .val (.int ws), .val (.int we), .val (.int gr), .val (.int ct), .val (.int i8), .unset] [(.int i8)])) _
  refine XS.iload X0.here hx rfl (hb hby d2_126) rfl ?_
  show Steps p.tables e below (T0.setTop (mkF m 128 #[.val (.ref o0), .val (.int s1), .val (.int e1), .val (.ref o3), .val (.int ws), .val (.int we), .val (.int gr), .val (.int ct), .val (.int i8), .unset] [(.int ws), (.int i8)])) _
  by_cases hc128 : ws < i8
  · refine XS.icmpNo X0.here hx rfl (hb hby d2_128) rfl (tlt hc128).2.2.2 ?_
    show Steps p.tables e below (T0.setTop (mkF m 131 #[.val (.ref o0), .val (.int s1), .val (.int e1), .val (.ref o3), .val (.int ws), .val (.int we), .val (.int gr), .val (.int ct), .val (.int i8), .unset] [])) _
    refine XS.iload X0.here hx rfl (hb hby d2_131) rfl ?_
    show Steps p.tables e below (T0.setTop (mkF m 133 #[.val (.ref o0), .val (.int s1), .val (.int e1), .val (.ref o3), .val (.int ws), .val (.int we), .val (.int gr), .val (.int ct), .val (.int i8), .unset] [(.int i8)])) _
    refine XS.iload X0.here hx rfl (hb hby d2_133) rfl ?_
    show Steps p.tables e below (T0.setTop (mkF m 135 #[.val (.ref o0), .val (.int s1), .val (.int e1), .val (.ref o3), .val (.int ws), .val (.int we), .val (.int gr), .val (.int ct), .val (.int i8), .unset] [(.int we), (.int i8)])) _
    by_cases hc135 : i8 < we
    · refine XS.icmpNo X0.here hx rfl (hb hby d2_135) rfl (tlt hc135).2.1 ?_
      show Steps p.tables e below (T0.setTop (mkF m 138 #[.val (.ref o0), .val (.int s1), .val (.int e1), .val (.ref o3), .val (.int ws), .val (.int we), .val (.int gr), .val (.int ct), .val (.int i8), .unset] [])) _
      refine XS.iload X0.here hx rfl (hb hby d2_138) rfl ?_
      show Steps p.tables e below (T0.setTop (mkF m 140 #[.val (.ref o0), .val (.int s1), .val (.int e1), .val (.ref o3), .val (.int ws), .val (.int we), .val (.int gr), .val (.int ct), .val (.int i8), .unset] [(.int we)])) _
      refine XS.iload X0.here hx rfl (hb hby d2_140) rfl ?_
      show Steps p.tables e below (T0.setTop (mkF m 142 #[.val (.ref o0), .val (.int s1), .val (.int e1), .val (.ref o3), .val (.int ws), .val (.int we), .val (.int gr), .val (.int ct), .val (.int i8), .unset] [(.int i8), (.int we)])) _
      refine XS.isub X0.here hx rfl (hb hby d2_142) rfl ?_
      show Steps p.tables e below (T0.setTop (mkF m 143 #[.val (.ref o0), .val (.int s1), .val (.int e1), .val (.ref o3), .val (.int ws), .val (.int we), .val (.int gr), .val (.int ct), .val (.int i8), .unset] [(.int (we - i8))])) _
      refine XS.iconst X0.here hx rfl (hb hby d2_143) ?_
      show Steps p.tables e below (T0.setTop (mkF m 144 #[.val (.ref o0), .val (.int s1), .val (.int e1), .val (.ref o3), .val (.int ws), .val (.int we), .val (.int gr), .val (.int ct), .val (.int i8), .unset] [(.int (4 : Int32)), (.int (we - i8))])) _
      refine iremM X0 hx rfl (hb hby d2_144) rfl (by decide) ?_
      show Steps p.tables e below (T0.setTop (mkF m 145 #[.val (.ref o0), .val (.int s1), .val (.int e1), .val (.ref o3), .val (.int ws), .val (.int we), .val (.int gr), .val (.int ct), .val (.int i8), .unset] [(.int ((we - i8) % (4 : Int32)))])) _
      by_cases hc145 : ((we - i8) % (4 : Int32)) = (0 : Int32)
      · refine XS.ifNo X0.here hx rfl (hb hby d2_145) rfl ((if0 _ _).trans (teq hc145).2) ?_
        show Steps p.tables e below (T0.setTop (mkF m 148 #[.val (.ref o0), .val (.int s1), .val (.int e1), .val (.ref o3), .val (.int ws), .val (.int we), .val (.int gr), .val (.int ct), .val (.int i8), .unset] [])) _
        refine XS.iconst X0.here hx rfl (hb hby d2_148) ?_
        show Steps p.tables e below (T0.setTop (mkF m 149 #[.val (.ref o0), .val (.int s1), .val (.int e1), .val (.ref o3), .val (.int ws), .val (.int we), .val (.int gr), .val (.int ct), .val (.int i8), .unset] [(.int (1 : Int32))])) _
        refine XS.goto X0.here hx rfl (pc0 := 149) (pc' := 153) rfl (hb hby d2_149) (by decide) (by decide) ?_
        show Steps p.tables e below (T0.setTop (mkF m 153 #[.val (.ref o0), .val (.int s1), .val (.int e1), .val (.ref o3), .val (.int ws), .val (.int we), .val (.int gr), .val (.int ct), .val (.int i8), .unset] [(.int (1 : Int32))])) _
        refine XS.istore X0.here hx rfl (hb hby d2_153) rfl (l' := #[.val (.ref o0), .val (.int s1), .val (.int e1), .val (.ref o3), .val (.int ws), .val (.int we), .val (.int gr), .val (.int ct), .val (.int i8), .val (.int (1 : Int32))]) rfl ?_
        rw [show (own_G1U_l9 ws we i8) = (1 : Int32) from by unfold own_G1U_l9; rw [if_pos hc128, if_pos hc135, if_pos hc145]] at kt
        exact kt
      · refine XS.ifYes X0.here hx rfl (pc0 := 145) (pc' := 152) rfl (hb hby d2_145) rfl ((if0 _ _).trans (feq hc145).2) (by decide) (by decide) ?_
        show Steps p.tables e below (T0.setTop (mkF m 152 #[.val (.ref o0), .val (.int s1), .val (.int e1), .val (.ref o3), .val (.int ws), .val (.int we), .val (.int gr), .val (.int ct), .val (.int i8), .unset] [])) _
        refine XS.iconst X0.here hx rfl (hb hby d2_152) ?_
        show Steps p.tables e below (T0.setTop (mkF m 153 #[.val (.ref o0), .val (.int s1), .val (.int e1), .val (.ref o3), .val (.int ws), .val (.int we), .val (.int gr), .val (.int ct), .val (.int i8), .unset] [(.int (0 : Int32))])) _
        refine XS.istore X0.here hx rfl (hb hby d2_153) rfl (l' := #[.val (.ref o0), .val (.int s1), .val (.int e1), .val (.ref o3), .val (.int ws), .val (.int we), .val (.int gr), .val (.int ct), .val (.int i8), .val (.int (0 : Int32))]) rfl ?_
        rw [show (own_G1U_l9 ws we i8) = (0 : Int32) from by unfold own_G1U_l9; rw [if_pos hc128, if_pos hc135, if_neg hc145]] at kt
        exact kt
    · refine XS.icmpYes X0.here hx rfl (pc0 := 135) (pc' := 152) rfl (hb hby d2_135) rfl (flt hc135).2.1 (by decide) (by decide) ?_
      show Steps p.tables e below (T0.setTop (mkF m 152 #[.val (.ref o0), .val (.int s1), .val (.int e1), .val (.ref o3), .val (.int ws), .val (.int we), .val (.int gr), .val (.int ct), .val (.int i8), .unset] [])) _
      refine XS.iconst X0.here hx rfl (hb hby d2_152) ?_
      show Steps p.tables e below (T0.setTop (mkF m 153 #[.val (.ref o0), .val (.int s1), .val (.int e1), .val (.ref o3), .val (.int ws), .val (.int we), .val (.int gr), .val (.int ct), .val (.int i8), .unset] [(.int (0 : Int32))])) _
      refine XS.istore X0.here hx rfl (hb hby d2_153) rfl (l' := #[.val (.ref o0), .val (.int s1), .val (.int e1), .val (.ref o3), .val (.int ws), .val (.int we), .val (.int gr), .val (.int ct), .val (.int i8), .val (.int (0 : Int32))]) rfl ?_
      rw [show (own_G1U_l9 ws we i8) = (0 : Int32) from by unfold own_G1U_l9; rw [if_pos hc128, if_neg hc135]] at kt
      exact kt
  · refine XS.icmpYes X0.here hx rfl (pc0 := 128) (pc' := 152) rfl (hb hby d2_128) rfl (flt hc128).2.2.2 (by decide) (by decide) ?_
    show Steps p.tables e below (T0.setTop (mkF m 152 #[.val (.ref o0), .val (.int s1), .val (.int e1), .val (.ref o3), .val (.int ws), .val (.int we), .val (.int gr), .val (.int ct), .val (.int i8), .unset] [])) _
    refine XS.iconst X0.here hx rfl (hb hby d2_152) ?_
    show Steps p.tables e below (T0.setTop (mkF m 153 #[.val (.ref o0), .val (.int s1), .val (.int e1), .val (.ref o3), .val (.int ws), .val (.int we), .val (.int gr), .val (.int ct), .val (.int i8), .unset] [(.int (0 : Int32))])) _
    refine XS.istore X0.here hx rfl (hb hby d2_153) rfl (l' := #[.val (.ref o0), .val (.int s1), .val (.int e1), .val (.ref o3), .val (.int ws), .val (.int we), .val (.int gr), .val (.int ct), .val (.int i8), .val (.int (0 : Int32))]) rfl ?_
    rw [show (own_G1U_l9 ws we i8) = (0 : Int32) from by unfold own_G1U_l9; rw [if_neg hc128]] at kt
    exact kt
set_option maxRecDepth 65536 in
set_option maxHeartbeats 40000000 in
theorem sg_X3U {p : Program} {l : Launch} {e : Env} {R : Room} {s : State} {m : MethodId} {args : Array Value} {below : List Frame} {meth : Method} {c : Code} {T0 : State} {locs : List Loc} {cells slots : Nat} {Z : State} {a0 : Array Value} {h0 : Heap} {target : State} (o0 : Addr) (s1 : Int32) (e1 : Int32) (o3 : Addr) (tf : Nat → Int32) (ws : Int32) (we : Int32) (gr : Int32) (ct : Int32) (i8 : Int32) (X0 : Stand p l e R s m args below meth c T0 locs cells slots) (hx : p.tables.exec = Jvm.exec) (hZ : Z.Warmed39 s.vm) (hw : ∀ d ∈ tables_1, d.before a0 Z = true) (hby : c.code = prog_74_method_2_code) (hown : s.vm.findClass "com/example/vestwright/vestwright/model/GroupedDecimal" = some m.cls) (e0 : T0.heap = h0) (q1 : ¬ i8 < e1)
    (kt : Steps p.tables e below (T0.setTop (mkF m 207 #[.val (.ref o0), .val (.int s1), .val (.int e1), .val (.ref o3), .val (.int ws), .val (.int we), .val (.int gr), .val (.int ct), .val (.int i8), .unset] [])) target) : Steps p.tables e below (T0.setTop (mkF m 118 #[.val (.ref o0), .val (.int s1), .val (.int e1), .val (.ref o3), .val (.int ws), .val (.int we), .val (.int gr), .val (.int ct), .val (.int i8), .unset] [])) target := by
  show Steps p.tables e below (T0.setTop (mkF m 118 #[.val (.ref o0), .val (.int s1), .val (.int e1), .val (.ref o3), .val (.int ws), .val (.int we), .val (.int gr), .val (.int ct), .val (.int i8), .unset] [])) _
  refine XS.iload X0.here hx rfl (hb hby d2_118) rfl ?_
  show Steps p.tables e below (T0.setTop (mkF m 120 #[.val (.ref o0), .val (.int s1), .val (.int e1), .val (.ref o3), .val (.int ws), .val (.int we), .val (.int gr), .val (.int ct), .val (.int i8), .unset] [(.int i8)])) _
  refine XS.iloadN X0.here hx rfl (hb hby d2_120) rfl ?_
  show Steps p.tables e below (T0.setTop (mkF m 121 #[.val (.ref o0), .val (.int s1), .val (.int e1), .val (.ref o3), .val (.int ws), .val (.int we), .val (.int gr), .val (.int ct), .val (.int i8), .unset] [(.int e1), (.int i8)])) _
  refine XS.icmpYes X0.here hx rfl (pc0 := 121) (pc' := 207) rfl (hb hby d2_121) rfl (flt q1).2.1 (by decide) (by decide) ?_
  exact kt
def own_G1I_l9 (ws : Int32) (we : Int32) (i8 : Int32) : Int32 := (if ws < i8 then (if i8 < we then (if ((we - i8) % (4 : Int32)) = (0 : Int32) then (1 : Int32) else (0 : Int32)) else (0 : Int32)) else (0 : Int32))
set_option maxRecDepth 65536 in
set_option maxHeartbeats 40000000 in
theorem sg_G1I {p : Program} {l : Launch} {e : Env} {R : Room} {s : State} {m : MethodId} {args : Array Value} {below : List Frame} {meth : Method} {c : Code} {T0 : State} {locs : List Loc} {cells slots : Nat} {Z : State} {a0 : Array Value} {h0 : Heap} {target : State} (o0 : Addr) (s1 : Int32) (e1 : Int32) (o3 : Addr) (tf : Nat → Int32) (ws : Int32) (we : Int32) (gr : Int32) (ct : Int32) (i8 : Int32) (s9 : Int32) (X0 : Stand p l e R s m args below meth c T0 locs cells slots) (hx : p.tables.exec = Jvm.exec) (hZ : Z.Warmed39 s.vm) (hw : ∀ d ∈ tables_1, d.before a0 Z = true) (hby : c.code = prog_74_method_2_code) (hown : s.vm.findClass "com/example/vestwright/vestwright/model/GroupedDecimal" = some m.cls) (e0 : T0.heap = h0) (q1 : i8 < e1)
    (kt : Steps p.tables e below (T0.setTop (mkF m 155 #[.val (.ref o0), .val (.int s1), .val (.int e1), .val (.ref o3), .val (.int ws), .val (.int we), .val (.int gr), .val (.int ct), .val (.int i8), .val (.int (own_G1I_l9 ws we i8))] [])) target) : Steps p.tables e below (T0.setTop (mkF m 118 #[.val (.ref o0), .val (.int s1), .val (.int e1), .val (.ref o3), .val (.int ws), .val (.int we), .val (.int gr), .val (.int ct), .val (.int i8), .val (.int s9)] [])) target := by
  show Steps p.tables e below (T0.setTop (mkF m 118 #[.val (.ref o0), .val (.int s1), .val (.int e1), .val (.ref o3), .val (.int ws), .val (.int we), .val (.int gr), .val (.int ct), .val (.int i8), .val (.int s9)] [])) _
  refine XS.iload X0.here hx rfl (hb hby d2_118) rfl ?_
  show Steps p.tables e below (T0.setTop (mkF m 120 #[.val (.ref o0), .val (.int s1), .val (.int e1), .val (.ref o3), .val (.int ws), .val (.int we), .val (.int gr), .val (.int ct), .val (.int i8), .val (.int s9)] [(.int i8)])) _
  refine XS.iloadN X0.here hx rfl (hb hby d2_120) rfl ?_
  show Steps p.tables e below (T0.setTop (mkF m 121 #[.val (.ref o0), .val (.int s1), .val (.int e1), .val (.ref o3), .val (.int ws), .val (.int we), .val (.int gr), .val (.int ct), .val (.int i8), .val (.int s9)] [(.int e1), (.int i8)])) _
  refine XS.icmpNo X0.here hx rfl (hb hby d2_121) rfl (tlt q1).2.1 ?_
  show Steps p.tables e below (T0.setTop (mkF m 124 #[.val (.ref o0), .val (.int s1), .val (.int e1), .val (.ref o3), .val (.int ws), .val (.int we), .val (.int gr), .val (.int ct), .val (.int i8), .val (.int s9)] [])) _
  refine XS.iload X0.here hx rfl (hb hby d2_124) rfl ?_
  show Steps p.tables e below (T0.setTop (mkF m 126 #[.val (.ref o0), .val (.int s1), .val (.int e1), .val (.ref o3), .val (.int ws), .val (.int we), .val (.int gr), .val (.int ct), .val (.int i8), .val (.int s9)] [(.int i8)])) _
  refine XS.iload X0.here hx rfl (hb hby d2_126) rfl ?_
  show Steps p.tables e below (T0.setTop (mkF m 128 #[.val (.ref o0), .val (.int s1), .val (.int e1), .val (.ref o3), .val (.int ws), .val (.int we), .val (.int gr), .val (.int ct), .val (.int i8), .val (.int s9)] [(.int ws), (.int i8)])) _
  by_cases hc128 : ws < i8
  · refine XS.icmpNo X0.here hx rfl (hb hby d2_128) rfl (tlt hc128).2.2.2 ?_
    show Steps p.tables e below (T0.setTop (mkF m 131 #[.val (.ref o0), .val (.int s1), .val (.int e1), .val (.ref o3), .val (.int ws), .val (.int we), .val (.int gr), .val (.int ct), .val (.int i8), .val (.int s9)] [])) _
    refine XS.iload X0.here hx rfl (hb hby d2_131) rfl ?_
    show Steps p.tables e below (T0.setTop (mkF m 133 #[.val (.ref o0), .val (.int s1), .val (.int e1), .val (.ref o3), .val (.int ws), .val (.int we), .val (.int gr), .val (.int ct), .val (.int i8), .val (.int s9)] [(.int i8)])) _
    refine XS.iload X0.here hx rfl (hb hby d2_133) rfl ?_
    show Steps p.tables e below (T0.setTop (mkF m 135 #[.val (.ref o0), .val (.int s1), .val (.int e1), .val (.ref o3), .val (.int ws), .val (.int we), .val (.int gr), .val (.int ct), .val (.int i8), .val (.int s9)] [(.int we), (.int i8)])) _
    by_cases hc135 : i8 < we
    · refine XS.icmpNo X0.here hx rfl (hb hby d2_135) rfl (tlt hc135).2.1 ?_
      show Steps p.tables e below (T0.setTop (mkF m 138 #[.val (.ref o0), .val (.int s1), .val (.int e1), .val (.ref o3), .val (.int ws), .val (.int we), .val (.int gr), .val (.int ct), .val (.int i8), .val (.int s9)] [])) _
      refine XS.iload X0.here hx rfl (hb hby d2_138) rfl ?_
      show Steps p.tables e below (T0.setTop (mkF m 140 #[.val (.ref o0), .val (.int s1), .val (.int e1), .val (.ref o3), .val (.int ws), .val (.int we), .val (.int gr), .val (.int ct), .val (.int i8), .val (.int s9)] [(.int we)])) _
      refine XS.iload X0.here hx rfl (hb hby d2_140) rfl ?_
      show Steps p.tables e below (T0.setTop (mkF m 142 #[.val (.ref o0), .val (.int s1), .val (.int e1), .val (.ref o3), .val (.int ws), .val (.int we), .val (.int gr), .val (.int ct), .val (.int i8), .val (.int s9)] [(.int i8), (.int we)])) _
      refine XS.isub X0.here hx rfl (hb hby d2_142) rfl ?_
      show Steps p.tables e below (T0.setTop (mkF m 143 #[.val (.ref o0), .val (.int s1), .val (.int e1), .val (.ref o3), .val (.int ws), .val (.int we), .val (.int gr), .val (.int ct), .val (.int i8), .val (.int s9)] [(.int (we - i8))])) _
      refine XS.iconst X0.here hx rfl (hb hby d2_143) ?_
      show Steps p.tables e below (T0.setTop (mkF m 144 #[.val (.ref o0), .val (.int s1), .val (.int e1), .val (.ref o3), .val (.int ws), .val (.int we), .val (.int gr), .val (.int ct), .val (.int i8), .val (.int s9)] [(.int (4 : Int32)), (.int (we - i8))])) _
      refine iremM X0 hx rfl (hb hby d2_144) rfl (by decide) ?_
      show Steps p.tables e below (T0.setTop (mkF m 145 #[.val (.ref o0), .val (.int s1), .val (.int e1), .val (.ref o3), .val (.int ws), .val (.int we), .val (.int gr), .val (.int ct), .val (.int i8), .val (.int s9)] [(.int ((we - i8) % (4 : Int32)))])) _
      by_cases hc145 : ((we - i8) % (4 : Int32)) = (0 : Int32)
      · refine XS.ifNo X0.here hx rfl (hb hby d2_145) rfl ((if0 _ _).trans (teq hc145).2) ?_
        show Steps p.tables e below (T0.setTop (mkF m 148 #[.val (.ref o0), .val (.int s1), .val (.int e1), .val (.ref o3), .val (.int ws), .val (.int we), .val (.int gr), .val (.int ct), .val (.int i8), .val (.int s9)] [])) _
        refine XS.iconst X0.here hx rfl (hb hby d2_148) ?_
        show Steps p.tables e below (T0.setTop (mkF m 149 #[.val (.ref o0), .val (.int s1), .val (.int e1), .val (.ref o3), .val (.int ws), .val (.int we), .val (.int gr), .val (.int ct), .val (.int i8), .val (.int s9)] [(.int (1 : Int32))])) _
        refine XS.goto X0.here hx rfl (pc0 := 149) (pc' := 153) rfl (hb hby d2_149) (by decide) (by decide) ?_
        show Steps p.tables e below (T0.setTop (mkF m 153 #[.val (.ref o0), .val (.int s1), .val (.int e1), .val (.ref o3), .val (.int ws), .val (.int we), .val (.int gr), .val (.int ct), .val (.int i8), .val (.int s9)] [(.int (1 : Int32))])) _
        refine XS.istore X0.here hx rfl (hb hby d2_153) rfl (l' := #[.val (.ref o0), .val (.int s1), .val (.int e1), .val (.ref o3), .val (.int ws), .val (.int we), .val (.int gr), .val (.int ct), .val (.int i8), .val (.int (1 : Int32))]) rfl ?_
        rw [show (own_G1I_l9 ws we i8) = (1 : Int32) from by unfold own_G1I_l9; rw [if_pos hc128, if_pos hc135, if_pos hc145]] at kt
        exact kt
      · refine XS.ifYes X0.here hx rfl (pc0 := 145) (pc' := 152) rfl (hb hby d2_145) rfl ((if0 _ _).trans (feq hc145).2) (by decide) (by decide) ?_
        show Steps p.tables e below (T0.setTop (mkF m 152 #[.val (.ref o0), .val (.int s1), .val (.int e1), .val (.ref o3), .val (.int ws), .val (.int we), .val (.int gr), .val (.int ct), .val (.int i8), .val (.int s9)] [])) _
        refine XS.iconst X0.here hx rfl (hb hby d2_152) ?_
        show Steps p.tables e below (T0.setTop (mkF m 153 #[.val (.ref o0), .val (.int s1), .val (.int e1), .val (.ref o3), .val (.int ws), .val (.int we), .val (.int gr), .val (.int ct), .val (.int i8), .val (.int s9)] [(.int (0 : Int32))])) _
        refine XS.istore X0.here hx rfl (hb hby d2_153) rfl (l' := #[.val (.ref o0), .val (.int s1), .val (.int e1), .val (.ref o3), .val (.int ws), .val (.int we), .val (.int gr), .val (.int ct), .val (.int i8), .val (.int (0 : Int32))]) rfl ?_
        rw [show (own_G1I_l9 ws we i8) = (0 : Int32) from by unfold own_G1I_l9; rw [if_pos hc128, if_pos hc135, if_neg hc145]] at kt
        exact kt
    · refine XS.icmpYes X0.here hx rfl (pc0 := 135) (pc' := 152) rfl (hb hby d2_135) rfl (flt hc135).2.1 (by decide) (by decide) ?_
      show Steps p.tables e below (T0.setTop (mkF m 152 #[.val (.ref o0), .val (.int s1), .val (.int e1), .val (.ref o3), .val (.int ws), .val (.int we), .val (.int gr), .val (.int ct), .val (.int i8), .val (.int s9)] [])) _
      refine XS.iconst X0.here hx rfl (hb hby d2_152) ?_
      show Steps p.tables e below (T0.setTop (mkF m 153 #[.val (.ref o0), .val (.int s1), .val (.int e1), .val (.ref o3), .val (.int ws), .val (.int we), .val (.int gr), .val (.int ct), .val (.int i8), .val (.int s9)] [(.int (0 : Int32))])) _
      refine XS.istore X0.here hx rfl (hb hby d2_153) rfl (l' := #[.val (.ref o0), .val (.int s1), .val (.int e1), .val (.ref o3), .val (.int ws), .val (.int we), .val (.int gr), .val (.int ct), .val (.int i8), .val (.int (0 : Int32))]) rfl ?_
      rw [show (own_G1I_l9 ws we i8) = (0 : Int32) from by unfold own_G1I_l9; rw [if_pos hc128, if_neg hc135]] at kt
      exact kt
  · refine XS.icmpYes X0.here hx rfl (pc0 := 128) (pc' := 152) rfl (hb hby d2_128) rfl (flt hc128).2.2.2 (by decide) (by decide) ?_
    show Steps p.tables e below (T0.setTop (mkF m 152 #[.val (.ref o0), .val (.int s1), .val (.int e1), .val (.ref o3), .val (.int ws), .val (.int we), .val (.int gr), .val (.int ct), .val (.int i8), .val (.int s9)] [])) _
    refine XS.iconst X0.here hx rfl (hb hby d2_152) ?_
    show Steps p.tables e below (T0.setTop (mkF m 153 #[.val (.ref o0), .val (.int s1), .val (.int e1), .val (.ref o3), .val (.int ws), .val (.int we), .val (.int gr), .val (.int ct), .val (.int i8), .val (.int s9)] [(.int (0 : Int32))])) _
    refine XS.istore X0.here hx rfl (hb hby d2_153) rfl (l' := #[.val (.ref o0), .val (.int s1), .val (.int e1), .val (.ref o3), .val (.int ws), .val (.int we), .val (.int gr), .val (.int ct), .val (.int i8), .val (.int (0 : Int32))]) rfl ?_
    rw [show (own_G1I_l9 ws we i8) = (0 : Int32) from by unfold own_G1I_l9; rw [if_neg hc128]] at kt
    exact kt
set_option maxRecDepth 65536 in
set_option maxHeartbeats 40000000 in
theorem sg_X3I {p : Program} {l : Launch} {e : Env} {R : Room} {s : State} {m : MethodId} {args : Array Value} {below : List Frame} {meth : Method} {c : Code} {T0 : State} {locs : List Loc} {cells slots : Nat} {Z : State} {a0 : Array Value} {h0 : Heap} {target : State} (o0 : Addr) (s1 : Int32) (e1 : Int32) (o3 : Addr) (tf : Nat → Int32) (ws : Int32) (we : Int32) (gr : Int32) (ct : Int32) (i8 : Int32) (s9 : Int32) (X0 : Stand p l e R s m args below meth c T0 locs cells slots) (hx : p.tables.exec = Jvm.exec) (hZ : Z.Warmed39 s.vm) (hw : ∀ d ∈ tables_1, d.before a0 Z = true) (hby : c.code = prog_74_method_2_code) (hown : s.vm.findClass "com/example/vestwright/vestwright/model/GroupedDecimal" = some m.cls) (e0 : T0.heap = h0) (q1 : ¬ i8 < e1)
    (kt : Steps p.tables e below (T0.setTop (mkF m 207 #[.val (.ref o0), .val (.int s1), .val (.int e1), .val (.ref o3), .val (.int ws), .val (.int we), .val (.int gr), .val (.int ct), .val (.int i8), .val (.int s9)] [])) target) : Steps p.tables e below (T0.setTop (mkF m 118 #[.val (.ref o0), .val (.int s1), .val (.int e1), .val (.ref o3), .val (.int ws), .val (.int we), .val (.int gr), .val (.int ct), .val (.int i8), .val (.int s9)] [])) target := by
  show Steps p.tables e below (T0.setTop (mkF m 118 #[.val (.ref o0), .val (.int s1), .val (.int e1), .val (.ref o3), .val (.int ws), .val (.int we), .val (.int gr), .val (.int ct), .val (.int i8), .val (.int s9)] [])) _
  refine XS.iload X0.here hx rfl (hb hby d2_118) rfl ?_
  show Steps p.tables e below (T0.setTop (mkF m 120 #[.val (.ref o0), .val (.int s1), .val (.int e1), .val (.ref o3), .val (.int ws), .val (.int we), .val (.int gr), .val (.int ct), .val (.int i8), .val (.int s9)] [(.int i8)])) _
  refine XS.iloadN X0.here hx rfl (hb hby d2_120) rfl ?_
  show Steps p.tables e below (T0.setTop (mkF m 121 #[.val (.ref o0), .val (.int s1), .val (.int e1), .val (.ref o3), .val (.int ws), .val (.int we), .val (.int gr), .val (.int ct), .val (.int i8), .val (.int s9)] [(.int e1), (.int i8)])) _
  refine XS.icmpYes X0.here hx rfl (pc0 := 121) (pc' := 207) rfl (hb hby d2_121) rfl (flt q1).2.1 (by decide) (by decide) ?_
  exact kt
set_option maxRecDepth 65536 in
set_option maxHeartbeats 40000000 in
theorem sg_G2 {p : Program} {l : Launch} {e : Env} {R : Room} {s : State} {m : MethodId} {args : Array Value} {below : List Frame} {meth : Method} {c : Code} {T0 : State} {locs : List Loc} {cells slots : Nat} {Z : State} {a0 : Array Value} {h0 : Heap} {target : State} (o0 : Addr) (s1 : Int32) (e1 : Int32) (o3 : Addr) (tf : Nat → Int32) (ws : Int32) (we : Int32) (gr : Int32) (ct : Int32) (i8 : Int32) (sp : Int32) (X0 : Stand p l e R s m args below meth c T0 locs cells slots) (hx : p.tables.exec = Jvm.exec) (hZ : Z.Warmed39 s.vm) (hw : ∀ d ∈ tables_1, d.before a0 Z = true) (hby : c.code = prog_74_method_2_code) (hown : s.vm.findClass "com/example/vestwright/vestwright/model/GroupedDecimal" = some m.cls) (e0 : T0.heap = h0) (q2 : gr = (0 : Int32))
    (kt : Steps p.tables e below (T0.setTop (mkF m 181 #[.val (.ref o0), .val (.int s1), .val (.int e1), .val (.ref o3), .val (.int ws), .val (.int we), .val (.int gr), .val (.int ct), .val (.int i8), .val (.int sp)] [])) target) : Steps p.tables e below (T0.setTop (mkF m 155 #[.val (.ref o0), .val (.int s1), .val (.int e1), .val (.ref o3), .val (.int ws), .val (.int we), .val (.int gr), .val (.int ct), .val (.int i8), .val (.int sp)] [])) target := by
  show Steps p.tables e below (T0.setTop (mkF m 155 #[.val (.ref o0), .val (.int s1), .val (.int e1), .val (.ref o3), .val (.int ws), .val (.int we), .val (.int gr), .val (.int ct), .val (.int i8), .val (.int sp)] [])) _
  refine XS.iload X0.here hx rfl (hb hby d2_155) rfl ?_
  show Steps p.tables e below (T0.setTop (mkF m 157 #[.val (.ref o0), .val (.int s1), .val (.int e1), .val (.ref o3), .val (.int ws), .val (.int we), .val (.int gr), .val (.int ct), .val (.int i8), .val (.int sp)] [(.int gr)])) _
  refine XS.ifYes X0.here hx rfl (pc0 := 157) (pc' := 181) rfl (hb hby d2_157) rfl ((if0 _ _).trans (teq q2).1) (by decide) (by decide) ?_
  exact kt
def own_G3_s0 (tf : Nat → Int32) (i8 : Int32) : Int32 := (if (tf (i8).toNatClampNeg) = (44 : Int32) then (1 : Int32) else (0 : Int32))
set_option maxRecDepth 65536 in
set_option maxHeartbeats 40000000 in
theorem sg_G3 {p : Program} {l : Launch} {e : Env} {R : Room} {s : State} {m : MethodId} {args : Array Value} {below : List Frame} {meth : Method} {c : Code} {T0 : State} {locs : List Loc} {cells slots : Nat} {Z : State} {a0 : Array Value} {h0 : Heap} {target : State} (o0 : Addr) (s1 : Int32) (e1 : Int32) (o3 : Addr) (tf : Nat → Int32) (ws : Int32) (we : Int32) (gr : Int32) (ct : Int32) (i8 : Int32) (sp : Int32) (X0 : Stand p l e R s m args below meth c T0 locs cells slots) (hx : p.tables.exec = Jvm.exec) (hZ : Z.Warmed39 s.vm) (hw : ∀ d ∈ tables_1, d.before a0 Z = true) (hby : c.code = prog_74_method_2_code) (hown : s.vm.findClass "com/example/vestwright/vestwright/model/GroupedDecimal" = some m.cls) (e0 : T0.heap = h0) (AT : own_AI Z h0 o0 .byte (72 : Int32) tf) (hin : ¬ i8 < 0 ∧ i8 < (72 : Int32)) (q2 : ¬ gr = (0 : Int32))
    (kt : Steps p.tables e below (T0.setTop (mkF m 176 #[.val (.ref o0), .val (.int s1), .val (.int e1), .val (.ref o3), .val (.int ws), .val (.int we), .val (.int gr), .val (.int ct), .val (.int i8), .val (.int sp)] [(.int (own_G3_s0 tf i8)), (.int sp)])) target) : Steps p.tables e below (T0.setTop (mkF m 155 #[.val (.ref o0), .val (.int s1), .val (.int e1), .val (.ref o3), .val (.int ws), .val (.int we), .val (.int gr), .val (.int ct), .val (.int i8), .val (.int sp)] [])) target := by
  show Steps p.tables e below (T0.setTop (mkF m 155 #[.val (.ref o0), .val (.int s1), .val (.int e1), .val (.ref o3), .val (.int ws), .val (.int we), .val (.int gr), .val (.int ct), .val (.int i8), .val (.int sp)] [])) _
  refine XS.iload X0.here hx rfl (hb hby d2_155) rfl ?_
  show Steps p.tables e below (T0.setTop (mkF m 157 #[.val (.ref o0), .val (.int s1), .val (.int e1), .val (.ref o3), .val (.int ws), .val (.int we), .val (.int gr), .val (.int ct), .val (.int i8), .val (.int sp)] [(.int gr)])) _
  refine XS.ifNo X0.here hx rfl (hb hby d2_157) rfl ((if0 _ _).trans (feq q2).1) ?_
  show Steps p.tables e below (T0.setTop (mkF m 160 #[.val (.ref o0), .val (.int s1), .val (.int e1), .val (.ref o3), .val (.int ws), .val (.int we), .val (.int gr), .val (.int ct), .val (.int i8), .val (.int sp)] [])) _
  refine XS.iload X0.here hx rfl (hb hby d2_160) rfl ?_
  show Steps p.tables e below (T0.setTop (mkF m 162 #[.val (.ref o0), .val (.int s1), .val (.int e1), .val (.ref o3), .val (.int ws), .val (.int we), .val (.int gr), .val (.int ct), .val (.int i8), .val (.int sp)] [(.int sp)])) _
  refine XS.aloadN X0.here hx rfl (hb hby d2_162) rfl rfl ?_
  show Steps p.tables e below (T0.setTop (mkF m 163 #[.val (.ref o0), .val (.int s1), .val (.int e1), .val (.ref o3), .val (.int ws), .val (.int we), .val (.int gr), .val (.int ct), .val (.int i8), .val (.int sp)] [(.ref o0), (.int sp)])) _
  refine XS.iload X0.here hx rfl (hb hby d2_163) rfl ?_
  show Steps p.tables e below (T0.setTop (mkF m 165 #[.val (.ref o0), .val (.int s1), .val (.int e1), .val (.ref o3), .val (.int ws), .val (.int we), .val (.int gr), .val (.int ct), .val (.int i8), .val (.int sp)] [(.int i8), (.ref o0), (.int sp)])) _
  refine own_ldB X0 hx hZ e0 AT (j := i8) hin rfl rfl (hb hby d2_165) ?_
  show Steps p.tables e below (T0.setTop (mkF m 166 #[.val (.ref o0), .val (.int s1), .val (.int e1), .val (.ref o3), .val (.int ws), .val (.int we), .val (.int gr), .val (.int ct), .val (.int i8), .val (.int sp)] [(.int (tf (i8).toNatClampNeg)), (.int sp)])) _
  refine XS.bipush X0.here hx rfl (hb hby d2_166) ?_
  show Steps p.tables e below (T0.setTop (mkF m 168 #[.val (.ref o0), .val (.int s1), .val (.int e1), .val (.ref o3), .val (.int ws), .val (.int we), .val (.int gr), .val (.int ct), .val (.int i8), .val (.int sp)] [(.int (44 : Int32)), (.int (tf (i8).toNatClampNeg)), (.int sp)])) _
  by_cases hc168 : (tf (i8).toNatClampNeg) = (44 : Int32)
  · refine XS.icmpNo X0.here hx rfl (hb hby d2_168) rfl (teq hc168).2 ?_
    show Steps p.tables e below (T0.setTop (mkF m 171 #[.val (.ref o0), .val (.int s1), .val (.int e1), .val (.ref o3), .val (.int ws), .val (.int we), .val (.int gr), .val (.int ct), .val (.int i8), .val (.int sp)] [(.int sp)])) _
    refine XS.iconst X0.here hx rfl (hb hby d2_171) ?_
    show Steps p.tables e below (T0.setTop (mkF m 172 #[.val (.ref o0), .val (.int s1), .val (.int e1), .val (.ref o3), .val (.int ws), .val (.int we), .val (.int gr), .val (.int ct), .val (.int i8), .val (.int sp)] [(.int (1 : Int32)), (.int sp)])) _
    refine XS.goto X0.here hx rfl (pc0 := 172) (pc' := 176) rfl (hb hby d2_172) (by decide) (by decide) ?_
    rw [show (own_G3_s0 tf i8) = (1 : Int32) from by unfold own_G3_s0; rw [if_pos hc168]] at kt
    exact kt
  · refine XS.icmpYes X0.here hx rfl (pc0 := 168) (pc' := 175) rfl (hb hby d2_168) rfl (feq hc168).2 (by decide) (by decide) ?_
    show Steps p.tables e below (T0.setTop (mkF m 175 #[.val (.ref o0), .val (.int s1), .val (.int e1), .val (.ref o3), .val (.int ws), .val (.int we), .val (.int gr), .val (.int ct), .val (.int i8), .val (.int sp)] [(.int sp)])) _
    refine XS.iconst X0.here hx rfl (hb hby d2_175) ?_
    rw [show (own_G3_s0 tf i8) = (0 : Int32) from by unfold own_G3_s0; rw [if_neg hc168]] at kt
    exact kt
set_option maxRecDepth 65536 in
set_option maxHeartbeats 40000000 in
theorem sg_G4 {p : Program} {l : Launch} {e : Env} {R : Room} {s : State} {m : MethodId} {args : Array Value} {below : List Frame} {meth : Method} {c : Code} {T0 : State} {locs : List Loc} {cells slots : Nat} {Z : State} {a0 : Array Value} {h0 : Heap} {target : State} (o0 : Addr) (s1 : Int32) (e1 : Int32) (o3 : Addr) (tf : Nat → Int32) (ws : Int32) (we : Int32) (gr : Int32) (ct : Int32) (i8 : Int32) (sp : Int32) (X0 : Stand p l e R s m args below meth c T0 locs cells slots) (hx : p.tables.exec = Jvm.exec) (hZ : Z.Warmed39 s.vm) (hw : ∀ d ∈ tables_1, d.before a0 Z = true) (hby : c.code = prog_74_method_2_code) (hown : s.vm.findClass "com/example/vestwright/vestwright/model/GroupedDecimal" = some m.cls) (e0 : T0.heap = h0) (AT : own_AI Z h0 o0 .byte (72 : Int32) tf) (hin : ¬ i8 < 0 ∧ i8 < (72 : Int32)) (q3 : (tf (i8).toNatClampNeg) = (44 : Int32))
    (kt : Steps p.tables e below (T0.setTop (mkF m 118 #[.val (.ref o0), .val (.int s1), .val (.int e1), .val (.ref o3), .val (.int ws), .val (.int we), .val (.int gr), .val (.int ct), .val (.int (i8 + (1 : Int32))), .val (.int sp)] [])) target) : Steps p.tables e below (T0.setTop (mkF m 181 #[.val (.ref o0), .val (.int s1), .val (.int e1), .val (.ref o3), .val (.int ws), .val (.int we), .val (.int gr), .val (.int ct), .val (.int i8), .val (.int sp)] [])) target := by
  show Steps p.tables e below (T0.setTop (mkF m 181 #[.val (.ref o0), .val (.int s1), .val (.int e1), .val (.ref o3), .val (.int ws), .val (.int we), .val (.int gr), .val (.int ct), .val (.int i8), .val (.int sp)] [])) _
  refine XS.aloadN X0.here hx rfl (hb hby d2_181) rfl rfl ?_
  show Steps p.tables e below (T0.setTop (mkF m 182 #[.val (.ref o0), .val (.int s1), .val (.int e1), .val (.ref o3), .val (.int ws), .val (.int we), .val (.int gr), .val (.int ct), .val (.int i8), .val (.int sp)] [(.ref o0)])) _
  refine XS.iload X0.here hx rfl (hb hby d2_182) rfl ?_
  show Steps p.tables e below (T0.setTop (mkF m 184 #[.val (.ref o0), .val (.int s1), .val (.int e1), .val (.ref o3), .val (.int ws), .val (.int we), .val (.int gr), .val (.int ct), .val (.int i8), .val (.int sp)] [(.int i8), (.ref o0)])) _
  refine own_ldB X0 hx hZ e0 AT (j := i8) hin rfl rfl (hb hby d2_184) ?_
  show Steps p.tables e below (T0.setTop (mkF m 185 #[.val (.ref o0), .val (.int s1), .val (.int e1), .val (.ref o3), .val (.int ws), .val (.int we), .val (.int gr), .val (.int ct), .val (.int i8), .val (.int sp)] [(.int (tf (i8).toNatClampNeg))])) _
  refine XS.bipush X0.here hx rfl (hb hby d2_185) ?_
  show Steps p.tables e below (T0.setTop (mkF m 187 #[.val (.ref o0), .val (.int s1), .val (.int e1), .val (.ref o3), .val (.int ws), .val (.int we), .val (.int gr), .val (.int ct), .val (.int i8), .val (.int sp)] [(.int (44 : Int32)), (.int (tf (i8).toNatClampNeg))])) _
  refine XS.icmpYes X0.here hx rfl (pc0 := 187) (pc' := 201) rfl (hb hby d2_187) rfl (teq q3).1 (by decide) (by decide) ?_
  show Steps p.tables e below (T0.setTop (mkF m 201 #[.val (.ref o0), .val (.int s1), .val (.int e1), .val (.ref o3), .val (.int ws), .val (.int we), .val (.int gr), .val (.int ct), .val (.int i8), .val (.int sp)] [])) _
  refine XS.iinc X0.here hx rfl (hb hby d2_201) rfl (l' := #[.val (.ref o0), .val (.int s1), .val (.int e1), .val (.ref o3), .val (.int ws), .val (.int we), .val (.int gr), .val (.int ct), .val (.int (i8 + (1 : Int32))), .val (.int sp)]) rfl ?_
  show Steps p.tables e below (T0.setTop (mkF m 204 #[.val (.ref o0), .val (.int s1), .val (.int e1), .val (.ref o3), .val (.int ws), .val (.int we), .val (.int gr), .val (.int ct), .val (.int (i8 + (1 : Int32))), .val (.int sp)] [])) _
  refine XS.goto X0.here hx rfl (pc0 := 204) (pc' := 118) rfl (hb hby d2_204) (by decide) (by decide) ?_
  exact kt
set_option maxRecDepth 65536 in
set_option maxHeartbeats 40000000 in
theorem own_G5 {p : Program} {l : Launch} {e : Env} {R : Room} {cells slots : Nat} {s : State} {m : MethodId} {args : Array Value} {below : List Frame} {meth : Method} {c : Code} {T0 : State} {locs : List Loc} {Z : State} {a0 : Array Value} {h0 : Heap} (o0 : Addr) (s1 : Int32) (e1 : Int32) (o3 : Addr) (tf : Nat → Int32) (ws : Int32) (we : Int32) (gr : Int32) (ct : Int32) (i8 : Int32) (sp : Int32) (pf : Nat → Int32) (X0 : Stand p l e R s m args below meth c T0 locs cells slots) (hx : p.tables.exec = Jvm.exec) (hZ : Z.Warmed39 s.vm) (hw : ∀ d ∈ tables_1, d.before a0 Z = true) (hby : c.code = prog_74_method_2_code) (hml : c.maxLocals = 10) (hown : s.vm.findClass "com/example/vestwright/vestwright/model/GroupedDecimal" = some m.cls) (e0 : T0.heap = h0) (n0 : Nat) (Z0 : n0 ≤ h0.size) (N0 : Fr n0 locs) (g3 : n0 ≤ o3) (AT : own_AI Z h0 o0 .byte (72 : Int32) tf) (AP : own_AI Z h0 o3 .byte (64 : Int32) pf) (ne_o0_o3 : o0 ≠ o3) (hin : ¬ i8 < 0 ∧ i8 < (72 : Int32)) (hct : ¬ ct < 0 ∧ ct < (64 : Int32)) (q3 : ¬ (tf (i8).toNatClampNeg) = (44 : Int32)) (hby8 : (tf (i8).toNatClampNeg).toInt8.toInt32 = (tf (i8).toNatClampNeg)) :
    ∃ (T' : State) (h' : Heap) (locs' : List Loc), Stand p l e R s m args below meth c T' locs' cells slots ∧ T'.heap = h' ∧ Fr n0 locs' ∧ Keep h0 h' [o3] ∧ own_AI Z h' o0 .byte (72 : Int32) tf ∧ own_AI Z h' o3 .byte (64 : Int32) (own_up pf (ct).toNatClampNeg (tf (i8).toNatClampNeg)) ∧ 
      ∀ target, Steps p.tables e below (T'.setTop (mkF m 118 #[.val (.ref o0), .val (.int s1), .val (.int e1), .val (.ref o3), .val (.int ws), .val (.int we), .val (.int gr), .val (.int (ct + (1 : Int32))), .val (.int (i8 + (1 : Int32))), .val (.int sp)] [])) target → Steps p.tables e below (T0.setTop (mkF m 181 #[.val (.ref o0), .val (.int s1), .val (.int e1), .val (.ref o3), .val (.int ws), .val (.int we), .val (.int gr), .val (.int ct), .val (.int i8), .val (.int sp)] [])) target := by
  obtain ⟨T51, h51, X51, e51, W51, A51, st51⟩ := own_stB X0 hx hZ e0 AP (j := ct) hct (g := (mkF m 200 #[.val (.ref o0), .val (.int s1), .val (.int e1), .val (.ref o3), .val (.int ws), .val (.int we), .val (.int gr), .val (.int (ct + (1 : Int32))), .val (.int i8), .val (.int sp)] [(.int (tf (i8).toNatClampNeg)), (.int ct), (.ref o3)])) rfl rfl (hb hby d2_200)
  have N51 := Fr.snoc X51 N0 g3
  have K51 : Keep h0 h51 [o3] := (Keep.refl h0 [o3]).wr W51 (Or.inl (List.mem_of_getElem? (i := 0) rfl))
  rw [hby8] at A51
  have A51_o0 := AT.other W51 ne_o0_o3
  have Z51 : n0 ≤ h51.size := Nat.le_trans Z0 (Nat.le_of_eq (W51.size).symm)
  refine ⟨_, _, _, X51, e51, N51, K51, A51_o0, A51, fun target kt => ?_⟩
  show Steps p.tables e below (T0.setTop (mkF m 181 #[.val (.ref o0), .val (.int s1), .val (.int e1), .val (.ref o3), .val (.int ws), .val (.int we), .val (.int gr), .val (.int ct), .val (.int i8), .val (.int sp)] [])) _
  refine XS.aloadN X0.here hx rfl (hb hby d2_181) rfl rfl ?_
  show Steps p.tables e below (T0.setTop (mkF m 182 #[.val (.ref o0), .val (.int s1), .val (.int e1), .val (.ref o3), .val (.int ws), .val (.int we), .val (.int gr), .val (.int ct), .val (.int i8), .val (.int sp)] [(.ref o0)])) _
  refine XS.iload X0.here hx rfl (hb hby d2_182) rfl ?_
  show Steps p.tables e below (T0.setTop (mkF m 184 #[.val (.ref o0), .val (.int s1), .val (.int e1), .val (.ref o3), .val (.int ws), .val (.int we), .val (.int gr), .val (.int ct), .val (.int i8), .val (.int sp)] [(.int i8), (.ref o0)])) _
  refine own_ldB X0 hx hZ e0 AT (j := i8) hin rfl rfl (hb hby d2_184) ?_
  show Steps p.tables e below (T0.setTop (mkF m 185 #[.val (.ref o0), .val (.int s1), .val (.int e1), .val (.ref o3), .val (.int ws), .val (.int we), .val (.int gr), .val (.int ct), .val (.int i8), .val (.int sp)] [(.int (tf (i8).toNatClampNeg))])) _
  refine XS.bipush X0.here hx rfl (hb hby d2_185) ?_
  show Steps p.tables e below (T0.setTop (mkF m 187 #[.val (.ref o0), .val (.int s1), .val (.int e1), .val (.ref o3), .val (.int ws), .val (.int we), .val (.int gr), .val (.int ct), .val (.int i8), .val (.int sp)] [(.int (44 : Int32)), (.int (tf (i8).toNatClampNeg))])) _
  refine XS.icmpNo X0.here hx rfl (hb hby d2_187) rfl (feq q3).1 ?_
  show Steps p.tables e below (T0.setTop (mkF m 190 #[.val (.ref o0), .val (.int s1), .val (.int e1), .val (.ref o3), .val (.int ws), .val (.int we), .val (.int gr), .val (.int ct), .val (.int i8), .val (.int sp)] [])) _
  refine XS.aloadN X0.here hx rfl (hb hby d2_190) rfl rfl ?_
  show Steps p.tables e below (T0.setTop (mkF m 191 #[.val (.ref o0), .val (.int s1), .val (.int e1), .val (.ref o3), .val (.int ws), .val (.int we), .val (.int gr), .val (.int ct), .val (.int i8), .val (.int sp)] [(.ref o3)])) _
  refine XS.iload X0.here hx rfl (hb hby d2_191) rfl ?_
  show Steps p.tables e below (T0.setTop (mkF m 193 #[.val (.ref o0), .val (.int s1), .val (.int e1), .val (.ref o3), .val (.int ws), .val (.int we), .val (.int gr), .val (.int ct), .val (.int i8), .val (.int sp)] [(.int ct), (.ref o3)])) _
  refine XS.iinc X0.here hx rfl (hb hby d2_193) rfl (l' := #[.val (.ref o0), .val (.int s1), .val (.int e1), .val (.ref o3), .val (.int ws), .val (.int we), .val (.int gr), .val (.int (ct + (1 : Int32))), .val (.int i8), .val (.int sp)]) rfl ?_
  show Steps p.tables e below (T0.setTop (mkF m 196 #[.val (.ref o0), .val (.int s1), .val (.int e1), .val (.ref o3), .val (.int ws), .val (.int we), .val (.int gr), .val (.int (ct + (1 : Int32))), .val (.int i8), .val (.int sp)] [(.int ct), (.ref o3)])) _
  refine XS.aloadN X0.here hx rfl (hb hby d2_196) rfl rfl ?_
  show Steps p.tables e below (T0.setTop (mkF m 197 #[.val (.ref o0), .val (.int s1), .val (.int e1), .val (.ref o3), .val (.int ws), .val (.int we), .val (.int gr), .val (.int (ct + (1 : Int32))), .val (.int i8), .val (.int sp)] [(.ref o0), (.int ct), (.ref o3)])) _
  refine XS.iload X0.here hx rfl (hb hby d2_197) rfl ?_
  show Steps p.tables e below (T0.setTop (mkF m 199 #[.val (.ref o0), .val (.int s1), .val (.int e1), .val (.ref o3), .val (.int ws), .val (.int we), .val (.int gr), .val (.int (ct + (1 : Int32))), .val (.int i8), .val (.int sp)] [(.int i8), (.ref o0), (.int ct), (.ref o3)])) _
  refine own_ldB X0 hx hZ e0 AT (j := i8) hin rfl rfl (hb hby d2_199) ?_
  show Steps p.tables e below (T0.setTop (mkF m 200 #[.val (.ref o0), .val (.int s1), .val (.int e1), .val (.ref o3), .val (.int ws), .val (.int we), .val (.int gr), .val (.int (ct + (1 : Int32))), .val (.int i8), .val (.int sp)] [(.int (tf (i8).toNatClampNeg)), (.int ct), (.ref o3)])) _
  refine st51 _ ?_
  show Steps p.tables e below (T51.setTop (mkF m 201 #[.val (.ref o0), .val (.int s1), .val (.int e1), .val (.ref o3), .val (.int ws), .val (.int we), .val (.int gr), .val (.int (ct + (1 : Int32))), .val (.int i8), .val (.int sp)] [])) _
  refine XS.iinc X51.here hx rfl (hb hby d2_201) rfl (l' := #[.val (.ref o0), .val (.int s1), .val (.int e1), .val (.ref o3), .val (.int ws), .val (.int we), .val (.int gr), .val (.int (ct + (1 : Int32))), .val (.int (i8 + (1 : Int32))), .val (.int sp)]) rfl ?_
  show Steps p.tables e below (T51.setTop (mkF m 204 #[.val (.ref o0), .val (.int s1), .val (.int e1), .val (.ref o3), .val (.int ws), .val (.int we), .val (.int gr), .val (.int (ct + (1 : Int32))), .val (.int (i8 + (1 : Int32))), .val (.int sp)] [])) _
  refine XS.goto X51.here hx rfl (pc0 := 204) (pc' := 118) rfl (hb hby d2_204) (by decide) (by decide) ?_
  show Steps p.tables e below (T51.setTop (mkF m 118 #[.val (.ref o0), .val (.int s1), .val (.int e1), .val (.ref o3), .val (.int ws), .val (.int we), .val (.int gr), .val (.int (ct + (1 : Int32))), .val (.int (i8 + (1 : Int32))), .val (.int sp)] [])) _
  exact kt
def own_nc (tf : Nat → Int32) (S : Nat) : Nat → Nat
  | 0 => 0
  | d + 1 => own_nc tf S d + (if tf (S + d) = (44 : Int32) then 0 else 1)
theorem own_nc_le (tf : Nat → Int32) (S : Nat) : ∀ d, own_nc tf S d ≤ d
  | 0 => Nat.le_refl _
  | d + 1 => by
    have := own_nc_le tf S d
    show own_nc tf S d + (if tf (S + d) = (44 : Int32) then 0 else 1) ≤ d + 1
    split <;> omega
theorem own_nc_mono (tf : Nat → Int32) (S : Nat) {d : Nat} : ∀ {d' : Nat}, d ≤ d' → own_nc tf S d ≤ own_nc tf S d'
  | 0, h => by obtain rfl : d = 0 := by omega
               exact Nat.le_refl _
  | d' + 1, h => by
    by_cases q : d = d' + 1
    · rw [q]; exact Nat.le_refl _
    · have := own_nc_mono tf S (d := d) (d' := d') (by omega)
      show _ ≤ own_nc tf S d' + (if tf (S + d') = (44 : Int32) then 0 else 1)
      omega
/-- a place where a comma parts groups -/
abbrev own_sep (ws we i : Nat) : Prop := ws < i ∧ i < we ∧ (we - i) % 4 = 0
theorem own_idx {z : Int32} {i : Nat} (h : z.toInt = (i : Nat)) (h72 : i < 72) : ¬ z < 0 ∧ z < (72 : Int32) := own_ix (by omega) (by rw [h]; show _ < (72 : Int); omega)
theorem own_idn {z : Int32} {i : Nat} (h : z.toInt = (i : Nat)) : z.toNatClampNeg = i := by rw [own_i_nat h (by omega)]; omega
theorem own_inc1 {z : Int32} {i : Nat} (h : z.toInt = (i : Nat)) (h72 : i ≤ 72) : (z + (1 : Int32)).toInt = ((i + 1 : Nat) : Int) := by rw [own_i_add h (show (1 : Int32).toInt = 1 from rfl) (by omega)]; rfl
set_option maxHeartbeats 4000000 in
theorem own_L1 {p : Program} {l : Launch} {e : Env} {R : Room} {s : State} {m : MethodId} {args : Array Value} {below : List Frame} {meth : Method} {c : Code} {locs : List Loc} {cells slots : Nat} {Z : State} {a0 : Array Value} {h0 : Heap} (o0 : Addr) (s1 e1 : Int32) (o3 : Addr) (tf : Nat → Int32) (ws : Int32) (hx : p.tables.exec = Jvm.exec) (hZ : Z.Warmed39 s.vm) (hw : ∀ d ∈ tables_1, d.before a0 Z = true) (hby : c.code = prog_74_method_2_code) (hown : s.vm.findClass "com/example/vestwright/vestwright/model/GroupedDecimal" = some m.cls) {T0 : State} (X0 : Stand p l e R s m args below meth c T0 locs cells slots) (e0 : T0.heap = h0) (AT : own_AI Z h0 o0 .byte (72 : Int32) tf) (E : Nat) (hE : e1.toInt = (E : Nat)) (h72 : E ≤ 72) :
    ∀ (k i : Nat) (we : Int32), we.toInt = (i : Nat) → i + k = E → ∃ (j : Nat) (we' : Int32), we'.toInt = (j : Nat) ∧ i ≤ j ∧ j ≤ E ∧ (∀ z, i ≤ z → z < j → ¬ tf z = (46 : Int32)) ∧ (j = E ∨ tf j = (46 : Int32)) ∧
      ∀ target, Steps p.tables e below (T0.setTop (mkF m 57 #[.val (.ref o0), .val (.int s1), .val (.int e1), .val (.ref o3), .val (.int ws), .val (.int we'), .unset, .unset, .unset, .unset] [])) target → Steps p.tables e below (T0.setTop (mkF m 36 #[.val (.ref o0), .val (.int s1), .val (.int e1), .val (.ref o3), .val (.int ws), .val (.int we), .unset, .unset, .unset, .unset] [])) target := by
  intro k
  induction k with
  | zero =>
    intro i we hi hk
    have q1 : ¬ we < e1 := by rw [own_i_lt hi hE]; omega
    exact ⟨i, we, hi, Nat.le_refl _, by omega, fun z h1 h2 => by omega, Or.inl (by omega), fun target kt => sg_X1a o0 s1 e1 o3 tf ws we X0 hx hZ hw hby hown e0 AT q1 kt⟩
  | succ k ih =>
    intro i we hi hk
    have q1 : we < e1 := by rw [own_i_lt hi hE]; omega
    have hin := own_idx hi (by omega)
    by_cases q2 : (tf (we).toNatClampNeg) = (46 : Int32)
    · refine ⟨i, we, hi, Nat.le_refl _, by omega, fun z h1 h2 => by omega, Or.inr (by rw [own_idn hi] at q2; exact q2), fun target kt => sg_X1b o0 s1 e1 o3 tf ws we X0 hx hZ hw hby hown e0 AT hin q1 q2 kt⟩
    · obtain ⟨j, we', h1, h2, h3, h4, h5, st⟩ := ih (i + 1) (we + (1 : Int32)) (own_inc1 hi (by omega)) (by omega)
      refine ⟨j, we', h1, by omega, h3, fun z g1 g2 => ?_, h5, fun target kt => sg_T1 o0 s1 e1 o3 tf ws we X0 hx hZ hw hby hown e0 AT hin q1 q2 (st _ kt)⟩
      by_cases u : z = i
      · rw [u, ← own_idn hi]; exact q2
      · exact h4 z (by omega) g2
set_option maxHeartbeats 4000000 in
theorem own_L2 {p : Program} {l : Launch} {e : Env} {R : Room} {s : State} {m : MethodId} {args : Array Value} {below : List Frame} {meth : Method} {c : Code} {locs : List Loc} {cells slots : Nat} {Z : State} {a0 : Array Value} {h0 : Heap} (o0 : Addr) (s1 e1 : Int32) (o3 : Addr) (tf : Nat → Int32) (ws we : Int32) (hx : p.tables.exec = Jvm.exec) (hZ : Z.Warmed39 s.vm) (hw : ∀ d ∈ tables_1, d.before a0 Z = true) (hby : c.code = prog_74_method_2_code) (hown : s.vm.findClass "com/example/vestwright/vestwright/model/GroupedDecimal" = some m.cls) {T0 : State} (X0 : Stand p l e R s m args below meth c T0 locs cells slots) (e0 : T0.heap = h0) (AT : own_AI Z h0 o0 .byte (72 : Int32) tf) (E : Nat) (hE : e1.toInt = (E : Nat)) (h72 : E ≤ 72) :
    ∀ (k i : Nat) (gr i7 : Int32), i7.toInt = (i : Nat) → i + k = E → (gr = 0 ∨ gr = 1) → ∃ (gr' j7 : Int32), (gr' = 0 ↔ (gr = 0 ∧ ∀ z, i ≤ z → z < E → ¬ tf z = (44 : Int32))) ∧
      ∀ target, Steps p.tables e below (T0.setTop (mkF m 95 #[.val (.ref o0), .val (.int s1), .val (.int e1), .val (.ref o3), .val (.int ws), .val (.int we), .val (.int gr'), .val (.int j7), .unset, .unset] [])) target → Steps p.tables e below (T0.setTop (mkF m 64 #[.val (.ref o0), .val (.int s1), .val (.int e1), .val (.ref o3), .val (.int ws), .val (.int we), .val (.int gr), .val (.int i7), .unset, .unset] [])) target := by
  intro k
  induction k with
  | zero =>
    intro i gr i7 hi hk hg
    have q1 : ¬ i7 < e1 := by rw [own_i_lt hi hE]; omega
    exact ⟨gr, i7, ⟨fun h => ⟨h, fun z h1 h2 => by omega⟩, fun h => h.1⟩, fun target kt => sg_X2 o0 s1 e1 o3 tf ws we gr i7 X0 hx hZ hw hby hown e0 q1 kt⟩
  | succ k ih =>
    intro i gr i7 hi hk hg
    have q1 : i7 < e1 := by rw [own_i_lt hi hE]; omega
    have hin := own_idx hi (by omega)
    have hv : (own_T2_l6 tf gr i7 = 0 ∨ own_T2_l6 tf gr i7 = 1) ∧ (own_T2_l6 tf gr i7 = 0 ↔ gr = 0 ∧ ¬ tf i = (44 : Int32)) := by
      unfold own_T2_l6; rw [own_idn hi]
      by_cases u : tf i = (44 : Int32)
      · rw [if_pos u]
        rcases hg with rfl | rfl
        · exact ⟨Or.inr (by decide), ⟨fun h => absurd h (by decide), fun h => absurd u h.2⟩⟩
        · exact ⟨Or.inr (by decide), ⟨fun h => absurd h (by decide), fun h => absurd u h.2⟩⟩
      · rw [if_neg u]
        rcases hg with rfl | rfl
        · exact ⟨Or.inl (by decide), ⟨fun _ => ⟨rfl, u⟩, fun _ => by decide⟩⟩
        · exact ⟨Or.inr (by decide), ⟨fun h => absurd h (by decide), fun h => absurd h.1 (by decide)⟩⟩
    obtain ⟨gr', j7, h1, st⟩ := ih (i + 1) (own_T2_l6 tf gr i7) (i7 + (1 : Int32)) (own_inc1 hi (by omega)) (by omega) hv.1
    refine ⟨gr', j7, ?_, fun target kt => sg_T2 o0 s1 e1 o3 tf ws we gr i7 X0 hx hZ hw hby hown e0 AT hin q1 (st _ kt)⟩
    rw [h1, hv.2]
    constructor
    · rintro ⟨⟨g1, g2⟩, g3⟩
      refine ⟨g1, fun z z1 z2 => ?_⟩
      by_cases u : z = i
      · rw [u]; exact g2
      · exact g3 z (by omega) z2
    · rintro ⟨g1, g2⟩
      exact ⟨⟨g1, g2 i (Nat.le_refl _) (by omega)⟩, fun z z1 z2 => g2 z (by omega) z2⟩
theorem own_sepv {ws we i8 : Int32} {a b i : Nat} (h1 : ws.toInt = (a : Nat)) (h2 : we.toInt = (b : Nat)) (h3 : i8.toInt = (i : Nat)) (hb : b ≤ 72) (hi : i ≤ 72) : own_G1U_l9 ws we i8 = (if own_sep a b i then (1 : Int32) else 0) := by
  unfold own_G1U_l9
  have e1 := own_i_lt h1 h3
  have e2 := own_i_lt h3 h2
  by_cases q1 : ws < i8
  · have q1' := e1.mp q1
    by_cases q2 : i8 < we
    · have q2' := e2.mp q2
      have t := own_i_mod (own_i_sub h2 h3 (by omega)) (show (4 : Int32).toInt = 4 from rfl) (by omega)
      have e3 := own_i_eq t (show (0 : Int32).toInt = 0 from rfl)
      by_cases q3 : ((we - i8) % (4 : Int32)) = (0 : Int32)
      · have q3' := e3.mp q3
        rw [if_pos q1, if_pos q2, if_pos q3, if_pos ⟨by omega, by omega, by omega⟩]
      · have q3' : ¬ _ := fun u => q3 (e3.mpr u)
        rw [if_pos q1, if_pos q2, if_neg q3, if_neg (fun u => by have := u.2.2; omega)]
    · have q2' : ¬ _ := fun u => q2 (e2.mpr u)
      rw [if_pos q1, if_neg q2, if_neg (fun u => by have := u.2.1; omega)]
  · have q1' : ¬ _ := fun u => q1 (e1.mpr u)
    rw [if_neg q1, if_neg (fun u => by have := u.1; omega)]
theorem own_G1same (ws we i8 : Int32) : own_G1I_l9 ws we i8 = own_G1U_l9 ws we i8 := rfl
theorem own_cv (tf : Nat → Int32) {i8 : Int32} {i : Nat} (h : i8.toInt = (i : Nat)) : own_G3_s0 tf i8 = (if tf i = (44 : Int32) then (1 : Int32) else 0) := by unfold own_G3_s0; rw [own_idn h]
/-- what the third loop leaves: a place that doesn't fit, or all copied -/
def own_Out (tf : Nat → Int32) (S E a b i : Nat) (gr ct' : Int32) (pf' : Nat → Int32) : Prop := (gr = 0 ∨ ∀ z, i ≤ z → z < E → (own_sep a b z ↔ tf z = (44 : Int32))) ∧ ct'.toInt = (own_nc tf S (E - S) : Nat) ∧ ∀ z, S ≤ z → z < E → ¬ tf z = (44 : Int32) → pf' (own_nc tf S (z - S)) = tf z
def own_SU (s9 : Slot) : Prop := s9 = .unset ∨ ∃ z : Int32, s9 = .val (.int z)
theorem own_G1 {p : Program} {l : Launch} {e : Env} {R : Room} {s : State} {m : MethodId} {args : Array Value} {below : List Frame} {meth : Method} {c : Code} {locs : List Loc} {cells slots : Nat} {Z : State} {a0 : Array Value} {h0 : Heap} (o0 : Addr) (s1 e1 : Int32) (o3 : Addr) (tf : Nat → Int32) (ws we gr ct i8 : Int32) (hx : p.tables.exec = Jvm.exec) (hZ : Z.Warmed39 s.vm) (hw : ∀ d ∈ tables_1, d.before a0 Z = true) (hby : c.code = prog_74_method_2_code) (hown : s.vm.findClass "com/example/vestwright/vestwright/model/GroupedDecimal" = some m.cls) {T0 : State} (X0 : Stand p l e R s m args below meth c T0 locs cells slots) (e0 : T0.heap = h0) {s9 : Slot} (hs : own_SU s9) (q1 : i8 < e1) {spv : Int32} (hsp : own_G1U_l9 ws we i8 = spv) {target : State} (kt : Steps p.tables e below (T0.setTop (mkF m 155 #[.val (.ref o0), .val (.int s1), .val (.int e1), .val (.ref o3), .val (.int ws), .val (.int we), .val (.int gr), .val (.int ct), .val (.int i8), .val (.int spv)] [])) target) : Steps p.tables e below (T0.setTop (mkF m 118 #[.val (.ref o0), .val (.int s1), .val (.int e1), .val (.ref o3), .val (.int ws), .val (.int we), .val (.int gr), .val (.int ct), .val (.int i8), s9] [])) target := by
  rcases hs with rfl | ⟨z, rfl⟩
  · exact sg_G1U o0 s1 e1 o3 tf ws we gr ct i8 X0 hx hZ hw hby hown e0 q1 (by rw [hsp]; exact kt)
  · exact sg_G1I o0 s1 e1 o3 tf ws we gr ct i8 z X0 hx hZ hw hby hown e0 q1 (by rw [own_G1same, hsp]; exact kt)
theorem own_X3 {p : Program} {l : Launch} {e : Env} {R : Room} {s : State} {m : MethodId} {args : Array Value} {below : List Frame} {meth : Method} {c : Code} {locs : List Loc} {cells slots : Nat} {Z : State} {a0 : Array Value} {h0 : Heap} (o0 : Addr) (s1 e1 : Int32) (o3 : Addr) (tf : Nat → Int32) (ws we gr ct i8 : Int32) (hx : p.tables.exec = Jvm.exec) (hZ : Z.Warmed39 s.vm) (hw : ∀ d ∈ tables_1, d.before a0 Z = true) (hby : c.code = prog_74_method_2_code) (hown : s.vm.findClass "com/example/vestwright/vestwright/model/GroupedDecimal" = some m.cls) {T0 : State} (X0 : Stand p l e R s m args below meth c T0 locs cells slots) (e0 : T0.heap = h0) {s9 : Slot} (hs : own_SU s9) (q1 : ¬ i8 < e1) {target : State} (kt : Steps p.tables e below (T0.setTop (mkF m 207 #[.val (.ref o0), .val (.int s1), .val (.int e1), .val (.ref o3), .val (.int ws), .val (.int we), .val (.int gr), .val (.int ct), .val (.int i8), s9] [])) target) : Steps p.tables e below (T0.setTop (mkF m 118 #[.val (.ref o0), .val (.int s1), .val (.int e1), .val (.ref o3), .val (.int ws), .val (.int we), .val (.int gr), .val (.int ct), .val (.int i8), s9] [])) target := by
  rcases hs with rfl | ⟨z, rfl⟩
  · exact sg_X3U o0 s1 e1 o3 tf ws we gr ct i8 X0 hx hZ hw hby hown e0 q1 kt
  · exact sg_X3I o0 s1 e1 o3 tf ws we gr ct i8 z X0 hx hZ hw hby hown e0 q1 kt
set_option maxHeartbeats 8000000 in
theorem own_L3 {p : Program} {l : Launch} {e : Env} {R : Room} {s : State} {m : MethodId} {args : Array Value} {below : List Frame} {meth : Method} {c : Code} {cells slots : Nat} {Z : State} {a0 : Array Value} (o0 : Addr) (s1 e1 : Int32) (o3 : Addr) (tf : Nat → Int32) (ws we gr : Int32) (hx : p.tables.exec = Jvm.exec) (hZ : Z.Warmed39 s.vm) (hw : ∀ d ∈ tables_1, d.before a0 Z = true) (hby : c.code = prog_74_method_2_code) (hown : s.vm.findClass "com/example/vestwright/vestwright/model/GroupedDecimal" = some m.cls) (hml : c.maxLocals = 10) (n0 : Nat) (g3 : n0 ≤ o3) (ne_o0_o3 : o0 ≠ o3) (S E a b : Nat) (hE : e1.toInt = (E : Nat)) (h72 : E ≤ 71) (hES : E ≤ S + 64) (h1 : ws.toInt = (a : Nat)) (h2 : we.toInt = (b : Nat)) (hbb : b ≤ 72) (hby8 : ∀ z, z < 72 → (tf z).toInt8.toInt32 = tf z) :
    ∀ (k i : Nat) (ct i8 : Int32) (s9 : Slot) (pf : Nat → Int32) (T0 : State) (locs : List Loc) (h0 : Heap), own_SU s9 → i8.toInt = (i : Nat) → i + k = E → S ≤ i → ct.toInt = (own_nc tf S (i - S) : Nat) → (∀ z, S ≤ z → z < i → ¬ tf z = (44 : Int32) → pf (own_nc tf S (z - S)) = tf z) →
      Stand p l e R s m args below meth c T0 locs cells slots → T0.heap = h0 → n0 ≤ h0.size → Fr n0 locs → own_AI Z h0 o0 .byte (72 : Int32) tf → own_AI Z h0 o3 .byte (64 : Int32) pf →
      ∃ (pf' : Nat → Int32) (T' : State) (h' : Heap) (locs' : List Loc), Stand p l e R s m args below meth c T' locs' cells slots ∧ T'.heap = h' ∧ Fr n0 locs' ∧ Keep h0 h' [o3] ∧ own_AI Z h' o0 .byte (72 : Int32) tf ∧ own_AI Z h' o3 .byte (64 : Int32) pf' ∧
        ((∃ (ct' i8' : Int32) (s9' : Slot), own_Out tf S E a b i gr ct' pf' ∧ ∀ target, Steps p.tables e below (T'.setTop (mkF m 207 #[.val (.ref o0), .val (.int s1), .val (.int e1), .val (.ref o3), .val (.int ws), .val (.int we), .val (.int gr), .val (.int ct'), .val (.int i8'), s9'] [])) target → Steps p.tables e below (T0.setTop (mkF m 118 #[.val (.ref o0), .val (.int s1), .val (.int e1), .val (.ref o3), .val (.int ws), .val (.int we), .val (.int gr), .val (.int ct), .val (.int i8), s9] [])) target) ∨
         (∃ (ct' i8' : Int32) (s9' : Slot), (¬ gr = 0 ∧ ∃ z, i ≤ z ∧ z < E ∧ ¬ (own_sep a b z ↔ tf z = (44 : Int32))) ∧ ∀ target, Steps p.tables e below (T'.setTop (mkF m 180 #[.val (.ref o0), .val (.int s1), .val (.int e1), .val (.ref o3), .val (.int ws), .val (.int we), .val (.int gr), .val (.int ct'), .val (.int i8'), s9'] [.int (-1 : Int32)])) target → Steps p.tables e below (T0.setTop (mkF m 118 #[.val (.ref o0), .val (.int s1), .val (.int e1), .val (.ref o3), .val (.int ws), .val (.int we), .val (.int gr), .val (.int ct), .val (.int i8), s9] [])) target)) := by
  intro k
  induction k with
  | zero =>
    intro i ct i8 s9 pf T0 locs h0 hs hi hk hSi hct hpf X0 e0 Z0 N0 AT AP
    have q1 : ¬ i8 < e1 := by rw [own_i_lt hi hE]; omega
    have ei : i = E := by omega
    refine ⟨pf, T0, h0, locs, X0, e0, N0, Keep.refl _ _, AT, AP, Or.inl ⟨ct, i8, s9, ⟨Or.inr fun z z1 z2 => by omega, by rw [hct, ei], fun z z1 z2 z3 => hpf z z1 (by omega) z3⟩, fun target kt => own_X3 o0 s1 e1 o3 tf ws we gr ct i8 hx hZ hw hby hown X0 e0 hs q1 kt⟩⟩
  | succ k ih =>
    intro i ct i8 s9 pf T0 locs h0 hs hi hk hSi hct hpf X0 e0 Z0 N0 AT AP
    have q1 : i8 < e1 := by rw [own_i_lt hi hE]; omega
    have hin := own_idx hi (by omega)
    obtain ⟨spv, hsp⟩ : ∃ z, own_G1U_l9 ws we i8 = z := ⟨_, rfl⟩
    have hspv : spv = (if own_sep a b i then (1 : Int32) else 0) := by rw [← hsp]; exact own_sepv h1 h2 hi hbb (by omega)
    have stA : ∀ target, Steps p.tables e below (T0.setTop (mkF m 155 #[.val (.ref o0), .val (.int s1), .val (.int e1), .val (.ref o3), .val (.int ws), .val (.int we), .val (.int gr), .val (.int ct), .val (.int i8), .val (.int spv)] [])) target → Steps p.tables e below (T0.setTop (mkF m 118 #[.val (.ref o0), .val (.int s1), .val (.int e1), .val (.ref o3), .val (.int ws), .val (.int we), .val (.int gr), .val (.int ct), .val (.int i8), s9] [])) target := fun target kt => own_G1 o0 s1 e1 o3 tf ws we gr ct i8 hx hZ hw hby hown X0 e0 hs q1 hsp kt
    have su : own_SU (.val (.int spv)) := Or.inr ⟨_, rfl⟩
    by_cases hok : gr = 0 ∨ (own_sep a b i ↔ tf i = (44 : Int32))
    · have comb : (gr = 0 ∨ ∀ z, i + 1 ≤ z → z < E → (own_sep a b z ↔ tf z = (44 : Int32))) → (gr = 0 ∨ ∀ z, i ≤ z → z < E → (own_sep a b z ↔ tf z = (44 : Int32))) := by
        intro h
        by_cases hg0 : gr = 0
        · exact Or.inl hg0
        · refine Or.inr fun z z1 z2 => ?_
          by_cases u : z = i
          · rw [u]; exact hok.resolve_left hg0
          · exact (h.resolve_left hg0) z (by omega) z2
      have stB : ∀ target, Steps p.tables e below (T0.setTop (mkF m 181 #[.val (.ref o0), .val (.int s1), .val (.int e1), .val (.ref o3), .val (.int ws), .val (.int we), .val (.int gr), .val (.int ct), .val (.int i8), .val (.int spv)] [])) target → Steps p.tables e below (T0.setTop (mkF m 155 #[.val (.ref o0), .val (.int s1), .val (.int e1), .val (.ref o3), .val (.int ws), .val (.int we), .val (.int gr), .val (.int ct), .val (.int i8), .val (.int spv)] [])) target := by
        intro target kt
        by_cases q2 : gr = (0 : Int32)
        · exact sg_G2 o0 s1 e1 o3 tf ws we gr ct i8 spv X0 hx hZ hw hby hown e0 q2 kt
        · refine sg_G3 o0 s1 e1 o3 tf ws we gr ct i8 spv X0 hx hZ hw hby hown e0 AT hin q2 ?_
          have heq : spv = own_G3_s0 tf i8 := by
            rw [hspv, own_cv tf hi]
            have h := hok.resolve_left q2
            by_cases u : own_sep a b i
            · rw [if_pos u, if_pos (h.mp u)]
            · rw [if_neg u, if_neg (fun z => u (h.mpr z))]
          exact XS.icmpYes X0.here hx rfl (pc0 := 176) (pc' := 181) rfl (hb hby d2_176) rfl (teq heq).1 (by decide) (by decide) kt
      by_cases q3 : (tf (i8).toNatClampNeg) = (44 : Int32)
      · have q3' : tf i = (44 : Int32) := by rw [own_idn hi] at q3; exact q3
        have stC : ∀ target, Steps p.tables e below (T0.setTop (mkF m 118 #[.val (.ref o0), .val (.int s1), .val (.int e1), .val (.ref o3), .val (.int ws), .val (.int we), .val (.int gr), .val (.int ct), .val (.int (i8 + (1 : Int32))), .val (.int spv)] [])) target → Steps p.tables e below (T0.setTop (mkF m 181 #[.val (.ref o0), .val (.int s1), .val (.int e1), .val (.ref o3), .val (.int ws), .val (.int we), .val (.int gr), .val (.int ct), .val (.int i8), .val (.int spv)] [])) target := fun target kt => sg_G4 o0 s1 e1 o3 tf ws we gr ct i8 spv X0 hx hZ hw hby hown e0 AT hin q3 kt
        have hn : own_nc tf S (i + 1 - S) = own_nc tf S (i - S) := by
          rw [show i + 1 - S = (i - S) + 1 from by omega]
          show own_nc tf S (i - S) + (if tf (S + (i - S)) = (44 : Int32) then 0 else 1) = _
          rw [show S + (i - S) = i from by omega, if_pos q3']; rfl
        obtain ⟨pf', T2, h2', L2, X2, e2, N2, K2, A2, P2, hres⟩ := ih (i + 1) ct (i8 + (1 : Int32)) _ pf T0 locs h0 su (own_inc1 hi (by omega)) (by omega) (by omega) (by rw [hn]; exact hct) (fun z z1 z2 z3 => by
          by_cases u : z = i
          · exact absurd (u ▸ q3') z3
          · exact hpf z z1 (by omega) z3) X0 e0 Z0 N0 AT AP
        refine ⟨pf', T2, h2', L2, X2, e2, N2, K2, A2, P2, ?_⟩
        rcases hres with ⟨ct', i8', s9', hO, st⟩ | ⟨ct', i8', s9', ⟨hg, z, z1, z2, z3⟩, st⟩
        · exact Or.inl ⟨ct', i8', s9', ⟨comb hO.1, hO.2⟩, fun target kt => stA _ (stB _ (stC _ (st _ kt)))⟩
        · exact Or.inr ⟨ct', i8', s9', ⟨hg, z, by omega, z2, z3⟩, fun target kt => stA _ (stB _ (stC _ (st _ kt)))⟩
      · have q3' : ¬ tf i = (44 : Int32) := by rw [own_idn hi] at q3; exact q3
        have hle := own_nc_le tf S (i - S)
        have hcti : ¬ ct < 0 ∧ ct < (64 : Int32) := own_ix (by omega) (by rw [hct]; show _ < (64 : Int); omega)
        obtain ⟨T1, hh1, L1, X1, e1', N1, K1, A1, P1, stC⟩ := own_G5 o0 s1 e1 o3 tf ws we gr ct i8 spv pf X0 hx hZ hw hby hml hown e0 n0 Z0 N0 g3 AT AP ne_o0_o3 hin hcti q3 (by rw [own_idn hi]; exact hby8 i (by omega))
        have hn : own_nc tf S (i + 1 - S) = own_nc tf S (i - S) + 1 := by
          rw [show i + 1 - S = (i - S) + 1 from by omega]
          show own_nc tf S (i - S) + (if tf (S + (i - S)) = (44 : Int32) then 0 else 1) = _
          rw [show S + (i - S) = i from by omega, if_neg q3']
        rw [own_idn hct, own_idn hi] at P1
        obtain ⟨pf', T2, h2', L2, X2, e2, N2, K2, A2, P2, hres⟩ := ih (i + 1) (ct + (1 : Int32)) (i8 + (1 : Int32)) _ _ T1 L1 hh1 su (own_inc1 hi (by omega)) (by omega) (by omega) (by rw [hn]; exact own_inc1 hct (by omega)) (fun z z1 z2 z3 => by
          by_cases u : z = i
          · subst u; rw [own_up_at]
          · have hlt : own_nc tf S (z - S) < own_nc tf S (i - S) := by
              have m1 := own_nc_mono tf S (d := z - S + 1) (d' := i - S) (by omega)
              have m2 : own_nc tf S (z - S + 1) = own_nc tf S (z - S) + 1 := by
                show own_nc tf S (z - S) + (if tf (S + (z - S)) = (44 : Int32) then 0 else 1) = _
                rw [show S + (z - S) = z from by omega, if_neg z3]
              omega
            rw [own_up_ne _ _ (by omega)]; exact hpf z z1 (by omega) z3) X1 e1' (Nat.le_trans Z0 K1.1) N1 A1 P1
        refine ⟨pf', T2, h2', L2, X2, e2, N2, K1.trans K2 (fun z hz => Or.inl hz), A2, P2, ?_⟩
        rcases hres with ⟨ct', i8', s9', hO, st⟩ | ⟨ct', i8', s9', ⟨hg, z, z1, z2, z3⟩, st⟩
        · exact Or.inl ⟨ct', i8', s9', ⟨comb hO.1, hO.2⟩, fun target kt => stA _ (stB _ (stC _ (st _ kt)))⟩
        · exact Or.inr ⟨ct', i8', s9', ⟨hg, z, by omega, z2, z3⟩, fun target kt => stA _ (stB _ (stC _ (st _ kt)))⟩
    · have q2 : ¬ gr = 0 := fun u => hok (Or.inl u)
      have hne : ¬ (own_sep a b i ↔ tf i = (44 : Int32)) := fun u => hok (Or.inr u)
      refine ⟨pf, T0, h0, locs, X0, e0, N0, Keep.refl _ _, AT, AP, Or.inr ⟨ct, i8, .val (.int spv), ⟨q2, i, Nat.le_refl _, by omega, hne⟩, fun target kt => stA _ ?_⟩⟩
      refine sg_G3 o0 s1 e1 o3 tf ws we gr ct i8 spv X0 hx hZ hw hby hown e0 AT hin q2 ?_
      have heq : ¬ spv = own_G3_s0 tf i8 := by
        rw [hspv, own_cv tf hi]
        intro u
        apply hne
        by_cases v1 : own_sep a b i <;> by_cases v2 : tf i = (44 : Int32)
        · exact ⟨fun _ => v2, fun _ => v1⟩
        · rw [if_pos v1, if_neg v2] at u; exact absurd u (by decide)
        · rw [if_neg v1, if_pos v2] at u; exact absurd u (by decide)
        · exact ⟨fun z => absurd z v1, fun z => absurd z v2⟩
      refine XS.icmpNo X0.here hx rfl (hb hby d2_176) rfl (feq heq).1 ?_
      exact XS.iconst X0.here hx rfl (hb hby d2_179) kt
/-- where the whole part begins and ends -/
def own_WS (tf : Nat → Int32) (S E a : Nat) : Prop := (S < E ∧ tf S = (45 : Int32) ∧ a = S + 1) ∨ (¬ (S < E ∧ tf S = (45 : Int32)) ∧ a = S)
def own_WE (tf : Nat → Int32) (E a b : Nat) : Prop := a ≤ b ∧ b ≤ E ∧ (∀ z, a ≤ z → z < b → ¬ tf z = (46 : Int32)) ∧ (b = E ∨ tf b = (46 : Int32))
/-- what ungroup answers -/
def own_Ug (tf : Nat → Int32) (S E : Nat) (rv : Int32) (pf : Nat → Int32) : Prop :=
  (64 < E - S ∧ rv = -1) ∨ (E - S ≤ 64 ∧ ∃ a b : Nat, own_WS tf S E a ∧ own_WE tf E a b ∧
    (((∃ z, a ≤ z ∧ z < E ∧ tf z = (44 : Int32)) ∧ ((b - a) % 4 = 0 ∨ ∃ z, S ≤ z ∧ z < E ∧ ¬ (own_sep a b z ↔ tf z = (44 : Int32))) ∧ rv = -1) ∨
     (((∀ z, a ≤ z → z < E → ¬ tf z = (44 : Int32)) ∨ ((b - a) % 4 ≠ 0 ∧ ∀ z, S ≤ z → z < E → (own_sep a b z ↔ tf z = (44 : Int32)))) ∧ rv.toInt = (own_nc tf S (E - S) : Nat) ∧ ∀ z, S ≤ z → z < E → ¬ tf z = (44 : Int32) → pf (own_nc tf S (z - S)) = tf z)))
theorem own_wsv {tf : Nat → Int32} {s1 e1 : Int32} {S E : Nat} (hS : s1.toInt = (S : Nat)) (hE : e1.toInt = (E : Nat)) (h72 : E ≤ 71) (hSE : S ≤ E) : ∃ a : Nat, own_WS tf S E a ∧ (own_S1_s0 s1 e1 tf).toInt = (a : Nat) ∧ S ≤ a ∧ a ≤ E := by
  unfold own_S1_s0; rw [own_idn hS]
  by_cases q1 : s1 < e1
  · have q1' : S < E := by have := (own_i_lt hS hE).mp q1; omega
    by_cases q2 : tf S = (45 : Int32)
    · rw [if_pos q1, if_pos q2]; exact ⟨S + 1, Or.inl ⟨q1', q2, rfl⟩, own_inc1 hS (by omega), by omega, by omega⟩
    · rw [if_pos q1, if_neg q2]; exact ⟨S, Or.inr ⟨fun u => q2 u.2, rfl⟩, hS, Nat.le_refl _, hSE⟩
  · have q1' : ¬ S < E := fun u => q1 ((own_i_lt hS hE).mpr (by omega))
    rw [if_neg q1]; exact ⟨S, Or.inr ⟨fun u => q1' u.1, rfl⟩, hS, Nat.le_refl _, hSE⟩
def Q6a (Z : State) (o0 : Addr) (s1 : Int32) (e1 : Int32) (o3 : Addr) (tf : Nat → Int32) (pf : Nat → Int32) (S : Nat) (E : Nat) (h0 : Heap) (n0 : Nat) (v : Option Value) (h : Heap) (L : List Loc) : Prop := (∃ (rv : Int32) (pf' : Nat → Int32), v = some (.int rv) ∧ own_Ug tf S E rv pf' ∧ own_AI Z h o3 .byte (64 : Int32) pf') ∧ Fr n0 L ∧ Keep h0 h [o3]
theorem own_dif {s1 e1 : Int32} {S E : Nat} (hS : s1.toInt = (S : Nat)) (hE : e1.toInt = (E : Nat)) (hSE : S ≤ E) (h72 : E ≤ 71) : (64 : Int32) < (e1 - s1) ↔ 64 < E - S := by
  rw [own_i_lt (show (64 : Int32).toInt = 64 from rfl) (own_i_sub hE hS (by omega))]; omega
theorem own_dif1 {s1 e1 : Int32} {S E : Nat} (hS : s1.toInt = (S : Nat)) (hE : e1.toInt = (E : Nat)) (hSE : S ≤ E) (h72 : E ≤ 71) (h : (64 : Int32) < (e1 - s1)) : 64 < E - S := (own_dif hS hE hSE h72).mp h
theorem own_m4 {ws we : Int32} {a b : Nat} (h1 : ws.toInt = (a : Nat)) (h2 : we.toInt = (b : Nat)) (hab : a ≤ b) (hb : b ≤ 72) : ((we - ws) % (4 : Int32)) = (0 : Int32) ↔ (b - a) % 4 = 0 := by
  rw [own_i_eq (own_i_mod (own_i_sub h2 h1 (by omega)) (show (4 : Int32).toInt = 4 from rfl) (by omega)) (show (0 : Int32).toInt = 0 from rfl)]; omega
set_option maxRecDepth 65536 in
set_option maxHeartbeats 40000000 in
theorem rm6a (l : Launch) (Z : State) (a0 : Array Value) (hw : ∀ d ∈ tables_1, d.before a0 Z = true) (ws : List Jvm.Cond) (o0 : Addr) (s1 : Int32) (e1 : Int32) (o3 : Addr) (tf : Nat → Int32) (pf : Nat → Int32) (S : Nat) (E : Nat) (h0 : Heap) (n0 : Nat) (Z0 : n0 ≤ h0.size) (g3 : n0 ≤ o3) (ne_o0_o3 : o0 ≠ o3) (AT : own_AI Z h0 o0 .byte (72 : Int32) tf) (AP : own_AI Z h0 o3 .byte (64 : Int32) pf) (hS : s1.toInt = (S : Nat)) (hE : e1.toInt = (E : Nat)) (hSE : S ≤ E) (h72 : E ≤ 71) (hby8 : ∀ z, z < 72 → (tf z).toInt8.toInt32 = tf z) (hd : (64 : Int32) < (e1 - s1)) :
    MetFree l (⟨"com/example/vestwright/vestwright/model/GroupedDecimal", "ungroup", "([BII[B)I"⟩ : MethodName) (head1 (Jvm.Cond.code (⟨"com/example/vestwright/vestwright/model/GroupedDecimal", "ungroup", "([BII[B)I"⟩ : MethodName) prog_74_method_2_code 10 (some .int) :: ws) ({ frames := 0, cells := 0, slots := 0, locals := 0 } : Room)) (fun a_ U_ => a_ = #[(.ref o0), (.int s1), (.int e1), (.ref o3)] ∧ Z.Warmed39 U_.vm ∧ U_.heap = h0) (fun _ _ _ _ _ => True) (fun _ U_ o_ U' => ∃ v_ L_, o_ = .returned v_ ∧ (Q6a Z o0 s1 e1 o3 tf pf S E h0 n0 v_ U'.heap L_) ∧ FrameEnd U_ o_ U' L_ ({ frames := 0, cells := 0, slots := 0, locals := 0 } : Room).cells ({ frames := 0, cells := 0, slots := 0, locals := 0 } : Room).slots) := by
  refine MetFree.of_bodySF (plainFor_of_name pn_2) hisR ?_
  intro p e s m args below meth c s₁ Bd hml0 hP hK
  obtain ⟨rfl, hZ, hh⟩ := hP
  have hx := Bd.exec
  have hby := Bd.bytes
  have hml : c.maxLocals = 10 := hml0
  have hown : s.vm.findClass "com/example/vestwright/vestwright/model/GroupedDecimal" = some m.cls := findClass_of_methodNamed Bd.named
  have hnm := (name_of_methodNamed Bd.named Bd.method).1
  have X0 : Stand p l e ({ frames := 0, cells := 0, slots := 0, locals := 0 } : Room) s m #[(.ref o0), (.int s1), (.int e1), (.ref o3)] below meth c s₁ [] 0 0 := Stand.of_body Bd
  have e0 : s₁.heap = h0 := by rw [← hh, Bd.state]; rfl
  have N0 := Fr.nil n0
  have pre0 : ∀ t, Steps p.tables e below (s₁.setTop (mkF m 0 #[.val (.ref o0), .val (.int s1), .val (.int e1), .val (.ref o3), .unset, .unset, .unset, .unset, .unset, .unset] [])) t → Steps p.tables e below (s₁.setTop (entryFrame m #[(.ref o0), (.int s1), (.int e1), (.ref o3)] 10)) t := fun t k => castTop (ef_2 m o0 s1 e1 o3) k
  obtain ⟨fs, hr, hrun, hended, hW, hsame⟩ := X0.leave (v := some (.int (-1 : Int32))) (fun h => by rw [Bd.returns] at h; cases h)
  refine ⟨_, _, pre0 _ ?_, hrun, hended, _, _, rfl, ⟨⟨_, pf, rfl, Or.inl ⟨own_dif1 hS hE hSE h72 hd, rfl⟩, (by show own_AI Z s₁.heap o3 .byte (64 : Int32) pf; rw [e0]; exact AP)⟩, N0, (by show Keep h0 s₁.heap [o3]; rw [e0]; exact Keep.refl _ _)⟩, ⟨_, rfl⟩, hW, hsame.mono (by decide) (by decide)⟩
  show Steps p.tables e below (s₁.setTop (mkF m 0 #[.val (.ref o0), .val (.int s1), .val (.int e1), .val (.ref o3), .unset, .unset, .unset, .unset, .unset, .unset] [])) _
  refine XS.iloadN X0.here hx rfl (hb hby d2_0) rfl ?_
  show Steps p.tables e below (s₁.setTop (mkF m 1 #[.val (.ref o0), .val (.int s1), .val (.int e1), .val (.ref o3), .unset, .unset, .unset, .unset, .unset, .unset] [(.int e1)])) _
  refine XS.iloadN X0.here hx rfl (hb hby d2_1) rfl ?_
  show Steps p.tables e below (s₁.setTop (mkF m 2 #[.val (.ref o0), .val (.int s1), .val (.int e1), .val (.ref o3), .unset, .unset, .unset, .unset, .unset, .unset] [(.int s1), (.int e1)])) _
  refine XS.isub X0.here hx rfl (hb hby d2_2) rfl ?_
  show Steps p.tables e below (s₁.setTop (mkF m 3 #[.val (.ref o0), .val (.int s1), .val (.int e1), .val (.ref o3), .unset, .unset, .unset, .unset, .unset, .unset] [(.int (e1 - s1))])) _
  refine XS.bipush X0.here hx rfl (hb hby d2_3) ?_
  show Steps p.tables e below (s₁.setTop (mkF m 5 #[.val (.ref o0), .val (.int s1), .val (.int e1), .val (.ref o3), .unset, .unset, .unset, .unset, .unset, .unset] [(.int (64 : Int32)), (.int (e1 - s1))])) _
  refine XS.icmpNo X0.here hx rfl (hb hby d2_5) rfl (tlt hd).2.2.2 ?_
  show Steps p.tables e below (s₁.setTop (mkF m 8 #[.val (.ref o0), .val (.int s1), .val (.int e1), .val (.ref o3), .unset, .unset, .unset, .unset, .unset, .unset] [])) _
  refine XS.iconst X0.here hx rfl (hb hby d2_8) ?_
  show Steps p.tables e below (s₁.setTop (mkF m 9 #[.val (.ref o0), .val (.int s1), .val (.int e1), .val (.ref o3), .unset, .unset, .unset, .unset, .unset, .unset] [(.int (-1 : Int32))])) _
  exact own_retI X0 hx Bd.returns (hb hby d2_9) hr
def Q6b (Z : State) (o0 : Addr) (s1 : Int32) (e1 : Int32) (o3 : Addr) (tf : Nat → Int32) (pf : Nat → Int32) (S : Nat) (E : Nat) (h0 : Heap) (n0 : Nat) (v : Option Value) (h : Heap) (L : List Loc) : Prop := (∃ (rv : Int32) (pf' : Nat → Int32), v = some (.int rv) ∧ own_Ug tf S E rv pf' ∧ own_AI Z h o3 .byte (64 : Int32) pf') ∧ Fr n0 L ∧ Keep h0 h [o3]
theorem own_has {tf : Nat → Int32} {gr : Int32} {a E : Nat} (h : gr = 0 ↔ ((0 : Int32) = 0 ∧ ∀ z, a ≤ z → z < E → ¬ tf z = (44 : Int32))) (hg : ¬ gr = 0) : ∃ z, a ≤ z ∧ z < E ∧ tf z = (44 : Int32) :=
  Classical.byContradiction fun u => hg (h.mpr ⟨rfl, fun z z1 z2 z3 => u ⟨z, z1, z2, z3⟩⟩)
theorem own_good {tf : Nat → Int32} {gr : Int32} {S E a b : Nat} (h : gr = 0 ↔ ((0 : Int32) = 0 ∧ ∀ z, a ≤ z → z < E → ¬ tf z = (44 : Int32))) (hO : gr = 0 ∨ ∀ z, S ≤ z → z < E → (own_sep a b z ↔ tf z = (44 : Int32))) (h4 : ¬ gr = 0 → ¬ (b - a) % 4 = 0) : (∀ z, a ≤ z → z < E → ¬ tf z = (44 : Int32)) ∨ ((b - a) % 4 ≠ 0 ∧ ∀ z, S ≤ z → z < E → (own_sep a b z ↔ tf z = (44 : Int32))) := by
  by_cases q : gr = 0
  · exact Or.inl (h.mp q).2
  · exact Or.inr ⟨h4 q, hO.resolve_left q⟩
set_option maxRecDepth 65536 in
set_option maxHeartbeats 40000000 in
theorem rm6b (l : Launch) (Z : State) (a0 : Array Value) (hw : ∀ d ∈ tables_1, d.before a0 Z = true) (ws : List Jvm.Cond) (o0 : Addr) (s1 : Int32) (e1 : Int32) (o3 : Addr) (tf : Nat → Int32) (pf : Nat → Int32) (S : Nat) (E : Nat) (h0 : Heap) (n0 : Nat) (Z0 : n0 ≤ h0.size) (g3 : n0 ≤ o3) (ne_o0_o3 : o0 ≠ o3) (AT : own_AI Z h0 o0 .byte (72 : Int32) tf) (AP : own_AI Z h0 o3 .byte (64 : Int32) pf) (hS : s1.toInt = (S : Nat)) (hE : e1.toInt = (E : Nat)) (hSE : S ≤ E) (h72 : E ≤ 71) (hby8 : ∀ z, z < 72 → (tf z).toInt8.toInt32 = tf z) (hd : ¬ (64 : Int32) < (e1 - s1)) :
    MetFree l (⟨"com/example/vestwright/vestwright/model/GroupedDecimal", "ungroup", "([BII[B)I"⟩ : MethodName) (head1 (Jvm.Cond.code (⟨"com/example/vestwright/vestwright/model/GroupedDecimal", "ungroup", "([BII[B)I"⟩ : MethodName) prog_74_method_2_code 10 (some .int) :: ws) ({ frames := 0, cells := 0, slots := 0, locals := 0 } : Room)) (fun a_ U_ => a_ = #[(.ref o0), (.int s1), (.int e1), (.ref o3)] ∧ Z.Warmed39 U_.vm ∧ U_.heap = h0) (fun _ _ _ _ _ => True) (fun _ U_ o_ U' => ∃ v_ L_, o_ = .returned v_ ∧ (Q6b Z o0 s1 e1 o3 tf pf S E h0 n0 v_ U'.heap L_) ∧ FrameEnd U_ o_ U' L_ ({ frames := 0, cells := 0, slots := 0, locals := 0 } : Room).cells ({ frames := 0, cells := 0, slots := 0, locals := 0 } : Room).slots) := by
  refine MetFree.of_bodySF (plainFor_of_name pn_2) hisR ?_
  intro p e s m args below meth c s₁ Bd hml0 hP hK
  obtain ⟨rfl, hZ, hh⟩ := hP
  have hx := Bd.exec
  have hby := Bd.bytes
  have hml : c.maxLocals = 10 := hml0
  have hown : s.vm.findClass "com/example/vestwright/vestwright/model/GroupedDecimal" = some m.cls := findClass_of_methodNamed Bd.named
  have hnm := (name_of_methodNamed Bd.named Bd.method).1
  have X0 : Stand p l e ({ frames := 0, cells := 0, slots := 0, locals := 0 } : Room) s m #[(.ref o0), (.int s1), (.int e1), (.ref o3)] below meth c s₁ [] 0 0 := Stand.of_body Bd
  have e0 : s₁.heap = h0 := by rw [← hh, Bd.state]; rfl
  have N0 := Fr.nil n0
  have pre0 : ∀ t, Steps p.tables e below (s₁.setTop (mkF m 0 #[.val (.ref o0), .val (.int s1), .val (.int e1), .val (.ref o3), .unset, .unset, .unset, .unset, .unset, .unset] [])) t → Steps p.tables e below (s₁.setTop (entryFrame m #[(.ref o0), (.int s1), (.int e1), (.ref o3)] 10)) t := fun t k => castTop (ef_2 m o0 s1 e1 o3) k
  obtain ⟨a, hWS, ha, hSa, haE⟩ := own_wsv (tf := tf) hS hE h72 hSE
  obtain ⟨ws_, h_ws⟩ : ∃ z, own_S1_s0 s1 e1 tf = z := ⟨_, rfl⟩
  rw [h_ws] at ha
  obtain ⟨b, we', hwe, hab, hbE, hb46, hbend, stW⟩ := own_L1 o0 s1 e1 o3 tf ws_ hx hZ hw hby hown X0 e0 AT E hE (by omega) (E - a) a ws_ ha (by omega)
  obtain ⟨gr', j7, hgr, stG⟩ := own_L2 o0 s1 e1 o3 tf ws_ we' hx hZ hw hby hown X0 e0 AT E hE (by omega) (E - a) a (0 : Int32) ws_ ha (by omega) (Or.inl rfl)
  have hWE : own_WE tf E a b := ⟨hab, hbE, hb46, hbend⟩
  have hE64 : E - S ≤ 64 := Nat.not_lt.mp (fun u => hd ((own_dif hS hE hSE h72).mpr u))
  have toA : ∀ target, Steps p.tables e below (s₁.setTop (mkF m 95 #[.val (.ref o0), .val (.int s1), .val (.int e1), .val (.ref o3), .val (.int ws_), .val (.int we'), .val (.int gr'), .val (.int j7), .unset, .unset] [])) target → Steps p.tables e below (s₁.setTop (entryFrame m #[(.ref o0), (.int s1), (.int e1), (.ref o3)] 10)) target := by
    intro target kt
    refine pre0 _ ?_
    show Steps p.tables e below (s₁.setTop (mkF m 0 #[.val (.ref o0), .val (.int s1), .val (.int e1), .val (.ref o3), .unset, .unset, .unset, .unset, .unset, .unset] [])) _
    refine XS.iloadN X0.here hx rfl (hb hby d2_0) rfl ?_
    show Steps p.tables e below (s₁.setTop (mkF m 1 #[.val (.ref o0), .val (.int s1), .val (.int e1), .val (.ref o3), .unset, .unset, .unset, .unset, .unset, .unset] [(.int e1)])) _
    refine XS.iloadN X0.here hx rfl (hb hby d2_1) rfl ?_
    show Steps p.tables e below (s₁.setTop (mkF m 2 #[.val (.ref o0), .val (.int s1), .val (.int e1), .val (.ref o3), .unset, .unset, .unset, .unset, .unset, .unset] [(.int s1), (.int e1)])) _
    refine XS.isub X0.here hx rfl (hb hby d2_2) rfl ?_
    show Steps p.tables e below (s₁.setTop (mkF m 3 #[.val (.ref o0), .val (.int s1), .val (.int e1), .val (.ref o3), .unset, .unset, .unset, .unset, .unset, .unset] [(.int (e1 - s1))])) _
    refine XS.bipush X0.here hx rfl (hb hby d2_3) ?_
    show Steps p.tables e below (s₁.setTop (mkF m 5 #[.val (.ref o0), .val (.int s1), .val (.int e1), .val (.ref o3), .unset, .unset, .unset, .unset, .unset, .unset] [(.int (64 : Int32)), (.int (e1 - s1))])) _
    refine XS.icmpYes X0.here hx rfl (pc0 := 5) (pc' := 10) rfl (hb hby d2_5) rfl (flt hd).2.2.2 (by decide) (by decide) ?_
    show Steps p.tables e below (s₁.setTop (mkF m 10 #[.val (.ref o0), .val (.int s1), .val (.int e1), .val (.ref o3), .unset, .unset, .unset, .unset, .unset, .unset] [])) _
    refine sg_S1 o0 s1 e1 o3 tf X0 hx hZ hw hby hown e0 AT (own_idx hS (by omega)) ?_
    show Steps p.tables e below (s₁.setTop (mkF m 30 #[.val (.ref o0), .val (.int s1), .val (.int e1), .val (.ref o3), .unset, .unset, .unset, .unset, .unset, .unset] [(.int (own_S1_s0 s1 e1 tf))])) _
    rw [h_ws]
    show Steps p.tables e below (s₁.setTop (mkF m 30 #[.val (.ref o0), .val (.int s1), .val (.int e1), .val (.ref o3), .unset, .unset, .unset, .unset, .unset, .unset] [(.int ws_)])) _
    refine XS.istore X0.here hx rfl (hb hby d2_30) rfl (l' := #[.val (.ref o0), .val (.int s1), .val (.int e1), .val (.ref o3), .val (.int ws_), .unset, .unset, .unset, .unset, .unset]) rfl ?_
    show Steps p.tables e below (s₁.setTop (mkF m 32 #[.val (.ref o0), .val (.int s1), .val (.int e1), .val (.ref o3), .val (.int ws_), .unset, .unset, .unset, .unset, .unset] [])) _
    refine XS.iload X0.here hx rfl (hb hby d2_32) rfl ?_
    show Steps p.tables e below (s₁.setTop (mkF m 34 #[.val (.ref o0), .val (.int s1), .val (.int e1), .val (.ref o3), .val (.int ws_), .unset, .unset, .unset, .unset, .unset] [(.int ws_)])) _
    refine XS.istore X0.here hx rfl (hb hby d2_34) rfl (l' := #[.val (.ref o0), .val (.int s1), .val (.int e1), .val (.ref o3), .val (.int ws_), .val (.int ws_), .unset, .unset, .unset, .unset]) rfl ?_
    show Steps p.tables e below (s₁.setTop (mkF m 36 #[.val (.ref o0), .val (.int s1), .val (.int e1), .val (.ref o3), .val (.int ws_), .val (.int ws_), .unset, .unset, .unset, .unset] [])) _
    refine stW _ ?_
    show Steps p.tables e below (s₁.setTop (mkF m 57 #[.val (.ref o0), .val (.int s1), .val (.int e1), .val (.ref o3), .val (.int ws_), .val (.int we'), .unset, .unset, .unset, .unset] [])) _
    refine XS.iconst X0.here hx rfl (hb hby d2_57) ?_
    show Steps p.tables e below (s₁.setTop (mkF m 58 #[.val (.ref o0), .val (.int s1), .val (.int e1), .val (.ref o3), .val (.int ws_), .val (.int we'), .unset, .unset, .unset, .unset] [(.int (0 : Int32))])) _
    refine XS.istore X0.here hx rfl (hb hby d2_58) rfl (l' := #[.val (.ref o0), .val (.int s1), .val (.int e1), .val (.ref o3), .val (.int ws_), .val (.int we'), .val (.int (0 : Int32)), .unset, .unset, .unset]) rfl ?_
    show Steps p.tables e below (s₁.setTop (mkF m 60 #[.val (.ref o0), .val (.int s1), .val (.int e1), .val (.ref o3), .val (.int ws_), .val (.int we'), .val (.int (0 : Int32)), .unset, .unset, .unset] [])) _
    refine XS.iload X0.here hx rfl (hb hby d2_60) rfl ?_
    show Steps p.tables e below (s₁.setTop (mkF m 62 #[.val (.ref o0), .val (.int s1), .val (.int e1), .val (.ref o3), .val (.int ws_), .val (.int we'), .val (.int (0 : Int32)), .unset, .unset, .unset] [(.int ws_)])) _
    refine XS.istore X0.here hx rfl (hb hby d2_62) rfl (l' := #[.val (.ref o0), .val (.int s1), .val (.int e1), .val (.ref o3), .val (.int ws_), .val (.int we'), .val (.int (0 : Int32)), .val (.int ws_), .unset, .unset]) rfl ?_
    show Steps p.tables e below (s₁.setTop (mkF m 64 #[.val (.ref o0), .val (.int s1), .val (.int e1), .val (.ref o3), .val (.int ws_), .val (.int we'), .val (.int (0 : Int32)), .val (.int ws_), .unset, .unset] [])) _
    refine stG _ ?_
    exact kt
  by_cases hbad : (¬ gr' = (0 : Int32)) ∧ ((we' - ws_) % (4 : Int32)) = (0 : Int32)
  · obtain ⟨fs, hr, hrun, hended, hW, hsame⟩ := X0.leave (v := some (.int (-1 : Int32))) (fun h => by rw [Bd.returns] at h; cases h)
    refine ⟨_, _, toA _ ?_, hrun, hended, _, _, rfl, ⟨⟨_, pf, rfl, Or.inr ⟨hE64, a, b, hWS, hWE, Or.inl ⟨own_has hgr hbad.1, Or.inl ((own_m4 ha hwe hab (by omega)).mp hbad.2), rfl⟩⟩, (by show own_AI Z s₁.heap o3 .byte (64 : Int32) pf; rw [e0]; exact AP)⟩, N0, (by show Keep h0 s₁.heap [o3]; rw [e0]; exact Keep.refl _ _)⟩, ⟨_, rfl⟩, hW, hsame.mono (by decide) (by decide)⟩
    show Steps p.tables e below (s₁.setTop (mkF m 95 #[.val (.ref o0), .val (.int s1), .val (.int e1), .val (.ref o3), .val (.int ws_), .val (.int we'), .val (.int gr'), .val (.int j7), .unset, .unset] [])) _
    refine XS.iload X0.here hx rfl (hb hby d2_95) rfl ?_
    show Steps p.tables e below (s₁.setTop (mkF m 97 #[.val (.ref o0), .val (.int s1), .val (.int e1), .val (.ref o3), .val (.int ws_), .val (.int we'), .val (.int gr'), .val (.int j7), .unset, .unset] [(.int gr')])) _
    refine XS.ifNo X0.here hx rfl (hb hby d2_97) rfl ((if0 _ _).trans (feq hbad.1).1) ?_
    show Steps p.tables e below (s₁.setTop (mkF m 100 #[.val (.ref o0), .val (.int s1), .val (.int e1), .val (.ref o3), .val (.int ws_), .val (.int we'), .val (.int gr'), .val (.int j7), .unset, .unset] [])) _
    refine XS.iload X0.here hx rfl (hb hby d2_100) rfl ?_
    show Steps p.tables e below (s₁.setTop (mkF m 102 #[.val (.ref o0), .val (.int s1), .val (.int e1), .val (.ref o3), .val (.int ws_), .val (.int we'), .val (.int gr'), .val (.int j7), .unset, .unset] [(.int we')])) _
    refine XS.iload X0.here hx rfl (hb hby d2_102) rfl ?_
    show Steps p.tables e below (s₁.setTop (mkF m 104 #[.val (.ref o0), .val (.int s1), .val (.int e1), .val (.ref o3), .val (.int ws_), .val (.int we'), .val (.int gr'), .val (.int j7), .unset, .unset] [(.int ws_), (.int we')])) _
    refine XS.isub X0.here hx rfl (hb hby d2_104) rfl ?_
    show Steps p.tables e below (s₁.setTop (mkF m 105 #[.val (.ref o0), .val (.int s1), .val (.int e1), .val (.ref o3), .val (.int ws_), .val (.int we'), .val (.int gr'), .val (.int j7), .unset, .unset] [(.int (we' - ws_))])) _
    refine XS.iconst X0.here hx rfl (hb hby d2_105) ?_
    show Steps p.tables e below (s₁.setTop (mkF m 106 #[.val (.ref o0), .val (.int s1), .val (.int e1), .val (.ref o3), .val (.int ws_), .val (.int we'), .val (.int gr'), .val (.int j7), .unset, .unset] [(.int (4 : Int32)), (.int (we' - ws_))])) _
    refine iremM X0 hx rfl (hb hby d2_106) rfl (by decide) ?_
    show Steps p.tables e below (s₁.setTop (mkF m 107 #[.val (.ref o0), .val (.int s1), .val (.int e1), .val (.ref o3), .val (.int ws_), .val (.int we'), .val (.int gr'), .val (.int j7), .unset, .unset] [(.int ((we' - ws_) % (4 : Int32)))])) _
    refine XS.ifNo X0.here hx rfl (hb hby d2_107) rfl ((if0 _ _).trans (teq hbad.2).2) ?_
    show Steps p.tables e below (s₁.setTop (mkF m 110 #[.val (.ref o0), .val (.int s1), .val (.int e1), .val (.ref o3), .val (.int ws_), .val (.int we'), .val (.int gr'), .val (.int j7), .unset, .unset] [])) _
    refine XS.iconst X0.here hx rfl (hb hby d2_110) ?_
    show Steps p.tables e below (s₁.setTop (mkF m 111 #[.val (.ref o0), .val (.int s1), .val (.int e1), .val (.ref o3), .val (.int ws_), .val (.int we'), .val (.int gr'), .val (.int j7), .unset, .unset] [(.int (-1 : Int32))])) _
    exact own_retI X0 hx Bd.returns (hb hby d2_111) hr
  · have toB : ∀ target, Steps p.tables e below (s₁.setTop (mkF m 118 #[.val (.ref o0), .val (.int s1), .val (.int e1), .val (.ref o3), .val (.int ws_), .val (.int we'), .val (.int gr'), .val (.int (0 : Int32)), .val (.int s1), .unset] [])) target → Steps p.tables e below (s₁.setTop (mkF m 95 #[.val (.ref o0), .val (.int s1), .val (.int e1), .val (.ref o3), .val (.int ws_), .val (.int we'), .val (.int gr'), .val (.int j7), .unset, .unset] [])) target := by
      intro target kt
      have kt2 : Steps p.tables e below (s₁.setTop (mkF m 112 #[.val (.ref o0), .val (.int s1), .val (.int e1), .val (.ref o3), .val (.int ws_), .val (.int we'), .val (.int gr'), .val (.int j7), .unset, .unset] [])) target := by
        show Steps p.tables e below (s₁.setTop (mkF m 112 #[.val (.ref o0), .val (.int s1), .val (.int e1), .val (.ref o3), .val (.int ws_), .val (.int we'), .val (.int gr'), .val (.int j7), .unset, .unset] [])) _
        refine XS.iconst X0.here hx rfl (hb hby d2_112) ?_
        show Steps p.tables e below (s₁.setTop (mkF m 113 #[.val (.ref o0), .val (.int s1), .val (.int e1), .val (.ref o3), .val (.int ws_), .val (.int we'), .val (.int gr'), .val (.int j7), .unset, .unset] [(.int (0 : Int32))])) _
        refine XS.istore X0.here hx rfl (hb hby d2_113) rfl (l' := #[.val (.ref o0), .val (.int s1), .val (.int e1), .val (.ref o3), .val (.int ws_), .val (.int we'), .val (.int gr'), .val (.int (0 : Int32)), .unset, .unset]) rfl ?_
        show Steps p.tables e below (s₁.setTop (mkF m 115 #[.val (.ref o0), .val (.int s1), .val (.int e1), .val (.ref o3), .val (.int ws_), .val (.int we'), .val (.int gr'), .val (.int (0 : Int32)), .unset, .unset] [])) _
        refine XS.iloadN X0.here hx rfl (hb hby d2_115) rfl ?_
        show Steps p.tables e below (s₁.setTop (mkF m 116 #[.val (.ref o0), .val (.int s1), .val (.int e1), .val (.ref o3), .val (.int ws_), .val (.int we'), .val (.int gr'), .val (.int (0 : Int32)), .unset, .unset] [(.int s1)])) _
        refine XS.istore X0.here hx rfl (hb hby d2_116) rfl (l' := #[.val (.ref o0), .val (.int s1), .val (.int e1), .val (.ref o3), .val (.int ws_), .val (.int we'), .val (.int gr'), .val (.int (0 : Int32)), .val (.int s1), .unset]) rfl ?_
        exact kt
      by_cases q1 : gr' = (0 : Int32)
      · exact sg_S5a o0 s1 e1 o3 tf ws_ we' gr' j7 X0 hx hZ hw hby hown e0 q1 kt2
      · exact sg_S5b o0 s1 e1 o3 tf ws_ we' gr' j7 X0 hx hZ hw hby hown e0 q1 (fun u => hbad ⟨q1, u⟩) kt2
    obtain ⟨pf', T2, h2', L2, X2, e2, N2, K2, A2, P2, hres⟩ := own_L3 o0 s1 e1 o3 tf ws_ we' gr' hx hZ hw hby hown hml n0 g3 ne_o0_o3 S E a b hE h72 (by omega) ha hwe (by omega) hby8 (E - S) S (0 : Int32) s1 .unset pf s₁ [] h0 (Or.inl rfl) hS (by omega) (Nat.le_refl _) (by rw [Nat.sub_self]; rfl) (fun z z1 z2 => by omega) X0 e0 Z0 N0 AT AP
    have hP2 : own_AI Z T2.heap o3 .byte (64 : Int32) pf' := by rw [e2]; exact P2
    have hK2 : Keep h0 T2.heap [o3] := by rw [e2]; exact K2
    rcases hres with ⟨ct', i8', s9', hO, st⟩ | ⟨ct', i8', s9', ⟨hg, hz⟩, st⟩
    · obtain ⟨fs, hr, hrun, hended, hW, hsame⟩ := X2.leave (v := some (.int ct')) (fun h => by rw [Bd.returns] at h; cases h)
      refine ⟨_, _, toA _ (toB _ (st _ ?_)), hrun, hended, _, _, rfl, ⟨⟨_, pf', rfl, Or.inr ⟨hE64, a, b, hWS, hWE, Or.inr ⟨own_good hgr hO.1 (fun q1 u => hbad ⟨q1, (own_m4 ha hwe hab (by omega)).mpr u⟩), hO.2.1, hO.2.2⟩⟩, hP2⟩, N2, hK2⟩, ⟨_, rfl⟩, hW, hsame.mono (by decide) (by decide)⟩
      show Steps p.tables e below (T2.setTop (mkF m 207 #[.val (.ref o0), .val (.int s1), .val (.int e1), .val (.ref o3), .val (.int ws_), .val (.int we'), .val (.int gr'), .val (.int ct'), .val (.int i8'), s9'] [])) _
      refine XS.iload X2.here hx rfl (hb hby d2_207) rfl ?_
      show Steps p.tables e below (T2.setTop (mkF m 209 #[.val (.ref o0), .val (.int s1), .val (.int e1), .val (.ref o3), .val (.int ws_), .val (.int we'), .val (.int gr'), .val (.int ct'), .val (.int i8'), s9'] [(.int ct')])) _
      exact own_retI X2 hx Bd.returns (hb hby d2_209) hr
    · obtain ⟨fs, hr, hrun, hended, hW, hsame⟩ := X2.leave (v := some (.int (-1 : Int32))) (fun h => by rw [Bd.returns] at h; cases h)
      refine ⟨_, _, toA _ (toB _ (st _ ?_)), hrun, hended, _, _, rfl, ⟨⟨_, pf', rfl, Or.inr ⟨hE64, a, b, hWS, hWE, Or.inl ⟨own_has hgr hg, Or.inr hz, rfl⟩⟩, hP2⟩, N2, hK2⟩, ⟨_, rfl⟩, hW, hsame.mono (by decide) (by decide)⟩
      exact own_retI X2 hx Bd.returns (hb hby d2_180) hr
def Q6 (Z : State) (o0 : Addr) (s1 : Int32) (e1 : Int32) (o3 : Addr) (tf : Nat → Int32) (pf : Nat → Int32) (S : Nat) (E : Nat) (h0 : Heap) (n0 : Nat) (v : Option Value) (h : Heap) (L : List Loc) : Prop := (∃ (rv : Int32) (pf' : Nat → Int32), v = some (.int rv) ∧ own_Ug tf S E rv pf' ∧ own_AI Z h o3 .byte (64 : Int32) pf') ∧ Fr n0 L ∧ Keep h0 h [o3]
set_option maxRecDepth 65536 in
set_option maxHeartbeats 40000000 in
theorem rm6 (l : Launch) (Z : State) (a0 : Array Value) (hw : ∀ d ∈ tables_1, d.before a0 Z = true) (ws : List Jvm.Cond) (o0 : Addr) (s1 : Int32) (e1 : Int32) (o3 : Addr) (tf : Nat → Int32) (pf : Nat → Int32) (S : Nat) (E : Nat) (h0 : Heap) (n0 : Nat) (Z0 : n0 ≤ h0.size) (g3 : n0 ≤ o3) (ne_o0_o3 : o0 ≠ o3) (AT : own_AI Z h0 o0 .byte (72 : Int32) tf) (AP : own_AI Z h0 o3 .byte (64 : Int32) pf) (hS : s1.toInt = (S : Nat)) (hE : e1.toInt = (E : Nat)) (hSE : S ≤ E) (h72 : E ≤ 71) (hby8 : ∀ z, z < 72 → (tf z).toInt8.toInt32 = tf z) :
    MetFree l (⟨"com/example/vestwright/vestwright/model/GroupedDecimal", "ungroup", "([BII[B)I"⟩ : MethodName) (head1 (Jvm.Cond.code (⟨"com/example/vestwright/vestwright/model/GroupedDecimal", "ungroup", "([BII[B)I"⟩ : MethodName) prog_74_method_2_code 10 (some .int) :: ws) ({ frames := 0, cells := 0, slots := 0, locals := 0 } : Room)) (fun a_ U_ => a_ = #[(.ref o0), (.int s1), (.int e1), (.ref o3)] ∧ Z.Warmed39 U_.vm ∧ U_.heap = h0) (fun _ _ _ _ _ => True) (fun _ U_ o_ U' => ∃ v_ L_, o_ = .returned v_ ∧ (Q6 Z o0 s1 e1 o3 tf pf S E h0 n0 v_ U'.heap L_) ∧ FrameEnd U_ o_ U' L_ ({ frames := 0, cells := 0, slots := 0, locals := 0 } : Room).cells ({ frames := 0, cells := 0, slots := 0, locals := 0 } : Room).slots) := by
  by_cases hd : (64 : Int32) < (e1 - s1)
  · exact rm6a l Z a0 hw ws o0 s1 e1 o3 tf pf S E h0 n0 Z0 g3 ne_o0_o3 AT AP hS hE hSE h72 hby8 hd
  · exact rm6b l Z a0 hw ws o0 s1 e1 o3 tf pf S E h0 n0 Z0 g3 ne_o0_o3 AT AP hS hE hSE h72 hby8 hd
theorem pn_0 : plainName "com/example/vestwright/vestwright/model/GroupedDecimalUngroupPinLaw" = true := by first | (simp [plainName, overriddenIn]; done) | decide +kernel
theorem ef_0 (m : MethodId) (x0 : Int32) (x1 : Int32) (x2 : Int64) (x3 : Int32) : entryFrame m #[(.int x0), (.int x1), (.long x2), (.int x3)] maxLocals = mkF m 0 #[.val (.int x0), .val (.int x1), .val (.long x2), .second, .val (.int x3), .unset, .unset, .unset, .unset, .unset, .unset, .unset, .unset, .unset, .unset, .unset, .unset, .unset, .unset, .unset, .unset, .unset, .unset, .unset, .unset, .unset, .unset, .unset, .unset, .unset, .unset] [] := by first | (simp [entryFrame, mkF, argsToLocals, Value.category, maxLocals]; done) | rfl
theorem pd_3 : parseMethodDescriptor "(IIIIIJI)B" = some ⟨[.int, .int, .int, .int, .int, .long, .int], some .byte⟩ := by decide +kernel
theorem pd_4 : parseMethodDescriptor "([BII[B)I" = some ⟨[(.array .byte), .int, .int, (.array .byte)], some .int⟩ := by decide +kernel
theorem pd_5 : parseMethodDescriptor "(II[B[BIZIZI)Z" = some ⟨[.int, .int, (.array .byte), (.array .byte), .int, .boolean, .int, .boolean, .int], some .boolean⟩ := by decide +kernel
def own_neg_s0 (p0 : Int32) : Int32 := (if (p0 &&& (1 : Int32)) = (0 : Int32) then (0 : Int32) else (1 : Int32))
set_option maxRecDepth 65536 in
set_option maxHeartbeats 40000000 in
theorem sg_neg {p : Program} {l : Launch} {e : Env} {R : Room} {s : State} {m : MethodId} {args : Array Value} {below : List Frame} {meth : Method} {c : Code} {T0 : State} {locs : List Loc} {cells slots : Nat} {Z : State} {a0 : Array Value} {h0 : Heap} {target : State} (p0 : Int32) (Lc : Array Slot) (X0 : Stand p l e R s m args below meth c T0 locs cells slots) (hx : p.tables.exec = Jvm.exec) (hZ : Z.Warmed39 s.vm) (hw : ∀ d ∈ tables_1, d.before a0 Z = true) (hby : c.code = code) (hown : s.vm.findClass "com/example/vestwright/vestwright/model/GroupedDecimalUngroupPinLaw" = some m.cls) (e0 : T0.heap = h0) (hl0 : Lc[0]? = some (.val (.int p0)))
    (kt : Steps p.tables e below (T0.setTop (mkF m 11 Lc [(.int (own_neg_s0 p0))])) target) : Steps p.tables e below (T0.setTop (mkF m 0 Lc [])) target := by
  show Steps p.tables e below (T0.setTop (mkF m 0 Lc [])) _
  refine XS.iloadN X0.here hx rfl (hb hby at_0) hl0 ?_
  show Steps p.tables e below (T0.setTop (mkF m 1 Lc [(.int p0)])) _
  refine XS.iconst X0.here hx rfl (hb hby at_1) ?_
  show Steps p.tables e below (T0.setTop (mkF m 2 Lc [(.int (1 : Int32)), (.int p0)])) _
  refine XS.iand X0.here hx rfl (hb hby at_2) rfl ?_
  show Steps p.tables e below (T0.setTop (mkF m 3 Lc [(.int (p0 &&& (1 : Int32)))])) _
  by_cases hc3 : (p0 &&& (1 : Int32)) = (0 : Int32)
  · refine XS.ifYes X0.here hx rfl (pc0 := 3) (pc' := 10) rfl (hb hby at_3) rfl ((if0 _ _).trans (teq hc3).1) (by decide) (by decide) ?_
    show Steps p.tables e below (T0.setTop (mkF m 10 Lc [])) _
    refine XS.iconst X0.here hx rfl (hb hby at_10) ?_
    rw [show (own_neg_s0 p0) = (0 : Int32) from by unfold own_neg_s0; rw [if_pos hc3]] at kt
    exact kt
  · refine XS.ifNo X0.here hx rfl (hb hby at_3) rfl ((if0 _ _).trans (feq hc3).1) ?_
    show Steps p.tables e below (T0.setTop (mkF m 6 Lc [])) _
    refine XS.iconst X0.here hx rfl (hb hby at_6) ?_
    show Steps p.tables e below (T0.setTop (mkF m 7 Lc [(.int (1 : Int32))])) _
    refine XS.goto X0.here hx rfl (pc0 := 7) (pc' := 11) rfl (hb hby at_7) (by decide) (by decide) ?_
    rw [show (own_neg_s0 p0) = (1 : Int32) from by unfold own_neg_s0; rw [if_neg hc3]] at kt
    exact kt
def own_g_s0 (ng : Int32) : Int32 := (if ng = (0 : Int32) then (0 : Int32) else (1 : Int32))
set_option maxRecDepth 65536 in
set_option maxHeartbeats 40000000 in
theorem sg_g {p : Program} {l : Launch} {e : Env} {R : Room} {s : State} {m : MethodId} {args : Array Value} {below : List Frame} {meth : Method} {c : Code} {T0 : State} {locs : List Loc} {cells slots : Nat} {Z : State} {a0 : Array Value} {h0 : Heap} {target : State} (ng : Int32) (Lc : Array Slot) (X0 : Stand p l e R s m args below meth c T0 locs cells slots) (hx : p.tables.exec = Jvm.exec) (hZ : Z.Warmed39 s.vm) (hw : ∀ d ∈ tables_1, d.before a0 Z = true) (hby : c.code = code) (hown : s.vm.findClass "com/example/vestwright/vestwright/model/GroupedDecimalUngroupPinLaw" = some m.cls) (e0 : T0.heap = h0) (hl5 : Lc[5]? = some (.val (.int ng)))
    (kt : Steps p.tables e below (T0.setTop (mkF m 23 Lc [(.int (own_g_s0 ng))])) target) : Steps p.tables e below (T0.setTop (mkF m 13 Lc [])) target := by
  show Steps p.tables e below (T0.setTop (mkF m 13 Lc [])) _
  refine XS.iload X0.here hx rfl (hb hby at_13) hl5 ?_
  show Steps p.tables e below (T0.setTop (mkF m 15 Lc [(.int ng)])) _
  by_cases hc15 : ng = (0 : Int32)
  · refine XS.ifYes X0.here hx rfl (pc0 := 15) (pc' := 22) rfl (hb hby at_15) rfl ((if0 _ _).trans (teq hc15).1) (by decide) (by decide) ?_
    show Steps p.tables e below (T0.setTop (mkF m 22 Lc [])) _
    refine XS.iconst X0.here hx rfl (hb hby at_22) ?_
    rw [show (own_g_s0 ng) = (0 : Int32) from by unfold own_g_s0; rw [if_pos hc15]] at kt
    exact kt
  · refine XS.ifNo X0.here hx rfl (hb hby at_15) rfl ((if0 _ _).trans (feq hc15).1) ?_
    show Steps p.tables e below (T0.setTop (mkF m 18 Lc [])) _
    refine XS.iconst X0.here hx rfl (hb hby at_18) ?_
    show Steps p.tables e below (T0.setTop (mkF m 19 Lc [(.int (1 : Int32))])) _
    refine XS.goto X0.here hx rfl (pc0 := 19) (pc' := 23) rfl (hb hby at_19) (by decide) (by decide) ?_
    rw [show (own_g_s0 ng) = (1 : Int32) from by unfold own_g_s0; rw [if_neg hc15]] at kt
    exact kt
def own_lm_s0 (p0 : Int32) : Int32 := (if (((p0.toUInt32 >>> ((10 : Int32) &&& 31).toUInt32).toInt32) &&& (3 : Int32)) = (0 : Int32) then (1 : Int32) else (0 : Int32))
set_option maxRecDepth 65536 in
set_option maxHeartbeats 40000000 in
theorem sg_lm {p : Program} {l : Launch} {e : Env} {R : Room} {s : State} {m : MethodId} {args : Array Value} {below : List Frame} {meth : Method} {c : Code} {T0 : State} {locs : List Loc} {cells slots : Nat} {Z : State} {a0 : Array Value} {h0 : Heap} {target : State} (p0 : Int32) (Lc : Array Slot) (X0 : Stand p l e R s m args below meth c T0 locs cells slots) (hx : p.tables.exec = Jvm.exec) (hZ : Z.Warmed39 s.vm) (hw : ∀ d ∈ tables_1, d.before a0 Z = true) (hby : c.code = code) (hown : s.vm.findClass "com/example/vestwright/vestwright/model/GroupedDecimalUngroupPinLaw" = some m.cls) (e0 : T0.heap = h0) (hl0 : Lc[0]? = some (.val (.int p0)))
    (kt : Steps p.tables e below (T0.setTop (mkF m 50 Lc [(.int (own_lm_s0 p0))])) target) : Steps p.tables e below (T0.setTop (mkF m 36 Lc [])) target := by
  show Steps p.tables e below (T0.setTop (mkF m 36 Lc [])) _
  refine XS.iloadN X0.here hx rfl (hb hby at_36) hl0 ?_
  show Steps p.tables e below (T0.setTop (mkF m 37 Lc [(.int p0)])) _
  refine XS.bipush X0.here hx rfl (hb hby at_37) ?_
  show Steps p.tables e below (T0.setTop (mkF m 39 Lc [(.int (10 : Int32)), (.int p0)])) _
  refine XS.iushr X0.here hx rfl (hb hby at_39) rfl ?_
  show Steps p.tables e below (T0.setTop (mkF m 40 Lc [(.int ((p0.toUInt32 >>> ((10 : Int32) &&& 31).toUInt32).toInt32))])) _
  refine XS.iconst X0.here hx rfl (hb hby at_40) ?_
  show Steps p.tables e below (T0.setTop (mkF m 41 Lc [(.int (3 : Int32)), (.int ((p0.toUInt32 >>> ((10 : Int32) &&& 31).toUInt32).toInt32))])) _
  refine XS.iand X0.here hx rfl (hb hby at_41) rfl ?_
  show Steps p.tables e below (T0.setTop (mkF m 42 Lc [(.int (((p0.toUInt32 >>> ((10 : Int32) &&& 31).toUInt32).toInt32) &&& (3 : Int32)))])) _
  by_cases hc42 : (((p0.toUInt32 >>> ((10 : Int32) &&& 31).toUInt32).toInt32) &&& (3 : Int32)) = (0 : Int32)
  · refine XS.ifNo X0.here hx rfl (hb hby at_42) rfl ((if0 _ _).trans (teq hc42).2) ?_
    show Steps p.tables e below (T0.setTop (mkF m 45 Lc [])) _
    refine XS.iconst X0.here hx rfl (hb hby at_45) ?_
    show Steps p.tables e below (T0.setTop (mkF m 46 Lc [(.int (1 : Int32))])) _
    refine XS.goto X0.here hx rfl (pc0 := 46) (pc' := 50) rfl (hb hby at_46) (by decide) (by decide) ?_
    rw [show (own_lm_s0 p0) = (1 : Int32) from by unfold own_lm_s0; rw [if_pos hc42]] at kt
    exact kt
  · refine XS.ifYes X0.here hx rfl (pc0 := 42) (pc' := 49) rfl (hb hby at_42) rfl ((if0 _ _).trans (feq hc42).2) (by decide) (by decide) ?_
    show Steps p.tables e below (T0.setTop (mkF m 49 Lc [])) _
    refine XS.iconst X0.here hx rfl (hb hby at_49) ?_
    rw [show (own_lm_s0 p0) = (0 : Int32) from by unfold own_lm_s0; rw [if_neg hc42]] at kt
    exact kt
def own_l65_s0 (p0 : Int32) : Int32 := (if (((p0.toUInt32 >>> ((12 : Int32) &&& 31).toUInt32).toInt32) &&& (1 : Int32)) = (0 : Int32) then (0 : Int32) else (1 : Int32))
set_option maxRecDepth 65536 in
set_option maxHeartbeats 40000000 in
theorem sg_l65 {p : Program} {l : Launch} {e : Env} {R : Room} {s : State} {m : MethodId} {args : Array Value} {below : List Frame} {meth : Method} {c : Code} {T0 : State} {locs : List Loc} {cells slots : Nat} {Z : State} {a0 : Array Value} {h0 : Heap} {target : State} (p0 : Int32) (Lc : Array Slot) (X0 : Stand p l e R s m args below meth c T0 locs cells slots) (hx : p.tables.exec = Jvm.exec) (hZ : Z.Warmed39 s.vm) (hw : ∀ d ∈ tables_1, d.before a0 Z = true) (hby : c.code = code) (hown : s.vm.findClass "com/example/vestwright/vestwright/model/GroupedDecimalUngroupPinLaw" = some m.cls) (e0 : T0.heap = h0) (hl0 : Lc[0]? = some (.val (.int p0)))
    (kt : Steps p.tables e below (T0.setTop (mkF m 66 Lc [(.int (own_l65_s0 p0))])) target) : Steps p.tables e below (T0.setTop (mkF m 52 Lc [])) target := by
  show Steps p.tables e below (T0.setTop (mkF m 52 Lc [])) _
  refine XS.iloadN X0.here hx rfl (hb hby at_52) hl0 ?_
  show Steps p.tables e below (T0.setTop (mkF m 53 Lc [(.int p0)])) _
  refine XS.bipush X0.here hx rfl (hb hby at_53) ?_
  show Steps p.tables e below (T0.setTop (mkF m 55 Lc [(.int (12 : Int32)), (.int p0)])) _
  refine XS.iushr X0.here hx rfl (hb hby at_55) rfl ?_
  show Steps p.tables e below (T0.setTop (mkF m 56 Lc [(.int ((p0.toUInt32 >>> ((12 : Int32) &&& 31).toUInt32).toInt32))])) _
  refine XS.iconst X0.here hx rfl (hb hby at_56) ?_
  show Steps p.tables e below (T0.setTop (mkF m 57 Lc [(.int (1 : Int32)), (.int ((p0.toUInt32 >>> ((12 : Int32) &&& 31).toUInt32).toInt32))])) _
  refine XS.iand X0.here hx rfl (hb hby at_57) rfl ?_
  show Steps p.tables e below (T0.setTop (mkF m 58 Lc [(.int (((p0.toUInt32 >>> ((12 : Int32) &&& 31).toUInt32).toInt32) &&& (1 : Int32)))])) _
  by_cases hc58 : (((p0.toUInt32 >>> ((12 : Int32) &&& 31).toUInt32).toInt32) &&& (1 : Int32)) = (0 : Int32)
  · refine XS.ifYes X0.here hx rfl (pc0 := 58) (pc' := 65) rfl (hb hby at_58) rfl ((if0 _ _).trans (teq hc58).1) (by decide) (by decide) ?_
    show Steps p.tables e below (T0.setTop (mkF m 65 Lc [])) _
    refine XS.iconst X0.here hx rfl (hb hby at_65) ?_
    rw [show (own_l65_s0 p0) = (0 : Int32) from by unfold own_l65_s0; rw [if_pos hc58]] at kt
    exact kt
  · refine XS.ifNo X0.here hx rfl (hb hby at_58) rfl ((if0 _ _).trans (feq hc58).1) ?_
    show Steps p.tables e below (T0.setTop (mkF m 61 Lc [])) _
    refine XS.iconst X0.here hx rfl (hb hby at_61) ?_
    show Steps p.tables e below (T0.setTop (mkF m 62 Lc [(.int (1 : Int32))])) _
    refine XS.goto X0.here hx rfl (pc0 := 62) (pc' := 66) rfl (hb hby at_62) (by decide) (by decide) ?_
    rw [show (own_l65_s0 p0) = (1 : Int32) from by unfold own_l65_s0; rw [if_neg hc58]] at kt
    exact kt
def own_hd_s0 (p0 : Int32) (lm : Int32) : Int32 := (if lm = (0 : Int32) then (if (((p0.toUInt32 >>> ((5 : Int32) &&& 31).toUInt32).toInt32) &&& (1 : Int32)) = (0 : Int32) then (0 : Int32) else (1 : Int32)) else (1 : Int32))
set_option maxRecDepth 65536 in
set_option maxHeartbeats 40000000 in
theorem sg_hd {p : Program} {l : Launch} {e : Env} {R : Room} {s : State} {m : MethodId} {args : Array Value} {below : List Frame} {meth : Method} {c : Code} {T0 : State} {locs : List Loc} {cells slots : Nat} {Z : State} {a0 : Array Value} {h0 : Heap} {target : State} (p0 : Int32) (lm : Int32) (Lc : Array Slot) (X0 : Stand p l e R s m args below meth c T0 locs cells slots) (hx : p.tables.exec = Jvm.exec) (hZ : Z.Warmed39 s.vm) (hw : ∀ d ∈ tables_1, d.before a0 Z = true) (hby : c.code = code) (hown : s.vm.findClass "com/example/vestwright/vestwright/model/GroupedDecimalUngroupPinLaw" = some m.cls) (e0 : T0.heap = h0) (hl0 : Lc[0]? = some (.val (.int p0))) (hl8 : Lc[8]? = some (.val (.int lm)))
    (kt : Steps p.tables e below (T0.setTop (mkF m 86 Lc [(.int (own_hd_s0 p0 lm))])) target) : Steps p.tables e below (T0.setTop (mkF m 68 Lc [])) target := by
  show Steps p.tables e below (T0.setTop (mkF m 68 Lc [])) _
  refine XS.iload X0.here hx rfl (hb hby at_68) hl8 ?_
  show Steps p.tables e below (T0.setTop (mkF m 70 Lc [(.int lm)])) _
  by_cases hc70 : lm = (0 : Int32)
  · refine XS.ifNo X0.here hx rfl (hb hby at_70) rfl ((if0 _ _).trans (teq hc70).2) ?_
    show Steps p.tables e below (T0.setTop (mkF m 73 Lc [])) _
    refine XS.iloadN X0.here hx rfl (hb hby at_73) hl0 ?_
    show Steps p.tables e below (T0.setTop (mkF m 74 Lc [(.int p0)])) _
    refine XS.iconst X0.here hx rfl (hb hby at_74) ?_
    show Steps p.tables e below (T0.setTop (mkF m 75 Lc [(.int (5 : Int32)), (.int p0)])) _
    refine XS.iushr X0.here hx rfl (hb hby at_75) rfl ?_
    show Steps p.tables e below (T0.setTop (mkF m 76 Lc [(.int ((p0.toUInt32 >>> ((5 : Int32) &&& 31).toUInt32).toInt32))])) _
    refine XS.iconst X0.here hx rfl (hb hby at_76) ?_
    show Steps p.tables e below (T0.setTop (mkF m 77 Lc [(.int (1 : Int32)), (.int ((p0.toUInt32 >>> ((5 : Int32) &&& 31).toUInt32).toInt32))])) _
    refine XS.iand X0.here hx rfl (hb hby at_77) rfl ?_
    show Steps p.tables e below (T0.setTop (mkF m 78 Lc [(.int (((p0.toUInt32 >>> ((5 : Int32) &&& 31).toUInt32).toInt32) &&& (1 : Int32)))])) _
    by_cases hc78 : (((p0.toUInt32 >>> ((5 : Int32) &&& 31).toUInt32).toInt32) &&& (1 : Int32)) = (0 : Int32)
    · refine XS.ifYes X0.here hx rfl (pc0 := 78) (pc' := 85) rfl (hb hby at_78) rfl ((if0 _ _).trans (teq hc78).1) (by decide) (by decide) ?_
      show Steps p.tables e below (T0.setTop (mkF m 85 Lc [])) _
      refine XS.iconst X0.here hx rfl (hb hby at_85) ?_
      rw [show (own_hd_s0 p0 lm) = (0 : Int32) from by unfold own_hd_s0; rw [if_pos hc70, if_pos hc78]] at kt
      exact kt
    · refine XS.ifNo X0.here hx rfl (hb hby at_78) rfl ((if0 _ _).trans (feq hc78).1) ?_
      show Steps p.tables e below (T0.setTop (mkF m 81 Lc [])) _
      refine XS.iconst X0.here hx rfl (hb hby at_81) ?_
      show Steps p.tables e below (T0.setTop (mkF m 82 Lc [(.int (1 : Int32))])) _
      refine XS.goto X0.here hx rfl (pc0 := 82) (pc' := 86) rfl (hb hby at_82) (by decide) (by decide) ?_
      rw [show (own_hd_s0 p0 lm) = (1 : Int32) from by unfold own_hd_s0; rw [if_pos hc70, if_neg hc78]] at kt
      exact kt
  · refine XS.ifYes X0.here hx rfl (pc0 := 70) (pc' := 81) rfl (hb hby at_70) rfl ((if0 _ _).trans (feq hc70).2) (by decide) (by decide) ?_
    show Steps p.tables e below (T0.setTop (mkF m 81 Lc [])) _
    refine XS.iconst X0.here hx rfl (hb hby at_81) ?_
    show Steps p.tables e below (T0.setTop (mkF m 82 Lc [(.int (1 : Int32))])) _
    refine XS.goto X0.here hx rfl (pc0 := 82) (pc' := 86) rfl (hb hby at_82) (by decide) (by decide) ?_
    rw [show (own_hd_s0 p0 lm) = (1 : Int32) from by unfold own_hd_s0; rw [if_neg hc70]] at kt
    exact kt
def own_f_s0 (p0 : Int32) (hd : Int32) : Int32 := (if hd = (0 : Int32) then (0 : Int32) else (((p0.toUInt32 >>> ((6 : Int32) &&& 31).toUInt32).toInt32) &&& (3 : Int32)))
set_option maxRecDepth 65536 in
set_option maxHeartbeats 40000000 in
theorem sg_f {p : Program} {l : Launch} {e : Env} {R : Room} {s : State} {m : MethodId} {args : Array Value} {below : List Frame} {meth : Method} {c : Code} {T0 : State} {locs : List Loc} {cells slots : Nat} {Z : State} {a0 : Array Value} {h0 : Heap} {target : State} (p0 : Int32) (hd : Int32) (Lc : Array Slot) (X0 : Stand p l e R s m args below meth c T0 locs cells slots) (hx : p.tables.exec = Jvm.exec) (hZ : Z.Warmed39 s.vm) (hw : ∀ d ∈ tables_1, d.before a0 Z = true) (hby : c.code = code) (hown : s.vm.findClass "com/example/vestwright/vestwright/model/GroupedDecimalUngroupPinLaw" = some m.cls) (e0 : T0.heap = h0) (hl0 : Lc[0]? = some (.val (.int p0))) (hl10 : Lc[10]? = some (.val (.int hd)))
    (kt : Steps p.tables e below (T0.setTop (mkF m 103 Lc [(.int (own_f_s0 p0 hd))])) target) : Steps p.tables e below (T0.setTop (mkF m 88 Lc [])) target := by
  show Steps p.tables e below (T0.setTop (mkF m 88 Lc [])) _
  refine XS.iload X0.here hx rfl (hb hby at_88) hl10 ?_
  show Steps p.tables e below (T0.setTop (mkF m 90 Lc [(.int hd)])) _
  by_cases hc90 : hd = (0 : Int32)
  · refine XS.ifYes X0.here hx rfl (pc0 := 90) (pc' := 102) rfl (hb hby at_90) rfl ((if0 _ _).trans (teq hc90).1) (by decide) (by decide) ?_
    show Steps p.tables e below (T0.setTop (mkF m 102 Lc [])) _
    refine XS.iconst X0.here hx rfl (hb hby at_102) ?_
    rw [show (own_f_s0 p0 hd) = (0 : Int32) from by unfold own_f_s0; rw [if_pos hc90]] at kt
    exact kt
  · refine XS.ifNo X0.here hx rfl (hb hby at_90) rfl ((if0 _ _).trans (feq hc90).1) ?_
    show Steps p.tables e below (T0.setTop (mkF m 93 Lc [])) _
    refine XS.iloadN X0.here hx rfl (hb hby at_93) hl0 ?_
    show Steps p.tables e below (T0.setTop (mkF m 94 Lc [(.int p0)])) _
    refine XS.bipush X0.here hx rfl (hb hby at_94) ?_
    show Steps p.tables e below (T0.setTop (mkF m 96 Lc [(.int (6 : Int32)), (.int p0)])) _
    refine XS.iushr X0.here hx rfl (hb hby at_96) rfl ?_
    show Steps p.tables e below (T0.setTop (mkF m 97 Lc [(.int ((p0.toUInt32 >>> ((6 : Int32) &&& 31).toUInt32).toInt32))])) _
    refine XS.iconst X0.here hx rfl (hb hby at_97) ?_
    show Steps p.tables e below (T0.setTop (mkF m 98 Lc [(.int (3 : Int32)), (.int ((p0.toUInt32 >>> ((6 : Int32) &&& 31).toUInt32).toInt32))])) _
    refine XS.iand X0.here hx rfl (hb hby at_98) rfl ?_
    show Steps p.tables e below (T0.setTop (mkF m 99 Lc [(.int (((p0.toUInt32 >>> ((6 : Int32) &&& 31).toUInt32).toInt32) &&& (3 : Int32)))])) _
    refine XS.goto X0.here hx rfl (pc0 := 99) (pc' := 103) rfl (hb hby at_99) (by decide) (by decide) ?_
    rw [show (own_f_s0 p0 hd) = (((p0.toUInt32 >>> ((6 : Int32) &&& 31).toUInt32).toInt32) &&& (3 : Int32)) from by unfold own_f_s0; rw [if_neg hc90]] at kt
    exact kt
def own_ex_s0 (p0 : Int32) : Int32 := (if (((p0.toUInt32 >>> ((13 : Int32) &&& 31).toUInt32).toInt32) &&& (1 : Int32)) = (0 : Int32) then (0 : Int32) else (1 : Int32))
set_option maxRecDepth 65536 in
set_option maxHeartbeats 40000000 in
theorem sg_ex {p : Program} {l : Launch} {e : Env} {R : Room} {s : State} {m : MethodId} {args : Array Value} {below : List Frame} {meth : Method} {c : Code} {T0 : State} {locs : List Loc} {cells slots : Nat} {Z : State} {a0 : Array Value} {h0 : Heap} {target : State} (p0 : Int32) (Lc : Array Slot) (X0 : Stand p l e R s m args below meth c T0 locs cells slots) (hx : p.tables.exec = Jvm.exec) (hZ : Z.Warmed39 s.vm) (hw : ∀ d ∈ tables_1, d.before a0 Z = true) (hby : c.code = code) (hown : s.vm.findClass "com/example/vestwright/vestwright/model/GroupedDecimalUngroupPinLaw" = some m.cls) (e0 : T0.heap = h0) (hl0 : Lc[0]? = some (.val (.int p0)))
    (kt : Steps p.tables e below (T0.setTop (mkF m 127 Lc [(.int (own_ex_s0 p0))])) target) : Steps p.tables e below (T0.setTop (mkF m 113 Lc [])) target := by
  show Steps p.tables e below (T0.setTop (mkF m 113 Lc [])) _
  refine XS.iloadN X0.here hx rfl (hb hby at_113) hl0 ?_
  show Steps p.tables e below (T0.setTop (mkF m 114 Lc [(.int p0)])) _
  refine XS.bipush X0.here hx rfl (hb hby at_114) ?_
  show Steps p.tables e below (T0.setTop (mkF m 116 Lc [(.int (13 : Int32)), (.int p0)])) _
  refine XS.iushr X0.here hx rfl (hb hby at_116) rfl ?_
  show Steps p.tables e below (T0.setTop (mkF m 117 Lc [(.int ((p0.toUInt32 >>> ((13 : Int32) &&& 31).toUInt32).toInt32))])) _
  refine XS.iconst X0.here hx rfl (hb hby at_117) ?_
  show Steps p.tables e below (T0.setTop (mkF m 118 Lc [(.int (1 : Int32)), (.int ((p0.toUInt32 >>> ((13 : Int32) &&& 31).toUInt32).toInt32))])) _
  refine XS.iand X0.here hx rfl (hb hby at_118) rfl ?_
  show Steps p.tables e below (T0.setTop (mkF m 119 Lc [(.int (((p0.toUInt32 >>> ((13 : Int32) &&& 31).toUInt32).toInt32) &&& (1 : Int32)))])) _
  by_cases hc119 : (((p0.toUInt32 >>> ((13 : Int32) &&& 31).toUInt32).toInt32) &&& (1 : Int32)) = (0 : Int32)
  · refine XS.ifYes X0.here hx rfl (pc0 := 119) (pc' := 126) rfl (hb hby at_119) rfl ((if0 _ _).trans (teq hc119).1) (by decide) (by decide) ?_
    show Steps p.tables e below (T0.setTop (mkF m 126 Lc [])) _
    refine XS.iconst X0.here hx rfl (hb hby at_126) ?_
    rw [show (own_ex_s0 p0) = (0 : Int32) from by unfold own_ex_s0; rw [if_pos hc119]] at kt
    exact kt
  · refine XS.ifNo X0.here hx rfl (hb hby at_119) rfl ((if0 _ _).trans (feq hc119).1) ?_
    show Steps p.tables e below (T0.setTop (mkF m 122 Lc [])) _
    refine XS.iconst X0.here hx rfl (hb hby at_122) ?_
    show Steps p.tables e below (T0.setTop (mkF m 123 Lc [(.int (1 : Int32))])) _
    refine XS.goto X0.here hx rfl (pc0 := 123) (pc' := 127) rfl (hb hby at_123) (by decide) (by decide) ?_
    rw [show (own_ex_s0 p0) = (1 : Int32) from by unfold own_ex_s0; rw [if_neg hc119]] at kt
    exact kt
def own_x1_s0 (w : Int32) : Int32 := (if w < (5 : Int32) then (0 : Int32) else ((1 : Int32) <<< ((w - (4 : Int32)) &&& 31)))
set_option maxRecDepth 65536 in
set_option maxHeartbeats 40000000 in
theorem sg_x1 {p : Program} {l : Launch} {e : Env} {R : Room} {s : State} {m : MethodId} {args : Array Value} {below : List Frame} {meth : Method} {c : Code} {T0 : State} {locs : List Loc} {cells slots : Nat} {Z : State} {a0 : Array Value} {h0 : Heap} {target : State} (w : Int32) (Lc : Array Slot) (X0 : Stand p l e R s m args below meth c T0 locs cells slots) (hx : p.tables.exec = Jvm.exec) (hZ : Z.Warmed39 s.vm) (hw : ∀ d ∈ tables_1, d.before a0 Z = true) (hby : c.code = code) (hown : s.vm.findClass "com/example/vestwright/vestwright/model/GroupedDecimalUngroupPinLaw" = some m.cls) (e0 : T0.heap = h0) (hl7 : Lc[7]? = some (.val (.int w)))
    (kt : Steps p.tables e below (T0.setTop (mkF m 145 Lc [(.int (own_x1_s0 w))])) target) : Steps p.tables e below (T0.setTop (mkF m 129 Lc [])) target := by
  show Steps p.tables e below (T0.setTop (mkF m 129 Lc [])) _
  refine XS.iload X0.here hx rfl (hb hby at_129) hl7 ?_
  show Steps p.tables e below (T0.setTop (mkF m 131 Lc [(.int w)])) _
  refine XS.iconst X0.here hx rfl (hb hby at_131) ?_
  show Steps p.tables e below (T0.setTop (mkF m 132 Lc [(.int (5 : Int32)), (.int w)])) _
  by_cases hc132 : w < (5 : Int32)
  · refine XS.icmpYes X0.here hx rfl (pc0 := 132) (pc' := 144) rfl (hb hby at_132) rfl (tlt hc132).1 (by decide) (by decide) ?_
    show Steps p.tables e below (T0.setTop (mkF m 144 Lc [])) _
    refine XS.iconst X0.here hx rfl (hb hby at_144) ?_
    rw [show (own_x1_s0 w) = (0 : Int32) from by unfold own_x1_s0; rw [if_pos hc132]] at kt
    exact kt
  · refine XS.icmpNo X0.here hx rfl (hb hby at_132) rfl (flt hc132).1 ?_
    show Steps p.tables e below (T0.setTop (mkF m 135 Lc [])) _
    refine XS.iconst X0.here hx rfl (hb hby at_135) ?_
    show Steps p.tables e below (T0.setTop (mkF m 136 Lc [(.int (1 : Int32))])) _
    refine XS.iload X0.here hx rfl (hb hby at_136) hl7 ?_
    show Steps p.tables e below (T0.setTop (mkF m 138 Lc [(.int w), (.int (1 : Int32))])) _
    refine XS.iconst X0.here hx rfl (hb hby at_138) ?_
    show Steps p.tables e below (T0.setTop (mkF m 139 Lc [(.int (4 : Int32)), (.int w), (.int (1 : Int32))])) _
    refine XS.isub X0.here hx rfl (hb hby at_139) rfl ?_
    show Steps p.tables e below (T0.setTop (mkF m 140 Lc [(.int (w - (4 : Int32))), (.int (1 : Int32))])) _
    refine XS.ishl X0.here hx rfl (hb hby at_140) rfl ?_
    show Steps p.tables e below (T0.setTop (mkF m 141 Lc [(.int ((1 : Int32) <<< ((w - (4 : Int32)) &&& 31)))])) _
    refine XS.goto X0.here hx rfl (pc0 := 141) (pc' := 145) rfl (hb hby at_141) (by decide) (by decide) ?_
    rw [show (own_x1_s0 w) = ((1 : Int32) <<< ((w - (4 : Int32)) &&& 31)) from by unfold own_x1_s0; rw [if_neg hc132]] at kt
    exact kt
def own_x2_s0 (w : Int32) : Int32 := (if w < (9 : Int32) then (0 : Int32) else ((1 : Int32) <<< ((w - (8 : Int32)) &&& 31)))
set_option maxRecDepth 65536 in
set_option maxHeartbeats 40000000 in
theorem sg_x2 {p : Program} {l : Launch} {e : Env} {R : Room} {s : State} {m : MethodId} {args : Array Value} {below : List Frame} {meth : Method} {c : Code} {T0 : State} {locs : List Loc} {cells slots : Nat} {Z : State} {a0 : Array Value} {h0 : Heap} {target : State} (w : Int32) (xx : Int32) (Lc : Array Slot) (X0 : Stand p l e R s m args below meth c T0 locs cells slots) (hx : p.tables.exec = Jvm.exec) (hZ : Z.Warmed39 s.vm) (hw : ∀ d ∈ tables_1, d.before a0 Z = true) (hby : c.code = code) (hown : s.vm.findClass "com/example/vestwright/vestwright/model/GroupedDecimalUngroupPinLaw" = some m.cls) (e0 : T0.heap = h0) (hl7 : Lc[7]? = some (.val (.int w)))
    (kt : Steps p.tables e below (T0.setTop (mkF m 163 Lc [(.int (own_x2_s0 w)), (.int xx)])) target) : Steps p.tables e below (T0.setTop (mkF m 145 Lc [(.int xx)])) target := by
  show Steps p.tables e below (T0.setTop (mkF m 145 Lc [(.int xx)])) _
  refine XS.iload X0.here hx rfl (hb hby at_145) hl7 ?_
  show Steps p.tables e below (T0.setTop (mkF m 147 Lc [(.int w), (.int xx)])) _
  refine XS.bipush X0.here hx rfl (hb hby at_147) ?_
  show Steps p.tables e below (T0.setTop (mkF m 149 Lc [(.int (9 : Int32)), (.int w), (.int xx)])) _
  by_cases hc149 : w < (9 : Int32)
  · refine XS.icmpYes X0.here hx rfl (pc0 := 149) (pc' := 162) rfl (hb hby at_149) rfl (tlt hc149).1 (by decide) (by decide) ?_
    show Steps p.tables e below (T0.setTop (mkF m 162 Lc [(.int xx)])) _
    refine XS.iconst X0.here hx rfl (hb hby at_162) ?_
    rw [show (own_x2_s0 w) = (0 : Int32) from by unfold own_x2_s0; rw [if_pos hc149]] at kt
    exact kt
  · refine XS.icmpNo X0.here hx rfl (hb hby at_149) rfl (flt hc149).1 ?_
    show Steps p.tables e below (T0.setTop (mkF m 152 Lc [(.int xx)])) _
    refine XS.iconst X0.here hx rfl (hb hby at_152) ?_
    show Steps p.tables e below (T0.setTop (mkF m 153 Lc [(.int (1 : Int32)), (.int xx)])) _
    refine XS.iload X0.here hx rfl (hb hby at_153) hl7 ?_
    show Steps p.tables e below (T0.setTop (mkF m 155 Lc [(.int w), (.int (1 : Int32)), (.int xx)])) _
    refine XS.bipush X0.here hx rfl (hb hby at_155) ?_
    show Steps p.tables e below (T0.setTop (mkF m 157 Lc [(.int (8 : Int32)), (.int w), (.int (1 : Int32)), (.int xx)])) _
    refine XS.isub X0.here hx rfl (hb hby at_157) rfl ?_
    show Steps p.tables e below (T0.setTop (mkF m 158 Lc [(.int (w - (8 : Int32))), (.int (1 : Int32)), (.int xx)])) _
    refine XS.ishl X0.here hx rfl (hb hby at_158) rfl ?_
    show Steps p.tables e below (T0.setTop (mkF m 159 Lc [(.int ((1 : Int32) <<< ((w - (8 : Int32)) &&& 31))), (.int xx)])) _
    refine XS.goto X0.here hx rfl (pc0 := 159) (pc' := 163) rfl (hb hby at_159) (by decide) (by decide) ?_
    rw [show (own_x2_s0 w) = ((1 : Int32) <<< ((w - (8 : Int32)) &&& 31)) from by unfold own_x2_s0; rw [if_neg hc149]] at kt
    exact kt
def own_cm_s0 (p1 : Int32) (w : Int32) (ex : Int32) (xp : Int32) : Int32 := (if ex = (0 : Int32) then (p1 &&& (((1 : Int32) <<< (w &&& 31)) - (1 : Int32))) else xp)
set_option maxRecDepth 65536 in
set_option maxHeartbeats 40000000 in
theorem sg_cm {p : Program} {l : Launch} {e : Env} {R : Room} {s : State} {m : MethodId} {args : Array Value} {below : List Frame} {meth : Method} {c : Code} {T0 : State} {locs : List Loc} {cells slots : Nat} {Z : State} {a0 : Array Value} {h0 : Heap} {target : State} (p1 : Int32) (w : Int32) (ex : Int32) (xp : Int32) (Lc : Array Slot) (X0 : Stand p l e R s m args below meth c T0 locs cells slots) (hx : p.tables.exec = Jvm.exec) (hZ : Z.Warmed39 s.vm) (hw : ∀ d ∈ tables_1, d.before a0 Z = true) (hby : c.code = code) (hown : s.vm.findClass "com/example/vestwright/vestwright/model/GroupedDecimalUngroupPinLaw" = some m.cls) (e0 : T0.heap = h0) (hl1 : Lc[1]? = some (.val (.int p1))) (hl7 : Lc[7]? = some (.val (.int w))) (hl13 : Lc[13]? = some (.val (.int ex))) (hl14 : Lc[14]? = some (.val (.int xp)))
    (kt : Steps p.tables e below (T0.setTop (mkF m 184 Lc [(.int (own_cm_s0 p1 w ex xp))])) target) : Steps p.tables e below (T0.setTop (mkF m 166 Lc [])) target := by
  show Steps p.tables e below (T0.setTop (mkF m 166 Lc [])) _
  refine XS.iload X0.here hx rfl (hb hby at_166) hl13 ?_
  show Steps p.tables e below (T0.setTop (mkF m 168 Lc [(.int ex)])) _
  by_cases hc168 : ex = (0 : Int32)
  · refine XS.ifYes X0.here hx rfl (pc0 := 168) (pc' := 176) rfl (hb hby at_168) rfl ((if0 _ _).trans (teq hc168).1) (by decide) (by decide) ?_
    show Steps p.tables e below (T0.setTop (mkF m 176 Lc [])) _
    refine XS.iloadN X0.here hx rfl (hb hby at_176) hl1 ?_
    show Steps p.tables e below (T0.setTop (mkF m 177 Lc [(.int p1)])) _
    refine XS.iconst X0.here hx rfl (hb hby at_177) ?_
    show Steps p.tables e below (T0.setTop (mkF m 178 Lc [(.int (1 : Int32)), (.int p1)])) _
    refine XS.iload X0.here hx rfl (hb hby at_178) hl7 ?_
    show Steps p.tables e below (T0.setTop (mkF m 180 Lc [(.int w), (.int (1 : Int32)), (.int p1)])) _
    refine XS.ishl X0.here hx rfl (hb hby at_180) rfl ?_
    show Steps p.tables e below (T0.setTop (mkF m 181 Lc [(.int ((1 : Int32) <<< (w &&& 31))), (.int p1)])) _
    refine XS.iconst X0.here hx rfl (hb hby at_181) ?_
    show Steps p.tables e below (T0.setTop (mkF m 182 Lc [(.int (1 : Int32)), (.int ((1 : Int32) <<< (w &&& 31))), (.int p1)])) _
    refine XS.isub X0.here hx rfl (hb hby at_182) rfl ?_
    show Steps p.tables e below (T0.setTop (mkF m 183 Lc [(.int (((1 : Int32) <<< (w &&& 31)) - (1 : Int32))), (.int p1)])) _
    refine XS.iand X0.here hx rfl (hb hby at_183) rfl ?_
    rw [show (own_cm_s0 p1 w ex xp) = (p1 &&& (((1 : Int32) <<< (w &&& 31)) - (1 : Int32))) from by unfold own_cm_s0; rw [if_pos hc168]] at kt
    exact kt
  · refine XS.ifNo X0.here hx rfl (hb hby at_168) rfl ((if0 _ _).trans (feq hc168).1) ?_
    show Steps p.tables e below (T0.setTop (mkF m 171 Lc [])) _
    refine XS.iload X0.here hx rfl (hb hby at_171) hl14 ?_
    show Steps p.tables e below (T0.setTop (mkF m 173 Lc [(.int xp)])) _
    refine XS.goto X0.here hx rfl (pc0 := 173) (pc' := 184) rfl (hb hby at_173) (by decide) (by decide) ?_
    rw [show (own_cm_s0 p1 w ex xp) = xp from by unfold own_cm_s0; rw [if_neg hc168]] at kt
    exact kt
def own_n1_s0 (hd : Int32) : Int32 := (if hd = (0 : Int32) then (0 : Int32) else (1 : Int32))
set_option maxRecDepth 65536 in
set_option maxHeartbeats 40000000 in
theorem sg_n1 {p : Program} {l : Launch} {e : Env} {R : Room} {s : State} {m : MethodId} {args : Array Value} {below : List Frame} {meth : Method} {c : Code} {T0 : State} {locs : List Loc} {cells slots : Nat} {Z : State} {a0 : Array Value} {h0 : Heap} {target : State} (hd : Int32) (gw : Int32) (Lc : Array Slot) (X0 : Stand p l e R s m args below meth c T0 locs cells slots) (hx : p.tables.exec = Jvm.exec) (hZ : Z.Warmed39 s.vm) (hw : ∀ d ∈ tables_1, d.before a0 Z = true) (hby : c.code = code) (hown : s.vm.findClass "com/example/vestwright/vestwright/model/GroupedDecimalUngroupPinLaw" = some m.cls) (e0 : T0.heap = h0) (hl10 : Lc[10]? = some (.val (.int hd)))
    (kt : Steps p.tables e below (T0.setTop (mkF m 201 Lc [(.int (own_n1_s0 hd)), (.int gw)])) target) : Steps p.tables e below (T0.setTop (mkF m 191 Lc [(.int gw)])) target := by
  show Steps p.tables e below (T0.setTop (mkF m 191 Lc [(.int gw)])) _
  refine XS.iload X0.here hx rfl (hb hby at_191) hl10 ?_
  show Steps p.tables e below (T0.setTop (mkF m 193 Lc [(.int hd), (.int gw)])) _
  by_cases hc193 : hd = (0 : Int32)
  · refine XS.ifYes X0.here hx rfl (pc0 := 193) (pc' := 200) rfl (hb hby at_193) rfl ((if0 _ _).trans (teq hc193).1) (by decide) (by decide) ?_
    show Steps p.tables e below (T0.setTop (mkF m 200 Lc [(.int gw)])) _
    refine XS.iconst X0.here hx rfl (hb hby at_200) ?_
    rw [show (own_n1_s0 hd) = (0 : Int32) from by unfold own_n1_s0; rw [if_pos hc193]] at kt
    exact kt
  · refine XS.ifNo X0.here hx rfl (hb hby at_193) rfl ((if0 _ _).trans (feq hc193).1) ?_
    show Steps p.tables e below (T0.setTop (mkF m 196 Lc [(.int gw)])) _
    refine XS.iconst X0.here hx rfl (hb hby at_196) ?_
    show Steps p.tables e below (T0.setTop (mkF m 197 Lc [(.int (1 : Int32)), (.int gw)])) _
    refine XS.goto X0.here hx rfl (pc0 := 197) (pc' := 201) rfl (hb hby at_197) (by decide) (by decide) ?_
    rw [show (own_n1_s0 hd) = (1 : Int32) from by unfold own_n1_s0; rw [if_neg hc193]] at kt
    exact kt
def own_tot_s0 (lm : Int32) (l6 : Int32) (n : Int32) : Int32 := (if lm = (0 : Int32) then n else (if l6 = (0 : Int32) then (64 : Int32) else (65 : Int32)))
set_option maxRecDepth 65536 in
set_option maxHeartbeats 40000000 in
theorem sg_tot {p : Program} {l : Launch} {e : Env} {R : Room} {s : State} {m : MethodId} {args : Array Value} {below : List Frame} {meth : Method} {c : Code} {T0 : State} {locs : List Loc} {cells slots : Nat} {Z : State} {a0 : Array Value} {h0 : Heap} {target : State} (lm : Int32) (l6 : Int32) (n : Int32) (Lc : Array Slot) (X0 : Stand p l e R s m args below meth c T0 locs cells slots) (hx : p.tables.exec = Jvm.exec) (hZ : Z.Warmed39 s.vm) (hw : ∀ d ∈ tables_1, d.before a0 Z = true) (hby : c.code = code) (hown : s.vm.findClass "com/example/vestwright/vestwright/model/GroupedDecimalUngroupPinLaw" = some m.cls) (e0 : T0.heap = h0) (hl8 : Lc[8]? = some (.val (.int lm))) (hl9 : Lc[9]? = some (.val (.int l6))) (hl16 : Lc[16]? = some (.val (.int n)))
    (kt : Steps p.tables e below (T0.setTop (mkF m 229 Lc [(.int (own_tot_s0 lm l6 n))])) target) : Steps p.tables e below (T0.setTop (mkF m 207 Lc [])) target := by
  show Steps p.tables e below (T0.setTop (mkF m 207 Lc [])) _
  refine XS.iload X0.here hx rfl (hb hby at_207) hl8 ?_
  show Steps p.tables e below (T0.setTop (mkF m 209 Lc [(.int lm)])) _
  by_cases hc209 : lm = (0 : Int32)
  · refine XS.ifYes X0.here hx rfl (pc0 := 209) (pc' := 227) rfl (hb hby at_209) rfl ((if0 _ _).trans (teq hc209).1) (by decide) (by decide) ?_
    show Steps p.tables e below (T0.setTop (mkF m 227 Lc [])) _
    refine XS.iload X0.here hx rfl (hb hby at_227) hl16 ?_
    rw [show (own_tot_s0 lm l6 n) = n from by unfold own_tot_s0; rw [if_pos hc209]] at kt
    exact kt
  · refine XS.ifNo X0.here hx rfl (hb hby at_209) rfl ((if0 _ _).trans (feq hc209).1) ?_
    show Steps p.tables e below (T0.setTop (mkF m 212 Lc [])) _
    refine XS.iload X0.here hx rfl (hb hby at_212) hl9 ?_
    show Steps p.tables e below (T0.setTop (mkF m 214 Lc [(.int l6)])) _
    by_cases hc214 : l6 = (0 : Int32)
    · refine XS.ifYes X0.here hx rfl (pc0 := 214) (pc' := 222) rfl (hb hby at_214) rfl ((if0 _ _).trans (teq hc214).1) (by decide) (by decide) ?_
      show Steps p.tables e below (T0.setTop (mkF m 222 Lc [])) _
      refine XS.bipush X0.here hx rfl (hb hby at_222) ?_
      show Steps p.tables e below (T0.setTop (mkF m 224 Lc [(.int (64 : Int32))])) _
      refine XS.goto X0.here hx rfl (pc0 := 224) (pc' := 229) rfl (hb hby at_224) (by decide) (by decide) ?_
      rw [show (own_tot_s0 lm l6 n) = (64 : Int32) from by unfold own_tot_s0; rw [if_neg hc209, if_pos hc214]] at kt
      exact kt
    · refine XS.ifNo X0.here hx rfl (hb hby at_214) rfl ((if0 _ _).trans (feq hc214).1) ?_
      show Steps p.tables e below (T0.setTop (mkF m 217 Lc [])) _
      refine XS.bipush X0.here hx rfl (hb hby at_217) ?_
      show Steps p.tables e below (T0.setTop (mkF m 219 Lc [(.int (65 : Int32))])) _
      refine XS.goto X0.here hx rfl (pc0 := 219) (pc' := 229) rfl (hb hby at_219) (by decide) (by decide) ?_
      rw [show (own_tot_s0 lm l6 n) = (65 : Int32) from by unfold own_tot_s0; rw [if_neg hc209, if_neg hc214]] at kt
      exact kt
def own_any_s0 (cm : Int32) (fC : Int32) : Int32 := (if cm = (0 : Int32) then (if fC = (0 : Int32) then (0 : Int32) else (1 : Int32)) else (1 : Int32))
set_option maxRecDepth 65536 in
set_option maxHeartbeats 40000000 in
theorem sg_any {p : Program} {l : Launch} {e : Env} {R : Room} {s : State} {m : MethodId} {args : Array Value} {below : List Frame} {meth : Method} {c : Code} {T0 : State} {locs : List Loc} {cells slots : Nat} {Z : State} {a0 : Array Value} {h0 : Heap} {target : State} (cm : Int32) (fC : Int32) (Lc : Array Slot) (X0 : Stand p l e R s m args below meth c T0 locs cells slots) (hx : p.tables.exec = Jvm.exec) (hZ : Z.Warmed39 s.vm) (hw : ∀ d ∈ tables_1, d.before a0 Z = true) (hby : c.code = code) (hown : s.vm.findClass "com/example/vestwright/vestwright/model/GroupedDecimalUngroupPinLaw" = some m.cls) (e0 : T0.heap = h0) (hl15 : Lc[15]? = some (.val (.int cm))) (hl21 : Lc[21]? = some (.val (.int fC)))
    (kt : Steps p.tables e below (T0.setTop (mkF m 714 Lc [(.int (own_any_s0 cm fC))])) target) : Steps p.tables e below (T0.setTop (mkF m 699 Lc [])) target := by
  show Steps p.tables e below (T0.setTop (mkF m 699 Lc [])) _
  refine XS.iload X0.here hx rfl (hb hby at_699) hl15 ?_
  show Steps p.tables e below (T0.setTop (mkF m 701 Lc [(.int cm)])) _
  by_cases hc701 : cm = (0 : Int32)
  · refine XS.ifNo X0.here hx rfl (hb hby at_701) rfl ((if0 _ _).trans (teq hc701).2) ?_
    show Steps p.tables e below (T0.setTop (mkF m 704 Lc [])) _
    refine XS.iload X0.here hx rfl (hb hby at_704) hl21 ?_
    show Steps p.tables e below (T0.setTop (mkF m 706 Lc [(.int fC)])) _
    by_cases hc706 : fC = (0 : Int32)
    · refine XS.ifYes X0.here hx rfl (pc0 := 706) (pc' := 713) rfl (hb hby at_706) rfl ((if0 _ _).trans (teq hc706).1) (by decide) (by decide) ?_
      show Steps p.tables e below (T0.setTop (mkF m 713 Lc [])) _
      refine XS.iconst X0.here hx rfl (hb hby at_713) ?_
      rw [show (own_any_s0 cm fC) = (0 : Int32) from by unfold own_any_s0; rw [if_pos hc701, if_pos hc706]] at kt
      exact kt
    · refine XS.ifNo X0.here hx rfl (hb hby at_706) rfl ((if0 _ _).trans (feq hc706).1) ?_
      show Steps p.tables e below (T0.setTop (mkF m 709 Lc [])) _
      refine XS.iconst X0.here hx rfl (hb hby at_709) ?_
      show Steps p.tables e below (T0.setTop (mkF m 710 Lc [(.int (1 : Int32))])) _
      refine XS.goto X0.here hx rfl (pc0 := 710) (pc' := 714) rfl (hb hby at_710) (by decide) (by decide) ?_
      rw [show (own_any_s0 cm fC) = (1 : Int32) from by unfold own_any_s0; rw [if_pos hc701, if_neg hc706]] at kt
      exact kt
  · refine XS.ifYes X0.here hx rfl (pc0 := 701) (pc' := 709) rfl (hb hby at_701) rfl ((if0 _ _).trans (feq hc701).2) (by decide) (by decide) ?_
    show Steps p.tables e below (T0.setTop (mkF m 709 Lc [])) _
    refine XS.iconst X0.here hx rfl (hb hby at_709) ?_
    show Steps p.tables e below (T0.setTop (mkF m 710 Lc [(.int (1 : Int32))])) _
    refine XS.goto X0.here hx rfl (pc0 := 710) (pc' := 714) rfl (hb hby at_710) (by decide) (by decide) ?_
    rw [show (own_any_s0 cm fC) = (1 : Int32) from by unfold own_any_s0; rw [if_neg hc701]] at kt
    exact kt
def own_acc_s0 (w : Int32) (xp : Int32) (cm : Int32) (fC : Int32) (an : Int32) : Int32 := (if an = (0 : Int32) then (1 : Int32) else (if fC = (0 : Int32) then (if (w % (4 : Int32)) = (0 : Int32) then (0 : Int32) else (if cm = xp then (1 : Int32) else (0 : Int32))) else (0 : Int32)))
set_option maxRecDepth 65536 in
set_option maxHeartbeats 40000000 in
theorem sg_acc {p : Program} {l : Launch} {e : Env} {R : Room} {s : State} {m : MethodId} {args : Array Value} {below : List Frame} {meth : Method} {c : Code} {T0 : State} {locs : List Loc} {cells slots : Nat} {Z : State} {a0 : Array Value} {h0 : Heap} {target : State} (w : Int32) (xp : Int32) (cm : Int32) (fC : Int32) (an : Int32) (Lc : Array Slot) (X0 : Stand p l e R s m args below meth c T0 locs cells slots) (hx : p.tables.exec = Jvm.exec) (hZ : Z.Warmed39 s.vm) (hw : ∀ d ∈ tables_1, d.before a0 Z = true) (hby : c.code = code) (hown : s.vm.findClass "com/example/vestwright/vestwright/model/GroupedDecimalUngroupPinLaw" = some m.cls) (e0 : T0.heap = h0) (hl7 : Lc[7]? = some (.val (.int w))) (hl14 : Lc[14]? = some (.val (.int xp))) (hl15 : Lc[15]? = some (.val (.int cm))) (hl21 : Lc[21]? = some (.val (.int fC))) (hl22 : Lc[22]? = some (.val (.int an)))
    (kt : Steps p.tables e below (T0.setTop (mkF m 745 Lc [(.int (own_acc_s0 w xp cm fC an))])) target) : Steps p.tables e below (T0.setTop (mkF m 716 Lc [])) target := by
  show Steps p.tables e below (T0.setTop (mkF m 716 Lc [])) _
  refine XS.iload X0.here hx rfl (hb hby at_716) hl22 ?_
  show Steps p.tables e below (T0.setTop (mkF m 718 Lc [(.int an)])) _
  by_cases hc718 : an = (0 : Int32)
  · refine XS.ifYes X0.here hx rfl (pc0 := 718) (pc' := 740) rfl (hb hby at_718) rfl ((if0 _ _).trans (teq hc718).1) (by decide) (by decide) ?_
    show Steps p.tables e below (T0.setTop (mkF m 740 Lc [])) _
    refine XS.iconst X0.here hx rfl (hb hby at_740) ?_
    show Steps p.tables e below (T0.setTop (mkF m 741 Lc [(.int (1 : Int32))])) _
    refine XS.goto X0.here hx rfl (pc0 := 741) (pc' := 745) rfl (hb hby at_741) (by decide) (by decide) ?_
    rw [show (own_acc_s0 w xp cm fC an) = (1 : Int32) from by unfold own_acc_s0; rw [if_pos hc718]] at kt
    exact kt
  · refine XS.ifNo X0.here hx rfl (hb hby at_718) rfl ((if0 _ _).trans (feq hc718).1) ?_
    show Steps p.tables e below (T0.setTop (mkF m 721 Lc [])) _
    refine XS.iload X0.here hx rfl (hb hby at_721) hl21 ?_
    show Steps p.tables e below (T0.setTop (mkF m 723 Lc [(.int fC)])) _
    by_cases hc723 : fC = (0 : Int32)
    · refine XS.ifNo X0.here hx rfl (hb hby at_723) rfl ((if0 _ _).trans (teq hc723).2) ?_
      show Steps p.tables e below (T0.setTop (mkF m 726 Lc [])) _
      refine XS.iload X0.here hx rfl (hb hby at_726) hl7 ?_
      show Steps p.tables e below (T0.setTop (mkF m 728 Lc [(.int w)])) _
      refine XS.iconst X0.here hx rfl (hb hby at_728) ?_
      show Steps p.tables e below (T0.setTop (mkF m 729 Lc [(.int (4 : Int32)), (.int w)])) _
      refine iremM X0 hx rfl (hb hby at_729) rfl (by decide) ?_
      show Steps p.tables e below (T0.setTop (mkF m 730 Lc [(.int (w % (4 : Int32)))])) _
      by_cases hc730 : (w % (4 : Int32)) = (0 : Int32)
      · refine XS.ifYes X0.here hx rfl (pc0 := 730) (pc' := 744) rfl (hb hby at_730) rfl ((if0 _ _).trans (teq hc730).1) (by decide) (by decide) ?_
        show Steps p.tables e below (T0.setTop (mkF m 744 Lc [])) _
        refine XS.iconst X0.here hx rfl (hb hby at_744) ?_
        rw [show (own_acc_s0 w xp cm fC an) = (0 : Int32) from by unfold own_acc_s0; rw [if_neg hc718, if_pos hc723, if_pos hc730]] at kt
        exact kt
      · refine XS.ifNo X0.here hx rfl (hb hby at_730) rfl ((if0 _ _).trans (feq hc730).1) ?_
        show Steps p.tables e below (T0.setTop (mkF m 733 Lc [])) _
        refine XS.iload X0.here hx rfl (hb hby at_733) hl15 ?_
        show Steps p.tables e below (T0.setTop (mkF m 735 Lc [(.int cm)])) _
        refine XS.iload X0.here hx rfl (hb hby at_735) hl14 ?_
        show Steps p.tables e below (T0.setTop (mkF m 737 Lc [(.int xp), (.int cm)])) _
        by_cases hc737 : cm = xp
        · refine XS.icmpNo X0.here hx rfl (hb hby at_737) rfl (teq hc737).2 ?_
          show Steps p.tables e below (T0.setTop (mkF m 740 Lc [])) _
          refine XS.iconst X0.here hx rfl (hb hby at_740) ?_
          show Steps p.tables e below (T0.setTop (mkF m 741 Lc [(.int (1 : Int32))])) _
          refine XS.goto X0.here hx rfl (pc0 := 741) (pc' := 745) rfl (hb hby at_741) (by decide) (by decide) ?_
          rw [show (own_acc_s0 w xp cm fC an) = (1 : Int32) from by unfold own_acc_s0; rw [if_neg hc718, if_pos hc723, if_neg hc730, if_pos hc737]] at kt
          exact kt
        · refine XS.icmpYes X0.here hx rfl (pc0 := 737) (pc' := 744) rfl (hb hby at_737) rfl (feq hc737).2 (by decide) (by decide) ?_
          show Steps p.tables e below (T0.setTop (mkF m 744 Lc [])) _
          refine XS.iconst X0.here hx rfl (hb hby at_744) ?_
          rw [show (own_acc_s0 w xp cm fC an) = (0 : Int32) from by unfold own_acc_s0; rw [if_neg hc718, if_pos hc723, if_neg hc730, if_neg hc737]] at kt
          exact kt
    · refine XS.ifYes X0.here hx rfl (pc0 := 723) (pc' := 744) rfl (hb hby at_723) rfl ((if0 _ _).trans (feq hc723).2) (by decide) (by decide) ?_
      show Steps p.tables e below (T0.setTop (mkF m 744 Lc [])) _
      refine XS.iconst X0.here hx rfl (hb hby at_744) ?_
      rw [show (own_acc_s0 w xp cm fC an) = (0 : Int32) from by unfold own_acc_s0; rw [if_neg hc718, if_neg hc723]] at kt
      exact kt
def own_cc1_s0 (w : Int32) : Int32 := (if w < (5 : Int32) then (0 : Int32) else (1 : Int32))
set_option maxRecDepth 65536 in
set_option maxHeartbeats 40000000 in
theorem sg_cc1 {p : Program} {l : Launch} {e : Env} {R : Room} {s : State} {m : MethodId} {args : Array Value} {below : List Frame} {meth : Method} {c : Code} {T0 : State} {locs : List Loc} {cells slots : Nat} {Z : State} {a0 : Array Value} {h0 : Heap} {target : State} (w : Int32) (Lc : Array Slot) (X0 : Stand p l e R s m args below meth c T0 locs cells slots) (hx : p.tables.exec = Jvm.exec) (hZ : Z.Warmed39 s.vm) (hw : ∀ d ∈ tables_1, d.before a0 Z = true) (hby : c.code = code) (hown : s.vm.findClass "com/example/vestwright/vestwright/model/GroupedDecimalUngroupPinLaw" = some m.cls) (e0 : T0.heap = h0) (hl7 : Lc[7]? = some (.val (.int w)))
    (kt : Steps p.tables e below (T0.setTop (mkF m 763 Lc [(.int (own_cc1_s0 w))])) target) : Steps p.tables e below (T0.setTop (mkF m 752 Lc [])) target := by
  show Steps p.tables e below (T0.setTop (mkF m 752 Lc [])) _
  refine XS.iload X0.here hx rfl (hb hby at_752) hl7 ?_
  show Steps p.tables e below (T0.setTop (mkF m 754 Lc [(.int w)])) _
  refine XS.iconst X0.here hx rfl (hb hby at_754) ?_
  show Steps p.tables e below (T0.setTop (mkF m 755 Lc [(.int (5 : Int32)), (.int w)])) _
  by_cases hc755 : w < (5 : Int32)
  · refine XS.icmpYes X0.here hx rfl (pc0 := 755) (pc' := 762) rfl (hb hby at_755) rfl (tlt hc755).1 (by decide) (by decide) ?_
    show Steps p.tables e below (T0.setTop (mkF m 762 Lc [])) _
    refine XS.iconst X0.here hx rfl (hb hby at_762) ?_
    rw [show (own_cc1_s0 w) = (0 : Int32) from by unfold own_cc1_s0; rw [if_pos hc755]] at kt
    exact kt
  · refine XS.icmpNo X0.here hx rfl (hb hby at_755) rfl (flt hc755).1 ?_
    show Steps p.tables e below (T0.setTop (mkF m 758 Lc [])) _
    refine XS.iconst X0.here hx rfl (hb hby at_758) ?_
    show Steps p.tables e below (T0.setTop (mkF m 759 Lc [(.int (1 : Int32))])) _
    refine XS.goto X0.here hx rfl (pc0 := 759) (pc' := 763) rfl (hb hby at_759) (by decide) (by decide) ?_
    rw [show (own_cc1_s0 w) = (1 : Int32) from by unfold own_cc1_s0; rw [if_neg hc755]] at kt
    exact kt
def own_cc_s0 (w : Int32) (an : Int32) : Int32 := (if an = (0 : Int32) then (0 : Int32) else (if w < (5 : Int32) then (if w < (9 : Int32) then ((0 : Int32) + (0 : Int32)) else ((0 : Int32) + (1 : Int32))) else (if w < (9 : Int32) then ((1 : Int32) + (0 : Int32)) else ((1 : Int32) + (1 : Int32)))))
set_option maxRecDepth 65536 in
set_option maxHeartbeats 40000000 in
theorem sg_cc {p : Program} {l : Launch} {e : Env} {R : Room} {s : State} {m : MethodId} {args : Array Value} {below : List Frame} {meth : Method} {c : Code} {T0 : State} {locs : List Loc} {cells slots : Nat} {Z : State} {a0 : Array Value} {h0 : Heap} {target : State} (w : Int32) (an : Int32) (Lc : Array Slot) (X0 : Stand p l e R s m args below meth c T0 locs cells slots) (hx : p.tables.exec = Jvm.exec) (hZ : Z.Warmed39 s.vm) (hw : ∀ d ∈ tables_1, d.before a0 Z = true) (hby : c.code = code) (hown : s.vm.findClass "com/example/vestwright/vestwright/model/GroupedDecimalUngroupPinLaw" = some m.cls) (e0 : T0.heap = h0) (hl7 : Lc[7]? = some (.val (.int w))) (hl22 : Lc[22]? = some (.val (.int an)))
    (kt : Steps p.tables e below (T0.setTop (mkF m 780 Lc [(.int (own_cc_s0 w an))])) target) : Steps p.tables e below (T0.setTop (mkF m 747 Lc [])) target := by
  show Steps p.tables e below (T0.setTop (mkF m 747 Lc [])) _
  refine XS.iload X0.here hx rfl (hb hby at_747) hl22 ?_
  show Steps p.tables e below (T0.setTop (mkF m 749 Lc [(.int an)])) _
  by_cases hc749 : an = (0 : Int32)
  · refine XS.ifYes X0.here hx rfl (pc0 := 749) (pc' := 779) rfl (hb hby at_749) rfl ((if0 _ _).trans (teq hc749).1) (by decide) (by decide) ?_
    show Steps p.tables e below (T0.setTop (mkF m 779 Lc [])) _
    refine XS.iconst X0.here hx rfl (hb hby at_779) ?_
    rw [show (own_cc_s0 w an) = (0 : Int32) from by unfold own_cc_s0; rw [if_pos hc749]] at kt
    exact kt
  · refine XS.ifNo X0.here hx rfl (hb hby at_749) rfl ((if0 _ _).trans (feq hc749).1) ?_
    show Steps p.tables e below (T0.setTop (mkF m 752 Lc [])) _
    refine XS.iload X0.here hx rfl (hb hby at_752) hl7 ?_
    show Steps p.tables e below (T0.setTop (mkF m 754 Lc [(.int w)])) _
    refine XS.iconst X0.here hx rfl (hb hby at_754) ?_
    show Steps p.tables e below (T0.setTop (mkF m 755 Lc [(.int (5 : Int32)), (.int w)])) _
    by_cases hc755 : w < (5 : Int32)
    · refine XS.icmpYes X0.here hx rfl (pc0 := 755) (pc' := 762) rfl (hb hby at_755) rfl (tlt hc755).1 (by decide) (by decide) ?_
      show Steps p.tables e below (T0.setTop (mkF m 762 Lc [])) _
      refine XS.iconst X0.here hx rfl (hb hby at_762) ?_
      show Steps p.tables e below (T0.setTop (mkF m 763 Lc [(.int (0 : Int32))])) _
      refine XS.iload X0.here hx rfl (hb hby at_763) hl7 ?_
      show Steps p.tables e below (T0.setTop (mkF m 765 Lc [(.int w), (.int (0 : Int32))])) _
      refine XS.bipush X0.here hx rfl (hb hby at_765) ?_
      show Steps p.tables e below (T0.setTop (mkF m 767 Lc [(.int (9 : Int32)), (.int w), (.int (0 : Int32))])) _
      by_cases hc767 : w < (9 : Int32)
      · refine XS.icmpYes X0.here hx rfl (pc0 := 767) (pc' := 774) rfl (hb hby at_767) rfl (tlt hc767).1 (by decide) (by decide) ?_
        show Steps p.tables e below (T0.setTop (mkF m 774 Lc [(.int (0 : Int32))])) _
        refine XS.iconst X0.here hx rfl (hb hby at_774) ?_
        show Steps p.tables e below (T0.setTop (mkF m 775 Lc [(.int (0 : Int32)), (.int (0 : Int32))])) _
        refine XS.iadd X0.here hx rfl (hb hby at_775) rfl ?_
        show Steps p.tables e below (T0.setTop (mkF m 776 Lc [(.int ((0 : Int32) + (0 : Int32)))])) _
        refine XS.goto X0.here hx rfl (pc0 := 776) (pc' := 780) rfl (hb hby at_776) (by decide) (by decide) ?_
        rw [show (own_cc_s0 w an) = ((0 : Int32) + (0 : Int32)) from by unfold own_cc_s0; rw [if_neg hc749, if_pos hc755, if_pos hc767]] at kt
        exact kt
      · refine XS.icmpNo X0.here hx rfl (hb hby at_767) rfl (flt hc767).1 ?_
        show Steps p.tables e below (T0.setTop (mkF m 770 Lc [(.int (0 : Int32))])) _
        refine XS.iconst X0.here hx rfl (hb hby at_770) ?_
        show Steps p.tables e below (T0.setTop (mkF m 771 Lc [(.int (1 : Int32)), (.int (0 : Int32))])) _
        refine XS.goto X0.here hx rfl (pc0 := 771) (pc' := 775) rfl (hb hby at_771) (by decide) (by decide) ?_
        show Steps p.tables e below (T0.setTop (mkF m 775 Lc [(.int (1 : Int32)), (.int (0 : Int32))])) _
        refine XS.iadd X0.here hx rfl (hb hby at_775) rfl ?_
        show Steps p.tables e below (T0.setTop (mkF m 776 Lc [(.int ((0 : Int32) + (1 : Int32)))])) _
        refine XS.goto X0.here hx rfl (pc0 := 776) (pc' := 780) rfl (hb hby at_776) (by decide) (by decide) ?_
        rw [show (own_cc_s0 w an) = ((0 : Int32) + (1 : Int32)) from by unfold own_cc_s0; rw [if_neg hc749, if_pos hc755, if_neg hc767]] at kt
        exact kt
    · refine XS.icmpNo X0.here hx rfl (hb hby at_755) rfl (flt hc755).1 ?_
      show Steps p.tables e below (T0.setTop (mkF m 758 Lc [])) _
      refine XS.iconst X0.here hx rfl (hb hby at_758) ?_
      show Steps p.tables e below (T0.setTop (mkF m 759 Lc [(.int (1 : Int32))])) _
      refine XS.goto X0.here hx rfl (pc0 := 759) (pc' := 763) rfl (hb hby at_759) (by decide) (by decide) ?_
      show Steps p.tables e below (T0.setTop (mkF m 763 Lc [(.int (1 : Int32))])) _
      refine XS.iload X0.here hx rfl (hb hby at_763) hl7 ?_
      show Steps p.tables e below (T0.setTop (mkF m 765 Lc [(.int w), (.int (1 : Int32))])) _
      refine XS.bipush X0.here hx rfl (hb hby at_765) ?_
      show Steps p.tables e below (T0.setTop (mkF m 767 Lc [(.int (9 : Int32)), (.int w), (.int (1 : Int32))])) _
      by_cases hc767 : w < (9 : Int32)
      · refine XS.icmpYes X0.here hx rfl (pc0 := 767) (pc' := 774) rfl (hb hby at_767) rfl (tlt hc767).1 (by decide) (by decide) ?_
        show Steps p.tables e below (T0.setTop (mkF m 774 Lc [(.int (1 : Int32))])) _
        refine XS.iconst X0.here hx rfl (hb hby at_774) ?_
        show Steps p.tables e below (T0.setTop (mkF m 775 Lc [(.int (0 : Int32)), (.int (1 : Int32))])) _
        refine XS.iadd X0.here hx rfl (hb hby at_775) rfl ?_
        show Steps p.tables e below (T0.setTop (mkF m 776 Lc [(.int ((1 : Int32) + (0 : Int32)))])) _
        refine XS.goto X0.here hx rfl (pc0 := 776) (pc' := 780) rfl (hb hby at_776) (by decide) (by decide) ?_
        rw [show (own_cc_s0 w an) = ((1 : Int32) + (0 : Int32)) from by unfold own_cc_s0; rw [if_neg hc749, if_neg hc755, if_pos hc767]] at kt
        exact kt
      · refine XS.icmpNo X0.here hx rfl (hb hby at_767) rfl (flt hc767).1 ?_
        show Steps p.tables e below (T0.setTop (mkF m 770 Lc [(.int (1 : Int32))])) _
        refine XS.iconst X0.here hx rfl (hb hby at_770) ?_
        show Steps p.tables e below (T0.setTop (mkF m 771 Lc [(.int (1 : Int32)), (.int (1 : Int32))])) _
        refine XS.goto X0.here hx rfl (pc0 := 771) (pc' := 775) rfl (hb hby at_771) (by decide) (by decide) ?_
        show Steps p.tables e below (T0.setTop (mkF m 775 Lc [(.int (1 : Int32)), (.int (1 : Int32))])) _
        refine XS.iadd X0.here hx rfl (hb hby at_775) rfl ?_
        show Steps p.tables e below (T0.setTop (mkF m 776 Lc [(.int ((1 : Int32) + (1 : Int32)))])) _
        refine XS.goto X0.here hx rfl (pc0 := 776) (pc' := 780) rfl (hb hby at_776) (by decide) (by decide) ?_
        rw [show (own_cc_s0 w an) = ((1 : Int32) + (1 : Int32)) from by unfold own_cc_s0; rw [if_neg hc749, if_neg hc755, if_neg hc767]] at kt
        exact kt
def own_ee_s0 (to : Int32) (ac : Int32) (cc : Int32) : Int32 := (if (64 : Int32) < to then (-1 : Int32) else (if ac = (0 : Int32) then (-1 : Int32) else (to - cc)))
set_option maxRecDepth 65536 in
set_option maxHeartbeats 40000000 in
theorem sg_ee {p : Program} {l : Launch} {e : Env} {R : Room} {s : State} {m : MethodId} {args : Array Value} {below : List Frame} {meth : Method} {c : Code} {T0 : State} {locs : List Loc} {cells slots : Nat} {Z : State} {a0 : Array Value} {h0 : Heap} {target : State} (to : Int32) (ac : Int32) (cc : Int32) (Lc : Array Slot) (X0 : Stand p l e R s m args below meth c T0 locs cells slots) (hx : p.tables.exec = Jvm.exec) (hZ : Z.Warmed39 s.vm) (hw : ∀ d ∈ tables_1, d.before a0 Z = true) (hby : c.code = code) (hown : s.vm.findClass "com/example/vestwright/vestwright/model/GroupedDecimalUngroupPinLaw" = some m.cls) (e0 : T0.heap = h0) (hl17 : Lc[17]? = some (.val (.int to))) (hl23 : Lc[23]? = some (.val (.int ac))) (hl24 : Lc[24]? = some (.val (.int cc)))
    (kt : Steps p.tables e below (T0.setTop (mkF m 803 Lc [(.int (own_ee_s0 to ac cc))])) target) : Steps p.tables e below (T0.setTop (mkF m 782 Lc [])) target := by
  show Steps p.tables e below (T0.setTop (mkF m 782 Lc [])) _
  refine XS.iload X0.here hx rfl (hb hby at_782) hl17 ?_
  show Steps p.tables e below (T0.setTop (mkF m 784 Lc [(.int to)])) _
  refine XS.bipush X0.here hx rfl (hb hby at_784) ?_
  show Steps p.tables e below (T0.setTop (mkF m 786 Lc [(.int (64 : Int32)), (.int to)])) _
  by_cases hc786 : (64 : Int32) < to
  · refine XS.icmpYes X0.here hx rfl (pc0 := 786) (pc' := 794) rfl (hb hby at_786) rfl (tlt hc786).2.2.1 (by decide) (by decide) ?_
    show Steps p.tables e below (T0.setTop (mkF m 794 Lc [])) _
    refine XS.iconst X0.here hx rfl (hb hby at_794) ?_
    show Steps p.tables e below (T0.setTop (mkF m 795 Lc [(.int (-1 : Int32))])) _
    refine XS.goto X0.here hx rfl (pc0 := 795) (pc' := 803) rfl (hb hby at_795) (by decide) (by decide) ?_
    rw [show (own_ee_s0 to ac cc) = (-1 : Int32) from by unfold own_ee_s0; rw [if_pos hc786]] at kt
    exact kt
  · refine XS.icmpNo X0.here hx rfl (hb hby at_786) rfl (flt hc786).2.2.1 ?_
    show Steps p.tables e below (T0.setTop (mkF m 789 Lc [])) _
    refine XS.iload X0.here hx rfl (hb hby at_789) hl23 ?_
    show Steps p.tables e below (T0.setTop (mkF m 791 Lc [(.int ac)])) _
    by_cases hc791 : ac = (0 : Int32)
    · refine XS.ifNo X0.here hx rfl (hb hby at_791) rfl ((if0 _ _).trans (teq hc791).2) ?_
      show Steps p.tables e below (T0.setTop (mkF m 794 Lc [])) _
      refine XS.iconst X0.here hx rfl (hb hby at_794) ?_
      show Steps p.tables e below (T0.setTop (mkF m 795 Lc [(.int (-1 : Int32))])) _
      refine XS.goto X0.here hx rfl (pc0 := 795) (pc' := 803) rfl (hb hby at_795) (by decide) (by decide) ?_
      rw [show (own_ee_s0 to ac cc) = (-1 : Int32) from by unfold own_ee_s0; rw [if_neg hc786, if_pos hc791]] at kt
      exact kt
    · refine XS.ifYes X0.here hx rfl (pc0 := 791) (pc' := 798) rfl (hb hby at_791) rfl ((if0 _ _).trans (feq hc791).2) (by decide) (by decide) ?_
      show Steps p.tables e below (T0.setTop (mkF m 798 Lc [])) _
      refine XS.iload X0.here hx rfl (hb hby at_798) hl17 ?_
      show Steps p.tables e below (T0.setTop (mkF m 800 Lc [(.int to)])) _
      refine XS.iload X0.here hx rfl (hb hby at_800) hl24 ?_
      show Steps p.tables e below (T0.setTop (mkF m 802 Lc [(.int cc), (.int to)])) _
      refine XS.isub X0.here hx rfl (hb hby at_802) rfl ?_
      rw [show (own_ee_s0 to ac cc) = (to - cc) from by unfold own_ee_s0; rw [if_neg hc786, if_neg hc791]] at kt
      exact kt
def own_c1_s0 (w : Int32) (an : Int32) : Int32 := (if an = (0 : Int32) then (0 : Int32) else (if w < (9 : Int32) then (0 : Int32) else (1 : Int32)))
set_option maxRecDepth 65536 in
set_option maxHeartbeats 40000000 in
theorem sg_c1 {p : Program} {l : Launch} {e : Env} {R : Room} {s : State} {m : MethodId} {args : Array Value} {below : List Frame} {meth : Method} {c : Code} {T0 : State} {locs : List Loc} {cells slots : Nat} {Z : State} {a0 : Array Value} {h0 : Heap} {target : State} (w : Int32) (an : Int32) (Lc : Array Slot) (X0 : Stand p l e R s m args below meth c T0 locs cells slots) (hx : p.tables.exec = Jvm.exec) (hZ : Z.Warmed39 s.vm) (hw : ∀ d ∈ tables_1, d.before a0 Z = true) (hby : c.code = code) (hown : s.vm.findClass "com/example/vestwright/vestwright/model/GroupedDecimalUngroupPinLaw" = some m.cls) (e0 : T0.heap = h0) (hl7 : Lc[7]? = some (.val (.int w))) (hl22 : Lc[22]? = some (.val (.int an)))
    (kt : Steps p.tables e below (T0.setTop (mkF m 844 Lc [(.int (own_c1_s0 w an))])) target) : Steps p.tables e below (T0.setTop (mkF m 827 Lc [])) target := by
  show Steps p.tables e below (T0.setTop (mkF m 827 Lc [])) _
  refine XS.iload X0.here hx rfl (hb hby at_827) hl22 ?_
  show Steps p.tables e below (T0.setTop (mkF m 829 Lc [(.int an)])) _
  by_cases hc829 : an = (0 : Int32)
  · refine XS.ifYes X0.here hx rfl (pc0 := 829) (pc' := 843) rfl (hb hby at_829) rfl ((if0 _ _).trans (teq hc829).1) (by decide) (by decide) ?_
    show Steps p.tables e below (T0.setTop (mkF m 843 Lc [])) _
    refine XS.iconst X0.here hx rfl (hb hby at_843) ?_
    rw [show (own_c1_s0 w an) = (0 : Int32) from by unfold own_c1_s0; rw [if_pos hc829]] at kt
    exact kt
  · refine XS.ifNo X0.here hx rfl (hb hby at_829) rfl ((if0 _ _).trans (feq hc829).1) ?_
    show Steps p.tables e below (T0.setTop (mkF m 832 Lc [])) _
    refine XS.iload X0.here hx rfl (hb hby at_832) hl7 ?_
    show Steps p.tables e below (T0.setTop (mkF m 834 Lc [(.int w)])) _
    refine XS.bipush X0.here hx rfl (hb hby at_834) ?_
    show Steps p.tables e below (T0.setTop (mkF m 836 Lc [(.int (9 : Int32)), (.int w)])) _
    by_cases hc836 : w < (9 : Int32)
    · refine XS.icmpYes X0.here hx rfl (pc0 := 836) (pc' := 843) rfl (hb hby at_836) rfl (tlt hc836).1 (by decide) (by decide) ?_
      show Steps p.tables e below (T0.setTop (mkF m 843 Lc [])) _
      refine XS.iconst X0.here hx rfl (hb hby at_843) ?_
      rw [show (own_c1_s0 w an) = (0 : Int32) from by unfold own_c1_s0; rw [if_neg hc829, if_pos hc836]] at kt
      exact kt
    · refine XS.icmpNo X0.here hx rfl (hb hby at_836) rfl (flt hc836).1 ?_
      show Steps p.tables e below (T0.setTop (mkF m 839 Lc [])) _
      refine XS.iconst X0.here hx rfl (hb hby at_839) ?_
      show Steps p.tables e below (T0.setTop (mkF m 840 Lc [(.int (1 : Int32))])) _
      refine XS.goto X0.here hx rfl (pc0 := 840) (pc' := 844) rfl (hb hby at_840) (by decide) (by decide) ?_
      rw [show (own_c1_s0 w an) = (1 : Int32) from by unfold own_c1_s0; rw [if_neg hc829, if_neg hc836]] at kt
      exact kt
def own_c2_s0 (w : Int32) (an : Int32) : Int32 := (if an = (0 : Int32) then (0 : Int32) else (if w < (5 : Int32) then (0 : Int32) else (1 : Int32)))
set_option maxRecDepth 65536 in
set_option maxHeartbeats 40000000 in
theorem sg_c2 {p : Program} {l : Launch} {e : Env} {R : Room} {s : State} {m : MethodId} {args : Array Value} {below : List Frame} {meth : Method} {c : Code} {T0 : State} {locs : List Loc} {cells slots : Nat} {Z : State} {a0 : Array Value} {h0 : Heap} {target : State} (w : Int32) (an : Int32) (Lc : Array Slot) (X0 : Stand p l e R s m args below meth c T0 locs cells slots) (hx : p.tables.exec = Jvm.exec) (hZ : Z.Warmed39 s.vm) (hw : ∀ d ∈ tables_1, d.before a0 Z = true) (hby : c.code = code) (hown : s.vm.findClass "com/example/vestwright/vestwright/model/GroupedDecimalUngroupPinLaw" = some m.cls) (e0 : T0.heap = h0) (hl7 : Lc[7]? = some (.val (.int w))) (hl22 : Lc[22]? = some (.val (.int an)))
    (kt : Steps p.tables e below (T0.setTop (mkF m 872 Lc [(.int (own_c2_s0 w an))])) target) : Steps p.tables e below (T0.setTop (mkF m 856 Lc [])) target := by
  show Steps p.tables e below (T0.setTop (mkF m 856 Lc [])) _
  refine XS.iload X0.here hx rfl (hb hby at_856) hl22 ?_
  show Steps p.tables e below (T0.setTop (mkF m 858 Lc [(.int an)])) _
  by_cases hc858 : an = (0 : Int32)
  · refine XS.ifYes X0.here hx rfl (pc0 := 858) (pc' := 871) rfl (hb hby at_858) rfl ((if0 _ _).trans (teq hc858).1) (by decide) (by decide) ?_
    show Steps p.tables e below (T0.setTop (mkF m 871 Lc [])) _
    refine XS.iconst X0.here hx rfl (hb hby at_871) ?_
    rw [show (own_c2_s0 w an) = (0 : Int32) from by unfold own_c2_s0; rw [if_pos hc858]] at kt
    exact kt
  · refine XS.ifNo X0.here hx rfl (hb hby at_858) rfl ((if0 _ _).trans (feq hc858).1) ?_
    show Steps p.tables e below (T0.setTop (mkF m 861 Lc [])) _
    refine XS.iload X0.here hx rfl (hb hby at_861) hl7 ?_
    show Steps p.tables e below (T0.setTop (mkF m 863 Lc [(.int w)])) _
    refine XS.iconst X0.here hx rfl (hb hby at_863) ?_
    show Steps p.tables e below (T0.setTop (mkF m 864 Lc [(.int (5 : Int32)), (.int w)])) _
    by_cases hc864 : w < (5 : Int32)
    · refine XS.icmpYes X0.here hx rfl (pc0 := 864) (pc' := 871) rfl (hb hby at_864) rfl (tlt hc864).1 (by decide) (by decide) ?_
      show Steps p.tables e below (T0.setTop (mkF m 871 Lc [])) _
      refine XS.iconst X0.here hx rfl (hb hby at_871) ?_
      rw [show (own_c2_s0 w an) = (0 : Int32) from by unfold own_c2_s0; rw [if_neg hc858, if_pos hc864]] at kt
      exact kt
    · refine XS.icmpNo X0.here hx rfl (hb hby at_864) rfl (flt hc864).1 ?_
      show Steps p.tables e below (T0.setTop (mkF m 867 Lc [])) _
      refine XS.iconst X0.here hx rfl (hb hby at_867) ?_
      show Steps p.tables e below (T0.setTop (mkF m 868 Lc [(.int (1 : Int32))])) _
      refine XS.goto X0.here hx rfl (pc0 := 868) (pc' := 872) rfl (hb hby at_868) (by decide) (by decide) ?_
      rw [show (own_c2_s0 w an) = (1 : Int32) from by unfold own_c2_s0; rw [if_neg hc858, if_neg hc864]] at kt
      exact kt
set_option maxRecDepth 65536 in
set_option maxHeartbeats 40000000 in
theorem own_ft {p : Program} {l : Launch} {e : Env} {s : State} {m : MethodId} {args : Array Value} {below : List Frame} {meth : Method} {c : Code} {T0 : State} {locs : List Loc} {Z : State} {a0 : Array Value} {h0 : Heap} (Lc : Array Slot) (p3 : Int32) (f : Int32) (X0 : Stand p l e room_1 s m args below meth c T0 locs 2 136) (hx : p.tables.exec = Jvm.exec) (hZ : Z.Warmed39 s.vm) (hw : ∀ d ∈ tables_1, d.before a0 Z = true) (hby : c.code = code) (hml : c.maxLocals = 31) (hown : s.vm.findClass "com/example/vestwright/vestwright/model/GroupedDecimalUngroupPinLaw" = some m.cls) (e0 : T0.heap = h0) (hLs : Lc.size = 31) (hl4 : Lc[4]? = some (.val (.int p3))) (hl11 : Lc[11]? = some (.val (.int f))) (n0 : Nat) (Z0 : n0 ≤ h0.size) (N0 : Fr n0 locs) (hh0 : (0 : Int32) < f) (k0 : (own_fc p3 (0 : Int32)) = (2 : Int32)) :
    ∃ (T' : State) (locs' : List Loc), Stand p l e room_1 s m args below meth c T' locs' 2 136 ∧ T'.heap = h0 ∧ Fr n0 locs' ∧ ∀ target, Steps p.tables e below (T'.setTop (mkF m 697 Lc [(.int (1 : Int32))])) target → Steps p.tables e below (T0.setTop (mkF m 645 Lc [])) target := by
  obtain ⟨_, _, ⟨T1, L1, k1, n1⟩, -, X1, ⟨Lc1, hQ1, l1, y1, z1⟩, st1⟩ := Jvm.LawKit.callS X0 hx (y := (⟨"com/example/vestwright/vestwright/model/GroupedDecimalUngroupPinLaw", "fracCode", "(II)I"⟩ : MethodName)) hown (mvT hZ (hw _ (List.mem_of_getElem? (i := 16) rfl))) (mvT hZ (hw _ (List.mem_of_getElem? (i := 17) rfl))) (mvT hZ (hw _ (List.mem_of_getElem? (i := 3) rfl))) (mvT hZ (hw _ (List.mem_of_getElem? (i := 18) rfl))) (by decide) (backOf (W := 0) (rm2 l Z a0 hw [] p3 (0 : Int32)  h0 n0 Z0 ) hZ (hw _ (List.mem_of_getElem? (i := 18) rfl)) (hw _ (List.mem_of_getElem? (i := 3) rfl)) (by decide) (by decide)) (g := (mkF m 653 Lc [(.int (0 : Int32)), (.int p3)])) rfl (by rw [hml]; exact hLs) (argsL := [(.int p3), (.int (0 : Int32))]) (rest := []) (lenOf pd_1 rfl) rfl (by show 2 * 0 + _ ≤ _; exact Nat.le_of_eq rfl) (hb hby at_653) (fun _ _ => ⟨rfl, e0, (by decide : 2 + 0 ≤ _), (by decide : 136 + 0 ≤ _)⟩)
  dsimp only [Pt.U, Pt.locs, Pt.cells, Pt.slots] at X1 l1 y1 z1 st1 hQ1
  subst l1 y1 z1
  obtain ⟨rfl, Nq1, e1⟩ := hQ1
  have N1 := Fr.app N0 Nq1
  refine ⟨_, _, X1, e1, N1, fun target kt => ?_⟩
  show Steps p.tables e below (T0.setTop (mkF m 645 Lc [])) _
  refine XS.iload X0.here hx rfl (hb hby at_645) hl11 ?_
  show Steps p.tables e below (T0.setTop (mkF m 647 Lc [(.int f)])) _
  refine XS.ifNo X0.here hx rfl (hb hby at_647) rfl ((if0 _ _).trans (tlt hh0).2.2.2) ?_
  show Steps p.tables e below (T0.setTop (mkF m 650 Lc [])) _
  refine XS.iload X0.here hx rfl (hb hby at_650) hl4 ?_
  show Steps p.tables e below (T0.setTop (mkF m 652 Lc [(.int p3)])) _
  refine XS.iconst X0.here hx rfl (hb hby at_652) ?_
  show Steps p.tables e below (T0.setTop (mkF m 653 Lc [(.int (0 : Int32)), (.int p3)])) _
  refine st1 _ ?_
  show Steps p.tables e below (T1.setTop (mkF m 656 Lc [(.int (own_fc p3 (0 : Int32)))])) _
  refine XS.iconst X1.here hx rfl (hb hby at_656) ?_
  show Steps p.tables e below (T1.setTop (mkF m 657 Lc [(.int (2 : Int32)), (.int (own_fc p3 (0 : Int32)))])) _
  refine XS.icmpYes X1.here hx rfl (pc0 := 657) (pc' := 692) rfl (hb hby at_657) rfl (teq k0).1 (by decide) (by decide) ?_
  show Steps p.tables e below (T1.setTop (mkF m 692 Lc [])) _
  refine XS.iconst X1.here hx rfl (hb hby at_692) ?_
  show Steps p.tables e below (T1.setTop (mkF m 693 Lc [(.int (1 : Int32))])) _
  refine XS.goto X1.here hx rfl (pc0 := 693) (pc' := 697) rfl (hb hby at_693) (by decide) (by decide) ?_
  show Steps p.tables e below (T1.setTop (mkF m 697 Lc [(.int (1 : Int32))])) _
  exact kt
set_option maxRecDepth 65536 in
set_option maxHeartbeats 40000000 in
theorem own_fxt {p : Program} {l : Launch} {e : Env} {s : State} {m : MethodId} {args : Array Value} {below : List Frame} {meth : Method} {c : Code} {T0 : State} {locs : List Loc} {Z : State} {a0 : Array Value} {h0 : Heap} (Lc : Array Slot) (p3 : Int32) (f : Int32) (X0 : Stand p l e room_1 s m args below meth c T0 locs 2 136) (hx : p.tables.exec = Jvm.exec) (hZ : Z.Warmed39 s.vm) (hw : ∀ d ∈ tables_1, d.before a0 Z = true) (hby : c.code = code) (hml : c.maxLocals = 31) (hown : s.vm.findClass "com/example/vestwright/vestwright/model/GroupedDecimalUngroupPinLaw" = some m.cls) (e0 : T0.heap = h0) (hLs : Lc.size = 31) (hl4 : Lc[4]? = some (.val (.int p3))) (hl11 : Lc[11]? = some (.val (.int f))) (n0 : Nat) (Z0 : n0 ≤ h0.size) (N0 : Fr n0 locs) (hh0 : (0 : Int32) < f) (k0 : ¬ (own_fc p3 (0 : Int32)) = (2 : Int32)) (hh1 : (1 : Int32) < f) (k1 : (own_fc p3 (1 : Int32)) = (2 : Int32)) :
    ∃ (T' : State) (locs' : List Loc), Stand p l e room_1 s m args below meth c T' locs' 2 136 ∧ T'.heap = h0 ∧ Fr n0 locs' ∧ ∀ target, Steps p.tables e below (T'.setTop (mkF m 697 Lc [(.int (1 : Int32))])) target → Steps p.tables e below (T0.setTop (mkF m 645 Lc [])) target := by
  obtain ⟨_, _, ⟨T1, L1, k1, n1⟩, -, X1, ⟨Lc1, hQ1, l1, y1, z1⟩, st1⟩ := Jvm.LawKit.callS X0 hx (y := (⟨"com/example/vestwright/vestwright/model/GroupedDecimalUngroupPinLaw", "fracCode", "(II)I"⟩ : MethodName)) hown (mvT hZ (hw _ (List.mem_of_getElem? (i := 16) rfl))) (mvT hZ (hw _ (List.mem_of_getElem? (i := 17) rfl))) (mvT hZ (hw _ (List.mem_of_getElem? (i := 3) rfl))) (mvT hZ (hw _ (List.mem_of_getElem? (i := 18) rfl))) (by decide) (backOf (W := 0) (rm2 l Z a0 hw [] p3 (0 : Int32)  h0 n0 Z0 ) hZ (hw _ (List.mem_of_getElem? (i := 18) rfl)) (hw _ (List.mem_of_getElem? (i := 3) rfl)) (by decide) (by decide)) (g := (mkF m 653 Lc [(.int (0 : Int32)), (.int p3)])) rfl (by rw [hml]; exact hLs) (argsL := [(.int p3), (.int (0 : Int32))]) (rest := []) (lenOf pd_1 rfl) rfl (by show 2 * 0 + _ ≤ _; exact Nat.le_of_eq rfl) (hb hby at_653) (fun _ _ => ⟨rfl, e0, (by decide : 2 + 0 ≤ _), (by decide : 136 + 0 ≤ _)⟩)
  dsimp only [Pt.U, Pt.locs, Pt.cells, Pt.slots] at X1 l1 y1 z1 st1 hQ1
  subst l1 y1 z1
  obtain ⟨rfl, Nq1, e1⟩ := hQ1
  have N1 := Fr.app N0 Nq1
  obtain ⟨Lg2, Xg2, Ng2⟩ := own_gen X1 N1
  obtain ⟨_, _, ⟨T3, L3, k3, n3⟩, -, X3, ⟨Lc3, hQ3, l3, y3, z3⟩, st3⟩ := Jvm.LawKit.callS Xg2 hx (y := (⟨"com/example/vestwright/vestwright/model/GroupedDecimalUngroupPinLaw", "fracCode", "(II)I"⟩ : MethodName)) hown (mvT hZ (hw _ (List.mem_of_getElem? (i := 16) rfl))) (mvT hZ (hw _ (List.mem_of_getElem? (i := 17) rfl))) (mvT hZ (hw _ (List.mem_of_getElem? (i := 3) rfl))) (mvT hZ (hw _ (List.mem_of_getElem? (i := 18) rfl))) (by decide) (backOf (W := 0) (rm2 l Z a0 hw [] p3 (1 : Int32)  h0 n0 Z0 ) hZ (hw _ (List.mem_of_getElem? (i := 18) rfl)) (hw _ (List.mem_of_getElem? (i := 3) rfl)) (by decide) (by decide)) (g := (mkF m 669 Lc [(.int (1 : Int32)), (.int p3)])) rfl (by rw [hml]; exact hLs) (argsL := [(.int p3), (.int (1 : Int32))]) (rest := []) (lenOf pd_1 rfl) rfl (by show 2 * 0 + _ ≤ _; exact Nat.le_of_eq rfl) (hb hby at_669) (fun _ _ => ⟨rfl, e1, (by decide : 2 + 0 ≤ _), (by decide : 136 + 0 ≤ _)⟩)
  dsimp only [Pt.U, Pt.locs, Pt.cells, Pt.slots] at X3 l3 y3 z3 st3 hQ3
  subst l3 y3 z3
  obtain ⟨rfl, Nq3, e3⟩ := hQ3
  have N3 := Fr.app Ng2 Nq3
  refine ⟨_, _, X3, e3, N3, fun target kt => ?_⟩
  show Steps p.tables e below (T0.setTop (mkF m 645 Lc [])) _
  refine XS.iload X0.here hx rfl (hb hby at_645) hl11 ?_
  show Steps p.tables e below (T0.setTop (mkF m 647 Lc [(.int f)])) _
  refine XS.ifNo X0.here hx rfl (hb hby at_647) rfl ((if0 _ _).trans (tlt hh0).2.2.2) ?_
  show Steps p.tables e below (T0.setTop (mkF m 650 Lc [])) _
  refine XS.iload X0.here hx rfl (hb hby at_650) hl4 ?_
  show Steps p.tables e below (T0.setTop (mkF m 652 Lc [(.int p3)])) _
  refine XS.iconst X0.here hx rfl (hb hby at_652) ?_
  show Steps p.tables e below (T0.setTop (mkF m 653 Lc [(.int (0 : Int32)), (.int p3)])) _
  refine st1 _ ?_
  show Steps p.tables e below (T1.setTop (mkF m 656 Lc [(.int (own_fc p3 (0 : Int32)))])) _
  refine XS.iconst X1.here hx rfl (hb hby at_656) ?_
  show Steps p.tables e below (T1.setTop (mkF m 657 Lc [(.int (2 : Int32)), (.int (own_fc p3 (0 : Int32)))])) _
  refine XS.icmpNo X1.here hx rfl (hb hby at_657) rfl (feq k0).1 ?_
  show Steps p.tables e below (T1.setTop (mkF m 660 Lc [])) _
  refine XS.iload X1.here hx rfl (hb hby at_660) hl11 ?_
  show Steps p.tables e below (T1.setTop (mkF m 662 Lc [(.int f)])) _
  refine XS.iconst X1.here hx rfl (hb hby at_662) ?_
  show Steps p.tables e below (T1.setTop (mkF m 663 Lc [(.int (1 : Int32)), (.int f)])) _
  refine XS.icmpNo X1.here hx rfl (hb hby at_663) rfl (tlt hh1).2.2.2 ?_
  show Steps p.tables e below (T1.setTop (mkF m 666 Lc [])) _
  refine XS.iload X1.here hx rfl (hb hby at_666) hl4 ?_
  show Steps p.tables e below (T1.setTop (mkF m 668 Lc [(.int p3)])) _
  refine XS.iconst X1.here hx rfl (hb hby at_668) ?_
  show Steps p.tables e below (T1.setTop (mkF m 669 Lc [(.int (1 : Int32)), (.int p3)])) _
  refine st3 _ ?_
  show Steps p.tables e below (T3.setTop (mkF m 672 Lc [(.int (own_fc p3 (1 : Int32)))])) _
  refine XS.iconst X3.here hx rfl (hb hby at_672) ?_
  show Steps p.tables e below (T3.setTop (mkF m 673 Lc [(.int (2 : Int32)), (.int (own_fc p3 (1 : Int32)))])) _
  refine XS.icmpYes X3.here hx rfl (pc0 := 673) (pc' := 692) rfl (hb hby at_673) rfl (teq k1).1 (by decide) (by decide) ?_
  show Steps p.tables e below (T3.setTop (mkF m 692 Lc [])) _
  refine XS.iconst X3.here hx rfl (hb hby at_692) ?_
  show Steps p.tables e below (T3.setTop (mkF m 693 Lc [(.int (1 : Int32))])) _
  refine XS.goto X3.here hx rfl (pc0 := 693) (pc' := 697) rfl (hb hby at_693) (by decide) (by decide) ?_
  show Steps p.tables e below (T3.setTop (mkF m 697 Lc [(.int (1 : Int32))])) _
  exact kt
set_option maxRecDepth 65536 in
set_option maxHeartbeats 40000000 in
theorem own_fxxt {p : Program} {l : Launch} {e : Env} {s : State} {m : MethodId} {args : Array Value} {below : List Frame} {meth : Method} {c : Code} {T0 : State} {locs : List Loc} {Z : State} {a0 : Array Value} {h0 : Heap} (Lc : Array Slot) (p3 : Int32) (f : Int32) (X0 : Stand p l e room_1 s m args below meth c T0 locs 2 136) (hx : p.tables.exec = Jvm.exec) (hZ : Z.Warmed39 s.vm) (hw : ∀ d ∈ tables_1, d.before a0 Z = true) (hby : c.code = code) (hml : c.maxLocals = 31) (hown : s.vm.findClass "com/example/vestwright/vestwright/model/GroupedDecimalUngroupPinLaw" = some m.cls) (e0 : T0.heap = h0) (hLs : Lc.size = 31) (hl4 : Lc[4]? = some (.val (.int p3))) (hl11 : Lc[11]? = some (.val (.int f))) (n0 : Nat) (Z0 : n0 ≤ h0.size) (N0 : Fr n0 locs) (hh0 : (0 : Int32) < f) (k0 : ¬ (own_fc p3 (0 : Int32)) = (2 : Int32)) (hh1 : (1 : Int32) < f) (k1 : ¬ (own_fc p3 (1 : Int32)) = (2 : Int32)) (hh2 : (2 : Int32) < f) (k2 : (own_fc p3 (2 : Int32)) = (2 : Int32)) :
    ∃ (T' : State) (locs' : List Loc), Stand p l e room_1 s m args below meth c T' locs' 2 136 ∧ T'.heap = h0 ∧ Fr n0 locs' ∧ ∀ target, Steps p.tables e below (T'.setTop (mkF m 697 Lc [(.int (1 : Int32))])) target → Steps p.tables e below (T0.setTop (mkF m 645 Lc [])) target := by
  obtain ⟨_, _, ⟨T1, L1, k1, n1⟩, -, X1, ⟨Lc1, hQ1, l1, y1, z1⟩, st1⟩ := Jvm.LawKit.callS X0 hx (y := (⟨"com/example/vestwright/vestwright/model/GroupedDecimalUngroupPinLaw", "fracCode", "(II)I"⟩ : MethodName)) hown (mvT hZ (hw _ (List.mem_of_getElem? (i := 16) rfl))) (mvT hZ (hw _ (List.mem_of_getElem? (i := 17) rfl))) (mvT hZ (hw _ (List.mem_of_getElem? (i := 3) rfl))) (mvT hZ (hw _ (List.mem_of_getElem? (i := 18) rfl))) (by decide) (backOf (W := 0) (rm2 l Z a0 hw [] p3 (0 : Int32)  h0 n0 Z0 ) hZ (hw _ (List.mem_of_getElem? (i := 18) rfl)) (hw _ (List.mem_of_getElem? (i := 3) rfl)) (by decide) (by decide)) (g := (mkF m 653 Lc [(.int (0 : Int32)), (.int p3)])) rfl (by rw [hml]; exact hLs) (argsL := [(.int p3), (.int (0 : Int32))]) (rest := []) (lenOf pd_1 rfl) rfl (by show 2 * 0 + _ ≤ _; exact Nat.le_of_eq rfl) (hb hby at_653) (fun _ _ => ⟨rfl, e0, (by decide : 2 + 0 ≤ _), (by decide : 136 + 0 ≤ _)⟩)
  dsimp only [Pt.U, Pt.locs, Pt.cells, Pt.slots] at X1 l1 y1 z1 st1 hQ1
  subst l1 y1 z1
  obtain ⟨rfl, Nq1, e1⟩ := hQ1
  have N1 := Fr.app N0 Nq1
  obtain ⟨Lg2, Xg2, Ng2⟩ := own_gen X1 N1
  obtain ⟨_, _, ⟨T3, L3, k3, n3⟩, -, X3, ⟨Lc3, hQ3, l3, y3, z3⟩, st3⟩ := Jvm.LawKit.callS Xg2 hx (y := (⟨"com/example/vestwright/vestwright/model/GroupedDecimalUngroupPinLaw", "fracCode", "(II)I"⟩ : MethodName)) hown (mvT hZ (hw _ (List.mem_of_getElem? (i := 16) rfl))) (mvT hZ (hw _ (List.mem_of_getElem? (i := 17) rfl))) (mvT hZ (hw _ (List.mem_of_getElem? (i := 3) rfl))) (mvT hZ (hw _ (List.mem_of_getElem? (i := 18) rfl))) (by decide) (backOf (W := 0) (rm2 l Z a0 hw [] p3 (1 : Int32)  h0 n0 Z0 ) hZ (hw _ (List.mem_of_getElem? (i := 18) rfl)) (hw _ (List.mem_of_getElem? (i := 3) rfl)) (by decide) (by decide)) (g := (mkF m 669 Lc [(.int (1 : Int32)), (.int p3)])) rfl (by rw [hml]; exact hLs) (argsL := [(.int p3), (.int (1 : Int32))]) (rest := []) (lenOf pd_1 rfl) rfl (by show 2 * 0 + _ ≤ _; exact Nat.le_of_eq rfl) (hb hby at_669) (fun _ _ => ⟨rfl, e1, (by decide : 2 + 0 ≤ _), (by decide : 136 + 0 ≤ _)⟩)
  dsimp only [Pt.U, Pt.locs, Pt.cells, Pt.slots] at X3 l3 y3 z3 st3 hQ3
  subst l3 y3 z3
  obtain ⟨rfl, Nq3, e3⟩ := hQ3
  have N3 := Fr.app Ng2 Nq3
  obtain ⟨Lg4, Xg4, Ng4⟩ := own_gen X3 N3
  obtain ⟨_, _, ⟨T5, L5, k5, n5⟩, -, X5, ⟨Lc5, hQ5, l5, y5, z5⟩, st5⟩ := Jvm.LawKit.callS Xg4 hx (y := (⟨"com/example/vestwright/vestwright/model/GroupedDecimalUngroupPinLaw", "fracCode", "(II)I"⟩ : MethodName)) hown (mvT hZ (hw _ (List.mem_of_getElem? (i := 16) rfl))) (mvT hZ (hw _ (List.mem_of_getElem? (i := 17) rfl))) (mvT hZ (hw _ (List.mem_of_getElem? (i := 3) rfl))) (mvT hZ (hw _ (List.mem_of_getElem? (i := 18) rfl))) (by decide) (backOf (W := 0) (rm2 l Z a0 hw [] p3 (2 : Int32)  h0 n0 Z0 ) hZ (hw _ (List.mem_of_getElem? (i := 18) rfl)) (hw _ (List.mem_of_getElem? (i := 3) rfl)) (by decide) (by decide)) (g := (mkF m 685 Lc [(.int (2 : Int32)), (.int p3)])) rfl (by rw [hml]; exact hLs) (argsL := [(.int p3), (.int (2 : Int32))]) (rest := []) (lenOf pd_1 rfl) rfl (by show 2 * 0 + _ ≤ _; exact Nat.le_of_eq rfl) (hb hby at_685) (fun _ _ => ⟨rfl, e3, (by decide : 2 + 0 ≤ _), (by decide : 136 + 0 ≤ _)⟩)
  dsimp only [Pt.U, Pt.locs, Pt.cells, Pt.slots] at X5 l5 y5 z5 st5 hQ5
  subst l5 y5 z5
  obtain ⟨rfl, Nq5, e5⟩ := hQ5
  have N5 := Fr.app Ng4 Nq5
  refine ⟨_, _, X5, e5, N5, fun target kt => ?_⟩
  show Steps p.tables e below (T0.setTop (mkF m 645 Lc [])) _
  refine XS.iload X0.here hx rfl (hb hby at_645) hl11 ?_
  show Steps p.tables e below (T0.setTop (mkF m 647 Lc [(.int f)])) _
  refine XS.ifNo X0.here hx rfl (hb hby at_647) rfl ((if0 _ _).trans (tlt hh0).2.2.2) ?_
  show Steps p.tables e below (T0.setTop (mkF m 650 Lc [])) _
  refine XS.iload X0.here hx rfl (hb hby at_650) hl4 ?_
  show Steps p.tables e below (T0.setTop (mkF m 652 Lc [(.int p3)])) _
  refine XS.iconst X0.here hx rfl (hb hby at_652) ?_
  show Steps p.tables e below (T0.setTop (mkF m 653 Lc [(.int (0 : Int32)), (.int p3)])) _
  refine st1 _ ?_
  show Steps p.tables e below (T1.setTop (mkF m 656 Lc [(.int (own_fc p3 (0 : Int32)))])) _
  refine XS.iconst X1.here hx rfl (hb hby at_656) ?_
  show Steps p.tables e below (T1.setTop (mkF m 657 Lc [(.int (2 : Int32)), (.int (own_fc p3 (0 : Int32)))])) _
  refine XS.icmpNo X1.here hx rfl (hb hby at_657) rfl (feq k0).1 ?_
  show Steps p.tables e below (T1.setTop (mkF m 660 Lc [])) _
  refine XS.iload X1.here hx rfl (hb hby at_660) hl11 ?_
  show Steps p.tables e below (T1.setTop (mkF m 662 Lc [(.int f)])) _
  refine XS.iconst X1.here hx rfl (hb hby at_662) ?_
  show Steps p.tables e below (T1.setTop (mkF m 663 Lc [(.int (1 : Int32)), (.int f)])) _
  refine XS.icmpNo X1.here hx rfl (hb hby at_663) rfl (tlt hh1).2.2.2 ?_
  show Steps p.tables e below (T1.setTop (mkF m 666 Lc [])) _
  refine XS.iload X1.here hx rfl (hb hby at_666) hl4 ?_
  show Steps p.tables e below (T1.setTop (mkF m 668 Lc [(.int p3)])) _
  refine XS.iconst X1.here hx rfl (hb hby at_668) ?_
  show Steps p.tables e below (T1.setTop (mkF m 669 Lc [(.int (1 : Int32)), (.int p3)])) _
  refine st3 _ ?_
  show Steps p.tables e below (T3.setTop (mkF m 672 Lc [(.int (own_fc p3 (1 : Int32)))])) _
  refine XS.iconst X3.here hx rfl (hb hby at_672) ?_
  show Steps p.tables e below (T3.setTop (mkF m 673 Lc [(.int (2 : Int32)), (.int (own_fc p3 (1 : Int32)))])) _
  refine XS.icmpNo X3.here hx rfl (hb hby at_673) rfl (feq k1).1 ?_
  show Steps p.tables e below (T3.setTop (mkF m 676 Lc [])) _
  refine XS.iload X3.here hx rfl (hb hby at_676) hl11 ?_
  show Steps p.tables e below (T3.setTop (mkF m 678 Lc [(.int f)])) _
  refine XS.iconst X3.here hx rfl (hb hby at_678) ?_
  show Steps p.tables e below (T3.setTop (mkF m 679 Lc [(.int (2 : Int32)), (.int f)])) _
  refine XS.icmpNo X3.here hx rfl (hb hby at_679) rfl (tlt hh2).2.2.2 ?_
  show Steps p.tables e below (T3.setTop (mkF m 682 Lc [])) _
  refine XS.iload X3.here hx rfl (hb hby at_682) hl4 ?_
  show Steps p.tables e below (T3.setTop (mkF m 684 Lc [(.int p3)])) _
  refine XS.iconst X3.here hx rfl (hb hby at_684) ?_
  show Steps p.tables e below (T3.setTop (mkF m 685 Lc [(.int (2 : Int32)), (.int p3)])) _
  refine st5 _ ?_
  show Steps p.tables e below (T5.setTop (mkF m 688 Lc [(.int (own_fc p3 (2 : Int32)))])) _
  refine XS.iconst X5.here hx rfl (hb hby at_688) ?_
  show Steps p.tables e below (T5.setTop (mkF m 689 Lc [(.int (2 : Int32)), (.int (own_fc p3 (2 : Int32)))])) _
  refine XS.icmpNo X5.here hx rfl (hb hby at_689) rfl (teq k2).2 ?_
  show Steps p.tables e below (T5.setTop (mkF m 692 Lc [])) _
  refine XS.iconst X5.here hx rfl (hb hby at_692) ?_
  show Steps p.tables e below (T5.setTop (mkF m 693 Lc [(.int (1 : Int32))])) _
  refine XS.goto X5.here hx rfl (pc0 := 693) (pc' := 697) rfl (hb hby at_693) (by decide) (by decide) ?_
  show Steps p.tables e below (T5.setTop (mkF m 697 Lc [(.int (1 : Int32))])) _
  exact kt
set_option maxRecDepth 65536 in
set_option maxHeartbeats 40000000 in
theorem own_fxxx {p : Program} {l : Launch} {e : Env} {s : State} {m : MethodId} {args : Array Value} {below : List Frame} {meth : Method} {c : Code} {T0 : State} {locs : List Loc} {Z : State} {a0 : Array Value} {h0 : Heap} (Lc : Array Slot) (p3 : Int32) (f : Int32) (X0 : Stand p l e room_1 s m args below meth c T0 locs 2 136) (hx : p.tables.exec = Jvm.exec) (hZ : Z.Warmed39 s.vm) (hw : ∀ d ∈ tables_1, d.before a0 Z = true) (hby : c.code = code) (hml : c.maxLocals = 31) (hown : s.vm.findClass "com/example/vestwright/vestwright/model/GroupedDecimalUngroupPinLaw" = some m.cls) (e0 : T0.heap = h0) (hLs : Lc.size = 31) (hl4 : Lc[4]? = some (.val (.int p3))) (hl11 : Lc[11]? = some (.val (.int f))) (n0 : Nat) (Z0 : n0 ≤ h0.size) (N0 : Fr n0 locs) (hh0 : (0 : Int32) < f) (k0 : ¬ (own_fc p3 (0 : Int32)) = (2 : Int32)) (hh1 : (1 : Int32) < f) (k1 : ¬ (own_fc p3 (1 : Int32)) = (2 : Int32)) (hh2 : (2 : Int32) < f) (k2 : ¬ (own_fc p3 (2 : Int32)) = (2 : Int32)) :
    ∃ (T' : State) (locs' : List Loc), Stand p l e room_1 s m args below meth c T' locs' 2 136 ∧ T'.heap = h0 ∧ Fr n0 locs' ∧ ∀ target, Steps p.tables e below (T'.setTop (mkF m 697 Lc [(.int (0 : Int32))])) target → Steps p.tables e below (T0.setTop (mkF m 645 Lc [])) target := by
  obtain ⟨_, _, ⟨T1, L1, k1, n1⟩, -, X1, ⟨Lc1, hQ1, l1, y1, z1⟩, st1⟩ := Jvm.LawKit.callS X0 hx (y := (⟨"com/example/vestwright/vestwright/model/GroupedDecimalUngroupPinLaw", "fracCode", "(II)I"⟩ : MethodName)) hown (mvT hZ (hw _ (List.mem_of_getElem? (i := 16) rfl))) (mvT hZ (hw _ (List.mem_of_getElem? (i := 17) rfl))) (mvT hZ (hw _ (List.mem_of_getElem? (i := 3) rfl))) (mvT hZ (hw _ (List.mem_of_getElem? (i := 18) rfl))) (by decide) (backOf (W := 0) (rm2 l Z a0 hw [] p3 (0 : Int32)  h0 n0 Z0 ) hZ (hw _ (List.mem_of_getElem? (i := 18) rfl)) (hw _ (List.mem_of_getElem? (i := 3) rfl)) (by decide) (by decide)) (g := (mkF m 653 Lc [(.int (0 : Int32)), (.int p3)])) rfl (by rw [hml]; exact hLs) (argsL := [(.int p3), (.int (0 : Int32))]) (rest := []) (lenOf pd_1 rfl) rfl (by show 2 * 0 + _ ≤ _; exact Nat.le_of_eq rfl) (hb hby at_653) (fun _ _ => ⟨rfl, e0, (by decide : 2 + 0 ≤ _), (by decide : 136 + 0 ≤ _)⟩)
  dsimp only [Pt.U, Pt.locs, Pt.cells, Pt.slots] at X1 l1 y1 z1 st1 hQ1
  subst l1 y1 z1
  obtain ⟨rfl, Nq1, e1⟩ := hQ1
  have N1 := Fr.app N0 Nq1
  obtain ⟨Lg2, Xg2, Ng2⟩ := own_gen X1 N1
  obtain ⟨_, _, ⟨T3, L3, k3, n3⟩, -, X3, ⟨Lc3, hQ3, l3, y3, z3⟩, st3⟩ := Jvm.LawKit.callS Xg2 hx (y := (⟨"com/example/vestwright/vestwright/model/GroupedDecimalUngroupPinLaw", "fracCode", "(II)I"⟩ : MethodName)) hown (mvT hZ (hw _ (List.mem_of_getElem? (i := 16) rfl))) (mvT hZ (hw _ (List.mem_of_getElem? (i := 17) rfl))) (mvT hZ (hw _ (List.mem_of_getElem? (i := 3) rfl))) (mvT hZ (hw _ (List.mem_of_getElem? (i := 18) rfl))) (by decide) (backOf (W := 0) (rm2 l Z a0 hw [] p3 (1 : Int32)  h0 n0 Z0 ) hZ (hw _ (List.mem_of_getElem? (i := 18) rfl)) (hw _ (List.mem_of_getElem? (i := 3) rfl)) (by decide) (by decide)) (g := (mkF m 669 Lc [(.int (1 : Int32)), (.int p3)])) rfl (by rw [hml]; exact hLs) (argsL := [(.int p3), (.int (1 : Int32))]) (rest := []) (lenOf pd_1 rfl) rfl (by show 2 * 0 + _ ≤ _; exact Nat.le_of_eq rfl) (hb hby at_669) (fun _ _ => ⟨rfl, e1, (by decide : 2 + 0 ≤ _), (by decide : 136 + 0 ≤ _)⟩)
  dsimp only [Pt.U, Pt.locs, Pt.cells, Pt.slots] at X3 l3 y3 z3 st3 hQ3
  subst l3 y3 z3
  obtain ⟨rfl, Nq3, e3⟩ := hQ3
  have N3 := Fr.app Ng2 Nq3
  obtain ⟨Lg4, Xg4, Ng4⟩ := own_gen X3 N3
  obtain ⟨_, _, ⟨T5, L5, k5, n5⟩, -, X5, ⟨Lc5, hQ5, l5, y5, z5⟩, st5⟩ := Jvm.LawKit.callS Xg4 hx (y := (⟨"com/example/vestwright/vestwright/model/GroupedDecimalUngroupPinLaw", "fracCode", "(II)I"⟩ : MethodName)) hown (mvT hZ (hw _ (List.mem_of_getElem? (i := 16) rfl))) (mvT hZ (hw _ (List.mem_of_getElem? (i := 17) rfl))) (mvT hZ (hw _ (List.mem_of_getElem? (i := 3) rfl))) (mvT hZ (hw _ (List.mem_of_getElem? (i := 18) rfl))) (by decide) (backOf (W := 0) (rm2 l Z a0 hw [] p3 (2 : Int32)  h0 n0 Z0 ) hZ (hw _ (List.mem_of_getElem? (i := 18) rfl)) (hw _ (List.mem_of_getElem? (i := 3) rfl)) (by decide) (by decide)) (g := (mkF m 685 Lc [(.int (2 : Int32)), (.int p3)])) rfl (by rw [hml]; exact hLs) (argsL := [(.int p3), (.int (2 : Int32))]) (rest := []) (lenOf pd_1 rfl) rfl (by show 2 * 0 + _ ≤ _; exact Nat.le_of_eq rfl) (hb hby at_685) (fun _ _ => ⟨rfl, e3, (by decide : 2 + 0 ≤ _), (by decide : 136 + 0 ≤ _)⟩)
  dsimp only [Pt.U, Pt.locs, Pt.cells, Pt.slots] at X5 l5 y5 z5 st5 hQ5
  subst l5 y5 z5
  obtain ⟨rfl, Nq5, e5⟩ := hQ5
  have N5 := Fr.app Ng4 Nq5
  refine ⟨_, _, X5, e5, N5, fun target kt => ?_⟩
  show Steps p.tables e below (T0.setTop (mkF m 645 Lc [])) _
  refine XS.iload X0.here hx rfl (hb hby at_645) hl11 ?_
  show Steps p.tables e below (T0.setTop (mkF m 647 Lc [(.int f)])) _
  refine XS.ifNo X0.here hx rfl (hb hby at_647) rfl ((if0 _ _).trans (tlt hh0).2.2.2) ?_
  show Steps p.tables e below (T0.setTop (mkF m 650 Lc [])) _
  refine XS.iload X0.here hx rfl (hb hby at_650) hl4 ?_
  show Steps p.tables e below (T0.setTop (mkF m 652 Lc [(.int p3)])) _
  refine XS.iconst X0.here hx rfl (hb hby at_652) ?_
  show Steps p.tables e below (T0.setTop (mkF m 653 Lc [(.int (0 : Int32)), (.int p3)])) _
  refine st1 _ ?_
  show Steps p.tables e below (T1.setTop (mkF m 656 Lc [(.int (own_fc p3 (0 : Int32)))])) _
  refine XS.iconst X1.here hx rfl (hb hby at_656) ?_
  show Steps p.tables e below (T1.setTop (mkF m 657 Lc [(.int (2 : Int32)), (.int (own_fc p3 (0 : Int32)))])) _
  refine XS.icmpNo X1.here hx rfl (hb hby at_657) rfl (feq k0).1 ?_
  show Steps p.tables e below (T1.setTop (mkF m 660 Lc [])) _
  refine XS.iload X1.here hx rfl (hb hby at_660) hl11 ?_
  show Steps p.tables e below (T1.setTop (mkF m 662 Lc [(.int f)])) _
  refine XS.iconst X1.here hx rfl (hb hby at_662) ?_
  show Steps p.tables e below (T1.setTop (mkF m 663 Lc [(.int (1 : Int32)), (.int f)])) _
  refine XS.icmpNo X1.here hx rfl (hb hby at_663) rfl (tlt hh1).2.2.2 ?_
  show Steps p.tables e below (T1.setTop (mkF m 666 Lc [])) _
  refine XS.iload X1.here hx rfl (hb hby at_666) hl4 ?_
  show Steps p.tables e below (T1.setTop (mkF m 668 Lc [(.int p3)])) _
  refine XS.iconst X1.here hx rfl (hb hby at_668) ?_
  show Steps p.tables e below (T1.setTop (mkF m 669 Lc [(.int (1 : Int32)), (.int p3)])) _
  refine st3 _ ?_
  show Steps p.tables e below (T3.setTop (mkF m 672 Lc [(.int (own_fc p3 (1 : Int32)))])) _
  refine XS.iconst X3.here hx rfl (hb hby at_672) ?_
  show Steps p.tables e below (T3.setTop (mkF m 673 Lc [(.int (2 : Int32)), (.int (own_fc p3 (1 : Int32)))])) _
  refine XS.icmpNo X3.here hx rfl (hb hby at_673) rfl (feq k1).1 ?_
  show Steps p.tables e below (T3.setTop (mkF m 676 Lc [])) _
  refine XS.iload X3.here hx rfl (hb hby at_676) hl11 ?_
  show Steps p.tables e below (T3.setTop (mkF m 678 Lc [(.int f)])) _
  refine XS.iconst X3.here hx rfl (hb hby at_678) ?_
  show Steps p.tables e below (T3.setTop (mkF m 679 Lc [(.int (2 : Int32)), (.int f)])) _
  refine XS.icmpNo X3.here hx rfl (hb hby at_679) rfl (tlt hh2).2.2.2 ?_
  show Steps p.tables e below (T3.setTop (mkF m 682 Lc [])) _
  refine XS.iload X3.here hx rfl (hb hby at_682) hl4 ?_
  show Steps p.tables e below (T3.setTop (mkF m 684 Lc [(.int p3)])) _
  refine XS.iconst X3.here hx rfl (hb hby at_684) ?_
  show Steps p.tables e below (T3.setTop (mkF m 685 Lc [(.int (2 : Int32)), (.int p3)])) _
  refine st5 _ ?_
  show Steps p.tables e below (T5.setTop (mkF m 688 Lc [(.int (own_fc p3 (2 : Int32)))])) _
  refine XS.iconst X5.here hx rfl (hb hby at_688) ?_
  show Steps p.tables e below (T5.setTop (mkF m 689 Lc [(.int (2 : Int32)), (.int (own_fc p3 (2 : Int32)))])) _
  refine XS.icmpYes X5.here hx rfl (pc0 := 689) (pc' := 696) rfl (hb hby at_689) rfl (feq k2).2 (by decide) (by decide) ?_
  show Steps p.tables e below (T5.setTop (mkF m 696 Lc [])) _
  refine XS.iconst X5.here hx rfl (hb hby at_696) ?_
  show Steps p.tables e below (T5.setTop (mkF m 697 Lc [(.int (0 : Int32))])) _
  exact kt
set_option maxRecDepth 65536 in
set_option maxHeartbeats 40000000 in
theorem own_fxxn {p : Program} {l : Launch} {e : Env} {s : State} {m : MethodId} {args : Array Value} {below : List Frame} {meth : Method} {c : Code} {T0 : State} {locs : List Loc} {Z : State} {a0 : Array Value} {h0 : Heap} (Lc : Array Slot) (p3 : Int32) (f : Int32) (X0 : Stand p l e room_1 s m args below meth c T0 locs 2 136) (hx : p.tables.exec = Jvm.exec) (hZ : Z.Warmed39 s.vm) (hw : ∀ d ∈ tables_1, d.before a0 Z = true) (hby : c.code = code) (hml : c.maxLocals = 31) (hown : s.vm.findClass "com/example/vestwright/vestwright/model/GroupedDecimalUngroupPinLaw" = some m.cls) (e0 : T0.heap = h0) (hLs : Lc.size = 31) (hl4 : Lc[4]? = some (.val (.int p3))) (hl11 : Lc[11]? = some (.val (.int f))) (n0 : Nat) (Z0 : n0 ≤ h0.size) (N0 : Fr n0 locs) (hh0 : (0 : Int32) < f) (k0 : ¬ (own_fc p3 (0 : Int32)) = (2 : Int32)) (hh1 : (1 : Int32) < f) (k1 : ¬ (own_fc p3 (1 : Int32)) = (2 : Int32)) (hh2 : ¬ (2 : Int32) < f) :
    ∃ (T' : State) (locs' : List Loc), Stand p l e room_1 s m args below meth c T' locs' 2 136 ∧ T'.heap = h0 ∧ Fr n0 locs' ∧ ∀ target, Steps p.tables e below (T'.setTop (mkF m 697 Lc [(.int (0 : Int32))])) target → Steps p.tables e below (T0.setTop (mkF m 645 Lc [])) target := by
  obtain ⟨_, _, ⟨T1, L1, k1, n1⟩, -, X1, ⟨Lc1, hQ1, l1, y1, z1⟩, st1⟩ := Jvm.LawKit.callS X0 hx (y := (⟨"com/example/vestwright/vestwright/model/GroupedDecimalUngroupPinLaw", "fracCode", "(II)I"⟩ : MethodName)) hown (mvT hZ (hw _ (List.mem_of_getElem? (i := 16) rfl))) (mvT hZ (hw _ (List.mem_of_getElem? (i := 17) rfl))) (mvT hZ (hw _ (List.mem_of_getElem? (i := 3) rfl))) (mvT hZ (hw _ (List.mem_of_getElem? (i := 18) rfl))) (by decide) (backOf (W := 0) (rm2 l Z a0 hw [] p3 (0 : Int32)  h0 n0 Z0 ) hZ (hw _ (List.mem_of_getElem? (i := 18) rfl)) (hw _ (List.mem_of_getElem? (i := 3) rfl)) (by decide) (by decide)) (g := (mkF m 653 Lc [(.int (0 : Int32)), (.int p3)])) rfl (by rw [hml]; exact hLs) (argsL := [(.int p3), (.int (0 : Int32))]) (rest := []) (lenOf pd_1 rfl) rfl (by show 2 * 0 + _ ≤ _; exact Nat.le_of_eq rfl) (hb hby at_653) (fun _ _ => ⟨rfl, e0, (by decide : 2 + 0 ≤ _), (by decide : 136 + 0 ≤ _)⟩)
  dsimp only [Pt.U, Pt.locs, Pt.cells, Pt.slots] at X1 l1 y1 z1 st1 hQ1
  subst l1 y1 z1
  obtain ⟨rfl, Nq1, e1⟩ := hQ1
  have N1 := Fr.app N0 Nq1
  obtain ⟨Lg2, Xg2, Ng2⟩ := own_gen X1 N1
  obtain ⟨_, _, ⟨T3, L3, k3, n3⟩, -, X3, ⟨Lc3, hQ3, l3, y3, z3⟩, st3⟩ := Jvm.LawKit.callS Xg2 hx (y := (⟨"com/example/vestwright/vestwright/model/GroupedDecimalUngroupPinLaw", "fracCode", "(II)I"⟩ : MethodName)) hown (mvT hZ (hw _ (List.mem_of_getElem? (i := 16) rfl))) (mvT hZ (hw _ (List.mem_of_getElem? (i := 17) rfl))) (mvT hZ (hw _ (List.mem_of_getElem? (i := 3) rfl))) (mvT hZ (hw _ (List.mem_of_getElem? (i := 18) rfl))) (by decide) (backOf (W := 0) (rm2 l Z a0 hw [] p3 (1 : Int32)  h0 n0 Z0 ) hZ (hw _ (List.mem_of_getElem? (i := 18) rfl)) (hw _ (List.mem_of_getElem? (i := 3) rfl)) (by decide) (by decide)) (g := (mkF m 669 Lc [(.int (1 : Int32)), (.int p3)])) rfl (by rw [hml]; exact hLs) (argsL := [(.int p3), (.int (1 : Int32))]) (rest := []) (lenOf pd_1 rfl) rfl (by show 2 * 0 + _ ≤ _; exact Nat.le_of_eq rfl) (hb hby at_669) (fun _ _ => ⟨rfl, e1, (by decide : 2 + 0 ≤ _), (by decide : 136 + 0 ≤ _)⟩)
  dsimp only [Pt.U, Pt.locs, Pt.cells, Pt.slots] at X3 l3 y3 z3 st3 hQ3
  subst l3 y3 z3
  obtain ⟨rfl, Nq3, e3⟩ := hQ3
  have N3 := Fr.app Ng2 Nq3
  refine ⟨_, _, X3, e3, N3, fun target kt => ?_⟩
  show Steps p.tables e below (T0.setTop (mkF m 645 Lc [])) _
  refine XS.iload X0.here hx rfl (hb hby at_645) hl11 ?_
  show Steps p.tables e below (T0.setTop (mkF m 647 Lc [(.int f)])) _
  refine XS.ifNo X0.here hx rfl (hb hby at_647) rfl ((if0 _ _).trans (tlt hh0).2.2.2) ?_
  show Steps p.tables e below (T0.setTop (mkF m 650 Lc [])) _
  refine XS.iload X0.here hx rfl (hb hby at_650) hl4 ?_
  show Steps p.tables e below (T0.setTop (mkF m 652 Lc [(.int p3)])) _
  refine XS.iconst X0.here hx rfl (hb hby at_652) ?_
  show Steps p.tables e below (T0.setTop (mkF m 653 Lc [(.int (0 : Int32)), (.int p3)])) _
  refine st1 _ ?_
  show Steps p.tables e below (T1.setTop (mkF m 656 Lc [(.int (own_fc p3 (0 : Int32)))])) _
  refine XS.iconst X1.here hx rfl (hb hby at_656) ?_
  show Steps p.tables e below (T1.setTop (mkF m 657 Lc [(.int (2 : Int32)), (.int (own_fc p3 (0 : Int32)))])) _
  refine XS.icmpNo X1.here hx rfl (hb hby at_657) rfl (feq k0).1 ?_
  show Steps p.tables e below (T1.setTop (mkF m 660 Lc [])) _
  refine XS.iload X1.here hx rfl (hb hby at_660) hl11 ?_
  show Steps p.tables e below (T1.setTop (mkF m 662 Lc [(.int f)])) _
  refine XS.iconst X1.here hx rfl (hb hby at_662) ?_
  show Steps p.tables e below (T1.setTop (mkF m 663 Lc [(.int (1 : Int32)), (.int f)])) _
  refine XS.icmpNo X1.here hx rfl (hb hby at_663) rfl (tlt hh1).2.2.2 ?_
  show Steps p.tables e below (T1.setTop (mkF m 666 Lc [])) _
  refine XS.iload X1.here hx rfl (hb hby at_666) hl4 ?_
  show Steps p.tables e below (T1.setTop (mkF m 668 Lc [(.int p3)])) _
  refine XS.iconst X1.here hx rfl (hb hby at_668) ?_
  show Steps p.tables e below (T1.setTop (mkF m 669 Lc [(.int (1 : Int32)), (.int p3)])) _
  refine st3 _ ?_
  show Steps p.tables e below (T3.setTop (mkF m 672 Lc [(.int (own_fc p3 (1 : Int32)))])) _
  refine XS.iconst X3.here hx rfl (hb hby at_672) ?_
  show Steps p.tables e below (T3.setTop (mkF m 673 Lc [(.int (2 : Int32)), (.int (own_fc p3 (1 : Int32)))])) _
  refine XS.icmpNo X3.here hx rfl (hb hby at_673) rfl (feq k1).1 ?_
  show Steps p.tables e below (T3.setTop (mkF m 676 Lc [])) _
  refine XS.iload X3.here hx rfl (hb hby at_676) hl11 ?_
  show Steps p.tables e below (T3.setTop (mkF m 678 Lc [(.int f)])) _
  refine XS.iconst X3.here hx rfl (hb hby at_678) ?_
  show Steps p.tables e below (T3.setTop (mkF m 679 Lc [(.int (2 : Int32)), (.int f)])) _
  refine XS.icmpYes X3.here hx rfl (pc0 := 679) (pc' := 696) rfl (hb hby at_679) rfl (flt hh2).2.2.2 (by decide) (by decide) ?_
  show Steps p.tables e below (T3.setTop (mkF m 696 Lc [])) _
  refine XS.iconst X3.here hx rfl (hb hby at_696) ?_
  show Steps p.tables e below (T3.setTop (mkF m 697 Lc [(.int (0 : Int32))])) _
  exact kt
set_option maxRecDepth 65536 in
set_option maxHeartbeats 40000000 in
theorem own_fxnn {p : Program} {l : Launch} {e : Env} {s : State} {m : MethodId} {args : Array Value} {below : List Frame} {meth : Method} {c : Code} {T0 : State} {locs : List Loc} {Z : State} {a0 : Array Value} {h0 : Heap} (Lc : Array Slot) (p3 : Int32) (f : Int32) (X0 : Stand p l e room_1 s m args below meth c T0 locs 2 136) (hx : p.tables.exec = Jvm.exec) (hZ : Z.Warmed39 s.vm) (hw : ∀ d ∈ tables_1, d.before a0 Z = true) (hby : c.code = code) (hml : c.maxLocals = 31) (hown : s.vm.findClass "com/example/vestwright/vestwright/model/GroupedDecimalUngroupPinLaw" = some m.cls) (e0 : T0.heap = h0) (hLs : Lc.size = 31) (hl4 : Lc[4]? = some (.val (.int p3))) (hl11 : Lc[11]? = some (.val (.int f))) (n0 : Nat) (Z0 : n0 ≤ h0.size) (N0 : Fr n0 locs) (hh0 : (0 : Int32) < f) (k0 : ¬ (own_fc p3 (0 : Int32)) = (2 : Int32)) (hh1 : ¬ (1 : Int32) < f) (hh2 : ¬ (2 : Int32) < f) :
    ∃ (T' : State) (locs' : List Loc), Stand p l e room_1 s m args below meth c T' locs' 2 136 ∧ T'.heap = h0 ∧ Fr n0 locs' ∧ ∀ target, Steps p.tables e below (T'.setTop (mkF m 697 Lc [(.int (0 : Int32))])) target → Steps p.tables e below (T0.setTop (mkF m 645 Lc [])) target := by
  obtain ⟨_, _, ⟨T1, L1, k1, n1⟩, -, X1, ⟨Lc1, hQ1, l1, y1, z1⟩, st1⟩ := Jvm.LawKit.callS X0 hx (y := (⟨"com/example/vestwright/vestwright/model/GroupedDecimalUngroupPinLaw", "fracCode", "(II)I"⟩ : MethodName)) hown (mvT hZ (hw _ (List.mem_of_getElem? (i := 16) rfl))) (mvT hZ (hw _ (List.mem_of_getElem? (i := 17) rfl))) (mvT hZ (hw _ (List.mem_of_getElem? (i := 3) rfl))) (mvT hZ (hw _ (List.mem_of_getElem? (i := 18) rfl))) (by decide) (backOf (W := 0) (rm2 l Z a0 hw [] p3 (0 : Int32)  h0 n0 Z0 ) hZ (hw _ (List.mem_of_getElem? (i := 18) rfl)) (hw _ (List.mem_of_getElem? (i := 3) rfl)) (by decide) (by decide)) (g := (mkF m 653 Lc [(.int (0 : Int32)), (.int p3)])) rfl (by rw [hml]; exact hLs) (argsL := [(.int p3), (.int (0 : Int32))]) (rest := []) (lenOf pd_1 rfl) rfl (by show 2 * 0 + _ ≤ _; exact Nat.le_of_eq rfl) (hb hby at_653) (fun _ _ => ⟨rfl, e0, (by decide : 2 + 0 ≤ _), (by decide : 136 + 0 ≤ _)⟩)
  dsimp only [Pt.U, Pt.locs, Pt.cells, Pt.slots] at X1 l1 y1 z1 st1 hQ1
  subst l1 y1 z1
  obtain ⟨rfl, Nq1, e1⟩ := hQ1
  have N1 := Fr.app N0 Nq1
  refine ⟨_, _, X1, e1, N1, fun target kt => ?_⟩
  show Steps p.tables e below (T0.setTop (mkF m 645 Lc [])) _
  refine XS.iload X0.here hx rfl (hb hby at_645) hl11 ?_
  show Steps p.tables e below (T0.setTop (mkF m 647 Lc [(.int f)])) _
  refine XS.ifNo X0.here hx rfl (hb hby at_647) rfl ((if0 _ _).trans (tlt hh0).2.2.2) ?_
  show Steps p.tables e below (T0.setTop (mkF m 650 Lc [])) _
  refine XS.iload X0.here hx rfl (hb hby at_650) hl4 ?_
  show Steps p.tables e below (T0.setTop (mkF m 652 Lc [(.int p3)])) _
  refine XS.iconst X0.here hx rfl (hb hby at_652) ?_
  show Steps p.tables e below (T0.setTop (mkF m 653 Lc [(.int (0 : Int32)), (.int p3)])) _
  refine st1 _ ?_
  show Steps p.tables e below (T1.setTop (mkF m 656 Lc [(.int (own_fc p3 (0 : Int32)))])) _
  refine XS.iconst X1.here hx rfl (hb hby at_656) ?_
  show Steps p.tables e below (T1.setTop (mkF m 657 Lc [(.int (2 : Int32)), (.int (own_fc p3 (0 : Int32)))])) _
  refine XS.icmpNo X1.here hx rfl (hb hby at_657) rfl (feq k0).1 ?_
  show Steps p.tables e below (T1.setTop (mkF m 660 Lc [])) _
  refine XS.iload X1.here hx rfl (hb hby at_660) hl11 ?_
  show Steps p.tables e below (T1.setTop (mkF m 662 Lc [(.int f)])) _
  refine XS.iconst X1.here hx rfl (hb hby at_662) ?_
  show Steps p.tables e below (T1.setTop (mkF m 663 Lc [(.int (1 : Int32)), (.int f)])) _
  refine XS.icmpYes X1.here hx rfl (pc0 := 663) (pc' := 676) rfl (hb hby at_663) rfl (flt hh1).2.2.2 (by decide) (by decide) ?_
  show Steps p.tables e below (T1.setTop (mkF m 676 Lc [])) _
  refine XS.iload X1.here hx rfl (hb hby at_676) hl11 ?_
  show Steps p.tables e below (T1.setTop (mkF m 678 Lc [(.int f)])) _
  refine XS.iconst X1.here hx rfl (hb hby at_678) ?_
  show Steps p.tables e below (T1.setTop (mkF m 679 Lc [(.int (2 : Int32)), (.int f)])) _
  refine XS.icmpYes X1.here hx rfl (pc0 := 679) (pc' := 696) rfl (hb hby at_679) rfl (flt hh2).2.2.2 (by decide) (by decide) ?_
  show Steps p.tables e below (T1.setTop (mkF m 696 Lc [])) _
  refine XS.iconst X1.here hx rfl (hb hby at_696) ?_
  show Steps p.tables e below (T1.setTop (mkF m 697 Lc [(.int (0 : Int32))])) _
  exact kt
set_option maxRecDepth 65536 in
set_option maxHeartbeats 40000000 in
theorem own_fnnn {p : Program} {l : Launch} {e : Env} {s : State} {m : MethodId} {args : Array Value} {below : List Frame} {meth : Method} {c : Code} {T0 : State} {locs : List Loc} {Z : State} {a0 : Array Value} {h0 : Heap} (Lc : Array Slot) (p3 : Int32) (f : Int32) (X0 : Stand p l e room_1 s m args below meth c T0 locs 2 136) (hx : p.tables.exec = Jvm.exec) (hZ : Z.Warmed39 s.vm) (hw : ∀ d ∈ tables_1, d.before a0 Z = true) (hby : c.code = code) (hml : c.maxLocals = 31) (hown : s.vm.findClass "com/example/vestwright/vestwright/model/GroupedDecimalUngroupPinLaw" = some m.cls) (e0 : T0.heap = h0) (hLs : Lc.size = 31) (hl4 : Lc[4]? = some (.val (.int p3))) (hl11 : Lc[11]? = some (.val (.int f))) (n0 : Nat) (Z0 : n0 ≤ h0.size) (N0 : Fr n0 locs) (hh0 : ¬ (0 : Int32) < f) (hh1 : ¬ (1 : Int32) < f) (hh2 : ¬ (2 : Int32) < f) :
    ∃ (T' : State) (locs' : List Loc), Stand p l e room_1 s m args below meth c T' locs' 2 136 ∧ T'.heap = h0 ∧ Fr n0 locs' ∧ ∀ target, Steps p.tables e below (T'.setTop (mkF m 697 Lc [(.int (0 : Int32))])) target → Steps p.tables e below (T0.setTop (mkF m 645 Lc [])) target := by
  refine ⟨_, _, X0, e0, N0, fun target kt => ?_⟩
  show Steps p.tables e below (T0.setTop (mkF m 645 Lc [])) _
  refine XS.iload X0.here hx rfl (hb hby at_645) hl11 ?_
  show Steps p.tables e below (T0.setTop (mkF m 647 Lc [(.int f)])) _
  refine XS.ifYes X0.here hx rfl (pc0 := 647) (pc' := 660) rfl (hb hby at_647) rfl ((if0 _ _).trans (flt hh0).2.2.2) (by decide) (by decide) ?_
  show Steps p.tables e below (T0.setTop (mkF m 660 Lc [])) _
  refine XS.iload X0.here hx rfl (hb hby at_660) hl11 ?_
  show Steps p.tables e below (T0.setTop (mkF m 662 Lc [(.int f)])) _
  refine XS.iconst X0.here hx rfl (hb hby at_662) ?_
  show Steps p.tables e below (T0.setTop (mkF m 663 Lc [(.int (1 : Int32)), (.int f)])) _
  refine XS.icmpYes X0.here hx rfl (pc0 := 663) (pc' := 676) rfl (hb hby at_663) rfl (flt hh1).2.2.2 (by decide) (by decide) ?_
  show Steps p.tables e below (T0.setTop (mkF m 676 Lc [])) _
  refine XS.iload X0.here hx rfl (hb hby at_676) hl11 ?_
  show Steps p.tables e below (T0.setTop (mkF m 678 Lc [(.int f)])) _
  refine XS.iconst X0.here hx rfl (hb hby at_678) ?_
  show Steps p.tables e below (T0.setTop (mkF m 679 Lc [(.int (2 : Int32)), (.int f)])) _
  refine XS.icmpYes X0.here hx rfl (pc0 := 679) (pc' := 696) rfl (hb hby at_679) rfl (flt hh2).2.2.2 (by decide) (by decide) ?_
  show Steps p.tables e below (T0.setTop (mkF m 696 Lc [])) _
  refine XS.iconst X0.here hx rfl (hb hby at_696) ?_
  show Steps p.tables e below (T0.setTop (mkF m 697 Lc [(.int (0 : Int32))])) _
  exact kt
def own_FC (p3 f : Int32) : Prop := ((0 : Int32) < f ∧ (own_fc p3 (0 : Int32)) = (2 : Int32)) ∨ ((1 : Int32) < f ∧ (own_fc p3 (1 : Int32)) = (2 : Int32)) ∨ ((2 : Int32) < f ∧ (own_fc p3 (2 : Int32)) = (2 : Int32))
set_option maxHeartbeats 4000000 in
theorem own_fcm {p : Program} {l : Launch} {e : Env} {s : State} {m : MethodId} {args : Array Value} {below : List Frame} {meth : Method} {c : Code} {T0 : State} {locs : List Loc} {Z : State} {a0 : Array Value} {h0 : Heap} (Lc : Array Slot) (p3 f : Int32) (X0 : Stand p l e room_1 s m args below meth c T0 locs 2 136) (hx : p.tables.exec = Jvm.exec) (hZ : Z.Warmed39 s.vm) (hw : ∀ d ∈ tables_1, d.before a0 Z = true) (hby : c.code = code) (hml : c.maxLocals = 31) (hown : s.vm.findClass "com/example/vestwright/vestwright/model/GroupedDecimalUngroupPinLaw" = some m.cls) (e0 : T0.heap = h0) (hLs : Lc.size = 31) (hl4 : Lc[4]? = some (.val (.int p3))) (hl11 : Lc[11]? = some (.val (.int f))) (n0 : Nat) (Z0 : n0 ≤ h0.size) (N0 : Fr n0 locs) :
    ∃ (fC : Int32) (T' : State) (locs' : List Loc), ((fC = 1 ∧ own_FC p3 f) ∨ (fC = 0 ∧ ¬ own_FC p3 f)) ∧ Stand p l e room_1 s m args below meth c T' locs' 2 136 ∧ T'.heap = h0 ∧ Fr n0 locs' ∧ ∀ target, Steps p.tables e below (T'.setTop (mkF m 697 Lc [.int fC])) target → Steps p.tables e below (T0.setTop (mkF m 645 Lc [])) target := by
  have dn : ¬ (1 : Int32) < f → ¬ (2 : Int32) < f := fun h u => h (by rw [Int32.lt_iff_toInt_lt] at *; have : (1 : Int32).toInt = 1 := rfl; have : (2 : Int32).toInt = 2 := rfl; omega)
  have dm : ¬ (0 : Int32) < f → ¬ (1 : Int32) < f := fun h u => h (by rw [Int32.lt_iff_toInt_lt] at *; have : (1 : Int32).toInt = 1 := rfl; have : (0 : Int32).toInt = 0 := rfl; omega)
  by_cases h0' : (0 : Int32) < f
  · by_cases k0 : (own_fc p3 (0 : Int32)) = (2 : Int32)
    · exact ⟨1, (own_ft Lc p3 f X0 hx hZ hw hby hml hown e0 hLs hl4 hl11 n0 Z0 N0 h0' k0).elim fun T' h => ⟨T', h.elim fun L' h => ⟨L', Or.inl ⟨rfl, Or.inl ⟨h0', k0⟩⟩, h⟩⟩⟩
    · by_cases h1 : (1 : Int32) < f
      · by_cases k1 : (own_fc p3 (1 : Int32)) = (2 : Int32)
        · exact ⟨1, (own_fxt Lc p3 f X0 hx hZ hw hby hml hown e0 hLs hl4 hl11 n0 Z0 N0 h0' k0 h1 k1).elim fun T' h => ⟨T', h.elim fun L' h => ⟨L', Or.inl ⟨rfl, Or.inr (Or.inl ⟨h1, k1⟩)⟩, h⟩⟩⟩
        · by_cases h2 : (2 : Int32) < f
          · by_cases k2 : (own_fc p3 (2 : Int32)) = (2 : Int32)
            · exact ⟨1, (own_fxxt Lc p3 f X0 hx hZ hw hby hml hown e0 hLs hl4 hl11 n0 Z0 N0 h0' k0 h1 k1 h2 k2).elim fun T' h => ⟨T', h.elim fun L' h => ⟨L', Or.inl ⟨rfl, Or.inr (Or.inr ⟨h2, k2⟩)⟩, h⟩⟩⟩
            · exact ⟨0, (own_fxxx Lc p3 f X0 hx hZ hw hby hml hown e0 hLs hl4 hl11 n0 Z0 N0 h0' k0 h1 k1 h2 k2).elim fun T' h => ⟨T', h.elim fun L' h => ⟨L', Or.inr ⟨rfl, fun u => u.elim (fun u => k0 u.2) (fun u => u.elim (fun u => k1 u.2) (fun u => k2 u.2))⟩, h⟩⟩⟩
          · exact ⟨0, (own_fxxn Lc p3 f X0 hx hZ hw hby hml hown e0 hLs hl4 hl11 n0 Z0 N0 h0' k0 h1 k1 h2).elim fun T' h => ⟨T', h.elim fun L' h => ⟨L', Or.inr ⟨rfl, fun u => u.elim (fun u => k0 u.2) (fun u => u.elim (fun u => k1 u.2) (fun u => h2 u.1))⟩, h⟩⟩⟩
      · exact ⟨0, (own_fxnn Lc p3 f X0 hx hZ hw hby hml hown e0 hLs hl4 hl11 n0 Z0 N0 h0' k0 h1 (dn h1)).elim fun T' h => ⟨T', h.elim fun L' h => ⟨L', Or.inr ⟨rfl, fun u => u.elim (fun u => k0 u.2) (fun u => u.elim (fun u => h1 u.1) (fun u => dn h1 u.1))⟩, h⟩⟩⟩
  · exact ⟨0, (own_fnnn Lc p3 f X0 hx hZ hw hby hml hown e0 hLs hl4 hl11 n0 Z0 N0 h0' (dm h0') (dn (dm h0'))).elim fun T' h => ⟨T', h.elim fun L' h => ⟨L', Or.inr ⟨rfl, fun u => u.elim (fun u => h0' u.1) (fun u => u.elim (fun u => dm h0' u.1) (fun u => dn (dm h0') u.1))⟩, h⟩⟩⟩
theorem own_sk {s_ : Int32} (h : 0 ≤ s_.toInt ∧ s_.toInt ≤ 3) {z : Int32} (hz : 0 ≤ z.toInt ∧ z.toInt ≤ 15) : ¬ (s_ + z) < 0 ∧ (s_ + z) < (72 : Int32) := by
  have t := own_i_add (rfl : s_.toInt = s_.toInt) (rfl : z.toInt = z.toInt) (by omega)
  exact own_ix (by omega) (by rw [t]; show _ < (72 : Int); omega)
theorem own_s0 {s_ : Int32} (h : 0 ≤ s_.toInt ∧ s_.toInt ≤ 3) : ¬ s_ < 0 ∧ s_ < (72 : Int32) := own_ix (by omega) (by show _ < (72 : Int); omega)
theorem own_ba_n (kk g w cm n : Int32) (wc : Int64) (fc : Int32) : (own_ba kk g w cm n wc fc).toInt8.toInt32 = own_ba kk g w cm n wc fc := by
  unfold own_ba
  split
  · split
    · rfl
    · split
      · split
        · exact own_wb_n _ _
        · rfl
      · split
        · rfl
        · exact own_fb_n _
  · rfl
set_option maxRecDepth 65536 in
set_option maxHeartbeats 40000000 in
theorem own_txt {p : Program} {l : Launch} {e : Env} {s : State} {m : MethodId} {args : Array Value} {below : List Frame} {meth : Method} {c : Code} {T0 : State} {locs : List Loc} {Z : State} {a0 : Array Value} {h0 : Heap} (Lc : Array Slot) (p3 : Int32) (q2 : Int64) (g : Int32) (w : Int32) (s_ : Int32) (cm : Int32) (n : Int32) (en : Int32) (tt : Addr) (t0 : Nat → Int32) (X0 : Stand p l e room_1 s m args below meth c T0 locs 1 72) (hx : p.tables.exec = Jvm.exec) (hZ : Z.Warmed39 s.vm) (hw : ∀ d ∈ tables_1, d.before a0 Z = true) (hby : c.code = code) (hml : c.maxLocals = 31) (hown : s.vm.findClass "com/example/vestwright/vestwright/model/GroupedDecimalUngroupPinLaw" = some m.cls) (e0 : T0.heap = h0) (hLs : Lc.size = 31) (hl2 : Lc[2]? = some (.val (.long q2))) (hl4 : Lc[4]? = some (.val (.int p3))) (hl6 : Lc[6]? = some (.val (.int g))) (hl7 : Lc[7]? = some (.val (.int w))) (hl12 : Lc[12]? = some (.val (.int s_))) (hl15 : Lc[15]? = some (.val (.int cm))) (hl16 : Lc[16]? = some (.val (.int n))) (hl18 : Lc[18]? = some (.val (.int en))) (hl19 : Lc[19]? = some (.val (.ref tt))) (n0 : Nat) (Z0 : n0 ≤ h0.size) (N0 : Fr n0 locs) (gt : n0 ≤ tt) (AT : own_AI Z h0 tt .byte (72 : Int32) t0) (hs3 : 0 ≤ s_.toInt ∧ s_.toInt ≤ 3) (hen : ¬ en < 0 ∧ en < (72 : Int32)) :
    ∃ (T' : State) (h' : Heap) (locs' : List Loc), Stand p l e room_1 s m args below meth c T' locs' 1 72 ∧ T'.heap = h' ∧ Fr n0 locs' ∧ Keep h0 h' [tt] ∧ own_AI Z h' tt .byte (72 : Int32) (own_up (own_up (own_up (own_up (own_up (own_up (own_up (own_up (own_up (own_up (own_up (own_up (own_up (own_up (own_up (own_up (own_up t0 (s_).toNatClampNeg (own_ba (0 : Int32) g w cm n q2 p3)) ((s_ + (1 : Int32))).toNatClampNeg (own_ba (1 : Int32) g w cm n q2 p3)) ((s_ + (2 : Int32))).toNatClampNeg (own_ba (2 : Int32) g w cm n q2 p3)) ((s_ + (3 : Int32))).toNatClampNeg (own_ba (3 : Int32) g w cm n q2 p3)) ((s_ + (4 : Int32))).toNatClampNeg (own_ba (4 : Int32) g w cm n q2 p3)) ((s_ + (5 : Int32))).toNatClampNeg (own_ba (5 : Int32) g w cm n q2 p3)) ((s_ + (6 : Int32))).toNatClampNeg (own_ba (6 : Int32) g w cm n q2 p3)) ((s_ + (7 : Int32))).toNatClampNeg (own_ba (7 : Int32) g w cm n q2 p3)) ((s_ + (8 : Int32))).toNatClampNeg (own_ba (8 : Int32) g w cm n q2 p3)) ((s_ + (9 : Int32))).toNatClampNeg (own_ba (9 : Int32) g w cm n q2 p3)) ((s_ + (10 : Int32))).toNatClampNeg (own_ba (10 : Int32) g w cm n q2 p3)) ((s_ + (11 : Int32))).toNatClampNeg (own_ba (11 : Int32) g w cm n q2 p3)) ((s_ + (12 : Int32))).toNatClampNeg (own_ba (12 : Int32) g w cm n q2 p3)) ((s_ + (13 : Int32))).toNatClampNeg (own_ba (13 : Int32) g w cm n q2 p3)) ((s_ + (14 : Int32))).toNatClampNeg (own_ba (14 : Int32) g w cm n q2 p3)) ((s_ + (15 : Int32))).toNatClampNeg (own_ba (15 : Int32) g w cm n q2 p3)) (en).toNatClampNeg (44 : Int32)) ∧ ∀ target, Steps p.tables e below (T'.setTop (mkF m 639 Lc [])) target → Steps p.tables e below (T0.setTop (mkF m 262 Lc [])) target := by
  obtain ⟨_, _, ⟨T1, L1, k1, n1⟩, -, X1, ⟨Lc1, hQ1, l1, y1, z1⟩, st1⟩ := Jvm.LawKit.callS X0 hx (y := (⟨"com/example/vestwright/vestwright/model/GroupedDecimalUngroupPinLaw", "byteAt", "(IIIIIJI)B"⟩ : MethodName)) hown (mvT hZ (hw _ (List.mem_of_getElem? (i := 1) rfl))) (mvT hZ (hw _ (List.mem_of_getElem? (i := 2) rfl))) (mvT hZ (hw _ (List.mem_of_getElem? (i := 3) rfl))) (mvT hZ (hw _ (List.mem_of_getElem? (i := 4) rfl))) (by decide) (backOf (W := 2) (rm4 l Z a0 hw [] (0 : Int32) g w cm n q2 p3  h0 n0 Z0 ) hZ (hw _ (List.mem_of_getElem? (i := 4) rfl)) (hw _ (List.mem_of_getElem? (i := 3) rfl)) (by decide) (by decide)) (g := (mkF m 278 Lc [(.int p3), (.long q2), (.int n), (.int cm), (.int w), (.int g), (.int (0 : Int32)), (.int s_), (.ref tt)])) rfl (by rw [hml]; exact hLs) (argsL := [(.int (0 : Int32)), (.int g), (.int w), (.int cm), (.int n), (.long q2), (.int p3)]) (rest := [(.int s_), (.ref tt)]) (lenOf pd_3 rfl) rfl (by show 2 * 0 + _ ≤ _; exact Nat.le_of_eq rfl) (hb hby at_278) (fun _ _ => ⟨rfl, e0, (by decide : 1 + 0 ≤ _), (by decide : 72 + 0 ≤ _)⟩)
  dsimp only [Pt.U, Pt.locs, Pt.cells, Pt.slots] at X1 l1 y1 z1 st1 hQ1
  subst l1 y1 z1
  obtain ⟨rfl, Nq1, e1⟩ := hQ1
  have N1 := Fr.app N0 Nq1
  obtain ⟨T2, h2, X2, e2, W2, A2, st2⟩ := own_stB X1 hx hZ e1 AT (j := s_) (own_s0 hs3) (g := (mkF m 281 Lc [(.int (own_ba (0 : Int32) g w cm n q2 p3)), (.int s_), (.ref tt)])) rfl rfl (hb hby at_281)
  have N2 := Fr.snoc X2 N1 gt
  have K2 : Keep h0 h2 [tt] := (Keep.refl h0 [tt]).wr W2 (Or.inl (List.mem_of_getElem? (i := 0) rfl))
  rw [own_ba_n] at A2
  have Z2 : n0 ≤ h2.size := Nat.le_trans Z0 (Nat.le_of_eq (W2.size).symm)
  obtain ⟨Lg3, Xg3, Ng3⟩ := own_gen X2 N2
  obtain ⟨_, _, ⟨T4, L4, k4, n4⟩, -, X4, ⟨Lc4, hQ4, l4, y4, z4⟩, st4⟩ := Jvm.LawKit.callS Xg3 hx (y := (⟨"com/example/vestwright/vestwright/model/GroupedDecimalUngroupPinLaw", "byteAt", "(IIIIIJI)B"⟩ : MethodName)) hown (mvT hZ (hw _ (List.mem_of_getElem? (i := 1) rfl))) (mvT hZ (hw _ (List.mem_of_getElem? (i := 2) rfl))) (mvT hZ (hw _ (List.mem_of_getElem? (i := 3) rfl))) (mvT hZ (hw _ (List.mem_of_getElem? (i := 4) rfl))) (by decide) (backOf (W := 2) (rm4 l Z a0 hw [] (1 : Int32) g w cm n q2 p3  h2 n0 Z2 ) hZ (hw _ (List.mem_of_getElem? (i := 4) rfl)) (hw _ (List.mem_of_getElem? (i := 3) rfl)) (by decide) (by decide)) (g := (mkF m 300 Lc [(.int p3), (.long q2), (.int n), (.int cm), (.int w), (.int g), (.int (1 : Int32)), (.int (s_ + (1 : Int32))), (.ref tt)])) rfl (by rw [hml]; exact hLs) (argsL := [(.int (1 : Int32)), (.int g), (.int w), (.int cm), (.int n), (.long q2), (.int p3)]) (rest := [(.int (s_ + (1 : Int32))), (.ref tt)]) (lenOf pd_3 rfl) rfl (by show 2 * 0 + _ ≤ _; exact Nat.le_of_eq rfl) (hb hby at_300) (fun _ _ => ⟨rfl, e2, (by decide : 1 + 0 ≤ _), (by decide : 72 + 0 ≤ _)⟩)
  dsimp only [Pt.U, Pt.locs, Pt.cells, Pt.slots] at X4 l4 y4 z4 st4 hQ4
  subst l4 y4 z4
  obtain ⟨rfl, Nq4, e4⟩ := hQ4
  have N4 := Fr.app Ng3 Nq4
  obtain ⟨T5, h5, X5, e5, W5, A5, st5⟩ := own_stB X4 hx hZ e4 A2 (j := (s_ + (1 : Int32))) (own_sk hs3 (by decide)) (g := (mkF m 303 Lc [(.int (own_ba (1 : Int32) g w cm n q2 p3)), (.int (s_ + (1 : Int32))), (.ref tt)])) rfl rfl (hb hby at_303)
  have N5 := Fr.snoc X5 N4 gt
  have K5 : Keep h0 h5 [tt] := K2.wr W5 (Or.inl (List.mem_of_getElem? (i := 0) rfl))
  rw [own_ba_n] at A5
  have Z5 : n0 ≤ h5.size := Nat.le_trans Z2 (Nat.le_of_eq (W5.size).symm)
  obtain ⟨Lg6, Xg6, Ng6⟩ := own_gen X5 N5
  obtain ⟨_, _, ⟨T7, L7, k7, n7⟩, -, X7, ⟨Lc7, hQ7, l7, y7, z7⟩, st7⟩ := Jvm.LawKit.callS Xg6 hx (y := (⟨"com/example/vestwright/vestwright/model/GroupedDecimalUngroupPinLaw", "byteAt", "(IIIIIJI)B"⟩ : MethodName)) hown (mvT hZ (hw _ (List.mem_of_getElem? (i := 1) rfl))) (mvT hZ (hw _ (List.mem_of_getElem? (i := 2) rfl))) (mvT hZ (hw _ (List.mem_of_getElem? (i := 3) rfl))) (mvT hZ (hw _ (List.mem_of_getElem? (i := 4) rfl))) (by decide) (backOf (W := 2) (rm4 l Z a0 hw [] (2 : Int32) g w cm n q2 p3  h5 n0 Z5 ) hZ (hw _ (List.mem_of_getElem? (i := 4) rfl)) (hw _ (List.mem_of_getElem? (i := 3) rfl)) (by decide) (by decide)) (g := (mkF m 322 Lc [(.int p3), (.long q2), (.int n), (.int cm), (.int w), (.int g), (.int (2 : Int32)), (.int (s_ + (2 : Int32))), (.ref tt)])) rfl (by rw [hml]; exact hLs) (argsL := [(.int (2 : Int32)), (.int g), (.int w), (.int cm), (.int n), (.long q2), (.int p3)]) (rest := [(.int (s_ + (2 : Int32))), (.ref tt)]) (lenOf pd_3 rfl) rfl (by show 2 * 0 + _ ≤ _; exact Nat.le_of_eq rfl) (hb hby at_322) (fun _ _ => ⟨rfl, e5, (by decide : 1 + 0 ≤ _), (by decide : 72 + 0 ≤ _)⟩)
  dsimp only [Pt.U, Pt.locs, Pt.cells, Pt.slots] at X7 l7 y7 z7 st7 hQ7
  subst l7 y7 z7
  obtain ⟨rfl, Nq7, e7⟩ := hQ7
  have N7 := Fr.app Ng6 Nq7
  obtain ⟨T8, h8, X8, e8, W8, A8, st8⟩ := own_stB X7 hx hZ e7 A5 (j := (s_ + (2 : Int32))) (own_sk hs3 (by decide)) (g := (mkF m 325 Lc [(.int (own_ba (2 : Int32) g w cm n q2 p3)), (.int (s_ + (2 : Int32))), (.ref tt)])) rfl rfl (hb hby at_325)
  have N8 := Fr.snoc X8 N7 gt
  have K8 : Keep h0 h8 [tt] := K5.wr W8 (Or.inl (List.mem_of_getElem? (i := 0) rfl))
  rw [own_ba_n] at A8
  have Z8 : n0 ≤ h8.size := Nat.le_trans Z5 (Nat.le_of_eq (W8.size).symm)
  obtain ⟨Lg9, Xg9, Ng9⟩ := own_gen X8 N8
  obtain ⟨_, _, ⟨T10, L10, k10, n10⟩, -, X10, ⟨Lc10, hQ10, l10, y10, z10⟩, st10⟩ := Jvm.LawKit.callS Xg9 hx (y := (⟨"com/example/vestwright/vestwright/model/GroupedDecimalUngroupPinLaw", "byteAt", "(IIIIIJI)B"⟩ : MethodName)) hown (mvT hZ (hw _ (List.mem_of_getElem? (i := 1) rfl))) (mvT hZ (hw _ (List.mem_of_getElem? (i := 2) rfl))) (mvT hZ (hw _ (List.mem_of_getElem? (i := 3) rfl))) (mvT hZ (hw _ (List.mem_of_getElem? (i := 4) rfl))) (by decide) (backOf (W := 2) (rm4 l Z a0 hw [] (3 : Int32) g w cm n q2 p3  h8 n0 Z8 ) hZ (hw _ (List.mem_of_getElem? (i := 4) rfl)) (hw _ (List.mem_of_getElem? (i := 3) rfl)) (by decide) (by decide)) (g := (mkF m 344 Lc [(.int p3), (.long q2), (.int n), (.int cm), (.int w), (.int g), (.int (3 : Int32)), (.int (s_ + (3 : Int32))), (.ref tt)])) rfl (by rw [hml]; exact hLs) (argsL := [(.int (3 : Int32)), (.int g), (.int w), (.int cm), (.int n), (.long q2), (.int p3)]) (rest := [(.int (s_ + (3 : Int32))), (.ref tt)]) (lenOf pd_3 rfl) rfl (by show 2 * 0 + _ ≤ _; exact Nat.le_of_eq rfl) (hb hby at_344) (fun _ _ => ⟨rfl, e8, (by decide : 1 + 0 ≤ _), (by decide : 72 + 0 ≤ _)⟩)
  dsimp only [Pt.U, Pt.locs, Pt.cells, Pt.slots] at X10 l10 y10 z10 st10 hQ10
  subst l10 y10 z10
  obtain ⟨rfl, Nq10, e10⟩ := hQ10
  have N10 := Fr.app Ng9 Nq10
  obtain ⟨T11, h11, X11, e11, W11, A11, st11⟩ := own_stB X10 hx hZ e10 A8 (j := (s_ + (3 : Int32))) (own_sk hs3 (by decide)) (g := (mkF m 347 Lc [(.int (own_ba (3 : Int32) g w cm n q2 p3)), (.int (s_ + (3 : Int32))), (.ref tt)])) rfl rfl (hb hby at_347)
  have N11 := Fr.snoc X11 N10 gt
  have K11 : Keep h0 h11 [tt] := K8.wr W11 (Or.inl (List.mem_of_getElem? (i := 0) rfl))
  rw [own_ba_n] at A11
  have Z11 : n0 ≤ h11.size := Nat.le_trans Z8 (Nat.le_of_eq (W11.size).symm)
  obtain ⟨Lg12, Xg12, Ng12⟩ := own_gen X11 N11
  obtain ⟨_, _, ⟨T13, L13, k13, n13⟩, -, X13, ⟨Lc13, hQ13, l13, y13, z13⟩, st13⟩ := Jvm.LawKit.callS Xg12 hx (y := (⟨"com/example/vestwright/vestwright/model/GroupedDecimalUngroupPinLaw", "byteAt", "(IIIIIJI)B"⟩ : MethodName)) hown (mvT hZ (hw _ (List.mem_of_getElem? (i := 1) rfl))) (mvT hZ (hw _ (List.mem_of_getElem? (i := 2) rfl))) (mvT hZ (hw _ (List.mem_of_getElem? (i := 3) rfl))) (mvT hZ (hw _ (List.mem_of_getElem? (i := 4) rfl))) (by decide) (backOf (W := 2) (rm4 l Z a0 hw [] (4 : Int32) g w cm n q2 p3  h11 n0 Z11 ) hZ (hw _ (List.mem_of_getElem? (i := 4) rfl)) (hw _ (List.mem_of_getElem? (i := 3) rfl)) (by decide) (by decide)) (g := (mkF m 366 Lc [(.int p3), (.long q2), (.int n), (.int cm), (.int w), (.int g), (.int (4 : Int32)), (.int (s_ + (4 : Int32))), (.ref tt)])) rfl (by rw [hml]; exact hLs) (argsL := [(.int (4 : Int32)), (.int g), (.int w), (.int cm), (.int n), (.long q2), (.int p3)]) (rest := [(.int (s_ + (4 : Int32))), (.ref tt)]) (lenOf pd_3 rfl) rfl (by show 2 * 0 + _ ≤ _; exact Nat.le_of_eq rfl) (hb hby at_366) (fun _ _ => ⟨rfl, e11, (by decide : 1 + 0 ≤ _), (by decide : 72 + 0 ≤ _)⟩)
  dsimp only [Pt.U, Pt.locs, Pt.cells, Pt.slots] at X13 l13 y13 z13 st13 hQ13
  subst l13 y13 z13
  obtain ⟨rfl, Nq13, e13⟩ := hQ13
  have N13 := Fr.app Ng12 Nq13
  obtain ⟨T14, h14, X14, e14, W14, A14, st14⟩ := own_stB X13 hx hZ e13 A11 (j := (s_ + (4 : Int32))) (own_sk hs3 (by decide)) (g := (mkF m 369 Lc [(.int (own_ba (4 : Int32) g w cm n q2 p3)), (.int (s_ + (4 : Int32))), (.ref tt)])) rfl rfl (hb hby at_369)
  have N14 := Fr.snoc X14 N13 gt
  have K14 : Keep h0 h14 [tt] := K11.wr W14 (Or.inl (List.mem_of_getElem? (i := 0) rfl))
  rw [own_ba_n] at A14
  have Z14 : n0 ≤ h14.size := Nat.le_trans Z11 (Nat.le_of_eq (W14.size).symm)
  obtain ⟨Lg15, Xg15, Ng15⟩ := own_gen X14 N14
  obtain ⟨_, _, ⟨T16, L16, k16, n16⟩, -, X16, ⟨Lc16, hQ16, l16, y16, z16⟩, st16⟩ := Jvm.LawKit.callS Xg15 hx (y := (⟨"com/example/vestwright/vestwright/model/GroupedDecimalUngroupPinLaw", "byteAt", "(IIIIIJI)B"⟩ : MethodName)) hown (mvT hZ (hw _ (List.mem_of_getElem? (i := 1) rfl))) (mvT hZ (hw _ (List.mem_of_getElem? (i := 2) rfl))) (mvT hZ (hw _ (List.mem_of_getElem? (i := 3) rfl))) (mvT hZ (hw _ (List.mem_of_getElem? (i := 4) rfl))) (by decide) (backOf (W := 2) (rm4 l Z a0 hw [] (5 : Int32) g w cm n q2 p3  h14 n0 Z14 ) hZ (hw _ (List.mem_of_getElem? (i := 4) rfl)) (hw _ (List.mem_of_getElem? (i := 3) rfl)) (by decide) (by decide)) (g := (mkF m 388 Lc [(.int p3), (.long q2), (.int n), (.int cm), (.int w), (.int g), (.int (5 : Int32)), (.int (s_ + (5 : Int32))), (.ref tt)])) rfl (by rw [hml]; exact hLs) (argsL := [(.int (5 : Int32)), (.int g), (.int w), (.int cm), (.int n), (.long q2), (.int p3)]) (rest := [(.int (s_ + (5 : Int32))), (.ref tt)]) (lenOf pd_3 rfl) rfl (by show 2 * 0 + _ ≤ _; exact Nat.le_of_eq rfl) (hb hby at_388) (fun _ _ => ⟨rfl, e14, (by decide : 1 + 0 ≤ _), (by decide : 72 + 0 ≤ _)⟩)
  dsimp only [Pt.U, Pt.locs, Pt.cells, Pt.slots] at X16 l16 y16 z16 st16 hQ16
  subst l16 y16 z16
  obtain ⟨rfl, Nq16, e16⟩ := hQ16
  have N16 := Fr.app Ng15 Nq16
  obtain ⟨T17, h17, X17, e17, W17, A17, st17⟩ := own_stB X16 hx hZ e16 A14 (j := (s_ + (5 : Int32))) (own_sk hs3 (by decide)) (g := (mkF m 391 Lc [(.int (own_ba (5 : Int32) g w cm n q2 p3)), (.int (s_ + (5 : Int32))), (.ref tt)])) rfl rfl (hb hby at_391)
  have N17 := Fr.snoc X17 N16 gt
  have K17 : Keep h0 h17 [tt] := K14.wr W17 (Or.inl (List.mem_of_getElem? (i := 0) rfl))
  rw [own_ba_n] at A17
  have Z17 : n0 ≤ h17.size := Nat.le_trans Z14 (Nat.le_of_eq (W17.size).symm)
  obtain ⟨Lg18, Xg18, Ng18⟩ := own_gen X17 N17
  obtain ⟨_, _, ⟨T19, L19, k19, n19⟩, -, X19, ⟨Lc19, hQ19, l19, y19, z19⟩, st19⟩ := Jvm.LawKit.callS Xg18 hx (y := (⟨"com/example/vestwright/vestwright/model/GroupedDecimalUngroupPinLaw", "byteAt", "(IIIIIJI)B"⟩ : MethodName)) hown (mvT hZ (hw _ (List.mem_of_getElem? (i := 1) rfl))) (mvT hZ (hw _ (List.mem_of_getElem? (i := 2) rfl))) (mvT hZ (hw _ (List.mem_of_getElem? (i := 3) rfl))) (mvT hZ (hw _ (List.mem_of_getElem? (i := 4) rfl))) (by decide) (backOf (W := 2) (rm4 l Z a0 hw [] (6 : Int32) g w cm n q2 p3  h17 n0 Z17 ) hZ (hw _ (List.mem_of_getElem? (i := 4) rfl)) (hw _ (List.mem_of_getElem? (i := 3) rfl)) (by decide) (by decide)) (g := (mkF m 412 Lc [(.int p3), (.long q2), (.int n), (.int cm), (.int w), (.int g), (.int (6 : Int32)), (.int (s_ + (6 : Int32))), (.ref tt)])) rfl (by rw [hml]; exact hLs) (argsL := [(.int (6 : Int32)), (.int g), (.int w), (.int cm), (.int n), (.long q2), (.int p3)]) (rest := [(.int (s_ + (6 : Int32))), (.ref tt)]) (lenOf pd_3 rfl) rfl (by show 2 * 0 + _ ≤ _; exact Nat.le_of_eq rfl) (hb hby at_412) (fun _ _ => ⟨rfl, e17, (by decide : 1 + 0 ≤ _), (by decide : 72 + 0 ≤ _)⟩)
  dsimp only [Pt.U, Pt.locs, Pt.cells, Pt.slots] at X19 l19 y19 z19 st19 hQ19
  subst l19 y19 z19
  obtain ⟨rfl, Nq19, e19⟩ := hQ19
  have N19 := Fr.app Ng18 Nq19
  obtain ⟨T20, h20, X20, e20, W20, A20, st20⟩ := own_stB X19 hx hZ e19 A17 (j := (s_ + (6 : Int32))) (own_sk hs3 (by decide)) (g := (mkF m 415 Lc [(.int (own_ba (6 : Int32) g w cm n q2 p3)), (.int (s_ + (6 : Int32))), (.ref tt)])) rfl rfl (hb hby at_415)
  have N20 := Fr.snoc X20 N19 gt
  have K20 : Keep h0 h20 [tt] := K17.wr W20 (Or.inl (List.mem_of_getElem? (i := 0) rfl))
  rw [own_ba_n] at A20
  have Z20 : n0 ≤ h20.size := Nat.le_trans Z17 (Nat.le_of_eq (W20.size).symm)
  obtain ⟨Lg21, Xg21, Ng21⟩ := own_gen X20 N20
  obtain ⟨_, _, ⟨T22, L22, k22, n22⟩, -, X22, ⟨Lc22, hQ22, l22, y22, z22⟩, st22⟩ := Jvm.LawKit.callS Xg21 hx (y := (⟨"com/example/vestwright/vestwright/model/GroupedDecimalUngroupPinLaw", "byteAt", "(IIIIIJI)B"⟩ : MethodName)) hown (mvT hZ (hw _ (List.mem_of_getElem? (i := 1) rfl))) (mvT hZ (hw _ (List.mem_of_getElem? (i := 2) rfl))) (mvT hZ (hw _ (List.mem_of_getElem? (i := 3) rfl))) (mvT hZ (hw _ (List.mem_of_getElem? (i := 4) rfl))) (by decide) (backOf (W := 2) (rm4 l Z a0 hw [] (7 : Int32) g w cm n q2 p3  h20 n0 Z20 ) hZ (hw _ (List.mem_of_getElem? (i := 4) rfl)) (hw _ (List.mem_of_getElem? (i := 3) rfl)) (by decide) (by decide)) (g := (mkF m 436 Lc [(.int p3), (.long q2), (.int n), (.int cm), (.int w), (.int g), (.int (7 : Int32)), (.int (s_ + (7 : Int32))), (.ref tt)])) rfl (by rw [hml]; exact hLs) (argsL := [(.int (7 : Int32)), (.int g), (.int w), (.int cm), (.int n), (.long q2), (.int p3)]) (rest := [(.int (s_ + (7 : Int32))), (.ref tt)]) (lenOf pd_3 rfl) rfl (by show 2 * 0 + _ ≤ _; exact Nat.le_of_eq rfl) (hb hby at_436) (fun _ _ => ⟨rfl, e20, (by decide : 1 + 0 ≤ _), (by decide : 72 + 0 ≤ _)⟩)
  dsimp only [Pt.U, Pt.locs, Pt.cells, Pt.slots] at X22 l22 y22 z22 st22 hQ22
  subst l22 y22 z22
  obtain ⟨rfl, Nq22, e22⟩ := hQ22
  have N22 := Fr.app Ng21 Nq22
  obtain ⟨T23, h23, X23, e23, W23, A23, st23⟩ := own_stB X22 hx hZ e22 A20 (j := (s_ + (7 : Int32))) (own_sk hs3 (by decide)) (g := (mkF m 439 Lc [(.int (own_ba (7 : Int32) g w cm n q2 p3)), (.int (s_ + (7 : Int32))), (.ref tt)])) rfl rfl (hb hby at_439)
  have N23 := Fr.snoc X23 N22 gt
  have K23 : Keep h0 h23 [tt] := K20.wr W23 (Or.inl (List.mem_of_getElem? (i := 0) rfl))
  rw [own_ba_n] at A23
  have Z23 : n0 ≤ h23.size := Nat.le_trans Z20 (Nat.le_of_eq (W23.size).symm)
  obtain ⟨Lg24, Xg24, Ng24⟩ := own_gen X23 N23
  obtain ⟨_, _, ⟨T25, L25, k25, n25⟩, -, X25, ⟨Lc25, hQ25, l25, y25, z25⟩, st25⟩ := Jvm.LawKit.callS Xg24 hx (y := (⟨"com/example/vestwright/vestwright/model/GroupedDecimalUngroupPinLaw", "byteAt", "(IIIIIJI)B"⟩ : MethodName)) hown (mvT hZ (hw _ (List.mem_of_getElem? (i := 1) rfl))) (mvT hZ (hw _ (List.mem_of_getElem? (i := 2) rfl))) (mvT hZ (hw _ (List.mem_of_getElem? (i := 3) rfl))) (mvT hZ (hw _ (List.mem_of_getElem? (i := 4) rfl))) (by decide) (backOf (W := 2) (rm4 l Z a0 hw [] (8 : Int32) g w cm n q2 p3  h23 n0 Z23 ) hZ (hw _ (List.mem_of_getElem? (i := 4) rfl)) (hw _ (List.mem_of_getElem? (i := 3) rfl)) (by decide) (by decide)) (g := (mkF m 460 Lc [(.int p3), (.long q2), (.int n), (.int cm), (.int w), (.int g), (.int (8 : Int32)), (.int (s_ + (8 : Int32))), (.ref tt)])) rfl (by rw [hml]; exact hLs) (argsL := [(.int (8 : Int32)), (.int g), (.int w), (.int cm), (.int n), (.long q2), (.int p3)]) (rest := [(.int (s_ + (8 : Int32))), (.ref tt)]) (lenOf pd_3 rfl) rfl (by show 2 * 0 + _ ≤ _; exact Nat.le_of_eq rfl) (hb hby at_460) (fun _ _ => ⟨rfl, e23, (by decide : 1 + 0 ≤ _), (by decide : 72 + 0 ≤ _)⟩)
  dsimp only [Pt.U, Pt.locs, Pt.cells, Pt.slots] at X25 l25 y25 z25 st25 hQ25
  subst l25 y25 z25
  obtain ⟨rfl, Nq25, e25⟩ := hQ25
  have N25 := Fr.app Ng24 Nq25
  obtain ⟨T26, h26, X26, e26, W26, A26, st26⟩ := own_stB X25 hx hZ e25 A23 (j := (s_ + (8 : Int32))) (own_sk hs3 (by decide)) (g := (mkF m 463 Lc [(.int (own_ba (8 : Int32) g w cm n q2 p3)), (.int (s_ + (8 : Int32))), (.ref tt)])) rfl rfl (hb hby at_463)
  have N26 := Fr.snoc X26 N25 gt
  have K26 : Keep h0 h26 [tt] := K23.wr W26 (Or.inl (List.mem_of_getElem? (i := 0) rfl))
  rw [own_ba_n] at A26
  have Z26 : n0 ≤ h26.size := Nat.le_trans Z23 (Nat.le_of_eq (W26.size).symm)
  obtain ⟨Lg27, Xg27, Ng27⟩ := own_gen X26 N26
  obtain ⟨_, _, ⟨T28, L28, k28, n28⟩, -, X28, ⟨Lc28, hQ28, l28, y28, z28⟩, st28⟩ := Jvm.LawKit.callS Xg27 hx (y := (⟨"com/example/vestwright/vestwright/model/GroupedDecimalUngroupPinLaw", "byteAt", "(IIIIIJI)B"⟩ : MethodName)) hown (mvT hZ (hw _ (List.mem_of_getElem? (i := 1) rfl))) (mvT hZ (hw _ (List.mem_of_getElem? (i := 2) rfl))) (mvT hZ (hw _ (List.mem_of_getElem? (i := 3) rfl))) (mvT hZ (hw _ (List.mem_of_getElem? (i := 4) rfl))) (by decide) (backOf (W := 2) (rm4 l Z a0 hw [] (9 : Int32) g w cm n q2 p3  h26 n0 Z26 ) hZ (hw _ (List.mem_of_getElem? (i := 4) rfl)) (hw _ (List.mem_of_getElem? (i := 3) rfl)) (by decide) (by decide)) (g := (mkF m 484 Lc [(.int p3), (.long q2), (.int n), (.int cm), (.int w), (.int g), (.int (9 : Int32)), (.int (s_ + (9 : Int32))), (.ref tt)])) rfl (by rw [hml]; exact hLs) (argsL := [(.int (9 : Int32)), (.int g), (.int w), (.int cm), (.int n), (.long q2), (.int p3)]) (rest := [(.int (s_ + (9 : Int32))), (.ref tt)]) (lenOf pd_3 rfl) rfl (by show 2 * 0 + _ ≤ _; exact Nat.le_of_eq rfl) (hb hby at_484) (fun _ _ => ⟨rfl, e26, (by decide : 1 + 0 ≤ _), (by decide : 72 + 0 ≤ _)⟩)
  dsimp only [Pt.U, Pt.locs, Pt.cells, Pt.slots] at X28 l28 y28 z28 st28 hQ28
  subst l28 y28 z28
  obtain ⟨rfl, Nq28, e28⟩ := hQ28
  have N28 := Fr.app Ng27 Nq28
  obtain ⟨T29, h29, X29, e29, W29, A29, st29⟩ := own_stB X28 hx hZ e28 A26 (j := (s_ + (9 : Int32))) (own_sk hs3 (by decide)) (g := (mkF m 487 Lc [(.int (own_ba (9 : Int32) g w cm n q2 p3)), (.int (s_ + (9 : Int32))), (.ref tt)])) rfl rfl (hb hby at_487)
  have N29 := Fr.snoc X29 N28 gt
  have K29 : Keep h0 h29 [tt] := K26.wr W29 (Or.inl (List.mem_of_getElem? (i := 0) rfl))
  rw [own_ba_n] at A29
  have Z29 : n0 ≤ h29.size := Nat.le_trans Z26 (Nat.le_of_eq (W29.size).symm)
  obtain ⟨Lg30, Xg30, Ng30⟩ := own_gen X29 N29
  obtain ⟨_, _, ⟨T31, L31, k31, n31⟩, -, X31, ⟨Lc31, hQ31, l31, y31, z31⟩, st31⟩ := Jvm.LawKit.callS Xg30 hx (y := (⟨"com/example/vestwright/vestwright/model/GroupedDecimalUngroupPinLaw", "byteAt", "(IIIIIJI)B"⟩ : MethodName)) hown (mvT hZ (hw _ (List.mem_of_getElem? (i := 1) rfl))) (mvT hZ (hw _ (List.mem_of_getElem? (i := 2) rfl))) (mvT hZ (hw _ (List.mem_of_getElem? (i := 3) rfl))) (mvT hZ (hw _ (List.mem_of_getElem? (i := 4) rfl))) (by decide) (backOf (W := 2) (rm4 l Z a0 hw [] (10 : Int32) g w cm n q2 p3  h29 n0 Z29 ) hZ (hw _ (List.mem_of_getElem? (i := 4) rfl)) (hw _ (List.mem_of_getElem? (i := 3) rfl)) (by decide) (by decide)) (g := (mkF m 508 Lc [(.int p3), (.long q2), (.int n), (.int cm), (.int w), (.int g), (.int (10 : Int32)), (.int (s_ + (10 : Int32))), (.ref tt)])) rfl (by rw [hml]; exact hLs) (argsL := [(.int (10 : Int32)), (.int g), (.int w), (.int cm), (.int n), (.long q2), (.int p3)]) (rest := [(.int (s_ + (10 : Int32))), (.ref tt)]) (lenOf pd_3 rfl) rfl (by show 2 * 0 + _ ≤ _; exact Nat.le_of_eq rfl) (hb hby at_508) (fun _ _ => ⟨rfl, e29, (by decide : 1 + 0 ≤ _), (by decide : 72 + 0 ≤ _)⟩)
  dsimp only [Pt.U, Pt.locs, Pt.cells, Pt.slots] at X31 l31 y31 z31 st31 hQ31
  subst l31 y31 z31
  obtain ⟨rfl, Nq31, e31⟩ := hQ31
  have N31 := Fr.app Ng30 Nq31
  obtain ⟨T32, h32, X32, e32, W32, A32, st32⟩ := own_stB X31 hx hZ e31 A29 (j := (s_ + (10 : Int32))) (own_sk hs3 (by decide)) (g := (mkF m 511 Lc [(.int (own_ba (10 : Int32) g w cm n q2 p3)), (.int (s_ + (10 : Int32))), (.ref tt)])) rfl rfl (hb hby at_511)
  have N32 := Fr.snoc X32 N31 gt
  have K32 : Keep h0 h32 [tt] := K29.wr W32 (Or.inl (List.mem_of_getElem? (i := 0) rfl))
  rw [own_ba_n] at A32
  have Z32 : n0 ≤ h32.size := Nat.le_trans Z29 (Nat.le_of_eq (W32.size).symm)
  obtain ⟨Lg33, Xg33, Ng33⟩ := own_gen X32 N32
  obtain ⟨_, _, ⟨T34, L34, k34, n34⟩, -, X34, ⟨Lc34, hQ34, l34, y34, z34⟩, st34⟩ := Jvm.LawKit.callS Xg33 hx (y := (⟨"com/example/vestwright/vestwright/model/GroupedDecimalUngroupPinLaw", "byteAt", "(IIIIIJI)B"⟩ : MethodName)) hown (mvT hZ (hw _ (List.mem_of_getElem? (i := 1) rfl))) (mvT hZ (hw _ (List.mem_of_getElem? (i := 2) rfl))) (mvT hZ (hw _ (List.mem_of_getElem? (i := 3) rfl))) (mvT hZ (hw _ (List.mem_of_getElem? (i := 4) rfl))) (by decide) (backOf (W := 2) (rm4 l Z a0 hw [] (11 : Int32) g w cm n q2 p3  h32 n0 Z32 ) hZ (hw _ (List.mem_of_getElem? (i := 4) rfl)) (hw _ (List.mem_of_getElem? (i := 3) rfl)) (by decide) (by decide)) (g := (mkF m 532 Lc [(.int p3), (.long q2), (.int n), (.int cm), (.int w), (.int g), (.int (11 : Int32)), (.int (s_ + (11 : Int32))), (.ref tt)])) rfl (by rw [hml]; exact hLs) (argsL := [(.int (11 : Int32)), (.int g), (.int w), (.int cm), (.int n), (.long q2), (.int p3)]) (rest := [(.int (s_ + (11 : Int32))), (.ref tt)]) (lenOf pd_3 rfl) rfl (by show 2 * 0 + _ ≤ _; exact Nat.le_of_eq rfl) (hb hby at_532) (fun _ _ => ⟨rfl, e32, (by decide : 1 + 0 ≤ _), (by decide : 72 + 0 ≤ _)⟩)
  dsimp only [Pt.U, Pt.locs, Pt.cells, Pt.slots] at X34 l34 y34 z34 st34 hQ34
  subst l34 y34 z34
  obtain ⟨rfl, Nq34, e34⟩ := hQ34
  have N34 := Fr.app Ng33 Nq34
  obtain ⟨T35, h35, X35, e35, W35, A35, st35⟩ := own_stB X34 hx hZ e34 A32 (j := (s_ + (11 : Int32))) (own_sk hs3 (by decide)) (g := (mkF m 535 Lc [(.int (own_ba (11 : Int32) g w cm n q2 p3)), (.int (s_ + (11 : Int32))), (.ref tt)])) rfl rfl (hb hby at_535)
  have N35 := Fr.snoc X35 N34 gt
  have K35 : Keep h0 h35 [tt] := K32.wr W35 (Or.inl (List.mem_of_getElem? (i := 0) rfl))
  rw [own_ba_n] at A35
  have Z35 : n0 ≤ h35.size := Nat.le_trans Z32 (Nat.le_of_eq (W35.size).symm)
  obtain ⟨Lg36, Xg36, Ng36⟩ := own_gen X35 N35
  obtain ⟨_, _, ⟨T37, L37, k37, n37⟩, -, X37, ⟨Lc37, hQ37, l37, y37, z37⟩, st37⟩ := Jvm.LawKit.callS Xg36 hx (y := (⟨"com/example/vestwright/vestwright/model/GroupedDecimalUngroupPinLaw", "byteAt", "(IIIIIJI)B"⟩ : MethodName)) hown (mvT hZ (hw _ (List.mem_of_getElem? (i := 1) rfl))) (mvT hZ (hw _ (List.mem_of_getElem? (i := 2) rfl))) (mvT hZ (hw _ (List.mem_of_getElem? (i := 3) rfl))) (mvT hZ (hw _ (List.mem_of_getElem? (i := 4) rfl))) (by decide) (backOf (W := 2) (rm4 l Z a0 hw [] (12 : Int32) g w cm n q2 p3  h35 n0 Z35 ) hZ (hw _ (List.mem_of_getElem? (i := 4) rfl)) (hw _ (List.mem_of_getElem? (i := 3) rfl)) (by decide) (by decide)) (g := (mkF m 556 Lc [(.int p3), (.long q2), (.int n), (.int cm), (.int w), (.int g), (.int (12 : Int32)), (.int (s_ + (12 : Int32))), (.ref tt)])) rfl (by rw [hml]; exact hLs) (argsL := [(.int (12 : Int32)), (.int g), (.int w), (.int cm), (.int n), (.long q2), (.int p3)]) (rest := [(.int (s_ + (12 : Int32))), (.ref tt)]) (lenOf pd_3 rfl) rfl (by show 2 * 0 + _ ≤ _; exact Nat.le_of_eq rfl) (hb hby at_556) (fun _ _ => ⟨rfl, e35, (by decide : 1 + 0 ≤ _), (by decide : 72 + 0 ≤ _)⟩)
  dsimp only [Pt.U, Pt.locs, Pt.cells, Pt.slots] at X37 l37 y37 z37 st37 hQ37
  subst l37 y37 z37
  obtain ⟨rfl, Nq37, e37⟩ := hQ37
  have N37 := Fr.app Ng36 Nq37
  obtain ⟨T38, h38, X38, e38, W38, A38, st38⟩ := own_stB X37 hx hZ e37 A35 (j := (s_ + (12 : Int32))) (own_sk hs3 (by decide)) (g := (mkF m 559 Lc [(.int (own_ba (12 : Int32) g w cm n q2 p3)), (.int (s_ + (12 : Int32))), (.ref tt)])) rfl rfl (hb hby at_559)
  have N38 := Fr.snoc X38 N37 gt
  have K38 : Keep h0 h38 [tt] := K35.wr W38 (Or.inl (List.mem_of_getElem? (i := 0) rfl))
  rw [own_ba_n] at A38
  have Z38 : n0 ≤ h38.size := Nat.le_trans Z35 (Nat.le_of_eq (W38.size).symm)
  obtain ⟨Lg39, Xg39, Ng39⟩ := own_gen X38 N38
  obtain ⟨_, _, ⟨T40, L40, k40, n40⟩, -, X40, ⟨Lc40, hQ40, l40, y40, z40⟩, st40⟩ := Jvm.LawKit.callS Xg39 hx (y := (⟨"com/example/vestwright/vestwright/model/GroupedDecimalUngroupPinLaw", "byteAt", "(IIIIIJI)B"⟩ : MethodName)) hown (mvT hZ (hw _ (List.mem_of_getElem? (i := 1) rfl))) (mvT hZ (hw _ (List.mem_of_getElem? (i := 2) rfl))) (mvT hZ (hw _ (List.mem_of_getElem? (i := 3) rfl))) (mvT hZ (hw _ (List.mem_of_getElem? (i := 4) rfl))) (by decide) (backOf (W := 2) (rm4 l Z a0 hw [] (13 : Int32) g w cm n q2 p3  h38 n0 Z38 ) hZ (hw _ (List.mem_of_getElem? (i := 4) rfl)) (hw _ (List.mem_of_getElem? (i := 3) rfl)) (by decide) (by decide)) (g := (mkF m 580 Lc [(.int p3), (.long q2), (.int n), (.int cm), (.int w), (.int g), (.int (13 : Int32)), (.int (s_ + (13 : Int32))), (.ref tt)])) rfl (by rw [hml]; exact hLs) (argsL := [(.int (13 : Int32)), (.int g), (.int w), (.int cm), (.int n), (.long q2), (.int p3)]) (rest := [(.int (s_ + (13 : Int32))), (.ref tt)]) (lenOf pd_3 rfl) rfl (by show 2 * 0 + _ ≤ _; exact Nat.le_of_eq rfl) (hb hby at_580) (fun _ _ => ⟨rfl, e38, (by decide : 1 + 0 ≤ _), (by decide : 72 + 0 ≤ _)⟩)
  dsimp only [Pt.U, Pt.locs, Pt.cells, Pt.slots] at X40 l40 y40 z40 st40 hQ40
  subst l40 y40 z40
  obtain ⟨rfl, Nq40, e40⟩ := hQ40
  have N40 := Fr.app Ng39 Nq40
  obtain ⟨T41, h41, X41, e41, W41, A41, st41⟩ := own_stB X40 hx hZ e40 A38 (j := (s_ + (13 : Int32))) (own_sk hs3 (by decide)) (g := (mkF m 583 Lc [(.int (own_ba (13 : Int32) g w cm n q2 p3)), (.int (s_ + (13 : Int32))), (.ref tt)])) rfl rfl (hb hby at_583)
  have N41 := Fr.snoc X41 N40 gt
  have K41 : Keep h0 h41 [tt] := K38.wr W41 (Or.inl (List.mem_of_getElem? (i := 0) rfl))
  rw [own_ba_n] at A41
  have Z41 : n0 ≤ h41.size := Nat.le_trans Z38 (Nat.le_of_eq (W41.size).symm)
  obtain ⟨Lg42, Xg42, Ng42⟩ := own_gen X41 N41
  obtain ⟨_, _, ⟨T43, L43, k43, n43⟩, -, X43, ⟨Lc43, hQ43, l43, y43, z43⟩, st43⟩ := Jvm.LawKit.callS Xg42 hx (y := (⟨"com/example/vestwright/vestwright/model/GroupedDecimalUngroupPinLaw", "byteAt", "(IIIIIJI)B"⟩ : MethodName)) hown (mvT hZ (hw _ (List.mem_of_getElem? (i := 1) rfl))) (mvT hZ (hw _ (List.mem_of_getElem? (i := 2) rfl))) (mvT hZ (hw _ (List.mem_of_getElem? (i := 3) rfl))) (mvT hZ (hw _ (List.mem_of_getElem? (i := 4) rfl))) (by decide) (backOf (W := 2) (rm4 l Z a0 hw [] (14 : Int32) g w cm n q2 p3  h41 n0 Z41 ) hZ (hw _ (List.mem_of_getElem? (i := 4) rfl)) (hw _ (List.mem_of_getElem? (i := 3) rfl)) (by decide) (by decide)) (g := (mkF m 604 Lc [(.int p3), (.long q2), (.int n), (.int cm), (.int w), (.int g), (.int (14 : Int32)), (.int (s_ + (14 : Int32))), (.ref tt)])) rfl (by rw [hml]; exact hLs) (argsL := [(.int (14 : Int32)), (.int g), (.int w), (.int cm), (.int n), (.long q2), (.int p3)]) (rest := [(.int (s_ + (14 : Int32))), (.ref tt)]) (lenOf pd_3 rfl) rfl (by show 2 * 0 + _ ≤ _; exact Nat.le_of_eq rfl) (hb hby at_604) (fun _ _ => ⟨rfl, e41, (by decide : 1 + 0 ≤ _), (by decide : 72 + 0 ≤ _)⟩)
  dsimp only [Pt.U, Pt.locs, Pt.cells, Pt.slots] at X43 l43 y43 z43 st43 hQ43
  subst l43 y43 z43
  obtain ⟨rfl, Nq43, e43⟩ := hQ43
  have N43 := Fr.app Ng42 Nq43
  obtain ⟨T44, h44, X44, e44, W44, A44, st44⟩ := own_stB X43 hx hZ e43 A41 (j := (s_ + (14 : Int32))) (own_sk hs3 (by decide)) (g := (mkF m 607 Lc [(.int (own_ba (14 : Int32) g w cm n q2 p3)), (.int (s_ + (14 : Int32))), (.ref tt)])) rfl rfl (hb hby at_607)
  have N44 := Fr.snoc X44 N43 gt
  have K44 : Keep h0 h44 [tt] := K41.wr W44 (Or.inl (List.mem_of_getElem? (i := 0) rfl))
  rw [own_ba_n] at A44
  have Z44 : n0 ≤ h44.size := Nat.le_trans Z41 (Nat.le_of_eq (W44.size).symm)
  obtain ⟨Lg45, Xg45, Ng45⟩ := own_gen X44 N44
  obtain ⟨_, _, ⟨T46, L46, k46, n46⟩, -, X46, ⟨Lc46, hQ46, l46, y46, z46⟩, st46⟩ := Jvm.LawKit.callS Xg45 hx (y := (⟨"com/example/vestwright/vestwright/model/GroupedDecimalUngroupPinLaw", "byteAt", "(IIIIIJI)B"⟩ : MethodName)) hown (mvT hZ (hw _ (List.mem_of_getElem? (i := 1) rfl))) (mvT hZ (hw _ (List.mem_of_getElem? (i := 2) rfl))) (mvT hZ (hw _ (List.mem_of_getElem? (i := 3) rfl))) (mvT hZ (hw _ (List.mem_of_getElem? (i := 4) rfl))) (by decide) (backOf (W := 2) (rm4 l Z a0 hw [] (15 : Int32) g w cm n q2 p3  h44 n0 Z44 ) hZ (hw _ (List.mem_of_getElem? (i := 4) rfl)) (hw _ (List.mem_of_getElem? (i := 3) rfl)) (by decide) (by decide)) (g := (mkF m 628 Lc [(.int p3), (.long q2), (.int n), (.int cm), (.int w), (.int g), (.int (15 : Int32)), (.int (s_ + (15 : Int32))), (.ref tt)])) rfl (by rw [hml]; exact hLs) (argsL := [(.int (15 : Int32)), (.int g), (.int w), (.int cm), (.int n), (.long q2), (.int p3)]) (rest := [(.int (s_ + (15 : Int32))), (.ref tt)]) (lenOf pd_3 rfl) rfl (by show 2 * 0 + _ ≤ _; exact Nat.le_of_eq rfl) (hb hby at_628) (fun _ _ => ⟨rfl, e44, (by decide : 1 + 0 ≤ _), (by decide : 72 + 0 ≤ _)⟩)
  dsimp only [Pt.U, Pt.locs, Pt.cells, Pt.slots] at X46 l46 y46 z46 st46 hQ46
  subst l46 y46 z46
  obtain ⟨rfl, Nq46, e46⟩ := hQ46
  have N46 := Fr.app Ng45 Nq46
  obtain ⟨T47, h47, X47, e47, W47, A47, st47⟩ := own_stB X46 hx hZ e46 A44 (j := (s_ + (15 : Int32))) (own_sk hs3 (by decide)) (g := (mkF m 631 Lc [(.int (own_ba (15 : Int32) g w cm n q2 p3)), (.int (s_ + (15 : Int32))), (.ref tt)])) rfl rfl (hb hby at_631)
  have N47 := Fr.snoc X47 N46 gt
  have K47 : Keep h0 h47 [tt] := K44.wr W47 (Or.inl (List.mem_of_getElem? (i := 0) rfl))
  rw [own_ba_n] at A47
  have Z47 : n0 ≤ h47.size := Nat.le_trans Z44 (Nat.le_of_eq (W47.size).symm)
  obtain ⟨T48, h48, X48, e48, W48, A48, st48⟩ := own_stB X47 hx hZ e47 A47 (j := en) hen (g := (mkF m 638 Lc [(.int (44 : Int32)), (.int en), (.ref tt)])) rfl rfl (hb hby at_638)
  have N48 := Fr.snoc X48 N47 gt
  have K48 : Keep h0 h48 [tt] := K47.wr W48 (Or.inl (List.mem_of_getElem? (i := 0) rfl))
  rw [(rfl : ((44 : Int32).toInt8.toInt32) = (44 : Int32))] at A48
  have Z48 : n0 ≤ h48.size := Nat.le_trans Z47 (Nat.le_of_eq (W48.size).symm)
  refine ⟨_, _, _, X48, e48, N48, K48, A48, fun target kt => ?_⟩
  show Steps p.tables e below (T0.setTop (mkF m 262 Lc [])) _
  refine XS.aload X0.here hx rfl (hb hby at_262) hl19 rfl ?_
  show Steps p.tables e below (T0.setTop (mkF m 264 Lc [(.ref tt)])) _
  refine XS.iload X0.here hx rfl (hb hby at_264) hl12 ?_
  show Steps p.tables e below (T0.setTop (mkF m 266 Lc [(.int s_), (.ref tt)])) _
  refine XS.iconst X0.here hx rfl (hb hby at_266) ?_
  show Steps p.tables e below (T0.setTop (mkF m 267 Lc [(.int (0 : Int32)), (.int s_), (.ref tt)])) _
  refine XS.iload X0.here hx rfl (hb hby at_267) hl6 ?_
  show Steps p.tables e below (T0.setTop (mkF m 269 Lc [(.int g), (.int (0 : Int32)), (.int s_), (.ref tt)])) _
  refine XS.iload X0.here hx rfl (hb hby at_269) hl7 ?_
  show Steps p.tables e below (T0.setTop (mkF m 271 Lc [(.int w), (.int g), (.int (0 : Int32)), (.int s_), (.ref tt)])) _
  refine XS.iload X0.here hx rfl (hb hby at_271) hl15 ?_
  show Steps p.tables e below (T0.setTop (mkF m 273 Lc [(.int cm), (.int w), (.int g), (.int (0 : Int32)), (.int s_), (.ref tt)])) _
  refine XS.iload X0.here hx rfl (hb hby at_273) hl16 ?_
  show Steps p.tables e below (T0.setTop (mkF m 275 Lc [(.int n), (.int cm), (.int w), (.int g), (.int (0 : Int32)), (.int s_), (.ref tt)])) _
  refine XS.lloadN X0.here hx rfl (hb hby at_275) hl2 ?_
  show Steps p.tables e below (T0.setTop (mkF m 276 Lc [(.long q2), (.int n), (.int cm), (.int w), (.int g), (.int (0 : Int32)), (.int s_), (.ref tt)])) _
  refine XS.iload X0.here hx rfl (hb hby at_276) hl4 ?_
  show Steps p.tables e below (T0.setTop (mkF m 278 Lc [(.int p3), (.long q2), (.int n), (.int cm), (.int w), (.int g), (.int (0 : Int32)), (.int s_), (.ref tt)])) _
  refine st1 _ ?_
  show Steps p.tables e below (T1.setTop (mkF m 281 Lc [(.int (own_ba (0 : Int32) g w cm n q2 p3)), (.int s_), (.ref tt)])) _
  refine st2 _ ?_
  show Steps p.tables e below (T2.setTop (mkF m 282 Lc [])) _
  refine XS.aload X2.here hx rfl (hb hby at_282) hl19 rfl ?_
  show Steps p.tables e below (T2.setTop (mkF m 284 Lc [(.ref tt)])) _
  refine XS.iload X2.here hx rfl (hb hby at_284) hl12 ?_
  show Steps p.tables e below (T2.setTop (mkF m 286 Lc [(.int s_), (.ref tt)])) _
  refine XS.iconst X2.here hx rfl (hb hby at_286) ?_
  show Steps p.tables e below (T2.setTop (mkF m 287 Lc [(.int (1 : Int32)), (.int s_), (.ref tt)])) _
  refine XS.iadd X2.here hx rfl (hb hby at_287) rfl ?_
  show Steps p.tables e below (T2.setTop (mkF m 288 Lc [(.int (s_ + (1 : Int32))), (.ref tt)])) _
  refine XS.iconst X2.here hx rfl (hb hby at_288) ?_
  show Steps p.tables e below (T2.setTop (mkF m 289 Lc [(.int (1 : Int32)), (.int (s_ + (1 : Int32))), (.ref tt)])) _
  refine XS.iload X2.here hx rfl (hb hby at_289) hl6 ?_
  show Steps p.tables e below (T2.setTop (mkF m 291 Lc [(.int g), (.int (1 : Int32)), (.int (s_ + (1 : Int32))), (.ref tt)])) _
  refine XS.iload X2.here hx rfl (hb hby at_291) hl7 ?_
  show Steps p.tables e below (T2.setTop (mkF m 293 Lc [(.int w), (.int g), (.int (1 : Int32)), (.int (s_ + (1 : Int32))), (.ref tt)])) _
  refine XS.iload X2.here hx rfl (hb hby at_293) hl15 ?_
  show Steps p.tables e below (T2.setTop (mkF m 295 Lc [(.int cm), (.int w), (.int g), (.int (1 : Int32)), (.int (s_ + (1 : Int32))), (.ref tt)])) _
  refine XS.iload X2.here hx rfl (hb hby at_295) hl16 ?_
  show Steps p.tables e below (T2.setTop (mkF m 297 Lc [(.int n), (.int cm), (.int w), (.int g), (.int (1 : Int32)), (.int (s_ + (1 : Int32))), (.ref tt)])) _
  refine XS.lloadN X2.here hx rfl (hb hby at_297) hl2 ?_
  show Steps p.tables e below (T2.setTop (mkF m 298 Lc [(.long q2), (.int n), (.int cm), (.int w), (.int g), (.int (1 : Int32)), (.int (s_ + (1 : Int32))), (.ref tt)])) _
  refine XS.iload X2.here hx rfl (hb hby at_298) hl4 ?_
  show Steps p.tables e below (T2.setTop (mkF m 300 Lc [(.int p3), (.long q2), (.int n), (.int cm), (.int w), (.int g), (.int (1 : Int32)), (.int (s_ + (1 : Int32))), (.ref tt)])) _
  refine st4 _ ?_
  show Steps p.tables e below (T4.setTop (mkF m 303 Lc [(.int (own_ba (1 : Int32) g w cm n q2 p3)), (.int (s_ + (1 : Int32))), (.ref tt)])) _
  refine st5 _ ?_
  show Steps p.tables e below (T5.setTop (mkF m 304 Lc [])) _
  refine XS.aload X5.here hx rfl (hb hby at_304) hl19 rfl ?_
  show Steps p.tables e below (T5.setTop (mkF m 306 Lc [(.ref tt)])) _
  refine XS.iload X5.here hx rfl (hb hby at_306) hl12 ?_
  show Steps p.tables e below (T5.setTop (mkF m 308 Lc [(.int s_), (.ref tt)])) _
  refine XS.iconst X5.here hx rfl (hb hby at_308) ?_
  show Steps p.tables e below (T5.setTop (mkF m 309 Lc [(.int (2 : Int32)), (.int s_), (.ref tt)])) _
  refine XS.iadd X5.here hx rfl (hb hby at_309) rfl ?_
  show Steps p.tables e below (T5.setTop (mkF m 310 Lc [(.int (s_ + (2 : Int32))), (.ref tt)])) _
  refine XS.iconst X5.here hx rfl (hb hby at_310) ?_
  show Steps p.tables e below (T5.setTop (mkF m 311 Lc [(.int (2 : Int32)), (.int (s_ + (2 : Int32))), (.ref tt)])) _
  refine XS.iload X5.here hx rfl (hb hby at_311) hl6 ?_
  show Steps p.tables e below (T5.setTop (mkF m 313 Lc [(.int g), (.int (2 : Int32)), (.int (s_ + (2 : Int32))), (.ref tt)])) _
  refine XS.iload X5.here hx rfl (hb hby at_313) hl7 ?_
  show Steps p.tables e below (T5.setTop (mkF m 315 Lc [(.int w), (.int g), (.int (2 : Int32)), (.int (s_ + (2 : Int32))), (.ref tt)])) _
  refine XS.iload X5.here hx rfl (hb hby at_315) hl15 ?_
  show Steps p.tables e below (T5.setTop (mkF m 317 Lc [(.int cm), (.int w), (.int g), (.int (2 : Int32)), (.int (s_ + (2 : Int32))), (.ref tt)])) _
  refine XS.iload X5.here hx rfl (hb hby at_317) hl16 ?_
  show Steps p.tables e below (T5.setTop (mkF m 319 Lc [(.int n), (.int cm), (.int w), (.int g), (.int (2 : Int32)), (.int (s_ + (2 : Int32))), (.ref tt)])) _
  refine XS.lloadN X5.here hx rfl (hb hby at_319) hl2 ?_
  show Steps p.tables e below (T5.setTop (mkF m 320 Lc [(.long q2), (.int n), (.int cm), (.int w), (.int g), (.int (2 : Int32)), (.int (s_ + (2 : Int32))), (.ref tt)])) _
  refine XS.iload X5.here hx rfl (hb hby at_320) hl4 ?_
  show Steps p.tables e below (T5.setTop (mkF m 322 Lc [(.int p3), (.long q2), (.int n), (.int cm), (.int w), (.int g), (.int (2 : Int32)), (.int (s_ + (2 : Int32))), (.ref tt)])) _
  refine st7 _ ?_
  show Steps p.tables e below (T7.setTop (mkF m 325 Lc [(.int (own_ba (2 : Int32) g w cm n q2 p3)), (.int (s_ + (2 : Int32))), (.ref tt)])) _
  refine st8 _ ?_
  show Steps p.tables e below (T8.setTop (mkF m 326 Lc [])) _
  refine XS.aload X8.here hx rfl (hb hby at_326) hl19 rfl ?_
  show Steps p.tables e below (T8.setTop (mkF m 328 Lc [(.ref tt)])) _
  refine XS.iload X8.here hx rfl (hb hby at_328) hl12 ?_
  show Steps p.tables e below (T8.setTop (mkF m 330 Lc [(.int s_), (.ref tt)])) _
  refine XS.iconst X8.here hx rfl (hb hby at_330) ?_
  show Steps p.tables e below (T8.setTop (mkF m 331 Lc [(.int (3 : Int32)), (.int s_), (.ref tt)])) _
  refine XS.iadd X8.here hx rfl (hb hby at_331) rfl ?_
  show Steps p.tables e below (T8.setTop (mkF m 332 Lc [(.int (s_ + (3 : Int32))), (.ref tt)])) _
  refine XS.iconst X8.here hx rfl (hb hby at_332) ?_
  show Steps p.tables e below (T8.setTop (mkF m 333 Lc [(.int (3 : Int32)), (.int (s_ + (3 : Int32))), (.ref tt)])) _
  refine XS.iload X8.here hx rfl (hb hby at_333) hl6 ?_
  show Steps p.tables e below (T8.setTop (mkF m 335 Lc [(.int g), (.int (3 : Int32)), (.int (s_ + (3 : Int32))), (.ref tt)])) _
  refine XS.iload X8.here hx rfl (hb hby at_335) hl7 ?_
  show Steps p.tables e below (T8.setTop (mkF m 337 Lc [(.int w), (.int g), (.int (3 : Int32)), (.int (s_ + (3 : Int32))), (.ref tt)])) _
  refine XS.iload X8.here hx rfl (hb hby at_337) hl15 ?_
  show Steps p.tables e below (T8.setTop (mkF m 339 Lc [(.int cm), (.int w), (.int g), (.int (3 : Int32)), (.int (s_ + (3 : Int32))), (.ref tt)])) _
  refine XS.iload X8.here hx rfl (hb hby at_339) hl16 ?_
  show Steps p.tables e below (T8.setTop (mkF m 341 Lc [(.int n), (.int cm), (.int w), (.int g), (.int (3 : Int32)), (.int (s_ + (3 : Int32))), (.ref tt)])) _
  refine XS.lloadN X8.here hx rfl (hb hby at_341) hl2 ?_
  show Steps p.tables e below (T8.setTop (mkF m 342 Lc [(.long q2), (.int n), (.int cm), (.int w), (.int g), (.int (3 : Int32)), (.int (s_ + (3 : Int32))), (.ref tt)])) _
  refine XS.iload X8.here hx rfl (hb hby at_342) hl4 ?_
  show Steps p.tables e below (T8.setTop (mkF m 344 Lc [(.int p3), (.long q2), (.int n), (.int cm), (.int w), (.int g), (.int (3 : Int32)), (.int (s_ + (3 : Int32))), (.ref tt)])) _
  refine st10 _ ?_
  show Steps p.tables e below (T10.setTop (mkF m 347 Lc [(.int (own_ba (3 : Int32) g w cm n q2 p3)), (.int (s_ + (3 : Int32))), (.ref tt)])) _
  refine st11 _ ?_
  show Steps p.tables e below (T11.setTop (mkF m 348 Lc [])) _
  refine XS.aload X11.here hx rfl (hb hby at_348) hl19 rfl ?_
  show Steps p.tables e below (T11.setTop (mkF m 350 Lc [(.ref tt)])) _
  refine XS.iload X11.here hx rfl (hb hby at_350) hl12 ?_
  show Steps p.tables e below (T11.setTop (mkF m 352 Lc [(.int s_), (.ref tt)])) _
  refine XS.iconst X11.here hx rfl (hb hby at_352) ?_
  show Steps p.tables e below (T11.setTop (mkF m 353 Lc [(.int (4 : Int32)), (.int s_), (.ref tt)])) _
  refine XS.iadd X11.here hx rfl (hb hby at_353) rfl ?_
  show Steps p.tables e below (T11.setTop (mkF m 354 Lc [(.int (s_ + (4 : Int32))), (.ref tt)])) _
  refine XS.iconst X11.here hx rfl (hb hby at_354) ?_
  show Steps p.tables e below (T11.setTop (mkF m 355 Lc [(.int (4 : Int32)), (.int (s_ + (4 : Int32))), (.ref tt)])) _
  refine XS.iload X11.here hx rfl (hb hby at_355) hl6 ?_
  show Steps p.tables e below (T11.setTop (mkF m 357 Lc [(.int g), (.int (4 : Int32)), (.int (s_ + (4 : Int32))), (.ref tt)])) _
  refine XS.iload X11.here hx rfl (hb hby at_357) hl7 ?_
  show Steps p.tables e below (T11.setTop (mkF m 359 Lc [(.int w), (.int g), (.int (4 : Int32)), (.int (s_ + (4 : Int32))), (.ref tt)])) _
  refine XS.iload X11.here hx rfl (hb hby at_359) hl15 ?_
  show Steps p.tables e below (T11.setTop (mkF m 361 Lc [(.int cm), (.int w), (.int g), (.int (4 : Int32)), (.int (s_ + (4 : Int32))), (.ref tt)])) _
  refine XS.iload X11.here hx rfl (hb hby at_361) hl16 ?_
  show Steps p.tables e below (T11.setTop (mkF m 363 Lc [(.int n), (.int cm), (.int w), (.int g), (.int (4 : Int32)), (.int (s_ + (4 : Int32))), (.ref tt)])) _
  refine XS.lloadN X11.here hx rfl (hb hby at_363) hl2 ?_
  show Steps p.tables e below (T11.setTop (mkF m 364 Lc [(.long q2), (.int n), (.int cm), (.int w), (.int g), (.int (4 : Int32)), (.int (s_ + (4 : Int32))), (.ref tt)])) _
  refine XS.iload X11.here hx rfl (hb hby at_364) hl4 ?_
  show Steps p.tables e below (T11.setTop (mkF m 366 Lc [(.int p3), (.long q2), (.int n), (.int cm), (.int w), (.int g), (.int (4 : Int32)), (.int (s_ + (4 : Int32))), (.ref tt)])) _
  refine st13 _ ?_
  show Steps p.tables e below (T13.setTop (mkF m 369 Lc [(.int (own_ba (4 : Int32) g w cm n q2 p3)), (.int (s_ + (4 : Int32))), (.ref tt)])) _
  refine st14 _ ?_
  show Steps p.tables e below (T14.setTop (mkF m 370 Lc [])) _
  refine XS.aload X14.here hx rfl (hb hby at_370) hl19 rfl ?_
  show Steps p.tables e below (T14.setTop (mkF m 372 Lc [(.ref tt)])) _
  refine XS.iload X14.here hx rfl (hb hby at_372) hl12 ?_
  show Steps p.tables e below (T14.setTop (mkF m 374 Lc [(.int s_), (.ref tt)])) _
  refine XS.iconst X14.here hx rfl (hb hby at_374) ?_
  show Steps p.tables e below (T14.setTop (mkF m 375 Lc [(.int (5 : Int32)), (.int s_), (.ref tt)])) _
  refine XS.iadd X14.here hx rfl (hb hby at_375) rfl ?_
  show Steps p.tables e below (T14.setTop (mkF m 376 Lc [(.int (s_ + (5 : Int32))), (.ref tt)])) _
  refine XS.iconst X14.here hx rfl (hb hby at_376) ?_
  show Steps p.tables e below (T14.setTop (mkF m 377 Lc [(.int (5 : Int32)), (.int (s_ + (5 : Int32))), (.ref tt)])) _
  refine XS.iload X14.here hx rfl (hb hby at_377) hl6 ?_
  show Steps p.tables e below (T14.setTop (mkF m 379 Lc [(.int g), (.int (5 : Int32)), (.int (s_ + (5 : Int32))), (.ref tt)])) _
  refine XS.iload X14.here hx rfl (hb hby at_379) hl7 ?_
  show Steps p.tables e below (T14.setTop (mkF m 381 Lc [(.int w), (.int g), (.int (5 : Int32)), (.int (s_ + (5 : Int32))), (.ref tt)])) _
  refine XS.iload X14.here hx rfl (hb hby at_381) hl15 ?_
  show Steps p.tables e below (T14.setTop (mkF m 383 Lc [(.int cm), (.int w), (.int g), (.int (5 : Int32)), (.int (s_ + (5 : Int32))), (.ref tt)])) _
  refine XS.iload X14.here hx rfl (hb hby at_383) hl16 ?_
  show Steps p.tables e below (T14.setTop (mkF m 385 Lc [(.int n), (.int cm), (.int w), (.int g), (.int (5 : Int32)), (.int (s_ + (5 : Int32))), (.ref tt)])) _
  refine XS.lloadN X14.here hx rfl (hb hby at_385) hl2 ?_
  show Steps p.tables e below (T14.setTop (mkF m 386 Lc [(.long q2), (.int n), (.int cm), (.int w), (.int g), (.int (5 : Int32)), (.int (s_ + (5 : Int32))), (.ref tt)])) _
  refine XS.iload X14.here hx rfl (hb hby at_386) hl4 ?_
  show Steps p.tables e below (T14.setTop (mkF m 388 Lc [(.int p3), (.long q2), (.int n), (.int cm), (.int w), (.int g), (.int (5 : Int32)), (.int (s_ + (5 : Int32))), (.ref tt)])) _
  refine st16 _ ?_
  show Steps p.tables e below (T16.setTop (mkF m 391 Lc [(.int (own_ba (5 : Int32) g w cm n q2 p3)), (.int (s_ + (5 : Int32))), (.ref tt)])) _
  refine st17 _ ?_
  show Steps p.tables e below (T17.setTop (mkF m 392 Lc [])) _
  refine XS.aload X17.here hx rfl (hb hby at_392) hl19 rfl ?_
  show Steps p.tables e below (T17.setTop (mkF m 394 Lc [(.ref tt)])) _
  refine XS.iload X17.here hx rfl (hb hby at_394) hl12 ?_
  show Steps p.tables e below (T17.setTop (mkF m 396 Lc [(.int s_), (.ref tt)])) _
  refine XS.bipush X17.here hx rfl (hb hby at_396) ?_
  show Steps p.tables e below (T17.setTop (mkF m 398 Lc [(.int (6 : Int32)), (.int s_), (.ref tt)])) _
  refine XS.iadd X17.here hx rfl (hb hby at_398) rfl ?_
  show Steps p.tables e below (T17.setTop (mkF m 399 Lc [(.int (s_ + (6 : Int32))), (.ref tt)])) _
  refine XS.bipush X17.here hx rfl (hb hby at_399) ?_
  show Steps p.tables e below (T17.setTop (mkF m 401 Lc [(.int (6 : Int32)), (.int (s_ + (6 : Int32))), (.ref tt)])) _
  refine XS.iload X17.here hx rfl (hb hby at_401) hl6 ?_
  show Steps p.tables e below (T17.setTop (mkF m 403 Lc [(.int g), (.int (6 : Int32)), (.int (s_ + (6 : Int32))), (.ref tt)])) _
  refine XS.iload X17.here hx rfl (hb hby at_403) hl7 ?_
  show Steps p.tables e below (T17.setTop (mkF m 405 Lc [(.int w), (.int g), (.int (6 : Int32)), (.int (s_ + (6 : Int32))), (.ref tt)])) _
  refine XS.iload X17.here hx rfl (hb hby at_405) hl15 ?_
  show Steps p.tables e below (T17.setTop (mkF m 407 Lc [(.int cm), (.int w), (.int g), (.int (6 : Int32)), (.int (s_ + (6 : Int32))), (.ref tt)])) _
  refine XS.iload X17.here hx rfl (hb hby at_407) hl16 ?_
  show Steps p.tables e below (T17.setTop (mkF m 409 Lc [(.int n), (.int cm), (.int w), (.int g), (.int (6 : Int32)), (.int (s_ + (6 : Int32))), (.ref tt)])) _
  refine XS.lloadN X17.here hx rfl (hb hby at_409) hl2 ?_
  show Steps p.tables e below (T17.setTop (mkF m 410 Lc [(.long q2), (.int n), (.int cm), (.int w), (.int g), (.int (6 : Int32)), (.int (s_ + (6 : Int32))), (.ref tt)])) _
  refine XS.iload X17.here hx rfl (hb hby at_410) hl4 ?_
  show Steps p.tables e below (T17.setTop (mkF m 412 Lc [(.int p3), (.long q2), (.int n), (.int cm), (.int w), (.int g), (.int (6 : Int32)), (.int (s_ + (6 : Int32))), (.ref tt)])) _
  refine st19 _ ?_
  show Steps p.tables e below (T19.setTop (mkF m 415 Lc [(.int (own_ba (6 : Int32) g w cm n q2 p3)), (.int (s_ + (6 : Int32))), (.ref tt)])) _
  refine st20 _ ?_
  show Steps p.tables e below (T20.setTop (mkF m 416 Lc [])) _
  refine XS.aload X20.here hx rfl (hb hby at_416) hl19 rfl ?_
  show Steps p.tables e below (T20.setTop (mkF m 418 Lc [(.ref tt)])) _
  refine XS.iload X20.here hx rfl (hb hby at_418) hl12 ?_
  show Steps p.tables e below (T20.setTop (mkF m 420 Lc [(.int s_), (.ref tt)])) _
  refine XS.bipush X20.here hx rfl (hb hby at_420) ?_
  show Steps p.tables e below (T20.setTop (mkF m 422 Lc [(.int (7 : Int32)), (.int s_), (.ref tt)])) _
  refine XS.iadd X20.here hx rfl (hb hby at_422) rfl ?_
  show Steps p.tables e below (T20.setTop (mkF m 423 Lc [(.int (s_ + (7 : Int32))), (.ref tt)])) _
  refine XS.bipush X20.here hx rfl (hb hby at_423) ?_
  show Steps p.tables e below (T20.setTop (mkF m 425 Lc [(.int (7 : Int32)), (.int (s_ + (7 : Int32))), (.ref tt)])) _
  refine XS.iload X20.here hx rfl (hb hby at_425) hl6 ?_
  show Steps p.tables e below (T20.setTop (mkF m 427 Lc [(.int g), (.int (7 : Int32)), (.int (s_ + (7 : Int32))), (.ref tt)])) _
  refine XS.iload X20.here hx rfl (hb hby at_427) hl7 ?_
  show Steps p.tables e below (T20.setTop (mkF m 429 Lc [(.int w), (.int g), (.int (7 : Int32)), (.int (s_ + (7 : Int32))), (.ref tt)])) _
  refine XS.iload X20.here hx rfl (hb hby at_429) hl15 ?_
  show Steps p.tables e below (T20.setTop (mkF m 431 Lc [(.int cm), (.int w), (.int g), (.int (7 : Int32)), (.int (s_ + (7 : Int32))), (.ref tt)])) _
  refine XS.iload X20.here hx rfl (hb hby at_431) hl16 ?_
  show Steps p.tables e below (T20.setTop (mkF m 433 Lc [(.int n), (.int cm), (.int w), (.int g), (.int (7 : Int32)), (.int (s_ + (7 : Int32))), (.ref tt)])) _
  refine XS.lloadN X20.here hx rfl (hb hby at_433) hl2 ?_
  show Steps p.tables e below (T20.setTop (mkF m 434 Lc [(.long q2), (.int n), (.int cm), (.int w), (.int g), (.int (7 : Int32)), (.int (s_ + (7 : Int32))), (.ref tt)])) _
  refine XS.iload X20.here hx rfl (hb hby at_434) hl4 ?_
  show Steps p.tables e below (T20.setTop (mkF m 436 Lc [(.int p3), (.long q2), (.int n), (.int cm), (.int w), (.int g), (.int (7 : Int32)), (.int (s_ + (7 : Int32))), (.ref tt)])) _
  refine st22 _ ?_
  show Steps p.tables e below (T22.setTop (mkF m 439 Lc [(.int (own_ba (7 : Int32) g w cm n q2 p3)), (.int (s_ + (7 : Int32))), (.ref tt)])) _
  refine st23 _ ?_
  show Steps p.tables e below (T23.setTop (mkF m 440 Lc [])) _
  refine XS.aload X23.here hx rfl (hb hby at_440) hl19 rfl ?_
  show Steps p.tables e below (T23.setTop (mkF m 442 Lc [(.ref tt)])) _
  refine XS.iload X23.here hx rfl (hb hby at_442) hl12 ?_
  show Steps p.tables e below (T23.setTop (mkF m 444 Lc [(.int s_), (.ref tt)])) _
  refine XS.bipush X23.here hx rfl (hb hby at_444) ?_
  show Steps p.tables e below (T23.setTop (mkF m 446 Lc [(.int (8 : Int32)), (.int s_), (.ref tt)])) _
  refine XS.iadd X23.here hx rfl (hb hby at_446) rfl ?_
  show Steps p.tables e below (T23.setTop (mkF m 447 Lc [(.int (s_ + (8 : Int32))), (.ref tt)])) _
  refine XS.bipush X23.here hx rfl (hb hby at_447) ?_
  show Steps p.tables e below (T23.setTop (mkF m 449 Lc [(.int (8 : Int32)), (.int (s_ + (8 : Int32))), (.ref tt)])) _
  refine XS.iload X23.here hx rfl (hb hby at_449) hl6 ?_
  show Steps p.tables e below (T23.setTop (mkF m 451 Lc [(.int g), (.int (8 : Int32)), (.int (s_ + (8 : Int32))), (.ref tt)])) _
  refine XS.iload X23.here hx rfl (hb hby at_451) hl7 ?_
  show Steps p.tables e below (T23.setTop (mkF m 453 Lc [(.int w), (.int g), (.int (8 : Int32)), (.int (s_ + (8 : Int32))), (.ref tt)])) _
  refine XS.iload X23.here hx rfl (hb hby at_453) hl15 ?_
  show Steps p.tables e below (T23.setTop (mkF m 455 Lc [(.int cm), (.int w), (.int g), (.int (8 : Int32)), (.int (s_ + (8 : Int32))), (.ref tt)])) _
  refine XS.iload X23.here hx rfl (hb hby at_455) hl16 ?_
  show Steps p.tables e below (T23.setTop (mkF m 457 Lc [(.int n), (.int cm), (.int w), (.int g), (.int (8 : Int32)), (.int (s_ + (8 : Int32))), (.ref tt)])) _
  refine XS.lloadN X23.here hx rfl (hb hby at_457) hl2 ?_
  show Steps p.tables e below (T23.setTop (mkF m 458 Lc [(.long q2), (.int n), (.int cm), (.int w), (.int g), (.int (8 : Int32)), (.int (s_ + (8 : Int32))), (.ref tt)])) _
  refine XS.iload X23.here hx rfl (hb hby at_458) hl4 ?_
  show Steps p.tables e below (T23.setTop (mkF m 460 Lc [(.int p3), (.long q2), (.int n), (.int cm), (.int w), (.int g), (.int (8 : Int32)), (.int (s_ + (8 : Int32))), (.ref tt)])) _
  refine st25 _ ?_
  show Steps p.tables e below (T25.setTop (mkF m 463 Lc [(.int (own_ba (8 : Int32) g w cm n q2 p3)), (.int (s_ + (8 : Int32))), (.ref tt)])) _
  refine st26 _ ?_
  show Steps p.tables e below (T26.setTop (mkF m 464 Lc [])) _
  refine XS.aload X26.here hx rfl (hb hby at_464) hl19 rfl ?_
  show Steps p.tables e below (T26.setTop (mkF m 466 Lc [(.ref tt)])) _
  refine XS.iload X26.here hx rfl (hb hby at_466) hl12 ?_
  show Steps p.tables e below (T26.setTop (mkF m 468 Lc [(.int s_), (.ref tt)])) _
  refine XS.bipush X26.here hx rfl (hb hby at_468) ?_
  show Steps p.tables e below (T26.setTop (mkF m 470 Lc [(.int (9 : Int32)), (.int s_), (.ref tt)])) _
  refine XS.iadd X26.here hx rfl (hb hby at_470) rfl ?_
  show Steps p.tables e below (T26.setTop (mkF m 471 Lc [(.int (s_ + (9 : Int32))), (.ref tt)])) _
  refine XS.bipush X26.here hx rfl (hb hby at_471) ?_
  show Steps p.tables e below (T26.setTop (mkF m 473 Lc [(.int (9 : Int32)), (.int (s_ + (9 : Int32))), (.ref tt)])) _
  refine XS.iload X26.here hx rfl (hb hby at_473) hl6 ?_
  show Steps p.tables e below (T26.setTop (mkF m 475 Lc [(.int g), (.int (9 : Int32)), (.int (s_ + (9 : Int32))), (.ref tt)])) _
  refine XS.iload X26.here hx rfl (hb hby at_475) hl7 ?_
  show Steps p.tables e below (T26.setTop (mkF m 477 Lc [(.int w), (.int g), (.int (9 : Int32)), (.int (s_ + (9 : Int32))), (.ref tt)])) _
  refine XS.iload X26.here hx rfl (hb hby at_477) hl15 ?_
  show Steps p.tables e below (T26.setTop (mkF m 479 Lc [(.int cm), (.int w), (.int g), (.int (9 : Int32)), (.int (s_ + (9 : Int32))), (.ref tt)])) _
  refine XS.iload X26.here hx rfl (hb hby at_479) hl16 ?_
  show Steps p.tables e below (T26.setTop (mkF m 481 Lc [(.int n), (.int cm), (.int w), (.int g), (.int (9 : Int32)), (.int (s_ + (9 : Int32))), (.ref tt)])) _
  refine XS.lloadN X26.here hx rfl (hb hby at_481) hl2 ?_
  show Steps p.tables e below (T26.setTop (mkF m 482 Lc [(.long q2), (.int n), (.int cm), (.int w), (.int g), (.int (9 : Int32)), (.int (s_ + (9 : Int32))), (.ref tt)])) _
  refine XS.iload X26.here hx rfl (hb hby at_482) hl4 ?_
  show Steps p.tables e below (T26.setTop (mkF m 484 Lc [(.int p3), (.long q2), (.int n), (.int cm), (.int w), (.int g), (.int (9 : Int32)), (.int (s_ + (9 : Int32))), (.ref tt)])) _
  refine st28 _ ?_
  show Steps p.tables e below (T28.setTop (mkF m 487 Lc [(.int (own_ba (9 : Int32) g w cm n q2 p3)), (.int (s_ + (9 : Int32))), (.ref tt)])) _
  refine st29 _ ?_
  show Steps p.tables e below (T29.setTop (mkF m 488 Lc [])) _
  refine XS.aload X29.here hx rfl (hb hby at_488) hl19 rfl ?_
  show Steps p.tables e below (T29.setTop (mkF m 490 Lc [(.ref tt)])) _
  refine XS.iload X29.here hx rfl (hb hby at_490) hl12 ?_
  show Steps p.tables e below (T29.setTop (mkF m 492 Lc [(.int s_), (.ref tt)])) _
  refine XS.bipush X29.here hx rfl (hb hby at_492) ?_
  show Steps p.tables e below (T29.setTop (mkF m 494 Lc [(.int (10 : Int32)), (.int s_), (.ref tt)])) _
  refine XS.iadd X29.here hx rfl (hb hby at_494) rfl ?_
  show Steps p.tables e below (T29.setTop (mkF m 495 Lc [(.int (s_ + (10 : Int32))), (.ref tt)])) _
  refine XS.bipush X29.here hx rfl (hb hby at_495) ?_
  show Steps p.tables e below (T29.setTop (mkF m 497 Lc [(.int (10 : Int32)), (.int (s_ + (10 : Int32))), (.ref tt)])) _
  refine XS.iload X29.here hx rfl (hb hby at_497) hl6 ?_
  show Steps p.tables e below (T29.setTop (mkF m 499 Lc [(.int g), (.int (10 : Int32)), (.int (s_ + (10 : Int32))), (.ref tt)])) _
  refine XS.iload X29.here hx rfl (hb hby at_499) hl7 ?_
  show Steps p.tables e below (T29.setTop (mkF m 501 Lc [(.int w), (.int g), (.int (10 : Int32)), (.int (s_ + (10 : Int32))), (.ref tt)])) _
  refine XS.iload X29.here hx rfl (hb hby at_501) hl15 ?_
  show Steps p.tables e below (T29.setTop (mkF m 503 Lc [(.int cm), (.int w), (.int g), (.int (10 : Int32)), (.int (s_ + (10 : Int32))), (.ref tt)])) _
  refine XS.iload X29.here hx rfl (hb hby at_503) hl16 ?_
  show Steps p.tables e below (T29.setTop (mkF m 505 Lc [(.int n), (.int cm), (.int w), (.int g), (.int (10 : Int32)), (.int (s_ + (10 : Int32))), (.ref tt)])) _
  refine XS.lloadN X29.here hx rfl (hb hby at_505) hl2 ?_
  show Steps p.tables e below (T29.setTop (mkF m 506 Lc [(.long q2), (.int n), (.int cm), (.int w), (.int g), (.int (10 : Int32)), (.int (s_ + (10 : Int32))), (.ref tt)])) _
  refine XS.iload X29.here hx rfl (hb hby at_506) hl4 ?_
  show Steps p.tables e below (T29.setTop (mkF m 508 Lc [(.int p3), (.long q2), (.int n), (.int cm), (.int w), (.int g), (.int (10 : Int32)), (.int (s_ + (10 : Int32))), (.ref tt)])) _
  refine st31 _ ?_
  show Steps p.tables e below (T31.setTop (mkF m 511 Lc [(.int (own_ba (10 : Int32) g w cm n q2 p3)), (.int (s_ + (10 : Int32))), (.ref tt)])) _
  refine st32 _ ?_
  show Steps p.tables e below (T32.setTop (mkF m 512 Lc [])) _
  refine XS.aload X32.here hx rfl (hb hby at_512) hl19 rfl ?_
  show Steps p.tables e below (T32.setTop (mkF m 514 Lc [(.ref tt)])) _
  refine XS.iload X32.here hx rfl (hb hby at_514) hl12 ?_
  show Steps p.tables e below (T32.setTop (mkF m 516 Lc [(.int s_), (.ref tt)])) _
  refine XS.bipush X32.here hx rfl (hb hby at_516) ?_
  show Steps p.tables e below (T32.setTop (mkF m 518 Lc [(.int (11 : Int32)), (.int s_), (.ref tt)])) _
  refine XS.iadd X32.here hx rfl (hb hby at_518) rfl ?_
  show Steps p.tables e below (T32.setTop (mkF m 519 Lc [(.int (s_ + (11 : Int32))), (.ref tt)])) _
  refine XS.bipush X32.here hx rfl (hb hby at_519) ?_
  show Steps p.tables e below (T32.setTop (mkF m 521 Lc [(.int (11 : Int32)), (.int (s_ + (11 : Int32))), (.ref tt)])) _
  refine XS.iload X32.here hx rfl (hb hby at_521) hl6 ?_
  show Steps p.tables e below (T32.setTop (mkF m 523 Lc [(.int g), (.int (11 : Int32)), (.int (s_ + (11 : Int32))), (.ref tt)])) _
  refine XS.iload X32.here hx rfl (hb hby at_523) hl7 ?_
  show Steps p.tables e below (T32.setTop (mkF m 525 Lc [(.int w), (.int g), (.int (11 : Int32)), (.int (s_ + (11 : Int32))), (.ref tt)])) _
  refine XS.iload X32.here hx rfl (hb hby at_525) hl15 ?_
  show Steps p.tables e below (T32.setTop (mkF m 527 Lc [(.int cm), (.int w), (.int g), (.int (11 : Int32)), (.int (s_ + (11 : Int32))), (.ref tt)])) _
  refine XS.iload X32.here hx rfl (hb hby at_527) hl16 ?_
  show Steps p.tables e below (T32.setTop (mkF m 529 Lc [(.int n), (.int cm), (.int w), (.int g), (.int (11 : Int32)), (.int (s_ + (11 : Int32))), (.ref tt)])) _
  refine XS.lloadN X32.here hx rfl (hb hby at_529) hl2 ?_
  show Steps p.tables e below (T32.setTop (mkF m 530 Lc [(.long q2), (.int n), (.int cm), (.int w), (.int g), (.int (11 : Int32)), (.int (s_ + (11 : Int32))), (.ref tt)])) _
  refine XS.iload X32.here hx rfl (hb hby at_530) hl4 ?_
  show Steps p.tables e below (T32.setTop (mkF m 532 Lc [(.int p3), (.long q2), (.int n), (.int cm), (.int w), (.int g), (.int (11 : Int32)), (.int (s_ + (11 : Int32))), (.ref tt)])) _
  refine st34 _ ?_
  show Steps p.tables e below (T34.setTop (mkF m 535 Lc [(.int (own_ba (11 : Int32) g w cm n q2 p3)), (.int (s_ + (11 : Int32))), (.ref tt)])) _
  refine st35 _ ?_
  show Steps p.tables e below (T35.setTop (mkF m 536 Lc [])) _
  refine XS.aload X35.here hx rfl (hb hby at_536) hl19 rfl ?_
  show Steps p.tables e below (T35.setTop (mkF m 538 Lc [(.ref tt)])) _
  refine XS.iload X35.here hx rfl (hb hby at_538) hl12 ?_
  show Steps p.tables e below (T35.setTop (mkF m 540 Lc [(.int s_), (.ref tt)])) _
  refine XS.bipush X35.here hx rfl (hb hby at_540) ?_
  show Steps p.tables e below (T35.setTop (mkF m 542 Lc [(.int (12 : Int32)), (.int s_), (.ref tt)])) _
  refine XS.iadd X35.here hx rfl (hb hby at_542) rfl ?_
  show Steps p.tables e below (T35.setTop (mkF m 543 Lc [(.int (s_ + (12 : Int32))), (.ref tt)])) _
  refine XS.bipush X35.here hx rfl (hb hby at_543) ?_
  show Steps p.tables e below (T35.setTop (mkF m 545 Lc [(.int (12 : Int32)), (.int (s_ + (12 : Int32))), (.ref tt)])) _
  refine XS.iload X35.here hx rfl (hb hby at_545) hl6 ?_
  show Steps p.tables e below (T35.setTop (mkF m 547 Lc [(.int g), (.int (12 : Int32)), (.int (s_ + (12 : Int32))), (.ref tt)])) _
  refine XS.iload X35.here hx rfl (hb hby at_547) hl7 ?_
  show Steps p.tables e below (T35.setTop (mkF m 549 Lc [(.int w), (.int g), (.int (12 : Int32)), (.int (s_ + (12 : Int32))), (.ref tt)])) _
  refine XS.iload X35.here hx rfl (hb hby at_549) hl15 ?_
  show Steps p.tables e below (T35.setTop (mkF m 551 Lc [(.int cm), (.int w), (.int g), (.int (12 : Int32)), (.int (s_ + (12 : Int32))), (.ref tt)])) _
  refine XS.iload X35.here hx rfl (hb hby at_551) hl16 ?_
  show Steps p.tables e below (T35.setTop (mkF m 553 Lc [(.int n), (.int cm), (.int w), (.int g), (.int (12 : Int32)), (.int (s_ + (12 : Int32))), (.ref tt)])) _
  refine XS.lloadN X35.here hx rfl (hb hby at_553) hl2 ?_
  show Steps p.tables e below (T35.setTop (mkF m 554 Lc [(.long q2), (.int n), (.int cm), (.int w), (.int g), (.int (12 : Int32)), (.int (s_ + (12 : Int32))), (.ref tt)])) _
  refine XS.iload X35.here hx rfl (hb hby at_554) hl4 ?_
  show Steps p.tables e below (T35.setTop (mkF m 556 Lc [(.int p3), (.long q2), (.int n), (.int cm), (.int w), (.int g), (.int (12 : Int32)), (.int (s_ + (12 : Int32))), (.ref tt)])) _
  refine st37 _ ?_
  show Steps p.tables e below (T37.setTop (mkF m 559 Lc [(.int (own_ba (12 : Int32) g w cm n q2 p3)), (.int (s_ + (12 : Int32))), (.ref tt)])) _
  refine st38 _ ?_
  show Steps p.tables e below (T38.setTop (mkF m 560 Lc [])) _
  refine XS.aload X38.here hx rfl (hb hby at_560) hl19 rfl ?_
  show Steps p.tables e below (T38.setTop (mkF m 562 Lc [(.ref tt)])) _
  refine XS.iload X38.here hx rfl (hb hby at_562) hl12 ?_
  show Steps p.tables e below (T38.setTop (mkF m 564 Lc [(.int s_), (.ref tt)])) _
  refine XS.bipush X38.here hx rfl (hb hby at_564) ?_
  show Steps p.tables e below (T38.setTop (mkF m 566 Lc [(.int (13 : Int32)), (.int s_), (.ref tt)])) _
  refine XS.iadd X38.here hx rfl (hb hby at_566) rfl ?_
  show Steps p.tables e below (T38.setTop (mkF m 567 Lc [(.int (s_ + (13 : Int32))), (.ref tt)])) _
  refine XS.bipush X38.here hx rfl (hb hby at_567) ?_
  show Steps p.tables e below (T38.setTop (mkF m 569 Lc [(.int (13 : Int32)), (.int (s_ + (13 : Int32))), (.ref tt)])) _
  refine XS.iload X38.here hx rfl (hb hby at_569) hl6 ?_
  show Steps p.tables e below (T38.setTop (mkF m 571 Lc [(.int g), (.int (13 : Int32)), (.int (s_ + (13 : Int32))), (.ref tt)])) _
  refine XS.iload X38.here hx rfl (hb hby at_571) hl7 ?_
  show Steps p.tables e below (T38.setTop (mkF m 573 Lc [(.int w), (.int g), (.int (13 : Int32)), (.int (s_ + (13 : Int32))), (.ref tt)])) _
  refine XS.iload X38.here hx rfl (hb hby at_573) hl15 ?_
  show Steps p.tables e below (T38.setTop (mkF m 575 Lc [(.int cm), (.int w), (.int g), (.int (13 : Int32)), (.int (s_ + (13 : Int32))), (.ref tt)])) _
  refine XS.iload X38.here hx rfl (hb hby at_575) hl16 ?_
  show Steps p.tables e below (T38.setTop (mkF m 577 Lc [(.int n), (.int cm), (.int w), (.int g), (.int (13 : Int32)), (.int (s_ + (13 : Int32))), (.ref tt)])) _
  refine XS.lloadN X38.here hx rfl (hb hby at_577) hl2 ?_
  show Steps p.tables e below (T38.setTop (mkF m 578 Lc [(.long q2), (.int n), (.int cm), (.int w), (.int g), (.int (13 : Int32)), (.int (s_ + (13 : Int32))), (.ref tt)])) _
  refine XS.iload X38.here hx rfl (hb hby at_578) hl4 ?_
  show Steps p.tables e below (T38.setTop (mkF m 580 Lc [(.int p3), (.long q2), (.int n), (.int cm), (.int w), (.int g), (.int (13 : Int32)), (.int (s_ + (13 : Int32))), (.ref tt)])) _
  refine st40 _ ?_
  show Steps p.tables e below (T40.setTop (mkF m 583 Lc [(.int (own_ba (13 : Int32) g w cm n q2 p3)), (.int (s_ + (13 : Int32))), (.ref tt)])) _
  refine st41 _ ?_
  show Steps p.tables e below (T41.setTop (mkF m 584 Lc [])) _
  refine XS.aload X41.here hx rfl (hb hby at_584) hl19 rfl ?_
  show Steps p.tables e below (T41.setTop (mkF m 586 Lc [(.ref tt)])) _
  refine XS.iload X41.here hx rfl (hb hby at_586) hl12 ?_
  show Steps p.tables e below (T41.setTop (mkF m 588 Lc [(.int s_), (.ref tt)])) _
  refine XS.bipush X41.here hx rfl (hb hby at_588) ?_
  show Steps p.tables e below (T41.setTop (mkF m 590 Lc [(.int (14 : Int32)), (.int s_), (.ref tt)])) _
  refine XS.iadd X41.here hx rfl (hb hby at_590) rfl ?_
  show Steps p.tables e below (T41.setTop (mkF m 591 Lc [(.int (s_ + (14 : Int32))), (.ref tt)])) _
  refine XS.bipush X41.here hx rfl (hb hby at_591) ?_
  show Steps p.tables e below (T41.setTop (mkF m 593 Lc [(.int (14 : Int32)), (.int (s_ + (14 : Int32))), (.ref tt)])) _
  refine XS.iload X41.here hx rfl (hb hby at_593) hl6 ?_
  show Steps p.tables e below (T41.setTop (mkF m 595 Lc [(.int g), (.int (14 : Int32)), (.int (s_ + (14 : Int32))), (.ref tt)])) _
  refine XS.iload X41.here hx rfl (hb hby at_595) hl7 ?_
  show Steps p.tables e below (T41.setTop (mkF m 597 Lc [(.int w), (.int g), (.int (14 : Int32)), (.int (s_ + (14 : Int32))), (.ref tt)])) _
  refine XS.iload X41.here hx rfl (hb hby at_597) hl15 ?_
  show Steps p.tables e below (T41.setTop (mkF m 599 Lc [(.int cm), (.int w), (.int g), (.int (14 : Int32)), (.int (s_ + (14 : Int32))), (.ref tt)])) _
  refine XS.iload X41.here hx rfl (hb hby at_599) hl16 ?_
  show Steps p.tables e below (T41.setTop (mkF m 601 Lc [(.int n), (.int cm), (.int w), (.int g), (.int (14 : Int32)), (.int (s_ + (14 : Int32))), (.ref tt)])) _
  refine XS.lloadN X41.here hx rfl (hb hby at_601) hl2 ?_
  show Steps p.tables e below (T41.setTop (mkF m 602 Lc [(.long q2), (.int n), (.int cm), (.int w), (.int g), (.int (14 : Int32)), (.int (s_ + (14 : Int32))), (.ref tt)])) _
  refine XS.iload X41.here hx rfl (hb hby at_602) hl4 ?_
  show Steps p.tables e below (T41.setTop (mkF m 604 Lc [(.int p3), (.long q2), (.int n), (.int cm), (.int w), (.int g), (.int (14 : Int32)), (.int (s_ + (14 : Int32))), (.ref tt)])) _
  refine st43 _ ?_
  show Steps p.tables e below (T43.setTop (mkF m 607 Lc [(.int (own_ba (14 : Int32) g w cm n q2 p3)), (.int (s_ + (14 : Int32))), (.ref tt)])) _
  refine st44 _ ?_
  show Steps p.tables e below (T44.setTop (mkF m 608 Lc [])) _
  refine XS.aload X44.here hx rfl (hb hby at_608) hl19 rfl ?_
  show Steps p.tables e below (T44.setTop (mkF m 610 Lc [(.ref tt)])) _
  refine XS.iload X44.here hx rfl (hb hby at_610) hl12 ?_
  show Steps p.tables e below (T44.setTop (mkF m 612 Lc [(.int s_), (.ref tt)])) _
  refine XS.bipush X44.here hx rfl (hb hby at_612) ?_
  show Steps p.tables e below (T44.setTop (mkF m 614 Lc [(.int (15 : Int32)), (.int s_), (.ref tt)])) _
  refine XS.iadd X44.here hx rfl (hb hby at_614) rfl ?_
  show Steps p.tables e below (T44.setTop (mkF m 615 Lc [(.int (s_ + (15 : Int32))), (.ref tt)])) _
  refine XS.bipush X44.here hx rfl (hb hby at_615) ?_
  show Steps p.tables e below (T44.setTop (mkF m 617 Lc [(.int (15 : Int32)), (.int (s_ + (15 : Int32))), (.ref tt)])) _
  refine XS.iload X44.here hx rfl (hb hby at_617) hl6 ?_
  show Steps p.tables e below (T44.setTop (mkF m 619 Lc [(.int g), (.int (15 : Int32)), (.int (s_ + (15 : Int32))), (.ref tt)])) _
  refine XS.iload X44.here hx rfl (hb hby at_619) hl7 ?_
  show Steps p.tables e below (T44.setTop (mkF m 621 Lc [(.int w), (.int g), (.int (15 : Int32)), (.int (s_ + (15 : Int32))), (.ref tt)])) _
  refine XS.iload X44.here hx rfl (hb hby at_621) hl15 ?_
  show Steps p.tables e below (T44.setTop (mkF m 623 Lc [(.int cm), (.int w), (.int g), (.int (15 : Int32)), (.int (s_ + (15 : Int32))), (.ref tt)])) _
  refine XS.iload X44.here hx rfl (hb hby at_623) hl16 ?_
  show Steps p.tables e below (T44.setTop (mkF m 625 Lc [(.int n), (.int cm), (.int w), (.int g), (.int (15 : Int32)), (.int (s_ + (15 : Int32))), (.ref tt)])) _
  refine XS.lloadN X44.here hx rfl (hb hby at_625) hl2 ?_
  show Steps p.tables e below (T44.setTop (mkF m 626 Lc [(.long q2), (.int n), (.int cm), (.int w), (.int g), (.int (15 : Int32)), (.int (s_ + (15 : Int32))), (.ref tt)])) _
  refine XS.iload X44.here hx rfl (hb hby at_626) hl4 ?_
  show Steps p.tables e below (T44.setTop (mkF m 628 Lc [(.int p3), (.long q2), (.int n), (.int cm), (.int w), (.int g), (.int (15 : Int32)), (.int (s_ + (15 : Int32))), (.ref tt)])) _
  refine st46 _ ?_
  show Steps p.tables e below (T46.setTop (mkF m 631 Lc [(.int (own_ba (15 : Int32) g w cm n q2 p3)), (.int (s_ + (15 : Int32))), (.ref tt)])) _
  refine st47 _ ?_
  show Steps p.tables e below (T47.setTop (mkF m 632 Lc [])) _
  refine XS.aload X47.here hx rfl (hb hby at_632) hl19 rfl ?_
  show Steps p.tables e below (T47.setTop (mkF m 634 Lc [(.ref tt)])) _
  refine XS.iload X47.here hx rfl (hb hby at_634) hl18 ?_
  show Steps p.tables e below (T47.setTop (mkF m 636 Lc [(.int en), (.ref tt)])) _
  refine XS.bipush X47.here hx rfl (hb hby at_636) ?_
  show Steps p.tables e below (T47.setTop (mkF m 638 Lc [(.int (44 : Int32)), (.int en), (.ref tt)])) _
  refine st48 _ ?_
  show Steps p.tables e below (T48.setTop (mkF m 639 Lc [])) _
  exact kt
theorem own_hz {s_ z0 : Int32} (h : 0 ≤ s_.toInt ∧ s_.toInt ≤ 3) (h0 : 0 ≤ z0.toInt ∧ z0.toInt ≤ 15) : ∀ z : Int32, (z = z0 ∨ z = (z0 + (1 : Int32)) ∨ z = ((z0 + (1 : Int32)) + (1 : Int32))) → ¬ (s_ + z) < 0 ∧ (s_ + z) < (72 : Int32) := by
  intro z hz
  have t1 := own_i_add (rfl : z0.toInt = z0.toInt) (show (1 : Int32).toInt = 1 from rfl) (by omega)
  have t2 := own_i_add t1 (show (1 : Int32).toInt = 1 from rfl) (by omega)
  have tz : 0 ≤ z.toInt ∧ z.toInt ≤ 17 := by rcases hz with rfl | rfl | rfl <;> omega
  have t := own_i_add (rfl : s_.toInt = s_.toInt) (rfl : z.toInt = z.toInt) (by omega)
  exact own_ix (by omega) (by rw [t]; show _ < (72 : Int); omega)
theorem own_n01 {z : Int32} (h : z = 1) : ¬ z = (0 : Int32) := by rw [h]; decide
set_option maxRecDepth 65536 in
set_option maxHeartbeats 40000000 in
theorem own_look {p : Program} {l : Launch} {e : Env} {s : State} {m : MethodId} {args : Array Value} {below : List Frame} {meth : Method} {c : Code} {T0 : State} {locs : List Loc} {Z : State} {a0 : Array Value} {h0 : Heap} (Lc : Array Slot) (s_ : Int32) (tt : Addr) (pl : Addr) (r : Int32) (c1 : Int32) (a1 : Int32) (c2 : Int32) (a2 : Int32) (pf : Nat → Int32) (tf : Nat → Int32) (X0 : Stand p l e room_1 s m args below meth c T0 locs 2 136) (hx : p.tables.exec = Jvm.exec) (hZ : Z.Warmed39 s.vm) (hw : ∀ d ∈ tables_1, d.before a0 Z = true) (hby : c.code = code) (hml : c.maxLocals = 31) (hown : s.vm.findClass "com/example/vestwright/vestwright/model/GroupedDecimalUngroupPinLaw" = some m.cls) (e0 : T0.heap = h0) (hLs : Lc.size = 31) (hl12 : Lc[12]? = some (.val (.int s_))) (hl19 : Lc[19]? = some (.val (.ref tt))) (hl20 : Lc[20]? = some (.val (.ref pl))) (hl26 : Lc[26]? = some (.val (.int r))) (hl27 : Lc[27]? = some (.val (.int c1))) (hl28 : Lc[28]? = some (.val (.int a1))) (hl29 : Lc[29]? = some (.val (.int c2))) (hl30 : Lc[30]? = some (.val (.int a2))) (n0 : Nat) (Z0 : n0 ≤ h0.size) (N0 : Fr n0 locs) (AT : own_AI Z h0 tt .byte (72 : Int32) tf) (AP : own_AI Z h0 pl .byte (64 : Int32) pf) (hs3 : 0 ≤ s_.toInt ∧ s_.toInt ≤ 3) (hok : ∀ k : Nat, k < 16 → own_ok (Int32.ofNat k) r s_ c1 a1 c2 a2 pf tf = 1) :
    ∃ (T' : State) (locs' : List Loc), Stand p l e room_1 s m args below meth c T' locs' 2 136 ∧ T'.heap = h0 ∧ Fr n0 locs' ∧ ∀ target, Steps p.tables e below (T'.setTop (mkF m 1266 Lc [.int (1 : Int32)])) target → Steps p.tables e below (T0.setTop (mkF m 883 Lc [])) target := by
  obtain ⟨_, _, ⟨T1, L1, k1, n1⟩, -, X1, ⟨Lc1, hQ1, l1, y1, z1⟩, st1⟩ := Jvm.LawKit.callS X0 hx (y := (⟨"com/example/vestwright/vestwright/model/GroupedDecimalUngroupPinLaw", "okAt", "(II[B[BIZIZI)Z"⟩ : MethodName)) hown (mvT hZ (hw _ (List.mem_of_getElem? (i := 9) rfl))) (mvT hZ (hw _ (List.mem_of_getElem? (i := 10) rfl))) (mvT hZ (hw _ (List.mem_of_getElem? (i := 3) rfl))) (mvT hZ (hw _ (List.mem_of_getElem? (i := 11) rfl))) (by decide) (backOf (W := 0) (rm5 l Z a0 hw [] (0 : Int32) r pl tt s_ c1 a1 c2 a2 pf tf h0 n0 Z0 AP AT ⟨by decide, by decide⟩ (own_hz hs3 (by decide))) hZ (hw _ (List.mem_of_getElem? (i := 11) rfl)) (hw _ (List.mem_of_getElem? (i := 3) rfl)) (by decide) (by decide)) (g := (mkF m 900 Lc [(.int a2), (.int c2), (.int a1), (.int c1), (.int s_), (.ref tt), (.ref pl), (.int r), (.int (0 : Int32))])) rfl (by rw [hml]; exact hLs) (argsL := [(.int (0 : Int32)), (.int r), (.ref pl), (.ref tt), (.int s_), (.int c1), (.int a1), (.int c2), (.int a2)]) (rest := []) (lenOf pd_5 rfl) rfl (by show 2 * 0 + _ ≤ _; exact Nat.le_of_eq rfl) (hb hby at_900) (fun _ _ => ⟨rfl, e0, (by decide : 2 + 0 ≤ _), (by decide : 136 + 0 ≤ _)⟩)
  dsimp only [Pt.U, Pt.locs, Pt.cells, Pt.slots] at X1 l1 y1 z1 st1 hQ1
  subst l1 y1 z1
  obtain ⟨rfl, Nq1, e1⟩ := hQ1
  have N1 := Fr.app N0 Nq1
  obtain ⟨Lg2, Xg2, Ng2⟩ := own_gen X1 N1
  obtain ⟨_, _, ⟨T3, L3, k3, n3⟩, -, X3, ⟨Lc3, hQ3, l3, y3, z3⟩, st3⟩ := Jvm.LawKit.callS Xg2 hx (y := (⟨"com/example/vestwright/vestwright/model/GroupedDecimalUngroupPinLaw", "okAt", "(II[B[BIZIZI)Z"⟩ : MethodName)) hown (mvT hZ (hw _ (List.mem_of_getElem? (i := 9) rfl))) (mvT hZ (hw _ (List.mem_of_getElem? (i := 10) rfl))) (mvT hZ (hw _ (List.mem_of_getElem? (i := 3) rfl))) (mvT hZ (hw _ (List.mem_of_getElem? (i := 11) rfl))) (by decide) (backOf (W := 0) (rm5 l Z a0 hw [] (1 : Int32) r pl tt s_ c1 a1 c2 a2 pf tf h0 n0 Z0 AP AT ⟨by decide, by decide⟩ (own_hz hs3 (by decide))) hZ (hw _ (List.mem_of_getElem? (i := 11) rfl)) (hw _ (List.mem_of_getElem? (i := 3) rfl)) (by decide) (by decide)) (g := (mkF m 923 Lc [(.int a2), (.int c2), (.int a1), (.int c1), (.int s_), (.ref tt), (.ref pl), (.int r), (.int (1 : Int32))])) rfl (by rw [hml]; exact hLs) (argsL := [(.int (1 : Int32)), (.int r), (.ref pl), (.ref tt), (.int s_), (.int c1), (.int a1), (.int c2), (.int a2)]) (rest := []) (lenOf pd_5 rfl) rfl (by show 2 * 0 + _ ≤ _; exact Nat.le_of_eq rfl) (hb hby at_923) (fun _ _ => ⟨rfl, e1, (by decide : 2 + 0 ≤ _), (by decide : 136 + 0 ≤ _)⟩)
  dsimp only [Pt.U, Pt.locs, Pt.cells, Pt.slots] at X3 l3 y3 z3 st3 hQ3
  subst l3 y3 z3
  obtain ⟨rfl, Nq3, e3⟩ := hQ3
  have N3 := Fr.app Ng2 Nq3
  obtain ⟨Lg4, Xg4, Ng4⟩ := own_gen X3 N3
  obtain ⟨_, _, ⟨T5, L5, k5, n5⟩, -, X5, ⟨Lc5, hQ5, l5, y5, z5⟩, st5⟩ := Jvm.LawKit.callS Xg4 hx (y := (⟨"com/example/vestwright/vestwright/model/GroupedDecimalUngroupPinLaw", "okAt", "(II[B[BIZIZI)Z"⟩ : MethodName)) hown (mvT hZ (hw _ (List.mem_of_getElem? (i := 9) rfl))) (mvT hZ (hw _ (List.mem_of_getElem? (i := 10) rfl))) (mvT hZ (hw _ (List.mem_of_getElem? (i := 3) rfl))) (mvT hZ (hw _ (List.mem_of_getElem? (i := 11) rfl))) (by decide) (backOf (W := 0) (rm5 l Z a0 hw [] (2 : Int32) r pl tt s_ c1 a1 c2 a2 pf tf h0 n0 Z0 AP AT ⟨by decide, by decide⟩ (own_hz hs3 (by decide))) hZ (hw _ (List.mem_of_getElem? (i := 11) rfl)) (hw _ (List.mem_of_getElem? (i := 3) rfl)) (by decide) (by decide)) (g := (mkF m 946 Lc [(.int a2), (.int c2), (.int a1), (.int c1), (.int s_), (.ref tt), (.ref pl), (.int r), (.int (2 : Int32))])) rfl (by rw [hml]; exact hLs) (argsL := [(.int (2 : Int32)), (.int r), (.ref pl), (.ref tt), (.int s_), (.int c1), (.int a1), (.int c2), (.int a2)]) (rest := []) (lenOf pd_5 rfl) rfl (by show 2 * 0 + _ ≤ _; exact Nat.le_of_eq rfl) (hb hby at_946) (fun _ _ => ⟨rfl, e3, (by decide : 2 + 0 ≤ _), (by decide : 136 + 0 ≤ _)⟩)
  dsimp only [Pt.U, Pt.locs, Pt.cells, Pt.slots] at X5 l5 y5 z5 st5 hQ5
  subst l5 y5 z5
  obtain ⟨rfl, Nq5, e5⟩ := hQ5
  have N5 := Fr.app Ng4 Nq5
  obtain ⟨Lg6, Xg6, Ng6⟩ := own_gen X5 N5
  obtain ⟨_, _, ⟨T7, L7, k7, n7⟩, -, X7, ⟨Lc7, hQ7, l7, y7, z7⟩, st7⟩ := Jvm.LawKit.callS Xg6 hx (y := (⟨"com/example/vestwright/vestwright/model/GroupedDecimalUngroupPinLaw", "okAt", "(II[B[BIZIZI)Z"⟩ : MethodName)) hown (mvT hZ (hw _ (List.mem_of_getElem? (i := 9) rfl))) (mvT hZ (hw _ (List.mem_of_getElem? (i := 10) rfl))) (mvT hZ (hw _ (List.mem_of_getElem? (i := 3) rfl))) (mvT hZ (hw _ (List.mem_of_getElem? (i := 11) rfl))) (by decide) (backOf (W := 0) (rm5 l Z a0 hw [] (3 : Int32) r pl tt s_ c1 a1 c2 a2 pf tf h0 n0 Z0 AP AT ⟨by decide, by decide⟩ (own_hz hs3 (by decide))) hZ (hw _ (List.mem_of_getElem? (i := 11) rfl)) (hw _ (List.mem_of_getElem? (i := 3) rfl)) (by decide) (by decide)) (g := (mkF m 969 Lc [(.int a2), (.int c2), (.int a1), (.int c1), (.int s_), (.ref tt), (.ref pl), (.int r), (.int (3 : Int32))])) rfl (by rw [hml]; exact hLs) (argsL := [(.int (3 : Int32)), (.int r), (.ref pl), (.ref tt), (.int s_), (.int c1), (.int a1), (.int c2), (.int a2)]) (rest := []) (lenOf pd_5 rfl) rfl (by show 2 * 0 + _ ≤ _; exact Nat.le_of_eq rfl) (hb hby at_969) (fun _ _ => ⟨rfl, e5, (by decide : 2 + 0 ≤ _), (by decide : 136 + 0 ≤ _)⟩)
  dsimp only [Pt.U, Pt.locs, Pt.cells, Pt.slots] at X7 l7 y7 z7 st7 hQ7
  subst l7 y7 z7
  obtain ⟨rfl, Nq7, e7⟩ := hQ7
  have N7 := Fr.app Ng6 Nq7
  obtain ⟨Lg8, Xg8, Ng8⟩ := own_gen X7 N7
  obtain ⟨_, _, ⟨T9, L9, k9, n9⟩, -, X9, ⟨Lc9, hQ9, l9, y9, z9⟩, st9⟩ := Jvm.LawKit.callS Xg8 hx (y := (⟨"com/example/vestwright/vestwright/model/GroupedDecimalUngroupPinLaw", "okAt", "(II[B[BIZIZI)Z"⟩ : MethodName)) hown (mvT hZ (hw _ (List.mem_of_getElem? (i := 9) rfl))) (mvT hZ (hw _ (List.mem_of_getElem? (i := 10) rfl))) (mvT hZ (hw _ (List.mem_of_getElem? (i := 3) rfl))) (mvT hZ (hw _ (List.mem_of_getElem? (i := 11) rfl))) (by decide) (backOf (W := 0) (rm5 l Z a0 hw [] (4 : Int32) r pl tt s_ c1 a1 c2 a2 pf tf h0 n0 Z0 AP AT ⟨by decide, by decide⟩ (own_hz hs3 (by decide))) hZ (hw _ (List.mem_of_getElem? (i := 11) rfl)) (hw _ (List.mem_of_getElem? (i := 3) rfl)) (by decide) (by decide)) (g := (mkF m 992 Lc [(.int a2), (.int c2), (.int a1), (.int c1), (.int s_), (.ref tt), (.ref pl), (.int r), (.int (4 : Int32))])) rfl (by rw [hml]; exact hLs) (argsL := [(.int (4 : Int32)), (.int r), (.ref pl), (.ref tt), (.int s_), (.int c1), (.int a1), (.int c2), (.int a2)]) (rest := []) (lenOf pd_5 rfl) rfl (by show 2 * 0 + _ ≤ _; exact Nat.le_of_eq rfl) (hb hby at_992) (fun _ _ => ⟨rfl, e7, (by decide : 2 + 0 ≤ _), (by decide : 136 + 0 ≤ _)⟩)
  dsimp only [Pt.U, Pt.locs, Pt.cells, Pt.slots] at X9 l9 y9 z9 st9 hQ9
  subst l9 y9 z9
  obtain ⟨rfl, Nq9, e9⟩ := hQ9
  have N9 := Fr.app Ng8 Nq9
  obtain ⟨Lg10, Xg10, Ng10⟩ := own_gen X9 N9
  obtain ⟨_, _, ⟨T11, L11, k11, n11⟩, -, X11, ⟨Lc11, hQ11, l11, y11, z11⟩, st11⟩ := Jvm.LawKit.callS Xg10 hx (y := (⟨"com/example/vestwright/vestwright/model/GroupedDecimalUngroupPinLaw", "okAt", "(II[B[BIZIZI)Z"⟩ : MethodName)) hown (mvT hZ (hw _ (List.mem_of_getElem? (i := 9) rfl))) (mvT hZ (hw _ (List.mem_of_getElem? (i := 10) rfl))) (mvT hZ (hw _ (List.mem_of_getElem? (i := 3) rfl))) (mvT hZ (hw _ (List.mem_of_getElem? (i := 11) rfl))) (by decide) (backOf (W := 0) (rm5 l Z a0 hw [] (5 : Int32) r pl tt s_ c1 a1 c2 a2 pf tf h0 n0 Z0 AP AT ⟨by decide, by decide⟩ (own_hz hs3 (by decide))) hZ (hw _ (List.mem_of_getElem? (i := 11) rfl)) (hw _ (List.mem_of_getElem? (i := 3) rfl)) (by decide) (by decide)) (g := (mkF m 1015 Lc [(.int a2), (.int c2), (.int a1), (.int c1), (.int s_), (.ref tt), (.ref pl), (.int r), (.int (5 : Int32))])) rfl (by rw [hml]; exact hLs) (argsL := [(.int (5 : Int32)), (.int r), (.ref pl), (.ref tt), (.int s_), (.int c1), (.int a1), (.int c2), (.int a2)]) (rest := []) (lenOf pd_5 rfl) rfl (by show 2 * 0 + _ ≤ _; exact Nat.le_of_eq rfl) (hb hby at_1015) (fun _ _ => ⟨rfl, e9, (by decide : 2 + 0 ≤ _), (by decide : 136 + 0 ≤ _)⟩)
  dsimp only [Pt.U, Pt.locs, Pt.cells, Pt.slots] at X11 l11 y11 z11 st11 hQ11
  subst l11 y11 z11
  obtain ⟨rfl, Nq11, e11⟩ := hQ11
  have N11 := Fr.app Ng10 Nq11
  obtain ⟨Lg12, Xg12, Ng12⟩ := own_gen X11 N11
  obtain ⟨_, _, ⟨T13, L13, k13, n13⟩, -, X13, ⟨Lc13, hQ13, l13, y13, z13⟩, st13⟩ := Jvm.LawKit.callS Xg12 hx (y := (⟨"com/example/vestwright/vestwright/model/GroupedDecimalUngroupPinLaw", "okAt", "(II[B[BIZIZI)Z"⟩ : MethodName)) hown (mvT hZ (hw _ (List.mem_of_getElem? (i := 9) rfl))) (mvT hZ (hw _ (List.mem_of_getElem? (i := 10) rfl))) (mvT hZ (hw _ (List.mem_of_getElem? (i := 3) rfl))) (mvT hZ (hw _ (List.mem_of_getElem? (i := 11) rfl))) (by decide) (backOf (W := 0) (rm5 l Z a0 hw [] (6 : Int32) r pl tt s_ c1 a1 c2 a2 pf tf h0 n0 Z0 AP AT ⟨by decide, by decide⟩ (own_hz hs3 (by decide))) hZ (hw _ (List.mem_of_getElem? (i := 11) rfl)) (hw _ (List.mem_of_getElem? (i := 3) rfl)) (by decide) (by decide)) (g := (mkF m 1039 Lc [(.int a2), (.int c2), (.int a1), (.int c1), (.int s_), (.ref tt), (.ref pl), (.int r), (.int (6 : Int32))])) rfl (by rw [hml]; exact hLs) (argsL := [(.int (6 : Int32)), (.int r), (.ref pl), (.ref tt), (.int s_), (.int c1), (.int a1), (.int c2), (.int a2)]) (rest := []) (lenOf pd_5 rfl) rfl (by show 2 * 0 + _ ≤ _; exact Nat.le_of_eq rfl) (hb hby at_1039) (fun _ _ => ⟨rfl, e11, (by decide : 2 + 0 ≤ _), (by decide : 136 + 0 ≤ _)⟩)
  dsimp only [Pt.U, Pt.locs, Pt.cells, Pt.slots] at X13 l13 y13 z13 st13 hQ13
  subst l13 y13 z13
  obtain ⟨rfl, Nq13, e13⟩ := hQ13
  have N13 := Fr.app Ng12 Nq13
  obtain ⟨Lg14, Xg14, Ng14⟩ := own_gen X13 N13
  obtain ⟨_, _, ⟨T15, L15, k15, n15⟩, -, X15, ⟨Lc15, hQ15, l15, y15, z15⟩, st15⟩ := Jvm.LawKit.callS Xg14 hx (y := (⟨"com/example/vestwright/vestwright/model/GroupedDecimalUngroupPinLaw", "okAt", "(II[B[BIZIZI)Z"⟩ : MethodName)) hown (mvT hZ (hw _ (List.mem_of_getElem? (i := 9) rfl))) (mvT hZ (hw _ (List.mem_of_getElem? (i := 10) rfl))) (mvT hZ (hw _ (List.mem_of_getElem? (i := 3) rfl))) (mvT hZ (hw _ (List.mem_of_getElem? (i := 11) rfl))) (by decide) (backOf (W := 0) (rm5 l Z a0 hw [] (7 : Int32) r pl tt s_ c1 a1 c2 a2 pf tf h0 n0 Z0 AP AT ⟨by decide, by decide⟩ (own_hz hs3 (by decide))) hZ (hw _ (List.mem_of_getElem? (i := 11) rfl)) (hw _ (List.mem_of_getElem? (i := 3) rfl)) (by decide) (by decide)) (g := (mkF m 1063 Lc [(.int a2), (.int c2), (.int a1), (.int c1), (.int s_), (.ref tt), (.ref pl), (.int r), (.int (7 : Int32))])) rfl (by rw [hml]; exact hLs) (argsL := [(.int (7 : Int32)), (.int r), (.ref pl), (.ref tt), (.int s_), (.int c1), (.int a1), (.int c2), (.int a2)]) (rest := []) (lenOf pd_5 rfl) rfl (by show 2 * 0 + _ ≤ _; exact Nat.le_of_eq rfl) (hb hby at_1063) (fun _ _ => ⟨rfl, e13, (by decide : 2 + 0 ≤ _), (by decide : 136 + 0 ≤ _)⟩)
  dsimp only [Pt.U, Pt.locs, Pt.cells, Pt.slots] at X15 l15 y15 z15 st15 hQ15
  subst l15 y15 z15
  obtain ⟨rfl, Nq15, e15⟩ := hQ15
  have N15 := Fr.app Ng14 Nq15
  obtain ⟨Lg16, Xg16, Ng16⟩ := own_gen X15 N15
  obtain ⟨_, _, ⟨T17, L17, k17, n17⟩, -, X17, ⟨Lc17, hQ17, l17, y17, z17⟩, st17⟩ := Jvm.LawKit.callS Xg16 hx (y := (⟨"com/example/vestwright/vestwright/model/GroupedDecimalUngroupPinLaw", "okAt", "(II[B[BIZIZI)Z"⟩ : MethodName)) hown (mvT hZ (hw _ (List.mem_of_getElem? (i := 9) rfl))) (mvT hZ (hw _ (List.mem_of_getElem? (i := 10) rfl))) (mvT hZ (hw _ (List.mem_of_getElem? (i := 3) rfl))) (mvT hZ (hw _ (List.mem_of_getElem? (i := 11) rfl))) (by decide) (backOf (W := 0) (rm5 l Z a0 hw [] (8 : Int32) r pl tt s_ c1 a1 c2 a2 pf tf h0 n0 Z0 AP AT ⟨by decide, by decide⟩ (own_hz hs3 (by decide))) hZ (hw _ (List.mem_of_getElem? (i := 11) rfl)) (hw _ (List.mem_of_getElem? (i := 3) rfl)) (by decide) (by decide)) (g := (mkF m 1087 Lc [(.int a2), (.int c2), (.int a1), (.int c1), (.int s_), (.ref tt), (.ref pl), (.int r), (.int (8 : Int32))])) rfl (by rw [hml]; exact hLs) (argsL := [(.int (8 : Int32)), (.int r), (.ref pl), (.ref tt), (.int s_), (.int c1), (.int a1), (.int c2), (.int a2)]) (rest := []) (lenOf pd_5 rfl) rfl (by show 2 * 0 + _ ≤ _; exact Nat.le_of_eq rfl) (hb hby at_1087) (fun _ _ => ⟨rfl, e15, (by decide : 2 + 0 ≤ _), (by decide : 136 + 0 ≤ _)⟩)
  dsimp only [Pt.U, Pt.locs, Pt.cells, Pt.slots] at X17 l17 y17 z17 st17 hQ17
  subst l17 y17 z17
  obtain ⟨rfl, Nq17, e17⟩ := hQ17
  have N17 := Fr.app Ng16 Nq17
  obtain ⟨Lg18, Xg18, Ng18⟩ := own_gen X17 N17
  obtain ⟨_, _, ⟨T19, L19, k19, n19⟩, -, X19, ⟨Lc19, hQ19, l19, y19, z19⟩, st19⟩ := Jvm.LawKit.callS Xg18 hx (y := (⟨"com/example/vestwright/vestwright/model/GroupedDecimalUngroupPinLaw", "okAt", "(II[B[BIZIZI)Z"⟩ : MethodName)) hown (mvT hZ (hw _ (List.mem_of_getElem? (i := 9) rfl))) (mvT hZ (hw _ (List.mem_of_getElem? (i := 10) rfl))) (mvT hZ (hw _ (List.mem_of_getElem? (i := 3) rfl))) (mvT hZ (hw _ (List.mem_of_getElem? (i := 11) rfl))) (by decide) (backOf (W := 0) (rm5 l Z a0 hw [] (9 : Int32) r pl tt s_ c1 a1 c2 a2 pf tf h0 n0 Z0 AP AT ⟨by decide, by decide⟩ (own_hz hs3 (by decide))) hZ (hw _ (List.mem_of_getElem? (i := 11) rfl)) (hw _ (List.mem_of_getElem? (i := 3) rfl)) (by decide) (by decide)) (g := (mkF m 1111 Lc [(.int a2), (.int c2), (.int a1), (.int c1), (.int s_), (.ref tt), (.ref pl), (.int r), (.int (9 : Int32))])) rfl (by rw [hml]; exact hLs) (argsL := [(.int (9 : Int32)), (.int r), (.ref pl), (.ref tt), (.int s_), (.int c1), (.int a1), (.int c2), (.int a2)]) (rest := []) (lenOf pd_5 rfl) rfl (by show 2 * 0 + _ ≤ _; exact Nat.le_of_eq rfl) (hb hby at_1111) (fun _ _ => ⟨rfl, e17, (by decide : 2 + 0 ≤ _), (by decide : 136 + 0 ≤ _)⟩)
  dsimp only [Pt.U, Pt.locs, Pt.cells, Pt.slots] at X19 l19 y19 z19 st19 hQ19
  subst l19 y19 z19
  obtain ⟨rfl, Nq19, e19⟩ := hQ19
  have N19 := Fr.app Ng18 Nq19
  obtain ⟨Lg20, Xg20, Ng20⟩ := own_gen X19 N19
  obtain ⟨_, _, ⟨T21, L21, k21, n21⟩, -, X21, ⟨Lc21, hQ21, l21, y21, z21⟩, st21⟩ := Jvm.LawKit.callS Xg20 hx (y := (⟨"com/example/vestwright/vestwright/model/GroupedDecimalUngroupPinLaw", "okAt", "(II[B[BIZIZI)Z"⟩ : MethodName)) hown (mvT hZ (hw _ (List.mem_of_getElem? (i := 9) rfl))) (mvT hZ (hw _ (List.mem_of_getElem? (i := 10) rfl))) (mvT hZ (hw _ (List.mem_of_getElem? (i := 3) rfl))) (mvT hZ (hw _ (List.mem_of_getElem? (i := 11) rfl))) (by decide) (backOf (W := 0) (rm5 l Z a0 hw [] (10 : Int32) r pl tt s_ c1 a1 c2 a2 pf tf h0 n0 Z0 AP AT ⟨by decide, by decide⟩ (own_hz hs3 (by decide))) hZ (hw _ (List.mem_of_getElem? (i := 11) rfl)) (hw _ (List.mem_of_getElem? (i := 3) rfl)) (by decide) (by decide)) (g := (mkF m 1135 Lc [(.int a2), (.int c2), (.int a1), (.int c1), (.int s_), (.ref tt), (.ref pl), (.int r), (.int (10 : Int32))])) rfl (by rw [hml]; exact hLs) (argsL := [(.int (10 : Int32)), (.int r), (.ref pl), (.ref tt), (.int s_), (.int c1), (.int a1), (.int c2), (.int a2)]) (rest := []) (lenOf pd_5 rfl) rfl (by show 2 * 0 + _ ≤ _; exact Nat.le_of_eq rfl) (hb hby at_1135) (fun _ _ => ⟨rfl, e19, (by decide : 2 + 0 ≤ _), (by decide : 136 + 0 ≤ _)⟩)
  dsimp only [Pt.U, Pt.locs, Pt.cells, Pt.slots] at X21 l21 y21 z21 st21 hQ21
  subst l21 y21 z21
  obtain ⟨rfl, Nq21, e21⟩ := hQ21
  have N21 := Fr.app Ng20 Nq21
  obtain ⟨Lg22, Xg22, Ng22⟩ := own_gen X21 N21
  obtain ⟨_, _, ⟨T23, L23, k23, n23⟩, -, X23, ⟨Lc23, hQ23, l23, y23, z23⟩, st23⟩ := Jvm.LawKit.callS Xg22 hx (y := (⟨"com/example/vestwright/vestwright/model/GroupedDecimalUngroupPinLaw", "okAt", "(II[B[BIZIZI)Z"⟩ : MethodName)) hown (mvT hZ (hw _ (List.mem_of_getElem? (i := 9) rfl))) (mvT hZ (hw _ (List.mem_of_getElem? (i := 10) rfl))) (mvT hZ (hw _ (List.mem_of_getElem? (i := 3) rfl))) (mvT hZ (hw _ (List.mem_of_getElem? (i := 11) rfl))) (by decide) (backOf (W := 0) (rm5 l Z a0 hw [] (11 : Int32) r pl tt s_ c1 a1 c2 a2 pf tf h0 n0 Z0 AP AT ⟨by decide, by decide⟩ (own_hz hs3 (by decide))) hZ (hw _ (List.mem_of_getElem? (i := 11) rfl)) (hw _ (List.mem_of_getElem? (i := 3) rfl)) (by decide) (by decide)) (g := (mkF m 1159 Lc [(.int a2), (.int c2), (.int a1), (.int c1), (.int s_), (.ref tt), (.ref pl), (.int r), (.int (11 : Int32))])) rfl (by rw [hml]; exact hLs) (argsL := [(.int (11 : Int32)), (.int r), (.ref pl), (.ref tt), (.int s_), (.int c1), (.int a1), (.int c2), (.int a2)]) (rest := []) (lenOf pd_5 rfl) rfl (by show 2 * 0 + _ ≤ _; exact Nat.le_of_eq rfl) (hb hby at_1159) (fun _ _ => ⟨rfl, e21, (by decide : 2 + 0 ≤ _), (by decide : 136 + 0 ≤ _)⟩)
  dsimp only [Pt.U, Pt.locs, Pt.cells, Pt.slots] at X23 l23 y23 z23 st23 hQ23
  subst l23 y23 z23
  obtain ⟨rfl, Nq23, e23⟩ := hQ23
  have N23 := Fr.app Ng22 Nq23
  obtain ⟨Lg24, Xg24, Ng24⟩ := own_gen X23 N23
  obtain ⟨_, _, ⟨T25, L25, k25, n25⟩, -, X25, ⟨Lc25, hQ25, l25, y25, z25⟩, st25⟩ := Jvm.LawKit.callS Xg24 hx (y := (⟨"com/example/vestwright/vestwright/model/GroupedDecimalUngroupPinLaw", "okAt", "(II[B[BIZIZI)Z"⟩ : MethodName)) hown (mvT hZ (hw _ (List.mem_of_getElem? (i := 9) rfl))) (mvT hZ (hw _ (List.mem_of_getElem? (i := 10) rfl))) (mvT hZ (hw _ (List.mem_of_getElem? (i := 3) rfl))) (mvT hZ (hw _ (List.mem_of_getElem? (i := 11) rfl))) (by decide) (backOf (W := 0) (rm5 l Z a0 hw [] (12 : Int32) r pl tt s_ c1 a1 c2 a2 pf tf h0 n0 Z0 AP AT ⟨by decide, by decide⟩ (own_hz hs3 (by decide))) hZ (hw _ (List.mem_of_getElem? (i := 11) rfl)) (hw _ (List.mem_of_getElem? (i := 3) rfl)) (by decide) (by decide)) (g := (mkF m 1183 Lc [(.int a2), (.int c2), (.int a1), (.int c1), (.int s_), (.ref tt), (.ref pl), (.int r), (.int (12 : Int32))])) rfl (by rw [hml]; exact hLs) (argsL := [(.int (12 : Int32)), (.int r), (.ref pl), (.ref tt), (.int s_), (.int c1), (.int a1), (.int c2), (.int a2)]) (rest := []) (lenOf pd_5 rfl) rfl (by show 2 * 0 + _ ≤ _; exact Nat.le_of_eq rfl) (hb hby at_1183) (fun _ _ => ⟨rfl, e23, (by decide : 2 + 0 ≤ _), (by decide : 136 + 0 ≤ _)⟩)
  dsimp only [Pt.U, Pt.locs, Pt.cells, Pt.slots] at X25 l25 y25 z25 st25 hQ25
  subst l25 y25 z25
  obtain ⟨rfl, Nq25, e25⟩ := hQ25
  have N25 := Fr.app Ng24 Nq25
  obtain ⟨Lg26, Xg26, Ng26⟩ := own_gen X25 N25
  obtain ⟨_, _, ⟨T27, L27, k27, n27⟩, -, X27, ⟨Lc27, hQ27, l27, y27, z27⟩, st27⟩ := Jvm.LawKit.callS Xg26 hx (y := (⟨"com/example/vestwright/vestwright/model/GroupedDecimalUngroupPinLaw", "okAt", "(II[B[BIZIZI)Z"⟩ : MethodName)) hown (mvT hZ (hw _ (List.mem_of_getElem? (i := 9) rfl))) (mvT hZ (hw _ (List.mem_of_getElem? (i := 10) rfl))) (mvT hZ (hw _ (List.mem_of_getElem? (i := 3) rfl))) (mvT hZ (hw _ (List.mem_of_getElem? (i := 11) rfl))) (by decide) (backOf (W := 0) (rm5 l Z a0 hw [] (13 : Int32) r pl tt s_ c1 a1 c2 a2 pf tf h0 n0 Z0 AP AT ⟨by decide, by decide⟩ (own_hz hs3 (by decide))) hZ (hw _ (List.mem_of_getElem? (i := 11) rfl)) (hw _ (List.mem_of_getElem? (i := 3) rfl)) (by decide) (by decide)) (g := (mkF m 1207 Lc [(.int a2), (.int c2), (.int a1), (.int c1), (.int s_), (.ref tt), (.ref pl), (.int r), (.int (13 : Int32))])) rfl (by rw [hml]; exact hLs) (argsL := [(.int (13 : Int32)), (.int r), (.ref pl), (.ref tt), (.int s_), (.int c1), (.int a1), (.int c2), (.int a2)]) (rest := []) (lenOf pd_5 rfl) rfl (by show 2 * 0 + _ ≤ _; exact Nat.le_of_eq rfl) (hb hby at_1207) (fun _ _ => ⟨rfl, e25, (by decide : 2 + 0 ≤ _), (by decide : 136 + 0 ≤ _)⟩)
  dsimp only [Pt.U, Pt.locs, Pt.cells, Pt.slots] at X27 l27 y27 z27 st27 hQ27
  subst l27 y27 z27
  obtain ⟨rfl, Nq27, e27⟩ := hQ27
  have N27 := Fr.app Ng26 Nq27
  obtain ⟨Lg28, Xg28, Ng28⟩ := own_gen X27 N27
  obtain ⟨_, _, ⟨T29, L29, k29, n29⟩, -, X29, ⟨Lc29, hQ29, l29, y29, z29⟩, st29⟩ := Jvm.LawKit.callS Xg28 hx (y := (⟨"com/example/vestwright/vestwright/model/GroupedDecimalUngroupPinLaw", "okAt", "(II[B[BIZIZI)Z"⟩ : MethodName)) hown (mvT hZ (hw _ (List.mem_of_getElem? (i := 9) rfl))) (mvT hZ (hw _ (List.mem_of_getElem? (i := 10) rfl))) (mvT hZ (hw _ (List.mem_of_getElem? (i := 3) rfl))) (mvT hZ (hw _ (List.mem_of_getElem? (i := 11) rfl))) (by decide) (backOf (W := 0) (rm5 l Z a0 hw [] (14 : Int32) r pl tt s_ c1 a1 c2 a2 pf tf h0 n0 Z0 AP AT ⟨by decide, by decide⟩ (own_hz hs3 (by decide))) hZ (hw _ (List.mem_of_getElem? (i := 11) rfl)) (hw _ (List.mem_of_getElem? (i := 3) rfl)) (by decide) (by decide)) (g := (mkF m 1231 Lc [(.int a2), (.int c2), (.int a1), (.int c1), (.int s_), (.ref tt), (.ref pl), (.int r), (.int (14 : Int32))])) rfl (by rw [hml]; exact hLs) (argsL := [(.int (14 : Int32)), (.int r), (.ref pl), (.ref tt), (.int s_), (.int c1), (.int a1), (.int c2), (.int a2)]) (rest := []) (lenOf pd_5 rfl) rfl (by show 2 * 0 + _ ≤ _; exact Nat.le_of_eq rfl) (hb hby at_1231) (fun _ _ => ⟨rfl, e27, (by decide : 2 + 0 ≤ _), (by decide : 136 + 0 ≤ _)⟩)
  dsimp only [Pt.U, Pt.locs, Pt.cells, Pt.slots] at X29 l29 y29 z29 st29 hQ29
  subst l29 y29 z29
  obtain ⟨rfl, Nq29, e29⟩ := hQ29
  have N29 := Fr.app Ng28 Nq29
  obtain ⟨Lg30, Xg30, Ng30⟩ := own_gen X29 N29
  obtain ⟨_, _, ⟨T31, L31, k31, n31⟩, -, X31, ⟨Lc31, hQ31, l31, y31, z31⟩, st31⟩ := Jvm.LawKit.callS Xg30 hx (y := (⟨"com/example/vestwright/vestwright/model/GroupedDecimalUngroupPinLaw", "okAt", "(II[B[BIZIZI)Z"⟩ : MethodName)) hown (mvT hZ (hw _ (List.mem_of_getElem? (i := 9) rfl))) (mvT hZ (hw _ (List.mem_of_getElem? (i := 10) rfl))) (mvT hZ (hw _ (List.mem_of_getElem? (i := 3) rfl))) (mvT hZ (hw _ (List.mem_of_getElem? (i := 11) rfl))) (by decide) (backOf (W := 0) (rm5 l Z a0 hw [] (15 : Int32) r pl tt s_ c1 a1 c2 a2 pf tf h0 n0 Z0 AP AT ⟨by decide, by decide⟩ (own_hz hs3 (by decide))) hZ (hw _ (List.mem_of_getElem? (i := 11) rfl)) (hw _ (List.mem_of_getElem? (i := 3) rfl)) (by decide) (by decide)) (g := (mkF m 1255 Lc [(.int a2), (.int c2), (.int a1), (.int c1), (.int s_), (.ref tt), (.ref pl), (.int r), (.int (15 : Int32))])) rfl (by rw [hml]; exact hLs) (argsL := [(.int (15 : Int32)), (.int r), (.ref pl), (.ref tt), (.int s_), (.int c1), (.int a1), (.int c2), (.int a2)]) (rest := []) (lenOf pd_5 rfl) rfl (by show 2 * 0 + _ ≤ _; exact Nat.le_of_eq rfl) (hb hby at_1255) (fun _ _ => ⟨rfl, e29, (by decide : 2 + 0 ≤ _), (by decide : 136 + 0 ≤ _)⟩)
  dsimp only [Pt.U, Pt.locs, Pt.cells, Pt.slots] at X31 l31 y31 z31 st31 hQ31
  subst l31 y31 z31
  obtain ⟨rfl, Nq31, e31⟩ := hQ31
  have N31 := Fr.app Ng30 Nq31
  refine ⟨_, _, X31, e31, N31, fun target kt => ?_⟩
  show Steps p.tables e below (T0.setTop (mkF m 883 Lc [])) _
  refine XS.iconst X0.here hx rfl (hb hby at_883) ?_
  show Steps p.tables e below (T0.setTop (mkF m 884 Lc [(.int (0 : Int32))])) _
  refine XS.iload X0.here hx rfl (hb hby at_884) hl26 ?_
  show Steps p.tables e below (T0.setTop (mkF m 886 Lc [(.int r), (.int (0 : Int32))])) _
  refine XS.aload X0.here hx rfl (hb hby at_886) hl20 rfl ?_
  show Steps p.tables e below (T0.setTop (mkF m 888 Lc [(.ref pl), (.int r), (.int (0 : Int32))])) _
  refine XS.aload X0.here hx rfl (hb hby at_888) hl19 rfl ?_
  show Steps p.tables e below (T0.setTop (mkF m 890 Lc [(.ref tt), (.ref pl), (.int r), (.int (0 : Int32))])) _
  refine XS.iload X0.here hx rfl (hb hby at_890) hl12 ?_
  show Steps p.tables e below (T0.setTop (mkF m 892 Lc [(.int s_), (.ref tt), (.ref pl), (.int r), (.int (0 : Int32))])) _
  refine XS.iload X0.here hx rfl (hb hby at_892) hl27 ?_
  show Steps p.tables e below (T0.setTop (mkF m 894 Lc [(.int c1), (.int s_), (.ref tt), (.ref pl), (.int r), (.int (0 : Int32))])) _
  refine XS.iload X0.here hx rfl (hb hby at_894) hl28 ?_
  show Steps p.tables e below (T0.setTop (mkF m 896 Lc [(.int a1), (.int c1), (.int s_), (.ref tt), (.ref pl), (.int r), (.int (0 : Int32))])) _
  refine XS.iload X0.here hx rfl (hb hby at_896) hl29 ?_
  show Steps p.tables e below (T0.setTop (mkF m 898 Lc [(.int c2), (.int a1), (.int c1), (.int s_), (.ref tt), (.ref pl), (.int r), (.int (0 : Int32))])) _
  refine XS.iload X0.here hx rfl (hb hby at_898) hl30 ?_
  show Steps p.tables e below (T0.setTop (mkF m 900 Lc [(.int a2), (.int c2), (.int a1), (.int c1), (.int s_), (.ref tt), (.ref pl), (.int r), (.int (0 : Int32))])) _
  refine st1 _ ?_
  show Steps p.tables e below (T1.setTop (mkF m 903 Lc [(.int (own_ok (0 : Int32) r s_ c1 a1 c2 a2 pf tf))])) _
  refine XS.ifNo X1.here hx rfl (hb hby at_903) rfl ((if0 _ _).trans (feq (own_n01 (hok 0 (by omega)))).1) ?_
  show Steps p.tables e below (T1.setTop (mkF m 906 Lc [])) _
  refine XS.iconst X1.here hx rfl (hb hby at_906) ?_
  show Steps p.tables e below (T1.setTop (mkF m 907 Lc [(.int (1 : Int32))])) _
  refine XS.iload X1.here hx rfl (hb hby at_907) hl26 ?_
  show Steps p.tables e below (T1.setTop (mkF m 909 Lc [(.int r), (.int (1 : Int32))])) _
  refine XS.aload X1.here hx rfl (hb hby at_909) hl20 rfl ?_
  show Steps p.tables e below (T1.setTop (mkF m 911 Lc [(.ref pl), (.int r), (.int (1 : Int32))])) _
  refine XS.aload X1.here hx rfl (hb hby at_911) hl19 rfl ?_
  show Steps p.tables e below (T1.setTop (mkF m 913 Lc [(.ref tt), (.ref pl), (.int r), (.int (1 : Int32))])) _
  refine XS.iload X1.here hx rfl (hb hby at_913) hl12 ?_
  show Steps p.tables e below (T1.setTop (mkF m 915 Lc [(.int s_), (.ref tt), (.ref pl), (.int r), (.int (1 : Int32))])) _
  refine XS.iload X1.here hx rfl (hb hby at_915) hl27 ?_
  show Steps p.tables e below (T1.setTop (mkF m 917 Lc [(.int c1), (.int s_), (.ref tt), (.ref pl), (.int r), (.int (1 : Int32))])) _
  refine XS.iload X1.here hx rfl (hb hby at_917) hl28 ?_
  show Steps p.tables e below (T1.setTop (mkF m 919 Lc [(.int a1), (.int c1), (.int s_), (.ref tt), (.ref pl), (.int r), (.int (1 : Int32))])) _
  refine XS.iload X1.here hx rfl (hb hby at_919) hl29 ?_
  show Steps p.tables e below (T1.setTop (mkF m 921 Lc [(.int c2), (.int a1), (.int c1), (.int s_), (.ref tt), (.ref pl), (.int r), (.int (1 : Int32))])) _
  refine XS.iload X1.here hx rfl (hb hby at_921) hl30 ?_
  show Steps p.tables e below (T1.setTop (mkF m 923 Lc [(.int a2), (.int c2), (.int a1), (.int c1), (.int s_), (.ref tt), (.ref pl), (.int r), (.int (1 : Int32))])) _
  refine st3 _ ?_
  show Steps p.tables e below (T3.setTop (mkF m 926 Lc [(.int (own_ok (1 : Int32) r s_ c1 a1 c2 a2 pf tf))])) _
  refine XS.ifNo X3.here hx rfl (hb hby at_926) rfl ((if0 _ _).trans (feq (own_n01 (hok 1 (by omega)))).1) ?_
  show Steps p.tables e below (T3.setTop (mkF m 929 Lc [])) _
  refine XS.iconst X3.here hx rfl (hb hby at_929) ?_
  show Steps p.tables e below (T3.setTop (mkF m 930 Lc [(.int (2 : Int32))])) _
  refine XS.iload X3.here hx rfl (hb hby at_930) hl26 ?_
  show Steps p.tables e below (T3.setTop (mkF m 932 Lc [(.int r), (.int (2 : Int32))])) _
  refine XS.aload X3.here hx rfl (hb hby at_932) hl20 rfl ?_
  show Steps p.tables e below (T3.setTop (mkF m 934 Lc [(.ref pl), (.int r), (.int (2 : Int32))])) _
  refine XS.aload X3.here hx rfl (hb hby at_934) hl19 rfl ?_
  show Steps p.tables e below (T3.setTop (mkF m 936 Lc [(.ref tt), (.ref pl), (.int r), (.int (2 : Int32))])) _
  refine XS.iload X3.here hx rfl (hb hby at_936) hl12 ?_
  show Steps p.tables e below (T3.setTop (mkF m 938 Lc [(.int s_), (.ref tt), (.ref pl), (.int r), (.int (2 : Int32))])) _
  refine XS.iload X3.here hx rfl (hb hby at_938) hl27 ?_
  show Steps p.tables e below (T3.setTop (mkF m 940 Lc [(.int c1), (.int s_), (.ref tt), (.ref pl), (.int r), (.int (2 : Int32))])) _
  refine XS.iload X3.here hx rfl (hb hby at_940) hl28 ?_
  show Steps p.tables e below (T3.setTop (mkF m 942 Lc [(.int a1), (.int c1), (.int s_), (.ref tt), (.ref pl), (.int r), (.int (2 : Int32))])) _
  refine XS.iload X3.here hx rfl (hb hby at_942) hl29 ?_
  show Steps p.tables e below (T3.setTop (mkF m 944 Lc [(.int c2), (.int a1), (.int c1), (.int s_), (.ref tt), (.ref pl), (.int r), (.int (2 : Int32))])) _
  refine XS.iload X3.here hx rfl (hb hby at_944) hl30 ?_
  show Steps p.tables e below (T3.setTop (mkF m 946 Lc [(.int a2), (.int c2), (.int a1), (.int c1), (.int s_), (.ref tt), (.ref pl), (.int r), (.int (2 : Int32))])) _
  refine st5 _ ?_
  show Steps p.tables e below (T5.setTop (mkF m 949 Lc [(.int (own_ok (2 : Int32) r s_ c1 a1 c2 a2 pf tf))])) _
  refine XS.ifNo X5.here hx rfl (hb hby at_949) rfl ((if0 _ _).trans (feq (own_n01 (hok 2 (by omega)))).1) ?_
  show Steps p.tables e below (T5.setTop (mkF m 952 Lc [])) _
  refine XS.iconst X5.here hx rfl (hb hby at_952) ?_
  show Steps p.tables e below (T5.setTop (mkF m 953 Lc [(.int (3 : Int32))])) _
  refine XS.iload X5.here hx rfl (hb hby at_953) hl26 ?_
  show Steps p.tables e below (T5.setTop (mkF m 955 Lc [(.int r), (.int (3 : Int32))])) _
  refine XS.aload X5.here hx rfl (hb hby at_955) hl20 rfl ?_
  show Steps p.tables e below (T5.setTop (mkF m 957 Lc [(.ref pl), (.int r), (.int (3 : Int32))])) _
  refine XS.aload X5.here hx rfl (hb hby at_957) hl19 rfl ?_
  show Steps p.tables e below (T5.setTop (mkF m 959 Lc [(.ref tt), (.ref pl), (.int r), (.int (3 : Int32))])) _
  refine XS.iload X5.here hx rfl (hb hby at_959) hl12 ?_
  show Steps p.tables e below (T5.setTop (mkF m 961 Lc [(.int s_), (.ref tt), (.ref pl), (.int r), (.int (3 : Int32))])) _
  refine XS.iload X5.here hx rfl (hb hby at_961) hl27 ?_
  show Steps p.tables e below (T5.setTop (mkF m 963 Lc [(.int c1), (.int s_), (.ref tt), (.ref pl), (.int r), (.int (3 : Int32))])) _
  refine XS.iload X5.here hx rfl (hb hby at_963) hl28 ?_
  show Steps p.tables e below (T5.setTop (mkF m 965 Lc [(.int a1), (.int c1), (.int s_), (.ref tt), (.ref pl), (.int r), (.int (3 : Int32))])) _
  refine XS.iload X5.here hx rfl (hb hby at_965) hl29 ?_
  show Steps p.tables e below (T5.setTop (mkF m 967 Lc [(.int c2), (.int a1), (.int c1), (.int s_), (.ref tt), (.ref pl), (.int r), (.int (3 : Int32))])) _
  refine XS.iload X5.here hx rfl (hb hby at_967) hl30 ?_
  show Steps p.tables e below (T5.setTop (mkF m 969 Lc [(.int a2), (.int c2), (.int a1), (.int c1), (.int s_), (.ref tt), (.ref pl), (.int r), (.int (3 : Int32))])) _
  refine st7 _ ?_
  show Steps p.tables e below (T7.setTop (mkF m 972 Lc [(.int (own_ok (3 : Int32) r s_ c1 a1 c2 a2 pf tf))])) _
  refine XS.ifNo X7.here hx rfl (hb hby at_972) rfl ((if0 _ _).trans (feq (own_n01 (hok 3 (by omega)))).1) ?_
  show Steps p.tables e below (T7.setTop (mkF m 975 Lc [])) _
  refine XS.iconst X7.here hx rfl (hb hby at_975) ?_
  show Steps p.tables e below (T7.setTop (mkF m 976 Lc [(.int (4 : Int32))])) _
  refine XS.iload X7.here hx rfl (hb hby at_976) hl26 ?_
  show Steps p.tables e below (T7.setTop (mkF m 978 Lc [(.int r), (.int (4 : Int32))])) _
  refine XS.aload X7.here hx rfl (hb hby at_978) hl20 rfl ?_
  show Steps p.tables e below (T7.setTop (mkF m 980 Lc [(.ref pl), (.int r), (.int (4 : Int32))])) _
  refine XS.aload X7.here hx rfl (hb hby at_980) hl19 rfl ?_
  show Steps p.tables e below (T7.setTop (mkF m 982 Lc [(.ref tt), (.ref pl), (.int r), (.int (4 : Int32))])) _
  refine XS.iload X7.here hx rfl (hb hby at_982) hl12 ?_
  show Steps p.tables e below (T7.setTop (mkF m 984 Lc [(.int s_), (.ref tt), (.ref pl), (.int r), (.int (4 : Int32))])) _
  refine XS.iload X7.here hx rfl (hb hby at_984) hl27 ?_
  show Steps p.tables e below (T7.setTop (mkF m 986 Lc [(.int c1), (.int s_), (.ref tt), (.ref pl), (.int r), (.int (4 : Int32))])) _
  refine XS.iload X7.here hx rfl (hb hby at_986) hl28 ?_
  show Steps p.tables e below (T7.setTop (mkF m 988 Lc [(.int a1), (.int c1), (.int s_), (.ref tt), (.ref pl), (.int r), (.int (4 : Int32))])) _
  refine XS.iload X7.here hx rfl (hb hby at_988) hl29 ?_
  show Steps p.tables e below (T7.setTop (mkF m 990 Lc [(.int c2), (.int a1), (.int c1), (.int s_), (.ref tt), (.ref pl), (.int r), (.int (4 : Int32))])) _
  refine XS.iload X7.here hx rfl (hb hby at_990) hl30 ?_
  show Steps p.tables e below (T7.setTop (mkF m 992 Lc [(.int a2), (.int c2), (.int a1), (.int c1), (.int s_), (.ref tt), (.ref pl), (.int r), (.int (4 : Int32))])) _
  refine st9 _ ?_
  show Steps p.tables e below (T9.setTop (mkF m 995 Lc [(.int (own_ok (4 : Int32) r s_ c1 a1 c2 a2 pf tf))])) _
  refine XS.ifNo X9.here hx rfl (hb hby at_995) rfl ((if0 _ _).trans (feq (own_n01 (hok 4 (by omega)))).1) ?_
  show Steps p.tables e below (T9.setTop (mkF m 998 Lc [])) _
  refine XS.iconst X9.here hx rfl (hb hby at_998) ?_
  show Steps p.tables e below (T9.setTop (mkF m 999 Lc [(.int (5 : Int32))])) _
  refine XS.iload X9.here hx rfl (hb hby at_999) hl26 ?_
  show Steps p.tables e below (T9.setTop (mkF m 1001 Lc [(.int r), (.int (5 : Int32))])) _
  refine XS.aload X9.here hx rfl (hb hby at_1001) hl20 rfl ?_
  show Steps p.tables e below (T9.setTop (mkF m 1003 Lc [(.ref pl), (.int r), (.int (5 : Int32))])) _
  refine XS.aload X9.here hx rfl (hb hby at_1003) hl19 rfl ?_
  show Steps p.tables e below (T9.setTop (mkF m 1005 Lc [(.ref tt), (.ref pl), (.int r), (.int (5 : Int32))])) _
  refine XS.iload X9.here hx rfl (hb hby at_1005) hl12 ?_
  show Steps p.tables e below (T9.setTop (mkF m 1007 Lc [(.int s_), (.ref tt), (.ref pl), (.int r), (.int (5 : Int32))])) _
  refine XS.iload X9.here hx rfl (hb hby at_1007) hl27 ?_
  show Steps p.tables e below (T9.setTop (mkF m 1009 Lc [(.int c1), (.int s_), (.ref tt), (.ref pl), (.int r), (.int (5 : Int32))])) _
  refine XS.iload X9.here hx rfl (hb hby at_1009) hl28 ?_
  show Steps p.tables e below (T9.setTop (mkF m 1011 Lc [(.int a1), (.int c1), (.int s_), (.ref tt), (.ref pl), (.int r), (.int (5 : Int32))])) _
  refine XS.iload X9.here hx rfl (hb hby at_1011) hl29 ?_
  show Steps p.tables e below (T9.setTop (mkF m 1013 Lc [(.int c2), (.int a1), (.int c1), (.int s_), (.ref tt), (.ref pl), (.int r), (.int (5 : Int32))])) _
  refine XS.iload X9.here hx rfl (hb hby at_1013) hl30 ?_
  show Steps p.tables e below (T9.setTop (mkF m 1015 Lc [(.int a2), (.int c2), (.int a1), (.int c1), (.int s_), (.ref tt), (.ref pl), (.int r), (.int (5 : Int32))])) _
  refine st11 _ ?_
  show Steps p.tables e below (T11.setTop (mkF m 1018 Lc [(.int (own_ok (5 : Int32) r s_ c1 a1 c2 a2 pf tf))])) _
  refine XS.ifNo X11.here hx rfl (hb hby at_1018) rfl ((if0 _ _).trans (feq (own_n01 (hok 5 (by omega)))).1) ?_
  show Steps p.tables e below (T11.setTop (mkF m 1021 Lc [])) _
  refine XS.bipush X11.here hx rfl (hb hby at_1021) ?_
  show Steps p.tables e below (T11.setTop (mkF m 1023 Lc [(.int (6 : Int32))])) _
  refine XS.iload X11.here hx rfl (hb hby at_1023) hl26 ?_
  show Steps p.tables e below (T11.setTop (mkF m 1025 Lc [(.int r), (.int (6 : Int32))])) _
  refine XS.aload X11.here hx rfl (hb hby at_1025) hl20 rfl ?_
  show Steps p.tables e below (T11.setTop (mkF m 1027 Lc [(.ref pl), (.int r), (.int (6 : Int32))])) _
  refine XS.aload X11.here hx rfl (hb hby at_1027) hl19 rfl ?_
  show Steps p.tables e below (T11.setTop (mkF m 1029 Lc [(.ref tt), (.ref pl), (.int r), (.int (6 : Int32))])) _
  refine XS.iload X11.here hx rfl (hb hby at_1029) hl12 ?_
  show Steps p.tables e below (T11.setTop (mkF m 1031 Lc [(.int s_), (.ref tt), (.ref pl), (.int r), (.int (6 : Int32))])) _
  refine XS.iload X11.here hx rfl (hb hby at_1031) hl27 ?_
  show Steps p.tables e below (T11.setTop (mkF m 1033 Lc [(.int c1), (.int s_), (.ref tt), (.ref pl), (.int r), (.int (6 : Int32))])) _
  refine XS.iload X11.here hx rfl (hb hby at_1033) hl28 ?_
  show Steps p.tables e below (T11.setTop (mkF m 1035 Lc [(.int a1), (.int c1), (.int s_), (.ref tt), (.ref pl), (.int r), (.int (6 : Int32))])) _
  refine XS.iload X11.here hx rfl (hb hby at_1035) hl29 ?_
  show Steps p.tables e below (T11.setTop (mkF m 1037 Lc [(.int c2), (.int a1), (.int c1), (.int s_), (.ref tt), (.ref pl), (.int r), (.int (6 : Int32))])) _
  refine XS.iload X11.here hx rfl (hb hby at_1037) hl30 ?_
  show Steps p.tables e below (T11.setTop (mkF m 1039 Lc [(.int a2), (.int c2), (.int a1), (.int c1), (.int s_), (.ref tt), (.ref pl), (.int r), (.int (6 : Int32))])) _
  refine st13 _ ?_
  show Steps p.tables e below (T13.setTop (mkF m 1042 Lc [(.int (own_ok (6 : Int32) r s_ c1 a1 c2 a2 pf tf))])) _
  refine XS.ifNo X13.here hx rfl (hb hby at_1042) rfl ((if0 _ _).trans (feq (own_n01 (hok 6 (by omega)))).1) ?_
  show Steps p.tables e below (T13.setTop (mkF m 1045 Lc [])) _
  refine XS.bipush X13.here hx rfl (hb hby at_1045) ?_
  show Steps p.tables e below (T13.setTop (mkF m 1047 Lc [(.int (7 : Int32))])) _
  refine XS.iload X13.here hx rfl (hb hby at_1047) hl26 ?_
  show Steps p.tables e below (T13.setTop (mkF m 1049 Lc [(.int r), (.int (7 : Int32))])) _
  refine XS.aload X13.here hx rfl (hb hby at_1049) hl20 rfl ?_
  show Steps p.tables e below (T13.setTop (mkF m 1051 Lc [(.ref pl), (.int r), (.int (7 : Int32))])) _
  refine XS.aload X13.here hx rfl (hb hby at_1051) hl19 rfl ?_
  show Steps p.tables e below (T13.setTop (mkF m 1053 Lc [(.ref tt), (.ref pl), (.int r), (.int (7 : Int32))])) _
  refine XS.iload X13.here hx rfl (hb hby at_1053) hl12 ?_
  show Steps p.tables e below (T13.setTop (mkF m 1055 Lc [(.int s_), (.ref tt), (.ref pl), (.int r), (.int (7 : Int32))])) _
  refine XS.iload X13.here hx rfl (hb hby at_1055) hl27 ?_
  show Steps p.tables e below (T13.setTop (mkF m 1057 Lc [(.int c1), (.int s_), (.ref tt), (.ref pl), (.int r), (.int (7 : Int32))])) _
  refine XS.iload X13.here hx rfl (hb hby at_1057) hl28 ?_
  show Steps p.tables e below (T13.setTop (mkF m 1059 Lc [(.int a1), (.int c1), (.int s_), (.ref tt), (.ref pl), (.int r), (.int (7 : Int32))])) _
  refine XS.iload X13.here hx rfl (hb hby at_1059) hl29 ?_
  show Steps p.tables e below (T13.setTop (mkF m 1061 Lc [(.int c2), (.int a1), (.int c1), (.int s_), (.ref tt), (.ref pl), (.int r), (.int (7 : Int32))])) _
  refine XS.iload X13.here hx rfl (hb hby at_1061) hl30 ?_
  show Steps p.tables e below (T13.setTop (mkF m 1063 Lc [(.int a2), (.int c2), (.int a1), (.int c1), (.int s_), (.ref tt), (.ref pl), (.int r), (.int (7 : Int32))])) _
  refine st15 _ ?_
  show Steps p.tables e below (T15.setTop (mkF m 1066 Lc [(.int (own_ok (7 : Int32) r s_ c1 a1 c2 a2 pf tf))])) _
  refine XS.ifNo X15.here hx rfl (hb hby at_1066) rfl ((if0 _ _).trans (feq (own_n01 (hok 7 (by omega)))).1) ?_
  show Steps p.tables e below (T15.setTop (mkF m 1069 Lc [])) _
  refine XS.bipush X15.here hx rfl (hb hby at_1069) ?_
  show Steps p.tables e below (T15.setTop (mkF m 1071 Lc [(.int (8 : Int32))])) _
  refine XS.iload X15.here hx rfl (hb hby at_1071) hl26 ?_
  show Steps p.tables e below (T15.setTop (mkF m 1073 Lc [(.int r), (.int (8 : Int32))])) _
  refine XS.aload X15.here hx rfl (hb hby at_1073) hl20 rfl ?_
  show Steps p.tables e below (T15.setTop (mkF m 1075 Lc [(.ref pl), (.int r), (.int (8 : Int32))])) _
  refine XS.aload X15.here hx rfl (hb hby at_1075) hl19 rfl ?_
  show Steps p.tables e below (T15.setTop (mkF m 1077 Lc [(.ref tt), (.ref pl), (.int r), (.int (8 : Int32))])) _
  refine XS.iload X15.here hx rfl (hb hby at_1077) hl12 ?_
  show Steps p.tables e below (T15.setTop (mkF m 1079 Lc [(.int s_), (.ref tt), (.ref pl), (.int r), (.int (8 : Int32))])) _
  refine XS.iload X15.here hx rfl (hb hby at_1079) hl27 ?_
  show Steps p.tables e below (T15.setTop (mkF m 1081 Lc [(.int c1), (.int s_), (.ref tt), (.ref pl), (.int r), (.int (8 : Int32))])) _
  refine XS.iload X15.here hx rfl (hb hby at_1081) hl28 ?_
  show Steps p.tables e below (T15.setTop (mkF m 1083 Lc [(.int a1), (.int c1), (.int s_), (.ref tt), (.ref pl), (.int r), (.int (8 : Int32))])) _
  refine XS.iload X15.here hx rfl (hb hby at_1083) hl29 ?_
  show Steps p.tables e below (T15.setTop (mkF m 1085 Lc [(.int c2), (.int a1), (.int c1), (.int s_), (.ref tt), (.ref pl), (.int r), (.int (8 : Int32))])) _
  refine XS.iload X15.here hx rfl (hb hby at_1085) hl30 ?_
  show Steps p.tables e below (T15.setTop (mkF m 1087 Lc [(.int a2), (.int c2), (.int a1), (.int c1), (.int s_), (.ref tt), (.ref pl), (.int r), (.int (8 : Int32))])) _
  refine st17 _ ?_
  show Steps p.tables e below (T17.setTop (mkF m 1090 Lc [(.int (own_ok (8 : Int32) r s_ c1 a1 c2 a2 pf tf))])) _
  refine XS.ifNo X17.here hx rfl (hb hby at_1090) rfl ((if0 _ _).trans (feq (own_n01 (hok 8 (by omega)))).1) ?_
  show Steps p.tables e below (T17.setTop (mkF m 1093 Lc [])) _
  refine XS.bipush X17.here hx rfl (hb hby at_1093) ?_
  show Steps p.tables e below (T17.setTop (mkF m 1095 Lc [(.int (9 : Int32))])) _
  refine XS.iload X17.here hx rfl (hb hby at_1095) hl26 ?_
  show Steps p.tables e below (T17.setTop (mkF m 1097 Lc [(.int r), (.int (9 : Int32))])) _
  refine XS.aload X17.here hx rfl (hb hby at_1097) hl20 rfl ?_
  show Steps p.tables e below (T17.setTop (mkF m 1099 Lc [(.ref pl), (.int r), (.int (9 : Int32))])) _
  refine XS.aload X17.here hx rfl (hb hby at_1099) hl19 rfl ?_
  show Steps p.tables e below (T17.setTop (mkF m 1101 Lc [(.ref tt), (.ref pl), (.int r), (.int (9 : Int32))])) _
  refine XS.iload X17.here hx rfl (hb hby at_1101) hl12 ?_
  show Steps p.tables e below (T17.setTop (mkF m 1103 Lc [(.int s_), (.ref tt), (.ref pl), (.int r), (.int (9 : Int32))])) _
  refine XS.iload X17.here hx rfl (hb hby at_1103) hl27 ?_
  show Steps p.tables e below (T17.setTop (mkF m 1105 Lc [(.int c1), (.int s_), (.ref tt), (.ref pl), (.int r), (.int (9 : Int32))])) _
  refine XS.iload X17.here hx rfl (hb hby at_1105) hl28 ?_
  show Steps p.tables e below (T17.setTop (mkF m 1107 Lc [(.int a1), (.int c1), (.int s_), (.ref tt), (.ref pl), (.int r), (.int (9 : Int32))])) _
  refine XS.iload X17.here hx rfl (hb hby at_1107) hl29 ?_
  show Steps p.tables e below (T17.setTop (mkF m 1109 Lc [(.int c2), (.int a1), (.int c1), (.int s_), (.ref tt), (.ref pl), (.int r), (.int (9 : Int32))])) _
  refine XS.iload X17.here hx rfl (hb hby at_1109) hl30 ?_
  show Steps p.tables e below (T17.setTop (mkF m 1111 Lc [(.int a2), (.int c2), (.int a1), (.int c1), (.int s_), (.ref tt), (.ref pl), (.int r), (.int (9 : Int32))])) _
  refine st19 _ ?_
  show Steps p.tables e below (T19.setTop (mkF m 1114 Lc [(.int (own_ok (9 : Int32) r s_ c1 a1 c2 a2 pf tf))])) _
  refine XS.ifNo X19.here hx rfl (hb hby at_1114) rfl ((if0 _ _).trans (feq (own_n01 (hok 9 (by omega)))).1) ?_
  show Steps p.tables e below (T19.setTop (mkF m 1117 Lc [])) _
  refine XS.bipush X19.here hx rfl (hb hby at_1117) ?_
  show Steps p.tables e below (T19.setTop (mkF m 1119 Lc [(.int (10 : Int32))])) _
  refine XS.iload X19.here hx rfl (hb hby at_1119) hl26 ?_
  show Steps p.tables e below (T19.setTop (mkF m 1121 Lc [(.int r), (.int (10 : Int32))])) _
  refine XS.aload X19.here hx rfl (hb hby at_1121) hl20 rfl ?_
  show Steps p.tables e below (T19.setTop (mkF m 1123 Lc [(.ref pl), (.int r), (.int (10 : Int32))])) _
  refine XS.aload X19.here hx rfl (hb hby at_1123) hl19 rfl ?_
  show Steps p.tables e below (T19.setTop (mkF m 1125 Lc [(.ref tt), (.ref pl), (.int r), (.int (10 : Int32))])) _
  refine XS.iload X19.here hx rfl (hb hby at_1125) hl12 ?_
  show Steps p.tables e below (T19.setTop (mkF m 1127 Lc [(.int s_), (.ref tt), (.ref pl), (.int r), (.int (10 : Int32))])) _
  refine XS.iload X19.here hx rfl (hb hby at_1127) hl27 ?_
  show Steps p.tables e below (T19.setTop (mkF m 1129 Lc [(.int c1), (.int s_), (.ref tt), (.ref pl), (.int r), (.int (10 : Int32))])) _
  refine XS.iload X19.here hx rfl (hb hby at_1129) hl28 ?_
  show Steps p.tables e below (T19.setTop (mkF m 1131 Lc [(.int a1), (.int c1), (.int s_), (.ref tt), (.ref pl), (.int r), (.int (10 : Int32))])) _
  refine XS.iload X19.here hx rfl (hb hby at_1131) hl29 ?_
  show Steps p.tables e below (T19.setTop (mkF m 1133 Lc [(.int c2), (.int a1), (.int c1), (.int s_), (.ref tt), (.ref pl), (.int r), (.int (10 : Int32))])) _
  refine XS.iload X19.here hx rfl (hb hby at_1133) hl30 ?_
  show Steps p.tables e below (T19.setTop (mkF m 1135 Lc [(.int a2), (.int c2), (.int a1), (.int c1), (.int s_), (.ref tt), (.ref pl), (.int r), (.int (10 : Int32))])) _
  refine st21 _ ?_
  show Steps p.tables e below (T21.setTop (mkF m 1138 Lc [(.int (own_ok (10 : Int32) r s_ c1 a1 c2 a2 pf tf))])) _
  refine XS.ifNo X21.here hx rfl (hb hby at_1138) rfl ((if0 _ _).trans (feq (own_n01 (hok 10 (by omega)))).1) ?_
  show Steps p.tables e below (T21.setTop (mkF m 1141 Lc [])) _
  refine XS.bipush X21.here hx rfl (hb hby at_1141) ?_
  show Steps p.tables e below (T21.setTop (mkF m 1143 Lc [(.int (11 : Int32))])) _
  refine XS.iload X21.here hx rfl (hb hby at_1143) hl26 ?_
  show Steps p.tables e below (T21.setTop (mkF m 1145 Lc [(.int r), (.int (11 : Int32))])) _
  refine XS.aload X21.here hx rfl (hb hby at_1145) hl20 rfl ?_
  show Steps p.tables e below (T21.setTop (mkF m 1147 Lc [(.ref pl), (.int r), (.int (11 : Int32))])) _
  refine XS.aload X21.here hx rfl (hb hby at_1147) hl19 rfl ?_
  show Steps p.tables e below (T21.setTop (mkF m 1149 Lc [(.ref tt), (.ref pl), (.int r), (.int (11 : Int32))])) _
  refine XS.iload X21.here hx rfl (hb hby at_1149) hl12 ?_
  show Steps p.tables e below (T21.setTop (mkF m 1151 Lc [(.int s_), (.ref tt), (.ref pl), (.int r), (.int (11 : Int32))])) _
  refine XS.iload X21.here hx rfl (hb hby at_1151) hl27 ?_
  show Steps p.tables e below (T21.setTop (mkF m 1153 Lc [(.int c1), (.int s_), (.ref tt), (.ref pl), (.int r), (.int (11 : Int32))])) _
  refine XS.iload X21.here hx rfl (hb hby at_1153) hl28 ?_
  show Steps p.tables e below (T21.setTop (mkF m 1155 Lc [(.int a1), (.int c1), (.int s_), (.ref tt), (.ref pl), (.int r), (.int (11 : Int32))])) _
  refine XS.iload X21.here hx rfl (hb hby at_1155) hl29 ?_
  show Steps p.tables e below (T21.setTop (mkF m 1157 Lc [(.int c2), (.int a1), (.int c1), (.int s_), (.ref tt), (.ref pl), (.int r), (.int (11 : Int32))])) _
  refine XS.iload X21.here hx rfl (hb hby at_1157) hl30 ?_
  show Steps p.tables e below (T21.setTop (mkF m 1159 Lc [(.int a2), (.int c2), (.int a1), (.int c1), (.int s_), (.ref tt), (.ref pl), (.int r), (.int (11 : Int32))])) _
  refine st23 _ ?_
  show Steps p.tables e below (T23.setTop (mkF m 1162 Lc [(.int (own_ok (11 : Int32) r s_ c1 a1 c2 a2 pf tf))])) _
  refine XS.ifNo X23.here hx rfl (hb hby at_1162) rfl ((if0 _ _).trans (feq (own_n01 (hok 11 (by omega)))).1) ?_
  show Steps p.tables e below (T23.setTop (mkF m 1165 Lc [])) _
  refine XS.bipush X23.here hx rfl (hb hby at_1165) ?_
  show Steps p.tables e below (T23.setTop (mkF m 1167 Lc [(.int (12 : Int32))])) _
  refine XS.iload X23.here hx rfl (hb hby at_1167) hl26 ?_
  show Steps p.tables e below (T23.setTop (mkF m 1169 Lc [(.int r), (.int (12 : Int32))])) _
  refine XS.aload X23.here hx rfl (hb hby at_1169) hl20 rfl ?_
  show Steps p.tables e below (T23.setTop (mkF m 1171 Lc [(.ref pl), (.int r), (.int (12 : Int32))])) _
  refine XS.aload X23.here hx rfl (hb hby at_1171) hl19 rfl ?_
  show Steps p.tables e below (T23.setTop (mkF m 1173 Lc [(.ref tt), (.ref pl), (.int r), (.int (12 : Int32))])) _
  refine XS.iload X23.here hx rfl (hb hby at_1173) hl12 ?_
  show Steps p.tables e below (T23.setTop (mkF m 1175 Lc [(.int s_), (.ref tt), (.ref pl), (.int r), (.int (12 : Int32))])) _
  refine XS.iload X23.here hx rfl (hb hby at_1175) hl27 ?_
  show Steps p.tables e below (T23.setTop (mkF m 1177 Lc [(.int c1), (.int s_), (.ref tt), (.ref pl), (.int r), (.int (12 : Int32))])) _
  refine XS.iload X23.here hx rfl (hb hby at_1177) hl28 ?_
  show Steps p.tables e below (T23.setTop (mkF m 1179 Lc [(.int a1), (.int c1), (.int s_), (.ref tt), (.ref pl), (.int r), (.int (12 : Int32))])) _
  refine XS.iload X23.here hx rfl (hb hby at_1179) hl29 ?_
  show Steps p.tables e below (T23.setTop (mkF m 1181 Lc [(.int c2), (.int a1), (.int c1), (.int s_), (.ref tt), (.ref pl), (.int r), (.int (12 : Int32))])) _
  refine XS.iload X23.here hx rfl (hb hby at_1181) hl30 ?_
  show Steps p.tables e below (T23.setTop (mkF m 1183 Lc [(.int a2), (.int c2), (.int a1), (.int c1), (.int s_), (.ref tt), (.ref pl), (.int r), (.int (12 : Int32))])) _
  refine st25 _ ?_
  show Steps p.tables e below (T25.setTop (mkF m 1186 Lc [(.int (own_ok (12 : Int32) r s_ c1 a1 c2 a2 pf tf))])) _
  refine XS.ifNo X25.here hx rfl (hb hby at_1186) rfl ((if0 _ _).trans (feq (own_n01 (hok 12 (by omega)))).1) ?_
  show Steps p.tables e below (T25.setTop (mkF m 1189 Lc [])) _
  refine XS.bipush X25.here hx rfl (hb hby at_1189) ?_
  show Steps p.tables e below (T25.setTop (mkF m 1191 Lc [(.int (13 : Int32))])) _
  refine XS.iload X25.here hx rfl (hb hby at_1191) hl26 ?_
  show Steps p.tables e below (T25.setTop (mkF m 1193 Lc [(.int r), (.int (13 : Int32))])) _
  refine XS.aload X25.here hx rfl (hb hby at_1193) hl20 rfl ?_
  show Steps p.tables e below (T25.setTop (mkF m 1195 Lc [(.ref pl), (.int r), (.int (13 : Int32))])) _
  refine XS.aload X25.here hx rfl (hb hby at_1195) hl19 rfl ?_
  show Steps p.tables e below (T25.setTop (mkF m 1197 Lc [(.ref tt), (.ref pl), (.int r), (.int (13 : Int32))])) _
  refine XS.iload X25.here hx rfl (hb hby at_1197) hl12 ?_
  show Steps p.tables e below (T25.setTop (mkF m 1199 Lc [(.int s_), (.ref tt), (.ref pl), (.int r), (.int (13 : Int32))])) _
  refine XS.iload X25.here hx rfl (hb hby at_1199) hl27 ?_
  show Steps p.tables e below (T25.setTop (mkF m 1201 Lc [(.int c1), (.int s_), (.ref tt), (.ref pl), (.int r), (.int (13 : Int32))])) _
  refine XS.iload X25.here hx rfl (hb hby at_1201) hl28 ?_
  show Steps p.tables e below (T25.setTop (mkF m 1203 Lc [(.int a1), (.int c1), (.int s_), (.ref tt), (.ref pl), (.int r), (.int (13 : Int32))])) _
  refine XS.iload X25.here hx rfl (hb hby at_1203) hl29 ?_
  show Steps p.tables e below (T25.setTop (mkF m 1205 Lc [(.int c2), (.int a1), (.int c1), (.int s_), (.ref tt), (.ref pl), (.int r), (.int (13 : Int32))])) _
  refine XS.iload X25.here hx rfl (hb hby at_1205) hl30 ?_
  show Steps p.tables e below (T25.setTop (mkF m 1207 Lc [(.int a2), (.int c2), (.int a1), (.int c1), (.int s_), (.ref tt), (.ref pl), (.int r), (.int (13 : Int32))])) _
  refine st27 _ ?_
  show Steps p.tables e below (T27.setTop (mkF m 1210 Lc [(.int (own_ok (13 : Int32) r s_ c1 a1 c2 a2 pf tf))])) _
  refine XS.ifNo X27.here hx rfl (hb hby at_1210) rfl ((if0 _ _).trans (feq (own_n01 (hok 13 (by omega)))).1) ?_
  show Steps p.tables e below (T27.setTop (mkF m 1213 Lc [])) _
  refine XS.bipush X27.here hx rfl (hb hby at_1213) ?_
  show Steps p.tables e below (T27.setTop (mkF m 1215 Lc [(.int (14 : Int32))])) _
  refine XS.iload X27.here hx rfl (hb hby at_1215) hl26 ?_
  show Steps p.tables e below (T27.setTop (mkF m 1217 Lc [(.int r), (.int (14 : Int32))])) _
  refine XS.aload X27.here hx rfl (hb hby at_1217) hl20 rfl ?_
  show Steps p.tables e below (T27.setTop (mkF m 1219 Lc [(.ref pl), (.int r), (.int (14 : Int32))])) _
  refine XS.aload X27.here hx rfl (hb hby at_1219) hl19 rfl ?_
  show Steps p.tables e below (T27.setTop (mkF m 1221 Lc [(.ref tt), (.ref pl), (.int r), (.int (14 : Int32))])) _
  refine XS.iload X27.here hx rfl (hb hby at_1221) hl12 ?_
  show Steps p.tables e below (T27.setTop (mkF m 1223 Lc [(.int s_), (.ref tt), (.ref pl), (.int r), (.int (14 : Int32))])) _
  refine XS.iload X27.here hx rfl (hb hby at_1223) hl27 ?_
  show Steps p.tables e below (T27.setTop (mkF m 1225 Lc [(.int c1), (.int s_), (.ref tt), (.ref pl), (.int r), (.int (14 : Int32))])) _
  refine XS.iload X27.here hx rfl (hb hby at_1225) hl28 ?_
  show Steps p.tables e below (T27.setTop (mkF m 1227 Lc [(.int a1), (.int c1), (.int s_), (.ref tt), (.ref pl), (.int r), (.int (14 : Int32))])) _
  refine XS.iload X27.here hx rfl (hb hby at_1227) hl29 ?_
  show Steps p.tables e below (T27.setTop (mkF m 1229 Lc [(.int c2), (.int a1), (.int c1), (.int s_), (.ref tt), (.ref pl), (.int r), (.int (14 : Int32))])) _
  refine XS.iload X27.here hx rfl (hb hby at_1229) hl30 ?_
  show Steps p.tables e below (T27.setTop (mkF m 1231 Lc [(.int a2), (.int c2), (.int a1), (.int c1), (.int s_), (.ref tt), (.ref pl), (.int r), (.int (14 : Int32))])) _
  refine st29 _ ?_
  show Steps p.tables e below (T29.setTop (mkF m 1234 Lc [(.int (own_ok (14 : Int32) r s_ c1 a1 c2 a2 pf tf))])) _
  refine XS.ifNo X29.here hx rfl (hb hby at_1234) rfl ((if0 _ _).trans (feq (own_n01 (hok 14 (by omega)))).1) ?_
  show Steps p.tables e below (T29.setTop (mkF m 1237 Lc [])) _
  refine XS.bipush X29.here hx rfl (hb hby at_1237) ?_
  show Steps p.tables e below (T29.setTop (mkF m 1239 Lc [(.int (15 : Int32))])) _
  refine XS.iload X29.here hx rfl (hb hby at_1239) hl26 ?_
  show Steps p.tables e below (T29.setTop (mkF m 1241 Lc [(.int r), (.int (15 : Int32))])) _
  refine XS.aload X29.here hx rfl (hb hby at_1241) hl20 rfl ?_
  show Steps p.tables e below (T29.setTop (mkF m 1243 Lc [(.ref pl), (.int r), (.int (15 : Int32))])) _
  refine XS.aload X29.here hx rfl (hb hby at_1243) hl19 rfl ?_
  show Steps p.tables e below (T29.setTop (mkF m 1245 Lc [(.ref tt), (.ref pl), (.int r), (.int (15 : Int32))])) _
  refine XS.iload X29.here hx rfl (hb hby at_1245) hl12 ?_
  show Steps p.tables e below (T29.setTop (mkF m 1247 Lc [(.int s_), (.ref tt), (.ref pl), (.int r), (.int (15 : Int32))])) _
  refine XS.iload X29.here hx rfl (hb hby at_1247) hl27 ?_
  show Steps p.tables e below (T29.setTop (mkF m 1249 Lc [(.int c1), (.int s_), (.ref tt), (.ref pl), (.int r), (.int (15 : Int32))])) _
  refine XS.iload X29.here hx rfl (hb hby at_1249) hl28 ?_
  show Steps p.tables e below (T29.setTop (mkF m 1251 Lc [(.int a1), (.int c1), (.int s_), (.ref tt), (.ref pl), (.int r), (.int (15 : Int32))])) _
  refine XS.iload X29.here hx rfl (hb hby at_1251) hl29 ?_
  show Steps p.tables e below (T29.setTop (mkF m 1253 Lc [(.int c2), (.int a1), (.int c1), (.int s_), (.ref tt), (.ref pl), (.int r), (.int (15 : Int32))])) _
  refine XS.iload X29.here hx rfl (hb hby at_1253) hl30 ?_
  show Steps p.tables e below (T29.setTop (mkF m 1255 Lc [(.int a2), (.int c2), (.int a1), (.int c1), (.int s_), (.ref tt), (.ref pl), (.int r), (.int (15 : Int32))])) _
  refine st31 _ ?_
  show Steps p.tables e below (T31.setTop (mkF m 1258 Lc [(.int (own_ok (15 : Int32) r s_ c1 a1 c2 a2 pf tf))])) _
  refine XS.ifNo X31.here hx rfl (hb hby at_1258) rfl ((if0 _ _).trans (feq (own_n01 (hok 15 (by omega)))).1) ?_
  show Steps p.tables e below (T31.setTop (mkF m 1261 Lc [])) _
  refine XS.iconst X31.here hx rfl (hb hby at_1261) ?_
  show Steps p.tables e below (T31.setTop (mkF m 1262 Lc [(.int (1 : Int32))])) _
  refine XS.goto X31.here hx rfl (pc0 := 1262) (pc' := 1266) rfl (hb hby at_1262) (by decide) (by decide) ?_
  show Steps p.tables e below (T31.setTop (mkF m 1266 Lc [(.int (1 : Int32))])) _
  exact kt
/-- k signs B written from the place S on -/
def own_W (t : Nat → Int32) (S : Nat) (B : Nat → Int32) : Nat → Nat → Int32
  | 0 => t
  | k + 1 => own_up (own_W t S B k) (S + k) (B k)
theorem own_W_at (t : Nat → Int32) (S : Nat) (B : Nat → Int32) : ∀ k j, own_W t S B k j = if S ≤ j ∧ j < S + k then B (j - S) else t j
  | 0, j => by show t j = _; rw [if_neg (by omega)]
  | k + 1, j => by
    show own_up (own_W t S B k) (S + k) (B k) j = _
    by_cases q : j = S + k
    · subst q; rw [own_up_at, if_pos (by omega), Nat.add_sub_cancel_left]
    · rw [own_up_ne _ _ q, own_W_at t S B k j]
      by_cases u : S ≤ j ∧ j < S + k
      · rw [if_pos u, if_pos (by omega)]
      · rw [if_neg u, if_neg (by omega)]
/-- where the commas of w digits stand -/
def own_xp (w : Nat) : Nat := (if 5 ≤ w then 2 ^ (w - 4) else 0) ||| (if 9 ≤ w then 2 ^ (w - 8) else 0)
theorem own_xp_bits : ∀ w : Fin 12, ∀ i : Fin 12, (own_xp w.1).testBit i.1 = decide (0 < i.1 ∧ i.1 < w.1 ∧ (w.1 - i.1) % 4 = 0) := by decide +kernel
theorem own_xp_lt : ∀ w : Fin 12, own_xp w.1 < 2 ^ w.1 := by decide +kernel
theorem own_xp_eq {w C : Nat} (hw : w ≤ 11) (hC : C < 2 ^ w) : C = own_xp w ↔ ∀ i, i < w → (C.testBit i = true ↔ (0 < i ∧ (w - i) % 4 = 0)) := by
  constructor
  · intro h i hi
    have b := own_xp_bits ⟨w, by omega⟩ ⟨i, by omega⟩
    rw [h]; simp only at b; rw [b]; simp only [decide_eq_true_eq]
    exact ⟨fun u => ⟨u.1, u.2.2⟩, fun u => ⟨u.1, hi, u.2⟩⟩
  · intro h
    apply Nat.eq_of_testBit_eq
    intro i
    by_cases hi : i < w
    · have b := own_xp_bits ⟨w, by omega⟩ ⟨i, by omega⟩
      simp only at b; rw [b]
      rw [Bool.eq_iff_iff, h i hi, decide_eq_true_eq]
      exact ⟨fun u => ⟨u.1, hi, u.2⟩, fun u => ⟨u.1, u.2.2⟩⟩
    · rw [Nat.testBit_lt_two_pow (Nat.lt_of_lt_of_le hC (Nat.pow_le_pow_right (by omega) (by omega)))]
      have lt : own_xp w < 2 ^ w := own_xp_lt ⟨w, by omega⟩
      rw [Nat.testBit_lt_two_pow (Nat.lt_of_lt_of_le lt (Nat.pow_le_pow_right (by omega) (by omega)))]
/-- what the text's signs are: sign, whole part, dot, fraction, noughts -/
def own_BF (B : Nat → Int32) (G W N C : Nat) (FC : Nat → Prop) : Prop :=
  (∀ d, d < G → B d = (45 : Int32)) ∧ (∀ i, i < W → C.testBit i = true → B (G + i) = (44 : Int32)) ∧ (∀ i, i < W → ¬ C.testBit i = true → ¬ B (G + i) = (44 : Int32)) ∧ (∀ i, i < W → ¬ B (G + i) = (46 : Int32)) ∧ (G = 0 → 0 < W → ¬ B 0 = (45 : Int32)) ∧
  (G + W < N → B (G + W) = (46 : Int32)) ∧ (∀ d, G + W < d → d < N → (B d = (44 : Int32) ↔ FC (d - G - W - 1))) ∧ (∀ d, N ≤ d → d < 100 → B d = (0 : Int32))
section Plain
variable {tf : Nat → Int32} {S E t : Nat} {B : Nat → Int32} {G W H F N C : Nat} {FC : Nat → Prop}
theorem own_isws (hE : E = S + t) (tv : ∀ d, d < t → tf (S + d) = B d) (BF : own_BF B G W N C FC) (hN : N = G + W + H + F) (hHF : H = 0 → F = 0) (hG : G ≤ 1) (ht : t = N ∨ (H = 1 ∧ N ≤ t)) {a : Nat} (h : own_WS tf S E a) : a = S + G := by
  obtain ⟨b1, b2, b3, b4, b5, b6, b7, b8⟩ := BF
  rcases h with ⟨h1, h2, h3⟩ | ⟨h1, h3⟩
  · rcases (by omega : G = 0 ∨ G = 1) with rfl | rfl
    · exfalso
      have e := tv 0 (by omega)
      rw [Nat.add_zero] at e
      rw [e] at h2
      by_cases q : 0 < W
      · exact b5 rfl q h2
      · have hH : H = 1 ∨ H = 0 ∨ 1 < H := by omega
        by_cases q2 : W + 0 < N
        · have := b6 (by omega); rw [show (0 + W : Nat) = 0 from by omega] at this; rw [this] at h2; exact absurd h2 (by decide)
        · omega
    · omega
  · rcases (by omega : G = 0 ∨ G = 1) with rfl | rfl
    · omega
    · exfalso; apply h1
      have e := tv 0 (by omega)
      rw [Nat.add_zero] at e
      exact ⟨by omega, by rw [e]; exact b1 0 (by omega)⟩
theorem own_iswe (hE : E = S + t) (tv : ∀ d, d < t → tf (S + d) = B d) (BF : own_BF B G W N C FC) (hN : N = G + W + H + F) (hHF : H = 0 → F = 0) (ht : t = N ∨ (H = 1 ∧ N ≤ t)) {b : Nat} (h : own_WE tf E (S + G) b) : b = S + G + W := by
  obtain ⟨b1, b2, b3, b4, b5, b6, b7, b8⟩ := BF
  obtain ⟨h1, h2, h3, h4⟩ := h
  have up : S + G + W ≤ b := by
    refine Decidable.byContradiction fun u => ?_
    rcases h4 with h4 | h4
    · omega
    · have e := tv (b - S) (by omega)
      rw [show S + (b - S) = b from by omega] at e
      rw [e] at h4
      have := b4 (b - S - G) (by omega)
      rw [show G + (b - S - G) = b - S from by omega] at this
      exact this h4
  refine Decidable.byContradiction fun u => ?_
  have lt : S + G + W < b := by omega
  by_cases q : G + W < N
  · have e := tv (G + W) (by omega)
    rw [← Nat.add_assoc] at e
    exact h3 (S + G + W) (by omega) lt (by rw [e]; exact b6 q)
  · omega
theorem own_comma (hE : E = S + t) (tv : ∀ d, d < t → tf (S + d) = B d) (BF : own_BF B G W N C FC) (hN : N = G + W + H + F) (hH : H ≤ 1) (hHF : H = 0 → F = 0) (hC : C < 2 ^ W) (ht : t = N ∨ (H = 1 ∧ N ≤ t)) (h65 : t ≤ 65) : (∃ z, S + G ≤ z ∧ z < E ∧ tf z = (44 : Int32)) ↔ (C ≠ 0 ∨ ∃ q, q < F ∧ FC q) := by
  obtain ⟨b1, b2, b3, b4, b5, b6, b7, b8⟩ := BF
  constructor
  · rintro ⟨z, z1, z2, z3⟩
    have e := tv (z - S) (by omega)
    rw [show S + (z - S) = z from by omega, z3] at e
    by_cases q1 : z - S < G + W
    · left; rintro rfl
      have := b3 (z - S - G) (by omega) (by simp)
      rw [show G + (z - S - G) = z - S from by omega] at this
      exact this e.symm
    · by_cases q2 : z - S < N
      · by_cases q3 : z - S = G + W
        · rw [q3, b6 (by omega)] at e; exact absurd e (by decide)
        · right; exact ⟨z - S - G - W - 1, by omega, (b7 (z - S) (by omega) q2).mp e.symm⟩
      · rw [b8 (z - S) (by omega) (by omega)] at e; exact absurd e (by decide)
  · rintro (h | ⟨q, q1, q2⟩)
    · obtain ⟨i, hi⟩ : ∃ i, C.testBit i = true := Nat.exists_testBit_of_ne_zero h
      have hiW : i < W := Decidable.byContradiction fun u => by
        rw [Nat.testBit_lt_two_pow (Nat.lt_of_lt_of_le hC (Nat.pow_le_pow_right (by omega) (by omega)))] at hi
        exact absurd hi (by decide)
      exact ⟨S + (G + i), by omega, by omega, by rw [tv (G + i) (by omega)]; exact b2 i hiW hi⟩
    · exact ⟨S + (G + W + 1 + q), by omega, by omega, by
        rw [tv (G + W + 1 + q) (by omega)]
        exact (b7 _ (by omega) (by omega)).mpr (by rw [show G + W + 1 + q - G - W - 1 = q from by omega]; exact q2)⟩
theorem own_match (hE : E = S + t) (tv : ∀ d, d < t → tf (S + d) = B d) (BF : own_BF B G W N C FC) (hN : N = G + W + H + F) (hH : H ≤ 1) (hHF : H = 0 → F = 0) (hW : W ≤ 11) (hC : C < 2 ^ W) (ht : t = N ∨ (H = 1 ∧ N ≤ t)) (h65 : t ≤ 65) : (∀ z, S ≤ z → z < E → (own_sep (S + G) (S + G + W) z ↔ tf z = (44 : Int32))) ↔ (C = own_xp W ∧ ¬ ∃ q, q < F ∧ FC q) := by
  obtain ⟨b1, b2, b3, b4, b5, b6, b7, b8⟩ := BF
  rw [own_xp_eq hW hC]
  constructor
  · intro h
    refine ⟨fun i hi => ?_, fun ⟨q, q1, q2⟩ => ?_⟩
    · have e := h (S + (G + i)) (by omega) (by omega)
      rw [tv (G + i) (by omega)] at e
      constructor
      · intro u; have := e.mpr (b2 i hi u); exact ⟨by omega, by have := this.2.2; omega⟩
      · intro u
        refine Decidable.byContradiction fun v => b3 i hi v (e.mp ⟨by omega, by omega, ?_⟩)
        rw [show S + G + W - (S + (G + i)) = W - i from by omega]; exact u.2
    · have e := h (S + (G + W + 1 + q)) (by omega) (by omega)
      rw [tv (G + W + 1 + q) (by omega)] at e
      have := e.mpr ((b7 _ (by omega) (by omega)).mpr (by rw [show G + W + 1 + q - G - W - 1 = q from by omega]; exact q2))
      omega
  · rintro ⟨h, hq⟩ z z1 z2
    have e := tv (z - S) (by omega)
    rw [show S + (z - S) = z from by omega] at e
    rw [e]
    by_cases q0 : z - S < G
    · rw [b1 _ q0]; exact ⟨fun u => by omega, fun u => absurd u (by decide)⟩
    · by_cases q1 : z - S < G + W
      · have hb := h (z - S - G) (by omega)
        have e2 : G + (z - S - G) = z - S := by omega
        constructor
        · intro u
          have := b2 (z - S - G) (by omega) (hb.mpr ⟨by omega, by rw [show W - (z - S - G) = S + G + W - z from by omega]; exact u.2.2⟩)
          rwa [e2] at this
        · intro u
          have v : C.testBit (z - S - G) = true := Decidable.byContradiction fun v => b3 (z - S - G) (by omega) v (by rw [e2]; exact u)
          have := hb.mp v
          exact ⟨by omega, by omega, by rw [show S + G + W - z = W - (z - S - G) from by omega]; exact this.2⟩
      · refine ⟨fun u => by omega, fun u => ?_⟩
        exfalso
        by_cases q2 : z - S < N
        · by_cases q3 : z - S = G + W
          · rw [q3, b6 (by omega)] at u; exact absurd u (by decide)
          · exact hq ⟨z - S - G - W - 1, by omega, (b7 (z - S) (by omega) q2).mp u⟩
        · rw [b8 (z - S) (by omega) (by omega)] at u; exact absurd u (by decide)
theorem own_nc0 (h : ∀ z, S ≤ z → z < E → ¬ tf z = (44 : Int32)) : ∀ d, d ≤ E - S → own_nc tf S d = d
  | 0, _ => rfl
  | d + 1, hd => by
    show own_nc tf S d + (if tf (S + d) = (44 : Int32) then 0 else 1) = d + 1
    rw [own_nc0 h d (by omega), if_neg (h (S + d) (by omega) (by omega))]
theorem own_ncs (h4 : W % 4 ≠ 0) (hW : W ≤ 11) (h : ∀ z, S ≤ z → z < E → (own_sep (S + G) (S + G + W) z ↔ tf z = (44 : Int32))) : ∀ d, d ≤ E - S → own_nc tf S d + (if 9 ≤ W ∧ G + W - 8 < d then 1 else 0) + (if 5 ≤ W ∧ G + W - 4 < d then 1 else 0) = d
  | 0, _ => by rw [if_neg (by omega), if_neg (by omega)]; rfl
  | d + 1, hd => by
    have ih := own_ncs h4 hW h d (by omega)
    have hz := h (S + d) (by omega) (by omega)
    show own_nc tf S d + (if tf (S + d) = (44 : Int32) then 0 else 1) + _ + _ = d + 1
    by_cases q : tf (S + d) = (44 : Int32)
    · rw [if_pos q]
      have u := hz.mpr q
      obtain ⟨u1, u2, u3⟩ := u
      have u3' : (G + W - d) % 4 = 0 := by rw [show G + W - d = S + G + W - (S + d) from by omega]; exact u3
      rcases (by omega : G + W - d = 4 ∨ G + W - d = 8) with v | v
      · rw [if_pos (show 5 ≤ W ∧ G + W - 4 < d + 1 by omega)]
        rw [if_neg (show ¬ (5 ≤ W ∧ G + W - 4 < d) by omega)] at ih
        by_cases w9 : 9 ≤ W
        · rw [if_pos (show 9 ≤ W ∧ G + W - 8 < d + 1 by omega)]
          rw [if_pos (show 9 ≤ W ∧ G + W - 8 < d by omega)] at ih
          omega
        · rw [if_neg (show ¬ (9 ≤ W ∧ G + W - 8 < d + 1) by omega)]
          rw [if_neg (show ¬ (9 ≤ W ∧ G + W - 8 < d) by omega)] at ih
          omega
      · rw [if_pos (show 9 ≤ W ∧ G + W - 8 < d + 1 by omega), if_neg (show ¬ (5 ≤ W ∧ G + W - 4 < d + 1) by omega)]
        rw [if_neg (show ¬ (9 ≤ W ∧ G + W - 8 < d) by omega), if_neg (show ¬ (5 ≤ W ∧ G + W - 4 < d) by omega)] at ih
        omega
    · rw [if_neg q]
      have n1 : 9 ≤ W → G + W - 8 ≠ d := fun w9 v => q (hz.mp ⟨by omega, by omega, by rw [show S + G + W - (S + d) = 8 from by omega]⟩)
      have n2 : 5 ≤ W → G + W - 4 ≠ d := fun w5 v => q (hz.mp ⟨by omega, by omega, by rw [show S + G + W - (S + d) = 4 from by omega]⟩)
      have e1 : (if 9 ≤ W ∧ G + W - 8 < d + 1 then 1 else 0) = (if 9 ≤ W ∧ G + W - 8 < d then (1 : Nat) else 0) := by
        by_cases v : 9 ≤ W ∧ G + W - 8 < d
        · rw [if_pos v, if_pos (by omega)]
        · rw [if_neg v, if_neg (fun u => by have := n1 u.1; omega)]
      have e2 : (if 5 ≤ W ∧ G + W - 4 < d + 1 then 1 else 0) = (if 5 ≤ W ∧ G + W - 4 < d then (1 : Nat) else 0) := by
        by_cases v : 5 ≤ W ∧ G + W - 4 < d
        · rw [if_pos v, if_pos (by omega)]
        · rw [if_neg v, if_neg (fun u => by have := n2 u.1; omega)]
      rw [e1, e2]; omega
theorem own_l8 {G W t : Nat} (h : G + W ≤ t) (u : 9 ≤ W) : G + W - 8 < t := by omega
theorem own_l4 {G W t : Nat} (h : G + W ≤ t) (u : 5 ≤ W) : G + W - 4 < t := by omega
theorem own_cast {a b c t : Nat} (h : a + b + c = t) : (a : Int) + ((b + c : Nat) : Int) = (t : Nat) := by omega
/-- the answer, and what was copied: place j holds the sign at j and as many commas as stand ahead -/
theorem own_ans {rv : Int32} {pf : Nat → Int32} (hE : E = S + t) (tv : ∀ d, d < t → tf (S + d) = B d) (BF : own_BF B G W N C FC) (hN : N = G + W + H + F) (hH : H ≤ 1) (hHF : H = 0 → F = 0) (hG : G ≤ 1) (hW : W ≤ 11) (hC : C < 2 ^ W) (ht : t = N ∨ (H = 1 ∧ N ≤ t)) (h65 : t ≤ 65) (hU : own_Ug tf S E rv pf) :
    ((64 < t ∨ ¬ (¬ (C ≠ 0 ∨ ∃ q, q < F ∧ FC q) ∨ ((¬ ∃ q, q < F ∧ FC q) ∧ W % 4 ≠ 0 ∧ C = own_xp W))) ∧ rv = -1) ∨
    (t ≤ 64 ∧ (¬ (C ≠ 0 ∨ ∃ q, q < F ∧ FC q)) ∧ rv.toInt = (t : Nat) ∧ ∀ j, j < t → pf j = tf (S + j)) ∨
    (t ≤ 64 ∧ (C ≠ 0 ∨ ∃ q, q < F ∧ FC q) ∧ ((¬ ∃ q, q < F ∧ FC q) ∧ W % 4 ≠ 0 ∧ C = own_xp W) ∧ rv.toInt + ((if 9 ≤ W then 1 else 0) + (if 5 ≤ W then 1 else 0) : Nat) = (t : Nat) ∧
      ∀ j p, p < t → own_nc tf S p = j → ¬ tf (S + p) = (44 : Int32) → pf j = tf (S + p)) ∧ (∀ d, d ≤ t → own_nc tf S d + (if 9 ≤ W ∧ G + W - 8 < d then 1 else 0) + (if 5 ≤ W ∧ G + W - 4 < d then 1 else 0) = d) ∧ (∀ z, S ≤ z → z < E → (own_sep (S + G) (S + G + W) z ↔ tf z = (44 : Int32))) := by
  have hES : E - S = t := by omega
  have tb : G + W ≤ t := by rcases ht with h | h <;> omega
  rcases hU with ⟨h1, h2⟩ | ⟨h64, a, b, ha, hb, hr⟩
  · exact Or.inl ⟨Or.inl (by omega), h2⟩
  · obtain rfl := own_isws hE tv BF hN hHF hG ht ha
    obtain rfl := own_iswe hE tv BF hN hHF ht hb
    have cm := own_comma hE tv BF hN hH hHF hC ht h65
    have mt := own_match hE tv BF hN hH hHF hW hC ht h65
    have w4 : (S + G + W - (S + G)) % 4 = W % 4 := by rw [show S + G + W - (S + G) = W from by omega]
    rw [w4] at hr
    rcases hr with ⟨g1, g2, g3⟩ | ⟨g1, g2, g3⟩
    · refine Or.inl ⟨Or.inr fun u => ?_, g3⟩
      rcases u with u | ⟨u1, u2, u3⟩
      · exact u (cm.mp g1)
      · rcases g2 with g2 | ⟨z, z1, z2, z3⟩
        · exact u2 g2
        · exact z3 ((mt.mpr ⟨u3, u1⟩) z z1 z2)
    · by_cases an : (C ≠ 0 ∨ ∃ q, q < F ∧ FC q)
      · obtain ⟨z, z1, z2, z3⟩ := cm.mpr an
        have g1' : W % 4 ≠ 0 ∧ ∀ z, S ≤ z → z < E → (own_sep (S + G) (S + G + W) z ↔ tf z = (44 : Int32)) := g1.resolve_left (fun u => u z z1 z2 z3)
        have mt' := mt.mp g1'.2
        have nv := own_ncs g1'.1 hW g1'.2
        rw [hES] at nv g2
        have n := nv t (Nat.le_refl _)
        refine Or.inr (Or.inr ⟨⟨by omega, an, ⟨mt'.2, g1'.1, mt'.1⟩, ?_, fun j p hp hj hq => ?_⟩, nv, g1'.2⟩)
        · rw [g2]
          have e9 : (9 ≤ W ∧ G + W - 8 < t) ↔ 9 ≤ W := ⟨fun u => u.1, fun u => ⟨u, own_l8 tb u⟩⟩
          have e5 : (5 ≤ W ∧ G + W - 4 < t) ↔ 5 ≤ W := ⟨fun u => u.1, fun u => ⟨u, own_l4 tb u⟩⟩
          simp only [e9, e5] at n
          exact own_cast n
        · have := g3 (S + p) (by omega) (by omega) hq
          rw [Nat.add_sub_cancel_left, hj] at this; exact this
      · have none : ∀ z, S ≤ z → z < E → ¬ tf z = (44 : Int32) := fun z z1 z2 z3 => by
          by_cases q : z - S < G
          · have e := tv (z - S) (by omega)
            rw [show S + (z - S) = z from by omega, z3, BF.1 _ q] at e
            exact absurd e (by decide)
          · exact an (cm.mp ⟨z, by omega, z2, z3⟩)
        have n0 := own_nc0 none
        refine Or.inr (Or.inl ⟨by omega, an, ?_, fun j hj => ?_⟩)
        · rw [g2, n0 _ (Nat.le_refl _), hES]
        · have := g3 (S + j) (by omega) (by omega) (none _ (by omega) (by omega))
          rw [Nat.add_sub_cancel_left, n0 j (by omega)] at this; exact this
end Plain
theorem own_vg {ng g : Int32} (h : own_g_s0 ng = g) : ∃ G : Nat, G ≤ 1 ∧ g.toInt = (G : Nat) := by
  rw [← h]; unfold own_g_s0; split
  · exact ⟨0, by omega, rfl⟩
  · exact ⟨1, by omega, rfl⟩
theorem own_vw {p0 w : Int32} (h : ((((p0.toUInt32 >>> ((1 : Int32) &&& 31).toUInt32).toInt32) &&& (15 : Int32)) % (12 : Int32)) = w) : ∃ W : Nat, W ≤ 11 ∧ w.toInt = (W : Nat) := by
  have t1 := own_i_mask (15 : Int32) 4 (by decide) (by decide) (rfl : ((p0.toUInt32 >>> ((1 : Int32) &&& 31).toUInt32).toInt32).toInt = _)
  have t2 := own_i_mod t1 (show (12 : Int32).toInt = 12 from rfl) (by omega)
  rw [h] at t2
  exact ⟨w.toInt.toNat, by omega, by omega⟩
theorem own_vs {p0 s_ : Int32} (h : (((p0.toUInt32 >>> ((8 : Int32) &&& 31).toUInt32).toInt32) &&& (3 : Int32)) = s_) : ∃ S : Nat, S ≤ 3 ∧ s_.toInt = (S : Nat) := by
  have t1 := own_i_mask (3 : Int32) 2 (by decide) (by decide) (rfl : ((p0.toUInt32 >>> ((8 : Int32) &&& 31).toUInt32).toInt32).toInt = _)
  rw [h] at t1
  exact ⟨s_.toInt.toNat, by omega, by omega⟩
theorem own_vh {p0 lm hd : Int32} (h : own_hd_s0 p0 lm = hd) : ∃ H : Nat, H ≤ 1 ∧ hd.toInt = (H : Nat) ∧ (¬ lm = 0 → H = 1) := by
  rw [← h]; unfold own_hd_s0; split
  · rename_i q; split
    · exact ⟨0, by omega, rfl, fun u => absurd q u⟩
    · exact ⟨1, by omega, rfl, fun _ => rfl⟩
  · exact ⟨1, by omega, rfl, fun _ => rfl⟩
theorem own_vf {p0 hd f : Int32} {H : Nat} (h : own_f_s0 p0 hd = f) (hH : hd.toInt = (H : Nat)) : ∃ F : Nat, F ≤ 3 ∧ f.toInt = (F : Nat) ∧ (H = 0 → F = 0) := by
  rw [← h]; unfold own_f_s0; split
  · exact ⟨0, by omega, rfl, fun _ => rfl⟩
  · rename_i q
    have t1 := own_i_mask (3 : Int32) 2 (by decide) (by decide) (rfl : ((p0.toUInt32 >>> ((6 : Int32) &&& 31).toUInt32).toInt32).toInt = _)
    rw [own_i_eq hH (show (0 : Int32).toInt = 0 from rfl)] at q
    exact ⟨_, by omega, (Int.toNat_of_nonneg (by omega)).symm, fun u => by omega⟩
theorem own_wc {w : Int32} {W : Nat} (h : w.toInt = (W : Nat)) (hW : W ≤ 11) : (w = 0 ∧ W = 0) ∨ (w = 1 ∧ W = 1) ∨ (w = 2 ∧ W = 2) ∨ (w = 3 ∧ W = 3) ∨ (w = 4 ∧ W = 4) ∨ (w = 5 ∧ W = 5) ∨ (w = 6 ∧ W = 6) ∨ (w = 7 ∧ W = 7) ∨ (w = 8 ∧ W = 8) ∨ (w = 9 ∧ W = 9) ∨ (w = 10 ∧ W = 10) ∨ (w = 11 ∧ W = 11) := by
  rcases (by omega : W = 0 ∨ W = 1 ∨ W = 2 ∨ W = 3 ∨ W = 4 ∨ W = 5 ∨ W = 6 ∨ W = 7 ∨ W = 8 ∨ W = 9 ∨ W = 10 ∨ W = 11) with rfl | rfl | rfl | rfl | rfl | rfl | rfl | rfl | rfl | rfl | rfl | rfl
  · exact Or.inl ⟨own_i_of h, rfl⟩
  · exact Or.inr (Or.inl ⟨own_i_of h, rfl⟩)
  · exact Or.inr (Or.inr (Or.inl ⟨own_i_of h, rfl⟩))
  · exact Or.inr (Or.inr (Or.inr (Or.inl ⟨own_i_of h, rfl⟩)))
  · exact Or.inr (Or.inr (Or.inr (Or.inr (Or.inl ⟨own_i_of h, rfl⟩))))
  · exact Or.inr (Or.inr (Or.inr (Or.inr (Or.inr (Or.inl ⟨own_i_of h, rfl⟩)))))
  · exact Or.inr (Or.inr (Or.inr (Or.inr (Or.inr (Or.inr (Or.inl ⟨own_i_of h, rfl⟩))))))
  · exact Or.inr (Or.inr (Or.inr (Or.inr (Or.inr (Or.inr (Or.inr (Or.inl ⟨own_i_of h, rfl⟩)))))))
  · exact Or.inr (Or.inr (Or.inr (Or.inr (Or.inr (Or.inr (Or.inr (Or.inr (Or.inl ⟨own_i_of h, rfl⟩))))))))
  · exact Or.inr (Or.inr (Or.inr (Or.inr (Or.inr (Or.inr (Or.inr (Or.inr (Or.inr (Or.inl ⟨own_i_of h, rfl⟩)))))))))
  · exact Or.inr (Or.inr (Or.inr (Or.inr (Or.inr (Or.inr (Or.inr (Or.inr (Or.inr (Or.inr (Or.inl ⟨own_i_of h, rfl⟩))))))))))
  · exact Or.inr (Or.inr (Or.inr (Or.inr (Or.inr (Or.inr (Or.inr (Or.inr (Or.inr (Or.inr (Or.inr (⟨own_i_of h, rfl⟩)))))))))))
theorem own_vx {w xp : Int32} {W : Nat} (h : w.toInt = (W : Nat)) (hW : W ≤ 11) (hx : ((own_x1_s0 w) ||| (own_x2_s0 w)) = xp) : xp.toInt = (own_xp W : Nat) := by
  rw [← hx]
  rcases own_wc h hW with ⟨rfl, rfl⟩ | ⟨rfl, rfl⟩ | ⟨rfl, rfl⟩ | ⟨rfl, rfl⟩ | ⟨rfl, rfl⟩ | ⟨rfl, rfl⟩ | ⟨rfl, rfl⟩ | ⟨rfl, rfl⟩ | ⟨rfl, rfl⟩ | ⟨rfl, rfl⟩ | ⟨rfl, rfl⟩ | ⟨rfl, rfl⟩ <;> decide
theorem own_msk {p1 w : Int32} {W : Nat} (h : w.toInt = (W : Nat)) (hW : W ≤ 11) : (p1 &&& (((1 : Int32) <<< (w &&& 31)) - (1 : Int32))).toInt = p1.toInt % (2 ^ W : Nat) := by
  rcases own_wc h hW with ⟨rfl, rfl⟩ | ⟨rfl, rfl⟩ | ⟨rfl, rfl⟩ | ⟨rfl, rfl⟩ | ⟨rfl, rfl⟩ | ⟨rfl, rfl⟩ | ⟨rfl, rfl⟩ | ⟨rfl, rfl⟩ | ⟨rfl, rfl⟩ | ⟨rfl, rfl⟩ | ⟨rfl, rfl⟩ | ⟨rfl, rfl⟩ <;> exact c_mask _ _ _ (by decide) (by decide)
theorem own_vc {p1 w ex xp cm : Int32} {W : Nat} (h : w.toInt = (W : Nat)) (hW : W ≤ 11) (hx : xp.toInt = (own_xp W : Nat)) (hc : own_cm_s0 p1 w ex xp = cm) : ∃ C : Nat, C < 2 ^ W ∧ cm.toInt = (C : Nat) := by
  rw [← hc]; unfold own_cm_s0; split
  · rw [own_msk h hW]
    have p2 : 0 < 2 ^ W := Nat.pow_pos (by omega)
    have g1 := Int.emod_nonneg p1.toInt (b := ((2 ^ W : Nat) : Int)) (by omega)
    have g2 := Int.emod_lt_of_pos p1.toInt (b := ((2 ^ W : Nat) : Int)) (by omega)
    exact ⟨(p1.toInt % ((2 ^ W : Nat) : Int)).toNat, by omega, by omega⟩
  · exact ⟨own_xp W, own_xp_lt ⟨W, by omega⟩, hx⟩
theorem own_vn {g w hd f n : Int32} {G W H F : Nat} (hg : g.toInt = (G : Nat)) (hw : w.toInt = (W : Nat)) (hh : hd.toInt = (H : Nat)) (hf : f.toInt = (F : Nat)) (hG : G ≤ 1) (hW : W ≤ 11) (hH : H ≤ 1) (hF : F ≤ 3) (h : (((g + w) + (own_n1_s0 hd)) + f) = n) : n.toInt = ((G + W + H + F : Nat) : Int) := by
  have e : (own_n1_s0 hd).toInt = (H : Nat) := by
    unfold own_n1_s0
    have q := own_i_eq hh (show (0 : Int32).toInt = 0 from rfl)
    split
    · rename_i u; have := q.mp u; rw [this]; rfl
    · rename_i u; have v : H = 1 := by have : ¬ _ := fun z => u (q.mpr z); omega
      rw [v]; rfl
  rw [← h, own_i_add (own_i_add (own_i_add hg hw (by omega)) e (by omega)) hf (by omega)]; omega
theorem own_vt {lm l6 n to : Int32} {H N : Nat} (hn : n.toInt = (N : Nat)) (hN : N ≤ 16) (hl : ¬ lm = 0 → H = 1) (h : own_tot_s0 lm l6 n = to) : ∃ t : Nat, to.toInt = (t : Nat) ∧ t ≤ 65 ∧ (t = N ∨ (H = 1 ∧ N ≤ t)) := by
  rw [← h]; unfold own_tot_s0; split
  · exact ⟨N, hn, by omega, Or.inl rfl⟩
  · rename_i q; split
    · exact ⟨64, rfl, by omega, Or.inr ⟨hl q, by omega⟩⟩
    · exact ⟨65, rfl, by omega, Or.inr ⟨hl q, by omega⟩⟩
theorem own_wb44 (z f : Int32) : ¬ own_wb z f = (44 : Int32) ∧ ¬ own_wb z f = (46 : Int32) ∧ (¬ f = 0 → ¬ own_wb z f = (45 : Int32)) := by
  unfold own_wb
  repeat' (first | (refine ⟨by decide, by decide, fun u => ?_⟩; first | decide | (exact absurd (by assumption) u)) | split)
theorem own_fb44 (z : Int32) : own_fb z = (44 : Int32) ↔ z = (2 : Int32) := by
  unfold own_fb
  by_cases h2 : z = (2 : Int32)
  · subst h2; decide
  · by_cases h0 : z = (0 : Int32)
    · subst h0; decide
    · by_cases h1 : z = (1 : Int32)
      · subst h1; decide
      · rw [if_neg h0, if_neg h1, if_neg h2]
        refine ⟨fun u => ?_, fun u => absurd u h2⟩
        exfalso; revert u
        repeat' (first | decide | split)
theorem own_bit {cm q : Int32} {C i : Nat} (hc : cm.toInt = (C : Nat)) (hq : q.toInt = (i : Nat)) (hi : i < 12) : (((cm.toUInt32 >>> (q &&& 31).toUInt32).toInt32) &&& (1 : Int32)) = (0 : Int32) ↔ ¬ C.testBit i = true := by
  have e : ((cm.toUInt32 >>> (q &&& 31).toUInt32).toInt32).toInt = ((C / 2 ^ i : Nat) : Int) := by
    have hc' : C < 4294967296 := by have := rng32 cm; omega
    by_cases h0 : i = 0
    · subst h0
      obtain rfl : q = (0 : Int32) := own_i_of hq
      have : (cm.toUInt32 >>> ((0 : Int32) &&& 31).toUInt32).toInt32 = cm := by
        apply Int32.toBitVec_inj.mp
        show cm.toBitVec >>> (((0 : Int32) &&& 31).toBitVec % 32#32) = cm.toBitVec
        have e0 : ((0 : Int32) &&& 31).toBitVec % 32#32 = 0#32 := by decide
        rw [e0]; simp
      rw [this, hc]; simp
    · have hk : q.toBitVec.toNat % 32 = i := by
        have h : q.toBitVec.toInt = i := hq
        rw [BitVec.toInt_eq_toNat_cond] at h
        have := q.toBitVec.isLt
        split at h <;> omega
      rw [c_iushr cm q i hk (by omega), hc]
      rw [Int.emod_eq_of_lt (by omega) (by omega)]
      exact (Int.natCast_ediv C (2 ^ i)).symm
  have m := own_i_mask (1 : Int32) 1 (by decide) (by decide) e
  rw [own_i_eq m (show (0 : Int32).toInt = 0 from rfl)]
  rw [Nat.testBit_eq_decide_div_mod_eq, decide_eq_true_eq]
  omega
theorem own_kof {k : Nat} (hk : k < 100) : (Int32.ofNat k).toInt = (k : Nat) := Int32.toInt_ofNat_of_lt (by omega)
theorem own_isBF {g w cm n : Int32} {q2 : Int64} {p3 : Int32} {G W H F N C : Nat} (hg : g.toInt = (G : Nat)) (hw : w.toInt = (W : Nat)) (hc : cm.toInt = (C : Nat)) (hn : n.toInt = (N : Nat)) (hG : G ≤ 1) (hW : W ≤ 11) (hH : H ≤ 1) (hF : F ≤ 3) (hN : N = G + W + H + F) (hHF : H = 0 → F = 0) :
    own_BF (fun d => own_ba (Int32.ofNat d) g w cm n q2 p3) G W N C (fun q => own_fc p3 (Int32.ofNat q) = (2 : Int32)) := by
  have gw := own_i_add hg hw (by omega)
  have C1 : ∀ d, d < 100 → (Int32.ofNat d < n ↔ d < N) := fun d hd => by rw [own_i_lt (own_kof hd) hn]; omega
  have C2 : ∀ d, d < 100 → (Int32.ofNat d < g ↔ d < G) := fun d hd => by rw [own_i_lt (own_kof hd) hg]; omega
  have C3 : ∀ d, d < 100 → (Int32.ofNat d < (g + w) ↔ d < G + W) := fun d hd => by rw [own_i_lt (own_kof hd) gw]; omega
  have C5 : ∀ d, d < 100 → (Int32.ofNat d = (g + w) ↔ d = G + W) := fun d hd => by rw [own_i_eq (own_kof hd) gw]; omega
  have sub : ∀ i, i < W → (Int32.ofNat (G + i) - g).toInt = (i : Nat) := fun i hi => by rw [own_i_sub (own_kof (by omega)) hg (by omega)]; omega
  refine ⟨fun d hd => ?_, fun i hi hb => ?_, fun i hi hb => ?_, fun i hi => ?_, fun h0 hW0 => ?_, fun h => ?_, fun d h1 h2 => ?_, fun d h1 h2 => ?_⟩
  · show own_ba (Int32.ofNat d) g w cm n q2 p3 = (45 : Int32)
    unfold own_ba; rw [if_pos ((C1 d (by omega)).mpr (by omega)), if_pos ((C2 d (by omega)).mpr hd)]
  · show own_ba (Int32.ofNat (G + i)) g w cm n q2 p3 = (44 : Int32)
    unfold own_ba; rw [if_pos ((C1 _ (by omega)).mpr (by omega)), if_neg (fun u => by have := (C2 _ (by omega)).mp u; omega), if_pos ((C3 _ (by omega)).mpr (by omega)), if_neg (fun u => (own_bit hc (sub i hi) (by omega)).mp u hb)]
  · show ¬ own_ba (Int32.ofNat (G + i)) g w cm n q2 p3 = (44 : Int32)
    unfold own_ba; rw [if_pos ((C1 _ (by omega)).mpr (by omega)), if_neg (fun u => by have := (C2 _ (by omega)).mp u; omega), if_pos ((C3 _ (by omega)).mpr (by omega)), if_pos ((own_bit hc (sub i hi) (by omega)).mpr hb)]
    exact (own_wb44 _ _).1
  · show ¬ own_ba (Int32.ofNat (G + i)) g w cm n q2 p3 = (46 : Int32)
    unfold own_ba; rw [if_pos ((C1 _ (by omega)).mpr (by omega)), if_neg (fun u => by have := (C2 _ (by omega)).mp u; omega), if_pos ((C3 _ (by omega)).mpr (by omega))]
    split
    · exact (own_wb44 _ _).2.1
    · decide
  · show ¬ own_ba (Int32.ofNat 0) g w cm n q2 p3 = (45 : Int32)
    unfold own_ba; rw [if_pos ((C1 _ (by omega)).mpr (by omega)), if_neg (fun u => by have := (C2 _ (by omega)).mp u; omega), if_pos ((C3 _ (by omega)).mpr (by omega))]
    split
    · refine (own_wb44 _ _).2.2 ?_
      have e1 : (Int32.ofNat 0 - g) = (0 : Int32) := own_i_of (by have := sub 0 hW0; rw [h0] at this; exact this)
      have e2 : g = (0 : Int32) := own_i_of (by rw [hg, h0]; rfl)
      unfold own_first_s0; rw [if_pos e1, if_pos e2]; decide
    · decide
  · show own_ba (Int32.ofNat (G + W)) g w cm n q2 p3 = (46 : Int32)
    unfold own_ba; rw [if_pos ((C1 _ (by omega)).mpr (by omega)), if_neg (fun u => by have := (C2 _ (by omega)).mp u; omega), if_neg (fun u => by have := (C3 _ (by omega)).mp u; omega), if_pos ((C5 _ (by omega)).mpr rfl)]
  · show own_ba (Int32.ofNat d) g w cm n q2 p3 = (44 : Int32) ↔ own_fc p3 (Int32.ofNat (d - G - W - 1)) = (2 : Int32)
    unfold own_ba; rw [if_pos ((C1 _ (by omega)).mpr (by omega)), if_neg (fun u => by have := (C2 _ (by omega)).mp u; omega), if_neg (fun u => by have := (C3 _ (by omega)).mp u; omega), if_neg (fun u => by have := (C5 _ (by omega)).mp u; omega)]
    have e : (((Int32.ofNat d - g) - w) - (1 : Int32)) = Int32.ofNat (d - G - W - 1) := own_i_of (by
      rw [own_i_sub (own_i_sub (own_i_sub (own_kof (by omega)) hg (by omega)) hw (by omega)) (show (1 : Int32).toInt = 1 from rfl) (by omega), own_kof (by omega)]; omega)
    rw [e]; exact own_fb44 _
  · show own_ba (Int32.ofNat d) g w cm n q2 p3 = (0 : Int32)
    unfold own_ba; rw [if_neg (fun u => by have := (C1 _ (by omega)).mp u; omega)]
theorem own_FCi {p3 f : Int32} {F : Nat} (hf : f.toInt = (F : Nat)) (hF : F ≤ 3) : own_FC p3 f ↔ ∃ q, q < F ∧ own_fc p3 (Int32.ofNat q) = (2 : Int32) := by
  have l0 := own_i_lt (show (0 : Int32).toInt = 0 from rfl) hf
  have l1 := own_i_lt (show (1 : Int32).toInt = 1 from rfl) hf
  have l2 := own_i_lt (show (2 : Int32).toInt = 2 from rfl) hf
  constructor
  · rintro (⟨h, k⟩ | ⟨h, k⟩ | ⟨h, k⟩)
    · exact ⟨0, by have := l0.mp h; omega, k⟩
    · exact ⟨1, by have := l1.mp h; omega, k⟩
    · exact ⟨2, by have := l2.mp h; omega, k⟩
  · rintro ⟨q, h, k⟩
    rcases (by omega : q = 0 ∨ q = 1 ∨ q = 2) with rfl | rfl | rfl
    · exact Or.inl ⟨l0.mpr (by omega), k⟩
    · exact Or.inr (Or.inl ⟨l1.mpr (by omega), k⟩)
    · exact Or.inr (Or.inr ⟨l2.mpr (by omega), k⟩)
/-- the place that okAt looks at -/
def own_pp (z c1 a1 c2 a2 : Int32) : Int32 :=
  if c1 = 0 then (if c2 = 0 then z else if z < a2 then z else z + 1) else if z < a1 then (if c2 = 0 then z else if z < a2 then z else z + 1) else (if c2 = 0 then z + 1 else if z + 1 < a2 then z + 1 else (z + 1) + 1)
theorem own_okp {z r s_ c1 a1 c2 a2 : Int32} {pf tf : Nat → Int32} (h : z < r → pf z.toNatClampNeg = tf (s_ + own_pp z c1 a1 c2 a2).toNatClampNeg) : own_ok z r s_ c1 a1 c2 a2 pf tf = 1 := by
  unfold own_ok
  by_cases q : z < r
  · have h := h q
    unfold own_pp at h
    rw [if_pos q]
    by_cases k1 : c1 = 0
    · rw [if_pos k1] at h ⊢
      by_cases k2 : c2 = 0
      · rw [if_pos k2] at h ⊢; rw [if_pos h]
      · rw [if_neg k2] at h ⊢
        by_cases k3 : z < a2
        · rw [if_pos k3] at h ⊢; rw [if_pos h]
        · rw [if_neg k3] at h ⊢; rw [if_pos h]
    · rw [if_neg k1] at h ⊢
      by_cases k4 : z < a1
      · rw [if_pos k4] at h ⊢
        by_cases k2 : c2 = 0
        · rw [if_pos k2] at h ⊢; rw [if_pos h]
        · rw [if_neg k2] at h ⊢
          by_cases k3 : z < a2
          · rw [if_pos k3] at h ⊢; rw [if_pos h]
          · rw [if_neg k3] at h ⊢; rw [if_pos h]
      · rw [if_neg k4] at h ⊢
        by_cases k2 : c2 = 0
        · rw [if_pos k2] at h ⊢; rw [if_pos h]
        · rw [if_neg k2] at h ⊢
          by_cases k3 : z + 1 < a2
          · rw [if_pos k3] at h ⊢; rw [if_pos h]
          · rw [if_neg k3] at h ⊢; rw [if_pos h]
  · rw [if_neg q]
/-- **the plain law** -/
theorem own_law {g w s_ to cm xp fC an ac cc ee c1 c2 a1 a2 rv f p3 : Int32} {tf pf B : Nat → Int32} {S t G W H F N C : Nat} (hs : s_.toInt = (S : Nat)) (hS : S ≤ 3) (hg : g.toInt = (G : Nat)) (hw : w.toInt = (W : Nat)) (hto : to.toInt = (t : Nat)) (hcm : cm.toInt = (C : Nat)) (hxp : xp.toInt = (own_xp W : Nat)) (hf : f.toInt = (F : Nat)) (hF : F ≤ 3)
    (tv : ∀ d, d < t → tf (S + d) = B d) (BF : own_BF B G W N C (fun q => own_fc p3 (Int32.ofNat q) = (2 : Int32))) (hN : N = G + W + H + F) (hH : H ≤ 1) (hHF : H = 0 → F = 0) (hG : G ≤ 1) (hW : W ≤ 11) (hC : C < 2 ^ W) (ht : t = N ∨ (H = 1 ∧ N ≤ t)) (h65 : t ≤ 65) (hU : own_Ug tf S (S + t) rv pf)
    (hfC : (fC = 1 ∧ own_FC p3 f) ∨ (fC = 0 ∧ ¬ own_FC p3 f)) (han : own_any_s0 cm fC = an) (hac : own_acc_s0 w xp cm fC an = ac) (hcc : own_cc_s0 w an = cc) (hee : own_ee_s0 to ac cc = ee) (hc1 : own_c1_s0 w an = c1) (hc2 : own_c2_s0 w an = c2) (ha1 : ((g + w) - (8 : Int32)) = a1) (ha2 : ((g + w) - (4 : Int32)) = a2) :
    rv = ee ∧ ∀ k : Nat, k < 16 → own_ok (Int32.ofNat k) rv s_ c1 a1 c2 a2 pf tf = 1 := by
  have fci := own_FCi (p3 := p3) hf hF
  have cm0 := own_i_eq hcm (show (0 : Int32).toInt = 0 from rfl)
  have AN : (an = 1 ∧ (C ≠ 0 ∨ ∃ q, q < F ∧ own_fc p3 (Int32.ofNat q) = (2 : Int32))) ∨ (an = 0 ∧ ¬ (C ≠ 0 ∨ ∃ q, q < F ∧ own_fc p3 (Int32.ofNat q) = (2 : Int32))) := by
    rw [← han]; unfold own_any_s0; rw [← fci]
    by_cases q : cm = (0 : Int32)
    · have q' := cm0.mp q
      rcases hfC with ⟨rfl, k⟩ | ⟨rfl, k⟩
      · left; rw [if_pos q]; exact ⟨by decide, Or.inr k⟩
      · right; rw [if_pos q]; exact ⟨by decide, fun u => u.elim (fun v => v (by omega)) k⟩
    · left; rw [if_neg q]; exact ⟨rfl, Or.inl (fun u => q (cm0.mpr (by omega)))⟩
  have w4 : (w % (4 : Int32)) = (0 : Int32) ↔ W % 4 = 0 := by rw [own_i_eq (own_i_mod hw (show (4 : Int32).toInt = 4 from rfl) (by omega)) (show (0 : Int32).toInt = 0 from rfl)]; omega
  have cx : cm = xp ↔ C = own_xp W := by rw [own_i_eq hcm hxp]; omega
  have AC : (ac = 1 ∧ (¬ (C ≠ 0 ∨ ∃ q, q < F ∧ own_fc p3 (Int32.ofNat q) = (2 : Int32)) ∨ ((¬ ∃ q, q < F ∧ own_fc p3 (Int32.ofNat q) = (2 : Int32)) ∧ W % 4 ≠ 0 ∧ C = own_xp W))) ∨ (ac = 0 ∧ ¬ (¬ (C ≠ 0 ∨ ∃ q, q < F ∧ own_fc p3 (Int32.ofNat q) = (2 : Int32)) ∨ ((¬ ∃ q, q < F ∧ own_fc p3 (Int32.ofNat q) = (2 : Int32)) ∧ W % 4 ≠ 0 ∧ C = own_xp W))) := by
    rw [← hac]; unfold own_acc_s0
    rcases AN with ⟨e, hA⟩ | ⟨e, hA⟩
    · rw [e, if_neg (by decide)]
      rcases hfC with ⟨rfl, k⟩ | ⟨rfl, k⟩
      · rw [if_neg (by decide)]; right; exact ⟨rfl, fun u => u.elim (fun v => v hA) (fun v => v.1 (fci.mp k))⟩
      · rw [if_pos rfl]
        by_cases q4 : (w % (4 : Int32)) = (0 : Int32)
        · rw [if_pos q4]; right; exact ⟨rfl, fun u => u.elim (fun v => v hA) (fun v => v.2.1 (w4.mp q4))⟩
        · rw [if_neg q4]
          by_cases qx : cm = xp
          · rw [if_pos qx]; left; exact ⟨rfl, Or.inr ⟨fun u => k (fci.mpr u), fun u => q4 (w4.mpr u), cx.mp qx⟩⟩
          · rw [if_neg qx]; right; exact ⟨rfl, fun u => u.elim (fun v => v hA) (fun v => qx (cx.mpr v.2.2))⟩
    · rw [e, if_pos rfl]; left; exact ⟨rfl, Or.inl hA⟩
  have t64 : (64 : Int32) < to ↔ 64 < t := by rw [own_i_lt (show (64 : Int32).toInt = 64 from rfl) hto]; omega
  have w5 : w < (5 : Int32) ↔ W < 5 := by rw [own_i_lt hw (show (5 : Int32).toInt = 5 from rfl)]; omega
  have w9 : w < (9 : Int32) ↔ W < 9 := by rw [own_i_lt hw (show (9 : Int32).toInt = 9 from rfl)]; omega
  have ans := own_ans rfl tv BF hN hH hHF hG hW hC ht h65 hU
  rcases ans with ⟨b1, b2⟩ | ⟨b1, b2, b3, b4⟩ | ⟨⟨b1, b2, b3, b4, b5⟩, b6, b7⟩
  · have e : ee = -1 := by
      rw [← hee]; unfold own_ee_s0
      rcases b1 with b1 | b1
      · rw [if_pos (t64.mpr b1)]
      · by_cases q : (64 : Int32) < to
        · rw [if_pos q]
        · rw [if_neg q, if_pos (AC.resolve_left (fun u => b1 u.2)).1]
    refine ⟨by rw [b2, e], fun k hk => own_okp fun u => ?_⟩
    exfalso; rw [b2, own_i_lt (own_kof (by omega)) (show (-1 : Int32).toInt = -1 from rfl)] at u; omega
  · have e0 : an = 0 := (AN.resolve_left (fun u => b2 u.2)).1
    have ea : ¬ ac = 0 := by have := (AC.resolve_right (fun u => u.2 (Or.inl b2))).1; rw [this]; decide
    have ec : cc = 0 := by rw [← hcc]; unfold own_cc_s0; rw [if_pos e0]
    have ek1 : c1 = 0 := by rw [← hc1]; unfold own_c1_s0; rw [if_pos e0]
    have ek2 : c2 = 0 := by rw [← hc2]; unfold own_c2_s0; rw [if_pos e0]
    have e : ee = to := by rw [← hee]; unfold own_ee_s0; rw [if_neg (fun u => by have := t64.mp u; omega), if_neg ea, ec]; exact Int32.sub_zero to
    refine ⟨by rw [e]; exact own_i_of (by rw [b3, hto]), fun k hk => own_okp fun u => ?_⟩
    have ep : own_pp (Int32.ofNat k) c1 a1 c2 a2 = Int32.ofNat k := by unfold own_pp; rw [if_pos ek1, if_pos ek2]
    rw [own_i_lt (own_kof (by omega)) b3] at u
    rw [ep, own_idn (own_kof (by omega)), own_idn (z := s_ + Int32.ofNat k) (i := S + k) (by rw [own_i_add hs (own_kof (by omega)) (by omega)]; omega)]
    exact b4 k (by omega)
  · have e1 : an = 1 := (AN.resolve_right (fun u => u.2 b2)).1
    have ea : ¬ ac = 0 := by have := (AC.resolve_right (fun u => u.2 (Or.inr b3))).1; rw [this]; decide
    have n1 : ¬ an = 0 := by rw [e1]; decide
    have ec : cc.toInt = (((if 9 ≤ W then 1 else 0) + (if 5 ≤ W then 1 else 0) : Nat) : Int) := by
      rw [← hcc]; unfold own_cc_s0; rw [if_neg n1]
      by_cases q5 : W < 5
      · rw [if_pos (w5.mpr q5), if_pos (w9.mpr (by omega)), if_neg (by omega), if_neg (by omega)]; rfl
      · rw [if_neg (fun u => q5 (w5.mp u)), if_pos (show 5 ≤ W by omega)]
        by_cases q9 : W < 9
        · rw [if_pos (w9.mpr q9), if_neg (by omega)]; rfl
        · rw [if_neg (fun u => q9 (w9.mp u)), if_pos (show 9 ≤ W by omega)]; rfl
    have cb : ((if 9 ≤ W then 1 else 0) + (if 5 ≤ W then 1 else 0) : Nat) ≤ 2 := by split <;> split <;> omega
    have e : ee.toInt = rv.toInt := by
      rw [← hee]; unfold own_ee_s0; rw [if_neg (fun u => by have := t64.mp u; omega), if_neg ea, own_i_sub hto ec (by omega)]; omega
    refine ⟨(own_i_of e).symm, fun k hk => own_okp fun u => ?_⟩
    have hkv := own_kof (k := k) (by omega)
    rw [own_i_lt hkv (rfl : rv.toInt = rv.toInt)] at u
    have gw := own_i_add hg hw (by omega)
    have ea1 : a1.toInt = (G : Int) + W - 8 := by rw [← ha1]; exact own_i_sub gw (show (8 : Int32).toInt = 8 from rfl) (by omega)
    have ea2 : a2.toInt = (G : Int) + W - 4 := by rw [← ha2]; exact own_i_sub gw (show (4 : Int32).toInt = 4 from rfl) (by omega)
    have k1v := own_i_add hkv (show (1 : Int32).toInt = 1 from rfl) (by omega)
    have k2v := own_i_add k1v (show (1 : Int32).toInt = 1 from rfl) (by omega)
    obtain ⟨p, hp, hpv⟩ : ∃ p : Nat, (own_pp (Int32.ofNat k) c1 a1 c2 a2).toInt = (p : Nat) ∧ ((W < 5 ∧ p = k) ∨ (5 ≤ W ∧ W < 9 ∧ ((k < G + W - 4 ∧ p = k) ∨ (G + W - 4 ≤ k ∧ p = k + 1))) ∨ (9 ≤ W ∧ ((k < G + W - 8 ∧ p = k) ∨ (G + W - 8 ≤ k ∧ k + 1 < G + W - 4 ∧ p = k + 1) ∨ (G + W - 4 ≤ k + 1 ∧ p = k + 2)))) := by
      unfold own_pp
      by_cases q5 : W < 5
      · have ek1 : c1 = 0 := by rw [← hc1]; unfold own_c1_s0; rw [if_neg n1, if_pos (w9.mpr (by omega))]
        have ek2 : c2 = 0 := by rw [← hc2]; unfold own_c2_s0; rw [if_neg n1, if_pos (w5.mpr q5)]
        rw [if_pos ek1, if_pos ek2]; exact ⟨k, hkv, Or.inl ⟨q5, rfl⟩⟩
      · have ek2 : ¬ c2 = 0 := by rw [← hc2]; unfold own_c2_s0; rw [if_neg n1, if_neg (fun u => q5 (w5.mp u))]; decide
        by_cases q9 : W < 9
        · have ek1 : c1 = 0 := by rw [← hc1]; unfold own_c1_s0; rw [if_neg n1, if_pos (w9.mpr q9)]
          rw [if_pos ek1, if_neg ek2]
          have l2 := own_i_lt hkv ea2
          by_cases v : Int32.ofNat k < a2
          · rw [if_pos v]; have := l2.mp v; exact ⟨k, hkv, Or.inr (Or.inl ⟨by omega, q9, Or.inl ⟨by omega, rfl⟩⟩)⟩
          · rw [if_neg v]; have : ¬ _ := fun z => v (l2.mpr z); exact ⟨k + 1, by rw [k1v]; omega, Or.inr (Or.inl ⟨by omega, q9, Or.inr ⟨by omega, rfl⟩⟩)⟩
        · have ek1 : ¬ c1 = 0 := by rw [← hc1]; unfold own_c1_s0; rw [if_neg n1, if_neg (fun u => q9 (w9.mp u))]; decide
          rw [if_neg ek1]
          have l1 := own_i_lt hkv ea1
          by_cases v : Int32.ofNat k < a1
          · have v' := l1.mp v
            rw [if_pos v, if_neg ek2, if_pos ((own_i_lt hkv ea2).mpr (by omega))]; exact ⟨k, hkv, Or.inr (Or.inr ⟨by omega, Or.inl ⟨by omega, rfl⟩⟩)⟩
          · have v' : ¬ _ := fun z => v (l1.mpr z)
            rw [if_neg v, if_neg ek2]
            have l2 := own_i_lt k1v ea2
            by_cases x : Int32.ofNat k + 1 < a2
            · rw [if_pos x]; have := l2.mp x; exact ⟨k + 1, by rw [k1v]; omega, Or.inr (Or.inr ⟨by omega, Or.inr (Or.inl ⟨by omega, by omega, rfl⟩)⟩)⟩
            · rw [if_neg x]; have : ¬ _ := fun z => x (l2.mpr z); exact ⟨k + 2, by rw [k2v]; omega, Or.inr (Or.inr ⟨by omega, Or.inr (Or.inr ⟨by omega, rfl⟩)⟩)⟩
    have hw5 : 5 ≤ W := by
      refine Decidable.byContradiction fun q => ?_
      have : own_xp W = 0 := by unfold own_xp; rw [if_neg (by omega), if_neg (by omega)]; rfl
      exact b2.elim (fun v => v (by rw [b3.2.2, this])) b3.1
    have hrt : k + ((if 9 ≤ W then 1 else 0) + (if 5 ≤ W then 1 else 0)) < t := by omega
    rw [if_pos hw5] at hrt b4
    have hpt : p < t := by
      by_cases q9 : 9 ≤ W
      · rw [if_pos q9] at hrt; omega
      · rw [if_neg q9] at hrt; omega
    have nv := b6 p (by omega)
    have hn : own_nc tf S p = k := by
      by_cases q9 : 9 ≤ W
      · by_cases x1 : G + W - 8 < p <;> by_cases x2 : G + W - 4 < p <;> simp only [q9, hw5, x1, x2, and_self, and_true, and_false, true_and, false_and, if_true, if_false] at nv <;> omega
      · by_cases x2 : G + W - 4 < p <;> simp only [q9, hw5, x2, and_self, and_true, and_false, true_and, false_and, if_true, if_false] at nv <;> omega
    have hns : ¬ tf (S + p) = (44 : Int32) := fun v => by
      obtain ⟨y1, y2, y3⟩ := (b7 (S + p) (by omega) (by omega)).mpr v
      have y3' : (G + W - p) % 4 = 0 := by rw [show G + W - p = S + G + W - (S + p) from by omega]; exact y3
      omega
    rw [own_idn hkv, own_idn (z := s_ + own_pp (Int32.ofNat k) c1 a1 c2 a2) (i := S + p) (by rw [own_i_add hs hp (by omega)]; omega)]
    exact b5 k p hpt hn hns
theorem own_tfe {Z : State} {h : Heap} {tt : Addr} {s_ en g w cm n p3 : Int32} {q2 : Int64} {t0 : Nat → Int32} {S E : Nat} (hs : s_.toInt = (S : Nat)) (hS : S ≤ 3) (he : en.toInt = (E : Nat)) (A : own_AI Z h tt .byte (72 : Int32) (own_up (own_up (own_up (own_up (own_up (own_up (own_up (own_up (own_up (own_up (own_up (own_up (own_up (own_up (own_up (own_up (own_up t0 (s_).toNatClampNeg (own_ba (0 : Int32) g w cm n q2 p3)) ((s_ + (1 : Int32))).toNatClampNeg (own_ba (1 : Int32) g w cm n q2 p3)) ((s_ + (2 : Int32))).toNatClampNeg (own_ba (2 : Int32) g w cm n q2 p3)) ((s_ + (3 : Int32))).toNatClampNeg (own_ba (3 : Int32) g w cm n q2 p3)) ((s_ + (4 : Int32))).toNatClampNeg (own_ba (4 : Int32) g w cm n q2 p3)) ((s_ + (5 : Int32))).toNatClampNeg (own_ba (5 : Int32) g w cm n q2 p3)) ((s_ + (6 : Int32))).toNatClampNeg (own_ba (6 : Int32) g w cm n q2 p3)) ((s_ + (7 : Int32))).toNatClampNeg (own_ba (7 : Int32) g w cm n q2 p3)) ((s_ + (8 : Int32))).toNatClampNeg (own_ba (8 : Int32) g w cm n q2 p3)) ((s_ + (9 : Int32))).toNatClampNeg (own_ba (9 : Int32) g w cm n q2 p3)) ((s_ + (10 : Int32))).toNatClampNeg (own_ba (10 : Int32) g w cm n q2 p3)) ((s_ + (11 : Int32))).toNatClampNeg (own_ba (11 : Int32) g w cm n q2 p3)) ((s_ + (12 : Int32))).toNatClampNeg (own_ba (12 : Int32) g w cm n q2 p3)) ((s_ + (13 : Int32))).toNatClampNeg (own_ba (13 : Int32) g w cm n q2 p3)) ((s_ + (14 : Int32))).toNatClampNeg (own_ba (14 : Int32) g w cm n q2 p3)) ((s_ + (15 : Int32))).toNatClampNeg (own_ba (15 : Int32) g w cm n q2 p3)) (en).toNatClampNeg (44 : Int32))) : own_AI Z h tt .byte (72 : Int32) (own_up (own_W t0 S (fun d => own_ba (Int32.ofNat d) g w cm n q2 p3) 16) E (44 : Int32)) := by
  have ix : ∀ z : Int32, ∀ k : Nat, z.toInt = (k : Nat) → k ≤ 15 → (s_ + z).toNatClampNeg = S + k := fun z k hz hk => own_idn (by rw [own_i_add hs hz (by omega)]; omega)
  rw [own_idn hs, own_idn he, ix (1 : Int32) 1 rfl (by omega), ix (2 : Int32) 2 rfl (by omega), ix (3 : Int32) 3 rfl (by omega), ix (4 : Int32) 4 rfl (by omega), ix (5 : Int32) 5 rfl (by omega), ix (6 : Int32) 6 rfl (by omega), ix (7 : Int32) 7 rfl (by omega), ix (8 : Int32) 8 rfl (by omega), ix (9 : Int32) 9 rfl (by omega), ix (10 : Int32) 10 rfl (by omega), ix (11 : Int32) 11 rfl (by omega), ix (12 : Int32) 12 rfl (by omega), ix (13 : Int32) 13 rfl (by omega), ix (14 : Int32) 14 rfl (by omega), ix (15 : Int32) 15 rfl (by omega)] at A
  exact A
theorem own_tv {g w cm n p3 : Int32} {q2 : Int64} {tf : Nat → Int32} {S t N : Nat} (h : tf = own_up (own_W (own_up (own_up (own_up (fun _ => 0) 0 (44 : Int32)) 1 (44 : Int32)) 2 (44 : Int32)) S (fun d => own_ba (Int32.ofNat d) g w cm n q2 p3) 16) (S + t) (44 : Int32)) (h65 : t ≤ 65) (hn : n.toInt = (N : Nat)) (hN : N ≤ 16) : ∀ d, d < t → tf (S + d) = own_ba (Int32.ofNat d) g w cm n q2 p3 := by
  intro d hd
  rw [h, own_up_ne _ _ (by omega), own_W_at]
  by_cases q : d < 16
  · rw [if_pos (by omega), Nat.add_sub_cancel_left]
  · rw [if_neg (by omega), own_up_ne _ _ (by omega), own_up_ne _ _ (by omega), own_up_ne _ _ (by omega)]
    unfold own_ba
    rw [if_neg]
    rw [own_i_lt (own_kof (by omega)) hn]; omega
theorem own_tby {g w cm n p3 : Int32} {q2 : Int64} {tf : Nat → Int32} {S t : Nat} (h : tf = own_up (own_W (own_up (own_up (own_up (fun _ => 0) 0 (44 : Int32)) 1 (44 : Int32)) 2 (44 : Int32)) S (fun d => own_ba (Int32.ofNat d) g w cm n q2 p3) 16) (S + t) (44 : Int32)) : ∀ z, z < 72 → (tf z).toInt8.toInt32 = tf z := by
  intro z hz
  rw [h]
  by_cases q : z = S + t
  · rw [q, own_up_at]; rfl
  · rw [own_up_ne _ _ q, own_W_at]
    split
    · exact own_ba_n _ _ _ _ _ _ _
    · by_cases q2 : z = 2
      · rw [q2, own_up_at]; rfl
      · rw [own_up_ne _ _ q2]
        by_cases q1 : z = 1
        · rw [q1, own_up_at]; rfl
        · rw [own_up_ne _ _ q1]
          by_cases q0 : z = 0
          · rw [q0, own_up_at]; rfl
          · rw [own_up_ne _ _ q0]; rfl
def Q0 (Z : State) (p0 : Int32) (p1 : Int32) (q2 : Int64) (p3 : Int32) (h0 : Heap) (n0 : Nat) (v : Option Value) (h : Heap) (L : List Loc) : Prop := v = some (.int (1 : Int32)) ∧ Fr n0 L
set_option maxRecDepth 65536 in
set_option maxHeartbeats 40000000 in
theorem rm0 (l : Launch) (Z : State) (a0 : Array Value) (hw : ∀ d ∈ tables_1, d.before a0 Z = true) (ws : List Jvm.Cond) (p0 : Int32) (p1 : Int32) (q2 : Int64) (p3 : Int32) (h0 : Heap) (n0 : Nat) (Z0 : n0 ≤ h0.size)  :
    MetFree l x (head1 (Jvm.Cond.code x code maxLocals ret :: ws) room_1) (fun a_ U_ => a_ = #[(.int p0), (.int p1), (.long q2), (.int p3)] ∧ Z.Warmed39 U_.vm ∧ U_.heap = h0) (fun _ _ _ _ _ => True) (fun _ U_ o_ U' => ∃ v_ L_, o_ = .returned v_ ∧ (Q0 Z p0 p1 q2 p3 h0 n0 v_ U'.heap L_) ∧ FrameEnd U_ o_ U' L_ room_1.cells room_1.slots) := by
  refine MetFree.of_bodySF (plainFor_of_name pn_0) hisR ?_
  intro p e s m args below meth c s₁ Bd hml0 hP hK
  obtain ⟨rfl, hZ, hh⟩ := hP
  have hx := Bd.exec
  have hby := Bd.bytes
  have hml : c.maxLocals = 31 := hml0
  have hown : s.vm.findClass "com/example/vestwright/vestwright/model/GroupedDecimalUngroupPinLaw" = some m.cls := findClass_of_methodNamed Bd.named
  have hnm := (name_of_methodNamed Bd.named Bd.method).1
  have X0 : Stand p l e room_1 s m #[(.int p0), (.int p1), (.long q2), (.int p3)] below meth c s₁ [] 0 0 := Stand.of_body Bd
  have e0 : s₁.heap = h0 := by rw [← hh, Bd.state]; rfl
  have N0 := Fr.nil n0
  have pre0 : ∀ t, Steps p.tables e below (s₁.setTop (mkF m 0 #[.val (.int p0), .val (.int p1), .val (.long q2), .second, .val (.int p3), .unset, .unset, .unset, .unset, .unset, .unset, .unset, .unset, .unset, .unset, .unset, .unset, .unset, .unset, .unset, .unset, .unset, .unset, .unset, .unset, .unset, .unset, .unset, .unset, .unset, .unset] [])) t → Steps p.tables e below (s₁.setTop (entryFrame m #[(.int p0), (.int p1), (.long q2), (.int p3)] maxLocals)) t := fun t k => castTop (ef_0 m p0 p1 q2 p3) k
  obtain ⟨ng, h_ng⟩ : ∃ z, (own_neg_s0 p0) = z := ⟨_, rfl⟩
  obtain ⟨g, h_g⟩ : ∃ z, (own_g_s0 ng) = z := ⟨_, rfl⟩
  obtain ⟨w, h_w⟩ : ∃ z, ((((p0.toUInt32 >>> ((1 : Int32) &&& 31).toUInt32).toInt32) &&& (15 : Int32)) % (12 : Int32)) = z := ⟨_, rfl⟩
  obtain ⟨lm, h_lm⟩ : ∃ z, (own_lm_s0 p0) = z := ⟨_, rfl⟩
  obtain ⟨l6, h_l6⟩ : ∃ z, (own_l65_s0 p0) = z := ⟨_, rfl⟩
  obtain ⟨hd, h_hd⟩ : ∃ z, (own_hd_s0 p0 lm) = z := ⟨_, rfl⟩
  obtain ⟨f, h_f⟩ : ∃ z, (own_f_s0 p0 hd) = z := ⟨_, rfl⟩
  obtain ⟨s_, h_s_⟩ : ∃ z, (((p0.toUInt32 >>> ((8 : Int32) &&& 31).toUInt32).toInt32) &&& (3 : Int32)) = z := ⟨_, rfl⟩
  obtain ⟨ex, h_ex⟩ : ∃ z, (own_ex_s0 p0) = z := ⟨_, rfl⟩
  obtain ⟨xp, h_xp⟩ : ∃ z, ((own_x1_s0 w) ||| (own_x2_s0 w)) = z := ⟨_, rfl⟩
  obtain ⟨cm, h_cm⟩ : ∃ z, (own_cm_s0 p1 w ex xp) = z := ⟨_, rfl⟩
  obtain ⟨n, h_n⟩ : ∃ z, (((g + w) + (own_n1_s0 hd)) + f) = z := ⟨_, rfl⟩
  obtain ⟨to, h_to⟩ : ∃ z, (own_tot_s0 lm l6 n) = z := ⟨_, rfl⟩
  obtain ⟨en, h_en⟩ : ∃ z, (s_ + to) = z := ⟨_, rfl⟩
  obtain ⟨G, hG, eG⟩ := own_vg h_g
  obtain ⟨Wd, hWd, eW⟩ := own_vw h_w
  obtain ⟨S, hS, eS⟩ := own_vs h_s_
  obtain ⟨H, hH, eH, hlm⟩ := own_vh h_hd
  obtain ⟨F, hF, eF, hHF⟩ := own_vf h_f eH
  have eX := own_vx eW hWd h_xp
  obtain ⟨C, hC, eC⟩ := own_vc eW hWd eX h_cm
  have eN := own_vn eG eW eH eF hG hWd hH hF h_n
  obtain ⟨t, eT, h65, htN⟩ := own_vt eN (by omega) hlm h_to
  have eE : en.toInt = ((S + t : Nat) : Int) := by rw [← h_en, own_i_add eS eT (by omega)]; omega
  have hs3 : 0 ≤ s_.toInt ∧ s_.toInt ≤ 3 := by omega
  have hen : ¬ en < 0 ∧ en < (72 : Int32) := own_idx eE (by omega)
  obtain ⟨T1, h1, X1, e1, E1, A1, st1⟩ := own_newI X0 hx hZ (hw _ (List.mem_of_getElem? (i := 0) rfl)) rfl e0 (g := (mkF m 240 #[.val (.int p0), .val (.int p1), .val (.long q2), .second, .val (.int p3), .val (.int ng), .val (.int g), .val (.int w), .val (.int lm), .val (.int l6), .val (.int hd), .val (.int f), .val (.int s_), .val (.int ex), .val (.int xp), .val (.int cm), .val (.int n), .val (.int to), .val (.int en), .unset, .unset, .unset, .unset, .unset, .unset, .unset, .unset, .unset, .unset, .unset, .unset] [(.int (72 : Int32))])) rfl (hb hby at_240) rfl (by decide) (cap := 72) (by decide) (by decide) (by decide) (by decide)
  obtain ⟨b1, g1⟩ : ∃ z, z = h0.size := ⟨_, rfl⟩
  rw [← g1] at A1 st1
  have f_b1 : n0 ≤ b1 := Nat.le_trans Z0 (Nat.le_of_eq g1.symm)
  have s_b1 : h0.size ≤ b1 := Nat.le_trans (Keep.refl h0 []).1 (Nat.le_of_eq g1.symm)
  have K1 : Keep h0 h1 [] := (Keep.refl h0 []).ext E1
  have Z1 : n0 ≤ h1.size := Nat.le_trans Z0 E1.1
  obtain ⟨T2, h2, X2, e2, W2, A2, st2⟩ := own_stB X1 hx hZ e1 A1 (j := (0 : Int32)) ⟨by decide, by decide⟩ (g := (mkF m 249 #[.val (.int p0), .val (.int p1), .val (.long q2), .second, .val (.int p3), .val (.int ng), .val (.int g), .val (.int w), .val (.int lm), .val (.int l6), .val (.int hd), .val (.int f), .val (.int s_), .val (.int ex), .val (.int xp), .val (.int cm), .val (.int n), .val (.int to), .val (.int en), .val (.ref b1), .unset, .unset, .unset, .unset, .unset, .unset, .unset, .unset, .unset, .unset, .unset] [(.int (44 : Int32)), (.int (0 : Int32)), (.ref b1)])) rfl rfl (hb hby at_249)
  have N2 := Fr.snoc X2 N0 f_b1
  have K2 : Keep h0 h2 [] := K1.wr W2 (Or.inr s_b1)
  rw [(rfl : ((44 : Int32).toInt8.toInt32) = (44 : Int32))] at A2
  have Z2 : n0 ≤ h2.size := Nat.le_trans Z1 (Nat.le_of_eq (W2.size).symm)
  obtain ⟨T3, h3, X3, e3, W3, A3, st3⟩ := own_stB X2 hx hZ e2 A2 (j := (1 : Int32)) ⟨by decide, by decide⟩ (g := (mkF m 255 #[.val (.int p0), .val (.int p1), .val (.long q2), .second, .val (.int p3), .val (.int ng), .val (.int g), .val (.int w), .val (.int lm), .val (.int l6), .val (.int hd), .val (.int f), .val (.int s_), .val (.int ex), .val (.int xp), .val (.int cm), .val (.int n), .val (.int to), .val (.int en), .val (.ref b1), .unset, .unset, .unset, .unset, .unset, .unset, .unset, .unset, .unset, .unset, .unset] [(.int (44 : Int32)), (.int (1 : Int32)), (.ref b1)])) rfl rfl (hb hby at_255)
  have N3 := Fr.snoc X3 N2 f_b1
  have K3 : Keep h0 h3 [] := K2.wr W3 (Or.inr s_b1)
  rw [(rfl : ((44 : Int32).toInt8.toInt32) = (44 : Int32))] at A3
  have Z3 : n0 ≤ h3.size := Nat.le_trans Z2 (Nat.le_of_eq (W3.size).symm)
  obtain ⟨T4, h4, X4, e4, W4, A4, st4⟩ := own_stB X3 hx hZ e3 A3 (j := (2 : Int32)) ⟨by decide, by decide⟩ (g := (mkF m 261 #[.val (.int p0), .val (.int p1), .val (.long q2), .second, .val (.int p3), .val (.int ng), .val (.int g), .val (.int w), .val (.int lm), .val (.int l6), .val (.int hd), .val (.int f), .val (.int s_), .val (.int ex), .val (.int xp), .val (.int cm), .val (.int n), .val (.int to), .val (.int en), .val (.ref b1), .unset, .unset, .unset, .unset, .unset, .unset, .unset, .unset, .unset, .unset, .unset] [(.int (44 : Int32)), (.int (2 : Int32)), (.ref b1)])) rfl rfl (hb hby at_261)
  have N4 := Fr.snoc X4 N3 f_b1
  have K4 : Keep h0 h4 [] := K3.wr W4 (Or.inr s_b1)
  rw [(rfl : ((44 : Int32).toInt8.toInt32) = (44 : Int32))] at A4
  have Z4 : n0 ≤ h4.size := Nat.le_trans Z3 (Nat.le_of_eq (W4.size).symm)
  obtain ⟨TT, hT, LT, XT, eTT, NT, KT, AT, stT⟩ := own_txt #[.val (.int p0), .val (.int p1), .val (.long q2), .second, .val (.int p3), .val (.int ng), .val (.int g), .val (.int w), .val (.int lm), .val (.int l6), .val (.int hd), .val (.int f), .val (.int s_), .val (.int ex), .val (.int xp), .val (.int cm), .val (.int n), .val (.int to), .val (.int en), .val (.ref b1), .unset, .unset, .unset, .unset, .unset, .unset, .unset, .unset, .unset, .unset, .unset] p3 q2 g w s_ cm n en b1 _ X4 hx hZ hw hby hml hown e4 rfl rfl rfl rfl rfl rfl rfl rfl rfl rfl n0 Z4 N4 f_b1 A4 hs3 hen
  obtain ⟨tf, htf, AF⟩ : ∃ tf, tf = own_up (own_W (own_up (own_up (own_up (fun _ => 0) 0 (44 : Int32)) 1 (44 : Int32)) 2 (44 : Int32)) S (fun d => own_ba (Int32.ofNat d) g w cm n q2 p3) 16) (S + t) (44 : Int32) ∧ own_AI Z hT b1 .byte (72 : Int32) tf := ⟨_, rfl, own_tfe eS hS eE AT⟩
  have KK : Keep h0 hT [] := Keep.trans K4 KT (allS (Or.inr s_b1) all0)
  have ZT : n0 ≤ hT.size := Nat.le_trans Z0 KK.1
  obtain ⟨T5, h5, X5, e5, E5, A5, st5⟩ := own_newI XT hx hZ (hw _ (List.mem_of_getElem? (i := 0) rfl)) rfl eTT (g := (mkF m 641 #[.val (.int p0), .val (.int p1), .val (.long q2), .second, .val (.int p3), .val (.int ng), .val (.int g), .val (.int w), .val (.int lm), .val (.int l6), .val (.int hd), .val (.int f), .val (.int s_), .val (.int ex), .val (.int xp), .val (.int cm), .val (.int n), .val (.int to), .val (.int en), .val (.ref b1), .unset, .unset, .unset, .unset, .unset, .unset, .unset, .unset, .unset, .unset, .unset] [(.int (64 : Int32))])) rfl (hb hby at_641) rfl (by decide) (cap := 64) (by decide) (by decide) (by decide) (by decide)
  obtain ⟨b5, g5⟩ : ∃ z, z = hT.size := ⟨_, rfl⟩
  rw [← g5] at A5 st5
  have f_b5 : n0 ≤ b5 := Nat.le_trans ZT (Nat.le_of_eq g5.symm)
  have s_b5 : h0.size ≤ b5 := Nat.le_trans KK.1 (Nat.le_of_eq g5.symm)
  have K5 : Keep h0 h5 [] := KK.ext E5
  have ne_b1_b5 : b1 ≠ b5 := Nat.ne_of_lt (Nat.lt_of_lt_of_le AF.lt (Nat.le_of_eq g5.symm))
  have A5_b1 := AF.ext E5
  have Z5 : n0 ≤ h5.size := Nat.le_trans ZT E5.1
  obtain ⟨fC, TC, LC, hfC, XC, eC2, NC, stC⟩ := own_fcm #[.val (.int p0), .val (.int p1), .val (.long q2), .second, .val (.int p3), .val (.int ng), .val (.int g), .val (.int w), .val (.int lm), .val (.int l6), .val (.int hd), .val (.int f), .val (.int s_), .val (.int ex), .val (.int xp), .val (.int cm), .val (.int n), .val (.int to), .val (.int en), .val (.ref b1), .val (.ref b5), .unset, .unset, .unset, .unset, .unset, .unset, .unset, .unset, .unset, .unset] p3 f X5 hx hZ hw hby hml hown e5 rfl rfl rfl n0 Z5 NT
  obtain ⟨an, h_an⟩ : ∃ z, (own_any_s0 cm fC) = z := ⟨_, rfl⟩
  obtain ⟨ac, h_ac⟩ : ∃ z, (own_acc_s0 w xp cm fC an) = z := ⟨_, rfl⟩
  obtain ⟨cc, h_cc⟩ : ∃ z, (own_cc_s0 w an) = z := ⟨_, rfl⟩
  obtain ⟨ee, h_ee⟩ : ∃ z, (own_ee_s0 to ac cc) = z := ⟨_, rfl⟩
  obtain ⟨Lg6, Xg6, Ng6⟩ := own_gen XC NC
  obtain ⟨_, _, ⟨T7, L7, k7, n7⟩, -, X7, ⟨Lc7, hQ7, l7, y7, z7⟩, st7⟩ := Jvm.LawKit.callS Xg6 hx (y := (⟨"com/example/vestwright/vestwright/model/GroupedDecimal", "ungroup", "([BII[B)I"⟩ : MethodName)) hown (mvT hZ (hw _ (List.mem_of_getElem? (i := 5) rfl))) (mvT hZ (hw _ (List.mem_of_getElem? (i := 6) rfl))) (mvT hZ (hw _ (List.mem_of_getElem? (i := 7) rfl))) (mvT hZ (hw _ (List.mem_of_getElem? (i := 8) rfl))) (by decide) (backOf (W := 0) (rm6 l Z a0 hw [] b1 s_ en b5 tf _ S (S + t) h5 n0 Z5 f_b5 ne_b1_b5 A5_b1 A5 eS eE (by omega) (by omega) (own_tby htf)) hZ (hw _ (List.mem_of_getElem? (i := 8) rfl)) (hw _ (List.mem_of_getElem? (i := 7) rfl)) (by decide) (by decide)) (g := (mkF m 813 #[.val (.int p0), .val (.int p1), .val (.long q2), .second, .val (.int p3), .val (.int ng), .val (.int g), .val (.int w), .val (.int lm), .val (.int l6), .val (.int hd), .val (.int f), .val (.int s_), .val (.int ex), .val (.int xp), .val (.int cm), .val (.int n), .val (.int to), .val (.int en), .val (.ref b1), .val (.ref b5), .val (.int fC), .val (.int an), .val (.int ac), .val (.int cc), .val (.int ee), .unset, .unset, .unset, .unset, .unset] [(.ref b5), (.int en), (.int s_), (.ref b1)])) rfl (by rw [hml]; rfl) (argsL := [(.ref b1), (.int s_), (.int en), (.ref b5)]) (rest := []) (lenOf pd_4 rfl) rfl (by show 2 * 0 + _ ≤ _; exact Nat.le_of_eq rfl) (hb hby at_813) (fun _ _ => ⟨rfl, eC2, (by decide : 2 + 0 ≤ _), (by decide : 136 + 0 ≤ _)⟩)
  dsimp only [Pt.U, Pt.locs, Pt.cells, Pt.slots] at X7 l7 y7 z7 st7 hQ7
  subst l7 y7 z7
  obtain ⟨⟨rv, pf', rfl, hU, AP7⟩, Nq7, Kq7⟩ := hQ7
  have N7 := Fr.app Ng6 Nq7
  have Z7 : n0 ≤ T7.heap.size := Nat.le_trans Z5 Kq7.1
  have AT7 := A5_b1.keep Kq7 (ninS ne_b1_b5 nin0)
  -- the rest
  obtain ⟨c1, h_c1⟩ : ∃ z, (own_c1_s0 w an) = z := ⟨_, rfl⟩
  obtain ⟨a1, h_a1⟩ : ∃ z, ((g + w) - (8 : Int32)) = z := ⟨_, rfl⟩
  obtain ⟨c2, h_c2⟩ : ∃ z, (own_c2_s0 w an) = z := ⟨_, rfl⟩
  obtain ⟨a2, h_a2⟩ : ∃ z, ((g + w) - (4 : Int32)) = z := ⟨_, rfl⟩
  have hlaw := own_law (N := G + Wd + H + F) (B := fun d => own_ba (Int32.ofNat d) g w cm n q2 p3) eS hS eG eW eT eC eX eF hF (own_tv htf h65 eN (by omega)) (own_isBF eG eW eC eN hG hWd hH hF rfl hHF) rfl hH hHF hG hWd hC htN h65 hU hfC h_an h_ac h_cc h_ee h_c1 h_c2 h_a1 h_a2
  obtain ⟨TL, LL, XL, eL, NL, stL⟩ := own_look #[.val (.int p0), .val (.int p1), .val (.long q2), .second, .val (.int p3), .val (.int ng), .val (.int g), .val (.int w), .val (.int lm), .val (.int l6), .val (.int hd), .val (.int f), .val (.int s_), .val (.int ex), .val (.int xp), .val (.int cm), .val (.int n), .val (.int to), .val (.int en), .val (.ref b1), .val (.ref b5), .val (.int fC), .val (.int an), .val (.int ac), .val (.int cc), .val (.int ee), .val (.int rv), .val (.int c1), .val (.int a1), .val (.int c2), .val (.int a2)] s_ b1 b5 rv c1 a1 c2 a2 pf' tf X7 hx hZ hw hby hml hown rfl rfl rfl rfl rfl rfl rfl rfl rfl rfl n0 Z7 N7 AT7 AP7 hs3 hlaw.2
  obtain ⟨fs, hr, hrun, hended, hW, hsame⟩ := XL.leave (v := some (.int (1 : Int32))) (fun h => by rw [Bd.returns] at h; cases h)
  refine ⟨_, _, pre0 _ ?_, hrun, hended, _, _, rfl, ⟨rfl, NL⟩, ⟨_, rfl⟩, hW, hsame.mono (by decide) (by decide)⟩
  show Steps p.tables e below (s₁.setTop (mkF m 0 #[.val (.int p0), .val (.int p1), .val (.long q2), .second, .val (.int p3), .unset, .unset, .unset, .unset, .unset, .unset, .unset, .unset, .unset, .unset, .unset, .unset, .unset, .unset, .unset, .unset, .unset, .unset, .unset, .unset, .unset, .unset, .unset, .unset, .unset, .unset] [])) _
  refine sg_neg p0 _ X0 hx hZ hw hby hown e0 rfl  ?_
  show Steps p.tables e below (s₁.setTop (mkF m 11 #[.val (.int p0), .val (.int p1), .val (.long q2), .second, .val (.int p3), .unset, .unset, .unset, .unset, .unset, .unset, .unset, .unset, .unset, .unset, .unset, .unset, .unset, .unset, .unset, .unset, .unset, .unset, .unset, .unset, .unset, .unset, .unset, .unset, .unset, .unset] [(.int (own_neg_s0 p0))])) _
  rw [h_ng]
  show Steps p.tables e below (s₁.setTop (mkF m 11 #[.val (.int p0), .val (.int p1), .val (.long q2), .second, .val (.int p3), .unset, .unset, .unset, .unset, .unset, .unset, .unset, .unset, .unset, .unset, .unset, .unset, .unset, .unset, .unset, .unset, .unset, .unset, .unset, .unset, .unset, .unset, .unset, .unset, .unset, .unset] [(.int ng)])) _
  refine XS.istore X0.here hx rfl (hb hby at_11) rfl (l' := #[.val (.int p0), .val (.int p1), .val (.long q2), .second, .val (.int p3), .val (.int ng), .unset, .unset, .unset, .unset, .unset, .unset, .unset, .unset, .unset, .unset, .unset, .unset, .unset, .unset, .unset, .unset, .unset, .unset, .unset, .unset, .unset, .unset, .unset, .unset, .unset]) rfl ?_
  show Steps p.tables e below (s₁.setTop (mkF m 13 #[.val (.int p0), .val (.int p1), .val (.long q2), .second, .val (.int p3), .val (.int ng), .unset, .unset, .unset, .unset, .unset, .unset, .unset, .unset, .unset, .unset, .unset, .unset, .unset, .unset, .unset, .unset, .unset, .unset, .unset, .unset, .unset, .unset, .unset, .unset, .unset] [])) _
  refine sg_g ng _ X0 hx hZ hw hby hown e0 rfl  ?_
  show Steps p.tables e below (s₁.setTop (mkF m 23 #[.val (.int p0), .val (.int p1), .val (.long q2), .second, .val (.int p3), .val (.int ng), .unset, .unset, .unset, .unset, .unset, .unset, .unset, .unset, .unset, .unset, .unset, .unset, .unset, .unset, .unset, .unset, .unset, .unset, .unset, .unset, .unset, .unset, .unset, .unset, .unset] [(.int (own_g_s0 ng))])) _
  rw [h_g]
  show Steps p.tables e below (s₁.setTop (mkF m 23 #[.val (.int p0), .val (.int p1), .val (.long q2), .second, .val (.int p3), .val (.int ng), .unset, .unset, .unset, .unset, .unset, .unset, .unset, .unset, .unset, .unset, .unset, .unset, .unset, .unset, .unset, .unset, .unset, .unset, .unset, .unset, .unset, .unset, .unset, .unset, .unset] [(.int g)])) _
  refine XS.istore X0.here hx rfl (hb hby at_23) rfl (l' := #[.val (.int p0), .val (.int p1), .val (.long q2), .second, .val (.int p3), .val (.int ng), .val (.int g), .unset, .unset, .unset, .unset, .unset, .unset, .unset, .unset, .unset, .unset, .unset, .unset, .unset, .unset, .unset, .unset, .unset, .unset, .unset, .unset, .unset, .unset, .unset, .unset]) rfl ?_
  show Steps p.tables e below (s₁.setTop (mkF m 25 #[.val (.int p0), .val (.int p1), .val (.long q2), .second, .val (.int p3), .val (.int ng), .val (.int g), .unset, .unset, .unset, .unset, .unset, .unset, .unset, .unset, .unset, .unset, .unset, .unset, .unset, .unset, .unset, .unset, .unset, .unset, .unset, .unset, .unset, .unset, .unset, .unset] [])) _
  refine XS.iloadN X0.here hx rfl (hb hby at_25) rfl ?_
  show Steps p.tables e below (s₁.setTop (mkF m 26 #[.val (.int p0), .val (.int p1), .val (.long q2), .second, .val (.int p3), .val (.int ng), .val (.int g), .unset, .unset, .unset, .unset, .unset, .unset, .unset, .unset, .unset, .unset, .unset, .unset, .unset, .unset, .unset, .unset, .unset, .unset, .unset, .unset, .unset, .unset, .unset, .unset] [(.int p0)])) _
  refine XS.iconst X0.here hx rfl (hb hby at_26) ?_
  show Steps p.tables e below (s₁.setTop (mkF m 27 #[.val (.int p0), .val (.int p1), .val (.long q2), .second, .val (.int p3), .val (.int ng), .val (.int g), .unset, .unset, .unset, .unset, .unset, .unset, .unset, .unset, .unset, .unset, .unset, .unset, .unset, .unset, .unset, .unset, .unset, .unset, .unset, .unset, .unset, .unset, .unset, .unset] [(.int (1 : Int32)), (.int p0)])) _
  refine XS.iushr X0.here hx rfl (hb hby at_27) rfl ?_
  show Steps p.tables e below (s₁.setTop (mkF m 28 #[.val (.int p0), .val (.int p1), .val (.long q2), .second, .val (.int p3), .val (.int ng), .val (.int g), .unset, .unset, .unset, .unset, .unset, .unset, .unset, .unset, .unset, .unset, .unset, .unset, .unset, .unset, .unset, .unset, .unset, .unset, .unset, .unset, .unset, .unset, .unset, .unset] [(.int ((p0.toUInt32 >>> ((1 : Int32) &&& 31).toUInt32).toInt32))])) _
  refine XS.bipush X0.here hx rfl (hb hby at_28) ?_
  show Steps p.tables e below (s₁.setTop (mkF m 30 #[.val (.int p0), .val (.int p1), .val (.long q2), .second, .val (.int p3), .val (.int ng), .val (.int g), .unset, .unset, .unset, .unset, .unset, .unset, .unset, .unset, .unset, .unset, .unset, .unset, .unset, .unset, .unset, .unset, .unset, .unset, .unset, .unset, .unset, .unset, .unset, .unset] [(.int (15 : Int32)), (.int ((p0.toUInt32 >>> ((1 : Int32) &&& 31).toUInt32).toInt32))])) _
  refine XS.iand X0.here hx rfl (hb hby at_30) rfl ?_
  show Steps p.tables e below (s₁.setTop (mkF m 31 #[.val (.int p0), .val (.int p1), .val (.long q2), .second, .val (.int p3), .val (.int ng), .val (.int g), .unset, .unset, .unset, .unset, .unset, .unset, .unset, .unset, .unset, .unset, .unset, .unset, .unset, .unset, .unset, .unset, .unset, .unset, .unset, .unset, .unset, .unset, .unset, .unset] [(.int (((p0.toUInt32 >>> ((1 : Int32) &&& 31).toUInt32).toInt32) &&& (15 : Int32)))])) _
  refine XS.bipush X0.here hx rfl (hb hby at_31) ?_
  show Steps p.tables e below (s₁.setTop (mkF m 33 #[.val (.int p0), .val (.int p1), .val (.long q2), .second, .val (.int p3), .val (.int ng), .val (.int g), .unset, .unset, .unset, .unset, .unset, .unset, .unset, .unset, .unset, .unset, .unset, .unset, .unset, .unset, .unset, .unset, .unset, .unset, .unset, .unset, .unset, .unset, .unset, .unset] [(.int (12 : Int32)), (.int (((p0.toUInt32 >>> ((1 : Int32) &&& 31).toUInt32).toInt32) &&& (15 : Int32)))])) _
  refine iremM X0 hx rfl (hb hby at_33) rfl (by decide) ?_
  show Steps p.tables e below (s₁.setTop (mkF m 34 #[.val (.int p0), .val (.int p1), .val (.long q2), .second, .val (.int p3), .val (.int ng), .val (.int g), .unset, .unset, .unset, .unset, .unset, .unset, .unset, .unset, .unset, .unset, .unset, .unset, .unset, .unset, .unset, .unset, .unset, .unset, .unset, .unset, .unset, .unset, .unset, .unset] [(.int ((((p0.toUInt32 >>> ((1 : Int32) &&& 31).toUInt32).toInt32) &&& (15 : Int32)) % (12 : Int32)))])) _
  refine XS.istore X0.here hx rfl (hb hby at_34) rfl (l' := #[.val (.int p0), .val (.int p1), .val (.long q2), .second, .val (.int p3), .val (.int ng), .val (.int g), .val (.int ((((p0.toUInt32 >>> ((1 : Int32) &&& 31).toUInt32).toInt32) &&& (15 : Int32)) % (12 : Int32))), .unset, .unset, .unset, .unset, .unset, .unset, .unset, .unset, .unset, .unset, .unset, .unset, .unset, .unset, .unset, .unset, .unset, .unset, .unset, .unset, .unset, .unset, .unset]) rfl ?_
  show Steps p.tables e below (s₁.setTop (mkF m 36 #[.val (.int p0), .val (.int p1), .val (.long q2), .second, .val (.int p3), .val (.int ng), .val (.int g), .val (.int ((((p0.toUInt32 >>> ((1 : Int32) &&& 31).toUInt32).toInt32) &&& (15 : Int32)) % (12 : Int32))), .unset, .unset, .unset, .unset, .unset, .unset, .unset, .unset, .unset, .unset, .unset, .unset, .unset, .unset, .unset, .unset, .unset, .unset, .unset, .unset, .unset, .unset, .unset] [])) _
  rw [h_w]
  show Steps p.tables e below (s₁.setTop (mkF m 36 #[.val (.int p0), .val (.int p1), .val (.long q2), .second, .val (.int p3), .val (.int ng), .val (.int g), .val (.int w), .unset, .unset, .unset, .unset, .unset, .unset, .unset, .unset, .unset, .unset, .unset, .unset, .unset, .unset, .unset, .unset, .unset, .unset, .unset, .unset, .unset, .unset, .unset] [])) _
  refine sg_lm p0 _ X0 hx hZ hw hby hown e0 rfl  ?_
  show Steps p.tables e below (s₁.setTop (mkF m 50 #[.val (.int p0), .val (.int p1), .val (.long q2), .second, .val (.int p3), .val (.int ng), .val (.int g), .val (.int w), .unset, .unset, .unset, .unset, .unset, .unset, .unset, .unset, .unset, .unset, .unset, .unset, .unset, .unset, .unset, .unset, .unset, .unset, .unset, .unset, .unset, .unset, .unset] [(.int (own_lm_s0 p0))])) _
  rw [h_lm]
  show Steps p.tables e below (s₁.setTop (mkF m 50 #[.val (.int p0), .val (.int p1), .val (.long q2), .second, .val (.int p3), .val (.int ng), .val (.int g), .val (.int w), .unset, .unset, .unset, .unset, .unset, .unset, .unset, .unset, .unset, .unset, .unset, .unset, .unset, .unset, .unset, .unset, .unset, .unset, .unset, .unset, .unset, .unset, .unset] [(.int lm)])) _
  refine XS.istore X0.here hx rfl (hb hby at_50) rfl (l' := #[.val (.int p0), .val (.int p1), .val (.long q2), .second, .val (.int p3), .val (.int ng), .val (.int g), .val (.int w), .val (.int lm), .unset, .unset, .unset, .unset, .unset, .unset, .unset, .unset, .unset, .unset, .unset, .unset, .unset, .unset, .unset, .unset, .unset, .unset, .unset, .unset, .unset, .unset]) rfl ?_
  show Steps p.tables e below (s₁.setTop (mkF m 52 #[.val (.int p0), .val (.int p1), .val (.long q2), .second, .val (.int p3), .val (.int ng), .val (.int g), .val (.int w), .val (.int lm), .unset, .unset, .unset, .unset, .unset, .unset, .unset, .unset, .unset, .unset, .unset, .unset, .unset, .unset, .unset, .unset, .unset, .unset, .unset, .unset, .unset, .unset] [])) _
  refine sg_l65 p0 _ X0 hx hZ hw hby hown e0 rfl  ?_
  show Steps p.tables e below (s₁.setTop (mkF m 66 #[.val (.int p0), .val (.int p1), .val (.long q2), .second, .val (.int p3), .val (.int ng), .val (.int g), .val (.int w), .val (.int lm), .unset, .unset, .unset, .unset, .unset, .unset, .unset, .unset, .unset, .unset, .unset, .unset, .unset, .unset, .unset, .unset, .unset, .unset, .unset, .unset, .unset, .unset] [(.int (own_l65_s0 p0))])) _
  rw [h_l6]
  show Steps p.tables e below (s₁.setTop (mkF m 66 #[.val (.int p0), .val (.int p1), .val (.long q2), .second, .val (.int p3), .val (.int ng), .val (.int g), .val (.int w), .val (.int lm), .unset, .unset, .unset, .unset, .unset, .unset, .unset, .unset, .unset, .unset, .unset, .unset, .unset, .unset, .unset, .unset, .unset, .unset, .unset, .unset, .unset, .unset] [(.int l6)])) _
  refine XS.istore X0.here hx rfl (hb hby at_66) rfl (l' := #[.val (.int p0), .val (.int p1), .val (.long q2), .second, .val (.int p3), .val (.int ng), .val (.int g), .val (.int w), .val (.int lm), .val (.int l6), .unset, .unset, .unset, .unset, .unset, .unset, .unset, .unset, .unset, .unset, .unset, .unset, .unset, .unset, .unset, .unset, .unset, .unset, .unset, .unset, .unset]) rfl ?_
  show Steps p.tables e below (s₁.setTop (mkF m 68 #[.val (.int p0), .val (.int p1), .val (.long q2), .second, .val (.int p3), .val (.int ng), .val (.int g), .val (.int w), .val (.int lm), .val (.int l6), .unset, .unset, .unset, .unset, .unset, .unset, .unset, .unset, .unset, .unset, .unset, .unset, .unset, .unset, .unset, .unset, .unset, .unset, .unset, .unset, .unset] [])) _
  refine sg_hd p0 lm _ X0 hx hZ hw hby hown e0 rfl rfl  ?_
  show Steps p.tables e below (s₁.setTop (mkF m 86 #[.val (.int p0), .val (.int p1), .val (.long q2), .second, .val (.int p3), .val (.int ng), .val (.int g), .val (.int w), .val (.int lm), .val (.int l6), .unset, .unset, .unset, .unset, .unset, .unset, .unset, .unset, .unset, .unset, .unset, .unset, .unset, .unset, .unset, .unset, .unset, .unset, .unset, .unset, .unset] [(.int (own_hd_s0 p0 lm))])) _
  rw [h_hd]
  show Steps p.tables e below (s₁.setTop (mkF m 86 #[.val (.int p0), .val (.int p1), .val (.long q2), .second, .val (.int p3), .val (.int ng), .val (.int g), .val (.int w), .val (.int lm), .val (.int l6), .unset, .unset, .unset, .unset, .unset, .unset, .unset, .unset, .unset, .unset, .unset, .unset, .unset, .unset, .unset, .unset, .unset, .unset, .unset, .unset, .unset] [(.int hd)])) _
  refine XS.istore X0.here hx rfl (hb hby at_86) rfl (l' := #[.val (.int p0), .val (.int p1), .val (.long q2), .second, .val (.int p3), .val (.int ng), .val (.int g), .val (.int w), .val (.int lm), .val (.int l6), .val (.int hd), .unset, .unset, .unset, .unset, .unset, .unset, .unset, .unset, .unset, .unset, .unset, .unset, .unset, .unset, .unset, .unset, .unset, .unset, .unset, .unset]) rfl ?_
  show Steps p.tables e below (s₁.setTop (mkF m 88 #[.val (.int p0), .val (.int p1), .val (.long q2), .second, .val (.int p3), .val (.int ng), .val (.int g), .val (.int w), .val (.int lm), .val (.int l6), .val (.int hd), .unset, .unset, .unset, .unset, .unset, .unset, .unset, .unset, .unset, .unset, .unset, .unset, .unset, .unset, .unset, .unset, .unset, .unset, .unset, .unset] [])) _
  refine sg_f p0 hd _ X0 hx hZ hw hby hown e0 rfl rfl  ?_
  show Steps p.tables e below (s₁.setTop (mkF m 103 #[.val (.int p0), .val (.int p1), .val (.long q2), .second, .val (.int p3), .val (.int ng), .val (.int g), .val (.int w), .val (.int lm), .val (.int l6), .val (.int hd), .unset, .unset, .unset, .unset, .unset, .unset, .unset, .unset, .unset, .unset, .unset, .unset, .unset, .unset, .unset, .unset, .unset, .unset, .unset, .unset] [(.int (own_f_s0 p0 hd))])) _
  rw [h_f]
  show Steps p.tables e below (s₁.setTop (mkF m 103 #[.val (.int p0), .val (.int p1), .val (.long q2), .second, .val (.int p3), .val (.int ng), .val (.int g), .val (.int w), .val (.int lm), .val (.int l6), .val (.int hd), .unset, .unset, .unset, .unset, .unset, .unset, .unset, .unset, .unset, .unset, .unset, .unset, .unset, .unset, .unset, .unset, .unset, .unset, .unset, .unset] [(.int f)])) _
  refine XS.istore X0.here hx rfl (hb hby at_103) rfl (l' := #[.val (.int p0), .val (.int p1), .val (.long q2), .second, .val (.int p3), .val (.int ng), .val (.int g), .val (.int w), .val (.int lm), .val (.int l6), .val (.int hd), .val (.int f), .unset, .unset, .unset, .unset, .unset, .unset, .unset, .unset, .unset, .unset, .unset, .unset, .unset, .unset, .unset, .unset, .unset, .unset, .unset]) rfl ?_
  show Steps p.tables e below (s₁.setTop (mkF m 105 #[.val (.int p0), .val (.int p1), .val (.long q2), .second, .val (.int p3), .val (.int ng), .val (.int g), .val (.int w), .val (.int lm), .val (.int l6), .val (.int hd), .val (.int f), .unset, .unset, .unset, .unset, .unset, .unset, .unset, .unset, .unset, .unset, .unset, .unset, .unset, .unset, .unset, .unset, .unset, .unset, .unset] [])) _
  refine XS.iloadN X0.here hx rfl (hb hby at_105) rfl ?_
  show Steps p.tables e below (s₁.setTop (mkF m 106 #[.val (.int p0), .val (.int p1), .val (.long q2), .second, .val (.int p3), .val (.int ng), .val (.int g), .val (.int w), .val (.int lm), .val (.int l6), .val (.int hd), .val (.int f), .unset, .unset, .unset, .unset, .unset, .unset, .unset, .unset, .unset, .unset, .unset, .unset, .unset, .unset, .unset, .unset, .unset, .unset, .unset] [(.int p0)])) _
  refine XS.bipush X0.here hx rfl (hb hby at_106) ?_
  show Steps p.tables e below (s₁.setTop (mkF m 108 #[.val (.int p0), .val (.int p1), .val (.long q2), .second, .val (.int p3), .val (.int ng), .val (.int g), .val (.int w), .val (.int lm), .val (.int l6), .val (.int hd), .val (.int f), .unset, .unset, .unset, .unset, .unset, .unset, .unset, .unset, .unset, .unset, .unset, .unset, .unset, .unset, .unset, .unset, .unset, .unset, .unset] [(.int (8 : Int32)), (.int p0)])) _
  refine XS.iushr X0.here hx rfl (hb hby at_108) rfl ?_
  show Steps p.tables e below (s₁.setTop (mkF m 109 #[.val (.int p0), .val (.int p1), .val (.long q2), .second, .val (.int p3), .val (.int ng), .val (.int g), .val (.int w), .val (.int lm), .val (.int l6), .val (.int hd), .val (.int f), .unset, .unset, .unset, .unset, .unset, .unset, .unset, .unset, .unset, .unset, .unset, .unset, .unset, .unset, .unset, .unset, .unset, .unset, .unset] [(.int ((p0.toUInt32 >>> ((8 : Int32) &&& 31).toUInt32).toInt32))])) _
  refine XS.iconst X0.here hx rfl (hb hby at_109) ?_
  show Steps p.tables e below (s₁.setTop (mkF m 110 #[.val (.int p0), .val (.int p1), .val (.long q2), .second, .val (.int p3), .val (.int ng), .val (.int g), .val (.int w), .val (.int lm), .val (.int l6), .val (.int hd), .val (.int f), .unset, .unset, .unset, .unset, .unset, .unset, .unset, .unset, .unset, .unset, .unset, .unset, .unset, .unset, .unset, .unset, .unset, .unset, .unset] [(.int (3 : Int32)), (.int ((p0.toUInt32 >>> ((8 : Int32) &&& 31).toUInt32).toInt32))])) _
  refine XS.iand X0.here hx rfl (hb hby at_110) rfl ?_
  show Steps p.tables e below (s₁.setTop (mkF m 111 #[.val (.int p0), .val (.int p1), .val (.long q2), .second, .val (.int p3), .val (.int ng), .val (.int g), .val (.int w), .val (.int lm), .val (.int l6), .val (.int hd), .val (.int f), .unset, .unset, .unset, .unset, .unset, .unset, .unset, .unset, .unset, .unset, .unset, .unset, .unset, .unset, .unset, .unset, .unset, .unset, .unset] [(.int (((p0.toUInt32 >>> ((8 : Int32) &&& 31).toUInt32).toInt32) &&& (3 : Int32)))])) _
  refine XS.istore X0.here hx rfl (hb hby at_111) rfl (l' := #[.val (.int p0), .val (.int p1), .val (.long q2), .second, .val (.int p3), .val (.int ng), .val (.int g), .val (.int w), .val (.int lm), .val (.int l6), .val (.int hd), .val (.int f), .val (.int (((p0.toUInt32 >>> ((8 : Int32) &&& 31).toUInt32).toInt32) &&& (3 : Int32))), .unset, .unset, .unset, .unset, .unset, .unset, .unset, .unset, .unset, .unset, .unset, .unset, .unset, .unset, .unset, .unset, .unset, .unset]) rfl ?_
  show Steps p.tables e below (s₁.setTop (mkF m 113 #[.val (.int p0), .val (.int p1), .val (.long q2), .second, .val (.int p3), .val (.int ng), .val (.int g), .val (.int w), .val (.int lm), .val (.int l6), .val (.int hd), .val (.int f), .val (.int (((p0.toUInt32 >>> ((8 : Int32) &&& 31).toUInt32).toInt32) &&& (3 : Int32))), .unset, .unset, .unset, .unset, .unset, .unset, .unset, .unset, .unset, .unset, .unset, .unset, .unset, .unset, .unset, .unset, .unset, .unset] [])) _
  rw [h_s_]
  show Steps p.tables e below (s₁.setTop (mkF m 113 #[.val (.int p0), .val (.int p1), .val (.long q2), .second, .val (.int p3), .val (.int ng), .val (.int g), .val (.int w), .val (.int lm), .val (.int l6), .val (.int hd), .val (.int f), .val (.int s_), .unset, .unset, .unset, .unset, .unset, .unset, .unset, .unset, .unset, .unset, .unset, .unset, .unset, .unset, .unset, .unset, .unset, .unset] [])) _
  refine sg_ex p0 _ X0 hx hZ hw hby hown e0 rfl  ?_
  show Steps p.tables e below (s₁.setTop (mkF m 127 #[.val (.int p0), .val (.int p1), .val (.long q2), .second, .val (.int p3), .val (.int ng), .val (.int g), .val (.int w), .val (.int lm), .val (.int l6), .val (.int hd), .val (.int f), .val (.int s_), .unset, .unset, .unset, .unset, .unset, .unset, .unset, .unset, .unset, .unset, .unset, .unset, .unset, .unset, .unset, .unset, .unset, .unset] [(.int (own_ex_s0 p0))])) _
  rw [h_ex]
  show Steps p.tables e below (s₁.setTop (mkF m 127 #[.val (.int p0), .val (.int p1), .val (.long q2), .second, .val (.int p3), .val (.int ng), .val (.int g), .val (.int w), .val (.int lm), .val (.int l6), .val (.int hd), .val (.int f), .val (.int s_), .unset, .unset, .unset, .unset, .unset, .unset, .unset, .unset, .unset, .unset, .unset, .unset, .unset, .unset, .unset, .unset, .unset, .unset] [(.int ex)])) _
  refine XS.istore X0.here hx rfl (hb hby at_127) rfl (l' := #[.val (.int p0), .val (.int p1), .val (.long q2), .second, .val (.int p3), .val (.int ng), .val (.int g), .val (.int w), .val (.int lm), .val (.int l6), .val (.int hd), .val (.int f), .val (.int s_), .val (.int ex), .unset, .unset, .unset, .unset, .unset, .unset, .unset, .unset, .unset, .unset, .unset, .unset, .unset, .unset, .unset, .unset, .unset]) rfl ?_
  show Steps p.tables e below (s₁.setTop (mkF m 129 #[.val (.int p0), .val (.int p1), .val (.long q2), .second, .val (.int p3), .val (.int ng), .val (.int g), .val (.int w), .val (.int lm), .val (.int l6), .val (.int hd), .val (.int f), .val (.int s_), .val (.int ex), .unset, .unset, .unset, .unset, .unset, .unset, .unset, .unset, .unset, .unset, .unset, .unset, .unset, .unset, .unset, .unset, .unset] [])) _
  refine sg_x1 w _ X0 hx hZ hw hby hown e0 rfl  ?_
  show Steps p.tables e below (s₁.setTop (mkF m 145 #[.val (.int p0), .val (.int p1), .val (.long q2), .second, .val (.int p3), .val (.int ng), .val (.int g), .val (.int w), .val (.int lm), .val (.int l6), .val (.int hd), .val (.int f), .val (.int s_), .val (.int ex), .unset, .unset, .unset, .unset, .unset, .unset, .unset, .unset, .unset, .unset, .unset, .unset, .unset, .unset, .unset, .unset, .unset] [(.int (own_x1_s0 w))])) _
  refine sg_x2 w (own_x1_s0 w) _ X0 hx hZ hw hby hown e0 rfl  ?_
  show Steps p.tables e below (s₁.setTop (mkF m 163 #[.val (.int p0), .val (.int p1), .val (.long q2), .second, .val (.int p3), .val (.int ng), .val (.int g), .val (.int w), .val (.int lm), .val (.int l6), .val (.int hd), .val (.int f), .val (.int s_), .val (.int ex), .unset, .unset, .unset, .unset, .unset, .unset, .unset, .unset, .unset, .unset, .unset, .unset, .unset, .unset, .unset, .unset, .unset] [(.int (own_x2_s0 w)), (.int (own_x1_s0 w))])) _
  refine XS.ior X0.here hx rfl (hb hby at_163) rfl ?_
  show Steps p.tables e below (s₁.setTop (mkF m 164 #[.val (.int p0), .val (.int p1), .val (.long q2), .second, .val (.int p3), .val (.int ng), .val (.int g), .val (.int w), .val (.int lm), .val (.int l6), .val (.int hd), .val (.int f), .val (.int s_), .val (.int ex), .unset, .unset, .unset, .unset, .unset, .unset, .unset, .unset, .unset, .unset, .unset, .unset, .unset, .unset, .unset, .unset, .unset] [(.int ((own_x1_s0 w) ||| (own_x2_s0 w)))])) _
  refine XS.istore X0.here hx rfl (hb hby at_164) rfl (l' := #[.val (.int p0), .val (.int p1), .val (.long q2), .second, .val (.int p3), .val (.int ng), .val (.int g), .val (.int w), .val (.int lm), .val (.int l6), .val (.int hd), .val (.int f), .val (.int s_), .val (.int ex), .val (.int ((own_x1_s0 w) ||| (own_x2_s0 w))), .unset, .unset, .unset, .unset, .unset, .unset, .unset, .unset, .unset, .unset, .unset, .unset, .unset, .unset, .unset, .unset]) rfl ?_
  show Steps p.tables e below (s₁.setTop (mkF m 166 #[.val (.int p0), .val (.int p1), .val (.long q2), .second, .val (.int p3), .val (.int ng), .val (.int g), .val (.int w), .val (.int lm), .val (.int l6), .val (.int hd), .val (.int f), .val (.int s_), .val (.int ex), .val (.int ((own_x1_s0 w) ||| (own_x2_s0 w))), .unset, .unset, .unset, .unset, .unset, .unset, .unset, .unset, .unset, .unset, .unset, .unset, .unset, .unset, .unset, .unset] [])) _
  rw [h_xp]
  show Steps p.tables e below (s₁.setTop (mkF m 166 #[.val (.int p0), .val (.int p1), .val (.long q2), .second, .val (.int p3), .val (.int ng), .val (.int g), .val (.int w), .val (.int lm), .val (.int l6), .val (.int hd), .val (.int f), .val (.int s_), .val (.int ex), .val (.int xp), .unset, .unset, .unset, .unset, .unset, .unset, .unset, .unset, .unset, .unset, .unset, .unset, .unset, .unset, .unset, .unset] [])) _
  refine sg_cm p1 w ex xp _ X0 hx hZ hw hby hown e0 rfl rfl rfl rfl  ?_
  show Steps p.tables e below (s₁.setTop (mkF m 184 #[.val (.int p0), .val (.int p1), .val (.long q2), .second, .val (.int p3), .val (.int ng), .val (.int g), .val (.int w), .val (.int lm), .val (.int l6), .val (.int hd), .val (.int f), .val (.int s_), .val (.int ex), .val (.int xp), .unset, .unset, .unset, .unset, .unset, .unset, .unset, .unset, .unset, .unset, .unset, .unset, .unset, .unset, .unset, .unset] [(.int (own_cm_s0 p1 w ex xp))])) _
  rw [h_cm]
  show Steps p.tables e below (s₁.setTop (mkF m 184 #[.val (.int p0), .val (.int p1), .val (.long q2), .second, .val (.int p3), .val (.int ng), .val (.int g), .val (.int w), .val (.int lm), .val (.int l6), .val (.int hd), .val (.int f), .val (.int s_), .val (.int ex), .val (.int xp), .unset, .unset, .unset, .unset, .unset, .unset, .unset, .unset, .unset, .unset, .unset, .unset, .unset, .unset, .unset, .unset] [(.int cm)])) _
  refine XS.istore X0.here hx rfl (hb hby at_184) rfl (l' := #[.val (.int p0), .val (.int p1), .val (.long q2), .second, .val (.int p3), .val (.int ng), .val (.int g), .val (.int w), .val (.int lm), .val (.int l6), .val (.int hd), .val (.int f), .val (.int s_), .val (.int ex), .val (.int xp), .val (.int cm), .unset, .unset, .unset, .unset, .unset, .unset, .unset, .unset, .unset, .unset, .unset, .unset, .unset, .unset, .unset]) rfl ?_
  show Steps p.tables e below (s₁.setTop (mkF m 186 #[.val (.int p0), .val (.int p1), .val (.long q2), .second, .val (.int p3), .val (.int ng), .val (.int g), .val (.int w), .val (.int lm), .val (.int l6), .val (.int hd), .val (.int f), .val (.int s_), .val (.int ex), .val (.int xp), .val (.int cm), .unset, .unset, .unset, .unset, .unset, .unset, .unset, .unset, .unset, .unset, .unset, .unset, .unset, .unset, .unset] [])) _
  refine XS.iload X0.here hx rfl (hb hby at_186) rfl ?_
  show Steps p.tables e below (s₁.setTop (mkF m 188 #[.val (.int p0), .val (.int p1), .val (.long q2), .second, .val (.int p3), .val (.int ng), .val (.int g), .val (.int w), .val (.int lm), .val (.int l6), .val (.int hd), .val (.int f), .val (.int s_), .val (.int ex), .val (.int xp), .val (.int cm), .unset, .unset, .unset, .unset, .unset, .unset, .unset, .unset, .unset, .unset, .unset, .unset, .unset, .unset, .unset] [(.int g)])) _
  refine XS.iload X0.here hx rfl (hb hby at_188) rfl ?_
  show Steps p.tables e below (s₁.setTop (mkF m 190 #[.val (.int p0), .val (.int p1), .val (.long q2), .second, .val (.int p3), .val (.int ng), .val (.int g), .val (.int w), .val (.int lm), .val (.int l6), .val (.int hd), .val (.int f), .val (.int s_), .val (.int ex), .val (.int xp), .val (.int cm), .unset, .unset, .unset, .unset, .unset, .unset, .unset, .unset, .unset, .unset, .unset, .unset, .unset, .unset, .unset] [(.int w), (.int g)])) _
  refine XS.iadd X0.here hx rfl (hb hby at_190) rfl ?_
  show Steps p.tables e below (s₁.setTop (mkF m 191 #[.val (.int p0), .val (.int p1), .val (.long q2), .second, .val (.int p3), .val (.int ng), .val (.int g), .val (.int w), .val (.int lm), .val (.int l6), .val (.int hd), .val (.int f), .val (.int s_), .val (.int ex), .val (.int xp), .val (.int cm), .unset, .unset, .unset, .unset, .unset, .unset, .unset, .unset, .unset, .unset, .unset, .unset, .unset, .unset, .unset] [(.int (g + w))])) _
  refine sg_n1 hd (g + w) _ X0 hx hZ hw hby hown e0 rfl  ?_
  show Steps p.tables e below (s₁.setTop (mkF m 201 #[.val (.int p0), .val (.int p1), .val (.long q2), .second, .val (.int p3), .val (.int ng), .val (.int g), .val (.int w), .val (.int lm), .val (.int l6), .val (.int hd), .val (.int f), .val (.int s_), .val (.int ex), .val (.int xp), .val (.int cm), .unset, .unset, .unset, .unset, .unset, .unset, .unset, .unset, .unset, .unset, .unset, .unset, .unset, .unset, .unset] [(.int (own_n1_s0 hd)), (.int (g + w))])) _
  refine XS.iadd X0.here hx rfl (hb hby at_201) rfl ?_
  show Steps p.tables e below (s₁.setTop (mkF m 202 #[.val (.int p0), .val (.int p1), .val (.long q2), .second, .val (.int p3), .val (.int ng), .val (.int g), .val (.int w), .val (.int lm), .val (.int l6), .val (.int hd), .val (.int f), .val (.int s_), .val (.int ex), .val (.int xp), .val (.int cm), .unset, .unset, .unset, .unset, .unset, .unset, .unset, .unset, .unset, .unset, .unset, .unset, .unset, .unset, .unset] [(.int ((g + w) + (own_n1_s0 hd)))])) _
  refine XS.iload X0.here hx rfl (hb hby at_202) rfl ?_
  show Steps p.tables e below (s₁.setTop (mkF m 204 #[.val (.int p0), .val (.int p1), .val (.long q2), .second, .val (.int p3), .val (.int ng), .val (.int g), .val (.int w), .val (.int lm), .val (.int l6), .val (.int hd), .val (.int f), .val (.int s_), .val (.int ex), .val (.int xp), .val (.int cm), .unset, .unset, .unset, .unset, .unset, .unset, .unset, .unset, .unset, .unset, .unset, .unset, .unset, .unset, .unset] [(.int f), (.int ((g + w) + (own_n1_s0 hd)))])) _
  refine XS.iadd X0.here hx rfl (hb hby at_204) rfl ?_
  show Steps p.tables e below (s₁.setTop (mkF m 205 #[.val (.int p0), .val (.int p1), .val (.long q2), .second, .val (.int p3), .val (.int ng), .val (.int g), .val (.int w), .val (.int lm), .val (.int l6), .val (.int hd), .val (.int f), .val (.int s_), .val (.int ex), .val (.int xp), .val (.int cm), .unset, .unset, .unset, .unset, .unset, .unset, .unset, .unset, .unset, .unset, .unset, .unset, .unset, .unset, .unset] [(.int (((g + w) + (own_n1_s0 hd)) + f))])) _
  refine XS.istore X0.here hx rfl (hb hby at_205) rfl (l' := #[.val (.int p0), .val (.int p1), .val (.long q2), .second, .val (.int p3), .val (.int ng), .val (.int g), .val (.int w), .val (.int lm), .val (.int l6), .val (.int hd), .val (.int f), .val (.int s_), .val (.int ex), .val (.int xp), .val (.int cm), .val (.int (((g + w) + (own_n1_s0 hd)) + f)), .unset, .unset, .unset, .unset, .unset, .unset, .unset, .unset, .unset, .unset, .unset, .unset, .unset, .unset]) rfl ?_
  show Steps p.tables e below (s₁.setTop (mkF m 207 #[.val (.int p0), .val (.int p1), .val (.long q2), .second, .val (.int p3), .val (.int ng), .val (.int g), .val (.int w), .val (.int lm), .val (.int l6), .val (.int hd), .val (.int f), .val (.int s_), .val (.int ex), .val (.int xp), .val (.int cm), .val (.int (((g + w) + (own_n1_s0 hd)) + f)), .unset, .unset, .unset, .unset, .unset, .unset, .unset, .unset, .unset, .unset, .unset, .unset, .unset, .unset] [])) _
  rw [h_n]
  show Steps p.tables e below (s₁.setTop (mkF m 207 #[.val (.int p0), .val (.int p1), .val (.long q2), .second, .val (.int p3), .val (.int ng), .val (.int g), .val (.int w), .val (.int lm), .val (.int l6), .val (.int hd), .val (.int f), .val (.int s_), .val (.int ex), .val (.int xp), .val (.int cm), .val (.int n), .unset, .unset, .unset, .unset, .unset, .unset, .unset, .unset, .unset, .unset, .unset, .unset, .unset, .unset] [])) _
  refine sg_tot lm l6 n _ X0 hx hZ hw hby hown e0 rfl rfl rfl  ?_
  show Steps p.tables e below (s₁.setTop (mkF m 229 #[.val (.int p0), .val (.int p1), .val (.long q2), .second, .val (.int p3), .val (.int ng), .val (.int g), .val (.int w), .val (.int lm), .val (.int l6), .val (.int hd), .val (.int f), .val (.int s_), .val (.int ex), .val (.int xp), .val (.int cm), .val (.int n), .unset, .unset, .unset, .unset, .unset, .unset, .unset, .unset, .unset, .unset, .unset, .unset, .unset, .unset] [(.int (own_tot_s0 lm l6 n))])) _
  rw [h_to]
  show Steps p.tables e below (s₁.setTop (mkF m 229 #[.val (.int p0), .val (.int p1), .val (.long q2), .second, .val (.int p3), .val (.int ng), .val (.int g), .val (.int w), .val (.int lm), .val (.int l6), .val (.int hd), .val (.int f), .val (.int s_), .val (.int ex), .val (.int xp), .val (.int cm), .val (.int n), .unset, .unset, .unset, .unset, .unset, .unset, .unset, .unset, .unset, .unset, .unset, .unset, .unset, .unset] [(.int to)])) _
  refine XS.istore X0.here hx rfl (hb hby at_229) rfl (l' := #[.val (.int p0), .val (.int p1), .val (.long q2), .second, .val (.int p3), .val (.int ng), .val (.int g), .val (.int w), .val (.int lm), .val (.int l6), .val (.int hd), .val (.int f), .val (.int s_), .val (.int ex), .val (.int xp), .val (.int cm), .val (.int n), .val (.int to), .unset, .unset, .unset, .unset, .unset, .unset, .unset, .unset, .unset, .unset, .unset, .unset, .unset]) rfl ?_
  show Steps p.tables e below (s₁.setTop (mkF m 231 #[.val (.int p0), .val (.int p1), .val (.long q2), .second, .val (.int p3), .val (.int ng), .val (.int g), .val (.int w), .val (.int lm), .val (.int l6), .val (.int hd), .val (.int f), .val (.int s_), .val (.int ex), .val (.int xp), .val (.int cm), .val (.int n), .val (.int to), .unset, .unset, .unset, .unset, .unset, .unset, .unset, .unset, .unset, .unset, .unset, .unset, .unset] [])) _
  refine XS.iload X0.here hx rfl (hb hby at_231) rfl ?_
  show Steps p.tables e below (s₁.setTop (mkF m 233 #[.val (.int p0), .val (.int p1), .val (.long q2), .second, .val (.int p3), .val (.int ng), .val (.int g), .val (.int w), .val (.int lm), .val (.int l6), .val (.int hd), .val (.int f), .val (.int s_), .val (.int ex), .val (.int xp), .val (.int cm), .val (.int n), .val (.int to), .unset, .unset, .unset, .unset, .unset, .unset, .unset, .unset, .unset, .unset, .unset, .unset, .unset] [(.int s_)])) _
  refine XS.iload X0.here hx rfl (hb hby at_233) rfl ?_
  show Steps p.tables e below (s₁.setTop (mkF m 235 #[.val (.int p0), .val (.int p1), .val (.long q2), .second, .val (.int p3), .val (.int ng), .val (.int g), .val (.int w), .val (.int lm), .val (.int l6), .val (.int hd), .val (.int f), .val (.int s_), .val (.int ex), .val (.int xp), .val (.int cm), .val (.int n), .val (.int to), .unset, .unset, .unset, .unset, .unset, .unset, .unset, .unset, .unset, .unset, .unset, .unset, .unset] [(.int to), (.int s_)])) _
  refine XS.iadd X0.here hx rfl (hb hby at_235) rfl ?_
  show Steps p.tables e below (s₁.setTop (mkF m 236 #[.val (.int p0), .val (.int p1), .val (.long q2), .second, .val (.int p3), .val (.int ng), .val (.int g), .val (.int w), .val (.int lm), .val (.int l6), .val (.int hd), .val (.int f), .val (.int s_), .val (.int ex), .val (.int xp), .val (.int cm), .val (.int n), .val (.int to), .unset, .unset, .unset, .unset, .unset, .unset, .unset, .unset, .unset, .unset, .unset, .unset, .unset] [(.int (s_ + to))])) _
  refine XS.istore X0.here hx rfl (hb hby at_236) rfl (l' := #[.val (.int p0), .val (.int p1), .val (.long q2), .second, .val (.int p3), .val (.int ng), .val (.int g), .val (.int w), .val (.int lm), .val (.int l6), .val (.int hd), .val (.int f), .val (.int s_), .val (.int ex), .val (.int xp), .val (.int cm), .val (.int n), .val (.int to), .val (.int (s_ + to)), .unset, .unset, .unset, .unset, .unset, .unset, .unset, .unset, .unset, .unset, .unset, .unset]) rfl ?_
  show Steps p.tables e below (s₁.setTop (mkF m 238 #[.val (.int p0), .val (.int p1), .val (.long q2), .second, .val (.int p3), .val (.int ng), .val (.int g), .val (.int w), .val (.int lm), .val (.int l6), .val (.int hd), .val (.int f), .val (.int s_), .val (.int ex), .val (.int xp), .val (.int cm), .val (.int n), .val (.int to), .val (.int (s_ + to)), .unset, .unset, .unset, .unset, .unset, .unset, .unset, .unset, .unset, .unset, .unset, .unset] [])) _
  rw [h_en]
  show Steps p.tables e below (s₁.setTop (mkF m 238 #[.val (.int p0), .val (.int p1), .val (.long q2), .second, .val (.int p3), .val (.int ng), .val (.int g), .val (.int w), .val (.int lm), .val (.int l6), .val (.int hd), .val (.int f), .val (.int s_), .val (.int ex), .val (.int xp), .val (.int cm), .val (.int n), .val (.int to), .val (.int en), .unset, .unset, .unset, .unset, .unset, .unset, .unset, .unset, .unset, .unset, .unset, .unset] [])) _
  refine XS.bipush X0.here hx rfl (hb hby at_238) ?_
  show Steps p.tables e below (s₁.setTop (mkF m 240 #[.val (.int p0), .val (.int p1), .val (.long q2), .second, .val (.int p3), .val (.int ng), .val (.int g), .val (.int w), .val (.int lm), .val (.int l6), .val (.int hd), .val (.int f), .val (.int s_), .val (.int ex), .val (.int xp), .val (.int cm), .val (.int n), .val (.int to), .val (.int en), .unset, .unset, .unset, .unset, .unset, .unset, .unset, .unset, .unset, .unset, .unset, .unset] [(.int (72 : Int32))])) _
  refine st1 _ ?_
  show Steps p.tables e below (T1.setTop (mkF m 242 #[.val (.int p0), .val (.int p1), .val (.long q2), .second, .val (.int p3), .val (.int ng), .val (.int g), .val (.int w), .val (.int lm), .val (.int l6), .val (.int hd), .val (.int f), .val (.int s_), .val (.int ex), .val (.int xp), .val (.int cm), .val (.int n), .val (.int to), .val (.int en), .unset, .unset, .unset, .unset, .unset, .unset, .unset, .unset, .unset, .unset, .unset, .unset] [(.ref b1)])) _
  refine XS.astore X1.here hx rfl (hb hby at_242) rfl rfl (l' := #[.val (.int p0), .val (.int p1), .val (.long q2), .second, .val (.int p3), .val (.int ng), .val (.int g), .val (.int w), .val (.int lm), .val (.int l6), .val (.int hd), .val (.int f), .val (.int s_), .val (.int ex), .val (.int xp), .val (.int cm), .val (.int n), .val (.int to), .val (.int en), .val (.ref b1), .unset, .unset, .unset, .unset, .unset, .unset, .unset, .unset, .unset, .unset, .unset]) rfl ?_
  show Steps p.tables e below (T1.setTop (mkF m 244 #[.val (.int p0), .val (.int p1), .val (.long q2), .second, .val (.int p3), .val (.int ng), .val (.int g), .val (.int w), .val (.int lm), .val (.int l6), .val (.int hd), .val (.int f), .val (.int s_), .val (.int ex), .val (.int xp), .val (.int cm), .val (.int n), .val (.int to), .val (.int en), .val (.ref b1), .unset, .unset, .unset, .unset, .unset, .unset, .unset, .unset, .unset, .unset, .unset] [])) _
  refine XS.aload X1.here hx rfl (hb hby at_244) rfl rfl ?_
  show Steps p.tables e below (T1.setTop (mkF m 246 #[.val (.int p0), .val (.int p1), .val (.long q2), .second, .val (.int p3), .val (.int ng), .val (.int g), .val (.int w), .val (.int lm), .val (.int l6), .val (.int hd), .val (.int f), .val (.int s_), .val (.int ex), .val (.int xp), .val (.int cm), .val (.int n), .val (.int to), .val (.int en), .val (.ref b1), .unset, .unset, .unset, .unset, .unset, .unset, .unset, .unset, .unset, .unset, .unset] [(.ref b1)])) _
  refine XS.iconst X1.here hx rfl (hb hby at_246) ?_
  show Steps p.tables e below (T1.setTop (mkF m 247 #[.val (.int p0), .val (.int p1), .val (.long q2), .second, .val (.int p3), .val (.int ng), .val (.int g), .val (.int w), .val (.int lm), .val (.int l6), .val (.int hd), .val (.int f), .val (.int s_), .val (.int ex), .val (.int xp), .val (.int cm), .val (.int n), .val (.int to), .val (.int en), .val (.ref b1), .unset, .unset, .unset, .unset, .unset, .unset, .unset, .unset, .unset, .unset, .unset] [(.int (0 : Int32)), (.ref b1)])) _
  refine XS.bipush X1.here hx rfl (hb hby at_247) ?_
  show Steps p.tables e below (T1.setTop (mkF m 249 #[.val (.int p0), .val (.int p1), .val (.long q2), .second, .val (.int p3), .val (.int ng), .val (.int g), .val (.int w), .val (.int lm), .val (.int l6), .val (.int hd), .val (.int f), .val (.int s_), .val (.int ex), .val (.int xp), .val (.int cm), .val (.int n), .val (.int to), .val (.int en), .val (.ref b1), .unset, .unset, .unset, .unset, .unset, .unset, .unset, .unset, .unset, .unset, .unset] [(.int (44 : Int32)), (.int (0 : Int32)), (.ref b1)])) _
  refine st2 _ ?_
  show Steps p.tables e below (T2.setTop (mkF m 250 #[.val (.int p0), .val (.int p1), .val (.long q2), .second, .val (.int p3), .val (.int ng), .val (.int g), .val (.int w), .val (.int lm), .val (.int l6), .val (.int hd), .val (.int f), .val (.int s_), .val (.int ex), .val (.int xp), .val (.int cm), .val (.int n), .val (.int to), .val (.int en), .val (.ref b1), .unset, .unset, .unset, .unset, .unset, .unset, .unset, .unset, .unset, .unset, .unset] [])) _
  refine XS.aload X2.here hx rfl (hb hby at_250) rfl rfl ?_
  show Steps p.tables e below (T2.setTop (mkF m 252 #[.val (.int p0), .val (.int p1), .val (.long q2), .second, .val (.int p3), .val (.int ng), .val (.int g), .val (.int w), .val (.int lm), .val (.int l6), .val (.int hd), .val (.int f), .val (.int s_), .val (.int ex), .val (.int xp), .val (.int cm), .val (.int n), .val (.int to), .val (.int en), .val (.ref b1), .unset, .unset, .unset, .unset, .unset, .unset, .unset, .unset, .unset, .unset, .unset] [(.ref b1)])) _
  refine XS.iconst X2.here hx rfl (hb hby at_252) ?_
  show Steps p.tables e below (T2.setTop (mkF m 253 #[.val (.int p0), .val (.int p1), .val (.long q2), .second, .val (.int p3), .val (.int ng), .val (.int g), .val (.int w), .val (.int lm), .val (.int l6), .val (.int hd), .val (.int f), .val (.int s_), .val (.int ex), .val (.int xp), .val (.int cm), .val (.int n), .val (.int to), .val (.int en), .val (.ref b1), .unset, .unset, .unset, .unset, .unset, .unset, .unset, .unset, .unset, .unset, .unset] [(.int (1 : Int32)), (.ref b1)])) _
  refine XS.bipush X2.here hx rfl (hb hby at_253) ?_
  show Steps p.tables e below (T2.setTop (mkF m 255 #[.val (.int p0), .val (.int p1), .val (.long q2), .second, .val (.int p3), .val (.int ng), .val (.int g), .val (.int w), .val (.int lm), .val (.int l6), .val (.int hd), .val (.int f), .val (.int s_), .val (.int ex), .val (.int xp), .val (.int cm), .val (.int n), .val (.int to), .val (.int en), .val (.ref b1), .unset, .unset, .unset, .unset, .unset, .unset, .unset, .unset, .unset, .unset, .unset] [(.int (44 : Int32)), (.int (1 : Int32)), (.ref b1)])) _
  refine st3 _ ?_
  show Steps p.tables e below (T3.setTop (mkF m 256 #[.val (.int p0), .val (.int p1), .val (.long q2), .second, .val (.int p3), .val (.int ng), .val (.int g), .val (.int w), .val (.int lm), .val (.int l6), .val (.int hd), .val (.int f), .val (.int s_), .val (.int ex), .val (.int xp), .val (.int cm), .val (.int n), .val (.int to), .val (.int en), .val (.ref b1), .unset, .unset, .unset, .unset, .unset, .unset, .unset, .unset, .unset, .unset, .unset] [])) _
  refine XS.aload X3.here hx rfl (hb hby at_256) rfl rfl ?_
  show Steps p.tables e below (T3.setTop (mkF m 258 #[.val (.int p0), .val (.int p1), .val (.long q2), .second, .val (.int p3), .val (.int ng), .val (.int g), .val (.int w), .val (.int lm), .val (.int l6), .val (.int hd), .val (.int f), .val (.int s_), .val (.int ex), .val (.int xp), .val (.int cm), .val (.int n), .val (.int to), .val (.int en), .val (.ref b1), .unset, .unset, .unset, .unset, .unset, .unset, .unset, .unset, .unset, .unset, .unset] [(.ref b1)])) _
  refine XS.iconst X3.here hx rfl (hb hby at_258) ?_
  show Steps p.tables e below (T3.setTop (mkF m 259 #[.val (.int p0), .val (.int p1), .val (.long q2), .second, .val (.int p3), .val (.int ng), .val (.int g), .val (.int w), .val (.int lm), .val (.int l6), .val (.int hd), .val (.int f), .val (.int s_), .val (.int ex), .val (.int xp), .val (.int cm), .val (.int n), .val (.int to), .val (.int en), .val (.ref b1), .unset, .unset, .unset, .unset, .unset, .unset, .unset, .unset, .unset, .unset, .unset] [(.int (2 : Int32)), (.ref b1)])) _
  refine XS.bipush X3.here hx rfl (hb hby at_259) ?_
  show Steps p.tables e below (T3.setTop (mkF m 261 #[.val (.int p0), .val (.int p1), .val (.long q2), .second, .val (.int p3), .val (.int ng), .val (.int g), .val (.int w), .val (.int lm), .val (.int l6), .val (.int hd), .val (.int f), .val (.int s_), .val (.int ex), .val (.int xp), .val (.int cm), .val (.int n), .val (.int to), .val (.int en), .val (.ref b1), .unset, .unset, .unset, .unset, .unset, .unset, .unset, .unset, .unset, .unset, .unset] [(.int (44 : Int32)), (.int (2 : Int32)), (.ref b1)])) _
  refine st4 _ ?_
  show Steps p.tables e below (T4.setTop (mkF m 262 #[.val (.int p0), .val (.int p1), .val (.long q2), .second, .val (.int p3), .val (.int ng), .val (.int g), .val (.int w), .val (.int lm), .val (.int l6), .val (.int hd), .val (.int f), .val (.int s_), .val (.int ex), .val (.int xp), .val (.int cm), .val (.int n), .val (.int to), .val (.int en), .val (.ref b1), .unset, .unset, .unset, .unset, .unset, .unset, .unset, .unset, .unset, .unset, .unset] [])) _
  refine stT _ ?_
  show Steps p.tables e below (TT.setTop (mkF m 639 #[.val (.int p0), .val (.int p1), .val (.long q2), .second, .val (.int p3), .val (.int ng), .val (.int g), .val (.int w), .val (.int lm), .val (.int l6), .val (.int hd), .val (.int f), .val (.int s_), .val (.int ex), .val (.int xp), .val (.int cm), .val (.int n), .val (.int to), .val (.int en), .val (.ref b1), .unset, .unset, .unset, .unset, .unset, .unset, .unset, .unset, .unset, .unset, .unset] [])) _
  refine XS.bipush XT.here hx rfl (hb hby at_639) ?_
  show Steps p.tables e below (TT.setTop (mkF m 641 #[.val (.int p0), .val (.int p1), .val (.long q2), .second, .val (.int p3), .val (.int ng), .val (.int g), .val (.int w), .val (.int lm), .val (.int l6), .val (.int hd), .val (.int f), .val (.int s_), .val (.int ex), .val (.int xp), .val (.int cm), .val (.int n), .val (.int to), .val (.int en), .val (.ref b1), .unset, .unset, .unset, .unset, .unset, .unset, .unset, .unset, .unset, .unset, .unset] [(.int (64 : Int32))])) _
  refine st5 _ ?_
  show Steps p.tables e below (T5.setTop (mkF m 643 #[.val (.int p0), .val (.int p1), .val (.long q2), .second, .val (.int p3), .val (.int ng), .val (.int g), .val (.int w), .val (.int lm), .val (.int l6), .val (.int hd), .val (.int f), .val (.int s_), .val (.int ex), .val (.int xp), .val (.int cm), .val (.int n), .val (.int to), .val (.int en), .val (.ref b1), .unset, .unset, .unset, .unset, .unset, .unset, .unset, .unset, .unset, .unset, .unset] [(.ref b5)])) _
  refine XS.astore X5.here hx rfl (hb hby at_643) rfl rfl (l' := #[.val (.int p0), .val (.int p1), .val (.long q2), .second, .val (.int p3), .val (.int ng), .val (.int g), .val (.int w), .val (.int lm), .val (.int l6), .val (.int hd), .val (.int f), .val (.int s_), .val (.int ex), .val (.int xp), .val (.int cm), .val (.int n), .val (.int to), .val (.int en), .val (.ref b1), .val (.ref b5), .unset, .unset, .unset, .unset, .unset, .unset, .unset, .unset, .unset, .unset]) rfl ?_
  show Steps p.tables e below (T5.setTop (mkF m 645 #[.val (.int p0), .val (.int p1), .val (.long q2), .second, .val (.int p3), .val (.int ng), .val (.int g), .val (.int w), .val (.int lm), .val (.int l6), .val (.int hd), .val (.int f), .val (.int s_), .val (.int ex), .val (.int xp), .val (.int cm), .val (.int n), .val (.int to), .val (.int en), .val (.ref b1), .val (.ref b5), .unset, .unset, .unset, .unset, .unset, .unset, .unset, .unset, .unset, .unset] [])) _
  refine stC _ ?_
  show Steps p.tables e below (TC.setTop (mkF m 697 #[.val (.int p0), .val (.int p1), .val (.long q2), .second, .val (.int p3), .val (.int ng), .val (.int g), .val (.int w), .val (.int lm), .val (.int l6), .val (.int hd), .val (.int f), .val (.int s_), .val (.int ex), .val (.int xp), .val (.int cm), .val (.int n), .val (.int to), .val (.int en), .val (.ref b1), .val (.ref b5), .unset, .unset, .unset, .unset, .unset, .unset, .unset, .unset, .unset, .unset] [(.int fC)])) _
  refine XS.istore XC.here hx rfl (hb hby at_697) rfl (l' := #[.val (.int p0), .val (.int p1), .val (.long q2), .second, .val (.int p3), .val (.int ng), .val (.int g), .val (.int w), .val (.int lm), .val (.int l6), .val (.int hd), .val (.int f), .val (.int s_), .val (.int ex), .val (.int xp), .val (.int cm), .val (.int n), .val (.int to), .val (.int en), .val (.ref b1), .val (.ref b5), .val (.int fC), .unset, .unset, .unset, .unset, .unset, .unset, .unset, .unset, .unset]) rfl ?_
  show Steps p.tables e below (TC.setTop (mkF m 699 #[.val (.int p0), .val (.int p1), .val (.long q2), .second, .val (.int p3), .val (.int ng), .val (.int g), .val (.int w), .val (.int lm), .val (.int l6), .val (.int hd), .val (.int f), .val (.int s_), .val (.int ex), .val (.int xp), .val (.int cm), .val (.int n), .val (.int to), .val (.int en), .val (.ref b1), .val (.ref b5), .val (.int fC), .unset, .unset, .unset, .unset, .unset, .unset, .unset, .unset, .unset] [])) _
  refine sg_any cm fC _ XC hx hZ hw hby hown eC2 rfl rfl  ?_
  show Steps p.tables e below (TC.setTop (mkF m 714 #[.val (.int p0), .val (.int p1), .val (.long q2), .second, .val (.int p3), .val (.int ng), .val (.int g), .val (.int w), .val (.int lm), .val (.int l6), .val (.int hd), .val (.int f), .val (.int s_), .val (.int ex), .val (.int xp), .val (.int cm), .val (.int n), .val (.int to), .val (.int en), .val (.ref b1), .val (.ref b5), .val (.int fC), .unset, .unset, .unset, .unset, .unset, .unset, .unset, .unset, .unset] [(.int (own_any_s0 cm fC))])) _
  rw [h_an]
  show Steps p.tables e below (TC.setTop (mkF m 714 #[.val (.int p0), .val (.int p1), .val (.long q2), .second, .val (.int p3), .val (.int ng), .val (.int g), .val (.int w), .val (.int lm), .val (.int l6), .val (.int hd), .val (.int f), .val (.int s_), .val (.int ex), .val (.int xp), .val (.int cm), .val (.int n), .val (.int to), .val (.int en), .val (.ref b1), .val (.ref b5), .val (.int fC), .unset, .unset, .unset, .unset, .unset, .unset, .unset, .unset, .unset] [(.int an)])) _
  refine XS.istore XC.here hx rfl (hb hby at_714) rfl (l' := #[.val (.int p0), .val (.int p1), .val (.long q2), .second, .val (.int p3), .val (.int ng), .val (.int g), .val (.int w), .val (.int lm), .val (.int l6), .val (.int hd), .val (.int f), .val (.int s_), .val (.int ex), .val (.int xp), .val (.int cm), .val (.int n), .val (.int to), .val (.int en), .val (.ref b1), .val (.ref b5), .val (.int fC), .val (.int an), .unset, .unset, .unset, .unset, .unset, .unset, .unset, .unset]) rfl ?_
  show Steps p.tables e below (TC.setTop (mkF m 716 #[.val (.int p0), .val (.int p1), .val (.long q2), .second, .val (.int p3), .val (.int ng), .val (.int g), .val (.int w), .val (.int lm), .val (.int l6), .val (.int hd), .val (.int f), .val (.int s_), .val (.int ex), .val (.int xp), .val (.int cm), .val (.int n), .val (.int to), .val (.int en), .val (.ref b1), .val (.ref b5), .val (.int fC), .val (.int an), .unset, .unset, .unset, .unset, .unset, .unset, .unset, .unset] [])) _
  refine sg_acc w xp cm fC an _ XC hx hZ hw hby hown eC2 rfl rfl rfl rfl rfl  ?_
  show Steps p.tables e below (TC.setTop (mkF m 745 #[.val (.int p0), .val (.int p1), .val (.long q2), .second, .val (.int p3), .val (.int ng), .val (.int g), .val (.int w), .val (.int lm), .val (.int l6), .val (.int hd), .val (.int f), .val (.int s_), .val (.int ex), .val (.int xp), .val (.int cm), .val (.int n), .val (.int to), .val (.int en), .val (.ref b1), .val (.ref b5), .val (.int fC), .val (.int an), .unset, .unset, .unset, .unset, .unset, .unset, .unset, .unset] [(.int (own_acc_s0 w xp cm fC an))])) _
  rw [h_ac]
  show Steps p.tables e below (TC.setTop (mkF m 745 #[.val (.int p0), .val (.int p1), .val (.long q2), .second, .val (.int p3), .val (.int ng), .val (.int g), .val (.int w), .val (.int lm), .val (.int l6), .val (.int hd), .val (.int f), .val (.int s_), .val (.int ex), .val (.int xp), .val (.int cm), .val (.int n), .val (.int to), .val (.int en), .val (.ref b1), .val (.ref b5), .val (.int fC), .val (.int an), .unset, .unset, .unset, .unset, .unset, .unset, .unset, .unset] [(.int ac)])) _
  refine XS.istore XC.here hx rfl (hb hby at_745) rfl (l' := #[.val (.int p0), .val (.int p1), .val (.long q2), .second, .val (.int p3), .val (.int ng), .val (.int g), .val (.int w), .val (.int lm), .val (.int l6), .val (.int hd), .val (.int f), .val (.int s_), .val (.int ex), .val (.int xp), .val (.int cm), .val (.int n), .val (.int to), .val (.int en), .val (.ref b1), .val (.ref b5), .val (.int fC), .val (.int an), .val (.int ac), .unset, .unset, .unset, .unset, .unset, .unset, .unset]) rfl ?_
  show Steps p.tables e below (TC.setTop (mkF m 747 #[.val (.int p0), .val (.int p1), .val (.long q2), .second, .val (.int p3), .val (.int ng), .val (.int g), .val (.int w), .val (.int lm), .val (.int l6), .val (.int hd), .val (.int f), .val (.int s_), .val (.int ex), .val (.int xp), .val (.int cm), .val (.int n), .val (.int to), .val (.int en), .val (.ref b1), .val (.ref b5), .val (.int fC), .val (.int an), .val (.int ac), .unset, .unset, .unset, .unset, .unset, .unset, .unset] [])) _
  refine sg_cc w an _ XC hx hZ hw hby hown eC2 rfl rfl  ?_
  show Steps p.tables e below (TC.setTop (mkF m 780 #[.val (.int p0), .val (.int p1), .val (.long q2), .second, .val (.int p3), .val (.int ng), .val (.int g), .val (.int w), .val (.int lm), .val (.int l6), .val (.int hd), .val (.int f), .val (.int s_), .val (.int ex), .val (.int xp), .val (.int cm), .val (.int n), .val (.int to), .val (.int en), .val (.ref b1), .val (.ref b5), .val (.int fC), .val (.int an), .val (.int ac), .unset, .unset, .unset, .unset, .unset, .unset, .unset] [(.int (own_cc_s0 w an))])) _
  rw [h_cc]
  show Steps p.tables e below (TC.setTop (mkF m 780 #[.val (.int p0), .val (.int p1), .val (.long q2), .second, .val (.int p3), .val (.int ng), .val (.int g), .val (.int w), .val (.int lm), .val (.int l6), .val (.int hd), .val (.int f), .val (.int s_), .val (.int ex), .val (.int xp), .val (.int cm), .val (.int n), .val (.int to), .val (.int en), .val (.ref b1), .val (.ref b5), .val (.int fC), .val (.int an), .val (.int ac), .unset, .unset, .unset, .unset, .unset, .unset, .unset] [(.int cc)])) _
  refine XS.istore XC.here hx rfl (hb hby at_780) rfl (l' := #[.val (.int p0), .val (.int p1), .val (.long q2), .second, .val (.int p3), .val (.int ng), .val (.int g), .val (.int w), .val (.int lm), .val (.int l6), .val (.int hd), .val (.int f), .val (.int s_), .val (.int ex), .val (.int xp), .val (.int cm), .val (.int n), .val (.int to), .val (.int en), .val (.ref b1), .val (.ref b5), .val (.int fC), .val (.int an), .val (.int ac), .val (.int cc), .unset, .unset, .unset, .unset, .unset, .unset]) rfl ?_
  show Steps p.tables e below (TC.setTop (mkF m 782 #[.val (.int p0), .val (.int p1), .val (.long q2), .second, .val (.int p3), .val (.int ng), .val (.int g), .val (.int w), .val (.int lm), .val (.int l6), .val (.int hd), .val (.int f), .val (.int s_), .val (.int ex), .val (.int xp), .val (.int cm), .val (.int n), .val (.int to), .val (.int en), .val (.ref b1), .val (.ref b5), .val (.int fC), .val (.int an), .val (.int ac), .val (.int cc), .unset, .unset, .unset, .unset, .unset, .unset] [])) _
  refine sg_ee to ac cc _ XC hx hZ hw hby hown eC2 rfl rfl rfl  ?_
  show Steps p.tables e below (TC.setTop (mkF m 803 #[.val (.int p0), .val (.int p1), .val (.long q2), .second, .val (.int p3), .val (.int ng), .val (.int g), .val (.int w), .val (.int lm), .val (.int l6), .val (.int hd), .val (.int f), .val (.int s_), .val (.int ex), .val (.int xp), .val (.int cm), .val (.int n), .val (.int to), .val (.int en), .val (.ref b1), .val (.ref b5), .val (.int fC), .val (.int an), .val (.int ac), .val (.int cc), .unset, .unset, .unset, .unset, .unset, .unset] [(.int (own_ee_s0 to ac cc))])) _
  rw [h_ee]
  show Steps p.tables e below (TC.setTop (mkF m 803 #[.val (.int p0), .val (.int p1), .val (.long q2), .second, .val (.int p3), .val (.int ng), .val (.int g), .val (.int w), .val (.int lm), .val (.int l6), .val (.int hd), .val (.int f), .val (.int s_), .val (.int ex), .val (.int xp), .val (.int cm), .val (.int n), .val (.int to), .val (.int en), .val (.ref b1), .val (.ref b5), .val (.int fC), .val (.int an), .val (.int ac), .val (.int cc), .unset, .unset, .unset, .unset, .unset, .unset] [(.int ee)])) _
  refine XS.istore XC.here hx rfl (hb hby at_803) rfl (l' := #[.val (.int p0), .val (.int p1), .val (.long q2), .second, .val (.int p3), .val (.int ng), .val (.int g), .val (.int w), .val (.int lm), .val (.int l6), .val (.int hd), .val (.int f), .val (.int s_), .val (.int ex), .val (.int xp), .val (.int cm), .val (.int n), .val (.int to), .val (.int en), .val (.ref b1), .val (.ref b5), .val (.int fC), .val (.int an), .val (.int ac), .val (.int cc), .val (.int ee), .unset, .unset, .unset, .unset, .unset]) rfl ?_
  show Steps p.tables e below (TC.setTop (mkF m 805 #[.val (.int p0), .val (.int p1), .val (.long q2), .second, .val (.int p3), .val (.int ng), .val (.int g), .val (.int w), .val (.int lm), .val (.int l6), .val (.int hd), .val (.int f), .val (.int s_), .val (.int ex), .val (.int xp), .val (.int cm), .val (.int n), .val (.int to), .val (.int en), .val (.ref b1), .val (.ref b5), .val (.int fC), .val (.int an), .val (.int ac), .val (.int cc), .val (.int ee), .unset, .unset, .unset, .unset, .unset] [])) _
  refine XS.aload XC.here hx rfl (hb hby at_805) rfl rfl ?_
  show Steps p.tables e below (TC.setTop (mkF m 807 #[.val (.int p0), .val (.int p1), .val (.long q2), .second, .val (.int p3), .val (.int ng), .val (.int g), .val (.int w), .val (.int lm), .val (.int l6), .val (.int hd), .val (.int f), .val (.int s_), .val (.int ex), .val (.int xp), .val (.int cm), .val (.int n), .val (.int to), .val (.int en), .val (.ref b1), .val (.ref b5), .val (.int fC), .val (.int an), .val (.int ac), .val (.int cc), .val (.int ee), .unset, .unset, .unset, .unset, .unset] [(.ref b1)])) _
  refine XS.iload XC.here hx rfl (hb hby at_807) rfl ?_
  show Steps p.tables e below (TC.setTop (mkF m 809 #[.val (.int p0), .val (.int p1), .val (.long q2), .second, .val (.int p3), .val (.int ng), .val (.int g), .val (.int w), .val (.int lm), .val (.int l6), .val (.int hd), .val (.int f), .val (.int s_), .val (.int ex), .val (.int xp), .val (.int cm), .val (.int n), .val (.int to), .val (.int en), .val (.ref b1), .val (.ref b5), .val (.int fC), .val (.int an), .val (.int ac), .val (.int cc), .val (.int ee), .unset, .unset, .unset, .unset, .unset] [(.int s_), (.ref b1)])) _
  refine XS.iload XC.here hx rfl (hb hby at_809) rfl ?_
  show Steps p.tables e below (TC.setTop (mkF m 811 #[.val (.int p0), .val (.int p1), .val (.long q2), .second, .val (.int p3), .val (.int ng), .val (.int g), .val (.int w), .val (.int lm), .val (.int l6), .val (.int hd), .val (.int f), .val (.int s_), .val (.int ex), .val (.int xp), .val (.int cm), .val (.int n), .val (.int to), .val (.int en), .val (.ref b1), .val (.ref b5), .val (.int fC), .val (.int an), .val (.int ac), .val (.int cc), .val (.int ee), .unset, .unset, .unset, .unset, .unset] [(.int en), (.int s_), (.ref b1)])) _
  refine XS.aload XC.here hx rfl (hb hby at_811) rfl rfl ?_
  show Steps p.tables e below (TC.setTop (mkF m 813 #[.val (.int p0), .val (.int p1), .val (.long q2), .second, .val (.int p3), .val (.int ng), .val (.int g), .val (.int w), .val (.int lm), .val (.int l6), .val (.int hd), .val (.int f), .val (.int s_), .val (.int ex), .val (.int xp), .val (.int cm), .val (.int n), .val (.int to), .val (.int en), .val (.ref b1), .val (.ref b5), .val (.int fC), .val (.int an), .val (.int ac), .val (.int cc), .val (.int ee), .unset, .unset, .unset, .unset, .unset] [(.ref b5), (.int en), (.int s_), (.ref b1)])) _
  refine st7 _ ?_
  show Steps p.tables e below (T7.setTop (mkF m 816 #[.val (.int p0), .val (.int p1), .val (.long q2), .second, .val (.int p3), .val (.int ng), .val (.int g), .val (.int w), .val (.int lm), .val (.int l6), .val (.int hd), .val (.int f), .val (.int s_), .val (.int ex), .val (.int xp), .val (.int cm), .val (.int n), .val (.int to), .val (.int en), .val (.ref b1), .val (.ref b5), .val (.int fC), .val (.int an), .val (.int ac), .val (.int cc), .val (.int ee), .unset, .unset, .unset, .unset, .unset] [(.int rv)])) _
  refine XS.istore X7.here hx rfl (hb hby at_816) rfl (l' := #[.val (.int p0), .val (.int p1), .val (.long q2), .second, .val (.int p3), .val (.int ng), .val (.int g), .val (.int w), .val (.int lm), .val (.int l6), .val (.int hd), .val (.int f), .val (.int s_), .val (.int ex), .val (.int xp), .val (.int cm), .val (.int n), .val (.int to), .val (.int en), .val (.ref b1), .val (.ref b5), .val (.int fC), .val (.int an), .val (.int ac), .val (.int cc), .val (.int ee), .val (.int rv), .unset, .unset, .unset, .unset]) rfl ?_
  show Steps p.tables e below (T7.setTop (mkF m 818 #[.val (.int p0), .val (.int p1), .val (.long q2), .second, .val (.int p3), .val (.int ng), .val (.int g), .val (.int w), .val (.int lm), .val (.int l6), .val (.int hd), .val (.int f), .val (.int s_), .val (.int ex), .val (.int xp), .val (.int cm), .val (.int n), .val (.int to), .val (.int en), .val (.ref b1), .val (.ref b5), .val (.int fC), .val (.int an), .val (.int ac), .val (.int cc), .val (.int ee), .val (.int rv), .unset, .unset, .unset, .unset] [])) _
  refine XS.iload X7.here hx rfl (hb hby at_818) rfl ?_
  show Steps p.tables e below (T7.setTop (mkF m 820 #[.val (.int p0), .val (.int p1), .val (.long q2), .second, .val (.int p3), .val (.int ng), .val (.int g), .val (.int w), .val (.int lm), .val (.int l6), .val (.int hd), .val (.int f), .val (.int s_), .val (.int ex), .val (.int xp), .val (.int cm), .val (.int n), .val (.int to), .val (.int en), .val (.ref b1), .val (.ref b5), .val (.int fC), .val (.int an), .val (.int ac), .val (.int cc), .val (.int ee), .val (.int rv), .unset, .unset, .unset, .unset] [(.int rv)])) _
  refine XS.iload X7.here hx rfl (hb hby at_820) rfl ?_
  show Steps p.tables e below (T7.setTop (mkF m 822 #[.val (.int p0), .val (.int p1), .val (.long q2), .second, .val (.int p3), .val (.int ng), .val (.int g), .val (.int w), .val (.int lm), .val (.int l6), .val (.int hd), .val (.int f), .val (.int s_), .val (.int ex), .val (.int xp), .val (.int cm), .val (.int n), .val (.int to), .val (.int en), .val (.ref b1), .val (.ref b5), .val (.int fC), .val (.int an), .val (.int ac), .val (.int cc), .val (.int ee), .val (.int rv), .unset, .unset, .unset, .unset] [(.int ee), (.int rv)])) _
  refine XS.icmpYes X7.here hx rfl (pc0 := 822) (pc' := 827) rfl (hb hby at_822) rfl (teq hlaw.1).1 (by decide) (by decide) ?_
  show Steps p.tables e below (T7.setTop (mkF m 827 #[.val (.int p0), .val (.int p1), .val (.long q2), .second, .val (.int p3), .val (.int ng), .val (.int g), .val (.int w), .val (.int lm), .val (.int l6), .val (.int hd), .val (.int f), .val (.int s_), .val (.int ex), .val (.int xp), .val (.int cm), .val (.int n), .val (.int to), .val (.int en), .val (.ref b1), .val (.ref b5), .val (.int fC), .val (.int an), .val (.int ac), .val (.int cc), .val (.int ee), .val (.int rv), .unset, .unset, .unset, .unset] [])) _
  refine sg_c1 w an _ X7 hx hZ hw hby hown rfl rfl rfl  ?_
  show Steps p.tables e below (T7.setTop (mkF m 844 #[.val (.int p0), .val (.int p1), .val (.long q2), .second, .val (.int p3), .val (.int ng), .val (.int g), .val (.int w), .val (.int lm), .val (.int l6), .val (.int hd), .val (.int f), .val (.int s_), .val (.int ex), .val (.int xp), .val (.int cm), .val (.int n), .val (.int to), .val (.int en), .val (.ref b1), .val (.ref b5), .val (.int fC), .val (.int an), .val (.int ac), .val (.int cc), .val (.int ee), .val (.int rv), .unset, .unset, .unset, .unset] [(.int (own_c1_s0 w an))])) _
  rw [h_c1]
  show Steps p.tables e below (T7.setTop (mkF m 844 #[.val (.int p0), .val (.int p1), .val (.long q2), .second, .val (.int p3), .val (.int ng), .val (.int g), .val (.int w), .val (.int lm), .val (.int l6), .val (.int hd), .val (.int f), .val (.int s_), .val (.int ex), .val (.int xp), .val (.int cm), .val (.int n), .val (.int to), .val (.int en), .val (.ref b1), .val (.ref b5), .val (.int fC), .val (.int an), .val (.int ac), .val (.int cc), .val (.int ee), .val (.int rv), .unset, .unset, .unset, .unset] [(.int c1)])) _
  refine XS.istore X7.here hx rfl (hb hby at_844) rfl (l' := #[.val (.int p0), .val (.int p1), .val (.long q2), .second, .val (.int p3), .val (.int ng), .val (.int g), .val (.int w), .val (.int lm), .val (.int l6), .val (.int hd), .val (.int f), .val (.int s_), .val (.int ex), .val (.int xp), .val (.int cm), .val (.int n), .val (.int to), .val (.int en), .val (.ref b1), .val (.ref b5), .val (.int fC), .val (.int an), .val (.int ac), .val (.int cc), .val (.int ee), .val (.int rv), .val (.int c1), .unset, .unset, .unset]) rfl ?_
  show Steps p.tables e below (T7.setTop (mkF m 846 #[.val (.int p0), .val (.int p1), .val (.long q2), .second, .val (.int p3), .val (.int ng), .val (.int g), .val (.int w), .val (.int lm), .val (.int l6), .val (.int hd), .val (.int f), .val (.int s_), .val (.int ex), .val (.int xp), .val (.int cm), .val (.int n), .val (.int to), .val (.int en), .val (.ref b1), .val (.ref b5), .val (.int fC), .val (.int an), .val (.int ac), .val (.int cc), .val (.int ee), .val (.int rv), .val (.int c1), .unset, .unset, .unset] [])) _
  refine XS.iload X7.here hx rfl (hb hby at_846) rfl ?_
  show Steps p.tables e below (T7.setTop (mkF m 848 #[.val (.int p0), .val (.int p1), .val (.long q2), .second, .val (.int p3), .val (.int ng), .val (.int g), .val (.int w), .val (.int lm), .val (.int l6), .val (.int hd), .val (.int f), .val (.int s_), .val (.int ex), .val (.int xp), .val (.int cm), .val (.int n), .val (.int to), .val (.int en), .val (.ref b1), .val (.ref b5), .val (.int fC), .val (.int an), .val (.int ac), .val (.int cc), .val (.int ee), .val (.int rv), .val (.int c1), .unset, .unset, .unset] [(.int g)])) _
  refine XS.iload X7.here hx rfl (hb hby at_848) rfl ?_
  show Steps p.tables e below (T7.setTop (mkF m 850 #[.val (.int p0), .val (.int p1), .val (.long q2), .second, .val (.int p3), .val (.int ng), .val (.int g), .val (.int w), .val (.int lm), .val (.int l6), .val (.int hd), .val (.int f), .val (.int s_), .val (.int ex), .val (.int xp), .val (.int cm), .val (.int n), .val (.int to), .val (.int en), .val (.ref b1), .val (.ref b5), .val (.int fC), .val (.int an), .val (.int ac), .val (.int cc), .val (.int ee), .val (.int rv), .val (.int c1), .unset, .unset, .unset] [(.int w), (.int g)])) _
  refine XS.iadd X7.here hx rfl (hb hby at_850) rfl ?_
  show Steps p.tables e below (T7.setTop (mkF m 851 #[.val (.int p0), .val (.int p1), .val (.long q2), .second, .val (.int p3), .val (.int ng), .val (.int g), .val (.int w), .val (.int lm), .val (.int l6), .val (.int hd), .val (.int f), .val (.int s_), .val (.int ex), .val (.int xp), .val (.int cm), .val (.int n), .val (.int to), .val (.int en), .val (.ref b1), .val (.ref b5), .val (.int fC), .val (.int an), .val (.int ac), .val (.int cc), .val (.int ee), .val (.int rv), .val (.int c1), .unset, .unset, .unset] [(.int (g + w))])) _
  refine XS.bipush X7.here hx rfl (hb hby at_851) ?_
  show Steps p.tables e below (T7.setTop (mkF m 853 #[.val (.int p0), .val (.int p1), .val (.long q2), .second, .val (.int p3), .val (.int ng), .val (.int g), .val (.int w), .val (.int lm), .val (.int l6), .val (.int hd), .val (.int f), .val (.int s_), .val (.int ex), .val (.int xp), .val (.int cm), .val (.int n), .val (.int to), .val (.int en), .val (.ref b1), .val (.ref b5), .val (.int fC), .val (.int an), .val (.int ac), .val (.int cc), .val (.int ee), .val (.int rv), .val (.int c1), .unset, .unset, .unset] [(.int (8 : Int32)), (.int (g + w))])) _
  refine XS.isub X7.here hx rfl (hb hby at_853) rfl ?_
  show Steps p.tables e below (T7.setTop (mkF m 854 #[.val (.int p0), .val (.int p1), .val (.long q2), .second, .val (.int p3), .val (.int ng), .val (.int g), .val (.int w), .val (.int lm), .val (.int l6), .val (.int hd), .val (.int f), .val (.int s_), .val (.int ex), .val (.int xp), .val (.int cm), .val (.int n), .val (.int to), .val (.int en), .val (.ref b1), .val (.ref b5), .val (.int fC), .val (.int an), .val (.int ac), .val (.int cc), .val (.int ee), .val (.int rv), .val (.int c1), .unset, .unset, .unset] [(.int ((g + w) - (8 : Int32)))])) _
  refine XS.istore X7.here hx rfl (hb hby at_854) rfl (l' := #[.val (.int p0), .val (.int p1), .val (.long q2), .second, .val (.int p3), .val (.int ng), .val (.int g), .val (.int w), .val (.int lm), .val (.int l6), .val (.int hd), .val (.int f), .val (.int s_), .val (.int ex), .val (.int xp), .val (.int cm), .val (.int n), .val (.int to), .val (.int en), .val (.ref b1), .val (.ref b5), .val (.int fC), .val (.int an), .val (.int ac), .val (.int cc), .val (.int ee), .val (.int rv), .val (.int c1), .val (.int ((g + w) - (8 : Int32))), .unset, .unset]) rfl ?_
  show Steps p.tables e below (T7.setTop (mkF m 856 #[.val (.int p0), .val (.int p1), .val (.long q2), .second, .val (.int p3), .val (.int ng), .val (.int g), .val (.int w), .val (.int lm), .val (.int l6), .val (.int hd), .val (.int f), .val (.int s_), .val (.int ex), .val (.int xp), .val (.int cm), .val (.int n), .val (.int to), .val (.int en), .val (.ref b1), .val (.ref b5), .val (.int fC), .val (.int an), .val (.int ac), .val (.int cc), .val (.int ee), .val (.int rv), .val (.int c1), .val (.int ((g + w) - (8 : Int32))), .unset, .unset] [])) _
  rw [h_a1]
  show Steps p.tables e below (T7.setTop (mkF m 856 #[.val (.int p0), .val (.int p1), .val (.long q2), .second, .val (.int p3), .val (.int ng), .val (.int g), .val (.int w), .val (.int lm), .val (.int l6), .val (.int hd), .val (.int f), .val (.int s_), .val (.int ex), .val (.int xp), .val (.int cm), .val (.int n), .val (.int to), .val (.int en), .val (.ref b1), .val (.ref b5), .val (.int fC), .val (.int an), .val (.int ac), .val (.int cc), .val (.int ee), .val (.int rv), .val (.int c1), .val (.int a1), .unset, .unset] [])) _
  refine sg_c2 w an _ X7 hx hZ hw hby hown rfl rfl rfl  ?_
  show Steps p.tables e below (T7.setTop (mkF m 872 #[.val (.int p0), .val (.int p1), .val (.long q2), .second, .val (.int p3), .val (.int ng), .val (.int g), .val (.int w), .val (.int lm), .val (.int l6), .val (.int hd), .val (.int f), .val (.int s_), .val (.int ex), .val (.int xp), .val (.int cm), .val (.int n), .val (.int to), .val (.int en), .val (.ref b1), .val (.ref b5), .val (.int fC), .val (.int an), .val (.int ac), .val (.int cc), .val (.int ee), .val (.int rv), .val (.int c1), .val (.int a1), .unset, .unset] [(.int (own_c2_s0 w an))])) _
  rw [h_c2]
  show Steps p.tables e below (T7.setTop (mkF m 872 #[.val (.int p0), .val (.int p1), .val (.long q2), .second, .val (.int p3), .val (.int ng), .val (.int g), .val (.int w), .val (.int lm), .val (.int l6), .val (.int hd), .val (.int f), .val (.int s_), .val (.int ex), .val (.int xp), .val (.int cm), .val (.int n), .val (.int to), .val (.int en), .val (.ref b1), .val (.ref b5), .val (.int fC), .val (.int an), .val (.int ac), .val (.int cc), .val (.int ee), .val (.int rv), .val (.int c1), .val (.int a1), .unset, .unset] [(.int c2)])) _
  refine XS.istore X7.here hx rfl (hb hby at_872) rfl (l' := #[.val (.int p0), .val (.int p1), .val (.long q2), .second, .val (.int p3), .val (.int ng), .val (.int g), .val (.int w), .val (.int lm), .val (.int l6), .val (.int hd), .val (.int f), .val (.int s_), .val (.int ex), .val (.int xp), .val (.int cm), .val (.int n), .val (.int to), .val (.int en), .val (.ref b1), .val (.ref b5), .val (.int fC), .val (.int an), .val (.int ac), .val (.int cc), .val (.int ee), .val (.int rv), .val (.int c1), .val (.int a1), .val (.int c2), .unset]) rfl ?_
  show Steps p.tables e below (T7.setTop (mkF m 874 #[.val (.int p0), .val (.int p1), .val (.long q2), .second, .val (.int p3), .val (.int ng), .val (.int g), .val (.int w), .val (.int lm), .val (.int l6), .val (.int hd), .val (.int f), .val (.int s_), .val (.int ex), .val (.int xp), .val (.int cm), .val (.int n), .val (.int to), .val (.int en), .val (.ref b1), .val (.ref b5), .val (.int fC), .val (.int an), .val (.int ac), .val (.int cc), .val (.int ee), .val (.int rv), .val (.int c1), .val (.int a1), .val (.int c2), .unset] [])) _
  refine XS.iload X7.here hx rfl (hb hby at_874) rfl ?_
  show Steps p.tables e below (T7.setTop (mkF m 876 #[.val (.int p0), .val (.int p1), .val (.long q2), .second, .val (.int p3), .val (.int ng), .val (.int g), .val (.int w), .val (.int lm), .val (.int l6), .val (.int hd), .val (.int f), .val (.int s_), .val (.int ex), .val (.int xp), .val (.int cm), .val (.int n), .val (.int to), .val (.int en), .val (.ref b1), .val (.ref b5), .val (.int fC), .val (.int an), .val (.int ac), .val (.int cc), .val (.int ee), .val (.int rv), .val (.int c1), .val (.int a1), .val (.int c2), .unset] [(.int g)])) _
  refine XS.iload X7.here hx rfl (hb hby at_876) rfl ?_
  show Steps p.tables e below (T7.setTop (mkF m 878 #[.val (.int p0), .val (.int p1), .val (.long q2), .second, .val (.int p3), .val (.int ng), .val (.int g), .val (.int w), .val (.int lm), .val (.int l6), .val (.int hd), .val (.int f), .val (.int s_), .val (.int ex), .val (.int xp), .val (.int cm), .val (.int n), .val (.int to), .val (.int en), .val (.ref b1), .val (.ref b5), .val (.int fC), .val (.int an), .val (.int ac), .val (.int cc), .val (.int ee), .val (.int rv), .val (.int c1), .val (.int a1), .val (.int c2), .unset] [(.int w), (.int g)])) _
  refine XS.iadd X7.here hx rfl (hb hby at_878) rfl ?_
  show Steps p.tables e below (T7.setTop (mkF m 879 #[.val (.int p0), .val (.int p1), .val (.long q2), .second, .val (.int p3), .val (.int ng), .val (.int g), .val (.int w), .val (.int lm), .val (.int l6), .val (.int hd), .val (.int f), .val (.int s_), .val (.int ex), .val (.int xp), .val (.int cm), .val (.int n), .val (.int to), .val (.int en), .val (.ref b1), .val (.ref b5), .val (.int fC), .val (.int an), .val (.int ac), .val (.int cc), .val (.int ee), .val (.int rv), .val (.int c1), .val (.int a1), .val (.int c2), .unset] [(.int (g + w))])) _
  refine XS.iconst X7.here hx rfl (hb hby at_879) ?_
  show Steps p.tables e below (T7.setTop (mkF m 880 #[.val (.int p0), .val (.int p1), .val (.long q2), .second, .val (.int p3), .val (.int ng), .val (.int g), .val (.int w), .val (.int lm), .val (.int l6), .val (.int hd), .val (.int f), .val (.int s_), .val (.int ex), .val (.int xp), .val (.int cm), .val (.int n), .val (.int to), .val (.int en), .val (.ref b1), .val (.ref b5), .val (.int fC), .val (.int an), .val (.int ac), .val (.int cc), .val (.int ee), .val (.int rv), .val (.int c1), .val (.int a1), .val (.int c2), .unset] [(.int (4 : Int32)), (.int (g + w))])) _
  refine XS.isub X7.here hx rfl (hb hby at_880) rfl ?_
  show Steps p.tables e below (T7.setTop (mkF m 881 #[.val (.int p0), .val (.int p1), .val (.long q2), .second, .val (.int p3), .val (.int ng), .val (.int g), .val (.int w), .val (.int lm), .val (.int l6), .val (.int hd), .val (.int f), .val (.int s_), .val (.int ex), .val (.int xp), .val (.int cm), .val (.int n), .val (.int to), .val (.int en), .val (.ref b1), .val (.ref b5), .val (.int fC), .val (.int an), .val (.int ac), .val (.int cc), .val (.int ee), .val (.int rv), .val (.int c1), .val (.int a1), .val (.int c2), .unset] [(.int ((g + w) - (4 : Int32)))])) _
  refine XS.istore X7.here hx rfl (hb hby at_881) rfl (l' := #[.val (.int p0), .val (.int p1), .val (.long q2), .second, .val (.int p3), .val (.int ng), .val (.int g), .val (.int w), .val (.int lm), .val (.int l6), .val (.int hd), .val (.int f), .val (.int s_), .val (.int ex), .val (.int xp), .val (.int cm), .val (.int n), .val (.int to), .val (.int en), .val (.ref b1), .val (.ref b5), .val (.int fC), .val (.int an), .val (.int ac), .val (.int cc), .val (.int ee), .val (.int rv), .val (.int c1), .val (.int a1), .val (.int c2), .val (.int ((g + w) - (4 : Int32)))]) rfl ?_
  show Steps p.tables e below (T7.setTop (mkF m 883 #[.val (.int p0), .val (.int p1), .val (.long q2), .second, .val (.int p3), .val (.int ng), .val (.int g), .val (.int w), .val (.int lm), .val (.int l6), .val (.int hd), .val (.int f), .val (.int s_), .val (.int ex), .val (.int xp), .val (.int cm), .val (.int n), .val (.int to), .val (.int en), .val (.ref b1), .val (.ref b5), .val (.int fC), .val (.int an), .val (.int ac), .val (.int cc), .val (.int ee), .val (.int rv), .val (.int c1), .val (.int a1), .val (.int c2), .val (.int ((g + w) - (4 : Int32)))] [])) _
  rw [h_a2]
  show Steps p.tables e below (T7.setTop (mkF m 883 #[.val (.int p0), .val (.int p1), .val (.long q2), .second, .val (.int p3), .val (.int ng), .val (.int g), .val (.int w), .val (.int lm), .val (.int l6), .val (.int hd), .val (.int f), .val (.int s_), .val (.int ex), .val (.int xp), .val (.int cm), .val (.int n), .val (.int to), .val (.int en), .val (.ref b1), .val (.ref b5), .val (.int fC), .val (.int an), .val (.int ac), .val (.int cc), .val (.int ee), .val (.int rv), .val (.int c1), .val (.int a1), .val (.int c2), .val (.int a2)] [])) _
  refine stL _ ?_
  show Steps p.tables e below (TL.setTop (mkF m 1266 #[.val (.int p0), .val (.int p1), .val (.long q2), .second, .val (.int p3), .val (.int ng), .val (.int g), .val (.int w), .val (.int lm), .val (.int l6), .val (.int hd), .val (.int f), .val (.int s_), .val (.int ex), .val (.int xp), .val (.int cm), .val (.int n), .val (.int to), .val (.int en), .val (.ref b1), .val (.ref b5), .val (.int fC), .val (.int an), .val (.int ac), .val (.int cc), .val (.int ee), .val (.int rv), .val (.int c1), .val (.int a1), .val (.int c2), .val (.int a2)] [(.int (1 : Int32))])) _
  exact retN XL hx (t := .boolean) Bd.returns (by simp) (hb hby at_1266) hr
set_option maxRecDepth 65536 in
set_option maxHeartbeats 40000000 in
theorem comes_1 {Post : Tables → Env → Array Value → State → Outcome → State → Prop} (hpost : ∀ tb e args s v u, (limb_1_1.after args s (.returned v) u = true ∧ limb_1_2.after args s (.returned v) u = true ∧ True) → FrameEnd s (.returned v) u (Jvm.fieldLocs frame_1_writes args s ++ Jvm.arrayLocs frame_1_arrays args s ++ Jvm.staticLocs frame_1_statics s) 16 384 → Post tb e args s (.returned v) u) :
    ArmFor flags0 classFile x code maxLocals ret World_1 tables_1 room_1 Calls_1 rest_1 Pre_1 Post := by
  intro l hfl _ _ p e ha hc hk s m args below hf hA hF happ hP
  obtain ⟨hcalls, hrest, hpre⟩ := hP
  obtain ⟨-, -, -, hnamed, -, -, -, hat⟩ := (Spec.applies_iff hf).mp happ
  obtain ⟨hg, hn⟩ := and_e (Cond.before_iff.mp (show (Jvm.Cond.and given_1 narrow_1).before args s = true from hpre))
  obtain ⟨gc, g0⟩ := and_e hg
  obtain ⟨k0, g1⟩ := and_e g0
  obtain ⟨k1, g2⟩ := and_e g1
  obtain ⟨k2, g3⟩ := and_e g2
  obtain ⟨w0, w1, w2, w3, rfl⟩ : ∃ w0 w1 w2 w3 : Value, args = #[w0, w1, w2, w3] := by
    have hs : args.size = 4 := by simpa [Cond.value, given_1] using gc
    obtain ⟨L⟩ := args
    match L, hs with
    | [w0, w1, w2, w3], _ => exact ⟨w0, w1, w2, w3, rfl⟩
  have hw := fun d (hd : d ∈ tables_1) => atoms_spec (ws := Jvm.Cond.code x code maxLocals ret :: tables_1) hat d (List.mem_cons_of_mem _ hd)
  obtain ⟨i0, ei0⟩ := is_v k0
  obtain rfl : w0 = (.int i0) := Option.some.inj ei0
  obtain ⟨i1, ei1⟩ := is_v k1
  obtain rfl : w1 = (.int i1) := Option.some.inj ei1
  obtain ⟨i2, ei2⟩ := isL_v k2
  obtain rfl : w2 = (.long i2) := Option.some.inj ei2
  obtain ⟨i3, ei3⟩ := is_v g3
  obtain rfl : w3 = (.int i3) := Option.some.inj ei3
  obtain ⟨n, o, h1, h2, h3, _, L, rfl, ⟨rfl, N⟩, hq⟩ := rm0 l s _ hw tables_1 i0 i1 i2 i3 s.heap s.heap.size (Nat.le_refl _) p e ha hc hk s m _ below hf ((Spec.applies_iff_loose hf).mp happ).1 ⟨rfl, State.Warmed39.refl s, rfl⟩ trivial
  refine ⟨n, _, h1, h2, h3, hpost _ _ _ _ _ _ ⟨Cond.after_iff.mpr rfl, Cond.after_iff.mpr (eq_i res_at (Term.int_eval (1)) rfl), trivial⟩ ⟨hq.1, hq.2.1, (hq.2.2.sift fun y hy => Or.inr (N y hy)).mono (by decide) (by decide)⟩⟩
theorem main_1_1 : Claimed_1_1 := comes_1 fun _ _ _ _ _ _ h hF => ⟨h.1, hF⟩
theorem main_1_2 : Claimed_1_2 := comes_1 fun _ _ _ _ _ _ h hF => ⟨h.2.1, hF⟩
end Jvm.Pilot.@@N@@
namespace Jvm.Pilot.@@N@@
open Jvm Jvm.ClassFile Sem Op Lib Jvm.Free Jvm.Stand Jvm.Pilot.@@N@@.Jvm.D
/-! MADE BY PROGRAM (witnessworld.py) out of the Statement's table words and the real class files: 9 classes; the members and pool entries that the words name. The judged class is class 1, her method 1. -/
namespace start1
open Jvm.ClassFile
def u (s : String) : CpInfo := .utf8 (stringToUtf16 s)
/-- a pool by its gaps: so many unusable entries, then the entry; so many at the end -/
def gap : Nat → List CpInfo → List CpInfo
  | 0, r => r
  | n + 1, r => .unusable :: gap n r
def poolList (es : List (Nat × CpInfo)) (last : Nat) : List CpInfo := es.foldr (fun e r => gap e.1 (e.2 :: r)) (gap last [])
def pool (es : List (Nat × CpInfo)) (last : Nat) : Array CpInfo := ⟨poolList es last⟩
def fileOf (pool : Array CpInfo) (this : Nat) (attrs : Array Attribute := #[]) (ms : Array MethodInfo := #[]) (fl : Nat := 33) (sup : Nat := 0) (ifs : Array Nat := #[]) (fds : Array FieldInfo := #[]) : ClassFile where
  minorVersion := 0
  majorVersion := 65
  constantPool := pool
  accessFlags := fl
  thisClass := this
  superClass := sup
  interfaces := ifs
  fields := fds
  methods := ms
  attributes := attrs
def plain (name : String) (sup : Option ClassId) : Class where
  name := name
  kind := .ordinary
  loader := none
  accessFlags := 33
  super := sup
  interfaces := #[]
  cf := none
  fields := #[]
  methods := #[]
  instanceTypes := #[]
  staticTypes := #[]
  resolved := #[]
  callSites := []
  init := .initialized
  statics := none
  mirror := none

def pool0 : Array CpInfo := pool [(5, u "<init>"), (0, u "()V"), (1, .class_ 10), (1, u "java/lang/Object")] 113

def k0m0 : Method := { name := "<init>", desc := "()V", sig := { parameters := [], returnType := none }, accessFlags := 1, code := none }
/-- java/lang/Object -/
def k0 : Class := { plain "java/lang/Object" none with
  accessFlags := 33
  interfaces := #[]
  cf := some (fileOf pool0 8 #[] #[{ accessFlags := 1, nameIndex := 5, descriptorIndex := 6, attributes := #[] }] 33 0 #[] #[])
  fields := #[]
  methods := #[k0m0]
  instanceTypes := #[]
  staticTypes := #[]
  resolved := Array.replicate 124 none
  statics := none }

def pool1 : Array CpInfo := pool [(2, .class_ 4), (1, u "java/lang/Object"), (0, u "<init>"), (0, u "()V"), (0, .methodref 8 9), (0, .class_ 10), (0, .nameAndType 11 12), (0, u "com/example/vestwright/vestwright/model/GroupedDecimalUngroupPinLaw"), (0, u "byteAt"), (0, u "(IIIIIJI)B"), (0, .methodref 8 14), (0, .nameAndType 15 16), (0, u "fracCode"), (0, u "(II)I"), (0, .class_ 18), (0, u "com/example/vestwright/vestwright/model/GroupedDecimal"), (0, .methodref 17 20), (0, .nameAndType 21 22), (0, u "ungroup"), (0, u "([BII[B)I"), (0, .methodref 8 24), (0, .nameAndType 25 26), (0, u "okAt"), (0, u "(II[B[BIZIZI)Z"), (0, .long 7), (1, .methodref 8 30), (0, .nameAndType 31 32), (0, u "wholeByte"), (0, u "(IZ)B"), (0, .methodref 8 34), (0, .nameAndType 35 36), (0, u "fracByte"), (0, u "(I)B"), (2, u "law"), (0, u "(IIJI)Z")] 5

def k1m0 : Method := { name := "<init>", desc := "()V", sig := { parameters := [], returnType := none }, accessFlags := 2, code := none }
def k1c1 : Code := { maxStack := 10, maxLocals := 31, code := code, exceptionTable := #[], attributes := #[] }
def k1m1 : Method := { name := "law", desc := "(IIJI)Z", sig := { parameters := [.int, .int, .long, .int], returnType := some .boolean }, accessFlags := 9, code := some k1c1 }
def k1c2 : Code := { maxStack := 4, maxLocals := 10, code := method_3_code, exceptionTable := #[], attributes := #[] }
def k1m2 : Method := { name := "okAt", desc := "(II[B[BIZIZI)Z", sig := { parameters := [.int, .int, (.array .byte), (.array .byte), .int, .boolean, .int, .boolean, .int], returnType := some .boolean }, accessFlags := 10, code := some k1c2 }
def k1c3 : Code := { maxStack := 3, maxLocals := 2, code := method_4_code, exceptionTable := #[], attributes := #[] }
def k1m3 : Method := { name := "fracCode", desc := "(II)I", sig := { parameters := [.int, .int], returnType := some .int }, accessFlags := 10, code := some k1c3 }
def k1c4 : Code := { maxStack := 4, maxLocals := 9, code := method_5_code, exceptionTable := #[], attributes := #[] }
def k1m4 : Method := { name := "byteAt", desc := "(IIIIIJI)B", sig := { parameters := [.int, .int, .int, .int, .int, .long, .int], returnType := some .byte }, accessFlags := 10, code := some k1c4 }
def k1c5 : Code := { maxStack := 2, maxLocals := 2, code := method_6_code, exceptionTable := #[], attributes := #[] }
def k1m5 : Method := { name := "wholeByte", desc := "(IZ)B", sig := { parameters := [.int, .boolean], returnType := some .byte }, accessFlags := 10, code := some k1c5 }
def k1c6 : Code := { maxStack := 2, maxLocals := 1, code := method_7_code, exceptionTable := #[], attributes := #[] }
def k1m6 : Method := { name := "fracByte", desc := "(I)B", sig := { parameters := [.int], returnType := some .byte }, accessFlags := 10, code := some k1c6 }
/-- com/example/vestwright/vestwright/model/GroupedDecimalUngroupPinLaw -/
def k1 : Class := { plain "com/example/vestwright/vestwright/model/GroupedDecimalUngroupPinLaw" (some 0) with
  accessFlags := 49
  interfaces := #[]
  cf := some (fileOf pool1 8 #[] #[{ accessFlags := 2, nameIndex := 5, descriptorIndex := 6, attributes := #[] }, { accessFlags := 9, nameIndex := 39, descriptorIndex := 40, attributes := #[] }, { accessFlags := 10, nameIndex := 25, descriptorIndex := 26, attributes := #[] }, { accessFlags := 10, nameIndex := 15, descriptorIndex := 16, attributes := #[] }, { accessFlags := 10, nameIndex := 11, descriptorIndex := 12, attributes := #[] }, { accessFlags := 10, nameIndex := 31, descriptorIndex := 32, attributes := #[] }, { accessFlags := 10, nameIndex := 35, descriptorIndex := 36, attributes := #[] }] 49 2 #[] #[])
  fields := #[]
  methods := #[k1m0, k1m1, k1m2, k1m3, k1m4, k1m5, k1m6]
  instanceTypes := #[]
  staticTypes := #[]
  resolved := Array.replicate 46 none
  statics := none }

def pool2 : Array CpInfo := pool [(2, .class_ 4), (1, u "java/lang/Object"), (0, u "<init>"), (0, u "()V"), (2, .class_ 10), (0, u "com/example/vestwright/vestwright/model/GroupedDecimal"), (0, u "NOT_GROUPED"), (0, u "I"), (2, u "GROUP"), (3, u "ungroup"), (0, u "([BII[B)I")] 5

def k2m0 : Method := { name := "<init>", desc := "()V", sig := { parameters := [], returnType := none }, accessFlags := 2, code := none }
def k2c1 : Code := { maxStack := 4, maxLocals := 10, code := prog_74_method_2_code, exceptionTable := #[], attributes := #[] }
def k2m1 : Method := { name := "ungroup", desc := "([BII[B)I", sig := { parameters := [(.array .byte), .int, .int, (.array .byte)], returnType := some .int }, accessFlags := 8, code := some k2c1 }
/-- com/example/vestwright/vestwright/model/GroupedDecimal -/
def k2 : Class := { plain "com/example/vestwright/vestwright/model/GroupedDecimal" (some 0) with
  accessFlags := 48
  interfaces := #[]
  cf := some (fileOf pool2 9 #[] #[{ accessFlags := 2, nameIndex := 5, descriptorIndex := 6, attributes := #[] }, { accessFlags := 8, nameIndex := 19, descriptorIndex := 20, attributes := #[] }] 48 2 #[] #[{ accessFlags := 24, nameIndex := 11, descriptorIndex := 12, attributes := #[] }, { accessFlags := 26, nameIndex := 15, descriptorIndex := 12, attributes := #[] }])
  fields := #[{ name := "NOT_GROUPED", type := .int, accessFlags := 24, slot := 0, constantValue := 0 }, { name := "GROUP", type := .int, accessFlags := 26, slot := 1, constantValue := 0 }]
  methods := #[k2m0, k2m1]
  instanceTypes := #[]
  staticTypes := #[.int, .int]
  resolved := Array.replicate 26 none
  statics := none }

def pool3 : Array CpInfo := pool [(1, u "java/lang/Cloneable"), (0, .class_ 1), (0, u "java/lang/Object"), (0, .class_ 3)] 3

/-- java/lang/Cloneable -/
def k3 : Class := { plain "java/lang/Cloneable" (some 0) with
  accessFlags := 1537
  interfaces := #[]
  cf := some (fileOf pool3 2 #[] #[] 1537 4 #[] #[])
  fields := #[]
  methods := #[]
  instanceTypes := #[]
  staticTypes := #[]
  resolved := Array.replicate 8 none
  statics := none }

def pool4 : Array CpInfo := pool [(1, u "java/io/Serializable"), (0, .class_ 1), (0, u "java/lang/Object"), (0, .class_ 3)] 3

/-- java/io/Serializable -/
def k4 : Class := { plain "java/io/Serializable" (some 0) with
  accessFlags := 1537
  interfaces := #[]
  cf := some (fileOf pool4 2 #[] #[] 1537 4 #[] #[])
  fields := #[]
  methods := #[]
  instanceTypes := #[]
  staticTypes := #[]
  resolved := Array.replicate 8 none
  statics := none }

/-- the primitive byte -/
def k5 : Class := { plain "byte" none with kind := .primitive 'B', accessFlags := 0x411 }
/-- [B -/
def k6 : Class := { plain "[B" (some 0) with kind := .array 5 .byte, interfaces := #[3, 4], accessFlags := 1041 }

/-- the primitive int -/
def k7 : Class := { plain "int" none with kind := .primitive 'I', accessFlags := 0x411 }
/-- [I -/
def k8 : Class := { plain "[I" (some 0) with kind := .array 7 .int, interfaces := #[3, 4], accessFlags := 1041 }

def heap : Heap := #[]
def classes : Array Class := #[k0, k1, k2, k3, k4, k5, k6, k7, k8]
def interned : List (Array UInt16 × Addr) := []
def slotsUsed : Nat := 0
def theMethod : MethodId := ⟨1, 1⟩
def args0 : Array Value := #[.int 5, .int 3, .long 7, .int 1]
def aboutOver (below : List Frame) : State where
  vm := { classes := classes, interned := interned.toArray }
  heap := heap
  slotsUsed := slotsUsed
  threads := #[{ frames := .invoking theMethod args0 :: below }]
def below0 : List Frame := [.native { method := ⟨0, 0⟩, args := #[] }]
def about1 : State := aboutOver below0
def p0 : Program := .bare "" "" ""
def e0 : Env := launch0.env 0 0 0
theorem w_frames : about1.frames = Frame.invoking theMethod args0 :: below0 := rfl
set_option maxRecDepth 65536 in
theorem w_args : argsFit about1.vm theMethod args0 = true := by decide +kernel
set_option maxRecDepth 65536 in
theorem w_heap : heapFits about1 = true := by decide +kernel
set_option maxRecDepth 65536 in
theorem w_runnable : about1.curStatus? = some .runnable := by decide +kernel
set_option maxRecDepth 65536 in
theorem w_alone : about1.alone = true := by decide +kernel
set_option maxRecDepth 65536 in
theorem w_named : about1.methodNamed? x = some theMethod := by decide +kernel
set_option maxRecDepth 65536 in
theorem w_hears : about1.hears theMethod below0 = true := by decide +kernel
set_option maxRecDepth 65536 in
theorem w_ripe : about1.ripe theMethod args0 below0 = true := by decide +kernel
theorem w_running : about1.status = .running := rfl
set_option maxRecDepth 65536 in
theorem w_room : about1.hasRoom e0.platform room_1 = true :=
  launch0.hasRoom_least _ room_1 (by decide +kernel) (by decide +kernel) (by decide +kernel) (by decide +kernel) (by decide +kernel) (by decide +kernel)
theorem allAtoms_all (ts : List Jvm.Cond) (a : Array Jvm.Value) (st : Jvm.State) : (allAtoms ts).before a st = ts.all (fun c => c.before a st) := by
  induction ts with
  | nil => rfl
  | cons c t ih =>
    show (Jvm.Cond.and c (allAtoms t)).before a st = _
    rw [Jvm.Cond.before_and, ih, List.all_cons]
def words1 : List Jvm.Cond := Jvm.Cond.code x code maxLocals ret :: tables_1
/-- a 'code' word, met by the world's own term for the bytes: nothing is compared byte by byte -/
theorem code_word {y : MethodName} {bytes : ByteArray} {mx : Nat} {rt : Option FieldType} {a : Array Value} {s : State} {m : MethodId} {meth : Method} {c : Code} (h1 : s.methodNamed? y = some m) (h2 : s.vm.method? m = some meth) (h3 : meth.code = some c) (h4 : c.code = bytes)
    (h5 : (c.maxLocals == mx && c.exceptionTable.isEmpty && decide (c.maxStack ≤ mostOperands) && decide (meth.sig.returnType = rt) && !meth.locks && decide (parseMethodDescriptor y.desc = some meth.sig)) = true) : (Jvm.Cond.code y bytes mx rt).before a s = true := by
  simp only [Bool.and_eq_true, beq_iff_eq, Bool.not_eq_true', decide_eq_true_eq] at h5
  obtain ⟨⟨⟨⟨⟨g1, g2⟩, g3⟩, g4⟩, g5⟩, g6⟩ := h5
  simp [Cond.before, Cond.holds, Cond.value, h1, h2, h3, h4, g1, g2, g3, g4, g5, g6]
def isCode : Jvm.Cond → Bool
  | .code _ _ _ _ => true
  | _ => false
theorem all_split {L : List Jvm.Cond} {P : Jvm.Cond → Bool} (h1 : L.all (fun c => isCode c || P c) = true) (h2 : ∀ c ∈ L.filter isCode, P c = true) : L.all P = true := by
  refine List.all_eq_true.mpr fun c hc => ?_
  have h := List.all_eq_true.mp h1 c hc
  rcases Bool.eq_false_or_eq_true (isCode c) with hi | hi
  · exact h2 c (List.mem_filter.mpr ⟨hc, hi⟩)
  · simpa [hi] using h
set_option maxRecDepth 65536 in
theorem w_c0 : (Jvm.Cond.code x code maxLocals ret).before args0 about1 = true := code_word (m := ⟨1, 1⟩) (meth := k1m1) (c := k1c1) (by decide +kernel) rfl rfl rfl (by decide +kernel)
set_option maxRecDepth 65536 in
theorem w_c1 : (Jvm.Cond.code ({ cls := "com/example/vestwright/vestwright/model/GroupedDecimalUngroupPinLaw", name := "byteAt", desc := "(IIIIIJI)B" } : Jvm.MethodName) method_5_code (9 : Nat) (Option.some Jvm.ClassFile.FieldType.byte)).before args0 about1 = true := code_word (m := ⟨1, 4⟩) (meth := k1m4) (c := k1c4) (by decide +kernel) rfl rfl rfl (by decide +kernel)
set_option maxRecDepth 65536 in
theorem w_c2 : (Jvm.Cond.code ({ cls := "com/example/vestwright/vestwright/model/GroupedDecimal", name := "ungroup", desc := "([BII[B)I" } : Jvm.MethodName) prog_74_method_2_code (10 : Nat) (Option.some Jvm.ClassFile.FieldType.int)).before args0 about1 = true := code_word (m := ⟨2, 1⟩) (meth := k2m1) (c := k2c1) (by decide +kernel) rfl rfl rfl (by decide +kernel)
set_option maxRecDepth 65536 in
theorem w_c3 : (Jvm.Cond.code ({ cls := "com/example/vestwright/vestwright/model/GroupedDecimalUngroupPinLaw", name := "okAt", desc := "(II[B[BIZIZI)Z" } : Jvm.MethodName) method_3_code (10 : Nat) (Option.some Jvm.ClassFile.FieldType.boolean)).before args0 about1 = true := code_word (m := ⟨1, 2⟩) (meth := k1m2) (c := k1c2) (by decide +kernel) rfl rfl rfl (by decide +kernel)
set_option maxRecDepth 65536 in
theorem w_c4 : (Jvm.Cond.code ({ cls := "com/example/vestwright/vestwright/model/GroupedDecimalUngroupPinLaw", name := "wholeByte", desc := "(IZ)B" } : Jvm.MethodName) method_6_code (2 : Nat) (Option.some Jvm.ClassFile.FieldType.byte)).before args0 about1 = true := code_word (m := ⟨1, 5⟩) (meth := k1m5) (c := k1c5) (by decide +kernel) rfl rfl rfl (by decide +kernel)
set_option maxRecDepth 65536 in
theorem w_c5 : (Jvm.Cond.code ({ cls := "com/example/vestwright/vestwright/model/GroupedDecimalUngroupPinLaw", name := "fracCode", desc := "(II)I" } : Jvm.MethodName) method_4_code (2 : Nat) (Option.some Jvm.ClassFile.FieldType.int)).before args0 about1 = true := code_word (m := ⟨1, 3⟩) (meth := k1m3) (c := k1c3) (by decide +kernel) rfl rfl rfl (by decide +kernel)
set_option maxRecDepth 65536 in
theorem w_c6 : (Jvm.Cond.code ({ cls := "com/example/vestwright/vestwright/model/GroupedDecimalUngroupPinLaw", name := "fracByte", desc := "(I)B" } : Jvm.MethodName) method_7_code (1 : Nat) (Option.some Jvm.ClassFile.FieldType.byte)).before args0 about1 = true := code_word (m := ⟨1, 6⟩) (meth := k1m6) (c := k1c6) (by decide +kernel) rfl rfl rfl (by decide +kernel)
def codes1 : List Jvm.Cond := [Jvm.Cond.code x code maxLocals ret, Jvm.Cond.code ({ cls := "com/example/vestwright/vestwright/model/GroupedDecimalUngroupPinLaw", name := "byteAt", desc := "(IIIIIJI)B" } : Jvm.MethodName) method_5_code (9 : Nat) (Option.some Jvm.ClassFile.FieldType.byte), Jvm.Cond.code ({ cls := "com/example/vestwright/vestwright/model/GroupedDecimal", name := "ungroup", desc := "([BII[B)I" } : Jvm.MethodName) prog_74_method_2_code (10 : Nat) (Option.some Jvm.ClassFile.FieldType.int), Jvm.Cond.code ({ cls := "com/example/vestwright/vestwright/model/GroupedDecimalUngroupPinLaw", name := "okAt", desc := "(II[B[BIZIZI)Z" } : Jvm.MethodName) method_3_code (10 : Nat) (Option.some Jvm.ClassFile.FieldType.boolean), Jvm.Cond.code ({ cls := "com/example/vestwright/vestwright/model/GroupedDecimalUngroupPinLaw", name := "wholeByte", desc := "(IZ)B" } : Jvm.MethodName) method_6_code (2 : Nat) (Option.some Jvm.ClassFile.FieldType.byte), Jvm.Cond.code ({ cls := "com/example/vestwright/vestwright/model/GroupedDecimalUngroupPinLaw", name := "fracCode", desc := "(II)I" } : Jvm.MethodName) method_4_code (2 : Nat) (Option.some Jvm.ClassFile.FieldType.int), Jvm.Cond.code ({ cls := "com/example/vestwright/vestwright/model/GroupedDecimalUngroupPinLaw", name := "fracByte", desc := "(I)B" } : Jvm.MethodName) method_7_code (1 : Nat) (Option.some Jvm.ClassFile.FieldType.byte)]
set_option maxRecDepth 65536 in
theorem codes_eq : words1.filter isCode = codes1 := rfl
theorem w_codes : ∀ c ∈ words1.filter isCode, c.before args0 about1 = true := by
  rw [codes_eq]
  intro c hc
  simp only [codes1, List.mem_cons, List.not_mem_nil, or_false] at hc
  rcases hc with rfl | rfl | rfl | rfl | rfl | rfl | rfl
  · exact w_c0
  · exact w_c1
  · exact w_c2
  · exact w_c3
  · exact w_c4
  · exact w_c5
  · exact w_c6
set_option maxRecDepth 65536 in
theorem w_t1 : words1.all (fun c => isCode c || c.before args0 about1) = true := by decide +kernel
theorem w_tables : (allAtoms (Jvm.Cond.code x code maxLocals ret :: tables_1)).before args0 about1 = true := by
  rw [allAtoms_all]
  show words1.all (fun c => c.before args0 about1) = true
  refine all_split ?_ w_codes
  rw [w_t1]
set_option maxRecDepth 65536 in
theorem w_case : (Jvm.Cond.and given_1 narrow_1).before args0 about1 = true := by decide +kernel
theorem w_applies : (headSpec (Jvm.Cond.code x code maxLocals ret :: tables_1) room_1).applies x e0.platform about1 = true :=
  (Spec.applies_iff w_frames).mpr ⟨w_running, w_runnable, w_alone, w_named, w_hears, w_ripe, w_room, w_tables⟩
theorem atStart : AtStart classFile x code maxLocals ret World_1 tables_1 room_1 Calls_1 rest_1 Pre_1 launch0 p0 e0 about1 theMethod args0 below0 :=
  ⟨lists_1, trivial, launch0.admits_env _ _ _, launch0.least_env, fairChoices_fair.cas, fairChoices_fair.clock, w_frames, w_args, w_heap, w_applies, trivial, trivial, w_case⟩
end start1
theorem witness_1 : WitnessClaimed_1 := ⟨start1.p0, start1.e0, start1.about1, start1.theMethod, start1.args0, start1.below0, start1.atStart⟩
end Jvm.Pilot.@@N@@
