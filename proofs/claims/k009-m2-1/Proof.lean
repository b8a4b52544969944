import JvmDerived
import JvmDerived.Pilot.@@N@@Statement
import JvmDerived.Pilot.@@N@@Code
set_option linter.unusedVariables false
set_option linter.unusedSimpArgs false
namespace Jvm.Pilot.@@N@@
open Jvm Jvm.ClassFile Sem Op Lib Jvm.Free Jvm.Stand Jvm.LawKit Jvm.RoadKit Bundle Jvm.Pilot.@@N@@.Jvm.D
/-! OWN LAYER (the same text in every claim): arrays by a function, and their steps -/
section OwnLayer
variable {p : Program} {l : Launch} {e : Env} {R : Room} {s : State} {m : MethodId} {args : Array Value} {below : List Frame} {meth : Method} {c : Code} {T : State} {locs : List Loc} {cells slots : Nat} {Z : State} {a0 : Array Value} {h h' : Heap} {a b : Addr} {ty : FieldType} {N : Int32} {target : State}
theorem own_retI (X : Stand p l e R s m args below meth c T locs cells slots) (hx : p.tables.exec = Jvm.exec) {pc : Nat} {Ls : Array Slot} {z : Int32} {rest : List Value} (hret : meth.sig.returnType = some .int) (hd : decode c.code pc = .ok (.ireturn, 1)) {fs : List Frame}
    (hl : ∀ (f : JFrame) (acts : List Action), f.method = m → f.locked = none → f.entered = [] → (doReturn e (T.setTop f) acts (some (.int z))).1 = T.setFrames fs) : Steps p.tables e below (T.setTop (mkF m pc Ls (.int z :: rest))) (T.setFrames fs) :=
  retOut X hx hret rfl (Or.inl ⟨rfl, Or.inl rfl, z, rfl⟩) hd hl
theorem own_retJ (X : Stand p l e R s m args below meth c T locs cells slots) (hx : p.tables.exec = Jvm.exec) {pc : Nat} {Ls : Array Slot} {z : Int64} {rest : List Value} (hret : meth.sig.returnType = some .long) (hd : decode c.code pc = .ok (.lreturn, 1)) {fs : List Frame}
    (hl : ∀ (f : JFrame) (acts : List Action), f.method = m → f.locked = none → f.entered = [] → (doReturn e (T.setTop f) acts (some (.long z))).1 = T.setFrames fs) : Steps p.tables e below (T.setTop (mkF m pc Ls (.long z :: rest))) (T.setFrames fs) :=
  retOut X hx hret rfl (Or.inr (Or.inl ⟨rfl, rfl, z, rfl⟩)) hd hl
/-- f with v at the place i -/
def own_up {α : Type} (f : Nat → α) (i : Nat) (v : α) : Nat → α := fun j => if j = i then v else f j
theorem own_up_at {α : Type} (f : Nat → α) (i : Nat) (v : α) : own_up f i v i = v := if_pos rfl
theorem own_up_ne {α : Type} (f : Nat → α) {i j : Nat} (v : α) (q : j ≠ i) : own_up f i v j = f j := if_neg q
/-- an array of N places whose place j holds the int f j -/
def own_AI (Z : State) (h : Heap) (a : Addr) (ty : FieldType) (N : Int32) (f : Nat → Int32) : Prop := ∃ c : Cell, Arr Z h a c ty ∧ c.slots.size = N.toNatClampNeg ∧ ¬ N < 0 ∧ ∀ j, j < N.toNatClampNeg → c.slots[j]? = some (.int (f j))
/-- an array of N places whose place j holds the long f j -/
def own_AJ (Z : State) (h : Heap) (a : Addr) (N : Int32) (f : Nat → Int64) : Prop := ∃ c : Cell, Arr Z h a c .long ∧ c.slots.size = N.toNatClampNeg ∧ ¬ N < 0 ∧ ∀ j, j < N.toNatClampNeg → c.slots[j]? = some (.long (f j))
variable {f : Nat → Int32} {fJ : Nat → Int64}
theorem own_AI.lt (A : own_AI Z h a ty N f) : a < h.size := by obtain ⟨c, A, -⟩ := A; exact A.lt
theorem own_AJ.lt (A : own_AJ Z h a N fJ) : a < h.size := by obtain ⟨c, A, -⟩ := A; exact A.lt
theorem own_AI.ext (A : own_AI Z h a ty N f) (E : Ext h h') : own_AI Z h' a ty N f := by obtain ⟨c, A, r⟩ := A; exact ⟨c, A.ext E, r⟩
theorem own_AJ.ext (A : own_AJ Z h a N fJ) (E : Ext h h') : own_AJ Z h' a N fJ := by obtain ⟨c, A, r⟩ := A; exact ⟨c, A.ext E, r⟩
theorem own_AI.other {sl : Nat} {v : Value} (A : own_AI Z h a ty N f) (W : Wr h h' b sl v) (q : a ≠ b) : own_AI Z h' a ty N f := by obtain ⟨c, A, r⟩ := A; exact ⟨c, A.other W q, r⟩
theorem own_AJ.other {sl : Nat} {v : Value} (A : own_AJ Z h a N fJ) (W : Wr h h' b sl v) (q : a ≠ b) : own_AJ Z h' a N fJ := by obtain ⟨c, A, r⟩ := A; exact ⟨c, A.other W q, r⟩
theorem own_AI.keep {ws : List Addr} (A : own_AI Z h a ty N f) (K : Keep h h' ws) (q : a ∉ ws) : own_AI Z h' a ty N f := by obtain ⟨c, A, r⟩ := A; exact ⟨c, ⟨K.2.1 a c A.1 q, A.2⟩, r⟩
theorem own_AJ.keep {ws : List Addr} (A : own_AJ Z h a N fJ) (K : Keep h h' ws) (q : a ∉ ws) : own_AJ Z h' a N fJ := by obtain ⟨c, A, r⟩ := A; exact ⟨c, ⟨K.2.1 a c A.1 q, A.2⟩, r⟩
theorem own_slots (c : Cell) (i j : Nat) (v : Value) (hj : j < c.slots.size) : (c.setSlot i v).slots[j]? = if j = i then some v else c.slots[j]? := by
  show (c.slots.setIfInBounds i v)[j]? = _
  rw [Array.getElem?_setIfInBounds]
  by_cases q : i = j
  · subst q; simp [hj]
  · simp [q, Ne.symm q]
theorem own_AI.set {i : Nat} {v : Int32} (A : own_AI Z h a ty N f) (W : Wr h h' a i (.int v)) : own_AI Z h' a ty N (own_up f i v) := by
  obtain ⟨c, A, S, M, H⟩ := A
  refine ⟨_, A.same W, by rw [sz_set, S], M, fun j hj => ?_⟩
  rw [own_slots c i j _ (by rw [S]; exact hj)]
  by_cases q : j = i
  · rw [if_pos q, q, own_up_at]
  · rw [if_neg q, own_up_ne _ _ q, H j hj]
theorem own_AJ.set {i : Nat} {v : Int64} (A : own_AJ Z h a N fJ) (W : Wr h h' a i (.long v)) : own_AJ Z h' a N (own_up fJ i v) := by
  obtain ⟨c, A, S, M, H⟩ := A
  refine ⟨_, A.same W, by rw [sz_set, S], M, fun j hj => ?_⟩
  rw [own_slots c i j _ (by rw [S]; exact hj)]
  by_cases q : j = i
  · rw [if_pos q, q, own_up_at]
  · rw [if_neg q, own_up_ne _ _ q, H j hj]
theorem own_AI.fresh {k : ClassId} (A : Arr Z h a (newA k ty N) ty) (hd : defaultValue ty = .int 0) (M : ¬ N < 0) : own_AI Z h a ty N (fun _ => 0) := by
  refine ⟨_, A, sz_new _ _ _, M, fun j hj => ?_⟩
  show (Array.replicate N.toNatClampNeg (defaultValue ty))[j]? = _
  rw [Array.getElem?_replicate, if_pos hj, hd]
theorem own_AJ.fresh {k : ClassId} (A : Arr Z h a (newA k .long N) .long) (M : ¬ N < 0) : own_AJ Z h a N (fun _ => 0) := by
  refine ⟨_, A, sz_new _ _ _, M, fun j hj => ?_⟩
  show (Array.replicate N.toNatClampNeg (defaultValue .long))[j]? = _
  rw [Array.getElem?_replicate, if_pos hj]; rfl
theorem own_AI.congr {f' : Nat → Int32} (A : own_AI Z h a ty N f) (q : ∀ j, j < N.toNatClampNeg → f j = f' j) : own_AI Z h a ty N f' := by
  obtain ⟨c, A, S, M, H⟩ := A
  exact ⟨c, A, S, M, fun j hj => by rw [H j hj, q j hj]⟩
theorem own_AJ.congr {f' : Nat → Int64} (A : own_AJ Z h a N fJ) (q : ∀ j, j < N.toNatClampNeg → fJ j = f' j) : own_AJ Z h a N f' := by
  obtain ⟨c, A, S, M, H⟩ := A
  exact ⟨c, A, S, M, fun j hj => by rw [H j hj, q j hj]⟩
theorem own_lt_nat {j : Int32} (q : ¬ j < 0 ∧ j < N) : j.toNatClampNeg < N.toNatClampNeg := by
  have h1 := nat_of q.1
  have h2 : ¬ N < 0 := by
    intro u; have := q.1; have := q.2
    rw [Int32.lt_iff_toInt_lt] at *; omega
  have h3 := nat_of h2
  have := q.2
  rw [Int32.lt_iff_toInt_lt] at this
  omega
/-- a place in the array, by its number -/
theorem own_ix {j : Int32} (h0 : 0 ≤ j.toInt) (h1 : j.toInt < N.toInt) : ¬ j < 0 ∧ j < N := by
  rw [Int32.lt_iff_toInt_lt, Int32.lt_iff_toInt_lt]
  exact ⟨by show ¬ j.toInt < 0; omega, h1⟩
theorem own_len (X : Stand p l e R s m args below meth c T locs cells slots) (hx : p.tables.exec = Jvm.exec) (hZ : Z.Warmed39 s.vm) (eT : T.heap = h) (A : own_AI Z h a ty N f) {g : JFrame} (hg : g.method = m) {rest : List Value} (hs : g.stack = .ref a :: rest) (hd : decode c.code g.pc = .ok (.arraylength, 1))
    (hr : Steps p.tables e below (T.setTop { g with pc := g.pc + 1, stack := .int N :: rest }) target) : Steps p.tables e below (T.setTop g) target := by
  obtain ⟨cl, A, S, M, -⟩ := A
  refine X.arraylength hx (cell := cl) (by rw [eT]; exact A.1) (State.isArrayOf_alike hZ.alike A.2.1) hg hs hd _ ?_
  rw [len_of S M]; exact hr
theorem own_lenJ (X : Stand p l e R s m args below meth c T locs cells slots) (hx : p.tables.exec = Jvm.exec) (hZ : Z.Warmed39 s.vm) (eT : T.heap = h) (A : own_AJ Z h a N fJ) {g : JFrame} (hg : g.method = m) {rest : List Value} (hs : g.stack = .ref a :: rest) (hd : decode c.code g.pc = .ok (.arraylength, 1))
    (hr : Steps p.tables e below (T.setTop { g with pc := g.pc + 1, stack := .int N :: rest }) target) : Steps p.tables e below (T.setTop g) target := by
  obtain ⟨cl, A, S, M, -⟩ := A
  refine X.arraylength hx (cell := cl) (by rw [eT]; exact A.1) (State.isArrayOf_alike hZ.alike A.2.1) hg hs hd _ ?_
  rw [len_of S M]; exact hr
theorem own_ldI (X : Stand p l e R s m args below meth c T locs cells slots) (hx : p.tables.exec = Jvm.exec) (hZ : Z.Warmed39 s.vm) (eT : T.heap = h) (A : own_AI Z h a .int N f) {j : Int32} (q : ¬ j < 0 ∧ j < N) {g : JFrame} (hg : g.method = m) {rest : List Value} (hs : g.stack = .int j :: .ref a :: rest) (hd : decode c.code g.pc = .ok (.iaload, 1))
    (hr : Steps p.tables e below (T.setTop { g with pc := g.pc + 1, stack := .int (f j.toNatClampNeg) :: rest }) target) : Steps p.tables e below (T.setTop g) target := by
  obtain ⟨cl, A, S, M, H⟩ := A
  exact X.iaload hx (j := j) (by rw [eT]; exact A.1) (State.isArrayOf_alike hZ.alike A.2.1) A.2.2 (inb_of S q) (H _ (own_lt_nat q)) hg hs hd _ hr
theorem own_ldB (X : Stand p l e R s m args below meth c T locs cells slots) (hx : p.tables.exec = Jvm.exec) (hZ : Z.Warmed39 s.vm) (eT : T.heap = h) (A : own_AI Z h a .byte N f) {j : Int32} (q : ¬ j < 0 ∧ j < N) {g : JFrame} (hg : g.method = m) {rest : List Value} (hs : g.stack = .int j :: .ref a :: rest) (hd : decode c.code g.pc = .ok (.baload, 1))
    (hr : Steps p.tables e below (T.setTop { g with pc := g.pc + 1, stack := .int (f j.toNatClampNeg) :: rest }) target) : Steps p.tables e below (T.setTop g) target := by
  obtain ⟨cl, A, S, M, H⟩ := A
  exact X.baloadBytes hx (j := j) (by rw [eT]; exact A.1) (State.isArrayOf_alike hZ.alike A.2.1) A.2.2 (inb_of S q) (H _ (own_lt_nat q)) hg hs hd _ hr
theorem own_ldJ (X : Stand p l e R s m args below meth c T locs cells slots) (hx : p.tables.exec = Jvm.exec) (hZ : Z.Warmed39 s.vm) (eT : T.heap = h) (A : own_AJ Z h a N fJ) {j : Int32} (q : ¬ j < 0 ∧ j < N) {g : JFrame} (hg : g.method = m) {rest : List Value} (hs : g.stack = .int j :: .ref a :: rest) (hd : decode c.code g.pc = .ok (.laload, 1))
    (hr : Steps p.tables e below (T.setTop { g with pc := g.pc + 1, stack := .long (fJ j.toNatClampNeg) :: rest }) target) : Steps p.tables e below (T.setTop g) target := by
  obtain ⟨cl, A, S, M, H⟩ := A
  exact X.laload hx (j := j) (by rw [eT]; exact A.1) (State.isArrayOf_alike hZ.alike A.2.1) A.2.2 (inb_of S q) (H _ (own_lt_nat q)) hg hs hd _ hr
theorem own_stI (X : Stand p l e R s m args below meth c T locs cells slots) (hx : p.tables.exec = Jvm.exec) (hZ : Z.Warmed39 s.vm) (eT : T.heap = h) (A : own_AI Z h a .int N f) {j x : Int32} (q : ¬ j < 0 ∧ j < N) {g : JFrame} (hg : g.method = m) {rest : List Value} (hs : g.stack = .int x :: .int j :: .ref a :: rest) (hd : decode c.code g.pc = .ok (.iastore, 1)) :
    ∃ T' h', Stand p l e R s m args below meth c T' (locs ++ [⟨a, j.toNatClampNeg⟩]) cells slots ∧ T'.heap = h' ∧ Wr h h' a j.toNatClampNeg (.int x) ∧ own_AI Z h' a .int N (own_up f j.toNatClampNeg x) ∧ ∀ target, Steps p.tables e below (T'.setTop { g with pc := g.pc + 1, stack := rest }) target → Steps p.tables e below (T.setTop g) target := by
  have A' := A
  obtain ⟨cl, A, S, M, H⟩ := A
  obtain ⟨T', h', X', e', W', st⟩ := stI X hx hZ eT A (j := j) (inb_of S q) hg hs hd
  exact ⟨T', h', X', e', W', A'.set W', st⟩
theorem own_stB (X : Stand p l e R s m args below meth c T locs cells slots) (hx : p.tables.exec = Jvm.exec) (hZ : Z.Warmed39 s.vm) (eT : T.heap = h) (A : own_AI Z h a .byte N f) {j x : Int32} (q : ¬ j < 0 ∧ j < N) {g : JFrame} (hg : g.method = m) {rest : List Value} (hs : g.stack = .int x :: .int j :: .ref a :: rest) (hd : decode c.code g.pc = .ok (.bastore, 1)) :
    ∃ T' h', Stand p l e R s m args below meth c T' (locs ++ [⟨a, j.toNatClampNeg⟩]) cells slots ∧ T'.heap = h' ∧ Wr h h' a j.toNatClampNeg (.int x.toInt8.toInt32) ∧ own_AI Z h' a .byte N (own_up f j.toNatClampNeg x.toInt8.toInt32) ∧ ∀ target, Steps p.tables e below (T'.setTop { g with pc := g.pc + 1, stack := rest }) target → Steps p.tables e below (T.setTop g) target := by
  have A' := A
  obtain ⟨cl, A, S, M, H⟩ := A
  obtain ⟨T', h', X', e', W', st⟩ := stB X hx hZ eT A (j := j) (inb_of S q) hg hs hd
  exact ⟨T', h', X', e', W', A'.set W', st⟩
theorem own_stJ (X : Stand p l e R s m args below meth c T locs cells slots) (hx : p.tables.exec = Jvm.exec) (hZ : Z.Warmed39 s.vm) (eT : T.heap = h) (A : own_AJ Z h a N fJ) {j : Int32} {x : Int64} (q : ¬ j < 0 ∧ j < N) {g : JFrame} (hg : g.method = m) {rest : List Value} (hs : g.stack = .long x :: .int j :: .ref a :: rest) (hd : decode c.code g.pc = .ok (.lastore, 1)) :
    ∃ T' h', Stand p l e R s m args below meth c T' (locs ++ [⟨a, j.toNatClampNeg⟩]) cells slots ∧ T'.heap = h' ∧ Wr h h' a j.toNatClampNeg (.long x) ∧ own_AJ Z h' a N (own_up fJ j.toNatClampNeg x) ∧ ∀ target, Steps p.tables e below (T'.setTop { g with pc := g.pc + 1, stack := rest }) target → Steps p.tables e below (T.setTop g) target := by
  have A' := A
  obtain ⟨cl, A, S, M, H⟩ := A
  obtain ⟨T', h', X', e', W', st⟩ := stJ X hx hZ eT A (j := j) (inb_of S q) hg hs hd
  exact ⟨T', h', X', e', W', A'.set W', st⟩
theorem own_newI (X : Stand p l e R s m args below meth c T locs cells slots) (hx : p.tables.exec = Jvm.exec) (hZ : Z.Warmed39 s.vm) {aty : ArrayType} (w : (Cond.arrayClass (newarray.typeOf aty)).before a0 Z = true) (hdv : defaultValue (newarray.typeOf aty) = .int 0) (eT : T.heap = h) {g : JFrame} (hg : g.method = m) (hd : decode c.code g.pc = .ok (.newarray aty, 2)) {n : Int32} {rest : List Value} (hs : g.stack = .int n :: rest)
    (hn : ¬ n < 0) {cap : Nat} (hcap : n.toNatClampNeg ≤ cap) (hb : cap * 8 ≤ 536870912) (hc : cells + 1 ≤ R.cells) (hl : slots + cap ≤ R.slots) :
    ∃ T' h', Stand p l e R s m args below meth c T' locs (cells + 1) (slots + cap) ∧ T'.heap = h' ∧ Ext h h' ∧ own_AI Z h' h.size (newarray.typeOf aty) n (fun _ => 0) ∧ ∀ target, Steps p.tables e below (T'.setTop { g with pc := g.pc + 2, stack := .ref h.size :: rest }) target → Steps p.tables e below (T.setTop g) target := by
  obtain ⟨T', h', k, X', e', E', A', st⟩ := newP X hx hZ w eT hg hd hs hn hcap hb hc hl
  exact ⟨T', h', X', e', E', own_AI.fresh A' hdv hn, st⟩
theorem own_newJ (X : Stand p l e R s m args below meth c T locs cells slots) (hx : p.tables.exec = Jvm.exec) (hZ : Z.Warmed39 s.vm) (w : (Cond.arrayClass .long).before a0 Z = true) (eT : T.heap = h) {g : JFrame} (hg : g.method = m) (hd : decode c.code g.pc = .ok (.newarray .long, 2)) {n : Int32} {rest : List Value} (hs : g.stack = .int n :: rest)
    (hn : ¬ n < 0) {cap : Nat} (hcap : n.toNatClampNeg ≤ cap) (hb : cap * 8 ≤ 536870912) (hc : cells + 1 ≤ R.cells) (hl : slots + cap ≤ R.slots) :
    ∃ T' h', Stand p l e R s m args below meth c T' locs (cells + 1) (slots + cap) ∧ T'.heap = h' ∧ Ext h h' ∧ own_AJ Z h' h.size n (fun _ => 0) ∧ ∀ target, Steps p.tables e below (T'.setTop { g with pc := g.pc + 2, stack := .ref h.size :: rest }) target → Steps p.tables e below (T.setTop g) target := by
  obtain ⟨T', h', k, X', e', E', A', st⟩ := newP (aty := .long) X hx hZ w eT hg hd hs hn hcap hb hc hl
  exact ⟨T', h', X', e', E', own_AJ.fresh A' hn, st⟩
theorem own_ne_obj {C : String} {k : Nat} (F : Exa Z h a C) (wi : (Cond.instantiable C k).before a0 Z = true) (A : own_AI Z h b ty N f) : a ≠ b := by obtain ⟨c, A, -⟩ := A; exact ne_arr F wi A
theorem own_ne_objJ {C : String} {k : Nat} (F : Exa Z h a C) (wi : (Cond.instantiable C k).before a0 Z = true) (A : own_AJ Z h b N fJ) : a ≠ b := by obtain ⟨c, A, -⟩ := A; exact ne_arr F wi A
theorem own_selp {s : State} {b0 args : Array Value} {y : MethodName} {n : Nat} (wi : (Cond.instantiable y.cls n).before b0 s = true) (hp : s.PrivateAt y) (hi : (Cond.instanceMethod y).before b0 s = true) (hy : y.cls ≠ "java/lang/invoke/MethodHandle" ∧ y.cls ≠ "java/lang/invoke/VarHandle") : (Cond.selects y.cls y y).before args s = true := by
  obtain ⟨c, k, hc, hk, -, hab, -, -⟩ := Cond.instantiable_spec wi
  have hni : k.isInterface = false := by
    cases q : k.isInterface with
    | false => rfl
    | true => rw [q] at hab; simp at hab
  have r := selects_self_of_private (args := b0) hc hk hni hp hi hy
  exact r
end OwnLayer
/-! OWN LAYER: machine numbers as integers -/
section OwnNums
variable {x y : Int32} {u v : Int64} {a b : Int}
theorem own_i_add (hx : x.toInt = a) (hy : y.toInt = b) (h : -2147483648 ≤ a + b ∧ a + b < 2147483648) : (x + y).toInt = a + b := by
  rw [Jvm.Free.XT.add32 (by rw [hx, hy]; exact h), hx, hy]
theorem own_i_sub (hx : x.toInt = a) (hy : y.toInt = b) (h : -2147483648 ≤ a - b ∧ a - b < 2147483648) : (x - y).toInt = a - b := by
  rw [Jvm.Free.XT.sub32 (by rw [hx, hy]; exact h), hx, hy]
theorem own_i_mul (hx : x.toInt = a) (hy : y.toInt = b) (h : -2147483648 ≤ a * b ∧ a * b < 2147483648) : (x * y).toInt = a * b := by
  rw [Jvm.Free.XT.mul32 (by rw [hx, hy]; exact h), hx, hy]
theorem own_i_div (hx : x.toInt = a) (hy : y.toInt = b) (h : 0 ≤ a ∧ 0 < b) : (x / y).toInt = a / b := by
  rw [(c_idiv x y b hy (fun q => by rw [q] at hy; have : (-1 : Int32).toInt = -1 := rfl; omega)).1 (by omega), hx]
theorem own_i_mod (hx : x.toInt = a) (hy : y.toInt = b) (h : 0 ≤ a ∧ 0 < b) : (x % y).toInt = a % b := by
  rw [(c_irem x y b hy).1 (by omega), hx]
theorem own_l_add (hu : u.toInt = a) (hv : v.toInt = b) (h : -9223372036854775808 ≤ a + b ∧ a + b < 9223372036854775808) : (u + v).toInt = a + b := by
  rw [Jvm.Free.XT.add64 (by rw [hu, hv]; exact h), hu, hv]
theorem own_l_sub (hu : u.toInt = a) (hv : v.toInt = b) (h : -9223372036854775808 ≤ a - b ∧ a - b < 9223372036854775808) : (u - v).toInt = a - b := by
  rw [Jvm.Free.XT.sub64 (by rw [hu, hv]; exact h), hu, hv]
theorem own_l_mul (hu : u.toInt = a) (hv : v.toInt = b) (h : -9223372036854775808 ≤ a * b ∧ a * b < 9223372036854775808) : (u * v).toInt = a * b := by
  rw [Jvm.Free.XT.mul64 (by rw [hu, hv]; exact h), hu, hv]
theorem own_l_div (hu : u.toInt = a) (hv : v.toInt = b) (h : 0 ≤ a ∧ 0 < b) : (u / v).toInt = a / b := by
  rw [(c_ldiv u v b hv (fun q => by rw [q] at hv; have : (-1 : Int64).toInt = -1 := rfl; omega)).1 (by omega), hu]
theorem own_l_divN (hu : u.toInt = a) (hv : v.toInt = b) (h : a < 0 ∧ 0 < b) : (u / v).toInt = -((-a) / b) := by
  rw [(c_ldiv u v b hv (fun q => by rw [q] at hv; have : (-1 : Int64).toInt = -1 := rfl; omega)).2 (by omega), hu]
theorem own_i2l (hx : x.toInt = a) : (x.toInt64).toInt = a := by rw [c_i2l, hx]
theorem own_l2i (hu : u.toInt = a) (h : -2147483648 ≤ a ∧ a < 2147483648) : (u.toInt32).toInt = a := by
  have h1 := c_l2i u; have h2 := rng32 u.toInt32; omega
theorem own_i_mask (m : Int32) (k : Nat) (hk : k ≤ 31) (hm : m.toBitVec.toNat = 2 ^ k - 1) (hx : x.toInt = a) : (x &&& m).toInt = a % (2 ^ k : Nat) := by rw [c_mask x m k hk hm, hx]
theorem own_i_lt (hx : x.toInt = a) (hy : y.toInt = b) : x < y ↔ a < b := by rw [Int32.lt_iff_toInt_lt, hx, hy]
theorem own_l_lt (hu : u.toInt = a) (hv : v.toInt = b) : u < v ↔ a < b := by rw [Int64.lt_iff_toInt_lt, hu, hv]
theorem own_i_eq (hx : x.toInt = a) (hy : y.toInt = b) : x = y ↔ a = b := by rw [← Int32.toInt_inj, hx, hy]
theorem own_l_eq (hu : u.toInt = a) (hv : v.toInt = b) : u = v ↔ a = b := by rw [← Int64.toInt_inj, hu, hv]
theorem own_i_nat (hx : x.toInt = a) (h : 0 ≤ a) : x.toNatClampNeg = a.toNat := by show x.toInt.toNat = a.toNat; rw [hx]
theorem own_i_of (h : x.toInt = y.toInt) : x = y := Int32.toInt_inj.mp h
theorem own_l_of (h : u.toInt = v.toInt) : u = v := Int64.toInt_inj.mp h
end OwnNums
theorem d1_0 : decode prog_15_method_5_code 0 = .ok (.iload_n 0, 1) := by decide +kernel
theorem d1_1 : decode prog_15_method_5_code 1 = .ok (.lookupswitch 77 #[(1, 75), (2, 75), (3, 75), (4, 75), (5, 75), (8, 75), (9, 75), (246, 75)], 75) := by decide +kernel
theorem d1_76 : decode prog_15_method_5_code 76 = .ok (.iconst 1, 1) := by decide +kernel
theorem d1_77 : decode prog_15_method_5_code 77 = .ok (.ireturn, 1) := by decide +kernel
theorem d1_78 : decode prog_15_method_5_code 78 = .ok (.iconst 0, 1) := by decide +kernel
theorem d1_79 : decode prog_15_method_5_code 79 = .ok (.ireturn, 1) := by decide +kernel
theorem pn_1 : plainName "com/example/millrace/millrace/binlog/ColumnType" = true := by first | (simp [plainName, overriddenIn]; done) | decide +kernel
theorem ef_1 (m : MethodId) (x0 : Int32) : entryFrame m #[(.int x0)] 1 = mkF m 0 #[.val (.int x0)] [] := by first | (simp [entryFrame, mkF, argsToLocals, Value.category]; done) | rfl
theorem own_miss1 {k : Int32} (h0 : ¬ k = (1 : Int32)) (h1 : ¬ k = (2 : Int32)) (h2 : ¬ k = (3 : Int32)) (h3 : ¬ k = (4 : Int32)) (h4 : ¬ k = (5 : Int32)) (h5 : ¬ k = (8 : Int32)) (h6 : ¬ k = (9 : Int32)) (h7 : ¬ k = (246 : Int32)) : (#[(1, 75), (2, 75), (3, 75), (4, 75), (5, 75), (8, 75), (9, 75), (246, 75)] : Array (Int × Int)).find? (·.1 == k.toInt) = none := by
  refine find_miss fun q hq => ?_
  simp only [List.mem_cons, List.not_mem_nil, or_false] at hq
  rcases hq with rfl | rfl | rfl | rfl | rfl | rfl | rfl | rfl
  · exact fun u => h0 (Int32.toInt_inj.mp u.symm)
  · exact fun u => h1 (Int32.toInt_inj.mp u.symm)
  · exact fun u => h2 (Int32.toInt_inj.mp u.symm)
  · exact fun u => h3 (Int32.toInt_inj.mp u.symm)
  · exact fun u => h4 (Int32.toInt_inj.mp u.symm)
  · exact fun u => h5 (Int32.toInt_inj.mp u.symm)
  · exact fun u => h6 (Int32.toInt_inj.mp u.symm)
  · exact fun u => h7 (Int32.toInt_inj.mp u.symm)
def own_num (p0 : Int32) : Int32 := (if p0 = (1 : Int32) then (1 : Int32) else (if p0 = (2 : Int32) then (1 : Int32) else (if p0 = (3 : Int32) then (1 : Int32) else (if p0 = (4 : Int32) then (1 : Int32) else (if p0 = (5 : Int32) then (1 : Int32) else (if p0 = (8 : Int32) then (1 : Int32) else (if p0 = (9 : Int32) then (1 : Int32) else (if p0 = (246 : Int32) then (1 : Int32) else (0 : Int32)))))))))
def Q1 (Z : State) (p0 : Int32) (h0 : Heap) (n0 : Nat) (v : Option Value) (h : Heap) (L : List Loc) : Prop := v = some (.int (own_num p0)) ∧ Fr n0 L ∧ h = h0
set_option maxRecDepth 65536 in
set_option maxHeartbeats 40000000 in
theorem rm1 (l : Launch) (Z : State) (a0 : Array Value) (hw : ∀ d ∈ tables_1, d.before a0 Z = true) (ws : List Jvm.Cond) (p0 : Int32) (h0 : Heap) (n0 : Nat) (Z0 : n0 ≤ h0.size)  :
    MetFree l (⟨"com/example/millrace/millrace/binlog/ColumnType", "isNumeric", "(I)Z"⟩ : MethodName) (head1 (Jvm.Cond.code (⟨"com/example/millrace/millrace/binlog/ColumnType", "isNumeric", "(I)Z"⟩ : MethodName) prog_15_method_5_code 1 (some .boolean) :: ws) ({ frames := 0, cells := 0, slots := 0, locals := 0 } : Room)) (fun a U => a = #[(.int p0)] ∧ Z.Warmed39 U.vm ∧ U.heap = h0) (fun _ _ _ _ _ => True) (fun _ U o U' => ∃ v L, o = .returned v ∧ (Q1 Z p0 h0 n0 v U'.heap L) ∧ FrameEnd U o U' L ({ frames := 0, cells := 0, slots := 0, locals := 0 } : Room).cells ({ frames := 0, cells := 0, slots := 0, locals := 0 } : Room).slots) := by
  refine MetFree.of_bodySF (plainFor_of_name pn_1) hisR ?_
  intro p e s m args below meth c s₁ Bd hml0 hP hK
  obtain ⟨rfl, hZ, hh⟩ := hP
  have hx := Bd.exec
  have hby := Bd.bytes
  have hml : c.maxLocals = 1 := hml0
  have hown : s.vm.findClass "com/example/millrace/millrace/binlog/ColumnType" = some m.cls := findClass_of_methodNamed Bd.named
  have hnm := (name_of_methodNamed Bd.named Bd.method).1
  have X0 : Stand p l e ({ frames := 0, cells := 0, slots := 0, locals := 0 } : Room) s m #[(.int p0)] below meth c s₁ [] 0 0 := Stand.of_body Bd
  have e0 : s₁.heap = h0 := by rw [← hh, Bd.state]; rfl
  have N0 := Fr.nil n0
  have pre0 : ∀ t, Steps p.tables e below (s₁.setTop (mkF m 0 #[.val (.int p0)] [])) t → Steps p.tables e below (s₁.setTop (entryFrame m #[(.int p0)] 1)) t := fun t k => castTop (ef_1 m p0) k
  obtain ⟨fs, hr, hrun, hended, hW, hsame⟩ := X0.leave (v := some (.int (own_num p0))) (fun h => by rw [Bd.returns] at h; cases h)
  refine ⟨_, _, pre0 _ ?_, hrun, hended, _, _, rfl, ⟨rfl, N0, e0⟩, ⟨_, rfl⟩, hW, hsame.mono (by decide) (by decide)⟩
  show Steps p.tables e below (s₁.setTop (mkF m 0 #[.val (.int p0)] [])) _
  refine XS.iloadN X0.here hx rfl (hb hby d1_0) rfl ?_
  show Steps p.tables e below (s₁.setTop (mkF m 1 #[.val (.int p0)] [(.int p0)])) _
  by_cases hs1_0 : p0 = (1 : Int32)
  · refine X0.lookupswitchHit hx (g := (mkF m 1 #[.val (.int p0)] [(.int p0)])) rfl rfl (hb hby d1_1) (by decide) (a := 1) (off := 75) (by rw [hs1_0]; decide) (show (0 : Int) ≤ ((1 : Nat) : Int) + (75) from by decide) _ ?_
    show Steps p.tables e below (s₁.setTop (mkF m 76 #[.val (.int p0)] [])) _
    refine XS.iconst X0.here hx rfl (hb hby d1_76) ?_
    show Steps p.tables e below (s₁.setTop (mkF m 77 #[.val (.int p0)] [(.int (1 : Int32))])) _
    rw [show (own_num p0) = (1 : Int32) from by unfold own_num; rw [if_pos hs1_0]] at hr
    exact retN X0 hx (t := .boolean) Bd.returns (by simp) (hb hby d1_77) hr
  · by_cases hs1_1 : p0 = (2 : Int32)
    · refine X0.lookupswitchHit hx (g := (mkF m 1 #[.val (.int p0)] [(.int p0)])) rfl rfl (hb hby d1_1) (by decide) (a := 2) (off := 75) (by rw [hs1_1]; decide) (show (0 : Int) ≤ ((1 : Nat) : Int) + (75) from by decide) _ ?_
      show Steps p.tables e below (s₁.setTop (mkF m 76 #[.val (.int p0)] [])) _
      refine XS.iconst X0.here hx rfl (hb hby d1_76) ?_
      show Steps p.tables e below (s₁.setTop (mkF m 77 #[.val (.int p0)] [(.int (1 : Int32))])) _
      rw [show (own_num p0) = (1 : Int32) from by unfold own_num; rw [if_neg hs1_0, if_pos hs1_1]] at hr
      exact retN X0 hx (t := .boolean) Bd.returns (by simp) (hb hby d1_77) hr
    · by_cases hs1_2 : p0 = (3 : Int32)
      · refine X0.lookupswitchHit hx (g := (mkF m 1 #[.val (.int p0)] [(.int p0)])) rfl rfl (hb hby d1_1) (by decide) (a := 3) (off := 75) (by rw [hs1_2]; decide) (show (0 : Int) ≤ ((1 : Nat) : Int) + (75) from by decide) _ ?_
        show Steps p.tables e below (s₁.setTop (mkF m 76 #[.val (.int p0)] [])) _
        refine XS.iconst X0.here hx rfl (hb hby d1_76) ?_
        show Steps p.tables e below (s₁.setTop (mkF m 77 #[.val (.int p0)] [(.int (1 : Int32))])) _
        rw [show (own_num p0) = (1 : Int32) from by unfold own_num; rw [if_neg hs1_0, if_neg hs1_1, if_pos hs1_2]] at hr
        exact retN X0 hx (t := .boolean) Bd.returns (by simp) (hb hby d1_77) hr
      · by_cases hs1_3 : p0 = (4 : Int32)
        · refine X0.lookupswitchHit hx (g := (mkF m 1 #[.val (.int p0)] [(.int p0)])) rfl rfl (hb hby d1_1) (by decide) (a := 4) (off := 75) (by rw [hs1_3]; decide) (show (0 : Int) ≤ ((1 : Nat) : Int) + (75) from by decide) _ ?_
          show Steps p.tables e below (s₁.setTop (mkF m 76 #[.val (.int p0)] [])) _
          refine XS.iconst X0.here hx rfl (hb hby d1_76) ?_
          show Steps p.tables e below (s₁.setTop (mkF m 77 #[.val (.int p0)] [(.int (1 : Int32))])) _
          rw [show (own_num p0) = (1 : Int32) from by unfold own_num; rw [if_neg hs1_0, if_neg hs1_1, if_neg hs1_2, if_pos hs1_3]] at hr
          exact retN X0 hx (t := .boolean) Bd.returns (by simp) (hb hby d1_77) hr
        · by_cases hs1_4 : p0 = (5 : Int32)
          · refine X0.lookupswitchHit hx (g := (mkF m 1 #[.val (.int p0)] [(.int p0)])) rfl rfl (hb hby d1_1) (by decide) (a := 5) (off := 75) (by rw [hs1_4]; decide) (show (0 : Int) ≤ ((1 : Nat) : Int) + (75) from by decide) _ ?_
            show Steps p.tables e below (s₁.setTop (mkF m 76 #[.val (.int p0)] [])) _
            refine XS.iconst X0.here hx rfl (hb hby d1_76) ?_
            show Steps p.tables e below (s₁.setTop (mkF m 77 #[.val (.int p0)] [(.int (1 : Int32))])) _
            rw [show (own_num p0) = (1 : Int32) from by unfold own_num; rw [if_neg hs1_0, if_neg hs1_1, if_neg hs1_2, if_neg hs1_3, if_pos hs1_4]] at hr
            exact retN X0 hx (t := .boolean) Bd.returns (by simp) (hb hby d1_77) hr
          · by_cases hs1_5 : p0 = (8 : Int32)
            · refine X0.lookupswitchHit hx (g := (mkF m 1 #[.val (.int p0)] [(.int p0)])) rfl rfl (hb hby d1_1) (by decide) (a := 8) (off := 75) (by rw [hs1_5]; decide) (show (0 : Int) ≤ ((1 : Nat) : Int) + (75) from by decide) _ ?_
              show Steps p.tables e below (s₁.setTop (mkF m 76 #[.val (.int p0)] [])) _
              refine XS.iconst X0.here hx rfl (hb hby d1_76) ?_
              show Steps p.tables e below (s₁.setTop (mkF m 77 #[.val (.int p0)] [(.int (1 : Int32))])) _
              rw [show (own_num p0) = (1 : Int32) from by unfold own_num; rw [if_neg hs1_0, if_neg hs1_1, if_neg hs1_2, if_neg hs1_3, if_neg hs1_4, if_pos hs1_5]] at hr
              exact retN X0 hx (t := .boolean) Bd.returns (by simp) (hb hby d1_77) hr
            · by_cases hs1_6 : p0 = (9 : Int32)
              · refine X0.lookupswitchHit hx (g := (mkF m 1 #[.val (.int p0)] [(.int p0)])) rfl rfl (hb hby d1_1) (by decide) (a := 9) (off := 75) (by rw [hs1_6]; decide) (show (0 : Int) ≤ ((1 : Nat) : Int) + (75) from by decide) _ ?_
                show Steps p.tables e below (s₁.setTop (mkF m 76 #[.val (.int p0)] [])) _
                refine XS.iconst X0.here hx rfl (hb hby d1_76) ?_
                show Steps p.tables e below (s₁.setTop (mkF m 77 #[.val (.int p0)] [(.int (1 : Int32))])) _
                rw [show (own_num p0) = (1 : Int32) from by unfold own_num; rw [if_neg hs1_0, if_neg hs1_1, if_neg hs1_2, if_neg hs1_3, if_neg hs1_4, if_neg hs1_5, if_pos hs1_6]] at hr
                exact retN X0 hx (t := .boolean) Bd.returns (by simp) (hb hby d1_77) hr
              · by_cases hs1_7 : p0 = (246 : Int32)
                · refine X0.lookupswitchHit hx (g := (mkF m 1 #[.val (.int p0)] [(.int p0)])) rfl rfl (hb hby d1_1) (by decide) (a := 246) (off := 75) (by rw [hs1_7]; decide) (show (0 : Int) ≤ ((1 : Nat) : Int) + (75) from by decide) _ ?_
                  show Steps p.tables e below (s₁.setTop (mkF m 76 #[.val (.int p0)] [])) _
                  refine XS.iconst X0.here hx rfl (hb hby d1_76) ?_
                  show Steps p.tables e below (s₁.setTop (mkF m 77 #[.val (.int p0)] [(.int (1 : Int32))])) _
                  rw [show (own_num p0) = (1 : Int32) from by unfold own_num; rw [if_neg hs1_0, if_neg hs1_1, if_neg hs1_2, if_neg hs1_3, if_neg hs1_4, if_neg hs1_5, if_neg hs1_6, if_pos hs1_7]] at hr
                  exact retN X0 hx (t := .boolean) Bd.returns (by simp) (hb hby d1_77) hr
                · refine X0.lookupswitchMiss hx (g := (mkF m 1 #[.val (.int p0)] [(.int p0)])) rfl rfl (hb hby d1_1) (by decide) (own_miss1 hs1_0 hs1_1 hs1_2 hs1_3 hs1_4 hs1_5 hs1_6 hs1_7) (show (0 : Int) ≤ ((1 : Nat) : Int) + (77) from by decide) _ ?_
                  show Steps p.tables e below (s₁.setTop (mkF m 78 #[.val (.int p0)] [])) _
                  refine XS.iconst X0.here hx rfl (hb hby d1_78) ?_
                  show Steps p.tables e below (s₁.setTop (mkF m 79 #[.val (.int p0)] [(.int (0 : Int32))])) _
                  rw [show (own_num p0) = (0 : Int32) from by unfold own_num; rw [if_neg hs1_0, if_neg hs1_1, if_neg hs1_2, if_neg hs1_3, if_neg hs1_4, if_neg hs1_5, if_neg hs1_6, if_neg hs1_7]] at hr
                  exact retN X0 hx (t := .boolean) Bd.returns (by simp) (hb hby d1_79) hr
theorem pn_0 : plainName "com/example/millrace/millrace/binlog/ColumnTypeIsNumericPinLaw" = true := by first | (simp [plainName, overriddenIn]; done) | decide +kernel
theorem ef_0 (m : MethodId) (x0 : Int32) (x1 : Int32) : entryFrame m #[(.int x0), (.int x1)] maxLocals = mkF m 0 #[.val (.int x0), .val (.int x1), .unset, .unset] [] := by first | (simp [entryFrame, mkF, argsToLocals, Value.category, maxLocals]; done) | rfl
def own_A_s0 (p0 : Int32) (p1 : Int32) : Int32 := (if (p1 &&& (1 : Int32)) = (0 : Int32) then ((p0 &&& (511 : Int32)) - (1 : Int32)) else p0)
set_option maxRecDepth 65536 in
set_option maxHeartbeats 40000000 in
theorem sg_A {p : Program} {l : Launch} {e : Env} {R : Room} {s : State} {m : MethodId} {args : Array Value} {below : List Frame} {meth : Method} {c : Code} {T0 : State} {locs : List Loc} {cells slots : Nat} {Z : State} {a0 : Array Value} {h0 : Heap} {target : State} (p0 : Int32) (p1 : Int32) (X0 : Stand p l e R s m args below meth c T0 locs cells slots) (hx : p.tables.exec = Jvm.exec) (hZ : Z.Warmed39 s.vm) (hw : ∀ d ∈ tables_1, d.before a0 Z = true) (hby : c.code = code) (hown : s.vm.findClass "com/example/millrace/millrace/binlog/ColumnTypeIsNumericPinLaw" = some m.cls) (e0 : T0.heap = h0) 
    (kt : Steps p.tables e below (T0.setTop (mkF m 17 #[.val (.int p0), .val (.int p1), .unset, .unset] [(.int (own_A_s0 p0 p1))])) target) : Steps p.tables e below (T0.setTop (mkF m 0 #[.val (.int p0), .val (.int p1), .unset, .unset] [])) target := by
  show Steps p.tables e below (T0.setTop (mkF m 0 #[.val (.int p0), .val (.int p1), .unset, .unset] [])) _
  refine XS.iloadN X0.here hx rfl (hb hby at_0) rfl ?_
  show Steps p.tables e below (T0.setTop (mkF m 1 #[.val (.int p0), .val (.int p1), .unset, .unset] [(.int p1)])) _
  refine XS.iconst X0.here hx rfl (hb hby at_1) ?_
  show Steps p.tables e below (T0.setTop (mkF m 2 #[.val (.int p0), .val (.int p1), .unset, .unset] [(.int (1 : Int32)), (.int p1)])) _
  refine XS.iand X0.here hx rfl (hb hby at_2) rfl ?_
  show Steps p.tables e below (T0.setTop (mkF m 3 #[.val (.int p0), .val (.int p1), .unset, .unset] [(.int (p1 &&& (1 : Int32)))])) _
  by_cases hc3 : (p1 &&& (1 : Int32)) = (0 : Int32)
  · refine XS.ifYes X0.here hx rfl (pc0 := 3) (pc' := 10) rfl (hb hby at_3) rfl ((if0 _ _).trans (teq hc3).1) (by decide) (by decide) ?_
    show Steps p.tables e below (T0.setTop (mkF m 10 #[.val (.int p0), .val (.int p1), .unset, .unset] [])) _
    refine XS.iloadN X0.here hx rfl (hb hby at_10) rfl ?_
    show Steps p.tables e below (T0.setTop (mkF m 11 #[.val (.int p0), .val (.int p1), .unset, .unset] [(.int p0)])) _
    refine XS.sipush X0.here hx rfl (hb hby at_11) ?_
    show Steps p.tables e below (T0.setTop (mkF m 14 #[.val (.int p0), .val (.int p1), .unset, .unset] [(.int (511 : Int32)), (.int p0)])) _
    refine XS.iand X0.here hx rfl (hb hby at_14) rfl ?_
    show Steps p.tables e below (T0.setTop (mkF m 15 #[.val (.int p0), .val (.int p1), .unset, .unset] [(.int (p0 &&& (511 : Int32)))])) _
    refine XS.iconst X0.here hx rfl (hb hby at_15) ?_
    show Steps p.tables e below (T0.setTop (mkF m 16 #[.val (.int p0), .val (.int p1), .unset, .unset] [(.int (1 : Int32)), (.int (p0 &&& (511 : Int32)))])) _
    refine XS.isub X0.here hx rfl (hb hby at_16) rfl ?_
    rw [show (own_A_s0 p0 p1) = ((p0 &&& (511 : Int32)) - (1 : Int32)) from by unfold own_A_s0; rw [if_pos hc3]] at kt
    exact kt
  · refine XS.ifNo X0.here hx rfl (hb hby at_3) rfl ((if0 _ _).trans (feq hc3).1) ?_
    show Steps p.tables e below (T0.setTop (mkF m 6 #[.val (.int p0), .val (.int p1), .unset, .unset] [])) _
    refine XS.iloadN X0.here hx rfl (hb hby at_6) rfl ?_
    show Steps p.tables e below (T0.setTop (mkF m 7 #[.val (.int p0), .val (.int p1), .unset, .unset] [(.int p0)])) _
    refine XS.goto X0.here hx rfl (pc0 := 7) (pc' := 17) rfl (hb hby at_7) (by decide) (by decide) ?_
    rw [show (own_A_s0 p0 p1) = p0 from by unfold own_A_s0; rw [if_neg hc3]] at kt
    exact kt
def own_B_s0 (t : Int32) : Int32 := (if t < (1 : Int32) then (if t = (8 : Int32) then (1 : Int32) else (if t = (9 : Int32) then (1 : Int32) else (if t = (246 : Int32) then (1 : Int32) else (0 : Int32)))) else (if (5 : Int32) < t then (if t = (8 : Int32) then (1 : Int32) else (if t = (9 : Int32) then (1 : Int32) else (if t = (246 : Int32) then (1 : Int32) else (0 : Int32)))) else (1 : Int32)))
set_option maxRecDepth 65536 in
set_option maxHeartbeats 40000000 in
theorem sg_B {p : Program} {l : Launch} {e : Env} {R : Room} {s : State} {m : MethodId} {args : Array Value} {below : List Frame} {meth : Method} {c : Code} {T0 : State} {locs : List Loc} {cells slots : Nat} {Z : State} {a0 : Array Value} {h0 : Heap} {target : State} (p0 : Int32) (p1 : Int32) (t : Int32) (X0 : Stand p l e R s m args below meth c T0 locs cells slots) (hx : p.tables.exec = Jvm.exec) (hZ : Z.Warmed39 s.vm) (hw : ∀ d ∈ tables_1, d.before a0 Z = true) (hby : c.code = code) (hown : s.vm.findClass "com/example/millrace/millrace/binlog/ColumnTypeIsNumericPinLaw" = some m.cls) (e0 : T0.heap = h0) 
    (kt : Steps p.tables e below (T0.setTop (mkF m 52 #[.val (.int p0), .val (.int p1), .val (.int t), .unset] [(.int (own_B_s0 t))])) target) : Steps p.tables e below (T0.setTop (mkF m 18 #[.val (.int p0), .val (.int p1), .val (.int t), .unset] [])) target := by
  show Steps p.tables e below (T0.setTop (mkF m 18 #[.val (.int p0), .val (.int p1), .val (.int t), .unset] [])) _
  refine XS.iloadN X0.here hx rfl (hb hby at_18) rfl ?_
  show Steps p.tables e below (T0.setTop (mkF m 19 #[.val (.int p0), .val (.int p1), .val (.int t), .unset] [(.int t)])) _
  refine XS.iconst X0.here hx rfl (hb hby at_19) ?_
  show Steps p.tables e below (T0.setTop (mkF m 20 #[.val (.int p0), .val (.int p1), .val (.int t), .unset] [(.int (1 : Int32)), (.int t)])) _
  by_cases hc20 : t < (1 : Int32)
  · refine XS.icmpYes X0.here hx rfl (pc0 := 20) (pc' := 28) rfl (hb hby at_20) rfl (tlt hc20).1 (by decide) (by decide) ?_
    show Steps p.tables e below (T0.setTop (mkF m 28 #[.val (.int p0), .val (.int p1), .val (.int t), .unset] [])) _
    refine XS.iloadN X0.here hx rfl (hb hby at_28) rfl ?_
    show Steps p.tables e below (T0.setTop (mkF m 29 #[.val (.int p0), .val (.int p1), .val (.int t), .unset] [(.int t)])) _
    refine XS.bipush X0.here hx rfl (hb hby at_29) ?_
    show Steps p.tables e below (T0.setTop (mkF m 31 #[.val (.int p0), .val (.int p1), .val (.int t), .unset] [(.int (8 : Int32)), (.int t)])) _
    by_cases hc31 : t = (8 : Int32)
    · refine XS.icmpYes X0.here hx rfl (pc0 := 31) (pc' := 47) rfl (hb hby at_31) rfl (teq hc31).1 (by decide) (by decide) ?_
      show Steps p.tables e below (T0.setTop (mkF m 47 #[.val (.int p0), .val (.int p1), .val (.int t), .unset] [])) _
      refine XS.iconst X0.here hx rfl (hb hby at_47) ?_
      show Steps p.tables e below (T0.setTop (mkF m 48 #[.val (.int p0), .val (.int p1), .val (.int t), .unset] [(.int (1 : Int32))])) _
      refine XS.goto X0.here hx rfl (pc0 := 48) (pc' := 52) rfl (hb hby at_48) (by decide) (by decide) ?_
      rw [show (own_B_s0 t) = (1 : Int32) from by unfold own_B_s0; rw [if_pos hc20, if_pos hc31]] at kt
      exact kt
    · refine XS.icmpNo X0.here hx rfl (hb hby at_31) rfl (feq hc31).1 ?_
      show Steps p.tables e below (T0.setTop (mkF m 34 #[.val (.int p0), .val (.int p1), .val (.int t), .unset] [])) _
      refine XS.iloadN X0.here hx rfl (hb hby at_34) rfl ?_
      show Steps p.tables e below (T0.setTop (mkF m 35 #[.val (.int p0), .val (.int p1), .val (.int t), .unset] [(.int t)])) _
      refine XS.bipush X0.here hx rfl (hb hby at_35) ?_
      show Steps p.tables e below (T0.setTop (mkF m 37 #[.val (.int p0), .val (.int p1), .val (.int t), .unset] [(.int (9 : Int32)), (.int t)])) _
      by_cases hc37 : t = (9 : Int32)
      · refine XS.icmpYes X0.here hx rfl (pc0 := 37) (pc' := 47) rfl (hb hby at_37) rfl (teq hc37).1 (by decide) (by decide) ?_
        show Steps p.tables e below (T0.setTop (mkF m 47 #[.val (.int p0), .val (.int p1), .val (.int t), .unset] [])) _
        refine XS.iconst X0.here hx rfl (hb hby at_47) ?_
        show Steps p.tables e below (T0.setTop (mkF m 48 #[.val (.int p0), .val (.int p1), .val (.int t), .unset] [(.int (1 : Int32))])) _
        refine XS.goto X0.here hx rfl (pc0 := 48) (pc' := 52) rfl (hb hby at_48) (by decide) (by decide) ?_
        rw [show (own_B_s0 t) = (1 : Int32) from by unfold own_B_s0; rw [if_pos hc20, if_neg hc31, if_pos hc37]] at kt
        exact kt
      · refine XS.icmpNo X0.here hx rfl (hb hby at_37) rfl (feq hc37).1 ?_
        show Steps p.tables e below (T0.setTop (mkF m 40 #[.val (.int p0), .val (.int p1), .val (.int t), .unset] [])) _
        refine XS.iloadN X0.here hx rfl (hb hby at_40) rfl ?_
        show Steps p.tables e below (T0.setTop (mkF m 41 #[.val (.int p0), .val (.int p1), .val (.int t), .unset] [(.int t)])) _
        refine XS.sipush X0.here hx rfl (hb hby at_41) ?_
        show Steps p.tables e below (T0.setTop (mkF m 44 #[.val (.int p0), .val (.int p1), .val (.int t), .unset] [(.int (246 : Int32)), (.int t)])) _
        by_cases hc44 : t = (246 : Int32)
        · refine XS.icmpNo X0.here hx rfl (hb hby at_44) rfl (teq hc44).2 ?_
          show Steps p.tables e below (T0.setTop (mkF m 47 #[.val (.int p0), .val (.int p1), .val (.int t), .unset] [])) _
          refine XS.iconst X0.here hx rfl (hb hby at_47) ?_
          show Steps p.tables e below (T0.setTop (mkF m 48 #[.val (.int p0), .val (.int p1), .val (.int t), .unset] [(.int (1 : Int32))])) _
          refine XS.goto X0.here hx rfl (pc0 := 48) (pc' := 52) rfl (hb hby at_48) (by decide) (by decide) ?_
          rw [show (own_B_s0 t) = (1 : Int32) from by unfold own_B_s0; rw [if_pos hc20, if_neg hc31, if_neg hc37, if_pos hc44]] at kt
          exact kt
        · refine XS.icmpYes X0.here hx rfl (pc0 := 44) (pc' := 51) rfl (hb hby at_44) rfl (feq hc44).2 (by decide) (by decide) ?_
          show Steps p.tables e below (T0.setTop (mkF m 51 #[.val (.int p0), .val (.int p1), .val (.int t), .unset] [])) _
          refine XS.iconst X0.here hx rfl (hb hby at_51) ?_
          rw [show (own_B_s0 t) = (0 : Int32) from by unfold own_B_s0; rw [if_pos hc20, if_neg hc31, if_neg hc37, if_neg hc44]] at kt
          exact kt
  · refine XS.icmpNo X0.here hx rfl (hb hby at_20) rfl (flt hc20).1 ?_
    show Steps p.tables e below (T0.setTop (mkF m 23 #[.val (.int p0), .val (.int p1), .val (.int t), .unset] [])) _
    refine XS.iloadN X0.here hx rfl (hb hby at_23) rfl ?_
    show Steps p.tables e below (T0.setTop (mkF m 24 #[.val (.int p0), .val (.int p1), .val (.int t), .unset] [(.int t)])) _
    refine XS.iconst X0.here hx rfl (hb hby at_24) ?_
    show Steps p.tables e below (T0.setTop (mkF m 25 #[.val (.int p0), .val (.int p1), .val (.int t), .unset] [(.int (5 : Int32)), (.int t)])) _
    by_cases hc25 : (5 : Int32) < t
    · refine XS.icmpNo X0.here hx rfl (hb hby at_25) rfl (tlt hc25).2.2.2 ?_
      show Steps p.tables e below (T0.setTop (mkF m 28 #[.val (.int p0), .val (.int p1), .val (.int t), .unset] [])) _
      refine XS.iloadN X0.here hx rfl (hb hby at_28) rfl ?_
      show Steps p.tables e below (T0.setTop (mkF m 29 #[.val (.int p0), .val (.int p1), .val (.int t), .unset] [(.int t)])) _
      refine XS.bipush X0.here hx rfl (hb hby at_29) ?_
      show Steps p.tables e below (T0.setTop (mkF m 31 #[.val (.int p0), .val (.int p1), .val (.int t), .unset] [(.int (8 : Int32)), (.int t)])) _
      by_cases hc31 : t = (8 : Int32)
      · refine XS.icmpYes X0.here hx rfl (pc0 := 31) (pc' := 47) rfl (hb hby at_31) rfl (teq hc31).1 (by decide) (by decide) ?_
        show Steps p.tables e below (T0.setTop (mkF m 47 #[.val (.int p0), .val (.int p1), .val (.int t), .unset] [])) _
        refine XS.iconst X0.here hx rfl (hb hby at_47) ?_
        show Steps p.tables e below (T0.setTop (mkF m 48 #[.val (.int p0), .val (.int p1), .val (.int t), .unset] [(.int (1 : Int32))])) _
        refine XS.goto X0.here hx rfl (pc0 := 48) (pc' := 52) rfl (hb hby at_48) (by decide) (by decide) ?_
        rw [show (own_B_s0 t) = (1 : Int32) from by unfold own_B_s0; rw [if_neg hc20, if_pos hc25, if_pos hc31]] at kt
        exact kt
      · refine XS.icmpNo X0.here hx rfl (hb hby at_31) rfl (feq hc31).1 ?_
        show Steps p.tables e below (T0.setTop (mkF m 34 #[.val (.int p0), .val (.int p1), .val (.int t), .unset] [])) _
        refine XS.iloadN X0.here hx rfl (hb hby at_34) rfl ?_
        show Steps p.tables e below (T0.setTop (mkF m 35 #[.val (.int p0), .val (.int p1), .val (.int t), .unset] [(.int t)])) _
        refine XS.bipush X0.here hx rfl (hb hby at_35) ?_
        show Steps p.tables e below (T0.setTop (mkF m 37 #[.val (.int p0), .val (.int p1), .val (.int t), .unset] [(.int (9 : Int32)), (.int t)])) _
        by_cases hc37 : t = (9 : Int32)
        · refine XS.icmpYes X0.here hx rfl (pc0 := 37) (pc' := 47) rfl (hb hby at_37) rfl (teq hc37).1 (by decide) (by decide) ?_
          show Steps p.tables e below (T0.setTop (mkF m 47 #[.val (.int p0), .val (.int p1), .val (.int t), .unset] [])) _
          refine XS.iconst X0.here hx rfl (hb hby at_47) ?_
          show Steps p.tables e below (T0.setTop (mkF m 48 #[.val (.int p0), .val (.int p1), .val (.int t), .unset] [(.int (1 : Int32))])) _
          refine XS.goto X0.here hx rfl (pc0 := 48) (pc' := 52) rfl (hb hby at_48) (by decide) (by decide) ?_
          rw [show (own_B_s0 t) = (1 : Int32) from by unfold own_B_s0; rw [if_neg hc20, if_pos hc25, if_neg hc31, if_pos hc37]] at kt
          exact kt
        · refine XS.icmpNo X0.here hx rfl (hb hby at_37) rfl (feq hc37).1 ?_
          show Steps p.tables e below (T0.setTop (mkF m 40 #[.val (.int p0), .val (.int p1), .val (.int t), .unset] [])) _
          refine XS.iloadN X0.here hx rfl (hb hby at_40) rfl ?_
          show Steps p.tables e below (T0.setTop (mkF m 41 #[.val (.int p0), .val (.int p1), .val (.int t), .unset] [(.int t)])) _
          refine XS.sipush X0.here hx rfl (hb hby at_41) ?_
          show Steps p.tables e below (T0.setTop (mkF m 44 #[.val (.int p0), .val (.int p1), .val (.int t), .unset] [(.int (246 : Int32)), (.int t)])) _
          by_cases hc44 : t = (246 : Int32)
          · refine XS.icmpNo X0.here hx rfl (hb hby at_44) rfl (teq hc44).2 ?_
            show Steps p.tables e below (T0.setTop (mkF m 47 #[.val (.int p0), .val (.int p1), .val (.int t), .unset] [])) _
            refine XS.iconst X0.here hx rfl (hb hby at_47) ?_
            show Steps p.tables e below (T0.setTop (mkF m 48 #[.val (.int p0), .val (.int p1), .val (.int t), .unset] [(.int (1 : Int32))])) _
            refine XS.goto X0.here hx rfl (pc0 := 48) (pc' := 52) rfl (hb hby at_48) (by decide) (by decide) ?_
            rw [show (own_B_s0 t) = (1 : Int32) from by unfold own_B_s0; rw [if_neg hc20, if_pos hc25, if_neg hc31, if_neg hc37, if_pos hc44]] at kt
            exact kt
          · refine XS.icmpYes X0.here hx rfl (pc0 := 44) (pc' := 51) rfl (hb hby at_44) rfl (feq hc44).2 (by decide) (by decide) ?_
            show Steps p.tables e below (T0.setTop (mkF m 51 #[.val (.int p0), .val (.int p1), .val (.int t), .unset] [])) _
            refine XS.iconst X0.here hx rfl (hb hby at_51) ?_
            rw [show (own_B_s0 t) = (0 : Int32) from by unfold own_B_s0; rw [if_neg hc20, if_pos hc25, if_neg hc31, if_neg hc37, if_neg hc44]] at kt
            exact kt
    · refine XS.icmpYes X0.here hx rfl (pc0 := 25) (pc' := 47) rfl (hb hby at_25) rfl (flt hc25).2.2.2 (by decide) (by decide) ?_
      show Steps p.tables e below (T0.setTop (mkF m 47 #[.val (.int p0), .val (.int p1), .val (.int t), .unset] [])) _
      refine XS.iconst X0.here hx rfl (hb hby at_47) ?_
      show Steps p.tables e below (T0.setTop (mkF m 48 #[.val (.int p0), .val (.int p1), .val (.int t), .unset] [(.int (1 : Int32))])) _
      refine XS.goto X0.here hx rfl (pc0 := 48) (pc' := 52) rfl (hb hby at_48) (by decide) (by decide) ?_
      rw [show (own_B_s0 t) = (1 : Int32) from by unfold own_B_s0; rw [if_neg hc20, if_neg hc25]] at kt
      exact kt
theorem own_same (t : Int32) : own_num t = own_B_s0 t := by
  by_cases h1 : t = 1; · subst h1; decide
  by_cases h2 : t = 2; · subst h2; decide
  by_cases h3 : t = 3; · subst h3; decide
  by_cases h4 : t = 4; · subst h4; decide
  by_cases h5 : t = 5; · subst h5; decide
  by_cases h8 : t = 8; · subst h8; decide
  by_cases h9 : t = 9; · subst h9; decide
  by_cases hz : t = 246; · subst hz; decide
  have g1 : t.toInt ≠ 1 := fun u => h1 (Int32.toInt_inj.mp u)
  have g2 : t.toInt ≠ 2 := fun u => h2 (Int32.toInt_inj.mp u)
  have g3 : t.toInt ≠ 3 := fun u => h3 (Int32.toInt_inj.mp u)
  have g4 : t.toInt ≠ 4 := fun u => h4 (Int32.toInt_inj.mp u)
  have g5 : t.toInt ≠ 5 := fun u => h5 (Int32.toInt_inj.mp u)
  have e1 : own_num t = 0 := by unfold own_num; rw [if_neg h1, if_neg h2, if_neg h3, if_neg h4, if_neg h5, if_neg h8, if_neg h9, if_neg hz]
  rw [e1]; unfold own_B_s0
  by_cases a : t < 1
  · rw [if_pos a, if_neg h8, if_neg h9, if_neg hz]
  · by_cases b : 5 < t
    · rw [if_neg a, if_pos b, if_neg h8, if_neg h9, if_neg hz]
    · exfalso
      rw [Int32.lt_iff_toInt_lt] at a b
      have a' : ¬ t.toInt < 1 := a
      have b' : ¬ 5 < t.toInt := b
      omega
theorem pd_0 : parseMethodDescriptor "(I)Z" = some ⟨[.int], some .boolean⟩ := by decide +kernel
def Q0 (Z : State) (p0 : Int32) (p1 : Int32) (h0 : Heap) (n0 : Nat) (v : Option Value) (h : Heap) (L : List Loc) : Prop := v = some (.int (1 : Int32)) ∧ Fr n0 L
set_option maxRecDepth 65536 in
set_option maxHeartbeats 40000000 in
theorem rm0 (l : Launch) (Z : State) (a0 : Array Value) (hw : ∀ d ∈ tables_1, d.before a0 Z = true) (ws : List Jvm.Cond) (p0 : Int32) (p1 : Int32) (h0 : Heap) (n0 : Nat) (Z0 : n0 ≤ h0.size)  :
    MetFree l x (head1 (Jvm.Cond.code x code maxLocals ret :: ws) room_1) (fun a U => a = #[(.int p0), (.int p1)] ∧ Z.Warmed39 U.vm ∧ U.heap = h0) (fun _ _ _ _ _ => True) (fun _ U o U' => ∃ v L, o = .returned v ∧ (Q0 Z p0 p1 h0 n0 v U'.heap L) ∧ FrameEnd U o U' L room_1.cells room_1.slots) := by
  refine MetFree.of_bodySF (plainFor_of_name pn_0) hisR ?_
  intro p e s m args below meth c s₁ Bd hml0 hP hK
  obtain ⟨rfl, hZ, hh⟩ := hP
  have hx := Bd.exec
  have hby := Bd.bytes
  have hml : c.maxLocals = 4 := hml0
  have hown : s.vm.findClass "com/example/millrace/millrace/binlog/ColumnTypeIsNumericPinLaw" = some m.cls := findClass_of_methodNamed Bd.named
  have hnm := (name_of_methodNamed Bd.named Bd.method).1
  have X0 : Stand p l e room_1 s m #[(.int p0), (.int p1)] below meth c s₁ [] 0 0 := Stand.of_body Bd
  have e0 : s₁.heap = h0 := by rw [← hh, Bd.state]; rfl
  have N0 := Fr.nil n0
  have pre0 : ∀ t, Steps p.tables e below (s₁.setTop (mkF m 0 #[.val (.int p0), .val (.int p1), .unset, .unset] [])) t → Steps p.tables e below (s₁.setTop (entryFrame m #[(.int p0), (.int p1)] maxLocals)) t := fun t k => castTop (ef_0 m p0 p1) k
  obtain ⟨t, ht⟩ : ∃ t, own_A_s0 p0 p1 = t := ⟨_, rfl⟩
  obtain ⟨_, _, ⟨T1, L1, k1, n1⟩, -, X1, ⟨Lc1, hQ1, l1, y1, z1⟩, st1⟩ := Jvm.LawKit.callS X0 hx (y := (⟨"com/example/millrace/millrace/binlog/ColumnType", "isNumeric", "(I)Z"⟩ : MethodName)) hown (mvT hZ (hw _ (List.mem_of_getElem? (i := 0) rfl))) (mvT hZ (hw _ (List.mem_of_getElem? (i := 1) rfl))) (mvT hZ (hw _ (List.mem_of_getElem? (i := 2) rfl))) (mvT hZ (hw _ (List.mem_of_getElem? (i := 3) rfl))) (by decide) (backOf (W := 0) (rm1 l Z a0 hw [] t  h0 n0 Z0 ) hZ (hw _ (List.mem_of_getElem? (i := 3) rfl)) (hw _ (List.mem_of_getElem? (i := 2) rfl)) (by decide) (by decide)) (g := (mkF m 54 #[.val (.int p0), .val (.int p1), .val (.int t), .val (.int (own_B_s0 t))] [(.int t)])) rfl (by rw [hml]; rfl) (argsL := [(.int t)]) (rest := []) (lenOf pd_0 rfl) rfl (by show 2 * 0 + _ ≤ _; exact Nat.le_of_eq rfl) (hb hby at_54) (fun _ _ => ⟨rfl, e0, (by decide : 0 + 0 ≤ _), (by decide : 0 + 0 ≤ _)⟩)
  dsimp only [Pt.U, Pt.locs, Pt.cells, Pt.slots] at X1 l1 y1 z1 st1 hQ1
  subst l1 y1 z1
  obtain ⟨rfl, Nq1, e1⟩ := hQ1
  have N1 := Fr.app N0 Nq1
  obtain ⟨fs, hr, hrun, hended, hW, hsame⟩ := X1.leave (v := some (.int (1 : Int32))) (fun h => by rw [Bd.returns] at h; cases h)
  refine ⟨_, _, pre0 _ ?_, hrun, hended, _, _, rfl, ⟨rfl, N1⟩, ⟨_, rfl⟩, hW, hsame.mono (by decide) (by decide)⟩
  show Steps p.tables e below (s₁.setTop (mkF m 0 #[.val (.int p0), .val (.int p1), .unset, .unset] [])) _
  refine sg_A p0 p1 X0 hx hZ hw hby hown e0  ?_
  show Steps p.tables e below (s₁.setTop (mkF m 17 #[.val (.int p0), .val (.int p1), .unset, .unset] [(.int (own_A_s0 p0 p1))])) _
  rw [ht]
  show Steps p.tables e below (s₁.setTop (mkF m 17 #[.val (.int p0), .val (.int p1), .unset, .unset] [(.int t)])) _
  refine XS.istoreN X0.here hx rfl (hb hby at_17) rfl (l' := #[.val (.int p0), .val (.int p1), .val (.int t), .unset]) rfl ?_
  show Steps p.tables e below (s₁.setTop (mkF m 18 #[.val (.int p0), .val (.int p1), .val (.int t), .unset] [])) _
  refine sg_B p0 p1 t X0 hx hZ hw hby hown e0  ?_
  show Steps p.tables e below (s₁.setTop (mkF m 52 #[.val (.int p0), .val (.int p1), .val (.int t), .unset] [(.int (own_B_s0 t))])) _
  refine XS.istoreN X0.here hx rfl (hb hby at_52) rfl (l' := #[.val (.int p0), .val (.int p1), .val (.int t), .val (.int (own_B_s0 t))]) rfl ?_
  show Steps p.tables e below (s₁.setTop (mkF m 53 #[.val (.int p0), .val (.int p1), .val (.int t), .val (.int (own_B_s0 t))] [])) _
  refine XS.iloadN X0.here hx rfl (hb hby at_53) rfl ?_
  show Steps p.tables e below (s₁.setTop (mkF m 54 #[.val (.int p0), .val (.int p1), .val (.int t), .val (.int (own_B_s0 t))] [(.int t)])) _
  refine st1 _ ?_
  show Steps p.tables e below (T1.setTop (mkF m 57 #[.val (.int p0), .val (.int p1), .val (.int t), .val (.int (own_B_s0 t))] [(.int (own_num t))])) _
  refine XS.iloadN X1.here hx rfl (hb hby at_57) rfl ?_
  show Steps p.tables e below (T1.setTop (mkF m 58 #[.val (.int p0), .val (.int p1), .val (.int t), .val (.int (own_B_s0 t))] [(.int (own_B_s0 t)), (.int (own_num t))])) _
  refine XS.icmpNo X1.here hx rfl (hb hby at_58) rfl (teq (own_same t)).2 ?_
  show Steps p.tables e below (T1.setTop (mkF m 61 #[.val (.int p0), .val (.int p1), .val (.int t), .val (.int (own_B_s0 t))] [])) _
  refine XS.iconst X1.here hx rfl (hb hby at_61) ?_
  show Steps p.tables e below (T1.setTop (mkF m 62 #[.val (.int p0), .val (.int p1), .val (.int t), .val (.int (own_B_s0 t))] [(.int (1 : Int32))])) _
  refine XS.goto X1.here hx rfl (pc0 := 62) (pc' := 66) rfl (hb hby at_62) (by decide) (by decide) ?_
  show Steps p.tables e below (T1.setTop (mkF m 66 #[.val (.int p0), .val (.int p1), .val (.int t), .val (.int (own_B_s0 t))] [(.int (1 : Int32))])) _
  exact retN X1 hx (t := .boolean) Bd.returns (by simp) (hb hby at_66) hr
set_option maxRecDepth 65536 in
set_option maxHeartbeats 40000000 in
theorem comes_1 {Post : Tables → Env → Array Value → State → Outcome → State → Prop} (hpost : ∀ tb e args s v u, (limb_1_1.after args s (.returned v) u = true ∧ limb_1_2.after args s (.returned v) u = true ∧ True) → FrameEnd s (.returned v) u (Jvm.fieldLocs frame_1_writes args s ++ Jvm.arrayLocs frame_1_arrays args s ++ Jvm.staticLocs frame_1_statics s) 0 0 → Post tb e args s (.returned v) u) :
    ArmFor flags0 classFile x code maxLocals ret World_1 tables_1 room_1 Calls_1 rest_1 Pre_1 Post := by
  intro l hfl _ _ p e ha hc hk s m args below hf hA hF happ hP
  obtain ⟨hcalls, hrest, hpre⟩ := hP
  obtain ⟨-, -, -, hnamed, -, -, -, hat⟩ := (Spec.applies_iff hf).mp happ
  obtain ⟨hg, hn⟩ := and_e (Cond.before_iff.mp (show (Jvm.Cond.and given_1 narrow_1).before args s = true from hpre))
  obtain ⟨gc, g0⟩ := and_e hg
  obtain ⟨k0, g1⟩ := and_e g0
  obtain ⟨w0, w1, rfl⟩ : ∃ w0 w1 : Value, args = #[w0, w1] := by
    have hs : args.size = 2 := by simpa [Cond.value, given_1] using gc
    obtain ⟨L⟩ := args
    match L, hs with
    | [w0, w1], _ => exact ⟨w0, w1, rfl⟩
  have hw := fun d (hd : d ∈ tables_1) => atoms_spec (ws := Jvm.Cond.code x code maxLocals ret :: tables_1) hat d (List.mem_cons_of_mem _ hd)
  obtain ⟨i0, ei0⟩ := is_v k0
  obtain rfl : w0 = (.int i0) := Option.some.inj ei0
  obtain ⟨i1, ei1⟩ := is_v g1
  obtain rfl : w1 = (.int i1) := Option.some.inj ei1
  obtain ⟨n, o, h1, h2, h3, _, L, rfl, ⟨rfl, N⟩, hq⟩ := rm0 l s _ hw tables_1 i0 i1 s.heap s.heap.size (Nat.le_refl _) p e ha hc hk s m _ below hf ((Spec.applies_iff_loose hf).mp happ).1 ⟨rfl, State.Warmed39.refl s, rfl⟩ trivial
  refine ⟨n, _, h1, h2, h3, hpost _ _ _ _ _ _ ⟨Cond.after_iff.mpr rfl, Cond.after_iff.mpr (eq_i res_at (Term.int_eval (1)) rfl), trivial⟩ ⟨hq.1, hq.2.1, (hq.2.2.sift fun y hy => Or.inr (N y hy)).mono (by decide) (by decide)⟩⟩
theorem main_1_1 : Claimed_1_1 := comes_1 fun _ _ _ _ _ _ h hF => ⟨h.1, hF⟩
theorem main_1_2 : Claimed_1_2 := comes_1 fun _ _ _ _ _ _ h hF => ⟨h.2.1, hF⟩
end Jvm.Pilot.@@N@@
namespace Jvm.Pilot.@@N@@
open Jvm Jvm.ClassFile Sem Op Lib Jvm.Free Jvm.Stand Jvm.Pilot.@@N@@.Jvm.D
/-! MADE BY PROGRAM (witnessworld.py) out of the Statement's table words and the real class files: 9 classes; the members and pool entries that the words name. The judged class is class 1, her method 1. -/
namespace start1
open Jvm.ClassFile
def u (s : String) : CpInfo := .utf8 (stringToUtf16 s)
/-- a pool by its gaps: so many unusable entries, then the entry; so many at the end -/
def gap : Nat → List CpInfo → List CpInfo
  | 0, r => r
  | n + 1, r => .unusable :: gap n r
def poolList (es : List (Nat × CpInfo)) (last : Nat) : List CpInfo := es.foldr (fun e r => gap e.1 (e.2 :: r)) (gap last [])
def pool (es : List (Nat × CpInfo)) (last : Nat) : Array CpInfo := ⟨poolList es last⟩
def fileOf (pool : Array CpInfo) (this : Nat) (attrs : Array Attribute := #[]) (ms : Array MethodInfo := #[]) (fl : Nat := 33) (sup : Nat := 0) (ifs : Array Nat := #[]) (fds : Array FieldInfo := #[]) : ClassFile where
  minorVersion := 0
  majorVersion := 65
  constantPool := pool
  accessFlags := fl
  thisClass := this
  superClass := sup
  interfaces := ifs
  fields := fds
  methods := ms
  attributes := attrs
def plain (name : String) (sup : Option ClassId) : Class where
  name := name
  kind := .ordinary
  loader := none
  accessFlags := 33
  super := sup
  interfaces := #[]
  cf := none
  fields := #[]
  methods := #[]
  instanceTypes := #[]
  staticTypes := #[]
  resolved := #[]
  callSites := []
  init := .initialized
  statics := none
  mirror := none

def pool0 : Array CpInfo := pool [(5, u "<init>"), (0, u "()V"), (1, .class_ 10), (1, u "java/lang/Object")] 113

def k0m0 : Method := { name := "<init>", desc := "()V", sig := { parameters := [], returnType := none }, accessFlags := 1, code := none }
/-- java/lang/Object -/
def k0 : Class := { plain "java/lang/Object" none with
  accessFlags := 33
  interfaces := #[]
  cf := some (fileOf pool0 8 #[] #[{ accessFlags := 1, nameIndex := 5, descriptorIndex := 6, attributes := #[] }] 33 0 #[] #[])
  fields := #[]
  methods := #[k0m0]
  instanceTypes := #[]
  staticTypes := #[]
  resolved := Array.replicate 124 none
  statics := none }

def pool1 : Array CpInfo := pool [(2, .class_ 4), (1, u "java/lang/Object"), (0, u "<init>"), (0, u "()V"), (0, .methodref 8 9), (0, .class_ 10), (0, .nameAndType 11 12), (0, u "com/example/millrace/millrace/binlog/ColumnType"), (0, u "isNumeric"), (0, u "(I)Z"), (0, .class_ 14), (0, u "com/example/millrace/millrace/binlog/ColumnTypeIsNumericPinLaw"), (2, u "law"), (0, u "(II)Z")] 3

def k1m0 : Method := { name := "<init>", desc := "()V", sig := { parameters := [], returnType := none }, accessFlags := 2, code := none }
def k1c1 : Code := { maxStack := 2, maxLocals := 4, code := code, exceptionTable := #[], attributes := #[] }
def k1m1 : Method := { name := "law", desc := "(II)Z", sig := { parameters := [.int, .int], returnType := some .boolean }, accessFlags := 9, code := some k1c1 }
/-- com/example/millrace/millrace/binlog/ColumnTypeIsNumericPinLaw -/
def k1 : Class := { plain "com/example/millrace/millrace/binlog/ColumnTypeIsNumericPinLaw" (some 0) with
  accessFlags := 49
  interfaces := #[]
  cf := some (fileOf pool1 13 #[] #[{ accessFlags := 2, nameIndex := 5, descriptorIndex := 6, attributes := #[] }, { accessFlags := 9, nameIndex := 17, descriptorIndex := 18, attributes := #[] }] 49 2 #[] #[])
  fields := #[]
  methods := #[k1m0, k1m1]
  instanceTypes := #[]
  staticTypes := #[]
  resolved := Array.replicate 22 none
  statics := none }

def pool2 : Array CpInfo := pool [(2, .class_ 4), (1, u "java/lang/Object"), (0, u "<init>"), (0, u "()V"), (0, .class_ 8), (0, u "com/example/millrace/millrace/binlog/ColumnType"), (249, u "TINY"), (0, u "I"), (2, u "SHORT"), (1, u "LONG"), (1, u "FLOAT"), (1, u "DOUBLE"), (1, u "LONGLONG"), (1, u "INT24"), (1, u "DATE"), (1, u "YEAR"), (1, u "VARCHAR"), (1, u "BIT"), (1, u "TIMESTAMP2"), (1, u "DATETIME2"), (1, u "TIME2"), (1, u "JSON"), (1, u "NEWDECIMAL"), (1, u "ENUM"), (1, u "SET"), (1, u "TINY_BLOB"), (1, u "MEDIUM_BLOB"), (1, u "LONG_BLOB"), (1, u "BLOB"), (1, u "VAR_STRING"), (1, u "STRING"), (1, u "GEOMETRY"), (1, u "TIMESTAMP"), (1, u "TIME"), (1, u "DATETIME"), (1, u "MAX_ONE_BYTE_LENGTH"), (0, u "MAX_BLOB_LENGTH_BYTES"), (4, u "isNumeric"), (0, u "(I)Z")] 33

def k2m0 : Method := { name := "<init>", desc := "()V", sig := { parameters := [], returnType := none }, accessFlags := 2, code := none }
def k2c1 : Code := { maxStack := 1, maxLocals := 1, code := prog_15_method_5_code, exceptionTable := #[], attributes := #[] }
def k2m1 : Method := { name := "isNumeric", desc := "(I)Z", sig := { parameters := [.int], returnType := some .boolean }, accessFlags := 8, code := some k2c1 }
/-- com/example/millrace/millrace/binlog/ColumnType -/
def k2 : Class := { plain "com/example/millrace/millrace/binlog/ColumnType" (some 0) with
  accessFlags := 49
  interfaces := #[]
  cf := some (fileOf pool2 7 #[] #[{ accessFlags := 2, nameIndex := 5, descriptorIndex := 6, attributes := #[] }, { accessFlags := 8, nameIndex := 322, descriptorIndex := 323, attributes := #[] }] 49 2 #[] #[{ accessFlags := 25, nameIndex := 258, descriptorIndex := 259, attributes := #[] }, { accessFlags := 25, nameIndex := 262, descriptorIndex := 259, attributes := #[] }, { accessFlags := 25, nameIndex := 264, descriptorIndex := 259, attributes := #[] }, { accessFlags := 25, nameIndex := 266, descriptorIndex := 259, attributes := #[] }, { accessFlags := 25, nameIndex := 268, descriptorIndex := 259, attributes := #[] }, { accessFlags := 25, nameIndex := 270, descriptorIndex := 259, attributes := #[] }, { accessFlags := 25, nameIndex := 272, descriptorIndex := 259, attributes := #[] }, { accessFlags := 25, nameIndex := 274, descriptorIndex := 259, attributes := #[] }, { accessFlags := 25, nameIndex := 276, descriptorIndex := 259, attributes := #[] }, { accessFlags := 25, nameIndex := 278, descriptorIndex := 259, attributes := #[] }, { accessFlags := 25, nameIndex := 280, descriptorIndex := 259, attributes := #[] }, { accessFlags := 25, nameIndex := 282, descriptorIndex := 259, attributes := #[] }, { accessFlags := 25, nameIndex := 284, descriptorIndex := 259, attributes := #[] }, { accessFlags := 25, nameIndex := 286, descriptorIndex := 259, attributes := #[] }, { accessFlags := 25, nameIndex := 288, descriptorIndex := 259, attributes := #[] }, { accessFlags := 25, nameIndex := 290, descriptorIndex := 259, attributes := #[] }, { accessFlags := 25, nameIndex := 292, descriptorIndex := 259, attributes := #[] }, { accessFlags := 25, nameIndex := 294, descriptorIndex := 259, attributes := #[] }, { accessFlags := 25, nameIndex := 296, descriptorIndex := 259, attributes := #[] }, { accessFlags := 25, nameIndex := 298, descriptorIndex := 259, attributes := #[] }, { accessFlags := 25, nameIndex := 300, descriptorIndex := 259, attributes := #[] }, { accessFlags := 25, nameIndex := 302, descriptorIndex := 259, attributes := #[] }, { accessFlags := 25, nameIndex := 304, descriptorIndex := 259, attributes := #[] }, { accessFlags := 25, nameIndex := 306, descriptorIndex := 259, attributes := #[] }, { accessFlags := 25, nameIndex := 308, descriptorIndex := 259, attributes := #[] }, { accessFlags := 25, nameIndex := 310, descriptorIndex := 259, attributes := #[] }, { accessFlags := 25, nameIndex := 312, descriptorIndex := 259, attributes := #[] }, { accessFlags := 25, nameIndex := 314, descriptorIndex := 259, attributes := #[] }, { accessFlags := 26, nameIndex := 316, descriptorIndex := 259, attributes := #[] }, { accessFlags := 26, nameIndex := 317, descriptorIndex := 259, attributes := #[] }])
  fields := #[{ name := "TINY", type := .int, accessFlags := 25, slot := 0, constantValue := 0 }, { name := "SHORT", type := .int, accessFlags := 25, slot := 1, constantValue := 0 }, { name := "LONG", type := .int, accessFlags := 25, slot := 2, constantValue := 0 }, { name := "FLOAT", type := .int, accessFlags := 25, slot := 3, constantValue := 0 }, { name := "DOUBLE", type := .int, accessFlags := 25, slot := 4, constantValue := 0 }, { name := "LONGLONG", type := .int, accessFlags := 25, slot := 5, constantValue := 0 }, { name := "INT24", type := .int, accessFlags := 25, slot := 6, constantValue := 0 }, { name := "DATE", type := .int, accessFlags := 25, slot := 7, constantValue := 0 }, { name := "YEAR", type := .int, accessFlags := 25, slot := 8, constantValue := 0 }, { name := "VARCHAR", type := .int, accessFlags := 25, slot := 9, constantValue := 0 }, { name := "BIT", type := .int, accessFlags := 25, slot := 10, constantValue := 0 }, { name := "TIMESTAMP2", type := .int, accessFlags := 25, slot := 11, constantValue := 0 }, { name := "DATETIME2", type := .int, accessFlags := 25, slot := 12, constantValue := 0 }, { name := "TIME2", type := .int, accessFlags := 25, slot := 13, constantValue := 0 }, { name := "JSON", type := .int, accessFlags := 25, slot := 14, constantValue := 0 }, { name := "NEWDECIMAL", type := .int, accessFlags := 25, slot := 15, constantValue := 0 }, { name := "ENUM", type := .int, accessFlags := 25, slot := 16, constantValue := 0 }, { name := "SET", type := .int, accessFlags := 25, slot := 17, constantValue := 0 }, { name := "TINY_BLOB", type := .int, accessFlags := 25, slot := 18, constantValue := 0 }, { name := "MEDIUM_BLOB", type := .int, accessFlags := 25, slot := 19, constantValue := 0 }, { name := "LONG_BLOB", type := .int, accessFlags := 25, slot := 20, constantValue := 0 }, { name := "BLOB", type := .int, accessFlags := 25, slot := 21, constantValue := 0 }, { name := "VAR_STRING", type := .int, accessFlags := 25, slot := 22, constantValue := 0 }, { name := "STRING", type := .int, accessFlags := 25, slot := 23, constantValue := 0 }, { name := "GEOMETRY", type := .int, accessFlags := 25, slot := 24, constantValue := 0 }, { name := "TIMESTAMP", type := .int, accessFlags := 25, slot := 25, constantValue := 0 }, { name := "TIME", type := .int, accessFlags := 25, slot := 26, constantValue := 0 }, { name := "DATETIME", type := .int, accessFlags := 25, slot := 27, constantValue := 0 }, { name := "MAX_ONE_BYTE_LENGTH", type := .int, accessFlags := 26, slot := 28, constantValue := 0 }, { name := "MAX_BLOB_LENGTH_BYTES", type := .int, accessFlags := 26, slot := 29, constantValue := 0 }]
  methods := #[k2m0, k2m1]
  instanceTypes := #[]
  staticTypes := #[.int, .int, .int, .int, .int, .int, .int, .int, .int, .int, .int, .int, .int, .int, .int, .int, .int, .int, .int, .int, .int, .int, .int, .int, .int, .int, .int, .int, .int, .int]
  resolved := Array.replicate 357 none
  statics := none }

def pool3 : Array CpInfo := pool [(1, u "java/lang/Cloneable"), (0, .class_ 1), (0, u "java/lang/Object"), (0, .class_ 3)] 3

/-- java/lang/Cloneable -/
def k3 : Class := { plain "java/lang/Cloneable" (some 0) with
  accessFlags := 1537
  interfaces := #[]
  cf := some (fileOf pool3 2 #[] #[] 1537 4 #[] #[])
  fields := #[]
  methods := #[]
  instanceTypes := #[]
  staticTypes := #[]
  resolved := Array.replicate 8 none
  statics := none }

def pool4 : Array CpInfo := pool [(1, u "java/io/Serializable"), (0, .class_ 1), (0, u "java/lang/Object"), (0, .class_ 3)] 3

/-- java/io/Serializable -/
def k4 : Class := { plain "java/io/Serializable" (some 0) with
  accessFlags := 1537
  interfaces := #[]
  cf := some (fileOf pool4 2 #[] #[] 1537 4 #[] #[])
  fields := #[]
  methods := #[]
  instanceTypes := #[]
  staticTypes := #[]
  resolved := Array.replicate 8 none
  statics := none }

/-- the primitive byte -/
def k5 : Class := { plain "byte" none with kind := .primitive 'B', accessFlags := 0x411 }
/-- [B -/
def k6 : Class := { plain "[B" (some 0) with kind := .array 5 .byte, interfaces := #[3, 4], accessFlags := 1041 }

/-- the primitive int -/
def k7 : Class := { plain "int" none with kind := .primitive 'I', accessFlags := 0x411 }
/-- [I -/
def k8 : Class := { plain "[I" (some 0) with kind := .array 7 .int, interfaces := #[3, 4], accessFlags := 1041 }

def heap : Heap := #[]
def classes : Array Class := #[k0, k1, k2, k3, k4, k5, k6, k7, k8]
def interned : List (Array UInt16 × Addr) := []
def slotsUsed : Nat := 0
def theMethod : MethodId := ⟨1, 1⟩
def args0 : Array Value := #[.int 5, .int 300]
def aboutOver (below : List Frame) : State where
  vm := { classes := classes, interned := interned.toArray }
  heap := heap
  slotsUsed := slotsUsed
  threads := #[{ frames := .invoking theMethod args0 :: below }]
def below0 : List Frame := [.native { method := ⟨0, 0⟩, args := #[] }]
def about1 : State := aboutOver below0
def p0 : Program := .bare "" "" ""
def e0 : Env := launch0.env 0 0 0
theorem w_frames : about1.frames = Frame.invoking theMethod args0 :: below0 := rfl
set_option maxRecDepth 65536 in
theorem w_args : argsFit about1.vm theMethod args0 = true := by decide +kernel
set_option maxRecDepth 65536 in
theorem w_heap : heapFits about1 = true := by decide +kernel
set_option maxRecDepth 65536 in
theorem w_runnable : about1.curStatus? = some .runnable := by decide +kernel
set_option maxRecDepth 65536 in
theorem w_alone : about1.alone = true := by decide +kernel
set_option maxRecDepth 65536 in
theorem w_named : about1.methodNamed? x = some theMethod := by decide +kernel
set_option maxRecDepth 65536 in
theorem w_hears : about1.hears theMethod below0 = true := by decide +kernel
set_option maxRecDepth 65536 in
theorem w_ripe : about1.ripe theMethod args0 below0 = true := by decide +kernel
theorem w_running : about1.status = .running := rfl
set_option maxRecDepth 65536 in
theorem w_room : about1.hasRoom e0.platform room_1 = true :=
  launch0.hasRoom_least _ room_1 (by decide +kernel) (by decide +kernel) (by decide +kernel) (by decide +kernel) (by decide +kernel) (by decide +kernel)
theorem allAtoms_all (ts : List Jvm.Cond) (a : Array Jvm.Value) (st : Jvm.State) : (allAtoms ts).before a st = ts.all (fun c => c.before a st) := by
  induction ts with
  | nil => rfl
  | cons c t ih =>
    show (Jvm.Cond.and c (allAtoms t)).before a st = _
    rw [Jvm.Cond.before_and, ih, List.all_cons]
def words1 : List Jvm.Cond := Jvm.Cond.code x code maxLocals ret :: tables_1
/-- a 'code' word, met by the world's own term for the bytes: nothing is compared byte by byte -/
theorem code_word {y : MethodName} {bytes : ByteArray} {mx : Nat} {rt : Option FieldType} {a : Array Value} {s : State} {m : MethodId} {meth : Method} {c : Code} (h1 : s.methodNamed? y = some m) (h2 : s.vm.method? m = some meth) (h3 : meth.code = some c) (h4 : c.code = bytes)
    (h5 : (c.maxLocals == mx && c.exceptionTable.isEmpty && decide (c.maxStack ≤ mostOperands) && decide (meth.sig.returnType = rt) && !meth.locks && decide (parseMethodDescriptor y.desc = some meth.sig)) = true) : (Jvm.Cond.code y bytes mx rt).before a s = true := by
  simp only [Bool.and_eq_true, beq_iff_eq, Bool.not_eq_true', decide_eq_true_eq] at h5
  obtain ⟨⟨⟨⟨⟨g1, g2⟩, g3⟩, g4⟩, g5⟩, g6⟩ := h5
  simp [Cond.before, Cond.holds, Cond.value, h1, h2, h3, h4, g1, g2, g3, g4, g5, g6]
def isCode : Jvm.Cond → Bool
  | .code _ _ _ _ => true
  | _ => false
theorem all_split {L : List Jvm.Cond} {P : Jvm.Cond → Bool} (h1 : L.all (fun c => isCode c || P c) = true) (h2 : ∀ c ∈ L.filter isCode, P c = true) : L.all P = true := by
  refine List.all_eq_true.mpr fun c hc => ?_
  have h := List.all_eq_true.mp h1 c hc
  rcases Bool.eq_false_or_eq_true (isCode c) with hi | hi
  · exact h2 c (List.mem_filter.mpr ⟨hc, hi⟩)
  · simpa [hi] using h
set_option maxRecDepth 65536 in
theorem w_c0 : (Jvm.Cond.code x code maxLocals ret).before args0 about1 = true := code_word (m := ⟨1, 1⟩) (meth := k1m1) (c := k1c1) (by decide +kernel) rfl rfl rfl (by decide +kernel)
set_option maxRecDepth 65536 in
theorem w_c1 : (Jvm.Cond.code ({ cls := "com/example/millrace/millrace/binlog/ColumnType", name := "isNumeric", desc := "(I)Z" } : Jvm.MethodName) prog_15_method_5_code (1 : Nat) (Option.some Jvm.ClassFile.FieldType.boolean)).before args0 about1 = true := code_word (m := ⟨2, 1⟩) (meth := k2m1) (c := k2c1) (by decide +kernel) rfl rfl rfl (by decide +kernel)
def codes1 : List Jvm.Cond := [Jvm.Cond.code x code maxLocals ret, Jvm.Cond.code ({ cls := "com/example/millrace/millrace/binlog/ColumnType", name := "isNumeric", desc := "(I)Z" } : Jvm.MethodName) prog_15_method_5_code (1 : Nat) (Option.some Jvm.ClassFile.FieldType.boolean)]
set_option maxRecDepth 65536 in
theorem codes_eq : words1.filter isCode = codes1 := rfl
theorem w_codes : ∀ c ∈ words1.filter isCode, c.before args0 about1 = true := by
  rw [codes_eq]
  intro c hc
  simp only [codes1, List.mem_cons, List.not_mem_nil, or_false] at hc
  rcases hc with rfl | rfl
  · exact w_c0
  · exact w_c1
set_option maxRecDepth 65536 in
theorem w_t1 : words1.all (fun c => isCode c || c.before args0 about1) = true := by decide +kernel
theorem w_tables : (allAtoms (Jvm.Cond.code x code maxLocals ret :: tables_1)).before args0 about1 = true := by
  rw [allAtoms_all]
  show words1.all (fun c => c.before args0 about1) = true
  refine all_split ?_ w_codes
  rw [w_t1]
set_option maxRecDepth 65536 in
theorem w_case : (Jvm.Cond.and given_1 narrow_1).before args0 about1 = true := by decide +kernel
theorem w_applies : (headSpec (Jvm.Cond.code x code maxLocals ret :: tables_1) room_1).applies x e0.platform about1 = true :=
  (Spec.applies_iff w_frames).mpr ⟨w_running, w_runnable, w_alone, w_named, w_hears, w_ripe, w_room, w_tables⟩
theorem atStart : AtStart classFile x code maxLocals ret World_1 tables_1 room_1 Calls_1 rest_1 Pre_1 launch0 p0 e0 about1 theMethod args0 below0 :=
  ⟨lists_1, trivial, launch0.admits_env _ _ _, launch0.least_env, fairChoices_fair.cas, fairChoices_fair.clock, w_frames, w_args, w_heap, w_applies, trivial, trivial, w_case⟩
end start1
theorem witness_1 : WitnessClaimed_1 := ⟨start1.p0, start1.e0, start1.about1, start1.theMethod, start1.args0, start1.below0, start1.atStart⟩
end Jvm.Pilot.@@N@@
