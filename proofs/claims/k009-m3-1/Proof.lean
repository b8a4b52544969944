import JvmDerived
import JvmDerived.Pilot.@@N@@Statement
import JvmDerived.Pilot.@@N@@Code
set_option linter.unusedVariables false
set_option linter.unusedSimpArgs false
namespace Jvm.Pilot.@@N@@
open Jvm Jvm.ClassFile Sem Op Lib Jvm.Free Jvm.Stand Jvm.LawKit Jvm.RoadKit Bundle Jvm.Pilot.@@N@@.Jvm.D
/-! OWN LAYER (the same text in every claim): arrays by a function, and their steps -/
section OwnLayer
variable {p : Program} {l : Launch} {e : Env} {R : Room} {s : State} {m : MethodId} {args : Array Value} {below : List Frame} {meth : Method} {c : Code} {T : State} {locs : List Loc} {cells slots : Nat} {Z : State} {a0 : Array Value} {h h' : Heap} {a b : Addr} {ty : FieldType} {N : Int32} {target : State}
theorem own_retI (X : Stand p l e R s m args below meth c T locs cells slots) (hx : p.tables.exec = Jvm.exec) {pc : Nat} {Ls : Array Slot} {z : Int32} {rest : List Value} (hret : meth.sig.returnType = some .int) (hd : decode c.code pc = .ok (.ireturn, 1)) {fs : List Frame}
    (hl : ∀ (f : JFrame) (acts : List Action), f.method = m → f.locked = none → f.entered = [] → (doReturn e (T.setTop f) acts (some (.int z))).1 = T.setFrames fs) : Steps p.tables e below (T.setTop (mkF m pc Ls (.int z :: rest))) (T.setFrames fs) :=
  retOut X hx hret rfl (Or.inl ⟨rfl, Or.inl rfl, z, rfl⟩) hd hl
theorem own_retJ (X : Stand p l e R s m args below meth c T locs cells slots) (hx : p.tables.exec = Jvm.exec) {pc : Nat} {Ls : Array Slot} {z : Int64} {rest : List Value} (hret : meth.sig.returnType = some .long) (hd : decode c.code pc = .ok (.lreturn, 1)) {fs : List Frame}
    (hl : ∀ (f : JFrame) (acts : List Action), f.method = m → f.locked = none → f.entered = [] → (doReturn e (T.setTop f) acts (some (.long z))).1 = T.setFrames fs) : Steps p.tables e below (T.setTop (mkF m pc Ls (.long z :: rest))) (T.setFrames fs) :=
  retOut X hx hret rfl (Or.inr (Or.inl ⟨rfl, rfl, z, rfl⟩)) hd hl
/-- f with v at the place i -/
def own_up {α : Type} (f : Nat → α) (i : Nat) (v : α) : Nat → α := fun j => if j = i then v else f j
theorem own_up_at {α : Type} (f : Nat → α) (i : Nat) (v : α) : own_up f i v i = v := if_pos rfl
theorem own_up_ne {α : Type} (f : Nat → α) {i j : Nat} (v : α) (q : j ≠ i) : own_up f i v j = f j := if_neg q
/-- an array of N places whose place j holds the int f j -/
def own_AI (Z : State) (h : Heap) (a : Addr) (ty : FieldType) (N : Int32) (f : Nat → Int32) : Prop := ∃ c : Cell, Arr Z h a c ty ∧ c.slots.size = N.toNatClampNeg ∧ ¬ N < 0 ∧ ∀ j, j < N.toNatClampNeg → c.slots[j]? = some (.int (f j))
/-- an array of N places whose place j holds the long f j -/
def own_AJ (Z : State) (h : Heap) (a : Addr) (N : Int32) (f : Nat → Int64) : Prop := ∃ c : Cell, Arr Z h a c .long ∧ c.slots.size = N.toNatClampNeg ∧ ¬ N < 0 ∧ ∀ j, j < N.toNatClampNeg → c.slots[j]? = some (.long (f j))
variable {f : Nat → Int32} {fJ : Nat → Int64}
theorem own_AI.lt (A : own_AI Z h a ty N f) : a < h.size := by obtain ⟨c, A, -⟩ := A; exact A.lt
theorem own_AJ.lt (A : own_AJ Z h a N fJ) : a < h.size := by obtain ⟨c, A, -⟩ := A; exact A.lt
theorem own_AI.ext (A : own_AI Z h a ty N f) (E : Ext h h') : own_AI Z h' a ty N f := by obtain ⟨c, A, r⟩ := A; exact ⟨c, A.ext E, r⟩
theorem own_AJ.ext (A : own_AJ Z h a N fJ) (E : Ext h h') : own_AJ Z h' a N fJ := by obtain ⟨c, A, r⟩ := A; exact ⟨c, A.ext E, r⟩
theorem own_AI.other {sl : Nat} {v : Value} (A : own_AI Z h a ty N f) (W : Wr h h' b sl v) (q : a ≠ b) : own_AI Z h' a ty N f := by obtain ⟨c, A, r⟩ := A; exact ⟨c, A.other W q, r⟩
theorem own_AJ.other {sl : Nat} {v : Value} (A : own_AJ Z h a N fJ) (W : Wr h h' b sl v) (q : a ≠ b) : own_AJ Z h' a N fJ := by obtain ⟨c, A, r⟩ := A; exact ⟨c, A.other W q, r⟩
theorem own_AI.keep {ws : List Addr} (A : own_AI Z h a ty N f) (K : Keep h h' ws) (q : a ∉ ws) : own_AI Z h' a ty N f := by obtain ⟨c, A, r⟩ := A; exact ⟨c, ⟨K.2.1 a c A.1 q, A.2⟩, r⟩
theorem own_AJ.keep {ws : List Addr} (A : own_AJ Z h a N fJ) (K : Keep h h' ws) (q : a ∉ ws) : own_AJ Z h' a N fJ := by obtain ⟨c, A, r⟩ := A; exact ⟨c, ⟨K.2.1 a c A.1 q, A.2⟩, r⟩
theorem own_slots (c : Cell) (i j : Nat) (v : Value) (hj : j < c.slots.size) : (c.setSlot i v).slots[j]? = if j = i then some v else c.slots[j]? := by
  show (c.slots.setIfInBounds i v)[j]? = _
  rw [Array.getElem?_setIfInBounds]
  by_cases q : i = j
  · subst q; simp [hj]
  · simp [q, Ne.symm q]
theorem own_AI.set {i : Nat} {v : Int32} (A : own_AI Z h a ty N f) (W : Wr h h' a i (.int v)) : own_AI Z h' a ty N (own_up f i v) := by
  obtain ⟨c, A, S, M, H⟩ := A
  refine ⟨_, A.same W, by rw [sz_set, S], M, fun j hj => ?_⟩
  rw [own_slots c i j _ (by rw [S]; exact hj)]
  by_cases q : j = i
  · rw [if_pos q, q, own_up_at]
  · rw [if_neg q, own_up_ne _ _ q, H j hj]
theorem own_AJ.set {i : Nat} {v : Int64} (A : own_AJ Z h a N fJ) (W : Wr h h' a i (.long v)) : own_AJ Z h' a N (own_up fJ i v) := by
  obtain ⟨c, A, S, M, H⟩ := A
  refine ⟨_, A.same W, by rw [sz_set, S], M, fun j hj => ?_⟩
  rw [own_slots c i j _ (by rw [S]; exact hj)]
  by_cases q : j = i
  · rw [if_pos q, q, own_up_at]
  · rw [if_neg q, own_up_ne _ _ q, H j hj]
theorem own_AI.fresh {k : ClassId} (A : Arr Z h a (newA k ty N) ty) (hd : defaultValue ty = .int 0) (M : ¬ N < 0) : own_AI Z h a ty N (fun _ => 0) := by
  refine ⟨_, A, sz_new _ _ _, M, fun j hj => ?_⟩
  show (Array.replicate N.toNatClampNeg (defaultValue ty))[j]? = _
  rw [Array.getElem?_replicate, if_pos hj, hd]
theorem own_AJ.fresh {k : ClassId} (A : Arr Z h a (newA k .long N) .long) (M : ¬ N < 0) : own_AJ Z h a N (fun _ => 0) := by
  refine ⟨_, A, sz_new _ _ _, M, fun j hj => ?_⟩
  show (Array.replicate N.toNatClampNeg (defaultValue .long))[j]? = _
  rw [Array.getElem?_replicate, if_pos hj]; rfl
theorem own_AI.congr {f' : Nat → Int32} (A : own_AI Z h a ty N f) (q : ∀ j, j < N.toNatClampNeg → f j = f' j) : own_AI Z h a ty N f' := by
  obtain ⟨c, A, S, M, H⟩ := A
  exact ⟨c, A, S, M, fun j hj => by rw [H j hj, q j hj]⟩
theorem own_AJ.congr {f' : Nat → Int64} (A : own_AJ Z h a N fJ) (q : ∀ j, j < N.toNatClampNeg → fJ j = f' j) : own_AJ Z h a N f' := by
  obtain ⟨c, A, S, M, H⟩ := A
  exact ⟨c, A, S, M, fun j hj => by rw [H j hj, q j hj]⟩
theorem own_lt_nat {j : Int32} (q : ¬ j < 0 ∧ j < N) : j.toNatClampNeg < N.toNatClampNeg := by
  have h1 := nat_of q.1
  have h2 : ¬ N < 0 := by
    intro u; have := q.1; have := q.2
    rw [Int32.lt_iff_toInt_lt] at *; omega
  have h3 := nat_of h2
  have := q.2
  rw [Int32.lt_iff_toInt_lt] at this
  omega
/-- a place in the array, by its number -/
theorem own_ix {j : Int32} (h0 : 0 ≤ j.toInt) (h1 : j.toInt < N.toInt) : ¬ j < 0 ∧ j < N := by
  rw [Int32.lt_iff_toInt_lt, Int32.lt_iff_toInt_lt]
  exact ⟨by show ¬ j.toInt < 0; omega, h1⟩
theorem own_len (X : Stand p l e R s m args below meth c T locs cells slots) (hx : p.tables.exec = Jvm.exec) (hZ : Z.Warmed39 s.vm) (eT : T.heap = h) (A : own_AI Z h a ty N f) {g : JFrame} (hg : g.method = m) {rest : List Value} (hs : g.stack = .ref a :: rest) (hd : decode c.code g.pc = .ok (.arraylength, 1))
    (hr : Steps p.tables e below (T.setTop { g with pc := g.pc + 1, stack := .int N :: rest }) target) : Steps p.tables e below (T.setTop g) target := by
  obtain ⟨cl, A, S, M, -⟩ := A
  refine X.arraylength hx (cell := cl) (by rw [eT]; exact A.1) (State.isArrayOf_alike hZ.alike A.2.1) hg hs hd _ ?_
  rw [len_of S M]; exact hr
theorem own_lenJ (X : Stand p l e R s m args below meth c T locs cells slots) (hx : p.tables.exec = Jvm.exec) (hZ : Z.Warmed39 s.vm) (eT : T.heap = h) (A : own_AJ Z h a N fJ) {g : JFrame} (hg : g.method = m) {rest : List Value} (hs : g.stack = .ref a :: rest) (hd : decode c.code g.pc = .ok (.arraylength, 1))
    (hr : Steps p.tables e below (T.setTop { g with pc := g.pc + 1, stack := .int N :: rest }) target) : Steps p.tables e below (T.setTop g) target := by
  obtain ⟨cl, A, S, M, -⟩ := A
  refine X.arraylength hx (cell := cl) (by rw [eT]; exact A.1) (State.isArrayOf_alike hZ.alike A.2.1) hg hs hd _ ?_
  rw [len_of S M]; exact hr
theorem own_ldI (X : Stand p l e R s m args below meth c T locs cells slots) (hx : p.tables.exec = Jvm.exec) (hZ : Z.Warmed39 s.vm) (eT : T.heap = h) (A : own_AI Z h a .int N f) {j : Int32} (q : ¬ j < 0 ∧ j < N) {g : JFrame} (hg : g.method = m) {rest : List Value} (hs : g.stack = .int j :: .ref a :: rest) (hd : decode c.code g.pc = .ok (.iaload, 1))
    (hr : Steps p.tables e below (T.setTop { g with pc := g.pc + 1, stack := .int (f j.toNatClampNeg) :: rest }) target) : Steps p.tables e below (T.setTop g) target := by
  obtain ⟨cl, A, S, M, H⟩ := A
  exact X.iaload hx (j := j) (by rw [eT]; exact A.1) (State.isArrayOf_alike hZ.alike A.2.1) A.2.2 (inb_of S q) (H _ (own_lt_nat q)) hg hs hd _ hr
theorem own_ldB (X : Stand p l e R s m args below meth c T locs cells slots) (hx : p.tables.exec = Jvm.exec) (hZ : Z.Warmed39 s.vm) (eT : T.heap = h) (A : own_AI Z h a .byte N f) {j : Int32} (q : ¬ j < 0 ∧ j < N) {g : JFrame} (hg : g.method = m) {rest : List Value} (hs : g.stack = .int j :: .ref a :: rest) (hd : decode c.code g.pc = .ok (.baload, 1))
    (hr : Steps p.tables e below (T.setTop { g with pc := g.pc + 1, stack := .int (f j.toNatClampNeg) :: rest }) target) : Steps p.tables e below (T.setTop g) target := by
  obtain ⟨cl, A, S, M, H⟩ := A
  exact X.baloadBytes hx (j := j) (by rw [eT]; exact A.1) (State.isArrayOf_alike hZ.alike A.2.1) A.2.2 (inb_of S q) (H _ (own_lt_nat q)) hg hs hd _ hr
theorem own_ldJ (X : Stand p l e R s m args below meth c T locs cells slots) (hx : p.tables.exec = Jvm.exec) (hZ : Z.Warmed39 s.vm) (eT : T.heap = h) (A : own_AJ Z h a N fJ) {j : Int32} (q : ¬ j < 0 ∧ j < N) {g : JFrame} (hg : g.method = m) {rest : List Value} (hs : g.stack = .int j :: .ref a :: rest) (hd : decode c.code g.pc = .ok (.laload, 1))
    (hr : Steps p.tables e below (T.setTop { g with pc := g.pc + 1, stack := .long (fJ j.toNatClampNeg) :: rest }) target) : Steps p.tables e below (T.setTop g) target := by
  obtain ⟨cl, A, S, M, H⟩ := A
  exact X.laload hx (j := j) (by rw [eT]; exact A.1) (State.isArrayOf_alike hZ.alike A.2.1) A.2.2 (inb_of S q) (H _ (own_lt_nat q)) hg hs hd _ hr
theorem own_stI (X : Stand p l e R s m args below meth c T locs cells slots) (hx : p.tables.exec = Jvm.exec) (hZ : Z.Warmed39 s.vm) (eT : T.heap = h) (A : own_AI Z h a .int N f) {j x : Int32} (q : ¬ j < 0 ∧ j < N) {g : JFrame} (hg : g.method = m) {rest : List Value} (hs : g.stack = .int x :: .int j :: .ref a :: rest) (hd : decode c.code g.pc = .ok (.iastore, 1)) :
    ∃ T' h', Stand p l e R s m args below meth c T' (locs ++ [⟨a, j.toNatClampNeg⟩]) cells slots ∧ T'.heap = h' ∧ Wr h h' a j.toNatClampNeg (.int x) ∧ own_AI Z h' a .int N (own_up f j.toNatClampNeg x) ∧ ∀ target, Steps p.tables e below (T'.setTop { g with pc := g.pc + 1, stack := rest }) target → Steps p.tables e below (T.setTop g) target := by
  have A' := A
  obtain ⟨cl, A, S, M, H⟩ := A
  obtain ⟨T', h', X', e', W', st⟩ := stI X hx hZ eT A (j := j) (inb_of S q) hg hs hd
  exact ⟨T', h', X', e', W', A'.set W', st⟩
theorem own_stB (X : Stand p l e R s m args below meth c T locs cells slots) (hx : p.tables.exec = Jvm.exec) (hZ : Z.Warmed39 s.vm) (eT : T.heap = h) (A : own_AI Z h a .byte N f) {j x : Int32} (q : ¬ j < 0 ∧ j < N) {g : JFrame} (hg : g.method = m) {rest : List Value} (hs : g.stack = .int x :: .int j :: .ref a :: rest) (hd : decode c.code g.pc = .ok (.bastore, 1)) :
    ∃ T' h', Stand p l e R s m args below meth c T' (locs ++ [⟨a, j.toNatClampNeg⟩]) cells slots ∧ T'.heap = h' ∧ Wr h h' a j.toNatClampNeg (.int x.toInt8.toInt32) ∧ own_AI Z h' a .byte N (own_up f j.toNatClampNeg x.toInt8.toInt32) ∧ ∀ target, Steps p.tables e below (T'.setTop { g with pc := g.pc + 1, stack := rest }) target → Steps p.tables e below (T.setTop g) target := by
  have A' := A
  obtain ⟨cl, A, S, M, H⟩ := A
  obtain ⟨T', h', X', e', W', st⟩ := stB X hx hZ eT A (j := j) (inb_of S q) hg hs hd
  exact ⟨T', h', X', e', W', A'.set W', st⟩
theorem own_stJ (X : Stand p l e R s m args below meth c T locs cells slots) (hx : p.tables.exec = Jvm.exec) (hZ : Z.Warmed39 s.vm) (eT : T.heap = h) (A : own_AJ Z h a N fJ) {j : Int32} {x : Int64} (q : ¬ j < 0 ∧ j < N) {g : JFrame} (hg : g.method = m) {rest : List Value} (hs : g.stack = .long x :: .int j :: .ref a :: rest) (hd : decode c.code g.pc = .ok (.lastore, 1)) :
    ∃ T' h', Stand p l e R s m args below meth c T' (locs ++ [⟨a, j.toNatClampNeg⟩]) cells slots ∧ T'.heap = h' ∧ Wr h h' a j.toNatClampNeg (.long x) ∧ own_AJ Z h' a N (own_up fJ j.toNatClampNeg x) ∧ ∀ target, Steps p.tables e below (T'.setTop { g with pc := g.pc + 1, stack := rest }) target → Steps p.tables e below (T.setTop g) target := by
  have A' := A
  obtain ⟨cl, A, S, M, H⟩ := A
  obtain ⟨T', h', X', e', W', st⟩ := stJ X hx hZ eT A (j := j) (inb_of S q) hg hs hd
  exact ⟨T', h', X', e', W', A'.set W', st⟩
theorem own_newI (X : Stand p l e R s m args below meth c T locs cells slots) (hx : p.tables.exec = Jvm.exec) (hZ : Z.Warmed39 s.vm) {aty : ArrayType} (w : (Cond.arrayClass (newarray.typeOf aty)).before a0 Z = true) (hdv : defaultValue (newarray.typeOf aty) = .int 0) (eT : T.heap = h) {g : JFrame} (hg : g.method = m) (hd : decode c.code g.pc = .ok (.newarray aty, 2)) {n : Int32} {rest : List Value} (hs : g.stack = .int n :: rest)
    (hn : ¬ n < 0) {cap : Nat} (hcap : n.toNatClampNeg ≤ cap) (hb : cap * 8 ≤ 536870912) (hc : cells + 1 ≤ R.cells) (hl : slots + cap ≤ R.slots) :
    ∃ T' h', Stand p l e R s m args below meth c T' locs (cells + 1) (slots + cap) ∧ T'.heap = h' ∧ Ext h h' ∧ own_AI Z h' h.size (newarray.typeOf aty) n (fun _ => 0) ∧ ∀ target, Steps p.tables e below (T'.setTop { g with pc := g.pc + 2, stack := .ref h.size :: rest }) target → Steps p.tables e below (T.setTop g) target := by
  obtain ⟨T', h', k, X', e', E', A', st⟩ := newP X hx hZ w eT hg hd hs hn hcap hb hc hl
  exact ⟨T', h', X', e', E', own_AI.fresh A' hdv hn, st⟩
theorem own_newJ (X : Stand p l e R s m args below meth c T locs cells slots) (hx : p.tables.exec = Jvm.exec) (hZ : Z.Warmed39 s.vm) (w : (Cond.arrayClass .long).before a0 Z = true) (eT : T.heap = h) {g : JFrame} (hg : g.method = m) (hd : decode c.code g.pc = .ok (.newarray .long, 2)) {n : Int32} {rest : List Value} (hs : g.stack = .int n :: rest)
    (hn : ¬ n < 0) {cap : Nat} (hcap : n.toNatClampNeg ≤ cap) (hb : cap * 8 ≤ 536870912) (hc : cells + 1 ≤ R.cells) (hl : slots + cap ≤ R.slots) :
    ∃ T' h', Stand p l e R s m args below meth c T' locs (cells + 1) (slots + cap) ∧ T'.heap = h' ∧ Ext h h' ∧ own_AJ Z h' h.size n (fun _ => 0) ∧ ∀ target, Steps p.tables e below (T'.setTop { g with pc := g.pc + 2, stack := .ref h.size :: rest }) target → Steps p.tables e below (T.setTop g) target := by
  obtain ⟨T', h', k, X', e', E', A', st⟩ := newP (aty := .long) X hx hZ w eT hg hd hs hn hcap hb hc hl
  exact ⟨T', h', X', e', E', own_AJ.fresh A' hn, st⟩
theorem own_ne_obj {C : String} {k : Nat} (F : Exa Z h a C) (wi : (Cond.instantiable C k).before a0 Z = true) (A : own_AI Z h b ty N f) : a ≠ b := by obtain ⟨c, A, -⟩ := A; exact ne_arr F wi A
theorem own_ne_objJ {C : String} {k : Nat} (F : Exa Z h a C) (wi : (Cond.instantiable C k).before a0 Z = true) (A : own_AJ Z h b N fJ) : a ≠ b := by obtain ⟨c, A, -⟩ := A; exact ne_arr F wi A
theorem own_selp {s : State} {b0 args : Array Value} {y : MethodName} {n : Nat} (wi : (Cond.instantiable y.cls n).before b0 s = true) (hp : s.PrivateAt y) (hi : (Cond.instanceMethod y).before b0 s = true) (hy : y.cls ≠ "java/lang/invoke/MethodHandle" ∧ y.cls ≠ "java/lang/invoke/VarHandle") : (Cond.selects y.cls y y).before args s = true := by
  obtain ⟨c, k, hc, hk, -, hab, -, -⟩ := Cond.instantiable_spec wi
  have hni : k.isInterface = false := by
    cases q : k.isInterface with
    | false => rfl
    | true => rw [q] at hab; simp at hab
  have r := selects_self_of_private (args := b0) hc hk hni hp hi hy
  exact r
end OwnLayer
/-! OWN LAYER: machine numbers as integers -/
section OwnNums
variable {x y : Int32} {u v : Int64} {a b : Int}
theorem own_i_add (hx : x.toInt = a) (hy : y.toInt = b) (h : -2147483648 ≤ a + b ∧ a + b < 2147483648) : (x + y).toInt = a + b := by
  rw [Jvm.Free.XT.add32 (by rw [hx, hy]; exact h), hx, hy]
theorem own_i_sub (hx : x.toInt = a) (hy : y.toInt = b) (h : -2147483648 ≤ a - b ∧ a - b < 2147483648) : (x - y).toInt = a - b := by
  rw [Jvm.Free.XT.sub32 (by rw [hx, hy]; exact h), hx, hy]
theorem own_i_mul (hx : x.toInt = a) (hy : y.toInt = b) (h : -2147483648 ≤ a * b ∧ a * b < 2147483648) : (x * y).toInt = a * b := by
  rw [Jvm.Free.XT.mul32 (by rw [hx, hy]; exact h), hx, hy]
theorem own_i_div (hx : x.toInt = a) (hy : y.toInt = b) (h : 0 ≤ a ∧ 0 < b) : (x / y).toInt = a / b := by
  rw [(c_idiv x y b hy (fun q => by rw [q] at hy; have : (-1 : Int32).toInt = -1 := rfl; omega)).1 (by omega), hx]
theorem own_i_mod (hx : x.toInt = a) (hy : y.toInt = b) (h : 0 ≤ a ∧ 0 < b) : (x % y).toInt = a % b := by
  rw [(c_irem x y b hy).1 (by omega), hx]
theorem own_l_add (hu : u.toInt = a) (hv : v.toInt = b) (h : -9223372036854775808 ≤ a + b ∧ a + b < 9223372036854775808) : (u + v).toInt = a + b := by
  rw [Jvm.Free.XT.add64 (by rw [hu, hv]; exact h), hu, hv]
theorem own_l_sub (hu : u.toInt = a) (hv : v.toInt = b) (h : -9223372036854775808 ≤ a - b ∧ a - b < 9223372036854775808) : (u - v).toInt = a - b := by
  rw [Jvm.Free.XT.sub64 (by rw [hu, hv]; exact h), hu, hv]
theorem own_l_mul (hu : u.toInt = a) (hv : v.toInt = b) (h : -9223372036854775808 ≤ a * b ∧ a * b < 9223372036854775808) : (u * v).toInt = a * b := by
  rw [Jvm.Free.XT.mul64 (by rw [hu, hv]; exact h), hu, hv]
theorem own_l_div (hu : u.toInt = a) (hv : v.toInt = b) (h : 0 ≤ a ∧ 0 < b) : (u / v).toInt = a / b := by
  rw [(c_ldiv u v b hv (fun q => by rw [q] at hv; have : (-1 : Int64).toInt = -1 := rfl; omega)).1 (by omega), hu]
theorem own_l_divN (hu : u.toInt = a) (hv : v.toInt = b) (h : a < 0 ∧ 0 < b) : (u / v).toInt = -((-a) / b) := by
  rw [(c_ldiv u v b hv (fun q => by rw [q] at hv; have : (-1 : Int64).toInt = -1 := rfl; omega)).2 (by omega), hu]
theorem own_i2l (hx : x.toInt = a) : (x.toInt64).toInt = a := by rw [c_i2l, hx]
theorem own_l2i (hu : u.toInt = a) (h : -2147483648 ≤ a ∧ a < 2147483648) : (u.toInt32).toInt = a := by
  have h1 := c_l2i u; have h2 := rng32 u.toInt32; omega
theorem own_i_mask (m : Int32) (k : Nat) (hk : k ≤ 31) (hm : m.toBitVec.toNat = 2 ^ k - 1) (hx : x.toInt = a) : (x &&& m).toInt = a % (2 ^ k : Nat) := by rw [c_mask x m k hk hm, hx]
theorem own_i_lt (hx : x.toInt = a) (hy : y.toInt = b) : x < y ↔ a < b := by rw [Int32.lt_iff_toInt_lt, hx, hy]
theorem own_l_lt (hu : u.toInt = a) (hv : v.toInt = b) : u < v ↔ a < b := by rw [Int64.lt_iff_toInt_lt, hu, hv]
theorem own_i_eq (hx : x.toInt = a) (hy : y.toInt = b) : x = y ↔ a = b := by rw [← Int32.toInt_inj, hx, hy]
theorem own_l_eq (hu : u.toInt = a) (hv : v.toInt = b) : u = v ↔ a = b := by rw [← Int64.toInt_inj, hu, hv]
theorem own_i_nat (hx : x.toInt = a) (h : 0 ≤ a) : x.toNatClampNeg = a.toNat := by show x.toInt.toNat = a.toNat; rw [hx]
theorem own_i_of (h : x.toInt = y.toInt) : x = y := Int32.toInt_inj.mp h
theorem own_l_of (h : u.toInt = v.toInt) : u = v := Int64.toInt_inj.mp h
end OwnNums
theorem d1_0 : decode prog_30_method_2_code 0 = .ok (.iload_n 0, 1) := by decide +kernel
theorem d1_1 : decode prog_30_method_2_code 1 = .ok (.bipush 27, 2) := by decide +kernel
theorem d1_3 : decode prog_30_method_2_code 3 = .ok (.if_icmp .eq 9, 3) := by decide +kernel
theorem d1_6 : decode prog_30_method_2_code 6 = .ok (.iload_n 0, 1) := by decide +kernel
theorem d1_7 : decode prog_30_method_2_code 7 = .ok (.bipush 41, 2) := by decide +kernel
theorem d1_9 : decode prog_30_method_2_code 9 = .ok (.if_icmp .ne 11, 3) := by decide +kernel
theorem d1_12 : decode prog_30_method_2_code 12 = .ok (.ldc2_w 70, 3) := by decide +kernel
theorem d1_15 : decode prog_30_method_2_code 15 = .ok (.lstore 9, 2) := by decide +kernel
theorem d1_17 : decode prog_30_method_2_code 17 = .ok (.goto 54, 3) := by decide +kernel
theorem d1_20 : decode prog_30_method_2_code 20 = .ok (.lload 4, 2) := by decide +kernel
theorem d1_22 : decode prog_30_method_2_code 22 = .ok (.lconst 0, 1) := by decide +kernel
theorem d1_23 : decode prog_30_method_2_code 23 = .ok (.lcmp, 1) := by decide +kernel
theorem d1_24 : decode prog_30_method_2_code 24 = .ok (.ifCond .eq 17, 3) := by decide +kernel
theorem d1_27 : decode prog_30_method_2_code 27 = .ok (.iload 8, 2) := by decide +kernel
theorem d1_29 : decode prog_30_method_2_code 29 = .ok (.ifCond .ne 12, 3) := by decide +kernel
theorem d1_32 : decode prog_30_method_2_code 32 = .ok (.lload 4, 2) := by decide +kernel
theorem d1_34 : decode prog_30_method_2_code 34 = .ok (.lload_n 2, 1) := by decide +kernel
theorem d1_35 : decode prog_30_method_2_code 35 = .ok (.lsub, 1) := by decide +kernel
theorem d1_36 : decode prog_30_method_2_code 36 = .ok (.lstore 9, 2) := by decide +kernel
theorem d1_38 : decode prog_30_method_2_code 38 = .ok (.goto 33, 3) := by decide +kernel
theorem d1_41 : decode prog_30_method_2_code 41 = .ok (.iload_n 1, 1) := by decide +kernel
theorem d1_42 : decode prog_30_method_2_code 42 = .ok (.bipush 32, 2) := by decide +kernel
theorem d1_44 : decode prog_30_method_2_code 44 = .ok (.iand, 1) := by decide +kernel
theorem d1_45 : decode prog_30_method_2_code 45 = .ok (.ifCond .ne 14, 3) := by decide +kernel
theorem d1_48 : decode prog_30_method_2_code 48 = .ok (.iload_n 0, 1) := by decide +kernel
theorem d1_49 : decode prog_30_method_2_code 49 = .ok (.bipush 15, 2) := by decide +kernel
theorem d1_51 : decode prog_30_method_2_code 51 = .ok (.if_icmp .ne 16, 3) := by decide +kernel
theorem d1_54 : decode prog_30_method_2_code 54 = .ok (.iload 8, 2) := by decide +kernel
theorem d1_56 : decode prog_30_method_2_code 56 = .ok (.ifCond .ne 11, 3) := by decide +kernel
theorem d1_59 : decode prog_30_method_2_code 59 = .ok (.ldc2_w 70, 3) := by decide +kernel
theorem d1_62 : decode prog_30_method_2_code 62 = .ok (.lstore 9, 2) := by decide +kernel
theorem d1_64 : decode prog_30_method_2_code 64 = .ok (.goto 7, 3) := by decide +kernel
theorem d1_67 : decode prog_30_method_2_code 67 = .ok (.lload 6, 2) := by decide +kernel
theorem d1_69 : decode prog_30_method_2_code 69 = .ok (.lstore 9, 2) := by decide +kernel
theorem d1_71 : decode prog_30_method_2_code 71 = .ok (.lload 9, 2) := by decide +kernel
theorem d1_73 : decode prog_30_method_2_code 73 = .ok (.lreturn, 1) := by decide +kernel
theorem pn_1 : plainName "com/example/millrace/millrace/binlog/LogEvent" = true := by first | (simp [plainName, overriddenIn]; done) | decide +kernel
theorem ef_1 (m : MethodId) (x0 : Int32) (x1 : Int32) (x2 : Int64) (x3 : Int64) (x4 : Int64) (x5 : Int32) : entryFrame m #[(.int x0), (.int x1), (.long x2), (.long x3), (.long x4), (.int x5)] 11 = mkF m 0 #[.val (.int x0), .val (.int x1), .val (.long x2), .second, .val (.long x3), .second, .val (.long x4), .second, .val (.int x5), .unset, .unset] [] := by first | (simp [entryFrame, mkF, argsToLocals, Value.category]; done) | rfl
def own_off (p0 : Int32) (p1 : Int32) (q2 : Int64) (q3 : Int64) (q4 : Int64) (p5 : Int32) : Int64 := (if p0 = (27 : Int32) then (-1 : Int64) else (if p0 = (41 : Int32) then (-1 : Int64) else (if q3 = (0 : Int64) then (if (p1 &&& (32 : Int32)) = (0 : Int32) then (if p0 = (15 : Int32) then (if p5 = (0 : Int32) then (-1 : Int64) else q4) else q4) else (-1 : Int64)) else (if p5 = (0 : Int32) then (q3 - q2) else (if (p1 &&& (32 : Int32)) = (0 : Int32) then q4 else (-1 : Int64))))))
def Q1 (Z : State) (p0 : Int32) (p1 : Int32) (q2 : Int64) (q3 : Int64) (q4 : Int64) (p5 : Int32) (h0 : Heap) (n0 : Nat) (v : Option Value) (h : Heap) (L : List Loc) : Prop := v = some (.long (own_off p0 p1 q2 q3 q4 p5)) ∧ Fr n0 L ∧ h = h0
set_option maxRecDepth 65536 in
set_option maxHeartbeats 40000000 in
theorem rm1 (l : Launch) (Z : State) (a0 : Array Value) (hw : ∀ d ∈ tables_1, d.before a0 Z = true) (ws : List Jvm.Cond) (p0 : Int32) (p1 : Int32) (q2 : Int64) (q3 : Int64) (q4 : Int64) (p5 : Int32) (h0 : Heap) (n0 : Nat) (Z0 : n0 ≤ h0.size)  :
    MetFree l (⟨"com/example/millrace/millrace/binlog/LogEvent", "offset", "(IIJJJZ)J"⟩ : MethodName) (head1 (Jvm.Cond.code (⟨"com/example/millrace/millrace/binlog/LogEvent", "offset", "(IIJJJZ)J"⟩ : MethodName) prog_30_method_2_code 11 (some .long) :: ws) ({ frames := 0, cells := 0, slots := 0, locals := 0 } : Room)) (fun a_ U_ => a_ = #[(.int p0), (.int p1), (.long q2), (.long q3), (.long q4), (.int p5)] ∧ Z.Warmed39 U_.vm ∧ U_.heap = h0) (fun _ _ _ _ _ => True) (fun _ U_ o_ U' => ∃ v_ L_, o_ = .returned v_ ∧ (Q1 Z p0 p1 q2 q3 q4 p5 h0 n0 v_ U'.heap L_) ∧ FrameEnd U_ o_ U' L_ ({ frames := 0, cells := 0, slots := 0, locals := 0 } : Room).cells ({ frames := 0, cells := 0, slots := 0, locals := 0 } : Room).slots) := by
  refine MetFree.of_bodySF (plainFor_of_name pn_1) hisR ?_
  intro p e s m args below meth c s₁ Bd hml0 hP hK
  obtain ⟨rfl, hZ, hh⟩ := hP
  have hx := Bd.exec
  have hby := Bd.bytes
  have hml : c.maxLocals = 11 := hml0
  have hown : s.vm.findClass "com/example/millrace/millrace/binlog/LogEvent" = some m.cls := findClass_of_methodNamed Bd.named
  have hnm := (name_of_methodNamed Bd.named Bd.method).1
  have X0 : Stand p l e ({ frames := 0, cells := 0, slots := 0, locals := 0 } : Room) s m #[(.int p0), (.int p1), (.long q2), (.long q3), (.long q4), (.int p5)] below meth c s₁ [] 0 0 := Stand.of_body Bd
  have e0 : s₁.heap = h0 := by rw [← hh, Bd.state]; rfl
  have N0 := Fr.nil n0
  have pre0 : ∀ t, Steps p.tables e below (s₁.setTop (mkF m 0 #[.val (.int p0), .val (.int p1), .val (.long q2), .second, .val (.long q3), .second, .val (.long q4), .second, .val (.int p5), .unset, .unset] [])) t → Steps p.tables e below (s₁.setTop (entryFrame m #[(.int p0), (.int p1), (.long q2), (.long q3), (.long q4), (.int p5)] 11)) t := fun t k => castTop (ef_1 m p0 p1 q2 q3 q4 p5) k
  obtain ⟨fs, hr, hrun, hended, hW, hsame⟩ := X0.leave (v := some (.long (own_off p0 p1 q2 q3 q4 p5))) (fun h => by rw [Bd.returns] at h; cases h)
  refine ⟨_, _, pre0 _ ?_, hrun, hended, _, _, rfl, ⟨rfl, N0, e0⟩, ⟨_, rfl⟩, hW, hsame.mono (by decide) (by decide)⟩
  show Steps p.tables e below (s₁.setTop (mkF m 0 #[.val (.int p0), .val (.int p1), .val (.long q2), .second, .val (.long q3), .second, .val (.long q4), .second, .val (.int p5), .unset, .unset] [])) _
  refine XS.iloadN X0.here hx rfl (hb hby d1_0) rfl ?_
  show Steps p.tables e below (s₁.setTop (mkF m 1 #[.val (.int p0), .val (.int p1), .val (.long q2), .second, .val (.long q3), .second, .val (.long q4), .second, .val (.int p5), .unset, .unset] [(.int p0)])) _
  refine XS.bipush X0.here hx rfl (hb hby d1_1) ?_
  show Steps p.tables e below (s₁.setTop (mkF m 3 #[.val (.int p0), .val (.int p1), .val (.long q2), .second, .val (.long q3), .second, .val (.long q4), .second, .val (.int p5), .unset, .unset] [(.int (27 : Int32)), (.int p0)])) _
  by_cases hc3 : p0 = (27 : Int32)
  · refine XS.icmpYes X0.here hx rfl (pc0 := 3) (pc' := 12) rfl (hb hby d1_3) rfl (teq hc3).1 (by decide) (by decide) ?_
    show Steps p.tables e below (s₁.setTop (mkF m 12 #[.val (.int p0), .val (.int p1), .val (.long q2), .second, .val (.long q3), .second, .val (.long q4), .second, .val (.int p5), .unset, .unset] [])) _
    refine X0.ldc2J hx hown (mvT hZ (hw _ (List.mem_of_getElem? (i := 4) rfl))) rfl (hb hby d1_12) ?_
    show Steps p.tables e below (s₁.setTop (mkF m 15 #[.val (.int p0), .val (.int p1), .val (.long q2), .second, .val (.long q3), .second, .val (.long q4), .second, .val (.int p5), .unset, .unset] [(.long (-1 : Int64))])) _
    refine XS.lstore X0.here hx rfl (hb hby d1_15) rfl (l' := #[.val (.int p0), .val (.int p1), .val (.long q2), .second, .val (.long q3), .second, .val (.long q4), .second, .val (.int p5), .val (.long (-1 : Int64)), .second]) rfl ?_
    show Steps p.tables e below (s₁.setTop (mkF m 17 #[.val (.int p0), .val (.int p1), .val (.long q2), .second, .val (.long q3), .second, .val (.long q4), .second, .val (.int p5), .val (.long (-1 : Int64)), .second] [])) _
    refine XS.goto X0.here hx rfl (pc0 := 17) (pc' := 71) rfl (hb hby d1_17) (by decide) (by decide) ?_
    show Steps p.tables e below (s₁.setTop (mkF m 71 #[.val (.int p0), .val (.int p1), .val (.long q2), .second, .val (.long q3), .second, .val (.long q4), .second, .val (.int p5), .val (.long (-1 : Int64)), .second] [])) _
    refine XS.lload X0.here hx rfl (hb hby d1_71) rfl ?_
    show Steps p.tables e below (s₁.setTop (mkF m 73 #[.val (.int p0), .val (.int p1), .val (.long q2), .second, .val (.long q3), .second, .val (.long q4), .second, .val (.int p5), .val (.long (-1 : Int64)), .second] [(.long (-1 : Int64))])) _
    rw [show (own_off p0 p1 q2 q3 q4 p5) = (-1 : Int64) from by unfold own_off; rw [if_pos hc3]] at hr
    exact own_retJ X0 hx Bd.returns (hb hby d1_73) hr
  · refine XS.icmpNo X0.here hx rfl (hb hby d1_3) rfl (feq hc3).1 ?_
    show Steps p.tables e below (s₁.setTop (mkF m 6 #[.val (.int p0), .val (.int p1), .val (.long q2), .second, .val (.long q3), .second, .val (.long q4), .second, .val (.int p5), .unset, .unset] [])) _
    refine XS.iloadN X0.here hx rfl (hb hby d1_6) rfl ?_
    show Steps p.tables e below (s₁.setTop (mkF m 7 #[.val (.int p0), .val (.int p1), .val (.long q2), .second, .val (.long q3), .second, .val (.long q4), .second, .val (.int p5), .unset, .unset] [(.int p0)])) _
    refine XS.bipush X0.here hx rfl (hb hby d1_7) ?_
    show Steps p.tables e below (s₁.setTop (mkF m 9 #[.val (.int p0), .val (.int p1), .val (.long q2), .second, .val (.long q3), .second, .val (.long q4), .second, .val (.int p5), .unset, .unset] [(.int (41 : Int32)), (.int p0)])) _
    by_cases hc9 : p0 = (41 : Int32)
    · refine XS.icmpNo X0.here hx rfl (hb hby d1_9) rfl (teq hc9).2 ?_
      show Steps p.tables e below (s₁.setTop (mkF m 12 #[.val (.int p0), .val (.int p1), .val (.long q2), .second, .val (.long q3), .second, .val (.long q4), .second, .val (.int p5), .unset, .unset] [])) _
      refine X0.ldc2J hx hown (mvT hZ (hw _ (List.mem_of_getElem? (i := 4) rfl))) rfl (hb hby d1_12) ?_
      show Steps p.tables e below (s₁.setTop (mkF m 15 #[.val (.int p0), .val (.int p1), .val (.long q2), .second, .val (.long q3), .second, .val (.long q4), .second, .val (.int p5), .unset, .unset] [(.long (-1 : Int64))])) _
      refine XS.lstore X0.here hx rfl (hb hby d1_15) rfl (l' := #[.val (.int p0), .val (.int p1), .val (.long q2), .second, .val (.long q3), .second, .val (.long q4), .second, .val (.int p5), .val (.long (-1 : Int64)), .second]) rfl ?_
      show Steps p.tables e below (s₁.setTop (mkF m 17 #[.val (.int p0), .val (.int p1), .val (.long q2), .second, .val (.long q3), .second, .val (.long q4), .second, .val (.int p5), .val (.long (-1 : Int64)), .second] [])) _
      refine XS.goto X0.here hx rfl (pc0 := 17) (pc' := 71) rfl (hb hby d1_17) (by decide) (by decide) ?_
      show Steps p.tables e below (s₁.setTop (mkF m 71 #[.val (.int p0), .val (.int p1), .val (.long q2), .second, .val (.long q3), .second, .val (.long q4), .second, .val (.int p5), .val (.long (-1 : Int64)), .second] [])) _
      refine XS.lload X0.here hx rfl (hb hby d1_71) rfl ?_
      show Steps p.tables e below (s₁.setTop (mkF m 73 #[.val (.int p0), .val (.int p1), .val (.long q2), .second, .val (.long q3), .second, .val (.long q4), .second, .val (.int p5), .val (.long (-1 : Int64)), .second] [(.long (-1 : Int64))])) _
      rw [show (own_off p0 p1 q2 q3 q4 p5) = (-1 : Int64) from by unfold own_off; rw [if_neg hc3, if_pos hc9]] at hr
      exact own_retJ X0 hx Bd.returns (hb hby d1_73) hr
    · refine XS.icmpYes X0.here hx rfl (pc0 := 9) (pc' := 20) rfl (hb hby d1_9) rfl (feq hc9).2 (by decide) (by decide) ?_
      show Steps p.tables e below (s₁.setTop (mkF m 20 #[.val (.int p0), .val (.int p1), .val (.long q2), .second, .val (.long q3), .second, .val (.long q4), .second, .val (.int p5), .unset, .unset] [])) _
      refine XS.lload X0.here hx rfl (hb hby d1_20) rfl ?_
      show Steps p.tables e below (s₁.setTop (mkF m 22 #[.val (.int p0), .val (.int p1), .val (.long q2), .second, .val (.long q3), .second, .val (.long q4), .second, .val (.int p5), .unset, .unset] [(.long q3)])) _
      refine XS.lconst X0.here hx rfl (hb hby d1_22) ?_
      show Steps p.tables e below (s₁.setTop (mkF m 23 #[.val (.int p0), .val (.int p1), .val (.long q2), .second, .val (.long q3), .second, .val (.long q4), .second, .val (.int p5), .unset, .unset] [(.long (0 : Int64)), (.long q3)])) _
      refine XS.lcmp X0.here hx rfl (hb hby d1_23) rfl ?_
      show Steps p.tables e below (s₁.setTop (mkF m 24 #[.val (.int p0), .val (.int p1), .val (.long q2), .second, .val (.long q3), .second, .val (.long q4), .second, .val (.int p5), .unset, .unset] [(.int (lcmpW q3 (0 : Int64)))])) _
      by_cases hc24 : q3 = (0 : Int64)
      · refine XS.ifYes X0.here hx rfl (pc0 := 24) (pc' := 41) rfl (hb hby d1_24) rfl ((if0 _ _).trans (teq ((lw_eq q3 (0 : Int64)).mpr hc24)).1) (by decide) (by decide) ?_
        show Steps p.tables e below (s₁.setTop (mkF m 41 #[.val (.int p0), .val (.int p1), .val (.long q2), .second, .val (.long q3), .second, .val (.long q4), .second, .val (.int p5), .unset, .unset] [])) _
        refine XS.iloadN X0.here hx rfl (hb hby d1_41) rfl ?_
        show Steps p.tables e below (s₁.setTop (mkF m 42 #[.val (.int p0), .val (.int p1), .val (.long q2), .second, .val (.long q3), .second, .val (.long q4), .second, .val (.int p5), .unset, .unset] [(.int p1)])) _
        refine XS.bipush X0.here hx rfl (hb hby d1_42) ?_
        show Steps p.tables e below (s₁.setTop (mkF m 44 #[.val (.int p0), .val (.int p1), .val (.long q2), .second, .val (.long q3), .second, .val (.long q4), .second, .val (.int p5), .unset, .unset] [(.int (32 : Int32)), (.int p1)])) _
        refine XS.iand X0.here hx rfl (hb hby d1_44) rfl ?_
        show Steps p.tables e below (s₁.setTop (mkF m 45 #[.val (.int p0), .val (.int p1), .val (.long q2), .second, .val (.long q3), .second, .val (.long q4), .second, .val (.int p5), .unset, .unset] [(.int (p1 &&& (32 : Int32)))])) _
        by_cases hc45 : (p1 &&& (32 : Int32)) = (0 : Int32)
        · refine XS.ifNo X0.here hx rfl (hb hby d1_45) rfl ((if0 _ _).trans (teq hc45).2) ?_
          show Steps p.tables e below (s₁.setTop (mkF m 48 #[.val (.int p0), .val (.int p1), .val (.long q2), .second, .val (.long q3), .second, .val (.long q4), .second, .val (.int p5), .unset, .unset] [])) _
          refine XS.iloadN X0.here hx rfl (hb hby d1_48) rfl ?_
          show Steps p.tables e below (s₁.setTop (mkF m 49 #[.val (.int p0), .val (.int p1), .val (.long q2), .second, .val (.long q3), .second, .val (.long q4), .second, .val (.int p5), .unset, .unset] [(.int p0)])) _
          refine XS.bipush X0.here hx rfl (hb hby d1_49) ?_
          show Steps p.tables e below (s₁.setTop (mkF m 51 #[.val (.int p0), .val (.int p1), .val (.long q2), .second, .val (.long q3), .second, .val (.long q4), .second, .val (.int p5), .unset, .unset] [(.int (15 : Int32)), (.int p0)])) _
          by_cases hc51 : p0 = (15 : Int32)
          · refine XS.icmpNo X0.here hx rfl (hb hby d1_51) rfl (teq hc51).2 ?_
            show Steps p.tables e below (s₁.setTop (mkF m 54 #[.val (.int p0), .val (.int p1), .val (.long q2), .second, .val (.long q3), .second, .val (.long q4), .second, .val (.int p5), .unset, .unset] [])) _
            refine XS.iload X0.here hx rfl (hb hby d1_54) rfl ?_
            show Steps p.tables e below (s₁.setTop (mkF m 56 #[.val (.int p0), .val (.int p1), .val (.long q2), .second, .val (.long q3), .second, .val (.long q4), .second, .val (.int p5), .unset, .unset] [(.int p5)])) _
            by_cases hc56 : p5 = (0 : Int32)
            · refine XS.ifNo X0.here hx rfl (hb hby d1_56) rfl ((if0 _ _).trans (teq hc56).2) ?_
              show Steps p.tables e below (s₁.setTop (mkF m 59 #[.val (.int p0), .val (.int p1), .val (.long q2), .second, .val (.long q3), .second, .val (.long q4), .second, .val (.int p5), .unset, .unset] [])) _
              refine X0.ldc2J hx hown (mvT hZ (hw _ (List.mem_of_getElem? (i := 4) rfl))) rfl (hb hby d1_59) ?_
              show Steps p.tables e below (s₁.setTop (mkF m 62 #[.val (.int p0), .val (.int p1), .val (.long q2), .second, .val (.long q3), .second, .val (.long q4), .second, .val (.int p5), .unset, .unset] [(.long (-1 : Int64))])) _
              refine XS.lstore X0.here hx rfl (hb hby d1_62) rfl (l' := #[.val (.int p0), .val (.int p1), .val (.long q2), .second, .val (.long q3), .second, .val (.long q4), .second, .val (.int p5), .val (.long (-1 : Int64)), .second]) rfl ?_
              show Steps p.tables e below (s₁.setTop (mkF m 64 #[.val (.int p0), .val (.int p1), .val (.long q2), .second, .val (.long q3), .second, .val (.long q4), .second, .val (.int p5), .val (.long (-1 : Int64)), .second] [])) _
              refine XS.goto X0.here hx rfl (pc0 := 64) (pc' := 71) rfl (hb hby d1_64) (by decide) (by decide) ?_
              show Steps p.tables e below (s₁.setTop (mkF m 71 #[.val (.int p0), .val (.int p1), .val (.long q2), .second, .val (.long q3), .second, .val (.long q4), .second, .val (.int p5), .val (.long (-1 : Int64)), .second] [])) _
              refine XS.lload X0.here hx rfl (hb hby d1_71) rfl ?_
              show Steps p.tables e below (s₁.setTop (mkF m 73 #[.val (.int p0), .val (.int p1), .val (.long q2), .second, .val (.long q3), .second, .val (.long q4), .second, .val (.int p5), .val (.long (-1 : Int64)), .second] [(.long (-1 : Int64))])) _
              rw [show (own_off p0 p1 q2 q3 q4 p5) = (-1 : Int64) from by unfold own_off; rw [if_neg hc3, if_neg hc9, if_pos hc24, if_pos hc45, if_pos hc51, if_pos hc56]] at hr
              exact own_retJ X0 hx Bd.returns (hb hby d1_73) hr
            · refine XS.ifYes X0.here hx rfl (pc0 := 56) (pc' := 67) rfl (hb hby d1_56) rfl ((if0 _ _).trans (feq hc56).2) (by decide) (by decide) ?_
              show Steps p.tables e below (s₁.setTop (mkF m 67 #[.val (.int p0), .val (.int p1), .val (.long q2), .second, .val (.long q3), .second, .val (.long q4), .second, .val (.int p5), .unset, .unset] [])) _
              refine XS.lload X0.here hx rfl (hb hby d1_67) rfl ?_
              show Steps p.tables e below (s₁.setTop (mkF m 69 #[.val (.int p0), .val (.int p1), .val (.long q2), .second, .val (.long q3), .second, .val (.long q4), .second, .val (.int p5), .unset, .unset] [(.long q4)])) _
              refine XS.lstore X0.here hx rfl (hb hby d1_69) rfl (l' := #[.val (.int p0), .val (.int p1), .val (.long q2), .second, .val (.long q3), .second, .val (.long q4), .second, .val (.int p5), .val (.long q4), .second]) rfl ?_
              show Steps p.tables e below (s₁.setTop (mkF m 71 #[.val (.int p0), .val (.int p1), .val (.long q2), .second, .val (.long q3), .second, .val (.long q4), .second, .val (.int p5), .val (.long q4), .second] [])) _
              refine XS.lload X0.here hx rfl (hb hby d1_71) rfl ?_
              show Steps p.tables e below (s₁.setTop (mkF m 73 #[.val (.int p0), .val (.int p1), .val (.long q2), .second, .val (.long q3), .second, .val (.long q4), .second, .val (.int p5), .val (.long q4), .second] [(.long q4)])) _
              rw [show (own_off p0 p1 q2 q3 q4 p5) = q4 from by unfold own_off; rw [if_neg hc3, if_neg hc9, if_pos hc24, if_pos hc45, if_pos hc51, if_neg hc56]] at hr
              exact own_retJ X0 hx Bd.returns (hb hby d1_73) hr
          · refine XS.icmpYes X0.here hx rfl (pc0 := 51) (pc' := 67) rfl (hb hby d1_51) rfl (feq hc51).2 (by decide) (by decide) ?_
            show Steps p.tables e below (s₁.setTop (mkF m 67 #[.val (.int p0), .val (.int p1), .val (.long q2), .second, .val (.long q3), .second, .val (.long q4), .second, .val (.int p5), .unset, .unset] [])) _
            refine XS.lload X0.here hx rfl (hb hby d1_67) rfl ?_
            show Steps p.tables e below (s₁.setTop (mkF m 69 #[.val (.int p0), .val (.int p1), .val (.long q2), .second, .val (.long q3), .second, .val (.long q4), .second, .val (.int p5), .unset, .unset] [(.long q4)])) _
            refine XS.lstore X0.here hx rfl (hb hby d1_69) rfl (l' := #[.val (.int p0), .val (.int p1), .val (.long q2), .second, .val (.long q3), .second, .val (.long q4), .second, .val (.int p5), .val (.long q4), .second]) rfl ?_
            show Steps p.tables e below (s₁.setTop (mkF m 71 #[.val (.int p0), .val (.int p1), .val (.long q2), .second, .val (.long q3), .second, .val (.long q4), .second, .val (.int p5), .val (.long q4), .second] [])) _
            refine XS.lload X0.here hx rfl (hb hby d1_71) rfl ?_
            show Steps p.tables e below (s₁.setTop (mkF m 73 #[.val (.int p0), .val (.int p1), .val (.long q2), .second, .val (.long q3), .second, .val (.long q4), .second, .val (.int p5), .val (.long q4), .second] [(.long q4)])) _
            rw [show (own_off p0 p1 q2 q3 q4 p5) = q4 from by unfold own_off; rw [if_neg hc3, if_neg hc9, if_pos hc24, if_pos hc45, if_neg hc51]] at hr
            exact own_retJ X0 hx Bd.returns (hb hby d1_73) hr
        · refine XS.ifYes X0.here hx rfl (pc0 := 45) (pc' := 59) rfl (hb hby d1_45) rfl ((if0 _ _).trans (feq hc45).2) (by decide) (by decide) ?_
          show Steps p.tables e below (s₁.setTop (mkF m 59 #[.val (.int p0), .val (.int p1), .val (.long q2), .second, .val (.long q3), .second, .val (.long q4), .second, .val (.int p5), .unset, .unset] [])) _
          refine X0.ldc2J hx hown (mvT hZ (hw _ (List.mem_of_getElem? (i := 4) rfl))) rfl (hb hby d1_59) ?_
          show Steps p.tables e below (s₁.setTop (mkF m 62 #[.val (.int p0), .val (.int p1), .val (.long q2), .second, .val (.long q3), .second, .val (.long q4), .second, .val (.int p5), .unset, .unset] [(.long (-1 : Int64))])) _
          refine XS.lstore X0.here hx rfl (hb hby d1_62) rfl (l' := #[.val (.int p0), .val (.int p1), .val (.long q2), .second, .val (.long q3), .second, .val (.long q4), .second, .val (.int p5), .val (.long (-1 : Int64)), .second]) rfl ?_
          show Steps p.tables e below (s₁.setTop (mkF m 64 #[.val (.int p0), .val (.int p1), .val (.long q2), .second, .val (.long q3), .second, .val (.long q4), .second, .val (.int p5), .val (.long (-1 : Int64)), .second] [])) _
          refine XS.goto X0.here hx rfl (pc0 := 64) (pc' := 71) rfl (hb hby d1_64) (by decide) (by decide) ?_
          show Steps p.tables e below (s₁.setTop (mkF m 71 #[.val (.int p0), .val (.int p1), .val (.long q2), .second, .val (.long q3), .second, .val (.long q4), .second, .val (.int p5), .val (.long (-1 : Int64)), .second] [])) _
          refine XS.lload X0.here hx rfl (hb hby d1_71) rfl ?_
          show Steps p.tables e below (s₁.setTop (mkF m 73 #[.val (.int p0), .val (.int p1), .val (.long q2), .second, .val (.long q3), .second, .val (.long q4), .second, .val (.int p5), .val (.long (-1 : Int64)), .second] [(.long (-1 : Int64))])) _
          rw [show (own_off p0 p1 q2 q3 q4 p5) = (-1 : Int64) from by unfold own_off; rw [if_neg hc3, if_neg hc9, if_pos hc24, if_neg hc45]] at hr
          exact own_retJ X0 hx Bd.returns (hb hby d1_73) hr
      · refine XS.ifNo X0.here hx rfl (hb hby d1_24) rfl ((if0 _ _).trans (feq (fun q => hc24 ((lw_eq q3 (0 : Int64)).mp q))).1) ?_
        show Steps p.tables e below (s₁.setTop (mkF m 27 #[.val (.int p0), .val (.int p1), .val (.long q2), .second, .val (.long q3), .second, .val (.long q4), .second, .val (.int p5), .unset, .unset] [])) _
        refine XS.iload X0.here hx rfl (hb hby d1_27) rfl ?_
        show Steps p.tables e below (s₁.setTop (mkF m 29 #[.val (.int p0), .val (.int p1), .val (.long q2), .second, .val (.long q3), .second, .val (.long q4), .second, .val (.int p5), .unset, .unset] [(.int p5)])) _
        by_cases hc29 : p5 = (0 : Int32)
        · refine XS.ifNo X0.here hx rfl (hb hby d1_29) rfl ((if0 _ _).trans (teq hc29).2) ?_
          show Steps p.tables e below (s₁.setTop (mkF m 32 #[.val (.int p0), .val (.int p1), .val (.long q2), .second, .val (.long q3), .second, .val (.long q4), .second, .val (.int p5), .unset, .unset] [])) _
          refine XS.lload X0.here hx rfl (hb hby d1_32) rfl ?_
          show Steps p.tables e below (s₁.setTop (mkF m 34 #[.val (.int p0), .val (.int p1), .val (.long q2), .second, .val (.long q3), .second, .val (.long q4), .second, .val (.int p5), .unset, .unset] [(.long q3)])) _
          refine XS.lloadN X0.here hx rfl (hb hby d1_34) rfl ?_
          show Steps p.tables e below (s₁.setTop (mkF m 35 #[.val (.int p0), .val (.int p1), .val (.long q2), .second, .val (.long q3), .second, .val (.long q4), .second, .val (.int p5), .unset, .unset] [(.long q2), (.long q3)])) _
          refine XS.lsub X0.here hx rfl (hb hby d1_35) rfl ?_
          show Steps p.tables e below (s₁.setTop (mkF m 36 #[.val (.int p0), .val (.int p1), .val (.long q2), .second, .val (.long q3), .second, .val (.long q4), .second, .val (.int p5), .unset, .unset] [(.long (q3 - q2))])) _
          refine XS.lstore X0.here hx rfl (hb hby d1_36) rfl (l' := #[.val (.int p0), .val (.int p1), .val (.long q2), .second, .val (.long q3), .second, .val (.long q4), .second, .val (.int p5), .val (.long (q3 - q2)), .second]) rfl ?_
          show Steps p.tables e below (s₁.setTop (mkF m 38 #[.val (.int p0), .val (.int p1), .val (.long q2), .second, .val (.long q3), .second, .val (.long q4), .second, .val (.int p5), .val (.long (q3 - q2)), .second] [])) _
          refine XS.goto X0.here hx rfl (pc0 := 38) (pc' := 71) rfl (hb hby d1_38) (by decide) (by decide) ?_
          show Steps p.tables e below (s₁.setTop (mkF m 71 #[.val (.int p0), .val (.int p1), .val (.long q2), .second, .val (.long q3), .second, .val (.long q4), .second, .val (.int p5), .val (.long (q3 - q2)), .second] [])) _
          refine XS.lload X0.here hx rfl (hb hby d1_71) rfl ?_
          show Steps p.tables e below (s₁.setTop (mkF m 73 #[.val (.int p0), .val (.int p1), .val (.long q2), .second, .val (.long q3), .second, .val (.long q4), .second, .val (.int p5), .val (.long (q3 - q2)), .second] [(.long (q3 - q2))])) _
          rw [show (own_off p0 p1 q2 q3 q4 p5) = (q3 - q2) from by unfold own_off; rw [if_neg hc3, if_neg hc9, if_neg hc24, if_pos hc29]] at hr
          exact own_retJ X0 hx Bd.returns (hb hby d1_73) hr
        · refine XS.ifYes X0.here hx rfl (pc0 := 29) (pc' := 41) rfl (hb hby d1_29) rfl ((if0 _ _).trans (feq hc29).2) (by decide) (by decide) ?_
          show Steps p.tables e below (s₁.setTop (mkF m 41 #[.val (.int p0), .val (.int p1), .val (.long q2), .second, .val (.long q3), .second, .val (.long q4), .second, .val (.int p5), .unset, .unset] [])) _
          refine XS.iloadN X0.here hx rfl (hb hby d1_41) rfl ?_
          show Steps p.tables e below (s₁.setTop (mkF m 42 #[.val (.int p0), .val (.int p1), .val (.long q2), .second, .val (.long q3), .second, .val (.long q4), .second, .val (.int p5), .unset, .unset] [(.int p1)])) _
          refine XS.bipush X0.here hx rfl (hb hby d1_42) ?_
          show Steps p.tables e below (s₁.setTop (mkF m 44 #[.val (.int p0), .val (.int p1), .val (.long q2), .second, .val (.long q3), .second, .val (.long q4), .second, .val (.int p5), .unset, .unset] [(.int (32 : Int32)), (.int p1)])) _
          refine XS.iand X0.here hx rfl (hb hby d1_44) rfl ?_
          show Steps p.tables e below (s₁.setTop (mkF m 45 #[.val (.int p0), .val (.int p1), .val (.long q2), .second, .val (.long q3), .second, .val (.long q4), .second, .val (.int p5), .unset, .unset] [(.int (p1 &&& (32 : Int32)))])) _
          by_cases hc45 : (p1 &&& (32 : Int32)) = (0 : Int32)
          · refine XS.ifNo X0.here hx rfl (hb hby d1_45) rfl ((if0 _ _).trans (teq hc45).2) ?_
            show Steps p.tables e below (s₁.setTop (mkF m 48 #[.val (.int p0), .val (.int p1), .val (.long q2), .second, .val (.long q3), .second, .val (.long q4), .second, .val (.int p5), .unset, .unset] [])) _
            refine XS.iloadN X0.here hx rfl (hb hby d1_48) rfl ?_
            show Steps p.tables e below (s₁.setTop (mkF m 49 #[.val (.int p0), .val (.int p1), .val (.long q2), .second, .val (.long q3), .second, .val (.long q4), .second, .val (.int p5), .unset, .unset] [(.int p0)])) _
            refine XS.bipush X0.here hx rfl (hb hby d1_49) ?_
            show Steps p.tables e below (s₁.setTop (mkF m 51 #[.val (.int p0), .val (.int p1), .val (.long q2), .second, .val (.long q3), .second, .val (.long q4), .second, .val (.int p5), .unset, .unset] [(.int (15 : Int32)), (.int p0)])) _
            by_cases hc51 : p0 = (15 : Int32)
            · refine XS.icmpNo X0.here hx rfl (hb hby d1_51) rfl (teq hc51).2 ?_
              show Steps p.tables e below (s₁.setTop (mkF m 54 #[.val (.int p0), .val (.int p1), .val (.long q2), .second, .val (.long q3), .second, .val (.long q4), .second, .val (.int p5), .unset, .unset] [])) _
              refine XS.iload X0.here hx rfl (hb hby d1_54) rfl ?_
              show Steps p.tables e below (s₁.setTop (mkF m 56 #[.val (.int p0), .val (.int p1), .val (.long q2), .second, .val (.long q3), .second, .val (.long q4), .second, .val (.int p5), .unset, .unset] [(.int p5)])) _
              refine XS.ifYes X0.here hx rfl (pc0 := 56) (pc' := 67) rfl (hb hby d1_56) rfl ((if0 _ _).trans (feq hc29).2) (by decide) (by decide) ?_
              show Steps p.tables e below (s₁.setTop (mkF m 67 #[.val (.int p0), .val (.int p1), .val (.long q2), .second, .val (.long q3), .second, .val (.long q4), .second, .val (.int p5), .unset, .unset] [])) _
              refine XS.lload X0.here hx rfl (hb hby d1_67) rfl ?_
              show Steps p.tables e below (s₁.setTop (mkF m 69 #[.val (.int p0), .val (.int p1), .val (.long q2), .second, .val (.long q3), .second, .val (.long q4), .second, .val (.int p5), .unset, .unset] [(.long q4)])) _
              refine XS.lstore X0.here hx rfl (hb hby d1_69) rfl (l' := #[.val (.int p0), .val (.int p1), .val (.long q2), .second, .val (.long q3), .second, .val (.long q4), .second, .val (.int p5), .val (.long q4), .second]) rfl ?_
              show Steps p.tables e below (s₁.setTop (mkF m 71 #[.val (.int p0), .val (.int p1), .val (.long q2), .second, .val (.long q3), .second, .val (.long q4), .second, .val (.int p5), .val (.long q4), .second] [])) _
              refine XS.lload X0.here hx rfl (hb hby d1_71) rfl ?_
              show Steps p.tables e below (s₁.setTop (mkF m 73 #[.val (.int p0), .val (.int p1), .val (.long q2), .second, .val (.long q3), .second, .val (.long q4), .second, .val (.int p5), .val (.long q4), .second] [(.long q4)])) _
              rw [show (own_off p0 p1 q2 q3 q4 p5) = q4 from by unfold own_off; rw [if_neg hc3, if_neg hc9, if_neg hc24, if_neg hc29, if_pos hc45]] at hr
              exact own_retJ X0 hx Bd.returns (hb hby d1_73) hr
            · refine XS.icmpYes X0.here hx rfl (pc0 := 51) (pc' := 67) rfl (hb hby d1_51) rfl (feq hc51).2 (by decide) (by decide) ?_
              show Steps p.tables e below (s₁.setTop (mkF m 67 #[.val (.int p0), .val (.int p1), .val (.long q2), .second, .val (.long q3), .second, .val (.long q4), .second, .val (.int p5), .unset, .unset] [])) _
              refine XS.lload X0.here hx rfl (hb hby d1_67) rfl ?_
              show Steps p.tables e below (s₁.setTop (mkF m 69 #[.val (.int p0), .val (.int p1), .val (.long q2), .second, .val (.long q3), .second, .val (.long q4), .second, .val (.int p5), .unset, .unset] [(.long q4)])) _
              refine XS.lstore X0.here hx rfl (hb hby d1_69) rfl (l' := #[.val (.int p0), .val (.int p1), .val (.long q2), .second, .val (.long q3), .second, .val (.long q4), .second, .val (.int p5), .val (.long q4), .second]) rfl ?_
              show Steps p.tables e below (s₁.setTop (mkF m 71 #[.val (.int p0), .val (.int p1), .val (.long q2), .second, .val (.long q3), .second, .val (.long q4), .second, .val (.int p5), .val (.long q4), .second] [])) _
              refine XS.lload X0.here hx rfl (hb hby d1_71) rfl ?_
              show Steps p.tables e below (s₁.setTop (mkF m 73 #[.val (.int p0), .val (.int p1), .val (.long q2), .second, .val (.long q3), .second, .val (.long q4), .second, .val (.int p5), .val (.long q4), .second] [(.long q4)])) _
              rw [show (own_off p0 p1 q2 q3 q4 p5) = q4 from by unfold own_off; rw [if_neg hc3, if_neg hc9, if_neg hc24, if_neg hc29, if_pos hc45]] at hr
              exact own_retJ X0 hx Bd.returns (hb hby d1_73) hr
          · refine XS.ifYes X0.here hx rfl (pc0 := 45) (pc' := 59) rfl (hb hby d1_45) rfl ((if0 _ _).trans (feq hc45).2) (by decide) (by decide) ?_
            show Steps p.tables e below (s₁.setTop (mkF m 59 #[.val (.int p0), .val (.int p1), .val (.long q2), .second, .val (.long q3), .second, .val (.long q4), .second, .val (.int p5), .unset, .unset] [])) _
            refine X0.ldc2J hx hown (mvT hZ (hw _ (List.mem_of_getElem? (i := 4) rfl))) rfl (hb hby d1_59) ?_
            show Steps p.tables e below (s₁.setTop (mkF m 62 #[.val (.int p0), .val (.int p1), .val (.long q2), .second, .val (.long q3), .second, .val (.long q4), .second, .val (.int p5), .unset, .unset] [(.long (-1 : Int64))])) _
            refine XS.lstore X0.here hx rfl (hb hby d1_62) rfl (l' := #[.val (.int p0), .val (.int p1), .val (.long q2), .second, .val (.long q3), .second, .val (.long q4), .second, .val (.int p5), .val (.long (-1 : Int64)), .second]) rfl ?_
            show Steps p.tables e below (s₁.setTop (mkF m 64 #[.val (.int p0), .val (.int p1), .val (.long q2), .second, .val (.long q3), .second, .val (.long q4), .second, .val (.int p5), .val (.long (-1 : Int64)), .second] [])) _
            refine XS.goto X0.here hx rfl (pc0 := 64) (pc' := 71) rfl (hb hby d1_64) (by decide) (by decide) ?_
            show Steps p.tables e below (s₁.setTop (mkF m 71 #[.val (.int p0), .val (.int p1), .val (.long q2), .second, .val (.long q3), .second, .val (.long q4), .second, .val (.int p5), .val (.long (-1 : Int64)), .second] [])) _
            refine XS.lload X0.here hx rfl (hb hby d1_71) rfl ?_
            show Steps p.tables e below (s₁.setTop (mkF m 73 #[.val (.int p0), .val (.int p1), .val (.long q2), .second, .val (.long q3), .second, .val (.long q4), .second, .val (.int p5), .val (.long (-1 : Int64)), .second] [(.long (-1 : Int64))])) _
            rw [show (own_off p0 p1 q2 q3 q4 p5) = (-1 : Int64) from by unfold own_off; rw [if_neg hc3, if_neg hc9, if_neg hc24, if_neg hc29, if_neg hc45]] at hr
            exact own_retJ X0 hx Bd.returns (hb hby d1_73) hr
theorem pn_0 : plainName "com/example/millrace/millrace/binlog/LogEventOffsetPinLaw" = true := by first | (simp [plainName, overriddenIn]; done) | decide +kernel
theorem ef_0 (m : MethodId) (x0 : Int32) (x1 : Int32) (x2 : Int64) (x3 : Int64) (x4 : Int64) (x5 : Int32) : entryFrame m #[(.int x0), (.int x1), (.long x2), (.long x3), (.long x4), (.int x5)] maxLocals = mkF m 0 #[.val (.int x0), .val (.int x1), .val (.long x2), .second, .val (.long x3), .second, .val (.long x4), .second, .val (.int x5), .unset, .unset, .unset, .unset, .unset, .unset, .unset, .unset, .unset, .unset, .unset] [] := by first | (simp [entryFrame, mkF, argsToLocals, Value.category, maxLocals]; done) | rfl
def own_A_s0 (p5 : Int32) : Int32 := (if (p5 &&& (1 : Int32)) = (0 : Int32) then (0 : Int32) else (1 : Int32))
set_option maxRecDepth 65536 in
set_option maxHeartbeats 40000000 in
theorem sg_A {p : Program} {l : Launch} {e : Env} {R : Room} {s : State} {m : MethodId} {args : Array Value} {below : List Frame} {meth : Method} {c : Code} {T0 : State} {locs : List Loc} {cells slots : Nat} {Z : State} {a0 : Array Value} {h0 : Heap} {target : State} (p0 : Int32) (p1 : Int32) (q2 : Int64) (q3 : Int64) (q4 : Int64) (p5 : Int32) (X0 : Stand p l e R s m args below meth c T0 locs cells slots) (hx : p.tables.exec = Jvm.exec) (hZ : Z.Warmed39 s.vm) (hw : ∀ d ∈ tables_1, d.before a0 Z = true) (hby : c.code = code) (hown : s.vm.findClass "com/example/millrace/millrace/binlog/LogEventOffsetPinLaw" = some m.cls) (e0 : T0.heap = h0) 
    (kt : Steps p.tables e below (T0.setTop (mkF m 12 #[.val (.int p0), .val (.int p1), .val (.long q2), .second, .val (.long q3), .second, .val (.long q4), .second, .val (.int p5), .unset, .unset, .unset, .unset, .unset, .unset, .unset, .unset, .unset, .unset, .unset] [(.int (own_A_s0 p5))])) target) : Steps p.tables e below (T0.setTop (mkF m 0 #[.val (.int p0), .val (.int p1), .val (.long q2), .second, .val (.long q3), .second, .val (.long q4), .second, .val (.int p5), .unset, .unset, .unset, .unset, .unset, .unset, .unset, .unset, .unset, .unset, .unset] [])) target := by
  show Steps p.tables e below (T0.setTop (mkF m 0 #[.val (.int p0), .val (.int p1), .val (.long q2), .second, .val (.long q3), .second, .val (.long q4), .second, .val (.int p5), .unset, .unset, .unset, .unset, .unset, .unset, .unset, .unset, .unset, .unset, .unset] [])) _
  refine XS.iload X0.here hx rfl (hb hby at_0) rfl ?_
  show Steps p.tables e below (T0.setTop (mkF m 2 #[.val (.int p0), .val (.int p1), .val (.long q2), .second, .val (.long q3), .second, .val (.long q4), .second, .val (.int p5), .unset, .unset, .unset, .unset, .unset, .unset, .unset, .unset, .unset, .unset, .unset] [(.int p5)])) _
  refine XS.iconst X0.here hx rfl (hb hby at_2) ?_
  show Steps p.tables e below (T0.setTop (mkF m 3 #[.val (.int p0), .val (.int p1), .val (.long q2), .second, .val (.long q3), .second, .val (.long q4), .second, .val (.int p5), .unset, .unset, .unset, .unset, .unset, .unset, .unset, .unset, .unset, .unset, .unset] [(.int (1 : Int32)), (.int p5)])) _
  refine XS.iand X0.here hx rfl (hb hby at_3) rfl ?_
  show Steps p.tables e below (T0.setTop (mkF m 4 #[.val (.int p0), .val (.int p1), .val (.long q2), .second, .val (.long q3), .second, .val (.long q4), .second, .val (.int p5), .unset, .unset, .unset, .unset, .unset, .unset, .unset, .unset, .unset, .unset, .unset] [(.int (p5 &&& (1 : Int32)))])) _
  by_cases hc4 : (p5 &&& (1 : Int32)) = (0 : Int32)
  · refine XS.ifYes X0.here hx rfl (pc0 := 4) (pc' := 11) rfl (hb hby at_4) rfl ((if0 _ _).trans (teq hc4).1) (by decide) (by decide) ?_
    show Steps p.tables e below (T0.setTop (mkF m 11 #[.val (.int p0), .val (.int p1), .val (.long q2), .second, .val (.long q3), .second, .val (.long q4), .second, .val (.int p5), .unset, .unset, .unset, .unset, .unset, .unset, .unset, .unset, .unset, .unset, .unset] [])) _
    refine XS.iconst X0.here hx rfl (hb hby at_11) ?_
    rw [show (own_A_s0 p5) = (0 : Int32) from by unfold own_A_s0; rw [if_pos hc4]] at kt
    exact kt
  · refine XS.ifNo X0.here hx rfl (hb hby at_4) rfl ((if0 _ _).trans (feq hc4).1) ?_
    show Steps p.tables e below (T0.setTop (mkF m 7 #[.val (.int p0), .val (.int p1), .val (.long q2), .second, .val (.long q3), .second, .val (.long q4), .second, .val (.int p5), .unset, .unset, .unset, .unset, .unset, .unset, .unset, .unset, .unset, .unset, .unset] [])) _
    refine XS.iconst X0.here hx rfl (hb hby at_7) ?_
    show Steps p.tables e below (T0.setTop (mkF m 8 #[.val (.int p0), .val (.int p1), .val (.long q2), .second, .val (.long q3), .second, .val (.long q4), .second, .val (.int p5), .unset, .unset, .unset, .unset, .unset, .unset, .unset, .unset, .unset, .unset, .unset] [(.int (1 : Int32))])) _
    refine XS.goto X0.here hx rfl (pc0 := 8) (pc' := 12) rfl (hb hby at_8) (by decide) (by decide) ?_
    rw [show (own_A_s0 p5) = (1 : Int32) from by unfold own_A_s0; rw [if_neg hc4]] at kt
    exact kt
def own_B_l11 (p0 : Int32) (k : Int32) : Int32 := (if k = (0 : Int32) then (27 : Int32) else (if k = (1 : Int32) then (41 : Int32) else (if k = (2 : Int32) then (15 : Int32) else (if k = (3 : Int32) then (163 : Int32) else p0))))
set_option maxRecDepth 65536 in
set_option maxHeartbeats 40000000 in
theorem sg_B {p : Program} {l : Launch} {e : Env} {R : Room} {s : State} {m : MethodId} {args : Array Value} {below : List Frame} {meth : Method} {c : Code} {T0 : State} {locs : List Loc} {cells slots : Nat} {Z : State} {a0 : Array Value} {h0 : Heap} {target : State} (p0 : Int32) (p1 : Int32) (q2 : Int64) (q3 : Int64) (q4 : Int64) (p5 : Int32) (r : Int32) (k : Int32) (X0 : Stand p l e R s m args below meth c T0 locs cells slots) (hx : p.tables.exec = Jvm.exec) (hZ : Z.Warmed39 s.vm) (hw : ∀ d ∈ tables_1, d.before a0 Z = true) (hby : c.code = code) (hown : s.vm.findClass "com/example/millrace/millrace/binlog/LogEventOffsetPinLaw" = some m.cls) (e0 : T0.heap = h0) 
    (kt : Steps p.tables e below (T0.setTop (mkF m 78 #[.val (.int p0), .val (.int p1), .val (.long q2), .second, .val (.long q3), .second, .val (.long q4), .second, .val (.int p5), .val (.int r), .val (.int k), .val (.int (own_B_l11 p0 k)), .unset, .unset, .unset, .unset, .unset, .unset, .unset, .unset] [])) target) : Steps p.tables e below (T0.setTop (mkF m 23 #[.val (.int p0), .val (.int p1), .val (.long q2), .second, .val (.long q3), .second, .val (.long q4), .second, .val (.int p5), .val (.int r), .val (.int k), .unset, .unset, .unset, .unset, .unset, .unset, .unset, .unset, .unset] [])) target := by
  show Steps p.tables e below (T0.setTop (mkF m 23 #[.val (.int p0), .val (.int p1), .val (.long q2), .second, .val (.long q3), .second, .val (.long q4), .second, .val (.int p5), .val (.int r), .val (.int k), .unset, .unset, .unset, .unset, .unset, .unset, .unset, .unset, .unset] [])) _
  refine XS.iload X0.here hx rfl (hb hby at_23) rfl ?_
  show Steps p.tables e below (T0.setTop (mkF m 25 #[.val (.int p0), .val (.int p1), .val (.long q2), .second, .val (.long q3), .second, .val (.long q4), .second, .val (.int p5), .val (.int r), .val (.int k), .unset, .unset, .unset, .unset, .unset, .unset, .unset, .unset, .unset] [(.int k)])) _
  by_cases hc25 : k = (0 : Int32)
  · refine XS.ifNo X0.here hx rfl (hb hby at_25) rfl ((if0 _ _).trans (teq hc25).2) ?_
    show Steps p.tables e below (T0.setTop (mkF m 28 #[.val (.int p0), .val (.int p1), .val (.long q2), .second, .val (.long q3), .second, .val (.long q4), .second, .val (.int p5), .val (.int r), .val (.int k), .unset, .unset, .unset, .unset, .unset, .unset, .unset, .unset, .unset] [])) _
    refine XS.bipush X0.here hx rfl (hb hby at_28) ?_
    show Steps p.tables e below (T0.setTop (mkF m 30 #[.val (.int p0), .val (.int p1), .val (.long q2), .second, .val (.long q3), .second, .val (.long q4), .second, .val (.int p5), .val (.int r), .val (.int k), .unset, .unset, .unset, .unset, .unset, .unset, .unset, .unset, .unset] [(.int (27 : Int32))])) _
    refine XS.istore X0.here hx rfl (hb hby at_30) rfl (l' := #[.val (.int p0), .val (.int p1), .val (.long q2), .second, .val (.long q3), .second, .val (.long q4), .second, .val (.int p5), .val (.int r), .val (.int k), .val (.int (27 : Int32)), .unset, .unset, .unset, .unset, .unset, .unset, .unset, .unset]) rfl ?_
    show Steps p.tables e below (T0.setTop (mkF m 32 #[.val (.int p0), .val (.int p1), .val (.long q2), .second, .val (.long q3), .second, .val (.long q4), .second, .val (.int p5), .val (.int r), .val (.int k), .val (.int (27 : Int32)), .unset, .unset, .unset, .unset, .unset, .unset, .unset, .unset] [])) _
    refine XS.goto X0.here hx rfl (pc0 := 32) (pc' := 78) rfl (hb hby at_32) (by decide) (by decide) ?_
    rw [show (own_B_l11 p0 k) = (27 : Int32) from by unfold own_B_l11; rw [if_pos hc25]] at kt
    exact kt
  · refine XS.ifYes X0.here hx rfl (pc0 := 25) (pc' := 35) rfl (hb hby at_25) rfl ((if0 _ _).trans (feq hc25).2) (by decide) (by decide) ?_
    show Steps p.tables e below (T0.setTop (mkF m 35 #[.val (.int p0), .val (.int p1), .val (.long q2), .second, .val (.long q3), .second, .val (.long q4), .second, .val (.int p5), .val (.int r), .val (.int k), .unset, .unset, .unset, .unset, .unset, .unset, .unset, .unset, .unset] [])) _
    refine XS.iload X0.here hx rfl (hb hby at_35) rfl ?_
    show Steps p.tables e below (T0.setTop (mkF m 37 #[.val (.int p0), .val (.int p1), .val (.long q2), .second, .val (.long q3), .second, .val (.long q4), .second, .val (.int p5), .val (.int r), .val (.int k), .unset, .unset, .unset, .unset, .unset, .unset, .unset, .unset, .unset] [(.int k)])) _
    refine XS.iconst X0.here hx rfl (hb hby at_37) ?_
    show Steps p.tables e below (T0.setTop (mkF m 38 #[.val (.int p0), .val (.int p1), .val (.long q2), .second, .val (.long q3), .second, .val (.long q4), .second, .val (.int p5), .val (.int r), .val (.int k), .unset, .unset, .unset, .unset, .unset, .unset, .unset, .unset, .unset] [(.int (1 : Int32)), (.int k)])) _
    by_cases hc38 : k = (1 : Int32)
    · refine XS.icmpNo X0.here hx rfl (hb hby at_38) rfl (teq hc38).2 ?_
      show Steps p.tables e below (T0.setTop (mkF m 41 #[.val (.int p0), .val (.int p1), .val (.long q2), .second, .val (.long q3), .second, .val (.long q4), .second, .val (.int p5), .val (.int r), .val (.int k), .unset, .unset, .unset, .unset, .unset, .unset, .unset, .unset, .unset] [])) _
      refine XS.bipush X0.here hx rfl (hb hby at_41) ?_
      show Steps p.tables e below (T0.setTop (mkF m 43 #[.val (.int p0), .val (.int p1), .val (.long q2), .second, .val (.long q3), .second, .val (.long q4), .second, .val (.int p5), .val (.int r), .val (.int k), .unset, .unset, .unset, .unset, .unset, .unset, .unset, .unset, .unset] [(.int (41 : Int32))])) _
      refine XS.istore X0.here hx rfl (hb hby at_43) rfl (l' := #[.val (.int p0), .val (.int p1), .val (.long q2), .second, .val (.long q3), .second, .val (.long q4), .second, .val (.int p5), .val (.int r), .val (.int k), .val (.int (41 : Int32)), .unset, .unset, .unset, .unset, .unset, .unset, .unset, .unset]) rfl ?_
      show Steps p.tables e below (T0.setTop (mkF m 45 #[.val (.int p0), .val (.int p1), .val (.long q2), .second, .val (.long q3), .second, .val (.long q4), .second, .val (.int p5), .val (.int r), .val (.int k), .val (.int (41 : Int32)), .unset, .unset, .unset, .unset, .unset, .unset, .unset, .unset] [])) _
      refine XS.goto X0.here hx rfl (pc0 := 45) (pc' := 78) rfl (hb hby at_45) (by decide) (by decide) ?_
      rw [show (own_B_l11 p0 k) = (41 : Int32) from by unfold own_B_l11; rw [if_neg hc25, if_pos hc38]] at kt
      exact kt
    · refine XS.icmpYes X0.here hx rfl (pc0 := 38) (pc' := 48) rfl (hb hby at_38) rfl (feq hc38).2 (by decide) (by decide) ?_
      show Steps p.tables e below (T0.setTop (mkF m 48 #[.val (.int p0), .val (.int p1), .val (.long q2), .second, .val (.long q3), .second, .val (.long q4), .second, .val (.int p5), .val (.int r), .val (.int k), .unset, .unset, .unset, .unset, .unset, .unset, .unset, .unset, .unset] [])) _
      refine XS.iload X0.here hx rfl (hb hby at_48) rfl ?_
      show Steps p.tables e below (T0.setTop (mkF m 50 #[.val (.int p0), .val (.int p1), .val (.long q2), .second, .val (.long q3), .second, .val (.long q4), .second, .val (.int p5), .val (.int r), .val (.int k), .unset, .unset, .unset, .unset, .unset, .unset, .unset, .unset, .unset] [(.int k)])) _
      refine XS.iconst X0.here hx rfl (hb hby at_50) ?_
      show Steps p.tables e below (T0.setTop (mkF m 51 #[.val (.int p0), .val (.int p1), .val (.long q2), .second, .val (.long q3), .second, .val (.long q4), .second, .val (.int p5), .val (.int r), .val (.int k), .unset, .unset, .unset, .unset, .unset, .unset, .unset, .unset, .unset] [(.int (2 : Int32)), (.int k)])) _
      by_cases hc51 : k = (2 : Int32)
      · refine XS.icmpNo X0.here hx rfl (hb hby at_51) rfl (teq hc51).2 ?_
        show Steps p.tables e below (T0.setTop (mkF m 54 #[.val (.int p0), .val (.int p1), .val (.long q2), .second, .val (.long q3), .second, .val (.long q4), .second, .val (.int p5), .val (.int r), .val (.int k), .unset, .unset, .unset, .unset, .unset, .unset, .unset, .unset, .unset] [])) _
        refine XS.bipush X0.here hx rfl (hb hby at_54) ?_
        show Steps p.tables e below (T0.setTop (mkF m 56 #[.val (.int p0), .val (.int p1), .val (.long q2), .second, .val (.long q3), .second, .val (.long q4), .second, .val (.int p5), .val (.int r), .val (.int k), .unset, .unset, .unset, .unset, .unset, .unset, .unset, .unset, .unset] [(.int (15 : Int32))])) _
        refine XS.istore X0.here hx rfl (hb hby at_56) rfl (l' := #[.val (.int p0), .val (.int p1), .val (.long q2), .second, .val (.long q3), .second, .val (.long q4), .second, .val (.int p5), .val (.int r), .val (.int k), .val (.int (15 : Int32)), .unset, .unset, .unset, .unset, .unset, .unset, .unset, .unset]) rfl ?_
        show Steps p.tables e below (T0.setTop (mkF m 58 #[.val (.int p0), .val (.int p1), .val (.long q2), .second, .val (.long q3), .second, .val (.long q4), .second, .val (.int p5), .val (.int r), .val (.int k), .val (.int (15 : Int32)), .unset, .unset, .unset, .unset, .unset, .unset, .unset, .unset] [])) _
        refine XS.goto X0.here hx rfl (pc0 := 58) (pc' := 78) rfl (hb hby at_58) (by decide) (by decide) ?_
        rw [show (own_B_l11 p0 k) = (15 : Int32) from by unfold own_B_l11; rw [if_neg hc25, if_neg hc38, if_pos hc51]] at kt
        exact kt
      · refine XS.icmpYes X0.here hx rfl (pc0 := 51) (pc' := 61) rfl (hb hby at_51) rfl (feq hc51).2 (by decide) (by decide) ?_
        show Steps p.tables e below (T0.setTop (mkF m 61 #[.val (.int p0), .val (.int p1), .val (.long q2), .second, .val (.long q3), .second, .val (.long q4), .second, .val (.int p5), .val (.int r), .val (.int k), .unset, .unset, .unset, .unset, .unset, .unset, .unset, .unset, .unset] [])) _
        refine XS.iload X0.here hx rfl (hb hby at_61) rfl ?_
        show Steps p.tables e below (T0.setTop (mkF m 63 #[.val (.int p0), .val (.int p1), .val (.long q2), .second, .val (.long q3), .second, .val (.long q4), .second, .val (.int p5), .val (.int r), .val (.int k), .unset, .unset, .unset, .unset, .unset, .unset, .unset, .unset, .unset] [(.int k)])) _
        refine XS.iconst X0.here hx rfl (hb hby at_63) ?_
        show Steps p.tables e below (T0.setTop (mkF m 64 #[.val (.int p0), .val (.int p1), .val (.long q2), .second, .val (.long q3), .second, .val (.long q4), .second, .val (.int p5), .val (.int r), .val (.int k), .unset, .unset, .unset, .unset, .unset, .unset, .unset, .unset, .unset] [(.int (3 : Int32)), (.int k)])) _
        by_cases hc64 : k = (3 : Int32)
        · refine XS.icmpNo X0.here hx rfl (hb hby at_64) rfl (teq hc64).2 ?_
          show Steps p.tables e below (T0.setTop (mkF m 67 #[.val (.int p0), .val (.int p1), .val (.long q2), .second, .val (.long q3), .second, .val (.long q4), .second, .val (.int p5), .val (.int r), .val (.int k), .unset, .unset, .unset, .unset, .unset, .unset, .unset, .unset, .unset] [])) _
          refine XS.sipush X0.here hx rfl (hb hby at_67) ?_
          show Steps p.tables e below (T0.setTop (mkF m 70 #[.val (.int p0), .val (.int p1), .val (.long q2), .second, .val (.long q3), .second, .val (.long q4), .second, .val (.int p5), .val (.int r), .val (.int k), .unset, .unset, .unset, .unset, .unset, .unset, .unset, .unset, .unset] [(.int (163 : Int32))])) _
          refine XS.istore X0.here hx rfl (hb hby at_70) rfl (l' := #[.val (.int p0), .val (.int p1), .val (.long q2), .second, .val (.long q3), .second, .val (.long q4), .second, .val (.int p5), .val (.int r), .val (.int k), .val (.int (163 : Int32)), .unset, .unset, .unset, .unset, .unset, .unset, .unset, .unset]) rfl ?_
          show Steps p.tables e below (T0.setTop (mkF m 72 #[.val (.int p0), .val (.int p1), .val (.long q2), .second, .val (.long q3), .second, .val (.long q4), .second, .val (.int p5), .val (.int r), .val (.int k), .val (.int (163 : Int32)), .unset, .unset, .unset, .unset, .unset, .unset, .unset, .unset] [])) _
          refine XS.goto X0.here hx rfl (pc0 := 72) (pc' := 78) rfl (hb hby at_72) (by decide) (by decide) ?_
          rw [show (own_B_l11 p0 k) = (163 : Int32) from by unfold own_B_l11; rw [if_neg hc25, if_neg hc38, if_neg hc51, if_pos hc64]] at kt
          exact kt
        · refine XS.icmpYes X0.here hx rfl (pc0 := 64) (pc' := 75) rfl (hb hby at_64) rfl (feq hc64).2 (by decide) (by decide) ?_
          show Steps p.tables e below (T0.setTop (mkF m 75 #[.val (.int p0), .val (.int p1), .val (.long q2), .second, .val (.long q3), .second, .val (.long q4), .second, .val (.int p5), .val (.int r), .val (.int k), .unset, .unset, .unset, .unset, .unset, .unset, .unset, .unset, .unset] [])) _
          refine XS.iloadN X0.here hx rfl (hb hby at_75) rfl ?_
          show Steps p.tables e below (T0.setTop (mkF m 76 #[.val (.int p0), .val (.int p1), .val (.long q2), .second, .val (.long q3), .second, .val (.long q4), .second, .val (.int p5), .val (.int r), .val (.int k), .unset, .unset, .unset, .unset, .unset, .unset, .unset, .unset, .unset] [(.int p0)])) _
          refine XS.istore X0.here hx rfl (hb hby at_76) rfl (l' := #[.val (.int p0), .val (.int p1), .val (.long q2), .second, .val (.long q3), .second, .val (.long q4), .second, .val (.int p5), .val (.int r), .val (.int k), .val (.int p0), .unset, .unset, .unset, .unset, .unset, .unset, .unset, .unset]) rfl ?_
          rw [show (own_B_l11 p0 k) = p0 from by unfold own_B_l11; rw [if_neg hc25, if_neg hc38, if_neg hc51, if_neg hc64]] at kt
          exact kt
def own_C_s0 (q3 : Int64) (p5 : Int32) : Int64 := (if (((p5.toUInt32 >>> ((4 : Int32) &&& 31).toUInt32).toInt32) &&& (1 : Int32)) = (0 : Int32) then q3 else (0 : Int64))
set_option maxRecDepth 65536 in
set_option maxHeartbeats 40000000 in
theorem sg_C {p : Program} {l : Launch} {e : Env} {R : Room} {s : State} {m : MethodId} {args : Array Value} {below : List Frame} {meth : Method} {c : Code} {T0 : State} {locs : List Loc} {cells slots : Nat} {Z : State} {a0 : Array Value} {h0 : Heap} {target : State} (p0 : Int32) (p1 : Int32) (q2 : Int64) (q3 : Int64) (q4 : Int64) (p5 : Int32) (r : Int32) (k : Int32) (t : Int32) (X0 : Stand p l e R s m args below meth c T0 locs cells slots) (hx : p.tables.exec = Jvm.exec) (hZ : Z.Warmed39 s.vm) (hw : ∀ d ∈ tables_1, d.before a0 Z = true) (hby : c.code = code) (hown : s.vm.findClass "com/example/millrace/millrace/binlog/LogEventOffsetPinLaw" = some m.cls) (e0 : T0.heap = h0) 
    (kt : Steps p.tables e below (T0.setTop (mkF m 93 #[.val (.int p0), .val (.int p1), .val (.long q2), .second, .val (.long q3), .second, .val (.long q4), .second, .val (.int p5), .val (.int r), .val (.int k), .val (.int t), .unset, .unset, .unset, .unset, .unset, .unset, .unset, .unset] [(.long (own_C_s0 q3 p5))])) target) : Steps p.tables e below (T0.setTop (mkF m 78 #[.val (.int p0), .val (.int p1), .val (.long q2), .second, .val (.long q3), .second, .val (.long q4), .second, .val (.int p5), .val (.int r), .val (.int k), .val (.int t), .unset, .unset, .unset, .unset, .unset, .unset, .unset, .unset] [])) target := by
  show Steps p.tables e below (T0.setTop (mkF m 78 #[.val (.int p0), .val (.int p1), .val (.long q2), .second, .val (.long q3), .second, .val (.long q4), .second, .val (.int p5), .val (.int r), .val (.int k), .val (.int t), .unset, .unset, .unset, .unset, .unset, .unset, .unset, .unset] [])) _
  refine XS.iload X0.here hx rfl (hb hby at_78) rfl ?_
  show Steps p.tables e below (T0.setTop (mkF m 80 #[.val (.int p0), .val (.int p1), .val (.long q2), .second, .val (.long q3), .second, .val (.long q4), .second, .val (.int p5), .val (.int r), .val (.int k), .val (.int t), .unset, .unset, .unset, .unset, .unset, .unset, .unset, .unset] [(.int p5)])) _
  refine XS.iconst X0.here hx rfl (hb hby at_80) ?_
  show Steps p.tables e below (T0.setTop (mkF m 81 #[.val (.int p0), .val (.int p1), .val (.long q2), .second, .val (.long q3), .second, .val (.long q4), .second, .val (.int p5), .val (.int r), .val (.int k), .val (.int t), .unset, .unset, .unset, .unset, .unset, .unset, .unset, .unset] [(.int (4 : Int32)), (.int p5)])) _
  refine XS.iushr X0.here hx rfl (hb hby at_81) rfl ?_
  show Steps p.tables e below (T0.setTop (mkF m 82 #[.val (.int p0), .val (.int p1), .val (.long q2), .second, .val (.long q3), .second, .val (.long q4), .second, .val (.int p5), .val (.int r), .val (.int k), .val (.int t), .unset, .unset, .unset, .unset, .unset, .unset, .unset, .unset] [(.int ((p5.toUInt32 >>> ((4 : Int32) &&& 31).toUInt32).toInt32))])) _
  refine XS.iconst X0.here hx rfl (hb hby at_82) ?_
  show Steps p.tables e below (T0.setTop (mkF m 83 #[.val (.int p0), .val (.int p1), .val (.long q2), .second, .val (.long q3), .second, .val (.long q4), .second, .val (.int p5), .val (.int r), .val (.int k), .val (.int t), .unset, .unset, .unset, .unset, .unset, .unset, .unset, .unset] [(.int (1 : Int32)), (.int ((p5.toUInt32 >>> ((4 : Int32) &&& 31).toUInt32).toInt32))])) _
  refine XS.iand X0.here hx rfl (hb hby at_83) rfl ?_
  show Steps p.tables e below (T0.setTop (mkF m 84 #[.val (.int p0), .val (.int p1), .val (.long q2), .second, .val (.long q3), .second, .val (.long q4), .second, .val (.int p5), .val (.int r), .val (.int k), .val (.int t), .unset, .unset, .unset, .unset, .unset, .unset, .unset, .unset] [(.int (((p5.toUInt32 >>> ((4 : Int32) &&& 31).toUInt32).toInt32) &&& (1 : Int32)))])) _
  by_cases hc84 : (((p5.toUInt32 >>> ((4 : Int32) &&& 31).toUInt32).toInt32) &&& (1 : Int32)) = (0 : Int32)
  · refine XS.ifYes X0.here hx rfl (pc0 := 84) (pc' := 91) rfl (hb hby at_84) rfl ((if0 _ _).trans (teq hc84).1) (by decide) (by decide) ?_
    show Steps p.tables e below (T0.setTop (mkF m 91 #[.val (.int p0), .val (.int p1), .val (.long q2), .second, .val (.long q3), .second, .val (.long q4), .second, .val (.int p5), .val (.int r), .val (.int k), .val (.int t), .unset, .unset, .unset, .unset, .unset, .unset, .unset, .unset] [])) _
    refine XS.lload X0.here hx rfl (hb hby at_91) rfl ?_
    rw [show (own_C_s0 q3 p5) = q3 from by unfold own_C_s0; rw [if_pos hc84]] at kt
    exact kt
  · refine XS.ifNo X0.here hx rfl (hb hby at_84) rfl ((if0 _ _).trans (feq hc84).1) ?_
    show Steps p.tables e below (T0.setTop (mkF m 87 #[.val (.int p0), .val (.int p1), .val (.long q2), .second, .val (.long q3), .second, .val (.long q4), .second, .val (.int p5), .val (.int r), .val (.int k), .val (.int t), .unset, .unset, .unset, .unset, .unset, .unset, .unset, .unset] [])) _
    refine XS.lconst X0.here hx rfl (hb hby at_87) ?_
    show Steps p.tables e below (T0.setTop (mkF m 88 #[.val (.int p0), .val (.int p1), .val (.long q2), .second, .val (.long q3), .second, .val (.long q4), .second, .val (.int p5), .val (.int r), .val (.int k), .val (.int t), .unset, .unset, .unset, .unset, .unset, .unset, .unset, .unset] [(.long (0 : Int64))])) _
    refine XS.goto X0.here hx rfl (pc0 := 88) (pc' := 93) rfl (hb hby at_88) (by decide) (by decide) ?_
    rw [show (own_C_s0 q3 p5) = (0 : Int64) from by unfold own_C_s0; rw [if_neg hc84]] at kt
    exact kt
def own_D_s0 (t : Int32) : Int32 := (if t = (27 : Int32) then (1 : Int32) else (if t = (41 : Int32) then (1 : Int32) else (0 : Int32)))
set_option maxRecDepth 65536 in
set_option maxHeartbeats 40000000 in
theorem sg_D {p : Program} {l : Launch} {e : Env} {R : Room} {s : State} {m : MethodId} {args : Array Value} {below : List Frame} {meth : Method} {c : Code} {T0 : State} {locs : List Loc} {cells slots : Nat} {Z : State} {a0 : Array Value} {h0 : Heap} {target : State} (p0 : Int32) (p1 : Int32) (q2 : Int64) (q3 : Int64) (q4 : Int64) (p5 : Int32) (r : Int32) (k : Int32) (t : Int32) (nx : Int64) (w : Int64) (X0 : Stand p l e R s m args below meth c T0 locs cells slots) (hx : p.tables.exec = Jvm.exec) (hZ : Z.Warmed39 s.vm) (hw : ∀ d ∈ tables_1, d.before a0 Z = true) (hby : c.code = code) (hown : s.vm.findClass "com/example/millrace/millrace/binlog/LogEventOffsetPinLaw" = some m.cls) (e0 : T0.heap = h0) 
    (kt : Steps p.tables e below (T0.setTop (mkF m 129 #[.val (.int p0), .val (.int p1), .val (.long q2), .second, .val (.long q3), .second, .val (.long q4), .second, .val (.int p5), .val (.int r), .val (.int k), .val (.int t), .val (.long nx), .second, .val (.long w), .second, .unset, .unset, .unset, .unset] [(.int (own_D_s0 t))])) target) : Steps p.tables e below (T0.setTop (mkF m 110 #[.val (.int p0), .val (.int p1), .val (.long q2), .second, .val (.long q3), .second, .val (.long q4), .second, .val (.int p5), .val (.int r), .val (.int k), .val (.int t), .val (.long nx), .second, .val (.long w), .second, .unset, .unset, .unset, .unset] [])) target := by
  show Steps p.tables e below (T0.setTop (mkF m 110 #[.val (.int p0), .val (.int p1), .val (.long q2), .second, .val (.long q3), .second, .val (.long q4), .second, .val (.int p5), .val (.int r), .val (.int k), .val (.int t), .val (.long nx), .second, .val (.long w), .second, .unset, .unset, .unset, .unset] [])) _
  refine XS.iload X0.here hx rfl (hb hby at_110) rfl ?_
  show Steps p.tables e below (T0.setTop (mkF m 112 #[.val (.int p0), .val (.int p1), .val (.long q2), .second, .val (.long q3), .second, .val (.long q4), .second, .val (.int p5), .val (.int r), .val (.int k), .val (.int t), .val (.long nx), .second, .val (.long w), .second, .unset, .unset, .unset, .unset] [(.int t)])) _
  refine XS.bipush X0.here hx rfl (hb hby at_112) ?_
  show Steps p.tables e below (T0.setTop (mkF m 114 #[.val (.int p0), .val (.int p1), .val (.long q2), .second, .val (.long q3), .second, .val (.long q4), .second, .val (.int p5), .val (.int r), .val (.int k), .val (.int t), .val (.long nx), .second, .val (.long w), .second, .unset, .unset, .unset, .unset] [(.int (27 : Int32)), (.int t)])) _
  by_cases hc114 : t = (27 : Int32)
  · refine XS.icmpYes X0.here hx rfl (pc0 := 114) (pc' := 124) rfl (hb hby at_114) rfl (teq hc114).1 (by decide) (by decide) ?_
    show Steps p.tables e below (T0.setTop (mkF m 124 #[.val (.int p0), .val (.int p1), .val (.long q2), .second, .val (.long q3), .second, .val (.long q4), .second, .val (.int p5), .val (.int r), .val (.int k), .val (.int t), .val (.long nx), .second, .val (.long w), .second, .unset, .unset, .unset, .unset] [])) _
    refine XS.iconst X0.here hx rfl (hb hby at_124) ?_
    show Steps p.tables e below (T0.setTop (mkF m 125 #[.val (.int p0), .val (.int p1), .val (.long q2), .second, .val (.long q3), .second, .val (.long q4), .second, .val (.int p5), .val (.int r), .val (.int k), .val (.int t), .val (.long nx), .second, .val (.long w), .second, .unset, .unset, .unset, .unset] [(.int (1 : Int32))])) _
    refine XS.goto X0.here hx rfl (pc0 := 125) (pc' := 129) rfl (hb hby at_125) (by decide) (by decide) ?_
    rw [show (own_D_s0 t) = (1 : Int32) from by unfold own_D_s0; rw [if_pos hc114]] at kt
    exact kt
  · refine XS.icmpNo X0.here hx rfl (hb hby at_114) rfl (feq hc114).1 ?_
    show Steps p.tables e below (T0.setTop (mkF m 117 #[.val (.int p0), .val (.int p1), .val (.long q2), .second, .val (.long q3), .second, .val (.long q4), .second, .val (.int p5), .val (.int r), .val (.int k), .val (.int t), .val (.long nx), .second, .val (.long w), .second, .unset, .unset, .unset, .unset] [])) _
    refine XS.iload X0.here hx rfl (hb hby at_117) rfl ?_
    show Steps p.tables e below (T0.setTop (mkF m 119 #[.val (.int p0), .val (.int p1), .val (.long q2), .second, .val (.long q3), .second, .val (.long q4), .second, .val (.int p5), .val (.int r), .val (.int k), .val (.int t), .val (.long nx), .second, .val (.long w), .second, .unset, .unset, .unset, .unset] [(.int t)])) _
    refine XS.bipush X0.here hx rfl (hb hby at_119) ?_
    show Steps p.tables e below (T0.setTop (mkF m 121 #[.val (.int p0), .val (.int p1), .val (.long q2), .second, .val (.long q3), .second, .val (.long q4), .second, .val (.int p5), .val (.int r), .val (.int k), .val (.int t), .val (.long nx), .second, .val (.long w), .second, .unset, .unset, .unset, .unset] [(.int (41 : Int32)), (.int t)])) _
    by_cases hc121 : t = (41 : Int32)
    · refine XS.icmpNo X0.here hx rfl (hb hby at_121) rfl (teq hc121).2 ?_
      show Steps p.tables e below (T0.setTop (mkF m 124 #[.val (.int p0), .val (.int p1), .val (.long q2), .second, .val (.long q3), .second, .val (.long q4), .second, .val (.int p5), .val (.int r), .val (.int k), .val (.int t), .val (.long nx), .second, .val (.long w), .second, .unset, .unset, .unset, .unset] [])) _
      refine XS.iconst X0.here hx rfl (hb hby at_124) ?_
      show Steps p.tables e below (T0.setTop (mkF m 125 #[.val (.int p0), .val (.int p1), .val (.long q2), .second, .val (.long q3), .second, .val (.long q4), .second, .val (.int p5), .val (.int r), .val (.int k), .val (.int t), .val (.long nx), .second, .val (.long w), .second, .unset, .unset, .unset, .unset] [(.int (1 : Int32))])) _
      refine XS.goto X0.here hx rfl (pc0 := 125) (pc' := 129) rfl (hb hby at_125) (by decide) (by decide) ?_
      rw [show (own_D_s0 t) = (1 : Int32) from by unfold own_D_s0; rw [if_neg hc114, if_pos hc121]] at kt
      exact kt
    · refine XS.icmpYes X0.here hx rfl (pc0 := 121) (pc' := 128) rfl (hb hby at_121) rfl (feq hc121).2 (by decide) (by decide) ?_
      show Steps p.tables e below (T0.setTop (mkF m 128 #[.val (.int p0), .val (.int p1), .val (.long q2), .second, .val (.long q3), .second, .val (.long q4), .second, .val (.int p5), .val (.int r), .val (.int k), .val (.int t), .val (.long nx), .second, .val (.long w), .second, .unset, .unset, .unset, .unset] [])) _
      refine XS.iconst X0.here hx rfl (hb hby at_128) ?_
      rw [show (own_D_s0 t) = (0 : Int32) from by unfold own_D_s0; rw [if_neg hc114, if_neg hc121]] at kt
      exact kt
def own_E_s0 (p1 : Int32) : Int32 := (if (p1 &&& (32 : Int32)) = (0 : Int32) then (0 : Int32) else (1 : Int32))
set_option maxRecDepth 65536 in
set_option maxHeartbeats 40000000 in
theorem sg_E {p : Program} {l : Launch} {e : Env} {R : Room} {s : State} {m : MethodId} {args : Array Value} {below : List Frame} {meth : Method} {c : Code} {T0 : State} {locs : List Loc} {cells slots : Nat} {Z : State} {a0 : Array Value} {h0 : Heap} {target : State} (p0 : Int32) (p1 : Int32) (q2 : Int64) (q3 : Int64) (q4 : Int64) (p5 : Int32) (hbt : Int32) (r : Int32) (k : Int32) (t : Int32) (nx : Int64) (w : Int64) (X0 : Stand p l e R s m args below meth c T0 locs cells slots) (hx : p.tables.exec = Jvm.exec) (hZ : Z.Warmed39 s.vm) (hw : ∀ d ∈ tables_1, d.before a0 Z = true) (hby : c.code = code) (hown : s.vm.findClass "com/example/millrace/millrace/binlog/LogEventOffsetPinLaw" = some m.cls) (e0 : T0.heap = h0) 
    (kt : Steps p.tables e below (T0.setTop (mkF m 143 #[.val (.int p0), .val (.int p1), .val (.long q2), .second, .val (.long q3), .second, .val (.long q4), .second, .val (.int p5), .val (.int r), .val (.int k), .val (.int t), .val (.long nx), .second, .val (.long w), .second, .val (.int hbt), .unset, .unset, .unset] [(.int (own_E_s0 p1))])) target) : Steps p.tables e below (T0.setTop (mkF m 131 #[.val (.int p0), .val (.int p1), .val (.long q2), .second, .val (.long q3), .second, .val (.long q4), .second, .val (.int p5), .val (.int r), .val (.int k), .val (.int t), .val (.long nx), .second, .val (.long w), .second, .val (.int hbt), .unset, .unset, .unset] [])) target := by
  show Steps p.tables e below (T0.setTop (mkF m 131 #[.val (.int p0), .val (.int p1), .val (.long q2), .second, .val (.long q3), .second, .val (.long q4), .second, .val (.int p5), .val (.int r), .val (.int k), .val (.int t), .val (.long nx), .second, .val (.long w), .second, .val (.int hbt), .unset, .unset, .unset] [])) _
  refine XS.iloadN X0.here hx rfl (hb hby at_131) rfl ?_
  show Steps p.tables e below (T0.setTop (mkF m 132 #[.val (.int p0), .val (.int p1), .val (.long q2), .second, .val (.long q3), .second, .val (.long q4), .second, .val (.int p5), .val (.int r), .val (.int k), .val (.int t), .val (.long nx), .second, .val (.long w), .second, .val (.int hbt), .unset, .unset, .unset] [(.int p1)])) _
  refine XS.bipush X0.here hx rfl (hb hby at_132) ?_
  show Steps p.tables e below (T0.setTop (mkF m 134 #[.val (.int p0), .val (.int p1), .val (.long q2), .second, .val (.long q3), .second, .val (.long q4), .second, .val (.int p5), .val (.int r), .val (.int k), .val (.int t), .val (.long nx), .second, .val (.long w), .second, .val (.int hbt), .unset, .unset, .unset] [(.int (32 : Int32)), (.int p1)])) _
  refine XS.iand X0.here hx rfl (hb hby at_134) rfl ?_
  show Steps p.tables e below (T0.setTop (mkF m 135 #[.val (.int p0), .val (.int p1), .val (.long q2), .second, .val (.long q3), .second, .val (.long q4), .second, .val (.int p5), .val (.int r), .val (.int k), .val (.int t), .val (.long nx), .second, .val (.long w), .second, .val (.int hbt), .unset, .unset, .unset] [(.int (p1 &&& (32 : Int32)))])) _
  by_cases hc135 : (p1 &&& (32 : Int32)) = (0 : Int32)
  · refine XS.ifYes X0.here hx rfl (pc0 := 135) (pc' := 142) rfl (hb hby at_135) rfl ((if0 _ _).trans (teq hc135).1) (by decide) (by decide) ?_
    show Steps p.tables e below (T0.setTop (mkF m 142 #[.val (.int p0), .val (.int p1), .val (.long q2), .second, .val (.long q3), .second, .val (.long q4), .second, .val (.int p5), .val (.int r), .val (.int k), .val (.int t), .val (.long nx), .second, .val (.long w), .second, .val (.int hbt), .unset, .unset, .unset] [])) _
    refine XS.iconst X0.here hx rfl (hb hby at_142) ?_
    rw [show (own_E_s0 p1) = (0 : Int32) from by unfold own_E_s0; rw [if_pos hc135]] at kt
    exact kt
  · refine XS.ifNo X0.here hx rfl (hb hby at_135) rfl ((if0 _ _).trans (feq hc135).1) ?_
    show Steps p.tables e below (T0.setTop (mkF m 138 #[.val (.int p0), .val (.int p1), .val (.long q2), .second, .val (.long q3), .second, .val (.long q4), .second, .val (.int p5), .val (.int r), .val (.int k), .val (.int t), .val (.long nx), .second, .val (.long w), .second, .val (.int hbt), .unset, .unset, .unset] [])) _
    refine XS.iconst X0.here hx rfl (hb hby at_138) ?_
    show Steps p.tables e below (T0.setTop (mkF m 139 #[.val (.int p0), .val (.int p1), .val (.long q2), .second, .val (.long q3), .second, .val (.long q4), .second, .val (.int p5), .val (.int r), .val (.int k), .val (.int t), .val (.long nx), .second, .val (.long w), .second, .val (.int hbt), .unset, .unset, .unset] [(.int (1 : Int32))])) _
    refine XS.goto X0.here hx rfl (pc0 := 139) (pc' := 143) rfl (hb hby at_139) (by decide) (by decide) ?_
    rw [show (own_E_s0 p1) = (1 : Int32) from by unfold own_E_s0; rw [if_neg hc135]] at kt
    exact kt
def own_F_l18 (q2 : Int64) (q4 : Int64) (hbt : Int32) (ar : Int32) (r : Int32) (t : Int32) (nx : Int64) : Int64 := (if hbt = (0 : Int32) then (if r = (0 : Int32) then (if nx = (0 : Int64) then (if ar = (0 : Int32) then (if t = (15 : Int32) then (-1 : Int64) else q4) else (-1 : Int64)) else (nx - q2)) else (if ar = (0 : Int32) then q4 else (-1 : Int64))) else (-1 : Int64))
set_option maxRecDepth 65536 in
set_option maxHeartbeats 40000000 in
theorem sg_F {p : Program} {l : Launch} {e : Env} {R : Room} {s : State} {m : MethodId} {args : Array Value} {below : List Frame} {meth : Method} {c : Code} {T0 : State} {locs : List Loc} {cells slots : Nat} {Z : State} {a0 : Array Value} {h0 : Heap} {target : State} (p0 : Int32) (p1 : Int32) (q2 : Int64) (q3 : Int64) (q4 : Int64) (p5 : Int32) (hbt : Int32) (ar : Int32) (r : Int32) (k : Int32) (t : Int32) (nx : Int64) (w : Int64) (X0 : Stand p l e R s m args below meth c T0 locs cells slots) (hx : p.tables.exec = Jvm.exec) (hZ : Z.Warmed39 s.vm) (hw : ∀ d ∈ tables_1, d.before a0 Z = true) (hby : c.code = code) (hown : s.vm.findClass "com/example/millrace/millrace/binlog/LogEventOffsetPinLaw" = some m.cls) (e0 : T0.heap = h0) 
    (kt : Steps p.tables e below (T0.setTop (mkF m 221 #[.val (.int p0), .val (.int p1), .val (.long q2), .second, .val (.long q3), .second, .val (.long q4), .second, .val (.int p5), .val (.int r), .val (.int k), .val (.int t), .val (.long nx), .second, .val (.long w), .second, .val (.int hbt), .val (.int ar), .val (.long (own_F_l18 q2 q4 hbt ar r t nx)), .second] [])) target) : Steps p.tables e below (T0.setTop (mkF m 145 #[.val (.int p0), .val (.int p1), .val (.long q2), .second, .val (.long q3), .second, .val (.long q4), .second, .val (.int p5), .val (.int r), .val (.int k), .val (.int t), .val (.long nx), .second, .val (.long w), .second, .val (.int hbt), .val (.int ar), .unset, .unset] [])) target := by
  show Steps p.tables e below (T0.setTop (mkF m 145 #[.val (.int p0), .val (.int p1), .val (.long q2), .second, .val (.long q3), .second, .val (.long q4), .second, .val (.int p5), .val (.int r), .val (.int k), .val (.int t), .val (.long nx), .second, .val (.long w), .second, .val (.int hbt), .val (.int ar), .unset, .unset] [])) _
  refine XS.iload X0.here hx rfl (hb hby at_145) rfl ?_
  show Steps p.tables e below (T0.setTop (mkF m 147 #[.val (.int p0), .val (.int p1), .val (.long q2), .second, .val (.long q3), .second, .val (.long q4), .second, .val (.int p5), .val (.int r), .val (.int k), .val (.int t), .val (.long nx), .second, .val (.long w), .second, .val (.int hbt), .val (.int ar), .unset, .unset] [(.int hbt)])) _
  by_cases hc147 : hbt = (0 : Int32)
  · refine XS.ifYes X0.here hx rfl (pc0 := 147) (pc' := 158) rfl (hb hby at_147) rfl ((if0 _ _).trans (teq hc147).1) (by decide) (by decide) ?_
    show Steps p.tables e below (T0.setTop (mkF m 158 #[.val (.int p0), .val (.int p1), .val (.long q2), .second, .val (.long q3), .second, .val (.long q4), .second, .val (.int p5), .val (.int r), .val (.int k), .val (.int t), .val (.long nx), .second, .val (.long w), .second, .val (.int hbt), .val (.int ar), .unset, .unset] [])) _
    refine XS.iload X0.here hx rfl (hb hby at_158) rfl ?_
    show Steps p.tables e below (T0.setTop (mkF m 160 #[.val (.int p0), .val (.int p1), .val (.long q2), .second, .val (.long q3), .second, .val (.long q4), .second, .val (.int p5), .val (.int r), .val (.int k), .val (.int t), .val (.long nx), .second, .val (.long w), .second, .val (.int hbt), .val (.int ar), .unset, .unset] [(.int r)])) _
    by_cases hc160 : r = (0 : Int32)
    · refine XS.ifYes X0.here hx rfl (pc0 := 160) (pc' := 181) rfl (hb hby at_160) rfl ((if0 _ _).trans (teq hc160).1) (by decide) (by decide) ?_
      show Steps p.tables e below (T0.setTop (mkF m 181 #[.val (.int p0), .val (.int p1), .val (.long q2), .second, .val (.long q3), .second, .val (.long q4), .second, .val (.int p5), .val (.int r), .val (.int k), .val (.int t), .val (.long nx), .second, .val (.long w), .second, .val (.int hbt), .val (.int ar), .unset, .unset] [])) _
      refine XS.lload X0.here hx rfl (hb hby at_181) rfl ?_
      show Steps p.tables e below (T0.setTop (mkF m 183 #[.val (.int p0), .val (.int p1), .val (.long q2), .second, .val (.long q3), .second, .val (.long q4), .second, .val (.int p5), .val (.int r), .val (.int k), .val (.int t), .val (.long nx), .second, .val (.long w), .second, .val (.int hbt), .val (.int ar), .unset, .unset] [(.long nx)])) _
      refine XS.lconst X0.here hx rfl (hb hby at_183) ?_
      show Steps p.tables e below (T0.setTop (mkF m 184 #[.val (.int p0), .val (.int p1), .val (.long q2), .second, .val (.long q3), .second, .val (.long q4), .second, .val (.int p5), .val (.int r), .val (.int k), .val (.int t), .val (.long nx), .second, .val (.long w), .second, .val (.int hbt), .val (.int ar), .unset, .unset] [(.long (0 : Int64)), (.long nx)])) _
      refine XS.lcmp X0.here hx rfl (hb hby at_184) rfl ?_
      show Steps p.tables e below (T0.setTop (mkF m 185 #[.val (.int p0), .val (.int p1), .val (.long q2), .second, .val (.long q3), .second, .val (.long q4), .second, .val (.int p5), .val (.int r), .val (.int k), .val (.int t), .val (.long nx), .second, .val (.long w), .second, .val (.int hbt), .val (.int ar), .unset, .unset] [(.int (lcmpW nx (0 : Int64)))])) _
      by_cases hc185 : nx = (0 : Int64)
      · refine XS.ifYes X0.here hx rfl (pc0 := 185) (pc' := 197) rfl (hb hby at_185) rfl ((if0 _ _).trans (teq ((lw_eq nx (0 : Int64)).mpr hc185)).1) (by decide) (by decide) ?_
        show Steps p.tables e below (T0.setTop (mkF m 197 #[.val (.int p0), .val (.int p1), .val (.long q2), .second, .val (.long q3), .second, .val (.long q4), .second, .val (.int p5), .val (.int r), .val (.int k), .val (.int t), .val (.long nx), .second, .val (.long w), .second, .val (.int hbt), .val (.int ar), .unset, .unset] [])) _
        refine XS.iload X0.here hx rfl (hb hby at_197) rfl ?_
        show Steps p.tables e below (T0.setTop (mkF m 199 #[.val (.int p0), .val (.int p1), .val (.long q2), .second, .val (.long q3), .second, .val (.long q4), .second, .val (.int p5), .val (.int r), .val (.int k), .val (.int t), .val (.long nx), .second, .val (.long w), .second, .val (.int hbt), .val (.int ar), .unset, .unset] [(.int ar)])) _
        by_cases hc199 : ar = (0 : Int32)
        · refine XS.ifNo X0.here hx rfl (hb hby at_199) rfl ((if0 _ _).trans (teq hc199).2) ?_
          show Steps p.tables e below (T0.setTop (mkF m 202 #[.val (.int p0), .val (.int p1), .val (.long q2), .second, .val (.long q3), .second, .val (.long q4), .second, .val (.int p5), .val (.int r), .val (.int k), .val (.int t), .val (.long nx), .second, .val (.long w), .second, .val (.int hbt), .val (.int ar), .unset, .unset] [])) _
          refine XS.iload X0.here hx rfl (hb hby at_202) rfl ?_
          show Steps p.tables e below (T0.setTop (mkF m 204 #[.val (.int p0), .val (.int p1), .val (.long q2), .second, .val (.long q3), .second, .val (.long q4), .second, .val (.int p5), .val (.int r), .val (.int k), .val (.int t), .val (.long nx), .second, .val (.long w), .second, .val (.int hbt), .val (.int ar), .unset, .unset] [(.int t)])) _
          refine XS.bipush X0.here hx rfl (hb hby at_204) ?_
          show Steps p.tables e below (T0.setTop (mkF m 206 #[.val (.int p0), .val (.int p1), .val (.long q2), .second, .val (.long q3), .second, .val (.long q4), .second, .val (.int p5), .val (.int r), .val (.int k), .val (.int t), .val (.long nx), .second, .val (.long w), .second, .val (.int hbt), .val (.int ar), .unset, .unset] [(.int (15 : Int32)), (.int t)])) _
          by_cases hc206 : t = (15 : Int32)
          · refine XS.icmpNo X0.here hx rfl (hb hby at_206) rfl (teq hc206).2 ?_
            show Steps p.tables e below (T0.setTop (mkF m 209 #[.val (.int p0), .val (.int p1), .val (.long q2), .second, .val (.long q3), .second, .val (.long q4), .second, .val (.int p5), .val (.int r), .val (.int k), .val (.int t), .val (.long nx), .second, .val (.long w), .second, .val (.int hbt), .val (.int ar), .unset, .unset] [])) _
            refine X0.ldc2J hx hown (mvT hZ (hw _ (List.mem_of_getElem? (i := 5) rfl))) rfl (hb hby at_209) ?_
            show Steps p.tables e below (T0.setTop (mkF m 212 #[.val (.int p0), .val (.int p1), .val (.long q2), .second, .val (.long q3), .second, .val (.long q4), .second, .val (.int p5), .val (.int r), .val (.int k), .val (.int t), .val (.long nx), .second, .val (.long w), .second, .val (.int hbt), .val (.int ar), .unset, .unset] [(.long (-1 : Int64))])) _
            refine XS.lstore X0.here hx rfl (hb hby at_212) rfl (l' := #[.val (.int p0), .val (.int p1), .val (.long q2), .second, .val (.long q3), .second, .val (.long q4), .second, .val (.int p5), .val (.int r), .val (.int k), .val (.int t), .val (.long nx), .second, .val (.long w), .second, .val (.int hbt), .val (.int ar), .val (.long (-1 : Int64)), .second]) rfl ?_
            show Steps p.tables e below (T0.setTop (mkF m 214 #[.val (.int p0), .val (.int p1), .val (.long q2), .second, .val (.long q3), .second, .val (.long q4), .second, .val (.int p5), .val (.int r), .val (.int k), .val (.int t), .val (.long nx), .second, .val (.long w), .second, .val (.int hbt), .val (.int ar), .val (.long (-1 : Int64)), .second] [])) _
            refine XS.goto X0.here hx rfl (pc0 := 214) (pc' := 221) rfl (hb hby at_214) (by decide) (by decide) ?_
            rw [show (own_F_l18 q2 q4 hbt ar r t nx) = (-1 : Int64) from by unfold own_F_l18; rw [if_pos hc147, if_pos hc160, if_pos hc185, if_pos hc199, if_pos hc206]] at kt
            exact kt
          · refine XS.icmpYes X0.here hx rfl (pc0 := 206) (pc' := 217) rfl (hb hby at_206) rfl (feq hc206).2 (by decide) (by decide) ?_
            show Steps p.tables e below (T0.setTop (mkF m 217 #[.val (.int p0), .val (.int p1), .val (.long q2), .second, .val (.long q3), .second, .val (.long q4), .second, .val (.int p5), .val (.int r), .val (.int k), .val (.int t), .val (.long nx), .second, .val (.long w), .second, .val (.int hbt), .val (.int ar), .unset, .unset] [])) _
            refine XS.lload X0.here hx rfl (hb hby at_217) rfl ?_
            show Steps p.tables e below (T0.setTop (mkF m 219 #[.val (.int p0), .val (.int p1), .val (.long q2), .second, .val (.long q3), .second, .val (.long q4), .second, .val (.int p5), .val (.int r), .val (.int k), .val (.int t), .val (.long nx), .second, .val (.long w), .second, .val (.int hbt), .val (.int ar), .unset, .unset] [(.long q4)])) _
            refine XS.lstore X0.here hx rfl (hb hby at_219) rfl (l' := #[.val (.int p0), .val (.int p1), .val (.long q2), .second, .val (.long q3), .second, .val (.long q4), .second, .val (.int p5), .val (.int r), .val (.int k), .val (.int t), .val (.long nx), .second, .val (.long w), .second, .val (.int hbt), .val (.int ar), .val (.long q4), .second]) rfl ?_
            rw [show (own_F_l18 q2 q4 hbt ar r t nx) = q4 from by unfold own_F_l18; rw [if_pos hc147, if_pos hc160, if_pos hc185, if_pos hc199, if_neg hc206]] at kt
            exact kt
        · refine XS.ifYes X0.here hx rfl (pc0 := 199) (pc' := 209) rfl (hb hby at_199) rfl ((if0 _ _).trans (feq hc199).2) (by decide) (by decide) ?_
          show Steps p.tables e below (T0.setTop (mkF m 209 #[.val (.int p0), .val (.int p1), .val (.long q2), .second, .val (.long q3), .second, .val (.long q4), .second, .val (.int p5), .val (.int r), .val (.int k), .val (.int t), .val (.long nx), .second, .val (.long w), .second, .val (.int hbt), .val (.int ar), .unset, .unset] [])) _
          refine X0.ldc2J hx hown (mvT hZ (hw _ (List.mem_of_getElem? (i := 5) rfl))) rfl (hb hby at_209) ?_
          show Steps p.tables e below (T0.setTop (mkF m 212 #[.val (.int p0), .val (.int p1), .val (.long q2), .second, .val (.long q3), .second, .val (.long q4), .second, .val (.int p5), .val (.int r), .val (.int k), .val (.int t), .val (.long nx), .second, .val (.long w), .second, .val (.int hbt), .val (.int ar), .unset, .unset] [(.long (-1 : Int64))])) _
          refine XS.lstore X0.here hx rfl (hb hby at_212) rfl (l' := #[.val (.int p0), .val (.int p1), .val (.long q2), .second, .val (.long q3), .second, .val (.long q4), .second, .val (.int p5), .val (.int r), .val (.int k), .val (.int t), .val (.long nx), .second, .val (.long w), .second, .val (.int hbt), .val (.int ar), .val (.long (-1 : Int64)), .second]) rfl ?_
          show Steps p.tables e below (T0.setTop (mkF m 214 #[.val (.int p0), .val (.int p1), .val (.long q2), .second, .val (.long q3), .second, .val (.long q4), .second, .val (.int p5), .val (.int r), .val (.int k), .val (.int t), .val (.long nx), .second, .val (.long w), .second, .val (.int hbt), .val (.int ar), .val (.long (-1 : Int64)), .second] [])) _
          refine XS.goto X0.here hx rfl (pc0 := 214) (pc' := 221) rfl (hb hby at_214) (by decide) (by decide) ?_
          rw [show (own_F_l18 q2 q4 hbt ar r t nx) = (-1 : Int64) from by unfold own_F_l18; rw [if_pos hc147, if_pos hc160, if_pos hc185, if_neg hc199]] at kt
          exact kt
      · refine XS.ifNo X0.here hx rfl (hb hby at_185) rfl ((if0 _ _).trans (feq (fun q => hc185 ((lw_eq nx (0 : Int64)).mp q))).1) ?_
        show Steps p.tables e below (T0.setTop (mkF m 188 #[.val (.int p0), .val (.int p1), .val (.long q2), .second, .val (.long q3), .second, .val (.long q4), .second, .val (.int p5), .val (.int r), .val (.int k), .val (.int t), .val (.long nx), .second, .val (.long w), .second, .val (.int hbt), .val (.int ar), .unset, .unset] [])) _
        refine XS.lload X0.here hx rfl (hb hby at_188) rfl ?_
        show Steps p.tables e below (T0.setTop (mkF m 190 #[.val (.int p0), .val (.int p1), .val (.long q2), .second, .val (.long q3), .second, .val (.long q4), .second, .val (.int p5), .val (.int r), .val (.int k), .val (.int t), .val (.long nx), .second, .val (.long w), .second, .val (.int hbt), .val (.int ar), .unset, .unset] [(.long nx)])) _
        refine XS.lloadN X0.here hx rfl (hb hby at_190) rfl ?_
        show Steps p.tables e below (T0.setTop (mkF m 191 #[.val (.int p0), .val (.int p1), .val (.long q2), .second, .val (.long q3), .second, .val (.long q4), .second, .val (.int p5), .val (.int r), .val (.int k), .val (.int t), .val (.long nx), .second, .val (.long w), .second, .val (.int hbt), .val (.int ar), .unset, .unset] [(.long q2), (.long nx)])) _
        refine XS.lsub X0.here hx rfl (hb hby at_191) rfl ?_
        show Steps p.tables e below (T0.setTop (mkF m 192 #[.val (.int p0), .val (.int p1), .val (.long q2), .second, .val (.long q3), .second, .val (.long q4), .second, .val (.int p5), .val (.int r), .val (.int k), .val (.int t), .val (.long nx), .second, .val (.long w), .second, .val (.int hbt), .val (.int ar), .unset, .unset] [(.long (nx - q2))])) _
        refine XS.lstore X0.here hx rfl (hb hby at_192) rfl (l' := #[.val (.int p0), .val (.int p1), .val (.long q2), .second, .val (.long q3), .second, .val (.long q4), .second, .val (.int p5), .val (.int r), .val (.int k), .val (.int t), .val (.long nx), .second, .val (.long w), .second, .val (.int hbt), .val (.int ar), .val (.long (nx - q2)), .second]) rfl ?_
        show Steps p.tables e below (T0.setTop (mkF m 194 #[.val (.int p0), .val (.int p1), .val (.long q2), .second, .val (.long q3), .second, .val (.long q4), .second, .val (.int p5), .val (.int r), .val (.int k), .val (.int t), .val (.long nx), .second, .val (.long w), .second, .val (.int hbt), .val (.int ar), .val (.long (nx - q2)), .second] [])) _
        refine XS.goto X0.here hx rfl (pc0 := 194) (pc' := 221) rfl (hb hby at_194) (by decide) (by decide) ?_
        rw [show (own_F_l18 q2 q4 hbt ar r t nx) = (nx - q2) from by unfold own_F_l18; rw [if_pos hc147, if_pos hc160, if_neg hc185]] at kt
        exact kt
    · refine XS.ifNo X0.here hx rfl (hb hby at_160) rfl ((if0 _ _).trans (feq hc160).1) ?_
      show Steps p.tables e below (T0.setTop (mkF m 163 #[.val (.int p0), .val (.int p1), .val (.long q2), .second, .val (.long q3), .second, .val (.long q4), .second, .val (.int p5), .val (.int r), .val (.int k), .val (.int t), .val (.long nx), .second, .val (.long w), .second, .val (.int hbt), .val (.int ar), .unset, .unset] [])) _
      refine XS.iload X0.here hx rfl (hb hby at_163) rfl ?_
      show Steps p.tables e below (T0.setTop (mkF m 165 #[.val (.int p0), .val (.int p1), .val (.long q2), .second, .val (.long q3), .second, .val (.long q4), .second, .val (.int p5), .val (.int r), .val (.int k), .val (.int t), .val (.long nx), .second, .val (.long w), .second, .val (.int hbt), .val (.int ar), .unset, .unset] [(.int ar)])) _
      by_cases hc165 : ar = (0 : Int32)
      · refine XS.ifYes X0.here hx rfl (pc0 := 165) (pc' := 174) rfl (hb hby at_165) rfl ((if0 _ _).trans (teq hc165).1) (by decide) (by decide) ?_
        show Steps p.tables e below (T0.setTop (mkF m 174 #[.val (.int p0), .val (.int p1), .val (.long q2), .second, .val (.long q3), .second, .val (.long q4), .second, .val (.int p5), .val (.int r), .val (.int k), .val (.int t), .val (.long nx), .second, .val (.long w), .second, .val (.int hbt), .val (.int ar), .unset, .unset] [])) _
        refine XS.lload X0.here hx rfl (hb hby at_174) rfl ?_
        show Steps p.tables e below (T0.setTop (mkF m 176 #[.val (.int p0), .val (.int p1), .val (.long q2), .second, .val (.long q3), .second, .val (.long q4), .second, .val (.int p5), .val (.int r), .val (.int k), .val (.int t), .val (.long nx), .second, .val (.long w), .second, .val (.int hbt), .val (.int ar), .unset, .unset] [(.long q4)])) _
        refine XS.lstore X0.here hx rfl (hb hby at_176) rfl (l' := #[.val (.int p0), .val (.int p1), .val (.long q2), .second, .val (.long q3), .second, .val (.long q4), .second, .val (.int p5), .val (.int r), .val (.int k), .val (.int t), .val (.long nx), .second, .val (.long w), .second, .val (.int hbt), .val (.int ar), .val (.long q4), .second]) rfl ?_
        show Steps p.tables e below (T0.setTop (mkF m 178 #[.val (.int p0), .val (.int p1), .val (.long q2), .second, .val (.long q3), .second, .val (.long q4), .second, .val (.int p5), .val (.int r), .val (.int k), .val (.int t), .val (.long nx), .second, .val (.long w), .second, .val (.int hbt), .val (.int ar), .val (.long q4), .second] [])) _
        refine XS.goto X0.here hx rfl (pc0 := 178) (pc' := 221) rfl (hb hby at_178) (by decide) (by decide) ?_
        rw [show (own_F_l18 q2 q4 hbt ar r t nx) = q4 from by unfold own_F_l18; rw [if_pos hc147, if_neg hc160, if_pos hc165]] at kt
        exact kt
      · refine XS.ifNo X0.here hx rfl (hb hby at_165) rfl ((if0 _ _).trans (feq hc165).1) ?_
        show Steps p.tables e below (T0.setTop (mkF m 168 #[.val (.int p0), .val (.int p1), .val (.long q2), .second, .val (.long q3), .second, .val (.long q4), .second, .val (.int p5), .val (.int r), .val (.int k), .val (.int t), .val (.long nx), .second, .val (.long w), .second, .val (.int hbt), .val (.int ar), .unset, .unset] [])) _
        refine X0.ldc2J hx hown (mvT hZ (hw _ (List.mem_of_getElem? (i := 5) rfl))) rfl (hb hby at_168) ?_
        show Steps p.tables e below (T0.setTop (mkF m 171 #[.val (.int p0), .val (.int p1), .val (.long q2), .second, .val (.long q3), .second, .val (.long q4), .second, .val (.int p5), .val (.int r), .val (.int k), .val (.int t), .val (.long nx), .second, .val (.long w), .second, .val (.int hbt), .val (.int ar), .unset, .unset] [(.long (-1 : Int64))])) _
        refine XS.goto X0.here hx rfl (pc0 := 171) (pc' := 176) rfl (hb hby at_171) (by decide) (by decide) ?_
        show Steps p.tables e below (T0.setTop (mkF m 176 #[.val (.int p0), .val (.int p1), .val (.long q2), .second, .val (.long q3), .second, .val (.long q4), .second, .val (.int p5), .val (.int r), .val (.int k), .val (.int t), .val (.long nx), .second, .val (.long w), .second, .val (.int hbt), .val (.int ar), .unset, .unset] [(.long (-1 : Int64))])) _
        refine XS.lstore X0.here hx rfl (hb hby at_176) rfl (l' := #[.val (.int p0), .val (.int p1), .val (.long q2), .second, .val (.long q3), .second, .val (.long q4), .second, .val (.int p5), .val (.int r), .val (.int k), .val (.int t), .val (.long nx), .second, .val (.long w), .second, .val (.int hbt), .val (.int ar), .val (.long (-1 : Int64)), .second]) rfl ?_
        show Steps p.tables e below (T0.setTop (mkF m 178 #[.val (.int p0), .val (.int p1), .val (.long q2), .second, .val (.long q3), .second, .val (.long q4), .second, .val (.int p5), .val (.int r), .val (.int k), .val (.int t), .val (.long nx), .second, .val (.long w), .second, .val (.int hbt), .val (.int ar), .val (.long (-1 : Int64)), .second] [])) _
        refine XS.goto X0.here hx rfl (pc0 := 178) (pc' := 221) rfl (hb hby at_178) (by decide) (by decide) ?_
        rw [show (own_F_l18 q2 q4 hbt ar r t nx) = (-1 : Int64) from by unfold own_F_l18; rw [if_pos hc147, if_neg hc160, if_neg hc165]] at kt
        exact kt
  · refine XS.ifNo X0.here hx rfl (hb hby at_147) rfl ((if0 _ _).trans (feq hc147).1) ?_
    show Steps p.tables e below (T0.setTop (mkF m 150 #[.val (.int p0), .val (.int p1), .val (.long q2), .second, .val (.long q3), .second, .val (.long q4), .second, .val (.int p5), .val (.int r), .val (.int k), .val (.int t), .val (.long nx), .second, .val (.long w), .second, .val (.int hbt), .val (.int ar), .unset, .unset] [])) _
    refine X0.ldc2J hx hown (mvT hZ (hw _ (List.mem_of_getElem? (i := 5) rfl))) rfl (hb hby at_150) ?_
    show Steps p.tables e below (T0.setTop (mkF m 153 #[.val (.int p0), .val (.int p1), .val (.long q2), .second, .val (.long q3), .second, .val (.long q4), .second, .val (.int p5), .val (.int r), .val (.int k), .val (.int t), .val (.long nx), .second, .val (.long w), .second, .val (.int hbt), .val (.int ar), .unset, .unset] [(.long (-1 : Int64))])) _
    refine XS.lstore X0.here hx rfl (hb hby at_153) rfl (l' := #[.val (.int p0), .val (.int p1), .val (.long q2), .second, .val (.long q3), .second, .val (.long q4), .second, .val (.int p5), .val (.int r), .val (.int k), .val (.int t), .val (.long nx), .second, .val (.long w), .second, .val (.int hbt), .val (.int ar), .val (.long (-1 : Int64)), .second]) rfl ?_
    show Steps p.tables e below (T0.setTop (mkF m 155 #[.val (.int p0), .val (.int p1), .val (.long q2), .second, .val (.long q3), .second, .val (.long q4), .second, .val (.int p5), .val (.int r), .val (.int k), .val (.int t), .val (.long nx), .second, .val (.long w), .second, .val (.int hbt), .val (.int ar), .val (.long (-1 : Int64)), .second] [])) _
    refine XS.goto X0.here hx rfl (pc0 := 155) (pc' := 221) rfl (hb hby at_155) (by decide) (by decide) ?_
    rw [show (own_F_l18 q2 q4 hbt ar r t nx) = (-1 : Int64) from by unfold own_F_l18; rw [if_neg hc147]] at kt
    exact kt
theorem own_same (p1 : Int32) (q2 q4 : Int64) (r t : Int32) (nx : Int64) : own_off t p1 q2 nx q4 r = own_F_l18 q2 q4 (own_D_s0 t) (own_E_s0 p1) r t nx := by
  unfold own_off own_F_l18
  by_cases h1 : t = 27
  · have e1 : own_D_s0 t = 1 := by unfold own_D_s0; rw [if_pos h1]
    rw [if_pos h1, e1, if_neg (by decide)]
  by_cases h2 : t = 41
  · have e1 : own_D_s0 t = 1 := by unfold own_D_s0; rw [if_neg h1, if_pos h2]
    rw [if_neg h1, if_pos h2, e1, if_neg (by decide)]
  have e1 : own_D_s0 t = 0 := by unfold own_D_s0; rw [if_neg h1, if_neg h2]
  rw [if_neg h1, if_neg h2, e1, if_pos rfl]
  by_cases h4 : (p1 &&& (32 : Int32)) = (0 : Int32)
  · have e2 : own_E_s0 p1 = 0 := by unfold own_E_s0; rw [if_pos h4]
    rw [e2]
    by_cases h3 : nx = 0 <;> by_cases h5 : r = 0 <;> by_cases h6 : t = 15 <;> simp only [h3, h4, h5, h6, if_true, if_false]
  · have e2 : own_E_s0 p1 = 1 := by unfold own_E_s0; rw [if_neg h4]
    rw [e2]
    have e3 : ¬ (1 : Int32) = 0 := by decide
    by_cases h3 : nx = 0 <;> by_cases h5 : r = 0 <;> by_cases h6 : t = 15 <;> simp only [h3, h4, h5, h6, e3, if_true, if_false]
theorem pd_0 : parseMethodDescriptor "(IIJJJZ)J" = some ⟨[.int, .int, .long, .long, .long, .boolean], some .long⟩ := by decide +kernel
def Q0 (Z : State) (p0 : Int32) (p1 : Int32) (q2 : Int64) (q3 : Int64) (q4 : Int64) (p5 : Int32) (h0 : Heap) (n0 : Nat) (v : Option Value) (h : Heap) (L : List Loc) : Prop := v = some (.int (1 : Int32)) ∧ Fr n0 L
set_option maxRecDepth 65536 in
set_option maxHeartbeats 40000000 in
theorem rm0 (l : Launch) (Z : State) (a0 : Array Value) (hw : ∀ d ∈ tables_1, d.before a0 Z = true) (ws : List Jvm.Cond) (p0 : Int32) (p1 : Int32) (q2 : Int64) (q3 : Int64) (q4 : Int64) (p5 : Int32) (h0 : Heap) (n0 : Nat) (Z0 : n0 ≤ h0.size)  :
    MetFree l x (head1 (Jvm.Cond.code x code maxLocals ret :: ws) room_1) (fun a_ U_ => a_ = #[(.int p0), (.int p1), (.long q2), (.long q3), (.long q4), (.int p5)] ∧ Z.Warmed39 U_.vm ∧ U_.heap = h0) (fun _ _ _ _ _ => True) (fun _ U_ o_ U' => ∃ v_ L_, o_ = .returned v_ ∧ (Q0 Z p0 p1 q2 q3 q4 p5 h0 n0 v_ U'.heap L_) ∧ FrameEnd U_ o_ U' L_ room_1.cells room_1.slots) := by
  refine MetFree.of_bodySF (plainFor_of_name pn_0) hisR ?_
  intro p e s m args below meth c s₁ Bd hml0 hP hK
  obtain ⟨rfl, hZ, hh⟩ := hP
  have hx := Bd.exec
  have hby := Bd.bytes
  have hml : c.maxLocals = 20 := hml0
  have hown : s.vm.findClass "com/example/millrace/millrace/binlog/LogEventOffsetPinLaw" = some m.cls := findClass_of_methodNamed Bd.named
  have hnm := (name_of_methodNamed Bd.named Bd.method).1
  have X0 : Stand p l e room_1 s m #[(.int p0), (.int p1), (.long q2), (.long q3), (.long q4), (.int p5)] below meth c s₁ [] 0 0 := Stand.of_body Bd
  have e0 : s₁.heap = h0 := by rw [← hh, Bd.state]; rfl
  have N0 := Fr.nil n0
  have pre0 : ∀ t, Steps p.tables e below (s₁.setTop (mkF m 0 #[.val (.int p0), .val (.int p1), .val (.long q2), .second, .val (.long q3), .second, .val (.long q4), .second, .val (.int p5), .unset, .unset, .unset, .unset, .unset, .unset, .unset, .unset, .unset, .unset, .unset] [])) t → Steps p.tables e below (s₁.setTop (entryFrame m #[(.int p0), (.int p1), (.long q2), (.long q3), (.long q4), (.int p5)] maxLocals)) t := fun t k => castTop (ef_0 m p0 p1 q2 q3 q4 p5) k
  obtain ⟨r, hr9⟩ : ∃ r, (own_A_s0 p5) = r := ⟨_, rfl⟩
  obtain ⟨k, hk⟩ : ∃ k, (((p5.toUInt32 >>> ((1 : Int32) &&& 31).toUInt32).toInt32) &&& (7 : Int32)) = k := ⟨_, rfl⟩
  obtain ⟨t, ht⟩ : ∃ t, (own_B_l11 p0 k) = t := ⟨_, rfl⟩
  obtain ⟨nx, hxx⟩ : ∃ nx, (own_C_s0 q3 p5) = nx := ⟨_, rfl⟩
  obtain ⟨_, _, ⟨T1, L1, k1, n1⟩, -, X1, ⟨Lc1, hQ1, l1, y1, z1⟩, st1⟩ := Jvm.LawKit.callS X0 hx (y := (⟨"com/example/millrace/millrace/binlog/LogEvent", "offset", "(IIJJJZ)J"⟩ : MethodName)) hown (mvT hZ (hw _ (List.mem_of_getElem? (i := 0) rfl))) (mvT hZ (hw _ (List.mem_of_getElem? (i := 1) rfl))) (mvT hZ (hw _ (List.mem_of_getElem? (i := 2) rfl))) (mvT hZ (hw _ (List.mem_of_getElem? (i := 3) rfl))) (by decide) (backOf (W := 0) (rm1 l Z a0 hw [] t p1 q2 nx q4 r  h0 n0 Z0 ) hZ (hw _ (List.mem_of_getElem? (i := 3) rfl)) (hw _ (List.mem_of_getElem? (i := 2) rfl)) (by decide) (by decide)) (g := (mkF m 105 #[.val (.int p0), .val (.int p1), .val (.long q2), .second, .val (.long q3), .second, .val (.long q4), .second, .val (.int p5), .val (.int r), .val (.int k), .val (.int t), .val (.long nx), .second, .unset, .unset, .unset, .unset, .unset, .unset] [(.int r), (.long q4), (.long nx), (.long q2), (.int p1), (.int t)])) rfl (by rw [hml]; rfl) (argsL := [(.int t), (.int p1), (.long q2), (.long nx), (.long q4), (.int r)]) (rest := []) (lenOf pd_0 rfl) rfl (by show 2 * 0 + _ ≤ _; exact Nat.le_of_eq rfl) (hb hby at_105) (fun _ _ => ⟨rfl, e0, (by decide : 0 + 0 ≤ _), (by decide : 0 + 0 ≤ _)⟩)
  dsimp only [Pt.U, Pt.locs, Pt.cells, Pt.slots] at X1 l1 y1 z1 st1 hQ1
  subst l1 y1 z1
  obtain ⟨rfl, Nq1, e1⟩ := hQ1
  have N1 := Fr.app N0 Nq1
  obtain ⟨fs, hr, hrun, hended, hW, hsame⟩ := X1.leave (v := some (.int (1 : Int32))) (fun h => by rw [Bd.returns] at h; cases h)
  refine ⟨_, _, pre0 _ ?_, hrun, hended, _, _, rfl, ⟨rfl, N1⟩, ⟨_, rfl⟩, hW, hsame.mono (by decide) (by decide)⟩
  show Steps p.tables e below (s₁.setTop (mkF m 0 #[.val (.int p0), .val (.int p1), .val (.long q2), .second, .val (.long q3), .second, .val (.long q4), .second, .val (.int p5), .unset, .unset, .unset, .unset, .unset, .unset, .unset, .unset, .unset, .unset, .unset] [])) _
  refine sg_A p0 p1 q2 q3 q4 p5 X0 hx hZ hw hby hown e0  ?_
  show Steps p.tables e below (s₁.setTop (mkF m 12 #[.val (.int p0), .val (.int p1), .val (.long q2), .second, .val (.long q3), .second, .val (.long q4), .second, .val (.int p5), .unset, .unset, .unset, .unset, .unset, .unset, .unset, .unset, .unset, .unset, .unset] [(.int (own_A_s0 p5))])) _
  rw [hr9]
  show Steps p.tables e below (s₁.setTop (mkF m 12 #[.val (.int p0), .val (.int p1), .val (.long q2), .second, .val (.long q3), .second, .val (.long q4), .second, .val (.int p5), .unset, .unset, .unset, .unset, .unset, .unset, .unset, .unset, .unset, .unset, .unset] [(.int r)])) _
  refine XS.istore X0.here hx rfl (hb hby at_12) rfl (l' := #[.val (.int p0), .val (.int p1), .val (.long q2), .second, .val (.long q3), .second, .val (.long q4), .second, .val (.int p5), .val (.int r), .unset, .unset, .unset, .unset, .unset, .unset, .unset, .unset, .unset, .unset]) rfl ?_
  show Steps p.tables e below (s₁.setTop (mkF m 14 #[.val (.int p0), .val (.int p1), .val (.long q2), .second, .val (.long q3), .second, .val (.long q4), .second, .val (.int p5), .val (.int r), .unset, .unset, .unset, .unset, .unset, .unset, .unset, .unset, .unset, .unset] [])) _
  refine XS.iload X0.here hx rfl (hb hby at_14) rfl ?_
  show Steps p.tables e below (s₁.setTop (mkF m 16 #[.val (.int p0), .val (.int p1), .val (.long q2), .second, .val (.long q3), .second, .val (.long q4), .second, .val (.int p5), .val (.int r), .unset, .unset, .unset, .unset, .unset, .unset, .unset, .unset, .unset, .unset] [(.int p5)])) _
  refine XS.iconst X0.here hx rfl (hb hby at_16) ?_
  show Steps p.tables e below (s₁.setTop (mkF m 17 #[.val (.int p0), .val (.int p1), .val (.long q2), .second, .val (.long q3), .second, .val (.long q4), .second, .val (.int p5), .val (.int r), .unset, .unset, .unset, .unset, .unset, .unset, .unset, .unset, .unset, .unset] [(.int (1 : Int32)), (.int p5)])) _
  refine XS.iushr X0.here hx rfl (hb hby at_17) rfl ?_
  show Steps p.tables e below (s₁.setTop (mkF m 18 #[.val (.int p0), .val (.int p1), .val (.long q2), .second, .val (.long q3), .second, .val (.long q4), .second, .val (.int p5), .val (.int r), .unset, .unset, .unset, .unset, .unset, .unset, .unset, .unset, .unset, .unset] [(.int ((p5.toUInt32 >>> ((1 : Int32) &&& 31).toUInt32).toInt32))])) _
  refine XS.bipush X0.here hx rfl (hb hby at_18) ?_
  show Steps p.tables e below (s₁.setTop (mkF m 20 #[.val (.int p0), .val (.int p1), .val (.long q2), .second, .val (.long q3), .second, .val (.long q4), .second, .val (.int p5), .val (.int r), .unset, .unset, .unset, .unset, .unset, .unset, .unset, .unset, .unset, .unset] [(.int (7 : Int32)), (.int ((p5.toUInt32 >>> ((1 : Int32) &&& 31).toUInt32).toInt32))])) _
  refine XS.iand X0.here hx rfl (hb hby at_20) rfl ?_
  show Steps p.tables e below (s₁.setTop (mkF m 21 #[.val (.int p0), .val (.int p1), .val (.long q2), .second, .val (.long q3), .second, .val (.long q4), .second, .val (.int p5), .val (.int r), .unset, .unset, .unset, .unset, .unset, .unset, .unset, .unset, .unset, .unset] [(.int (((p5.toUInt32 >>> ((1 : Int32) &&& 31).toUInt32).toInt32) &&& (7 : Int32)))])) _
  refine XS.istore X0.here hx rfl (hb hby at_21) rfl (l' := #[.val (.int p0), .val (.int p1), .val (.long q2), .second, .val (.long q3), .second, .val (.long q4), .second, .val (.int p5), .val (.int r), .val (.int (((p5.toUInt32 >>> ((1 : Int32) &&& 31).toUInt32).toInt32) &&& (7 : Int32))), .unset, .unset, .unset, .unset, .unset, .unset, .unset, .unset, .unset]) rfl ?_
  show Steps p.tables e below (s₁.setTop (mkF m 23 #[.val (.int p0), .val (.int p1), .val (.long q2), .second, .val (.long q3), .second, .val (.long q4), .second, .val (.int p5), .val (.int r), .val (.int (((p5.toUInt32 >>> ((1 : Int32) &&& 31).toUInt32).toInt32) &&& (7 : Int32))), .unset, .unset, .unset, .unset, .unset, .unset, .unset, .unset, .unset] [])) _
  rw [hk]
  show Steps p.tables e below (s₁.setTop (mkF m 23 #[.val (.int p0), .val (.int p1), .val (.long q2), .second, .val (.long q3), .second, .val (.long q4), .second, .val (.int p5), .val (.int r), .val (.int k), .unset, .unset, .unset, .unset, .unset, .unset, .unset, .unset, .unset] [])) _
  refine sg_B p0 p1 q2 q3 q4 p5 r k X0 hx hZ hw hby hown e0  ?_
  show Steps p.tables e below (s₁.setTop (mkF m 78 #[.val (.int p0), .val (.int p1), .val (.long q2), .second, .val (.long q3), .second, .val (.long q4), .second, .val (.int p5), .val (.int r), .val (.int k), .val (.int (own_B_l11 p0 k)), .unset, .unset, .unset, .unset, .unset, .unset, .unset, .unset] [])) _
  rw [ht]
  show Steps p.tables e below (s₁.setTop (mkF m 78 #[.val (.int p0), .val (.int p1), .val (.long q2), .second, .val (.long q3), .second, .val (.long q4), .second, .val (.int p5), .val (.int r), .val (.int k), .val (.int t), .unset, .unset, .unset, .unset, .unset, .unset, .unset, .unset] [])) _
  refine sg_C p0 p1 q2 q3 q4 p5 r k t X0 hx hZ hw hby hown e0  ?_
  show Steps p.tables e below (s₁.setTop (mkF m 93 #[.val (.int p0), .val (.int p1), .val (.long q2), .second, .val (.long q3), .second, .val (.long q4), .second, .val (.int p5), .val (.int r), .val (.int k), .val (.int t), .unset, .unset, .unset, .unset, .unset, .unset, .unset, .unset] [(.long (own_C_s0 q3 p5))])) _
  rw [hxx]
  show Steps p.tables e below (s₁.setTop (mkF m 93 #[.val (.int p0), .val (.int p1), .val (.long q2), .second, .val (.long q3), .second, .val (.long q4), .second, .val (.int p5), .val (.int r), .val (.int k), .val (.int t), .unset, .unset, .unset, .unset, .unset, .unset, .unset, .unset] [(.long nx)])) _
  refine XS.lstore X0.here hx rfl (hb hby at_93) rfl (l' := #[.val (.int p0), .val (.int p1), .val (.long q2), .second, .val (.long q3), .second, .val (.long q4), .second, .val (.int p5), .val (.int r), .val (.int k), .val (.int t), .val (.long nx), .second, .unset, .unset, .unset, .unset, .unset, .unset]) rfl ?_
  show Steps p.tables e below (s₁.setTop (mkF m 95 #[.val (.int p0), .val (.int p1), .val (.long q2), .second, .val (.long q3), .second, .val (.long q4), .second, .val (.int p5), .val (.int r), .val (.int k), .val (.int t), .val (.long nx), .second, .unset, .unset, .unset, .unset, .unset, .unset] [])) _
  refine XS.iload X0.here hx rfl (hb hby at_95) rfl ?_
  show Steps p.tables e below (s₁.setTop (mkF m 97 #[.val (.int p0), .val (.int p1), .val (.long q2), .second, .val (.long q3), .second, .val (.long q4), .second, .val (.int p5), .val (.int r), .val (.int k), .val (.int t), .val (.long nx), .second, .unset, .unset, .unset, .unset, .unset, .unset] [(.int t)])) _
  refine XS.iloadN X0.here hx rfl (hb hby at_97) rfl ?_
  show Steps p.tables e below (s₁.setTop (mkF m 98 #[.val (.int p0), .val (.int p1), .val (.long q2), .second, .val (.long q3), .second, .val (.long q4), .second, .val (.int p5), .val (.int r), .val (.int k), .val (.int t), .val (.long nx), .second, .unset, .unset, .unset, .unset, .unset, .unset] [(.int p1), (.int t)])) _
  refine XS.lloadN X0.here hx rfl (hb hby at_98) rfl ?_
  show Steps p.tables e below (s₁.setTop (mkF m 99 #[.val (.int p0), .val (.int p1), .val (.long q2), .second, .val (.long q3), .second, .val (.long q4), .second, .val (.int p5), .val (.int r), .val (.int k), .val (.int t), .val (.long nx), .second, .unset, .unset, .unset, .unset, .unset, .unset] [(.long q2), (.int p1), (.int t)])) _
  refine XS.lload X0.here hx rfl (hb hby at_99) rfl ?_
  show Steps p.tables e below (s₁.setTop (mkF m 101 #[.val (.int p0), .val (.int p1), .val (.long q2), .second, .val (.long q3), .second, .val (.long q4), .second, .val (.int p5), .val (.int r), .val (.int k), .val (.int t), .val (.long nx), .second, .unset, .unset, .unset, .unset, .unset, .unset] [(.long nx), (.long q2), (.int p1), (.int t)])) _
  refine XS.lload X0.here hx rfl (hb hby at_101) rfl ?_
  show Steps p.tables e below (s₁.setTop (mkF m 103 #[.val (.int p0), .val (.int p1), .val (.long q2), .second, .val (.long q3), .second, .val (.long q4), .second, .val (.int p5), .val (.int r), .val (.int k), .val (.int t), .val (.long nx), .second, .unset, .unset, .unset, .unset, .unset, .unset] [(.long q4), (.long nx), (.long q2), (.int p1), (.int t)])) _
  refine XS.iload X0.here hx rfl (hb hby at_103) rfl ?_
  show Steps p.tables e below (s₁.setTop (mkF m 105 #[.val (.int p0), .val (.int p1), .val (.long q2), .second, .val (.long q3), .second, .val (.long q4), .second, .val (.int p5), .val (.int r), .val (.int k), .val (.int t), .val (.long nx), .second, .unset, .unset, .unset, .unset, .unset, .unset] [(.int r), (.long q4), (.long nx), (.long q2), (.int p1), (.int t)])) _
  refine st1 _ ?_
  show Steps p.tables e below (T1.setTop (mkF m 108 #[.val (.int p0), .val (.int p1), .val (.long q2), .second, .val (.long q3), .second, .val (.long q4), .second, .val (.int p5), .val (.int r), .val (.int k), .val (.int t), .val (.long nx), .second, .unset, .unset, .unset, .unset, .unset, .unset] [(.long (own_off t p1 q2 nx q4 r))])) _
  refine XS.lstore X1.here hx rfl (hb hby at_108) rfl (l' := #[.val (.int p0), .val (.int p1), .val (.long q2), .second, .val (.long q3), .second, .val (.long q4), .second, .val (.int p5), .val (.int r), .val (.int k), .val (.int t), .val (.long nx), .second, .val (.long (own_off t p1 q2 nx q4 r)), .second, .unset, .unset, .unset, .unset]) rfl ?_
  show Steps p.tables e below (T1.setTop (mkF m 110 #[.val (.int p0), .val (.int p1), .val (.long q2), .second, .val (.long q3), .second, .val (.long q4), .second, .val (.int p5), .val (.int r), .val (.int k), .val (.int t), .val (.long nx), .second, .val (.long (own_off t p1 q2 nx q4 r)), .second, .unset, .unset, .unset, .unset] [])) _
  refine sg_D p0 p1 q2 q3 q4 p5 r k t nx (own_off t p1 q2 nx q4 r) X1 hx hZ hw hby hown e1  ?_
  show Steps p.tables e below (T1.setTop (mkF m 129 #[.val (.int p0), .val (.int p1), .val (.long q2), .second, .val (.long q3), .second, .val (.long q4), .second, .val (.int p5), .val (.int r), .val (.int k), .val (.int t), .val (.long nx), .second, .val (.long (own_off t p1 q2 nx q4 r)), .second, .unset, .unset, .unset, .unset] [(.int (own_D_s0 t))])) _
  refine XS.istore X1.here hx rfl (hb hby at_129) rfl (l' := #[.val (.int p0), .val (.int p1), .val (.long q2), .second, .val (.long q3), .second, .val (.long q4), .second, .val (.int p5), .val (.int r), .val (.int k), .val (.int t), .val (.long nx), .second, .val (.long (own_off t p1 q2 nx q4 r)), .second, .val (.int (own_D_s0 t)), .unset, .unset, .unset]) rfl ?_
  show Steps p.tables e below (T1.setTop (mkF m 131 #[.val (.int p0), .val (.int p1), .val (.long q2), .second, .val (.long q3), .second, .val (.long q4), .second, .val (.int p5), .val (.int r), .val (.int k), .val (.int t), .val (.long nx), .second, .val (.long (own_off t p1 q2 nx q4 r)), .second, .val (.int (own_D_s0 t)), .unset, .unset, .unset] [])) _
  refine sg_E p0 p1 q2 q3 q4 p5 (own_D_s0 t) r k t nx (own_off t p1 q2 nx q4 r) X1 hx hZ hw hby hown e1  ?_
  show Steps p.tables e below (T1.setTop (mkF m 143 #[.val (.int p0), .val (.int p1), .val (.long q2), .second, .val (.long q3), .second, .val (.long q4), .second, .val (.int p5), .val (.int r), .val (.int k), .val (.int t), .val (.long nx), .second, .val (.long (own_off t p1 q2 nx q4 r)), .second, .val (.int (own_D_s0 t)), .unset, .unset, .unset] [(.int (own_E_s0 p1))])) _
  refine XS.istore X1.here hx rfl (hb hby at_143) rfl (l' := #[.val (.int p0), .val (.int p1), .val (.long q2), .second, .val (.long q3), .second, .val (.long q4), .second, .val (.int p5), .val (.int r), .val (.int k), .val (.int t), .val (.long nx), .second, .val (.long (own_off t p1 q2 nx q4 r)), .second, .val (.int (own_D_s0 t)), .val (.int (own_E_s0 p1)), .unset, .unset]) rfl ?_
  show Steps p.tables e below (T1.setTop (mkF m 145 #[.val (.int p0), .val (.int p1), .val (.long q2), .second, .val (.long q3), .second, .val (.long q4), .second, .val (.int p5), .val (.int r), .val (.int k), .val (.int t), .val (.long nx), .second, .val (.long (own_off t p1 q2 nx q4 r)), .second, .val (.int (own_D_s0 t)), .val (.int (own_E_s0 p1)), .unset, .unset] [])) _
  refine sg_F p0 p1 q2 q3 q4 p5 (own_D_s0 t) (own_E_s0 p1) r k t nx (own_off t p1 q2 nx q4 r) X1 hx hZ hw hby hown e1  ?_
  show Steps p.tables e below (T1.setTop (mkF m 221 #[.val (.int p0), .val (.int p1), .val (.long q2), .second, .val (.long q3), .second, .val (.long q4), .second, .val (.int p5), .val (.int r), .val (.int k), .val (.int t), .val (.long nx), .second, .val (.long (own_off t p1 q2 nx q4 r)), .second, .val (.int (own_D_s0 t)), .val (.int (own_E_s0 p1)), .val (.long (own_F_l18 q2 q4 (own_D_s0 t) (own_E_s0 p1) r t nx)), .second] [])) _
  refine XS.lload X1.here hx rfl (hb hby at_221) rfl ?_
  show Steps p.tables e below (T1.setTop (mkF m 223 #[.val (.int p0), .val (.int p1), .val (.long q2), .second, .val (.long q3), .second, .val (.long q4), .second, .val (.int p5), .val (.int r), .val (.int k), .val (.int t), .val (.long nx), .second, .val (.long (own_off t p1 q2 nx q4 r)), .second, .val (.int (own_D_s0 t)), .val (.int (own_E_s0 p1)), .val (.long (own_F_l18 q2 q4 (own_D_s0 t) (own_E_s0 p1) r t nx)), .second] [(.long (own_off t p1 q2 nx q4 r))])) _
  refine XS.lload X1.here hx rfl (hb hby at_223) rfl ?_
  show Steps p.tables e below (T1.setTop (mkF m 225 #[.val (.int p0), .val (.int p1), .val (.long q2), .second, .val (.long q3), .second, .val (.long q4), .second, .val (.int p5), .val (.int r), .val (.int k), .val (.int t), .val (.long nx), .second, .val (.long (own_off t p1 q2 nx q4 r)), .second, .val (.int (own_D_s0 t)), .val (.int (own_E_s0 p1)), .val (.long (own_F_l18 q2 q4 (own_D_s0 t) (own_E_s0 p1) r t nx)), .second] [(.long (own_F_l18 q2 q4 (own_D_s0 t) (own_E_s0 p1) r t nx)), (.long (own_off t p1 q2 nx q4 r))])) _
  refine XS.lcmp X1.here hx rfl (hb hby at_225) rfl ?_
  show Steps p.tables e below (T1.setTop (mkF m 226 #[.val (.int p0), .val (.int p1), .val (.long q2), .second, .val (.long q3), .second, .val (.long q4), .second, .val (.int p5), .val (.int r), .val (.int k), .val (.int t), .val (.long nx), .second, .val (.long (own_off t p1 q2 nx q4 r)), .second, .val (.int (own_D_s0 t)), .val (.int (own_E_s0 p1)), .val (.long (own_F_l18 q2 q4 (own_D_s0 t) (own_E_s0 p1) r t nx)), .second] [(.int (lcmpW (own_off t p1 q2 nx q4 r) (own_F_l18 q2 q4 (own_D_s0 t) (own_E_s0 p1) r t nx)))])) _
  refine XS.ifNo X1.here hx rfl (hb hby at_226) rfl ((if0 _ _).trans (teq ((lw_eq (own_off t p1 q2 nx q4 r) (own_F_l18 q2 q4 (own_D_s0 t) (own_E_s0 p1) r t nx)).mpr (own_same p1 q2 q4 r t nx))).2) ?_
  show Steps p.tables e below (T1.setTop (mkF m 229 #[.val (.int p0), .val (.int p1), .val (.long q2), .second, .val (.long q3), .second, .val (.long q4), .second, .val (.int p5), .val (.int r), .val (.int k), .val (.int t), .val (.long nx), .second, .val (.long (own_off t p1 q2 nx q4 r)), .second, .val (.int (own_D_s0 t)), .val (.int (own_E_s0 p1)), .val (.long (own_F_l18 q2 q4 (own_D_s0 t) (own_E_s0 p1) r t nx)), .second] [])) _
  refine XS.iconst X1.here hx rfl (hb hby at_229) ?_
  show Steps p.tables e below (T1.setTop (mkF m 230 #[.val (.int p0), .val (.int p1), .val (.long q2), .second, .val (.long q3), .second, .val (.long q4), .second, .val (.int p5), .val (.int r), .val (.int k), .val (.int t), .val (.long nx), .second, .val (.long (own_off t p1 q2 nx q4 r)), .second, .val (.int (own_D_s0 t)), .val (.int (own_E_s0 p1)), .val (.long (own_F_l18 q2 q4 (own_D_s0 t) (own_E_s0 p1) r t nx)), .second] [(.int (1 : Int32))])) _
  refine XS.goto X1.here hx rfl (pc0 := 230) (pc' := 234) rfl (hb hby at_230) (by decide) (by decide) ?_
  show Steps p.tables e below (T1.setTop (mkF m 234 #[.val (.int p0), .val (.int p1), .val (.long q2), .second, .val (.long q3), .second, .val (.long q4), .second, .val (.int p5), .val (.int r), .val (.int k), .val (.int t), .val (.long nx), .second, .val (.long (own_off t p1 q2 nx q4 r)), .second, .val (.int (own_D_s0 t)), .val (.int (own_E_s0 p1)), .val (.long (own_F_l18 q2 q4 (own_D_s0 t) (own_E_s0 p1) r t nx)), .second] [(.int (1 : Int32))])) _
  exact retN X1 hx (t := .boolean) Bd.returns (by simp) (hb hby at_234) hr
set_option maxRecDepth 65536 in
set_option maxHeartbeats 40000000 in
theorem comes_1 {Post : Tables → Env → Array Value → State → Outcome → State → Prop} (hpost : ∀ tb e args s v u, (limb_1_1.after args s (.returned v) u = true ∧ limb_1_2.after args s (.returned v) u = true ∧ True) → FrameEnd s (.returned v) u (Jvm.fieldLocs frame_1_writes args s ++ Jvm.arrayLocs frame_1_arrays args s ++ Jvm.staticLocs frame_1_statics s) 0 0 → Post tb e args s (.returned v) u) :
    ArmFor flags0 classFile x code maxLocals ret World_1 tables_1 room_1 Calls_1 rest_1 Pre_1 Post := by
  intro l hfl _ _ p e ha hc hk s m args below hf hA hF happ hP
  obtain ⟨hcalls, hrest, hpre⟩ := hP
  obtain ⟨-, -, -, hnamed, -, -, -, hat⟩ := (Spec.applies_iff hf).mp happ
  obtain ⟨hg, hn⟩ := and_e (Cond.before_iff.mp (show (Jvm.Cond.and given_1 narrow_1).before args s = true from hpre))
  obtain ⟨gc, g0⟩ := and_e hg
  obtain ⟨k0, g1⟩ := and_e g0
  obtain ⟨k1, g2⟩ := and_e g1
  obtain ⟨k2, g3⟩ := and_e g2
  obtain ⟨k3, g4⟩ := and_e g3
  obtain ⟨k4, g5⟩ := and_e g4
  obtain ⟨w0, w1, w2, w3, w4, w5, rfl⟩ : ∃ w0 w1 w2 w3 w4 w5 : Value, args = #[w0, w1, w2, w3, w4, w5] := by
    have hs : args.size = 6 := by simpa [Cond.value, given_1] using gc
    obtain ⟨L⟩ := args
    match L, hs with
    | [w0, w1, w2, w3, w4, w5], _ => exact ⟨w0, w1, w2, w3, w4, w5, rfl⟩
  have hw := fun d (hd : d ∈ tables_1) => atoms_spec (ws := Jvm.Cond.code x code maxLocals ret :: tables_1) hat d (List.mem_cons_of_mem _ hd)
  obtain ⟨i0, ei0⟩ := is_v k0
  obtain rfl : w0 = (.int i0) := Option.some.inj ei0
  obtain ⟨i1, ei1⟩ := is_v k1
  obtain rfl : w1 = (.int i1) := Option.some.inj ei1
  obtain ⟨i2, ei2⟩ := isL_v k2
  obtain rfl : w2 = (.long i2) := Option.some.inj ei2
  obtain ⟨i3, ei3⟩ := isL_v k3
  obtain rfl : w3 = (.long i3) := Option.some.inj ei3
  obtain ⟨i4, ei4⟩ := isL_v k4
  obtain rfl : w4 = (.long i4) := Option.some.inj ei4
  obtain ⟨i5, ei5⟩ := is_v g5
  obtain rfl : w5 = (.int i5) := Option.some.inj ei5
  obtain ⟨n, o, h1, h2, h3, _, L, rfl, ⟨rfl, N⟩, hq⟩ := rm0 l s _ hw tables_1 i0 i1 i2 i3 i4 i5 s.heap s.heap.size (Nat.le_refl _) p e ha hc hk s m _ below hf ((Spec.applies_iff_loose hf).mp happ).1 ⟨rfl, State.Warmed39.refl s, rfl⟩ trivial
  refine ⟨n, _, h1, h2, h3, hpost _ _ _ _ _ _ ⟨Cond.after_iff.mpr rfl, Cond.after_iff.mpr (eq_i res_at (Term.int_eval (1)) rfl), trivial⟩ ⟨hq.1, hq.2.1, (hq.2.2.sift fun y hy => Or.inr (N y hy)).mono (by decide) (by decide)⟩⟩
theorem main_1_1 : Claimed_1_1 := comes_1 fun _ _ _ _ _ _ h hF => ⟨h.1, hF⟩
theorem main_1_2 : Claimed_1_2 := comes_1 fun _ _ _ _ _ _ h hF => ⟨h.2.1, hF⟩
end Jvm.Pilot.@@N@@
namespace Jvm.Pilot.@@N@@
open Jvm Jvm.ClassFile Sem Op Lib Jvm.Free Jvm.Stand Jvm.Pilot.@@N@@.Jvm.D
/-! MADE BY PROGRAM (witnessworld.py) out of the Statement's table words and the real class files: 9 classes; the members and pool entries that the words name. The judged class is class 1, her method 1. -/
namespace start1
open Jvm.ClassFile
def u (s : String) : CpInfo := .utf8 (stringToUtf16 s)
/-- a pool by its gaps: so many unusable entries, then the entry; so many at the end -/
def gap : Nat → List CpInfo → List CpInfo
  | 0, r => r
  | n + 1, r => .unusable :: gap n r
def poolList (es : List (Nat × CpInfo)) (last : Nat) : List CpInfo := es.foldr (fun e r => gap e.1 (e.2 :: r)) (gap last [])
def pool (es : List (Nat × CpInfo)) (last : Nat) : Array CpInfo := ⟨poolList es last⟩
def fileOf (pool : Array CpInfo) (this : Nat) (attrs : Array Attribute := #[]) (ms : Array MethodInfo := #[]) (fl : Nat := 33) (sup : Nat := 0) (ifs : Array Nat := #[]) (fds : Array FieldInfo := #[]) : ClassFile where
  minorVersion := 0
  majorVersion := 65
  constantPool := pool
  accessFlags := fl
  thisClass := this
  superClass := sup
  interfaces := ifs
  fields := fds
  methods := ms
  attributes := attrs
def plain (name : String) (sup : Option ClassId) : Class where
  name := name
  kind := .ordinary
  loader := none
  accessFlags := 33
  super := sup
  interfaces := #[]
  cf := none
  fields := #[]
  methods := #[]
  instanceTypes := #[]
  staticTypes := #[]
  resolved := #[]
  callSites := []
  init := .initialized
  statics := none
  mirror := none

def pool0 : Array CpInfo := pool [(5, u "<init>"), (0, u "()V"), (1, .class_ 10), (1, u "java/lang/Object")] 113

def k0m0 : Method := { name := "<init>", desc := "()V", sig := { parameters := [], returnType := none }, accessFlags := 1, code := none }
/-- java/lang/Object -/
def k0 : Class := { plain "java/lang/Object" none with
  accessFlags := 33
  interfaces := #[]
  cf := some (fileOf pool0 8 #[] #[{ accessFlags := 1, nameIndex := 5, descriptorIndex := 6, attributes := #[] }] 33 0 #[] #[])
  fields := #[]
  methods := #[k0m0]
  instanceTypes := #[]
  staticTypes := #[]
  resolved := Array.replicate 124 none
  statics := none }

def pool1 : Array CpInfo := pool [(2, .class_ 4), (1, u "java/lang/Object"), (0, u "<init>"), (0, u "()V"), (0, .methodref 8 9), (0, .class_ 10), (0, .nameAndType 11 12), (0, u "com/example/millrace/millrace/binlog/LogEvent"), (0, u "offset"), (0, u "(IIJJJZ)J"), (0, .long 18446744073709551615), (1, .class_ 16), (0, u "com/example/millrace/millrace/binlog/LogEventOffsetPinLaw"), (2, u "law"), (0, u "(IIJJJI)Z")] 3

def k1m0 : Method := { name := "<init>", desc := "()V", sig := { parameters := [], returnType := none }, accessFlags := 1, code := none }
def k1c1 : Code := { maxStack := 9, maxLocals := 20, code := code, exceptionTable := #[], attributes := #[] }
def k1m1 : Method := { name := "law", desc := "(IIJJJI)Z", sig := { parameters := [.int, .int, .long, .long, .long, .int], returnType := some .boolean }, accessFlags := 9, code := some k1c1 }
/-- com/example/millrace/millrace/binlog/LogEventOffsetPinLaw -/
def k1 : Class := { plain "com/example/millrace/millrace/binlog/LogEventOffsetPinLaw" (some 0) with
  accessFlags := 49
  interfaces := #[]
  cf := some (fileOf pool1 15 #[] #[{ accessFlags := 1, nameIndex := 5, descriptorIndex := 6, attributes := #[] }, { accessFlags := 9, nameIndex := 19, descriptorIndex := 20, attributes := #[] }] 49 2 #[] #[])
  fields := #[]
  methods := #[k1m0, k1m1]
  instanceTypes := #[]
  staticTypes := #[]
  resolved := Array.replicate 24 none
  statics := none }

def pool2 : Array CpInfo := pool [(2, .class_ 4), (1, u "java/lang/Object"), (8, .class_ 15), (1, u "com/example/millrace/millrace/binlog/LogEvent"), (0, u "file"), (0, u "Ljava/lang/String;"), (6, u "timestamp"), (0, u "J"), (6, u "type"), (0, u "I"), (2, u "serverId"), (5, u "flags"), (14, u "length"), (2, u "data"), (0, u "[B"), (2, u "bodyStart"), (2, u "bodyEnd"), (2, .long 18446744073709551615), (3, u "offset"), (0, u "(IIJJJZ)J"), (56, u "IGNORABLE"), (2, u "ARTIFICIAL"), (1, u "THREAD_SPECIFIC"), (1, u "UNTIL_REACHED"), (1, u "HEADER_LENGTH"), (1, u "CHECKSUM_LENGTH"), (0, u "NOWHERE")] 48

def k2c0 : Code := { maxStack := 4, maxLocals := 11, code := prog_30_method_2_code, exceptionTable := #[], attributes := #[] }
def k2m0 : Method := { name := "offset", desc := "(IIJJJZ)J", sig := { parameters := [.int, .int, .long, .long, .long, .boolean], returnType := some .long }, accessFlags := 8, code := some k2c0 }
/-- com/example/millrace/millrace/binlog/LogEvent -/
def k2 : Class := { plain "com/example/millrace/millrace/binlog/LogEvent" (some 0) with
  accessFlags := 49
  interfaces := #[]
  cf := some (fileOf pool2 13 #[] #[{ accessFlags := 8, nameIndex := 74, descriptorIndex := 75, attributes := #[] }] 49 2 #[] #[{ accessFlags := 26, nameIndex := 132, descriptorIndex := 33, attributes := #[] }, { accessFlags := 26, nameIndex := 135, descriptorIndex := 33, attributes := #[] }, { accessFlags := 26, nameIndex := 137, descriptorIndex := 33, attributes := #[] }, { accessFlags := 26, nameIndex := 139, descriptorIndex := 33, attributes := #[] }, { accessFlags := 24, nameIndex := 141, descriptorIndex := 33, attributes := #[] }, { accessFlags := 24, nameIndex := 143, descriptorIndex := 33, attributes := #[] }, { accessFlags := 24, nameIndex := 144, descriptorIndex := 25, attributes := #[] }, { accessFlags := 18, nameIndex := 16, descriptorIndex := 17, attributes := #[] }, { accessFlags := 18, nameIndex := 24, descriptorIndex := 25, attributes := #[] }, { accessFlags := 18, nameIndex := 32, descriptorIndex := 33, attributes := #[] }, { accessFlags := 18, nameIndex := 36, descriptorIndex := 25, attributes := #[] }, { accessFlags := 18, nameIndex := 57, descriptorIndex := 33, attributes := #[] }, { accessFlags := 18, nameIndex := 74, descriptorIndex := 25, attributes := #[] }, { accessFlags := 18, nameIndex := 42, descriptorIndex := 33, attributes := #[] }, { accessFlags := 2, nameIndex := 60, descriptorIndex := 61, attributes := #[] }, { accessFlags := 18, nameIndex := 64, descriptorIndex := 33, attributes := #[] }, { accessFlags := 18, nameIndex := 67, descriptorIndex := 33, attributes := #[] }])
  fields := #[{ name := "IGNORABLE", type := .int, accessFlags := 26, slot := 0, constantValue := 0 }, { name := "ARTIFICIAL", type := .int, accessFlags := 26, slot := 1, constantValue := 0 }, { name := "THREAD_SPECIFIC", type := .int, accessFlags := 26, slot := 2, constantValue := 0 }, { name := "UNTIL_REACHED", type := .int, accessFlags := 26, slot := 3, constantValue := 0 }, { name := "HEADER_LENGTH", type := .int, accessFlags := 24, slot := 4, constantValue := 0 }, { name := "CHECKSUM_LENGTH", type := .int, accessFlags := 24, slot := 5, constantValue := 0 }, { name := "NOWHERE", type := .long, accessFlags := 24, slot := 6, constantValue := 0 }, { name := "file", type := (.object "java/lang/String"), accessFlags := 18, slot := 0, constantValue := 0 }, { name := "timestamp", type := .long, accessFlags := 18, slot := 1, constantValue := 0 }, { name := "type", type := .int, accessFlags := 18, slot := 2, constantValue := 0 }, { name := "serverId", type := .long, accessFlags := 18, slot := 3, constantValue := 0 }, { name := "length", type := .int, accessFlags := 18, slot := 4, constantValue := 0 }, { name := "offset", type := .long, accessFlags := 18, slot := 5, constantValue := 0 }, { name := "flags", type := .int, accessFlags := 18, slot := 6, constantValue := 0 }, { name := "data", type := (.array .byte), accessFlags := 2, slot := 7, constantValue := 0 }, { name := "bodyStart", type := .int, accessFlags := 18, slot := 8, constantValue := 0 }, { name := "bodyEnd", type := .int, accessFlags := 18, slot := 9, constantValue := 0 }]
  methods := #[k2m0]
  instanceTypes := #[(.object "java/lang/String"), .long, .int, .long, .int, .long, .int, (.array .byte), .int, .int]
  staticTypes := #[.int, .int, .int, .int, .int, .int, .long]
  resolved := Array.replicate 193 none
  statics := none }

def pool3 : Array CpInfo := pool [(1, u "java/lang/Cloneable"), (0, .class_ 1), (0, u "java/lang/Object"), (0, .class_ 3)] 3

/-- java/lang/Cloneable -/
def k3 : Class := { plain "java/lang/Cloneable" (some 0) with
  accessFlags := 1537
  interfaces := #[]
  cf := some (fileOf pool3 2 #[] #[] 1537 4 #[] #[])
  fields := #[]
  methods := #[]
  instanceTypes := #[]
  staticTypes := #[]
  resolved := Array.replicate 8 none
  statics := none }

def pool4 : Array CpInfo := pool [(1, u "java/io/Serializable"), (0, .class_ 1), (0, u "java/lang/Object"), (0, .class_ 3)] 3

/-- java/io/Serializable -/
def k4 : Class := { plain "java/io/Serializable" (some 0) with
  accessFlags := 1537
  interfaces := #[]
  cf := some (fileOf pool4 2 #[] #[] 1537 4 #[] #[])
  fields := #[]
  methods := #[]
  instanceTypes := #[]
  staticTypes := #[]
  resolved := Array.replicate 8 none
  statics := none }

/-- the primitive byte -/
def k5 : Class := { plain "byte" none with kind := .primitive 'B', accessFlags := 0x411 }
/-- [B -/
def k6 : Class := { plain "[B" (some 0) with kind := .array 5 .byte, interfaces := #[3, 4], accessFlags := 1041 }

/-- the primitive int -/
def k7 : Class := { plain "int" none with kind := .primitive 'I', accessFlags := 0x411 }
/-- [I -/
def k8 : Class := { plain "[I" (some 0) with kind := .array 7 .int, interfaces := #[3, 4], accessFlags := 1041 }

def heap : Heap := #[]
def classes : Array Class := #[k0, k1, k2, k3, k4, k5, k6, k7, k8]
def interned : List (Array UInt16 × Addr) := []
def slotsUsed : Nat := 0
def theMethod : MethodId := ⟨1, 1⟩
def args0 : Array Value := #[.int 5, .int 3, .long 7, .long 100, .long 9, .int 0]
def aboutOver (below : List Frame) : State where
  vm := { classes := classes, interned := interned.toArray }
  heap := heap
  slotsUsed := slotsUsed
  threads := #[{ frames := .invoking theMethod args0 :: below }]
def below0 : List Frame := [.native { method := ⟨0, 0⟩, args := #[] }]
def about1 : State := aboutOver below0
def p0 : Program := .bare "" "" ""
def e0 : Env := launch0.env 0 0 0
theorem w_frames : about1.frames = Frame.invoking theMethod args0 :: below0 := rfl
set_option maxRecDepth 65536 in
theorem w_args : argsFit about1.vm theMethod args0 = true := by decide +kernel
set_option maxRecDepth 65536 in
theorem w_heap : heapFits about1 = true := by decide +kernel
set_option maxRecDepth 65536 in
theorem w_runnable : about1.curStatus? = some .runnable := by decide +kernel
set_option maxRecDepth 65536 in
theorem w_alone : about1.alone = true := by decide +kernel
set_option maxRecDepth 65536 in
theorem w_named : about1.methodNamed? x = some theMethod := by decide +kernel
set_option maxRecDepth 65536 in
theorem w_hears : about1.hears theMethod below0 = true := by decide +kernel
set_option maxRecDepth 65536 in
theorem w_ripe : about1.ripe theMethod args0 below0 = true := by decide +kernel
theorem w_running : about1.status = .running := rfl
set_option maxRecDepth 65536 in
theorem w_room : about1.hasRoom e0.platform room_1 = true :=
  launch0.hasRoom_least _ room_1 (by decide +kernel) (by decide +kernel) (by decide +kernel) (by decide +kernel) (by decide +kernel) (by decide +kernel)
theorem allAtoms_all (ts : List Jvm.Cond) (a : Array Jvm.Value) (st : Jvm.State) : (allAtoms ts).before a st = ts.all (fun c => c.before a st) := by
  induction ts with
  | nil => rfl
  | cons c t ih =>
    show (Jvm.Cond.and c (allAtoms t)).before a st = _
    rw [Jvm.Cond.before_and, ih, List.all_cons]
def words1 : List Jvm.Cond := Jvm.Cond.code x code maxLocals ret :: tables_1
/-- a 'code' word, met by the world's own term for the bytes: nothing is compared byte by byte -/
theorem code_word {y : MethodName} {bytes : ByteArray} {mx : Nat} {rt : Option FieldType} {a : Array Value} {s : State} {m : MethodId} {meth : Method} {c : Code} (h1 : s.methodNamed? y = some m) (h2 : s.vm.method? m = some meth) (h3 : meth.code = some c) (h4 : c.code = bytes)
    (h5 : (c.maxLocals == mx && c.exceptionTable.isEmpty && decide (c.maxStack ≤ mostOperands) && decide (meth.sig.returnType = rt) && !meth.locks && decide (parseMethodDescriptor y.desc = some meth.sig)) = true) : (Jvm.Cond.code y bytes mx rt).before a s = true := by
  simp only [Bool.and_eq_true, beq_iff_eq, Bool.not_eq_true', decide_eq_true_eq] at h5
  obtain ⟨⟨⟨⟨⟨g1, g2⟩, g3⟩, g4⟩, g5⟩, g6⟩ := h5
  simp [Cond.before, Cond.holds, Cond.value, h1, h2, h3, h4, g1, g2, g3, g4, g5, g6]
def isCode : Jvm.Cond → Bool
  | .code _ _ _ _ => true
  | _ => false
theorem all_split {L : List Jvm.Cond} {P : Jvm.Cond → Bool} (h1 : L.all (fun c => isCode c || P c) = true) (h2 : ∀ c ∈ L.filter isCode, P c = true) : L.all P = true := by
  refine List.all_eq_true.mpr fun c hc => ?_
  have h := List.all_eq_true.mp h1 c hc
  rcases Bool.eq_false_or_eq_true (isCode c) with hi | hi
  · exact h2 c (List.mem_filter.mpr ⟨hc, hi⟩)
  · simpa [hi] using h
set_option maxRecDepth 65536 in
theorem w_c0 : (Jvm.Cond.code x code maxLocals ret).before args0 about1 = true := code_word (m := ⟨1, 1⟩) (meth := k1m1) (c := k1c1) (by decide +kernel) rfl rfl rfl (by decide +kernel)
set_option maxRecDepth 65536 in
theorem w_c1 : (Jvm.Cond.code ({ cls := "com/example/millrace/millrace/binlog/LogEvent", name := "offset", desc := "(IIJJJZ)J" } : Jvm.MethodName) prog_30_method_2_code (11 : Nat) (Option.some Jvm.ClassFile.FieldType.long)).before args0 about1 = true := code_word (m := ⟨2, 0⟩) (meth := k2m0) (c := k2c0) (by decide +kernel) rfl rfl rfl (by decide +kernel)
def codes1 : List Jvm.Cond := [Jvm.Cond.code x code maxLocals ret, Jvm.Cond.code ({ cls := "com/example/millrace/millrace/binlog/LogEvent", name := "offset", desc := "(IIJJJZ)J" } : Jvm.MethodName) prog_30_method_2_code (11 : Nat) (Option.some Jvm.ClassFile.FieldType.long)]
set_option maxRecDepth 65536 in
theorem codes_eq : words1.filter isCode = codes1 := rfl
theorem w_codes : ∀ c ∈ words1.filter isCode, c.before args0 about1 = true := by
  rw [codes_eq]
  intro c hc
  simp only [codes1, List.mem_cons, List.not_mem_nil, or_false] at hc
  rcases hc with rfl | rfl
  · exact w_c0
  · exact w_c1
set_option maxRecDepth 65536 in
theorem w_t1 : words1.all (fun c => isCode c || c.before args0 about1) = true := by decide +kernel
theorem w_tables : (allAtoms (Jvm.Cond.code x code maxLocals ret :: tables_1)).before args0 about1 = true := by
  rw [allAtoms_all]
  show words1.all (fun c => c.before args0 about1) = true
  refine all_split ?_ w_codes
  rw [w_t1]
set_option maxRecDepth 65536 in
theorem w_case : (Jvm.Cond.and given_1 narrow_1).before args0 about1 = true := by decide +kernel
theorem w_applies : (headSpec (Jvm.Cond.code x code maxLocals ret :: tables_1) room_1).applies x e0.platform about1 = true :=
  (Spec.applies_iff w_frames).mpr ⟨w_running, w_runnable, w_alone, w_named, w_hears, w_ripe, w_room, w_tables⟩
theorem atStart : AtStart classFile x code maxLocals ret World_1 tables_1 room_1 Calls_1 rest_1 Pre_1 launch0 p0 e0 about1 theMethod args0 below0 :=
  ⟨lists_1, trivial, launch0.admits_env _ _ _, launch0.least_env, fairChoices_fair.cas, fairChoices_fair.clock, w_frames, w_args, w_heap, w_applies, trivial, trivial, w_case⟩
end start1
theorem witness_1 : WitnessClaimed_1 := ⟨start1.p0, start1.e0, start1.about1, start1.theMethod, start1.args0, start1.below0, start1.atStart⟩
end Jvm.Pilot.@@N@@
