import JvmDerived
import JvmDerived.Pilot.@@N@@Statement
import JvmDerived.Pilot.@@N@@Code
set_option linter.unusedVariables false
set_option linter.unusedSimpArgs false
namespace Jvm.Pilot.@@N@@
open Jvm Jvm.ClassFile Sem Op Lib Jvm.Free Jvm.Stand Jvm.LawKit Jvm.RoadKit Bundle Jvm.Pilot.@@N@@.Jvm.D
/-! OWN LAYER (the same text in every claim): arrays by a function, and their steps -/
section OwnLayer
variable {p : Program} {l : Launch} {e : Env} {R : Room} {s : State} {m : MethodId} {args : Array Value} {below : List Frame} {meth : Method} {c : Code} {T : State} {locs : List Loc} {cells slots : Nat} {Z : State} {a0 : Array Value} {h h' : Heap} {a b : Addr} {ty : FieldType} {N : Int32} {target : State}
theorem own_retI (X : Stand p l e R s m args below meth c T locs cells slots) (hx : p.tables.exec = Jvm.exec) {pc : Nat} {Ls : Array Slot} {z : Int32} {rest : List Value} (hret : meth.sig.returnType = some .int) (hd : decode c.code pc = .ok (.ireturn, 1)) {fs : List Frame}
    (hl : ∀ (f : JFrame) (acts : List Action), f.method = m → f.locked = none → f.entered = [] → (doReturn e (T.setTop f) acts (some (.int z))).1 = T.setFrames fs) : Steps p.tables e below (T.setTop (mkF m pc Ls (.int z :: rest))) (T.setFrames fs) :=
  retOut X hx hret rfl (Or.inl ⟨rfl, Or.inl rfl, z, rfl⟩) hd hl
theorem own_retJ (X : Stand p l e R s m args below meth c T locs cells slots) (hx : p.tables.exec = Jvm.exec) {pc : Nat} {Ls : Array Slot} {z : Int64} {rest : List Value} (hret : meth.sig.returnType = some .long) (hd : decode c.code pc = .ok (.lreturn, 1)) {fs : List Frame}
    (hl : ∀ (f : JFrame) (acts : List Action), f.method = m → f.locked = none → f.entered = [] → (doReturn e (T.setTop f) acts (some (.long z))).1 = T.setFrames fs) : Steps p.tables e below (T.setTop (mkF m pc Ls (.long z :: rest))) (T.setFrames fs) :=
  retOut X hx hret rfl (Or.inr (Or.inl ⟨rfl, rfl, z, rfl⟩)) hd hl
/-- f with v at the place i -/
def own_up {α : Type} (f : Nat → α) (i : Nat) (v : α) : Nat → α := fun j => if j = i then v else f j
theorem own_up_at {α : Type} (f : Nat → α) (i : Nat) (v : α) : own_up f i v i = v := if_pos rfl
theorem own_up_ne {α : Type} (f : Nat → α) {i j : Nat} (v : α) (q : j ≠ i) : own_up f i v j = f j := if_neg q
/-- an array of N places whose place j holds the int f j -/
def own_AI (Z : State) (h : Heap) (a : Addr) (ty : FieldType) (N : Int32) (f : Nat → Int32) : Prop := ∃ c : Cell, Arr Z h a c ty ∧ c.slots.size = N.toNatClampNeg ∧ ¬ N < 0 ∧ ∀ j, j < N.toNatClampNeg → c.slots[j]? = some (.int (f j))
/-- an array of N places whose place j holds the long f j -/
def own_AJ (Z : State) (h : Heap) (a : Addr) (N : Int32) (f : Nat → Int64) : Prop := ∃ c : Cell, Arr Z h a c .long ∧ c.slots.size = N.toNatClampNeg ∧ ¬ N < 0 ∧ ∀ j, j < N.toNatClampNeg → c.slots[j]? = some (.long (f j))
variable {f : Nat → Int32} {fJ : Nat → Int64}
theorem own_AI.lt (A : own_AI Z h a ty N f) : a < h.size := by obtain ⟨c, A, -⟩ := A; exact A.lt
theorem own_AJ.lt (A : own_AJ Z h a N fJ) : a < h.size := by obtain ⟨c, A, -⟩ := A; exact A.lt
theorem own_AI.ext (A : own_AI Z h a ty N f) (E : Ext h h') : own_AI Z h' a ty N f := by obtain ⟨c, A, r⟩ := A; exact ⟨c, A.ext E, r⟩
theorem own_AJ.ext (A : own_AJ Z h a N fJ) (E : Ext h h') : own_AJ Z h' a N fJ := by obtain ⟨c, A, r⟩ := A; exact ⟨c, A.ext E, r⟩
theorem own_AI.other {sl : Nat} {v : Value} (A : own_AI Z h a ty N f) (W : Wr h h' b sl v) (q : a ≠ b) : own_AI Z h' a ty N f := by obtain ⟨c, A, r⟩ := A; exact ⟨c, A.other W q, r⟩
theorem own_AJ.other {sl : Nat} {v : Value} (A : own_AJ Z h a N fJ) (W : Wr h h' b sl v) (q : a ≠ b) : own_AJ Z h' a N fJ := by obtain ⟨c, A, r⟩ := A; exact ⟨c, A.other W q, r⟩
theorem own_AI.keep {ws : List Addr} (A : own_AI Z h a ty N f) (K : Keep h h' ws) (q : a ∉ ws) : own_AI Z h' a ty N f := by obtain ⟨c, A, r⟩ := A; exact ⟨c, ⟨K.2.1 a c A.1 q, A.2⟩, r⟩
theorem own_AJ.keep {ws : List Addr} (A : own_AJ Z h a N fJ) (K : Keep h h' ws) (q : a ∉ ws) : own_AJ Z h' a N fJ := by obtain ⟨c, A, r⟩ := A; exact ⟨c, ⟨K.2.1 a c A.1 q, A.2⟩, r⟩
theorem own_slots (c : Cell) (i j : Nat) (v : Value) (hj : j < c.slots.size) : (c.setSlot i v).slots[j]? = if j = i then some v else c.slots[j]? := by
  show (c.slots.setIfInBounds i v)[j]? = _
  rw [Array.getElem?_setIfInBounds]
  by_cases q : i = j
  · subst q; simp [hj]
  · simp [q, Ne.symm q]
theorem own_AI.set {i : Nat} {v : Int32} (A : own_AI Z h a ty N f) (W : Wr h h' a i (.int v)) : own_AI Z h' a ty N (own_up f i v) := by
  obtain ⟨c, A, S, M, H⟩ := A
  refine ⟨_, A.same W, by rw [sz_set, S], M, fun j hj => ?_⟩
  rw [own_slots c i j _ (by rw [S]; exact hj)]
  by_cases q : j = i
  · rw [if_pos q, q, own_up_at]
  · rw [if_neg q, own_up_ne _ _ q, H j hj]
theorem own_AJ.set {i : Nat} {v : Int64} (A : own_AJ Z h a N fJ) (W : Wr h h' a i (.long v)) : own_AJ Z h' a N (own_up fJ i v) := by
  obtain ⟨c, A, S, M, H⟩ := A
  refine ⟨_, A.same W, by rw [sz_set, S], M, fun j hj => ?_⟩
  rw [own_slots c i j _ (by rw [S]; exact hj)]
  by_cases q : j = i
  · rw [if_pos q, q, own_up_at]
  · rw [if_neg q, own_up_ne _ _ q, H j hj]
theorem own_AI.fresh {k : ClassId} (A : Arr Z h a (newA k ty N) ty) (hd : defaultValue ty = .int 0) (M : ¬ N < 0) : own_AI Z h a ty N (fun _ => 0) := by
  refine ⟨_, A, sz_new _ _ _, M, fun j hj => ?_⟩
  show (Array.replicate N.toNatClampNeg (defaultValue ty))[j]? = _
  rw [Array.getElem?_replicate, if_pos hj, hd]
theorem own_AJ.fresh {k : ClassId} (A : Arr Z h a (newA k .long N) .long) (M : ¬ N < 0) : own_AJ Z h a N (fun _ => 0) := by
  refine ⟨_, A, sz_new _ _ _, M, fun j hj => ?_⟩
  show (Array.replicate N.toNatClampNeg (defaultValue .long))[j]? = _
  rw [Array.getElem?_replicate, if_pos hj]; rfl
theorem own_AI.congr {f' : Nat → Int32} (A : own_AI Z h a ty N f) (q : ∀ j, j < N.toNatClampNeg → f j = f' j) : own_AI Z h a ty N f' := by
  obtain ⟨c, A, S, M, H⟩ := A
  exact ⟨c, A, S, M, fun j hj => by rw [H j hj, q j hj]⟩
theorem own_AJ.congr {f' : Nat → Int64} (A : own_AJ Z h a N fJ) (q : ∀ j, j < N.toNatClampNeg → fJ j = f' j) : own_AJ Z h a N f' := by
  obtain ⟨c, A, S, M, H⟩ := A
  exact ⟨c, A, S, M, fun j hj => by rw [H j hj, q j hj]⟩
theorem own_lt_nat {j : Int32} (q : ¬ j < 0 ∧ j < N) : j.toNatClampNeg < N.toNatClampNeg := by
  have h1 := nat_of q.1
  have h2 : ¬ N < 0 := by
    intro u; have := q.1; have := q.2
    rw [Int32.lt_iff_toInt_lt] at *; omega
  have h3 := nat_of h2
  have := q.2
  rw [Int32.lt_iff_toInt_lt] at this
  omega
/-- a place in the array, by its number -/
theorem own_ix {j : Int32} (h0 : 0 ≤ j.toInt) (h1 : j.toInt < N.toInt) : ¬ j < 0 ∧ j < N := by
  rw [Int32.lt_iff_toInt_lt, Int32.lt_iff_toInt_lt]
  exact ⟨by show ¬ j.toInt < 0; omega, h1⟩
theorem own_len (X : Stand p l e R s m args below meth c T locs cells slots) (hx : p.tables.exec = Jvm.exec) (hZ : Z.Warmed39 s.vm) (eT : T.heap = h) (A : own_AI Z h a ty N f) {g : JFrame} (hg : g.method = m) {rest : List Value} (hs : g.stack = .ref a :: rest) (hd : decode c.code g.pc = .ok (.arraylength, 1))
    (hr : Steps p.tables e below (T.setTop { g with pc := g.pc + 1, stack := .int N :: rest }) target) : Steps p.tables e below (T.setTop g) target := by
  obtain ⟨cl, A, S, M, -⟩ := A
  refine X.arraylength hx (cell := cl) (by rw [eT]; exact A.1) (State.isArrayOf_alike hZ.alike A.2.1) hg hs hd _ ?_
  rw [len_of S M]; exact hr
theorem own_lenJ (X : Stand p l e R s m args below meth c T locs cells slots) (hx : p.tables.exec = Jvm.exec) (hZ : Z.Warmed39 s.vm) (eT : T.heap = h) (A : own_AJ Z h a N fJ) {g : JFrame} (hg : g.method = m) {rest : List Value} (hs : g.stack = .ref a :: rest) (hd : decode c.code g.pc = .ok (.arraylength, 1))
    (hr : Steps p.tables e below (T.setTop { g with pc := g.pc + 1, stack := .int N :: rest }) target) : Steps p.tables e below (T.setTop g) target := by
  obtain ⟨cl, A, S, M, -⟩ := A
  refine X.arraylength hx (cell := cl) (by rw [eT]; exact A.1) (State.isArrayOf_alike hZ.alike A.2.1) hg hs hd _ ?_
  rw [len_of S M]; exact hr
theorem own_ldI (X : Stand p l e R s m args below meth c T locs cells slots) (hx : p.tables.exec = Jvm.exec) (hZ : Z.Warmed39 s.vm) (eT : T.heap = h) (A : own_AI Z h a .int N f) {j : Int32} (q : ¬ j < 0 ∧ j < N) {g : JFrame} (hg : g.method = m) {rest : List Value} (hs : g.stack = .int j :: .ref a :: rest) (hd : decode c.code g.pc = .ok (.iaload, 1))
    (hr : Steps p.tables e below (T.setTop { g with pc := g.pc + 1, stack := .int (f j.toNatClampNeg) :: rest }) target) : Steps p.tables e below (T.setTop g) target := by
  obtain ⟨cl, A, S, M, H⟩ := A
  exact X.iaload hx (j := j) (by rw [eT]; exact A.1) (State.isArrayOf_alike hZ.alike A.2.1) A.2.2 (inb_of S q) (H _ (own_lt_nat q)) hg hs hd _ hr
theorem own_ldB (X : Stand p l e R s m args below meth c T locs cells slots) (hx : p.tables.exec = Jvm.exec) (hZ : Z.Warmed39 s.vm) (eT : T.heap = h) (A : own_AI Z h a .byte N f) {j : Int32} (q : ¬ j < 0 ∧ j < N) {g : JFrame} (hg : g.method = m) {rest : List Value} (hs : g.stack = .int j :: .ref a :: rest) (hd : decode c.code g.pc = .ok (.baload, 1))
    (hr : Steps p.tables e below (T.setTop { g with pc := g.pc + 1, stack := .int (f j.toNatClampNeg) :: rest }) target) : Steps p.tables e below (T.setTop g) target := by
  obtain ⟨cl, A, S, M, H⟩ := A
  exact X.baloadBytes hx (j := j) (by rw [eT]; exact A.1) (State.isArrayOf_alike hZ.alike A.2.1) A.2.2 (inb_of S q) (H _ (own_lt_nat q)) hg hs hd _ hr
theorem own_ldJ (X : Stand p l e R s m args below meth c T locs cells slots) (hx : p.tables.exec = Jvm.exec) (hZ : Z.Warmed39 s.vm) (eT : T.heap = h) (A : own_AJ Z h a N fJ) {j : Int32} (q : ¬ j < 0 ∧ j < N) {g : JFrame} (hg : g.method = m) {rest : List Value} (hs : g.stack = .int j :: .ref a :: rest) (hd : decode c.code g.pc = .ok (.laload, 1))
    (hr : Steps p.tables e below (T.setTop { g with pc := g.pc + 1, stack := .long (fJ j.toNatClampNeg) :: rest }) target) : Steps p.tables e below (T.setTop g) target := by
  obtain ⟨cl, A, S, M, H⟩ := A
  exact X.laload hx (j := j) (by rw [eT]; exact A.1) (State.isArrayOf_alike hZ.alike A.2.1) A.2.2 (inb_of S q) (H _ (own_lt_nat q)) hg hs hd _ hr
theorem own_stI (X : Stand p l e R s m args below meth c T locs cells slots) (hx : p.tables.exec = Jvm.exec) (hZ : Z.Warmed39 s.vm) (eT : T.heap = h) (A : own_AI Z h a .int N f) {j x : Int32} (q : ¬ j < 0 ∧ j < N) {g : JFrame} (hg : g.method = m) {rest : List Value} (hs : g.stack = .int x :: .int j :: .ref a :: rest) (hd : decode c.code g.pc = .ok (.iastore, 1)) :
    ∃ T' h', Stand p l e R s m args below meth c T' (locs ++ [⟨a, j.toNatClampNeg⟩]) cells slots ∧ T'.heap = h' ∧ Wr h h' a j.toNatClampNeg (.int x) ∧ own_AI Z h' a .int N (own_up f j.toNatClampNeg x) ∧ ∀ target, Steps p.tables e below (T'.setTop { g with pc := g.pc + 1, stack := rest }) target → Steps p.tables e below (T.setTop g) target := by
  have A' := A
  obtain ⟨cl, A, S, M, H⟩ := A
  obtain ⟨T', h', X', e', W', st⟩ := stI X hx hZ eT A (j := j) (inb_of S q) hg hs hd
  exact ⟨T', h', X', e', W', A'.set W', st⟩
theorem own_stB (X : Stand p l e R s m args below meth c T locs cells slots) (hx : p.tables.exec = Jvm.exec) (hZ : Z.Warmed39 s.vm) (eT : T.heap = h) (A : own_AI Z h a .byte N f) {j x : Int32} (q : ¬ j < 0 ∧ j < N) {g : JFrame} (hg : g.method = m) {rest : List Value} (hs : g.stack = .int x :: .int j :: .ref a :: rest) (hd : decode c.code g.pc = .ok (.bastore, 1)) :
    ∃ T' h', Stand p l e R s m args below meth c T' (locs ++ [⟨a, j.toNatClampNeg⟩]) cells slots ∧ T'.heap = h' ∧ Wr h h' a j.toNatClampNeg (.int x.toInt8.toInt32) ∧ own_AI Z h' a .byte N (own_up f j.toNatClampNeg x.toInt8.toInt32) ∧ ∀ target, Steps p.tables e below (T'.setTop { g with pc := g.pc + 1, stack := rest }) target → Steps p.tables e below (T.setTop g) target := by
  have A' := A
  obtain ⟨cl, A, S, M, H⟩ := A
  obtain ⟨T', h', X', e', W', st⟩ := stB X hx hZ eT A (j := j) (inb_of S q) hg hs hd
  exact ⟨T', h', X', e', W', A'.set W', st⟩
theorem own_stJ (X : Stand p l e R s m args below meth c T locs cells slots) (hx : p.tables.exec = Jvm.exec) (hZ : Z.Warmed39 s.vm) (eT : T.heap = h) (A : own_AJ Z h a N fJ) {j : Int32} {x : Int64} (q : ¬ j < 0 ∧ j < N) {g : JFrame} (hg : g.method = m) {rest : List Value} (hs : g.stack = .long x :: .int j :: .ref a :: rest) (hd : decode c.code g.pc = .ok (.lastore, 1)) :
    ∃ T' h', Stand p l e R s m args below meth c T' (locs ++ [⟨a, j.toNatClampNeg⟩]) cells slots ∧ T'.heap = h' ∧ Wr h h' a j.toNatClampNeg (.long x) ∧ own_AJ Z h' a N (own_up fJ j.toNatClampNeg x) ∧ ∀ target, Steps p.tables e below (T'.setTop { g with pc := g.pc + 1, stack := rest }) target → Steps p.tables e below (T.setTop g) target := by
  have A' := A
  obtain ⟨cl, A, S, M, H⟩ := A
  obtain ⟨T', h', X', e', W', st⟩ := stJ X hx hZ eT A (j := j) (inb_of S q) hg hs hd
  exact ⟨T', h', X', e', W', A'.set W', st⟩
theorem own_newI (X : Stand p l e R s m args below meth c T locs cells slots) (hx : p.tables.exec = Jvm.exec) (hZ : Z.Warmed39 s.vm) {aty : ArrayType} (w : (Cond.arrayClass (newarray.typeOf aty)).before a0 Z = true) (hdv : defaultValue (newarray.typeOf aty) = .int 0) (eT : T.heap = h) {g : JFrame} (hg : g.method = m) (hd : decode c.code g.pc = .ok (.newarray aty, 2)) {n : Int32} {rest : List Value} (hs : g.stack = .int n :: rest)
    (hn : ¬ n < 0) {cap : Nat} (hcap : n.toNatClampNeg ≤ cap) (hb : cap * 8 ≤ 536870912) (hc : cells + 1 ≤ R.cells) (hl : slots + cap ≤ R.slots) :
    ∃ T' h', Stand p l e R s m args below meth c T' locs (cells + 1) (slots + cap) ∧ T'.heap = h' ∧ Ext h h' ∧ own_AI Z h' h.size (newarray.typeOf aty) n (fun _ => 0) ∧ ∀ target, Steps p.tables e below (T'.setTop { g with pc := g.pc + 2, stack := .ref h.size :: rest }) target → Steps p.tables e below (T.setTop g) target := by
  obtain ⟨T', h', k, X', e', E', A', st⟩ := newP X hx hZ w eT hg hd hs hn hcap hb hc hl
  exact ⟨T', h', X', e', E', own_AI.fresh A' hdv hn, st⟩
theorem own_newJ (X : Stand p l e R s m args below meth c T locs cells slots) (hx : p.tables.exec = Jvm.exec) (hZ : Z.Warmed39 s.vm) (w : (Cond.arrayClass .long).before a0 Z = true) (eT : T.heap = h) {g : JFrame} (hg : g.method = m) (hd : decode c.code g.pc = .ok (.newarray .long, 2)) {n : Int32} {rest : List Value} (hs : g.stack = .int n :: rest)
    (hn : ¬ n < 0) {cap : Nat} (hcap : n.toNatClampNeg ≤ cap) (hb : cap * 8 ≤ 536870912) (hc : cells + 1 ≤ R.cells) (hl : slots + cap ≤ R.slots) :
    ∃ T' h', Stand p l e R s m args below meth c T' locs (cells + 1) (slots + cap) ∧ T'.heap = h' ∧ Ext h h' ∧ own_AJ Z h' h.size n (fun _ => 0) ∧ ∀ target, Steps p.tables e below (T'.setTop { g with pc := g.pc + 2, stack := .ref h.size :: rest }) target → Steps p.tables e below (T.setTop g) target := by
  obtain ⟨T', h', k, X', e', E', A', st⟩ := newP (aty := .long) X hx hZ w eT hg hd hs hn hcap hb hc hl
  exact ⟨T', h', X', e', E', own_AJ.fresh A' hn, st⟩
theorem own_ne_obj {C : String} {k : Nat} (F : Exa Z h a C) (wi : (Cond.instantiable C k).before a0 Z = true) (A : own_AI Z h b ty N f) : a ≠ b := by obtain ⟨c, A, -⟩ := A; exact ne_arr F wi A
theorem own_ne_objJ {C : String} {k : Nat} (F : Exa Z h a C) (wi : (Cond.instantiable C k).before a0 Z = true) (A : own_AJ Z h b N fJ) : a ≠ b := by obtain ⟨c, A, -⟩ := A; exact ne_arr F wi A
theorem own_selp {s : State} {b0 args : Array Value} {y : MethodName} {n : Nat} (wi : (Cond.instantiable y.cls n).before b0 s = true) (hp : s.PrivateAt y) (hi : (Cond.instanceMethod y).before b0 s = true) (hy : y.cls ≠ "java/lang/invoke/MethodHandle" ∧ y.cls ≠ "java/lang/invoke/VarHandle") : (Cond.selects y.cls y y).before args s = true := by
  obtain ⟨c, k, hc, hk, -, hab, -, -⟩ := Cond.instantiable_spec wi
  have hni : k.isInterface = false := by
    cases q : k.isInterface with
    | false => rfl
    | true => rw [q] at hab; simp at hab
  have r := selects_self_of_private (args := b0) hc hk hni hp hi hy
  exact r
end OwnLayer
/-! OWN LAYER: machine numbers as integers -/
section OwnNums
variable {x y : Int32} {u v : Int64} {a b : Int}
theorem own_i_add (hx : x.toInt = a) (hy : y.toInt = b) (h : -2147483648 ≤ a + b ∧ a + b < 2147483648) : (x + y).toInt = a + b := by
  rw [Jvm.Free.XT.add32 (by rw [hx, hy]; exact h), hx, hy]
theorem own_i_sub (hx : x.toInt = a) (hy : y.toInt = b) (h : -2147483648 ≤ a - b ∧ a - b < 2147483648) : (x - y).toInt = a - b := by
  rw [Jvm.Free.XT.sub32 (by rw [hx, hy]; exact h), hx, hy]
theorem own_i_mul (hx : x.toInt = a) (hy : y.toInt = b) (h : -2147483648 ≤ a * b ∧ a * b < 2147483648) : (x * y).toInt = a * b := by
  rw [Jvm.Free.XT.mul32 (by rw [hx, hy]; exact h), hx, hy]
theorem own_i_div (hx : x.toInt = a) (hy : y.toInt = b) (h : 0 ≤ a ∧ 0 < b) : (x / y).toInt = a / b := by
  rw [(c_idiv x y b hy (fun q => by rw [q] at hy; have : (-1 : Int32).toInt = -1 := rfl; omega)).1 (by omega), hx]
theorem own_i_mod (hx : x.toInt = a) (hy : y.toInt = b) (h : 0 ≤ a ∧ 0 < b) : (x % y).toInt = a % b := by
  rw [(c_irem x y b hy).1 (by omega), hx]
theorem own_l_add (hu : u.toInt = a) (hv : v.toInt = b) (h : -9223372036854775808 ≤ a + b ∧ a + b < 9223372036854775808) : (u + v).toInt = a + b := by
  rw [Jvm.Free.XT.add64 (by rw [hu, hv]; exact h), hu, hv]
theorem own_l_sub (hu : u.toInt = a) (hv : v.toInt = b) (h : -9223372036854775808 ≤ a - b ∧ a - b < 9223372036854775808) : (u - v).toInt = a - b := by
  rw [Jvm.Free.XT.sub64 (by rw [hu, hv]; exact h), hu, hv]
theorem own_l_mul (hu : u.toInt = a) (hv : v.toInt = b) (h : -9223372036854775808 ≤ a * b ∧ a * b < 9223372036854775808) : (u * v).toInt = a * b := by
  rw [Jvm.Free.XT.mul64 (by rw [hu, hv]; exact h), hu, hv]
theorem own_l_div (hu : u.toInt = a) (hv : v.toInt = b) (h : 0 ≤ a ∧ 0 < b) : (u / v).toInt = a / b := by
  rw [(c_ldiv u v b hv (fun q => by rw [q] at hv; have : (-1 : Int64).toInt = -1 := rfl; omega)).1 (by omega), hu]
theorem own_l_divN (hu : u.toInt = a) (hv : v.toInt = b) (h : a < 0 ∧ 0 < b) : (u / v).toInt = -((-a) / b) := by
  rw [(c_ldiv u v b hv (fun q => by rw [q] at hv; have : (-1 : Int64).toInt = -1 := rfl; omega)).2 (by omega), hu]
theorem own_i2l (hx : x.toInt = a) : (x.toInt64).toInt = a := by rw [c_i2l, hx]
theorem own_l2i (hu : u.toInt = a) (h : -2147483648 ≤ a ∧ a < 2147483648) : (u.toInt32).toInt = a := by
  have h1 := c_l2i u; have h2 := rng32 u.toInt32; omega
theorem own_i_mask (m : Int32) (k : Nat) (hk : k ≤ 31) (hm : m.toBitVec.toNat = 2 ^ k - 1) (hx : x.toInt = a) : (x &&& m).toInt = a % (2 ^ k : Nat) := by rw [c_mask x m k hk hm, hx]
theorem own_i_lt (hx : x.toInt = a) (hy : y.toInt = b) : x < y ↔ a < b := by rw [Int32.lt_iff_toInt_lt, hx, hy]
theorem own_l_lt (hu : u.toInt = a) (hv : v.toInt = b) : u < v ↔ a < b := by rw [Int64.lt_iff_toInt_lt, hu, hv]
theorem own_i_eq (hx : x.toInt = a) (hy : y.toInt = b) : x = y ↔ a = b := by rw [← Int32.toInt_inj, hx, hy]
theorem own_l_eq (hu : u.toInt = a) (hv : v.toInt = b) : u = v ↔ a = b := by rw [← Int64.toInt_inj, hu, hv]
theorem own_i_nat (hx : x.toInt = a) (h : 0 ≤ a) : x.toNatClampNeg = a.toNat := by show x.toInt.toNat = a.toNat; rw [hx]
theorem own_i_of (h : x.toInt = y.toInt) : x = y := Int32.toInt_inj.mp h
theorem own_l_of (h : u.toInt = v.toInt) : u = v := Int64.toInt_inj.mp h
end OwnNums
theorem d2_0 : decode method_2_code 0 = .ok (.iload_n 0, 1) := by decide +kernel
theorem d2_1 : decode method_2_code 1 = .ok (.sipush 255, 3) := by decide +kernel
theorem d2_4 : decode method_2_code 4 = .ok (.iand, 1) := by decide +kernel
theorem d2_5 : decode method_2_code 5 = .ok (.iload_n 1, 1) := by decide +kernel
theorem d2_6 : decode method_2_code 6 = .ok (.if_icmp .ne 7, 3) := by decide +kernel
theorem d2_9 : decode method_2_code 9 = .ok (.iconst 1, 1) := by decide +kernel
theorem d2_10 : decode method_2_code 10 = .ok (.goto 4, 3) := by decide +kernel
theorem d2_13 : decode method_2_code 13 = .ok (.iconst 0, 1) := by decide +kernel
theorem d2_14 : decode method_2_code 14 = .ok (.ireturn, 1) := by decide +kernel
theorem pn_2 : plainName "com/example/fewbits/fewbits/HuffmanCodeCountBytesPinLaw" = true := by first | (simp [plainName, overriddenIn]; done) | decide +kernel
theorem ef_2 (m : MethodId) (x0 : Int32) (x1 : Int32) : entryFrame m #[(.int x0), (.int x1)] 2 = mkF m 0 #[.val (.int x0), .val (.int x1)] [] := by first | (simp [entryFrame, mkF, argsToLocals, Value.category]; done) | rfl
def own_hit (p0 : Int32) (p1 : Int32) : Int32 := (if (p0 &&& (255 : Int32)) = p1 then (1 : Int32) else (0 : Int32))
def Q2 (Z : State) (p0 : Int32) (p1 : Int32) (h0 : Heap) (n0 : Nat) (v : Option Value) (h : Heap) (L : List Loc) : Prop := v = some (.int (own_hit p0 p1)) ∧ Fr n0 L ∧ h = h0
set_option maxRecDepth 65536 in
set_option maxHeartbeats 40000000 in
theorem rm2 (l : Launch) (Z : State) (a0 : Array Value) (hw : ∀ d ∈ tables_1, d.before a0 Z = true) (ws : List Jvm.Cond) (p0 : Int32) (p1 : Int32) (h0 : Heap) (n0 : Nat) (Z0 : n0 ≤ h0.size)  :
    MetFree l (⟨"com/example/fewbits/fewbits/HuffmanCodeCountBytesPinLaw", "hit", "(BI)I"⟩ : MethodName) (head1 (Jvm.Cond.code (⟨"com/example/fewbits/fewbits/HuffmanCodeCountBytesPinLaw", "hit", "(BI)I"⟩ : MethodName) method_2_code 2 (some .int) :: ws) ({ frames := 0, cells := 0, slots := 0, locals := 0 } : Room)) (fun a_ U_ => a_ = #[(.int p0), (.int p1)] ∧ Z.Warmed39 U_.vm ∧ U_.heap = h0) (fun _ _ _ _ _ => True) (fun _ U_ o_ U' => ∃ v_ L_, o_ = .returned v_ ∧ (Q2 Z p0 p1 h0 n0 v_ U'.heap L_) ∧ FrameEnd U_ o_ U' L_ ({ frames := 0, cells := 0, slots := 0, locals := 0 } : Room).cells ({ frames := 0, cells := 0, slots := 0, locals := 0 } : Room).slots) := by
  refine MetFree.of_bodySF (plainFor_of_name pn_2) hisR ?_
  intro p e s m args below meth c s₁ Bd hml0 hP hK
  obtain ⟨rfl, hZ, hh⟩ := hP
  have hx := Bd.exec
  have hby := Bd.bytes
  have hml : c.maxLocals = 2 := hml0
  have hown : s.vm.findClass "com/example/fewbits/fewbits/HuffmanCodeCountBytesPinLaw" = some m.cls := findClass_of_methodNamed Bd.named
  have hnm := (name_of_methodNamed Bd.named Bd.method).1
  have X0 : Stand p l e ({ frames := 0, cells := 0, slots := 0, locals := 0 } : Room) s m #[(.int p0), (.int p1)] below meth c s₁ [] 0 0 := Stand.of_body Bd
  have e0 : s₁.heap = h0 := by rw [← hh, Bd.state]; rfl
  have N0 := Fr.nil n0
  have pre0 : ∀ t, Steps p.tables e below (s₁.setTop (mkF m 0 #[.val (.int p0), .val (.int p1)] [])) t → Steps p.tables e below (s₁.setTop (entryFrame m #[(.int p0), (.int p1)] 2)) t := fun t k => castTop (ef_2 m p0 p1) k
  obtain ⟨fs, hr, hrun, hended, hW, hsame⟩ := X0.leave (v := some (.int (own_hit p0 p1))) (fun h => by rw [Bd.returns] at h; cases h)
  refine ⟨_, _, pre0 _ ?_, hrun, hended, _, _, rfl, ⟨rfl, N0, e0⟩, ⟨_, rfl⟩, hW, hsame.mono (by decide) (by decide)⟩
  show Steps p.tables e below (s₁.setTop (mkF m 0 #[.val (.int p0), .val (.int p1)] [])) _
  refine XS.iloadN X0.here hx rfl (hb hby d2_0) rfl ?_
  show Steps p.tables e below (s₁.setTop (mkF m 1 #[.val (.int p0), .val (.int p1)] [(.int p0)])) _
  refine XS.sipush X0.here hx rfl (hb hby d2_1) ?_
  show Steps p.tables e below (s₁.setTop (mkF m 4 #[.val (.int p0), .val (.int p1)] [(.int (255 : Int32)), (.int p0)])) _
  refine XS.iand X0.here hx rfl (hb hby d2_4) rfl ?_
  show Steps p.tables e below (s₁.setTop (mkF m 5 #[.val (.int p0), .val (.int p1)] [(.int (p0 &&& (255 : Int32)))])) _
  refine XS.iloadN X0.here hx rfl (hb hby d2_5) rfl ?_
  show Steps p.tables e below (s₁.setTop (mkF m 6 #[.val (.int p0), .val (.int p1)] [(.int p1), (.int (p0 &&& (255 : Int32)))])) _
  by_cases hc6 : (p0 &&& (255 : Int32)) = p1
  · refine XS.icmpNo X0.here hx rfl (hb hby d2_6) rfl (teq hc6).2 ?_
    show Steps p.tables e below (s₁.setTop (mkF m 9 #[.val (.int p0), .val (.int p1)] [])) _
    refine XS.iconst X0.here hx rfl (hb hby d2_9) ?_
    show Steps p.tables e below (s₁.setTop (mkF m 10 #[.val (.int p0), .val (.int p1)] [(.int (1 : Int32))])) _
    refine XS.goto X0.here hx rfl (pc0 := 10) (pc' := 14) rfl (hb hby d2_10) (by decide) (by decide) ?_
    show Steps p.tables e below (s₁.setTop (mkF m 14 #[.val (.int p0), .val (.int p1)] [(.int (1 : Int32))])) _
    rw [show (own_hit p0 p1) = (1 : Int32) from by unfold own_hit; rw [if_pos hc6]] at hr
    exact own_retI X0 hx Bd.returns (hb hby d2_14) hr
  · refine XS.icmpYes X0.here hx rfl (pc0 := 6) (pc' := 13) rfl (hb hby d2_6) rfl (feq hc6).2 (by decide) (by decide) ?_
    show Steps p.tables e below (s₁.setTop (mkF m 13 #[.val (.int p0), .val (.int p1)] [])) _
    refine XS.iconst X0.here hx rfl (hb hby d2_13) ?_
    show Steps p.tables e below (s₁.setTop (mkF m 14 #[.val (.int p0), .val (.int p1)] [(.int (0 : Int32))])) _
    rw [show (own_hit p0 p1) = (0 : Int32) from by unfold own_hit; rw [if_neg hc6]] at hr
    exact own_retI X0 hx Bd.returns (hb hby d2_14) hr
theorem d1_0 : decode prog_6_method_5_code 0 = .ok (.sipush 256, 3) := by decide +kernel
theorem d1_3 : decode prog_6_method_5_code 3 = .ok (.newarray .int, 2) := by decide +kernel
theorem d1_5 : decode prog_6_method_5_code 5 = .ok (.astore_n 1, 1) := by decide +kernel
theorem d1_6 : decode prog_6_method_5_code 6 = .ok (.aload_n 0, 1) := by decide +kernel
theorem d1_7 : decode prog_6_method_5_code 7 = .ok (.astore_n 2, 1) := by decide +kernel
theorem d1_8 : decode prog_6_method_5_code 8 = .ok (.aload_n 2, 1) := by decide +kernel
theorem d1_9 : decode prog_6_method_5_code 9 = .ok (.arraylength, 1) := by decide +kernel
theorem d1_10 : decode prog_6_method_5_code 10 = .ok (.istore_n 3, 1) := by decide +kernel
theorem d1_11 : decode prog_6_method_5_code 11 = .ok (.iconst 0, 1) := by decide +kernel
theorem d1_12 : decode prog_6_method_5_code 12 = .ok (.istore 4, 2) := by decide +kernel
theorem d1_14 : decode prog_6_method_5_code 14 = .ok (.iload 4, 2) := by decide +kernel
theorem d1_16 : decode prog_6_method_5_code 16 = .ok (.iload_n 3, 1) := by decide +kernel
theorem d1_17 : decode prog_6_method_5_code 17 = .ok (.if_icmp .ge 27, 3) := by decide +kernel
theorem d1_20 : decode prog_6_method_5_code 20 = .ok (.aload_n 2, 1) := by decide +kernel
theorem d1_21 : decode prog_6_method_5_code 21 = .ok (.iload 4, 2) := by decide +kernel
theorem d1_23 : decode prog_6_method_5_code 23 = .ok (.baload, 1) := by decide +kernel
theorem d1_24 : decode prog_6_method_5_code 24 = .ok (.istore 5, 2) := by decide +kernel
theorem d1_26 : decode prog_6_method_5_code 26 = .ok (.aload_n 1, 1) := by decide +kernel
theorem d1_27 : decode prog_6_method_5_code 27 = .ok (.iload 5, 2) := by decide +kernel
theorem d1_29 : decode prog_6_method_5_code 29 = .ok (.sipush 255, 3) := by decide +kernel
theorem d1_32 : decode prog_6_method_5_code 32 = .ok (.iand, 1) := by decide +kernel
theorem d1_33 : decode prog_6_method_5_code 33 = .ok (.dup2, 1) := by decide +kernel
theorem d1_34 : decode prog_6_method_5_code 34 = .ok (.iaload, 1) := by decide +kernel
theorem d1_35 : decode prog_6_method_5_code 35 = .ok (.iconst 1, 1) := by decide +kernel
theorem d1_36 : decode prog_6_method_5_code 36 = .ok (.iadd, 1) := by decide +kernel
theorem d1_37 : decode prog_6_method_5_code 37 = .ok (.iastore, 1) := by decide +kernel
theorem d1_38 : decode prog_6_method_5_code 38 = .ok (.iinc 4 1, 3) := by decide +kernel
theorem d1_41 : decode prog_6_method_5_code 41 = .ok (.goto (-27), 3) := by decide +kernel
theorem d1_44 : decode prog_6_method_5_code 44 = .ok (.aload_n 1, 1) := by decide +kernel
theorem d1_45 : decode prog_6_method_5_code 45 = .ok (.areturn, 1) := by decide +kernel
theorem pn_1 : plainName "com/example/fewbits/fewbits/HuffmanCode" = true := by first | (simp [plainName, overriddenIn]; done) | decide +kernel
theorem ef_1 (m : MethodId) (x0 : Addr) : entryFrame m #[(.ref x0)] 6 = mkF m 0 #[.val (.ref x0), .unset, .unset, .unset, .unset, .unset] [] := by first | (simp [entryFrame, mkF, argsToLocals, Value.category]; done) | rfl
theorem own_255 (z : Int32) : ¬ (z &&& (255 : Int32)) < 0 ∧ (z &&& (255 : Int32)) < (256 : Int32) := by
  have t := own_i_mask (255 : Int32) 8 (by decide) (by decide) (rfl : z.toInt = z.toInt)
  exact own_ix (by rw [t]; omega) (by rw [t]; show _ < (256 : Int); omega)
/-- one more byte z counted -/
def own_inc (F : Nat → Int32) (z : Int32) : Nat → Int32 := own_up F (z &&& (255 : Int32)).toNatClampNeg (F (z &&& (255 : Int32)).toNatClampNeg + (1 : Int32))
theorem own_inj {j k : Int32} (hj : ¬ j < 0) (hk : ¬ k < 0) (q : j.toNatClampNeg = k.toNatClampNeg) : j = k := by
  have h1 := nat_of hj; have h2 := nat_of hk
  exact own_i_of (by omega)
theorem own_inc_at (F : Nat → Int32) (z : Int32) {k : Int32} (hk : ¬ k < 0) : own_inc F z k.toNatClampNeg = F k.toNatClampNeg + own_hit z k := by
  unfold own_inc own_hit
  by_cases q : (z &&& (255 : Int32)) = k
  · rw [if_pos q, q, own_up_at]
  · rw [if_neg q, own_up_ne _ _ (fun u => q (own_inj (own_255 z).1 hk u.symm))]
    exact (Int32.add_zero _).symm
theorem own_bb (z : Int32) : z.toInt8.toInt32.toInt8.toInt32 = z.toInt8.toInt32 := by simp
def Q1_0 (Z : State) (o0 : Addr) (f : Nat → Int32) (h0 : Heap) (n0 : Nat) (v : Option Value) (h : Heap) (L : List Loc) : Prop := (∃ bb, v = some (.ref bb) ∧ h0.size ≤ bb ∧ own_AI Z h bb .int (256 : Int32) (fun _ => 0)) ∧ Fr n0 L ∧ Keep h0 h []
set_option maxRecDepth 65536 in
set_option maxHeartbeats 40000000 in
theorem rm1_0 (l : Launch) (Z : State) (a0 : Array Value) (hw : ∀ d ∈ tables_1, d.before a0 Z = true) (ws : List Jvm.Cond) (o0 : Addr) (f : Nat → Int32) (h0 : Heap) (n0 : Nat) (Z0 : n0 ≤ h0.size) (A0 : own_AI Z h0 o0 .byte (0 : Int32) f) :
    MetFree l (⟨"com/example/fewbits/fewbits/HuffmanCode", "countBytes", "([B)[I"⟩ : MethodName) (head1 (Jvm.Cond.code (⟨"com/example/fewbits/fewbits/HuffmanCode", "countBytes", "([B)[I"⟩ : MethodName) prog_6_method_5_code 6 (some (.array .int)) :: ws) ({ frames := 0, cells := 1, slots := 256, locals := 0 } : Room)) (fun a_ U_ => a_ = #[(.ref o0)] ∧ Z.Warmed39 U_.vm ∧ U_.heap = h0) (fun _ _ _ _ _ => True) (fun _ U_ o_ U' => ∃ v_ L_, o_ = .returned v_ ∧ (Q1_0 Z o0 f h0 n0 v_ U'.heap L_) ∧ FrameEnd U_ o_ U' L_ ({ frames := 0, cells := 1, slots := 256, locals := 0 } : Room).cells ({ frames := 0, cells := 1, slots := 256, locals := 0 } : Room).slots) := by
  refine MetFree.of_bodySF (plainFor_of_name pn_1) hisR ?_
  intro p e s m args below meth c s₁ Bd hml0 hP hK
  obtain ⟨rfl, hZ, hh⟩ := hP
  have hx := Bd.exec
  have hby := Bd.bytes
  have hml : c.maxLocals = 6 := hml0
  have hown : s.vm.findClass "com/example/fewbits/fewbits/HuffmanCode" = some m.cls := findClass_of_methodNamed Bd.named
  have hnm := (name_of_methodNamed Bd.named Bd.method).1
  have X0 : Stand p l e ({ frames := 0, cells := 1, slots := 256, locals := 0 } : Room) s m #[(.ref o0)] below meth c s₁ [] 0 0 := Stand.of_body Bd
  have e0 : s₁.heap = h0 := by rw [← hh, Bd.state]; rfl
  have N0 := Fr.nil n0
  have pre0 : ∀ t, Steps p.tables e below (s₁.setTop (mkF m 0 #[.val (.ref o0), .unset, .unset, .unset, .unset, .unset] [])) t → Steps p.tables e below (s₁.setTop (entryFrame m #[(.ref o0)] 6)) t := fun t k => castTop (ef_1 m o0) k
  obtain ⟨T1, h1, X1, e1, E1, A1, st1⟩ := own_newI X0 hx hZ (hw _ (List.mem_of_getElem? (i := 6) rfl)) rfl e0 (g := (mkF m 3 #[.val (.ref o0), .unset, .unset, .unset, .unset, .unset] [(.int (256 : Int32))])) rfl (hb hby d1_3) rfl (by decide) (cap := 256) (by decide) (by decide) (by decide) (by decide)
  obtain ⟨b1, g1⟩ : ∃ z, z = h0.size := ⟨_, rfl⟩
  rw [← g1] at A1 st1
  have f_b1 : n0 ≤ b1 := Nat.le_trans Z0 (Nat.le_of_eq g1.symm)
  have s_b1 : h0.size ≤ b1 := Nat.le_trans (Keep.refl h0 []).1 (Nat.le_of_eq g1.symm)
  have K1 : Keep h0 h1 [] := (Keep.refl h0 []).ext E1
  have ne_o0_b1 : o0 ≠ b1 := Nat.ne_of_lt (Nat.lt_of_lt_of_le A0.lt (Nat.le_of_eq g1.symm))
  have A1_o0 := A0.ext E1
  have Z1 : n0 ≤ h1.size := Nat.le_trans Z0 E1.1
  obtain ⟨fs, hr, hrun, hended, hW, hsame⟩ := X1.leave (v := some (.ref b1)) (fun h => by rw [Bd.returns] at h; cases h)
  refine ⟨_, _, pre0 _ ?_, hrun, hended, _, _, rfl, ⟨⟨_, rfl, s_b1, (by show own_AI Z T1.heap _ _ _ _; rw [e1]; exact A1)⟩, N0, (by show Keep h0 T1.heap []; rw [e1]; exact K1)⟩, ⟨_, rfl⟩, hW, hsame.mono (by decide) (by decide)⟩
  show Steps p.tables e below (s₁.setTop (mkF m 0 #[.val (.ref o0), .unset, .unset, .unset, .unset, .unset] [])) _
  refine XS.sipush X0.here hx rfl (hb hby d1_0) ?_
  show Steps p.tables e below (s₁.setTop (mkF m 3 #[.val (.ref o0), .unset, .unset, .unset, .unset, .unset] [(.int (256 : Int32))])) _
  refine st1 _ ?_
  show Steps p.tables e below (T1.setTop (mkF m 5 #[.val (.ref o0), .unset, .unset, .unset, .unset, .unset] [(.ref b1)])) _
  refine XS.astoreN X1.here hx rfl (hb hby d1_5) rfl rfl (l' := #[.val (.ref o0), .val (.ref b1), .unset, .unset, .unset, .unset]) rfl ?_
  show Steps p.tables e below (T1.setTop (mkF m 6 #[.val (.ref o0), .val (.ref b1), .unset, .unset, .unset, .unset] [])) _
  refine XS.aloadN X1.here hx rfl (hb hby d1_6) rfl rfl ?_
  show Steps p.tables e below (T1.setTop (mkF m 7 #[.val (.ref o0), .val (.ref b1), .unset, .unset, .unset, .unset] [(.ref o0)])) _
  refine XS.astoreN X1.here hx rfl (hb hby d1_7) rfl rfl (l' := #[.val (.ref o0), .val (.ref b1), .val (.ref o0), .unset, .unset, .unset]) rfl ?_
  show Steps p.tables e below (T1.setTop (mkF m 8 #[.val (.ref o0), .val (.ref b1), .val (.ref o0), .unset, .unset, .unset] [])) _
  refine XS.aloadN X1.here hx rfl (hb hby d1_8) rfl rfl ?_
  show Steps p.tables e below (T1.setTop (mkF m 9 #[.val (.ref o0), .val (.ref b1), .val (.ref o0), .unset, .unset, .unset] [(.ref o0)])) _
  refine own_len X1 hx hZ e1 A1_o0 rfl rfl (hb hby d1_9) ?_
  show Steps p.tables e below (T1.setTop (mkF m 10 #[.val (.ref o0), .val (.ref b1), .val (.ref o0), .unset, .unset, .unset] [(.int (0 : Int32))])) _
  refine XS.istoreN X1.here hx rfl (hb hby d1_10) rfl (l' := #[.val (.ref o0), .val (.ref b1), .val (.ref o0), .val (.int (0 : Int32)), .unset, .unset]) rfl ?_
  show Steps p.tables e below (T1.setTop (mkF m 11 #[.val (.ref o0), .val (.ref b1), .val (.ref o0), .val (.int (0 : Int32)), .unset, .unset] [])) _
  refine XS.iconst X1.here hx rfl (hb hby d1_11) ?_
  show Steps p.tables e below (T1.setTop (mkF m 12 #[.val (.ref o0), .val (.ref b1), .val (.ref o0), .val (.int (0 : Int32)), .unset, .unset] [(.int (0 : Int32))])) _
  refine XS.istore X1.here hx rfl (hb hby d1_12) rfl (l' := #[.val (.ref o0), .val (.ref b1), .val (.ref o0), .val (.int (0 : Int32)), .val (.int (0 : Int32)), .unset]) rfl ?_
  show Steps p.tables e below (T1.setTop (mkF m 14 #[.val (.ref o0), .val (.ref b1), .val (.ref o0), .val (.int (0 : Int32)), .val (.int (0 : Int32)), .unset] [])) _
  refine XS.iload X1.here hx rfl (hb hby d1_14) rfl ?_
  show Steps p.tables e below (T1.setTop (mkF m 16 #[.val (.ref o0), .val (.ref b1), .val (.ref o0), .val (.int (0 : Int32)), .val (.int (0 : Int32)), .unset] [(.int (0 : Int32))])) _
  refine XS.iloadN X1.here hx rfl (hb hby d1_16) rfl ?_
  show Steps p.tables e below (T1.setTop (mkF m 17 #[.val (.ref o0), .val (.ref b1), .val (.ref o0), .val (.int (0 : Int32)), .val (.int (0 : Int32)), .unset] [(.int (0 : Int32)), (.int (0 : Int32))])) _
  refine XS.icmpYes X1.here hx rfl (pc0 := 17) (pc' := 44) rfl (hb hby d1_17) rfl (flt (Int32.lt_irrefl)).2.1 (by decide) (by decide) ?_
  show Steps p.tables e below (T1.setTop (mkF m 44 #[.val (.ref o0), .val (.ref b1), .val (.ref o0), .val (.int (0 : Int32)), .val (.int (0 : Int32)), .unset] [])) _
  refine XS.aloadN X1.here hx rfl (hb hby d1_44) rfl rfl ?_
  show Steps p.tables e below (T1.setTop (mkF m 45 #[.val (.ref o0), .val (.ref b1), .val (.ref o0), .val (.int (0 : Int32)), .val (.int (0 : Int32)), .unset] [(.ref b1)])) _
  exact retOut X1 hx Bd.returns rfl (Or.inr (Or.inr (Or.inr (Or.inr ⟨rfl, rfl, rfl⟩)))) (hb hby d1_45) hr
def Q1_1 (Z : State) (o0 : Addr) (f : Nat → Int32) (d0 : Int32) (h0 : Heap) (n0 : Nat) (v : Option Value) (h : Heap) (L : List Loc) : Prop := (∃ bb, v = some (.ref bb) ∧ h0.size ≤ bb ∧ own_AI Z h bb .int (256 : Int32) (own_inc (fun _ => 0) d0)) ∧ Fr n0 L ∧ Keep h0 h []
set_option maxRecDepth 65536 in
set_option maxHeartbeats 40000000 in
theorem rm1_1 (l : Launch) (Z : State) (a0 : Array Value) (hw : ∀ d ∈ tables_1, d.before a0 Z = true) (ws : List Jvm.Cond) (o0 : Addr) (f : Nat → Int32) (d0 : Int32) (h0 : Heap) (n0 : Nat) (Z0 : n0 ≤ h0.size) (A0 : own_AI Z h0 o0 .byte (1 : Int32) f) (hf0 : f 0 = d0) :
    MetFree l (⟨"com/example/fewbits/fewbits/HuffmanCode", "countBytes", "([B)[I"⟩ : MethodName) (head1 (Jvm.Cond.code (⟨"com/example/fewbits/fewbits/HuffmanCode", "countBytes", "([B)[I"⟩ : MethodName) prog_6_method_5_code 6 (some (.array .int)) :: ws) ({ frames := 0, cells := 1, slots := 256, locals := 0 } : Room)) (fun a_ U_ => a_ = #[(.ref o0)] ∧ Z.Warmed39 U_.vm ∧ U_.heap = h0) (fun _ _ _ _ _ => True) (fun _ U_ o_ U' => ∃ v_ L_, o_ = .returned v_ ∧ (Q1_1 Z o0 f d0 h0 n0 v_ U'.heap L_) ∧ FrameEnd U_ o_ U' L_ ({ frames := 0, cells := 1, slots := 256, locals := 0 } : Room).cells ({ frames := 0, cells := 1, slots := 256, locals := 0 } : Room).slots) := by
  refine MetFree.of_bodySF (plainFor_of_name pn_1) hisR ?_
  intro p e s m args below meth c s₁ Bd hml0 hP hK
  obtain ⟨rfl, hZ, hh⟩ := hP
  have hx := Bd.exec
  have hby := Bd.bytes
  have hml : c.maxLocals = 6 := hml0
  have hown : s.vm.findClass "com/example/fewbits/fewbits/HuffmanCode" = some m.cls := findClass_of_methodNamed Bd.named
  have hnm := (name_of_methodNamed Bd.named Bd.method).1
  have X0 : Stand p l e ({ frames := 0, cells := 1, slots := 256, locals := 0 } : Room) s m #[(.ref o0)] below meth c s₁ [] 0 0 := Stand.of_body Bd
  have e0 : s₁.heap = h0 := by rw [← hh, Bd.state]; rfl
  have N0 := Fr.nil n0
  have pre0 : ∀ t, Steps p.tables e below (s₁.setTop (mkF m 0 #[.val (.ref o0), .unset, .unset, .unset, .unset, .unset] [])) t → Steps p.tables e below (s₁.setTop (entryFrame m #[(.ref o0)] 6)) t := fun t k => castTop (ef_1 m o0) k
  obtain ⟨T1, h1, X1, e1, E1, A1, st1⟩ := own_newI X0 hx hZ (hw _ (List.mem_of_getElem? (i := 6) rfl)) rfl e0 (g := (mkF m 3 #[.val (.ref o0), .unset, .unset, .unset, .unset, .unset] [(.int (256 : Int32))])) rfl (hb hby d1_3) rfl (by decide) (cap := 256) (by decide) (by decide) (by decide) (by decide)
  obtain ⟨b1, g1⟩ : ∃ z, z = h0.size := ⟨_, rfl⟩
  rw [← g1] at A1 st1
  have f_b1 : n0 ≤ b1 := Nat.le_trans Z0 (Nat.le_of_eq g1.symm)
  have s_b1 : h0.size ≤ b1 := Nat.le_trans (Keep.refl h0 []).1 (Nat.le_of_eq g1.symm)
  have K1 : Keep h0 h1 [] := (Keep.refl h0 []).ext E1
  have ne_o0_b1 : o0 ≠ b1 := Nat.ne_of_lt (Nat.lt_of_lt_of_le A0.lt (Nat.le_of_eq g1.symm))
  have A1_o0 := A0.ext E1
  have Z1 : n0 ≤ h1.size := Nat.le_trans Z0 E1.1
  obtain ⟨T2, h2, X2, e2, W2, A2, st2⟩ := own_stI X1 hx hZ e1 A1 (j := (d0 &&& (255 : Int32))) (own_255 d0) (g := (mkF m 37 #[.val (.ref o0), .val (.ref b1), .val (.ref o0), .val (.int (1 : Int32)), .val (.int (0 : Int32)), .val (.int d0)] [(.int (((fun _ => 0) ((d0 &&& (255 : Int32))).toNatClampNeg) + (1 : Int32))), (.int (d0 &&& (255 : Int32))), (.ref b1)])) rfl rfl (hb hby d1_37)
  have N2 := Fr.snoc X2 N0 f_b1
  have K2 : Keep h0 h2 [] := K1.wr W2 (Or.inr s_b1)
  have A2_o0 := A1_o0.other W2 ne_o0_b1
  have Z2 : n0 ≤ h2.size := Nat.le_trans Z1 (Nat.le_of_eq (W2.size).symm)
  have V0 : own_AI Z h2 b1 .int (256 : Int32) (own_inc (fun _ => 0) d0) := A2
  obtain ⟨fs, hr, hrun, hended, hW, hsame⟩ := X2.leave (v := some (.ref b1)) (fun h => by rw [Bd.returns] at h; cases h)
  refine ⟨_, _, pre0 _ ?_, hrun, hended, _, _, rfl, ⟨⟨_, rfl, s_b1, (by show own_AI Z T2.heap _ _ _ _; rw [e2]; exact V0)⟩, N2, (by show Keep h0 T2.heap []; rw [e2]; exact K2)⟩, ⟨_, rfl⟩, hW, hsame.mono (by decide) (by decide)⟩
  show Steps p.tables e below (s₁.setTop (mkF m 0 #[.val (.ref o0), .unset, .unset, .unset, .unset, .unset] [])) _
  refine XS.sipush X0.here hx rfl (hb hby d1_0) ?_
  show Steps p.tables e below (s₁.setTop (mkF m 3 #[.val (.ref o0), .unset, .unset, .unset, .unset, .unset] [(.int (256 : Int32))])) _
  refine st1 _ ?_
  show Steps p.tables e below (T1.setTop (mkF m 5 #[.val (.ref o0), .unset, .unset, .unset, .unset, .unset] [(.ref b1)])) _
  refine XS.astoreN X1.here hx rfl (hb hby d1_5) rfl rfl (l' := #[.val (.ref o0), .val (.ref b1), .unset, .unset, .unset, .unset]) rfl ?_
  show Steps p.tables e below (T1.setTop (mkF m 6 #[.val (.ref o0), .val (.ref b1), .unset, .unset, .unset, .unset] [])) _
  refine XS.aloadN X1.here hx rfl (hb hby d1_6) rfl rfl ?_
  show Steps p.tables e below (T1.setTop (mkF m 7 #[.val (.ref o0), .val (.ref b1), .unset, .unset, .unset, .unset] [(.ref o0)])) _
  refine XS.astoreN X1.here hx rfl (hb hby d1_7) rfl rfl (l' := #[.val (.ref o0), .val (.ref b1), .val (.ref o0), .unset, .unset, .unset]) rfl ?_
  show Steps p.tables e below (T1.setTop (mkF m 8 #[.val (.ref o0), .val (.ref b1), .val (.ref o0), .unset, .unset, .unset] [])) _
  refine XS.aloadN X1.here hx rfl (hb hby d1_8) rfl rfl ?_
  show Steps p.tables e below (T1.setTop (mkF m 9 #[.val (.ref o0), .val (.ref b1), .val (.ref o0), .unset, .unset, .unset] [(.ref o0)])) _
  refine own_len X1 hx hZ e1 A1_o0 rfl rfl (hb hby d1_9) ?_
  show Steps p.tables e below (T1.setTop (mkF m 10 #[.val (.ref o0), .val (.ref b1), .val (.ref o0), .unset, .unset, .unset] [(.int (1 : Int32))])) _
  refine XS.istoreN X1.here hx rfl (hb hby d1_10) rfl (l' := #[.val (.ref o0), .val (.ref b1), .val (.ref o0), .val (.int (1 : Int32)), .unset, .unset]) rfl ?_
  show Steps p.tables e below (T1.setTop (mkF m 11 #[.val (.ref o0), .val (.ref b1), .val (.ref o0), .val (.int (1 : Int32)), .unset, .unset] [])) _
  refine XS.iconst X1.here hx rfl (hb hby d1_11) ?_
  show Steps p.tables e below (T1.setTop (mkF m 12 #[.val (.ref o0), .val (.ref b1), .val (.ref o0), .val (.int (1 : Int32)), .unset, .unset] [(.int (0 : Int32))])) _
  refine XS.istore X1.here hx rfl (hb hby d1_12) rfl (l' := #[.val (.ref o0), .val (.ref b1), .val (.ref o0), .val (.int (1 : Int32)), .val (.int (0 : Int32)), .unset]) rfl ?_
  show Steps p.tables e below (T1.setTop (mkF m 14 #[.val (.ref o0), .val (.ref b1), .val (.ref o0), .val (.int (1 : Int32)), .val (.int (0 : Int32)), .unset] [])) _
  refine XS.iload X1.here hx rfl (hb hby d1_14) rfl ?_
  show Steps p.tables e below (T1.setTop (mkF m 16 #[.val (.ref o0), .val (.ref b1), .val (.ref o0), .val (.int (1 : Int32)), .val (.int (0 : Int32)), .unset] [(.int (0 : Int32))])) _
  refine XS.iloadN X1.here hx rfl (hb hby d1_16) rfl ?_
  show Steps p.tables e below (T1.setTop (mkF m 17 #[.val (.ref o0), .val (.ref b1), .val (.ref o0), .val (.int (1 : Int32)), .val (.int (0 : Int32)), .unset] [(.int (1 : Int32)), (.int (0 : Int32))])) _
  refine XS.icmpNo X1.here hx rfl (hb hby d1_17) rfl (tlt (by decide)).2.1 ?_
  show Steps p.tables e below (T1.setTop (mkF m 20 #[.val (.ref o0), .val (.ref b1), .val (.ref o0), .val (.int (1 : Int32)), .val (.int (0 : Int32)), .unset] [])) _
  refine XS.aloadN X1.here hx rfl (hb hby d1_20) rfl rfl ?_
  show Steps p.tables e below (T1.setTop (mkF m 21 #[.val (.ref o0), .val (.ref b1), .val (.ref o0), .val (.int (1 : Int32)), .val (.int (0 : Int32)), .unset] [(.ref o0)])) _
  refine XS.iload X1.here hx rfl (hb hby d1_21) rfl ?_
  show Steps p.tables e below (T1.setTop (mkF m 23 #[.val (.ref o0), .val (.ref b1), .val (.ref o0), .val (.int (1 : Int32)), .val (.int (0 : Int32)), .unset] [(.int (0 : Int32)), (.ref o0)])) _
  refine own_ldB X1 hx hZ e1 A1_o0 (j := (0 : Int32)) ⟨by decide, by decide⟩ rfl rfl (hb hby d1_23) ?_
  show Steps p.tables e below (T1.setTop (mkF m 24 #[.val (.ref o0), .val (.ref b1), .val (.ref o0), .val (.int (1 : Int32)), .val (.int (0 : Int32)), .unset] [(.int (f 0))])) _
  rw [hf0]
  show Steps p.tables e below (T1.setTop (mkF m 24 #[.val (.ref o0), .val (.ref b1), .val (.ref o0), .val (.int (1 : Int32)), .val (.int (0 : Int32)), .unset] [(.int d0)])) _
  refine XS.istore X1.here hx rfl (hb hby d1_24) rfl (l' := #[.val (.ref o0), .val (.ref b1), .val (.ref o0), .val (.int (1 : Int32)), .val (.int (0 : Int32)), .val (.int d0)]) rfl ?_
  show Steps p.tables e below (T1.setTop (mkF m 26 #[.val (.ref o0), .val (.ref b1), .val (.ref o0), .val (.int (1 : Int32)), .val (.int (0 : Int32)), .val (.int d0)] [])) _
  refine XS.aloadN X1.here hx rfl (hb hby d1_26) rfl rfl ?_
  show Steps p.tables e below (T1.setTop (mkF m 27 #[.val (.ref o0), .val (.ref b1), .val (.ref o0), .val (.int (1 : Int32)), .val (.int (0 : Int32)), .val (.int d0)] [(.ref b1)])) _
  refine XS.iload X1.here hx rfl (hb hby d1_27) rfl ?_
  show Steps p.tables e below (T1.setTop (mkF m 29 #[.val (.ref o0), .val (.ref b1), .val (.ref o0), .val (.int (1 : Int32)), .val (.int (0 : Int32)), .val (.int d0)] [(.int d0), (.ref b1)])) _
  refine XS.sipush X1.here hx rfl (hb hby d1_29) ?_
  show Steps p.tables e below (T1.setTop (mkF m 32 #[.val (.ref o0), .val (.ref b1), .val (.ref o0), .val (.int (1 : Int32)), .val (.int (0 : Int32)), .val (.int d0)] [(.int (255 : Int32)), (.int d0), (.ref b1)])) _
  refine XS.iand X1.here hx rfl (hb hby d1_32) rfl ?_
  show Steps p.tables e below (T1.setTop (mkF m 33 #[.val (.ref o0), .val (.ref b1), .val (.ref o0), .val (.int (1 : Int32)), .val (.int (0 : Int32)), .val (.int d0)] [(.int (d0 &&& (255 : Int32))), (.ref b1)])) _
  refine Jvm.Free.XT.dup2 X1.here hx rfl (hb hby d1_33) rfl rfl rfl ?_
  show Steps p.tables e below (T1.setTop (mkF m 34 #[.val (.ref o0), .val (.ref b1), .val (.ref o0), .val (.int (1 : Int32)), .val (.int (0 : Int32)), .val (.int d0)] [(.int (d0 &&& (255 : Int32))), (.ref b1), (.int (d0 &&& (255 : Int32))), (.ref b1)])) _
  refine own_ldI X1 hx hZ e1 A1 (j := (d0 &&& (255 : Int32))) (own_255 d0) rfl rfl (hb hby d1_34) ?_
  show Steps p.tables e below (T1.setTop (mkF m 35 #[.val (.ref o0), .val (.ref b1), .val (.ref o0), .val (.int (1 : Int32)), .val (.int (0 : Int32)), .val (.int d0)] [(.int ((fun _ => 0) ((d0 &&& (255 : Int32))).toNatClampNeg)), (.int (d0 &&& (255 : Int32))), (.ref b1)])) _
  refine XS.iconst X1.here hx rfl (hb hby d1_35) ?_
  show Steps p.tables e below (T1.setTop (mkF m 36 #[.val (.ref o0), .val (.ref b1), .val (.ref o0), .val (.int (1 : Int32)), .val (.int (0 : Int32)), .val (.int d0)] [(.int (1 : Int32)), (.int ((fun _ => 0) ((d0 &&& (255 : Int32))).toNatClampNeg)), (.int (d0 &&& (255 : Int32))), (.ref b1)])) _
  refine XS.iadd X1.here hx rfl (hb hby d1_36) rfl ?_
  show Steps p.tables e below (T1.setTop (mkF m 37 #[.val (.ref o0), .val (.ref b1), .val (.ref o0), .val (.int (1 : Int32)), .val (.int (0 : Int32)), .val (.int d0)] [(.int (((fun _ => 0) ((d0 &&& (255 : Int32))).toNatClampNeg) + (1 : Int32))), (.int (d0 &&& (255 : Int32))), (.ref b1)])) _
  refine st2 _ ?_
  show Steps p.tables e below (T2.setTop (mkF m 38 #[.val (.ref o0), .val (.ref b1), .val (.ref o0), .val (.int (1 : Int32)), .val (.int (0 : Int32)), .val (.int d0)] [])) _
  refine XS.iinc X2.here hx rfl (hb hby d1_38) rfl (l' := #[.val (.ref o0), .val (.ref b1), .val (.ref o0), .val (.int (1 : Int32)), .val (.int ((0 : Int32) + (1 : Int32))), .val (.int d0)]) rfl ?_
  show Steps p.tables e below (T2.setTop (mkF m 41 #[.val (.ref o0), .val (.ref b1), .val (.ref o0), .val (.int (1 : Int32)), .val (.int (1 : Int32)), .val (.int d0)] [])) _
  refine XS.goto X2.here hx rfl (pc0 := 41) (pc' := 14) rfl (hb hby d1_41) (by decide) (by decide) ?_
  show Steps p.tables e below (T2.setTop (mkF m 14 #[.val (.ref o0), .val (.ref b1), .val (.ref o0), .val (.int (1 : Int32)), .val (.int (1 : Int32)), .val (.int d0)] [])) _
  refine XS.iload X2.here hx rfl (hb hby d1_14) rfl ?_
  show Steps p.tables e below (T2.setTop (mkF m 16 #[.val (.ref o0), .val (.ref b1), .val (.ref o0), .val (.int (1 : Int32)), .val (.int (1 : Int32)), .val (.int d0)] [(.int (1 : Int32))])) _
  refine XS.iloadN X2.here hx rfl (hb hby d1_16) rfl ?_
  show Steps p.tables e below (T2.setTop (mkF m 17 #[.val (.ref o0), .val (.ref b1), .val (.ref o0), .val (.int (1 : Int32)), .val (.int (1 : Int32)), .val (.int d0)] [(.int (1 : Int32)), (.int (1 : Int32))])) _
  refine XS.icmpYes X2.here hx rfl (pc0 := 17) (pc' := 44) rfl (hb hby d1_17) rfl (flt (Int32.lt_irrefl)).2.1 (by decide) (by decide) ?_
  show Steps p.tables e below (T2.setTop (mkF m 44 #[.val (.ref o0), .val (.ref b1), .val (.ref o0), .val (.int (1 : Int32)), .val (.int (1 : Int32)), .val (.int d0)] [])) _
  refine XS.aloadN X2.here hx rfl (hb hby d1_44) rfl rfl ?_
  show Steps p.tables e below (T2.setTop (mkF m 45 #[.val (.ref o0), .val (.ref b1), .val (.ref o0), .val (.int (1 : Int32)), .val (.int (1 : Int32)), .val (.int d0)] [(.ref b1)])) _
  exact retOut X2 hx Bd.returns rfl (Or.inr (Or.inr (Or.inr (Or.inr ⟨rfl, rfl, rfl⟩)))) (hb hby d1_45) hr
def Q1_2 (Z : State) (o0 : Addr) (f : Nat → Int32) (d0 : Int32) (d1 : Int32) (h0 : Heap) (n0 : Nat) (v : Option Value) (h : Heap) (L : List Loc) : Prop := (∃ bb, v = some (.ref bb) ∧ h0.size ≤ bb ∧ own_AI Z h bb .int (256 : Int32) (own_inc (own_inc (fun _ => 0) d0) d1)) ∧ Fr n0 L ∧ Keep h0 h []
set_option maxRecDepth 65536 in
set_option maxHeartbeats 40000000 in
theorem rm1_2 (l : Launch) (Z : State) (a0 : Array Value) (hw : ∀ d ∈ tables_1, d.before a0 Z = true) (ws : List Jvm.Cond) (o0 : Addr) (f : Nat → Int32) (d0 : Int32) (d1 : Int32) (h0 : Heap) (n0 : Nat) (Z0 : n0 ≤ h0.size) (A0 : own_AI Z h0 o0 .byte (2 : Int32) f) (hf0 : f 0 = d0) (hf1 : f 1 = d1) :
    MetFree l (⟨"com/example/fewbits/fewbits/HuffmanCode", "countBytes", "([B)[I"⟩ : MethodName) (head1 (Jvm.Cond.code (⟨"com/example/fewbits/fewbits/HuffmanCode", "countBytes", "([B)[I"⟩ : MethodName) prog_6_method_5_code 6 (some (.array .int)) :: ws) ({ frames := 0, cells := 1, slots := 256, locals := 0 } : Room)) (fun a_ U_ => a_ = #[(.ref o0)] ∧ Z.Warmed39 U_.vm ∧ U_.heap = h0) (fun _ _ _ _ _ => True) (fun _ U_ o_ U' => ∃ v_ L_, o_ = .returned v_ ∧ (Q1_2 Z o0 f d0 d1 h0 n0 v_ U'.heap L_) ∧ FrameEnd U_ o_ U' L_ ({ frames := 0, cells := 1, slots := 256, locals := 0 } : Room).cells ({ frames := 0, cells := 1, slots := 256, locals := 0 } : Room).slots) := by
  refine MetFree.of_bodySF (plainFor_of_name pn_1) hisR ?_
  intro p e s m args below meth c s₁ Bd hml0 hP hK
  obtain ⟨rfl, hZ, hh⟩ := hP
  have hx := Bd.exec
  have hby := Bd.bytes
  have hml : c.maxLocals = 6 := hml0
  have hown : s.vm.findClass "com/example/fewbits/fewbits/HuffmanCode" = some m.cls := findClass_of_methodNamed Bd.named
  have hnm := (name_of_methodNamed Bd.named Bd.method).1
  have X0 : Stand p l e ({ frames := 0, cells := 1, slots := 256, locals := 0 } : Room) s m #[(.ref o0)] below meth c s₁ [] 0 0 := Stand.of_body Bd
  have e0 : s₁.heap = h0 := by rw [← hh, Bd.state]; rfl
  have N0 := Fr.nil n0
  have pre0 : ∀ t, Steps p.tables e below (s₁.setTop (mkF m 0 #[.val (.ref o0), .unset, .unset, .unset, .unset, .unset] [])) t → Steps p.tables e below (s₁.setTop (entryFrame m #[(.ref o0)] 6)) t := fun t k => castTop (ef_1 m o0) k
  obtain ⟨T1, h1, X1, e1, E1, A1, st1⟩ := own_newI X0 hx hZ (hw _ (List.mem_of_getElem? (i := 6) rfl)) rfl e0 (g := (mkF m 3 #[.val (.ref o0), .unset, .unset, .unset, .unset, .unset] [(.int (256 : Int32))])) rfl (hb hby d1_3) rfl (by decide) (cap := 256) (by decide) (by decide) (by decide) (by decide)
  obtain ⟨b1, g1⟩ : ∃ z, z = h0.size := ⟨_, rfl⟩
  rw [← g1] at A1 st1
  have f_b1 : n0 ≤ b1 := Nat.le_trans Z0 (Nat.le_of_eq g1.symm)
  have s_b1 : h0.size ≤ b1 := Nat.le_trans (Keep.refl h0 []).1 (Nat.le_of_eq g1.symm)
  have K1 : Keep h0 h1 [] := (Keep.refl h0 []).ext E1
  have ne_o0_b1 : o0 ≠ b1 := Nat.ne_of_lt (Nat.lt_of_lt_of_le A0.lt (Nat.le_of_eq g1.symm))
  have A1_o0 := A0.ext E1
  have Z1 : n0 ≤ h1.size := Nat.le_trans Z0 E1.1
  obtain ⟨T2, h2, X2, e2, W2, A2, st2⟩ := own_stI X1 hx hZ e1 A1 (j := (d0 &&& (255 : Int32))) (own_255 d0) (g := (mkF m 37 #[.val (.ref o0), .val (.ref b1), .val (.ref o0), .val (.int (2 : Int32)), .val (.int (0 : Int32)), .val (.int d0)] [(.int (((fun _ => 0) ((d0 &&& (255 : Int32))).toNatClampNeg) + (1 : Int32))), (.int (d0 &&& (255 : Int32))), (.ref b1)])) rfl rfl (hb hby d1_37)
  have N2 := Fr.snoc X2 N0 f_b1
  have K2 : Keep h0 h2 [] := K1.wr W2 (Or.inr s_b1)
  have A2_o0 := A1_o0.other W2 ne_o0_b1
  have Z2 : n0 ≤ h2.size := Nat.le_trans Z1 (Nat.le_of_eq (W2.size).symm)
  have V0 : own_AI Z h2 b1 .int (256 : Int32) (own_inc (fun _ => 0) d0) := A2
  obtain ⟨T3, h3, X3, e3, W3, A3, st3⟩ := own_stI X2 hx hZ e2 V0 (j := (d1 &&& (255 : Int32))) (own_255 d1) (g := (mkF m 37 #[.val (.ref o0), .val (.ref b1), .val (.ref o0), .val (.int (2 : Int32)), .val (.int (1 : Int32)), .val (.int d1)] [(.int (((own_inc (fun _ => 0) d0) ((d1 &&& (255 : Int32))).toNatClampNeg) + (1 : Int32))), (.int (d1 &&& (255 : Int32))), (.ref b1)])) rfl rfl (hb hby d1_37)
  have N3 := Fr.snoc X3 N2 f_b1
  have K3 : Keep h0 h3 [] := K2.wr W3 (Or.inr s_b1)
  have A3_o0 := A2_o0.other W3 ne_o0_b1
  have Z3 : n0 ≤ h3.size := Nat.le_trans Z2 (Nat.le_of_eq (W3.size).symm)
  have V1 : own_AI Z h3 b1 .int (256 : Int32) (own_inc (own_inc (fun _ => 0) d0) d1) := A3
  obtain ⟨fs, hr, hrun, hended, hW, hsame⟩ := X3.leave (v := some (.ref b1)) (fun h => by rw [Bd.returns] at h; cases h)
  refine ⟨_, _, pre0 _ ?_, hrun, hended, _, _, rfl, ⟨⟨_, rfl, s_b1, (by show own_AI Z T3.heap _ _ _ _; rw [e3]; exact V1)⟩, N3, (by show Keep h0 T3.heap []; rw [e3]; exact K3)⟩, ⟨_, rfl⟩, hW, hsame.mono (by decide) (by decide)⟩
  show Steps p.tables e below (s₁.setTop (mkF m 0 #[.val (.ref o0), .unset, .unset, .unset, .unset, .unset] [])) _
  refine XS.sipush X0.here hx rfl (hb hby d1_0) ?_
  show Steps p.tables e below (s₁.setTop (mkF m 3 #[.val (.ref o0), .unset, .unset, .unset, .unset, .unset] [(.int (256 : Int32))])) _
  refine st1 _ ?_
  show Steps p.tables e below (T1.setTop (mkF m 5 #[.val (.ref o0), .unset, .unset, .unset, .unset, .unset] [(.ref b1)])) _
  refine XS.astoreN X1.here hx rfl (hb hby d1_5) rfl rfl (l' := #[.val (.ref o0), .val (.ref b1), .unset, .unset, .unset, .unset]) rfl ?_
  show Steps p.tables e below (T1.setTop (mkF m 6 #[.val (.ref o0), .val (.ref b1), .unset, .unset, .unset, .unset] [])) _
  refine XS.aloadN X1.here hx rfl (hb hby d1_6) rfl rfl ?_
  show Steps p.tables e below (T1.setTop (mkF m 7 #[.val (.ref o0), .val (.ref b1), .unset, .unset, .unset, .unset] [(.ref o0)])) _
  refine XS.astoreN X1.here hx rfl (hb hby d1_7) rfl rfl (l' := #[.val (.ref o0), .val (.ref b1), .val (.ref o0), .unset, .unset, .unset]) rfl ?_
  show Steps p.tables e below (T1.setTop (mkF m 8 #[.val (.ref o0), .val (.ref b1), .val (.ref o0), .unset, .unset, .unset] [])) _
  refine XS.aloadN X1.here hx rfl (hb hby d1_8) rfl rfl ?_
  show Steps p.tables e below (T1.setTop (mkF m 9 #[.val (.ref o0), .val (.ref b1), .val (.ref o0), .unset, .unset, .unset] [(.ref o0)])) _
  refine own_len X1 hx hZ e1 A1_o0 rfl rfl (hb hby d1_9) ?_
  show Steps p.tables e below (T1.setTop (mkF m 10 #[.val (.ref o0), .val (.ref b1), .val (.ref o0), .unset, .unset, .unset] [(.int (2 : Int32))])) _
  refine XS.istoreN X1.here hx rfl (hb hby d1_10) rfl (l' := #[.val (.ref o0), .val (.ref b1), .val (.ref o0), .val (.int (2 : Int32)), .unset, .unset]) rfl ?_
  show Steps p.tables e below (T1.setTop (mkF m 11 #[.val (.ref o0), .val (.ref b1), .val (.ref o0), .val (.int (2 : Int32)), .unset, .unset] [])) _
  refine XS.iconst X1.here hx rfl (hb hby d1_11) ?_
  show Steps p.tables e below (T1.setTop (mkF m 12 #[.val (.ref o0), .val (.ref b1), .val (.ref o0), .val (.int (2 : Int32)), .unset, .unset] [(.int (0 : Int32))])) _
  refine XS.istore X1.here hx rfl (hb hby d1_12) rfl (l' := #[.val (.ref o0), .val (.ref b1), .val (.ref o0), .val (.int (2 : Int32)), .val (.int (0 : Int32)), .unset]) rfl ?_
  show Steps p.tables e below (T1.setTop (mkF m 14 #[.val (.ref o0), .val (.ref b1), .val (.ref o0), .val (.int (2 : Int32)), .val (.int (0 : Int32)), .unset] [])) _
  refine XS.iload X1.here hx rfl (hb hby d1_14) rfl ?_
  show Steps p.tables e below (T1.setTop (mkF m 16 #[.val (.ref o0), .val (.ref b1), .val (.ref o0), .val (.int (2 : Int32)), .val (.int (0 : Int32)), .unset] [(.int (0 : Int32))])) _
  refine XS.iloadN X1.here hx rfl (hb hby d1_16) rfl ?_
  show Steps p.tables e below (T1.setTop (mkF m 17 #[.val (.ref o0), .val (.ref b1), .val (.ref o0), .val (.int (2 : Int32)), .val (.int (0 : Int32)), .unset] [(.int (2 : Int32)), (.int (0 : Int32))])) _
  refine XS.icmpNo X1.here hx rfl (hb hby d1_17) rfl (tlt (by decide)).2.1 ?_
  show Steps p.tables e below (T1.setTop (mkF m 20 #[.val (.ref o0), .val (.ref b1), .val (.ref o0), .val (.int (2 : Int32)), .val (.int (0 : Int32)), .unset] [])) _
  refine XS.aloadN X1.here hx rfl (hb hby d1_20) rfl rfl ?_
  show Steps p.tables e below (T1.setTop (mkF m 21 #[.val (.ref o0), .val (.ref b1), .val (.ref o0), .val (.int (2 : Int32)), .val (.int (0 : Int32)), .unset] [(.ref o0)])) _
  refine XS.iload X1.here hx rfl (hb hby d1_21) rfl ?_
  show Steps p.tables e below (T1.setTop (mkF m 23 #[.val (.ref o0), .val (.ref b1), .val (.ref o0), .val (.int (2 : Int32)), .val (.int (0 : Int32)), .unset] [(.int (0 : Int32)), (.ref o0)])) _
  refine own_ldB X1 hx hZ e1 A1_o0 (j := (0 : Int32)) ⟨by decide, by decide⟩ rfl rfl (hb hby d1_23) ?_
  show Steps p.tables e below (T1.setTop (mkF m 24 #[.val (.ref o0), .val (.ref b1), .val (.ref o0), .val (.int (2 : Int32)), .val (.int (0 : Int32)), .unset] [(.int (f 0))])) _
  rw [hf0]
  show Steps p.tables e below (T1.setTop (mkF m 24 #[.val (.ref o0), .val (.ref b1), .val (.ref o0), .val (.int (2 : Int32)), .val (.int (0 : Int32)), .unset] [(.int d0)])) _
  refine XS.istore X1.here hx rfl (hb hby d1_24) rfl (l' := #[.val (.ref o0), .val (.ref b1), .val (.ref o0), .val (.int (2 : Int32)), .val (.int (0 : Int32)), .val (.int d0)]) rfl ?_
  show Steps p.tables e below (T1.setTop (mkF m 26 #[.val (.ref o0), .val (.ref b1), .val (.ref o0), .val (.int (2 : Int32)), .val (.int (0 : Int32)), .val (.int d0)] [])) _
  refine XS.aloadN X1.here hx rfl (hb hby d1_26) rfl rfl ?_
  show Steps p.tables e below (T1.setTop (mkF m 27 #[.val (.ref o0), .val (.ref b1), .val (.ref o0), .val (.int (2 : Int32)), .val (.int (0 : Int32)), .val (.int d0)] [(.ref b1)])) _
  refine XS.iload X1.here hx rfl (hb hby d1_27) rfl ?_
  show Steps p.tables e below (T1.setTop (mkF m 29 #[.val (.ref o0), .val (.ref b1), .val (.ref o0), .val (.int (2 : Int32)), .val (.int (0 : Int32)), .val (.int d0)] [(.int d0), (.ref b1)])) _
  refine XS.sipush X1.here hx rfl (hb hby d1_29) ?_
  show Steps p.tables e below (T1.setTop (mkF m 32 #[.val (.ref o0), .val (.ref b1), .val (.ref o0), .val (.int (2 : Int32)), .val (.int (0 : Int32)), .val (.int d0)] [(.int (255 : Int32)), (.int d0), (.ref b1)])) _
  refine XS.iand X1.here hx rfl (hb hby d1_32) rfl ?_
  show Steps p.tables e below (T1.setTop (mkF m 33 #[.val (.ref o0), .val (.ref b1), .val (.ref o0), .val (.int (2 : Int32)), .val (.int (0 : Int32)), .val (.int d0)] [(.int (d0 &&& (255 : Int32))), (.ref b1)])) _
  refine Jvm.Free.XT.dup2 X1.here hx rfl (hb hby d1_33) rfl rfl rfl ?_
  show Steps p.tables e below (T1.setTop (mkF m 34 #[.val (.ref o0), .val (.ref b1), .val (.ref o0), .val (.int (2 : Int32)), .val (.int (0 : Int32)), .val (.int d0)] [(.int (d0 &&& (255 : Int32))), (.ref b1), (.int (d0 &&& (255 : Int32))), (.ref b1)])) _
  refine own_ldI X1 hx hZ e1 A1 (j := (d0 &&& (255 : Int32))) (own_255 d0) rfl rfl (hb hby d1_34) ?_
  show Steps p.tables e below (T1.setTop (mkF m 35 #[.val (.ref o0), .val (.ref b1), .val (.ref o0), .val (.int (2 : Int32)), .val (.int (0 : Int32)), .val (.int d0)] [(.int ((fun _ => 0) ((d0 &&& (255 : Int32))).toNatClampNeg)), (.int (d0 &&& (255 : Int32))), (.ref b1)])) _
  refine XS.iconst X1.here hx rfl (hb hby d1_35) ?_
  show Steps p.tables e below (T1.setTop (mkF m 36 #[.val (.ref o0), .val (.ref b1), .val (.ref o0), .val (.int (2 : Int32)), .val (.int (0 : Int32)), .val (.int d0)] [(.int (1 : Int32)), (.int ((fun _ => 0) ((d0 &&& (255 : Int32))).toNatClampNeg)), (.int (d0 &&& (255 : Int32))), (.ref b1)])) _
  refine XS.iadd X1.here hx rfl (hb hby d1_36) rfl ?_
  show Steps p.tables e below (T1.setTop (mkF m 37 #[.val (.ref o0), .val (.ref b1), .val (.ref o0), .val (.int (2 : Int32)), .val (.int (0 : Int32)), .val (.int d0)] [(.int (((fun _ => 0) ((d0 &&& (255 : Int32))).toNatClampNeg) + (1 : Int32))), (.int (d0 &&& (255 : Int32))), (.ref b1)])) _
  refine st2 _ ?_
  show Steps p.tables e below (T2.setTop (mkF m 38 #[.val (.ref o0), .val (.ref b1), .val (.ref o0), .val (.int (2 : Int32)), .val (.int (0 : Int32)), .val (.int d0)] [])) _
  refine XS.iinc X2.here hx rfl (hb hby d1_38) rfl (l' := #[.val (.ref o0), .val (.ref b1), .val (.ref o0), .val (.int (2 : Int32)), .val (.int ((0 : Int32) + (1 : Int32))), .val (.int d0)]) rfl ?_
  show Steps p.tables e below (T2.setTop (mkF m 41 #[.val (.ref o0), .val (.ref b1), .val (.ref o0), .val (.int (2 : Int32)), .val (.int (1 : Int32)), .val (.int d0)] [])) _
  refine XS.goto X2.here hx rfl (pc0 := 41) (pc' := 14) rfl (hb hby d1_41) (by decide) (by decide) ?_
  show Steps p.tables e below (T2.setTop (mkF m 14 #[.val (.ref o0), .val (.ref b1), .val (.ref o0), .val (.int (2 : Int32)), .val (.int (1 : Int32)), .val (.int d0)] [])) _
  refine XS.iload X2.here hx rfl (hb hby d1_14) rfl ?_
  show Steps p.tables e below (T2.setTop (mkF m 16 #[.val (.ref o0), .val (.ref b1), .val (.ref o0), .val (.int (2 : Int32)), .val (.int (1 : Int32)), .val (.int d0)] [(.int (1 : Int32))])) _
  refine XS.iloadN X2.here hx rfl (hb hby d1_16) rfl ?_
  show Steps p.tables e below (T2.setTop (mkF m 17 #[.val (.ref o0), .val (.ref b1), .val (.ref o0), .val (.int (2 : Int32)), .val (.int (1 : Int32)), .val (.int d0)] [(.int (2 : Int32)), (.int (1 : Int32))])) _
  refine XS.icmpNo X2.here hx rfl (hb hby d1_17) rfl (tlt (by decide)).2.1 ?_
  show Steps p.tables e below (T2.setTop (mkF m 20 #[.val (.ref o0), .val (.ref b1), .val (.ref o0), .val (.int (2 : Int32)), .val (.int (1 : Int32)), .val (.int d0)] [])) _
  refine XS.aloadN X2.here hx rfl (hb hby d1_20) rfl rfl ?_
  show Steps p.tables e below (T2.setTop (mkF m 21 #[.val (.ref o0), .val (.ref b1), .val (.ref o0), .val (.int (2 : Int32)), .val (.int (1 : Int32)), .val (.int d0)] [(.ref o0)])) _
  refine XS.iload X2.here hx rfl (hb hby d1_21) rfl ?_
  show Steps p.tables e below (T2.setTop (mkF m 23 #[.val (.ref o0), .val (.ref b1), .val (.ref o0), .val (.int (2 : Int32)), .val (.int (1 : Int32)), .val (.int d0)] [(.int (1 : Int32)), (.ref o0)])) _
  refine own_ldB X2 hx hZ e2 A2_o0 (j := (1 : Int32)) ⟨by decide, by decide⟩ rfl rfl (hb hby d1_23) ?_
  show Steps p.tables e below (T2.setTop (mkF m 24 #[.val (.ref o0), .val (.ref b1), .val (.ref o0), .val (.int (2 : Int32)), .val (.int (1 : Int32)), .val (.int d0)] [(.int (f 1))])) _
  rw [hf1]
  show Steps p.tables e below (T2.setTop (mkF m 24 #[.val (.ref o0), .val (.ref b1), .val (.ref o0), .val (.int (2 : Int32)), .val (.int (1 : Int32)), .val (.int d0)] [(.int d1)])) _
  refine XS.istore X2.here hx rfl (hb hby d1_24) rfl (l' := #[.val (.ref o0), .val (.ref b1), .val (.ref o0), .val (.int (2 : Int32)), .val (.int (1 : Int32)), .val (.int d1)]) rfl ?_
  show Steps p.tables e below (T2.setTop (mkF m 26 #[.val (.ref o0), .val (.ref b1), .val (.ref o0), .val (.int (2 : Int32)), .val (.int (1 : Int32)), .val (.int d1)] [])) _
  refine XS.aloadN X2.here hx rfl (hb hby d1_26) rfl rfl ?_
  show Steps p.tables e below (T2.setTop (mkF m 27 #[.val (.ref o0), .val (.ref b1), .val (.ref o0), .val (.int (2 : Int32)), .val (.int (1 : Int32)), .val (.int d1)] [(.ref b1)])) _
  refine XS.iload X2.here hx rfl (hb hby d1_27) rfl ?_
  show Steps p.tables e below (T2.setTop (mkF m 29 #[.val (.ref o0), .val (.ref b1), .val (.ref o0), .val (.int (2 : Int32)), .val (.int (1 : Int32)), .val (.int d1)] [(.int d1), (.ref b1)])) _
  refine XS.sipush X2.here hx rfl (hb hby d1_29) ?_
  show Steps p.tables e below (T2.setTop (mkF m 32 #[.val (.ref o0), .val (.ref b1), .val (.ref o0), .val (.int (2 : Int32)), .val (.int (1 : Int32)), .val (.int d1)] [(.int (255 : Int32)), (.int d1), (.ref b1)])) _
  refine XS.iand X2.here hx rfl (hb hby d1_32) rfl ?_
  show Steps p.tables e below (T2.setTop (mkF m 33 #[.val (.ref o0), .val (.ref b1), .val (.ref o0), .val (.int (2 : Int32)), .val (.int (1 : Int32)), .val (.int d1)] [(.int (d1 &&& (255 : Int32))), (.ref b1)])) _
  refine Jvm.Free.XT.dup2 X2.here hx rfl (hb hby d1_33) rfl rfl rfl ?_
  show Steps p.tables e below (T2.setTop (mkF m 34 #[.val (.ref o0), .val (.ref b1), .val (.ref o0), .val (.int (2 : Int32)), .val (.int (1 : Int32)), .val (.int d1)] [(.int (d1 &&& (255 : Int32))), (.ref b1), (.int (d1 &&& (255 : Int32))), (.ref b1)])) _
  refine own_ldI X2 hx hZ e2 V0 (j := (d1 &&& (255 : Int32))) (own_255 d1) rfl rfl (hb hby d1_34) ?_
  show Steps p.tables e below (T2.setTop (mkF m 35 #[.val (.ref o0), .val (.ref b1), .val (.ref o0), .val (.int (2 : Int32)), .val (.int (1 : Int32)), .val (.int d1)] [(.int ((own_inc (fun _ => 0) d0) ((d1 &&& (255 : Int32))).toNatClampNeg)), (.int (d1 &&& (255 : Int32))), (.ref b1)])) _
  refine XS.iconst X2.here hx rfl (hb hby d1_35) ?_
  show Steps p.tables e below (T2.setTop (mkF m 36 #[.val (.ref o0), .val (.ref b1), .val (.ref o0), .val (.int (2 : Int32)), .val (.int (1 : Int32)), .val (.int d1)] [(.int (1 : Int32)), (.int ((own_inc (fun _ => 0) d0) ((d1 &&& (255 : Int32))).toNatClampNeg)), (.int (d1 &&& (255 : Int32))), (.ref b1)])) _
  refine XS.iadd X2.here hx rfl (hb hby d1_36) rfl ?_
  show Steps p.tables e below (T2.setTop (mkF m 37 #[.val (.ref o0), .val (.ref b1), .val (.ref o0), .val (.int (2 : Int32)), .val (.int (1 : Int32)), .val (.int d1)] [(.int (((own_inc (fun _ => 0) d0) ((d1 &&& (255 : Int32))).toNatClampNeg) + (1 : Int32))), (.int (d1 &&& (255 : Int32))), (.ref b1)])) _
  refine st3 _ ?_
  show Steps p.tables e below (T3.setTop (mkF m 38 #[.val (.ref o0), .val (.ref b1), .val (.ref o0), .val (.int (2 : Int32)), .val (.int (1 : Int32)), .val (.int d1)] [])) _
  refine XS.iinc X3.here hx rfl (hb hby d1_38) rfl (l' := #[.val (.ref o0), .val (.ref b1), .val (.ref o0), .val (.int (2 : Int32)), .val (.int ((1 : Int32) + (1 : Int32))), .val (.int d1)]) rfl ?_
  show Steps p.tables e below (T3.setTop (mkF m 41 #[.val (.ref o0), .val (.ref b1), .val (.ref o0), .val (.int (2 : Int32)), .val (.int (2 : Int32)), .val (.int d1)] [])) _
  refine XS.goto X3.here hx rfl (pc0 := 41) (pc' := 14) rfl (hb hby d1_41) (by decide) (by decide) ?_
  show Steps p.tables e below (T3.setTop (mkF m 14 #[.val (.ref o0), .val (.ref b1), .val (.ref o0), .val (.int (2 : Int32)), .val (.int (2 : Int32)), .val (.int d1)] [])) _
  refine XS.iload X3.here hx rfl (hb hby d1_14) rfl ?_
  show Steps p.tables e below (T3.setTop (mkF m 16 #[.val (.ref o0), .val (.ref b1), .val (.ref o0), .val (.int (2 : Int32)), .val (.int (2 : Int32)), .val (.int d1)] [(.int (2 : Int32))])) _
  refine XS.iloadN X3.here hx rfl (hb hby d1_16) rfl ?_
  show Steps p.tables e below (T3.setTop (mkF m 17 #[.val (.ref o0), .val (.ref b1), .val (.ref o0), .val (.int (2 : Int32)), .val (.int (2 : Int32)), .val (.int d1)] [(.int (2 : Int32)), (.int (2 : Int32))])) _
  refine XS.icmpYes X3.here hx rfl (pc0 := 17) (pc' := 44) rfl (hb hby d1_17) rfl (flt (Int32.lt_irrefl)).2.1 (by decide) (by decide) ?_
  show Steps p.tables e below (T3.setTop (mkF m 44 #[.val (.ref o0), .val (.ref b1), .val (.ref o0), .val (.int (2 : Int32)), .val (.int (2 : Int32)), .val (.int d1)] [])) _
  refine XS.aloadN X3.here hx rfl (hb hby d1_44) rfl rfl ?_
  show Steps p.tables e below (T3.setTop (mkF m 45 #[.val (.ref o0), .val (.ref b1), .val (.ref o0), .val (.int (2 : Int32)), .val (.int (2 : Int32)), .val (.int d1)] [(.ref b1)])) _
  exact retOut X3 hx Bd.returns rfl (Or.inr (Or.inr (Or.inr (Or.inr ⟨rfl, rfl, rfl⟩)))) (hb hby d1_45) hr
def Q1_3 (Z : State) (o0 : Addr) (f : Nat → Int32) (d0 : Int32) (d1 : Int32) (d2 : Int32) (h0 : Heap) (n0 : Nat) (v : Option Value) (h : Heap) (L : List Loc) : Prop := (∃ bb, v = some (.ref bb) ∧ h0.size ≤ bb ∧ own_AI Z h bb .int (256 : Int32) (own_inc (own_inc (own_inc (fun _ => 0) d0) d1) d2)) ∧ Fr n0 L ∧ Keep h0 h []
set_option maxRecDepth 65536 in
set_option maxHeartbeats 40000000 in
theorem rm1_3 (l : Launch) (Z : State) (a0 : Array Value) (hw : ∀ d ∈ tables_1, d.before a0 Z = true) (ws : List Jvm.Cond) (o0 : Addr) (f : Nat → Int32) (d0 : Int32) (d1 : Int32) (d2 : Int32) (h0 : Heap) (n0 : Nat) (Z0 : n0 ≤ h0.size) (A0 : own_AI Z h0 o0 .byte (3 : Int32) f) (hf0 : f 0 = d0) (hf1 : f 1 = d1) (hf2 : f 2 = d2) :
    MetFree l (⟨"com/example/fewbits/fewbits/HuffmanCode", "countBytes", "([B)[I"⟩ : MethodName) (head1 (Jvm.Cond.code (⟨"com/example/fewbits/fewbits/HuffmanCode", "countBytes", "([B)[I"⟩ : MethodName) prog_6_method_5_code 6 (some (.array .int)) :: ws) ({ frames := 0, cells := 1, slots := 256, locals := 0 } : Room)) (fun a_ U_ => a_ = #[(.ref o0)] ∧ Z.Warmed39 U_.vm ∧ U_.heap = h0) (fun _ _ _ _ _ => True) (fun _ U_ o_ U' => ∃ v_ L_, o_ = .returned v_ ∧ (Q1_3 Z o0 f d0 d1 d2 h0 n0 v_ U'.heap L_) ∧ FrameEnd U_ o_ U' L_ ({ frames := 0, cells := 1, slots := 256, locals := 0 } : Room).cells ({ frames := 0, cells := 1, slots := 256, locals := 0 } : Room).slots) := by
  refine MetFree.of_bodySF (plainFor_of_name pn_1) hisR ?_
  intro p e s m args below meth c s₁ Bd hml0 hP hK
  obtain ⟨rfl, hZ, hh⟩ := hP
  have hx := Bd.exec
  have hby := Bd.bytes
  have hml : c.maxLocals = 6 := hml0
  have hown : s.vm.findClass "com/example/fewbits/fewbits/HuffmanCode" = some m.cls := findClass_of_methodNamed Bd.named
  have hnm := (name_of_methodNamed Bd.named Bd.method).1
  have X0 : Stand p l e ({ frames := 0, cells := 1, slots := 256, locals := 0 } : Room) s m #[(.ref o0)] below meth c s₁ [] 0 0 := Stand.of_body Bd
  have e0 : s₁.heap = h0 := by rw [← hh, Bd.state]; rfl
  have N0 := Fr.nil n0
  have pre0 : ∀ t, Steps p.tables e below (s₁.setTop (mkF m 0 #[.val (.ref o0), .unset, .unset, .unset, .unset, .unset] [])) t → Steps p.tables e below (s₁.setTop (entryFrame m #[(.ref o0)] 6)) t := fun t k => castTop (ef_1 m o0) k
  obtain ⟨T1, h1, X1, e1, E1, A1, st1⟩ := own_newI X0 hx hZ (hw _ (List.mem_of_getElem? (i := 6) rfl)) rfl e0 (g := (mkF m 3 #[.val (.ref o0), .unset, .unset, .unset, .unset, .unset] [(.int (256 : Int32))])) rfl (hb hby d1_3) rfl (by decide) (cap := 256) (by decide) (by decide) (by decide) (by decide)
  obtain ⟨b1, g1⟩ : ∃ z, z = h0.size := ⟨_, rfl⟩
  rw [← g1] at A1 st1
  have f_b1 : n0 ≤ b1 := Nat.le_trans Z0 (Nat.le_of_eq g1.symm)
  have s_b1 : h0.size ≤ b1 := Nat.le_trans (Keep.refl h0 []).1 (Nat.le_of_eq g1.symm)
  have K1 : Keep h0 h1 [] := (Keep.refl h0 []).ext E1
  have ne_o0_b1 : o0 ≠ b1 := Nat.ne_of_lt (Nat.lt_of_lt_of_le A0.lt (Nat.le_of_eq g1.symm))
  have A1_o0 := A0.ext E1
  have Z1 : n0 ≤ h1.size := Nat.le_trans Z0 E1.1
  obtain ⟨T2, h2, X2, e2, W2, A2, st2⟩ := own_stI X1 hx hZ e1 A1 (j := (d0 &&& (255 : Int32))) (own_255 d0) (g := (mkF m 37 #[.val (.ref o0), .val (.ref b1), .val (.ref o0), .val (.int (3 : Int32)), .val (.int (0 : Int32)), .val (.int d0)] [(.int (((fun _ => 0) ((d0 &&& (255 : Int32))).toNatClampNeg) + (1 : Int32))), (.int (d0 &&& (255 : Int32))), (.ref b1)])) rfl rfl (hb hby d1_37)
  have N2 := Fr.snoc X2 N0 f_b1
  have K2 : Keep h0 h2 [] := K1.wr W2 (Or.inr s_b1)
  have A2_o0 := A1_o0.other W2 ne_o0_b1
  have Z2 : n0 ≤ h2.size := Nat.le_trans Z1 (Nat.le_of_eq (W2.size).symm)
  have V0 : own_AI Z h2 b1 .int (256 : Int32) (own_inc (fun _ => 0) d0) := A2
  obtain ⟨T3, h3, X3, e3, W3, A3, st3⟩ := own_stI X2 hx hZ e2 V0 (j := (d1 &&& (255 : Int32))) (own_255 d1) (g := (mkF m 37 #[.val (.ref o0), .val (.ref b1), .val (.ref o0), .val (.int (3 : Int32)), .val (.int (1 : Int32)), .val (.int d1)] [(.int (((own_inc (fun _ => 0) d0) ((d1 &&& (255 : Int32))).toNatClampNeg) + (1 : Int32))), (.int (d1 &&& (255 : Int32))), (.ref b1)])) rfl rfl (hb hby d1_37)
  have N3 := Fr.snoc X3 N2 f_b1
  have K3 : Keep h0 h3 [] := K2.wr W3 (Or.inr s_b1)
  have A3_o0 := A2_o0.other W3 ne_o0_b1
  have Z3 : n0 ≤ h3.size := Nat.le_trans Z2 (Nat.le_of_eq (W3.size).symm)
  have V1 : own_AI Z h3 b1 .int (256 : Int32) (own_inc (own_inc (fun _ => 0) d0) d1) := A3
  obtain ⟨T4, h4, X4, e4, W4, A4, st4⟩ := own_stI X3 hx hZ e3 V1 (j := (d2 &&& (255 : Int32))) (own_255 d2) (g := (mkF m 37 #[.val (.ref o0), .val (.ref b1), .val (.ref o0), .val (.int (3 : Int32)), .val (.int (2 : Int32)), .val (.int d2)] [(.int (((own_inc (own_inc (fun _ => 0) d0) d1) ((d2 &&& (255 : Int32))).toNatClampNeg) + (1 : Int32))), (.int (d2 &&& (255 : Int32))), (.ref b1)])) rfl rfl (hb hby d1_37)
  have N4 := Fr.snoc X4 N3 f_b1
  have K4 : Keep h0 h4 [] := K3.wr W4 (Or.inr s_b1)
  have A4_o0 := A3_o0.other W4 ne_o0_b1
  have Z4 : n0 ≤ h4.size := Nat.le_trans Z3 (Nat.le_of_eq (W4.size).symm)
  have V2 : own_AI Z h4 b1 .int (256 : Int32) (own_inc (own_inc (own_inc (fun _ => 0) d0) d1) d2) := A4
  obtain ⟨fs, hr, hrun, hended, hW, hsame⟩ := X4.leave (v := some (.ref b1)) (fun h => by rw [Bd.returns] at h; cases h)
  refine ⟨_, _, pre0 _ ?_, hrun, hended, _, _, rfl, ⟨⟨_, rfl, s_b1, (by show own_AI Z T4.heap _ _ _ _; rw [e4]; exact V2)⟩, N4, (by show Keep h0 T4.heap []; rw [e4]; exact K4)⟩, ⟨_, rfl⟩, hW, hsame.mono (by decide) (by decide)⟩
  show Steps p.tables e below (s₁.setTop (mkF m 0 #[.val (.ref o0), .unset, .unset, .unset, .unset, .unset] [])) _
  refine XS.sipush X0.here hx rfl (hb hby d1_0) ?_
  show Steps p.tables e below (s₁.setTop (mkF m 3 #[.val (.ref o0), .unset, .unset, .unset, .unset, .unset] [(.int (256 : Int32))])) _
  refine st1 _ ?_
  show Steps p.tables e below (T1.setTop (mkF m 5 #[.val (.ref o0), .unset, .unset, .unset, .unset, .unset] [(.ref b1)])) _
  refine XS.astoreN X1.here hx rfl (hb hby d1_5) rfl rfl (l' := #[.val (.ref o0), .val (.ref b1), .unset, .unset, .unset, .unset]) rfl ?_
  show Steps p.tables e below (T1.setTop (mkF m 6 #[.val (.ref o0), .val (.ref b1), .unset, .unset, .unset, .unset] [])) _
  refine XS.aloadN X1.here hx rfl (hb hby d1_6) rfl rfl ?_
  show Steps p.tables e below (T1.setTop (mkF m 7 #[.val (.ref o0), .val (.ref b1), .unset, .unset, .unset, .unset] [(.ref o0)])) _
  refine XS.astoreN X1.here hx rfl (hb hby d1_7) rfl rfl (l' := #[.val (.ref o0), .val (.ref b1), .val (.ref o0), .unset, .unset, .unset]) rfl ?_
  show Steps p.tables e below (T1.setTop (mkF m 8 #[.val (.ref o0), .val (.ref b1), .val (.ref o0), .unset, .unset, .unset] [])) _
  refine XS.aloadN X1.here hx rfl (hb hby d1_8) rfl rfl ?_
  show Steps p.tables e below (T1.setTop (mkF m 9 #[.val (.ref o0), .val (.ref b1), .val (.ref o0), .unset, .unset, .unset] [(.ref o0)])) _
  refine own_len X1 hx hZ e1 A1_o0 rfl rfl (hb hby d1_9) ?_
  show Steps p.tables e below (T1.setTop (mkF m 10 #[.val (.ref o0), .val (.ref b1), .val (.ref o0), .unset, .unset, .unset] [(.int (3 : Int32))])) _
  refine XS.istoreN X1.here hx rfl (hb hby d1_10) rfl (l' := #[.val (.ref o0), .val (.ref b1), .val (.ref o0), .val (.int (3 : Int32)), .unset, .unset]) rfl ?_
  show Steps p.tables e below (T1.setTop (mkF m 11 #[.val (.ref o0), .val (.ref b1), .val (.ref o0), .val (.int (3 : Int32)), .unset, .unset] [])) _
  refine XS.iconst X1.here hx rfl (hb hby d1_11) ?_
  show Steps p.tables e below (T1.setTop (mkF m 12 #[.val (.ref o0), .val (.ref b1), .val (.ref o0), .val (.int (3 : Int32)), .unset, .unset] [(.int (0 : Int32))])) _
  refine XS.istore X1.here hx rfl (hb hby d1_12) rfl (l' := #[.val (.ref o0), .val (.ref b1), .val (.ref o0), .val (.int (3 : Int32)), .val (.int (0 : Int32)), .unset]) rfl ?_
  show Steps p.tables e below (T1.setTop (mkF m 14 #[.val (.ref o0), .val (.ref b1), .val (.ref o0), .val (.int (3 : Int32)), .val (.int (0 : Int32)), .unset] [])) _
  refine XS.iload X1.here hx rfl (hb hby d1_14) rfl ?_
  show Steps p.tables e below (T1.setTop (mkF m 16 #[.val (.ref o0), .val (.ref b1), .val (.ref o0), .val (.int (3 : Int32)), .val (.int (0 : Int32)), .unset] [(.int (0 : Int32))])) _
  refine XS.iloadN X1.here hx rfl (hb hby d1_16) rfl ?_
  show Steps p.tables e below (T1.setTop (mkF m 17 #[.val (.ref o0), .val (.ref b1), .val (.ref o0), .val (.int (3 : Int32)), .val (.int (0 : Int32)), .unset] [(.int (3 : Int32)), (.int (0 : Int32))])) _
  refine XS.icmpNo X1.here hx rfl (hb hby d1_17) rfl (tlt (by decide)).2.1 ?_
  show Steps p.tables e below (T1.setTop (mkF m 20 #[.val (.ref o0), .val (.ref b1), .val (.ref o0), .val (.int (3 : Int32)), .val (.int (0 : Int32)), .unset] [])) _
  refine XS.aloadN X1.here hx rfl (hb hby d1_20) rfl rfl ?_
  show Steps p.tables e below (T1.setTop (mkF m 21 #[.val (.ref o0), .val (.ref b1), .val (.ref o0), .val (.int (3 : Int32)), .val (.int (0 : Int32)), .unset] [(.ref o0)])) _
  refine XS.iload X1.here hx rfl (hb hby d1_21) rfl ?_
  show Steps p.tables e below (T1.setTop (mkF m 23 #[.val (.ref o0), .val (.ref b1), .val (.ref o0), .val (.int (3 : Int32)), .val (.int (0 : Int32)), .unset] [(.int (0 : Int32)), (.ref o0)])) _
  refine own_ldB X1 hx hZ e1 A1_o0 (j := (0 : Int32)) ⟨by decide, by decide⟩ rfl rfl (hb hby d1_23) ?_
  show Steps p.tables e below (T1.setTop (mkF m 24 #[.val (.ref o0), .val (.ref b1), .val (.ref o0), .val (.int (3 : Int32)), .val (.int (0 : Int32)), .unset] [(.int (f 0))])) _
  rw [hf0]
  show Steps p.tables e below (T1.setTop (mkF m 24 #[.val (.ref o0), .val (.ref b1), .val (.ref o0), .val (.int (3 : Int32)), .val (.int (0 : Int32)), .unset] [(.int d0)])) _
  refine XS.istore X1.here hx rfl (hb hby d1_24) rfl (l' := #[.val (.ref o0), .val (.ref b1), .val (.ref o0), .val (.int (3 : Int32)), .val (.int (0 : Int32)), .val (.int d0)]) rfl ?_
  show Steps p.tables e below (T1.setTop (mkF m 26 #[.val (.ref o0), .val (.ref b1), .val (.ref o0), .val (.int (3 : Int32)), .val (.int (0 : Int32)), .val (.int d0)] [])) _
  refine XS.aloadN X1.here hx rfl (hb hby d1_26) rfl rfl ?_
  show Steps p.tables e below (T1.setTop (mkF m 27 #[.val (.ref o0), .val (.ref b1), .val (.ref o0), .val (.int (3 : Int32)), .val (.int (0 : Int32)), .val (.int d0)] [(.ref b1)])) _
  refine XS.iload X1.here hx rfl (hb hby d1_27) rfl ?_
  show Steps p.tables e below (T1.setTop (mkF m 29 #[.val (.ref o0), .val (.ref b1), .val (.ref o0), .val (.int (3 : Int32)), .val (.int (0 : Int32)), .val (.int d0)] [(.int d0), (.ref b1)])) _
  refine XS.sipush X1.here hx rfl (hb hby d1_29) ?_
  show Steps p.tables e below (T1.setTop (mkF m 32 #[.val (.ref o0), .val (.ref b1), .val (.ref o0), .val (.int (3 : Int32)), .val (.int (0 : Int32)), .val (.int d0)] [(.int (255 : Int32)), (.int d0), (.ref b1)])) _
  refine XS.iand X1.here hx rfl (hb hby d1_32) rfl ?_
  show Steps p.tables e below (T1.setTop (mkF m 33 #[.val (.ref o0), .val (.ref b1), .val (.ref o0), .val (.int (3 : Int32)), .val (.int (0 : Int32)), .val (.int d0)] [(.int (d0 &&& (255 : Int32))), (.ref b1)])) _
  refine Jvm.Free.XT.dup2 X1.here hx rfl (hb hby d1_33) rfl rfl rfl ?_
  show Steps p.tables e below (T1.setTop (mkF m 34 #[.val (.ref o0), .val (.ref b1), .val (.ref o0), .val (.int (3 : Int32)), .val (.int (0 : Int32)), .val (.int d0)] [(.int (d0 &&& (255 : Int32))), (.ref b1), (.int (d0 &&& (255 : Int32))), (.ref b1)])) _
  refine own_ldI X1 hx hZ e1 A1 (j := (d0 &&& (255 : Int32))) (own_255 d0) rfl rfl (hb hby d1_34) ?_
  show Steps p.tables e below (T1.setTop (mkF m 35 #[.val (.ref o0), .val (.ref b1), .val (.ref o0), .val (.int (3 : Int32)), .val (.int (0 : Int32)), .val (.int d0)] [(.int ((fun _ => 0) ((d0 &&& (255 : Int32))).toNatClampNeg)), (.int (d0 &&& (255 : Int32))), (.ref b1)])) _
  refine XS.iconst X1.here hx rfl (hb hby d1_35) ?_
  show Steps p.tables e below (T1.setTop (mkF m 36 #[.val (.ref o0), .val (.ref b1), .val (.ref o0), .val (.int (3 : Int32)), .val (.int (0 : Int32)), .val (.int d0)] [(.int (1 : Int32)), (.int ((fun _ => 0) ((d0 &&& (255 : Int32))).toNatClampNeg)), (.int (d0 &&& (255 : Int32))), (.ref b1)])) _
  refine XS.iadd X1.here hx rfl (hb hby d1_36) rfl ?_
  show Steps p.tables e below (T1.setTop (mkF m 37 #[.val (.ref o0), .val (.ref b1), .val (.ref o0), .val (.int (3 : Int32)), .val (.int (0 : Int32)), .val (.int d0)] [(.int (((fun _ => 0) ((d0 &&& (255 : Int32))).toNatClampNeg) + (1 : Int32))), (.int (d0 &&& (255 : Int32))), (.ref b1)])) _
  refine st2 _ ?_
  show Steps p.tables e below (T2.setTop (mkF m 38 #[.val (.ref o0), .val (.ref b1), .val (.ref o0), .val (.int (3 : Int32)), .val (.int (0 : Int32)), .val (.int d0)] [])) _
  refine XS.iinc X2.here hx rfl (hb hby d1_38) rfl (l' := #[.val (.ref o0), .val (.ref b1), .val (.ref o0), .val (.int (3 : Int32)), .val (.int ((0 : Int32) + (1 : Int32))), .val (.int d0)]) rfl ?_
  show Steps p.tables e below (T2.setTop (mkF m 41 #[.val (.ref o0), .val (.ref b1), .val (.ref o0), .val (.int (3 : Int32)), .val (.int (1 : Int32)), .val (.int d0)] [])) _
  refine XS.goto X2.here hx rfl (pc0 := 41) (pc' := 14) rfl (hb hby d1_41) (by decide) (by decide) ?_
  show Steps p.tables e below (T2.setTop (mkF m 14 #[.val (.ref o0), .val (.ref b1), .val (.ref o0), .val (.int (3 : Int32)), .val (.int (1 : Int32)), .val (.int d0)] [])) _
  refine XS.iload X2.here hx rfl (hb hby d1_14) rfl ?_
  show Steps p.tables e below (T2.setTop (mkF m 16 #[.val (.ref o0), .val (.ref b1), .val (.ref o0), .val (.int (3 : Int32)), .val (.int (1 : Int32)), .val (.int d0)] [(.int (1 : Int32))])) _
  refine XS.iloadN X2.here hx rfl (hb hby d1_16) rfl ?_
  show Steps p.tables e below (T2.setTop (mkF m 17 #[.val (.ref o0), .val (.ref b1), .val (.ref o0), .val (.int (3 : Int32)), .val (.int (1 : Int32)), .val (.int d0)] [(.int (3 : Int32)), (.int (1 : Int32))])) _
  refine XS.icmpNo X2.here hx rfl (hb hby d1_17) rfl (tlt (by decide)).2.1 ?_
  show Steps p.tables e below (T2.setTop (mkF m 20 #[.val (.ref o0), .val (.ref b1), .val (.ref o0), .val (.int (3 : Int32)), .val (.int (1 : Int32)), .val (.int d0)] [])) _
  refine XS.aloadN X2.here hx rfl (hb hby d1_20) rfl rfl ?_
  show Steps p.tables e below (T2.setTop (mkF m 21 #[.val (.ref o0), .val (.ref b1), .val (.ref o0), .val (.int (3 : Int32)), .val (.int (1 : Int32)), .val (.int d0)] [(.ref o0)])) _
  refine XS.iload X2.here hx rfl (hb hby d1_21) rfl ?_
  show Steps p.tables e below (T2.setTop (mkF m 23 #[.val (.ref o0), .val (.ref b1), .val (.ref o0), .val (.int (3 : Int32)), .val (.int (1 : Int32)), .val (.int d0)] [(.int (1 : Int32)), (.ref o0)])) _
  refine own_ldB X2 hx hZ e2 A2_o0 (j := (1 : Int32)) ⟨by decide, by decide⟩ rfl rfl (hb hby d1_23) ?_
  show Steps p.tables e below (T2.setTop (mkF m 24 #[.val (.ref o0), .val (.ref b1), .val (.ref o0), .val (.int (3 : Int32)), .val (.int (1 : Int32)), .val (.int d0)] [(.int (f 1))])) _
  rw [hf1]
  show Steps p.tables e below (T2.setTop (mkF m 24 #[.val (.ref o0), .val (.ref b1), .val (.ref o0), .val (.int (3 : Int32)), .val (.int (1 : Int32)), .val (.int d0)] [(.int d1)])) _
  refine XS.istore X2.here hx rfl (hb hby d1_24) rfl (l' := #[.val (.ref o0), .val (.ref b1), .val (.ref o0), .val (.int (3 : Int32)), .val (.int (1 : Int32)), .val (.int d1)]) rfl ?_
  show Steps p.tables e below (T2.setTop (mkF m 26 #[.val (.ref o0), .val (.ref b1), .val (.ref o0), .val (.int (3 : Int32)), .val (.int (1 : Int32)), .val (.int d1)] [])) _
  refine XS.aloadN X2.here hx rfl (hb hby d1_26) rfl rfl ?_
  show Steps p.tables e below (T2.setTop (mkF m 27 #[.val (.ref o0), .val (.ref b1), .val (.ref o0), .val (.int (3 : Int32)), .val (.int (1 : Int32)), .val (.int d1)] [(.ref b1)])) _
  refine XS.iload X2.here hx rfl (hb hby d1_27) rfl ?_
  show Steps p.tables e below (T2.setTop (mkF m 29 #[.val (.ref o0), .val (.ref b1), .val (.ref o0), .val (.int (3 : Int32)), .val (.int (1 : Int32)), .val (.int d1)] [(.int d1), (.ref b1)])) _
  refine XS.sipush X2.here hx rfl (hb hby d1_29) ?_
  show Steps p.tables e below (T2.setTop (mkF m 32 #[.val (.ref o0), .val (.ref b1), .val (.ref o0), .val (.int (3 : Int32)), .val (.int (1 : Int32)), .val (.int d1)] [(.int (255 : Int32)), (.int d1), (.ref b1)])) _
  refine XS.iand X2.here hx rfl (hb hby d1_32) rfl ?_
  show Steps p.tables e below (T2.setTop (mkF m 33 #[.val (.ref o0), .val (.ref b1), .val (.ref o0), .val (.int (3 : Int32)), .val (.int (1 : Int32)), .val (.int d1)] [(.int (d1 &&& (255 : Int32))), (.ref b1)])) _
  refine Jvm.Free.XT.dup2 X2.here hx rfl (hb hby d1_33) rfl rfl rfl ?_
  show Steps p.tables e below (T2.setTop (mkF m 34 #[.val (.ref o0), .val (.ref b1), .val (.ref o0), .val (.int (3 : Int32)), .val (.int (1 : Int32)), .val (.int d1)] [(.int (d1 &&& (255 : Int32))), (.ref b1), (.int (d1 &&& (255 : Int32))), (.ref b1)])) _
  refine own_ldI X2 hx hZ e2 V0 (j := (d1 &&& (255 : Int32))) (own_255 d1) rfl rfl (hb hby d1_34) ?_
  show Steps p.tables e below (T2.setTop (mkF m 35 #[.val (.ref o0), .val (.ref b1), .val (.ref o0), .val (.int (3 : Int32)), .val (.int (1 : Int32)), .val (.int d1)] [(.int ((own_inc (fun _ => 0) d0) ((d1 &&& (255 : Int32))).toNatClampNeg)), (.int (d1 &&& (255 : Int32))), (.ref b1)])) _
  refine XS.iconst X2.here hx rfl (hb hby d1_35) ?_
  show Steps p.tables e below (T2.setTop (mkF m 36 #[.val (.ref o0), .val (.ref b1), .val (.ref o0), .val (.int (3 : Int32)), .val (.int (1 : Int32)), .val (.int d1)] [(.int (1 : Int32)), (.int ((own_inc (fun _ => 0) d0) ((d1 &&& (255 : Int32))).toNatClampNeg)), (.int (d1 &&& (255 : Int32))), (.ref b1)])) _
  refine XS.iadd X2.here hx rfl (hb hby d1_36) rfl ?_
  show Steps p.tables e below (T2.setTop (mkF m 37 #[.val (.ref o0), .val (.ref b1), .val (.ref o0), .val (.int (3 : Int32)), .val (.int (1 : Int32)), .val (.int d1)] [(.int (((own_inc (fun _ => 0) d0) ((d1 &&& (255 : Int32))).toNatClampNeg) + (1 : Int32))), (.int (d1 &&& (255 : Int32))), (.ref b1)])) _
  refine st3 _ ?_
  show Steps p.tables e below (T3.setTop (mkF m 38 #[.val (.ref o0), .val (.ref b1), .val (.ref o0), .val (.int (3 : Int32)), .val (.int (1 : Int32)), .val (.int d1)] [])) _
  refine XS.iinc X3.here hx rfl (hb hby d1_38) rfl (l' := #[.val (.ref o0), .val (.ref b1), .val (.ref o0), .val (.int (3 : Int32)), .val (.int ((1 : Int32) + (1 : Int32))), .val (.int d1)]) rfl ?_
  show Steps p.tables e below (T3.setTop (mkF m 41 #[.val (.ref o0), .val (.ref b1), .val (.ref o0), .val (.int (3 : Int32)), .val (.int (2 : Int32)), .val (.int d1)] [])) _
  refine XS.goto X3.here hx rfl (pc0 := 41) (pc' := 14) rfl (hb hby d1_41) (by decide) (by decide) ?_
  show Steps p.tables e below (T3.setTop (mkF m 14 #[.val (.ref o0), .val (.ref b1), .val (.ref o0), .val (.int (3 : Int32)), .val (.int (2 : Int32)), .val (.int d1)] [])) _
  refine XS.iload X3.here hx rfl (hb hby d1_14) rfl ?_
  show Steps p.tables e below (T3.setTop (mkF m 16 #[.val (.ref o0), .val (.ref b1), .val (.ref o0), .val (.int (3 : Int32)), .val (.int (2 : Int32)), .val (.int d1)] [(.int (2 : Int32))])) _
  refine XS.iloadN X3.here hx rfl (hb hby d1_16) rfl ?_
  show Steps p.tables e below (T3.setTop (mkF m 17 #[.val (.ref o0), .val (.ref b1), .val (.ref o0), .val (.int (3 : Int32)), .val (.int (2 : Int32)), .val (.int d1)] [(.int (3 : Int32)), (.int (2 : Int32))])) _
  refine XS.icmpNo X3.here hx rfl (hb hby d1_17) rfl (tlt (by decide)).2.1 ?_
  show Steps p.tables e below (T3.setTop (mkF m 20 #[.val (.ref o0), .val (.ref b1), .val (.ref o0), .val (.int (3 : Int32)), .val (.int (2 : Int32)), .val (.int d1)] [])) _
  refine XS.aloadN X3.here hx rfl (hb hby d1_20) rfl rfl ?_
  show Steps p.tables e below (T3.setTop (mkF m 21 #[.val (.ref o0), .val (.ref b1), .val (.ref o0), .val (.int (3 : Int32)), .val (.int (2 : Int32)), .val (.int d1)] [(.ref o0)])) _
  refine XS.iload X3.here hx rfl (hb hby d1_21) rfl ?_
  show Steps p.tables e below (T3.setTop (mkF m 23 #[.val (.ref o0), .val (.ref b1), .val (.ref o0), .val (.int (3 : Int32)), .val (.int (2 : Int32)), .val (.int d1)] [(.int (2 : Int32)), (.ref o0)])) _
  refine own_ldB X3 hx hZ e3 A3_o0 (j := (2 : Int32)) ⟨by decide, by decide⟩ rfl rfl (hb hby d1_23) ?_
  show Steps p.tables e below (T3.setTop (mkF m 24 #[.val (.ref o0), .val (.ref b1), .val (.ref o0), .val (.int (3 : Int32)), .val (.int (2 : Int32)), .val (.int d1)] [(.int (f 2))])) _
  rw [hf2]
  show Steps p.tables e below (T3.setTop (mkF m 24 #[.val (.ref o0), .val (.ref b1), .val (.ref o0), .val (.int (3 : Int32)), .val (.int (2 : Int32)), .val (.int d1)] [(.int d2)])) _
  refine XS.istore X3.here hx rfl (hb hby d1_24) rfl (l' := #[.val (.ref o0), .val (.ref b1), .val (.ref o0), .val (.int (3 : Int32)), .val (.int (2 : Int32)), .val (.int d2)]) rfl ?_
  show Steps p.tables e below (T3.setTop (mkF m 26 #[.val (.ref o0), .val (.ref b1), .val (.ref o0), .val (.int (3 : Int32)), .val (.int (2 : Int32)), .val (.int d2)] [])) _
  refine XS.aloadN X3.here hx rfl (hb hby d1_26) rfl rfl ?_
  show Steps p.tables e below (T3.setTop (mkF m 27 #[.val (.ref o0), .val (.ref b1), .val (.ref o0), .val (.int (3 : Int32)), .val (.int (2 : Int32)), .val (.int d2)] [(.ref b1)])) _
  refine XS.iload X3.here hx rfl (hb hby d1_27) rfl ?_
  show Steps p.tables e below (T3.setTop (mkF m 29 #[.val (.ref o0), .val (.ref b1), .val (.ref o0), .val (.int (3 : Int32)), .val (.int (2 : Int32)), .val (.int d2)] [(.int d2), (.ref b1)])) _
  refine XS.sipush X3.here hx rfl (hb hby d1_29) ?_
  show Steps p.tables e below (T3.setTop (mkF m 32 #[.val (.ref o0), .val (.ref b1), .val (.ref o0), .val (.int (3 : Int32)), .val (.int (2 : Int32)), .val (.int d2)] [(.int (255 : Int32)), (.int d2), (.ref b1)])) _
  refine XS.iand X3.here hx rfl (hb hby d1_32) rfl ?_
  show Steps p.tables e below (T3.setTop (mkF m 33 #[.val (.ref o0), .val (.ref b1), .val (.ref o0), .val (.int (3 : Int32)), .val (.int (2 : Int32)), .val (.int d2)] [(.int (d2 &&& (255 : Int32))), (.ref b1)])) _
  refine Jvm.Free.XT.dup2 X3.here hx rfl (hb hby d1_33) rfl rfl rfl ?_
  show Steps p.tables e below (T3.setTop (mkF m 34 #[.val (.ref o0), .val (.ref b1), .val (.ref o0), .val (.int (3 : Int32)), .val (.int (2 : Int32)), .val (.int d2)] [(.int (d2 &&& (255 : Int32))), (.ref b1), (.int (d2 &&& (255 : Int32))), (.ref b1)])) _
  refine own_ldI X3 hx hZ e3 V1 (j := (d2 &&& (255 : Int32))) (own_255 d2) rfl rfl (hb hby d1_34) ?_
  show Steps p.tables e below (T3.setTop (mkF m 35 #[.val (.ref o0), .val (.ref b1), .val (.ref o0), .val (.int (3 : Int32)), .val (.int (2 : Int32)), .val (.int d2)] [(.int ((own_inc (own_inc (fun _ => 0) d0) d1) ((d2 &&& (255 : Int32))).toNatClampNeg)), (.int (d2 &&& (255 : Int32))), (.ref b1)])) _
  refine XS.iconst X3.here hx rfl (hb hby d1_35) ?_
  show Steps p.tables e below (T3.setTop (mkF m 36 #[.val (.ref o0), .val (.ref b1), .val (.ref o0), .val (.int (3 : Int32)), .val (.int (2 : Int32)), .val (.int d2)] [(.int (1 : Int32)), (.int ((own_inc (own_inc (fun _ => 0) d0) d1) ((d2 &&& (255 : Int32))).toNatClampNeg)), (.int (d2 &&& (255 : Int32))), (.ref b1)])) _
  refine XS.iadd X3.here hx rfl (hb hby d1_36) rfl ?_
  show Steps p.tables e below (T3.setTop (mkF m 37 #[.val (.ref o0), .val (.ref b1), .val (.ref o0), .val (.int (3 : Int32)), .val (.int (2 : Int32)), .val (.int d2)] [(.int (((own_inc (own_inc (fun _ => 0) d0) d1) ((d2 &&& (255 : Int32))).toNatClampNeg) + (1 : Int32))), (.int (d2 &&& (255 : Int32))), (.ref b1)])) _
  refine st4 _ ?_
  show Steps p.tables e below (T4.setTop (mkF m 38 #[.val (.ref o0), .val (.ref b1), .val (.ref o0), .val (.int (3 : Int32)), .val (.int (2 : Int32)), .val (.int d2)] [])) _
  refine XS.iinc X4.here hx rfl (hb hby d1_38) rfl (l' := #[.val (.ref o0), .val (.ref b1), .val (.ref o0), .val (.int (3 : Int32)), .val (.int ((2 : Int32) + (1 : Int32))), .val (.int d2)]) rfl ?_
  show Steps p.tables e below (T4.setTop (mkF m 41 #[.val (.ref o0), .val (.ref b1), .val (.ref o0), .val (.int (3 : Int32)), .val (.int (3 : Int32)), .val (.int d2)] [])) _
  refine XS.goto X4.here hx rfl (pc0 := 41) (pc' := 14) rfl (hb hby d1_41) (by decide) (by decide) ?_
  show Steps p.tables e below (T4.setTop (mkF m 14 #[.val (.ref o0), .val (.ref b1), .val (.ref o0), .val (.int (3 : Int32)), .val (.int (3 : Int32)), .val (.int d2)] [])) _
  refine XS.iload X4.here hx rfl (hb hby d1_14) rfl ?_
  show Steps p.tables e below (T4.setTop (mkF m 16 #[.val (.ref o0), .val (.ref b1), .val (.ref o0), .val (.int (3 : Int32)), .val (.int (3 : Int32)), .val (.int d2)] [(.int (3 : Int32))])) _
  refine XS.iloadN X4.here hx rfl (hb hby d1_16) rfl ?_
  show Steps p.tables e below (T4.setTop (mkF m 17 #[.val (.ref o0), .val (.ref b1), .val (.ref o0), .val (.int (3 : Int32)), .val (.int (3 : Int32)), .val (.int d2)] [(.int (3 : Int32)), (.int (3 : Int32))])) _
  refine XS.icmpYes X4.here hx rfl (pc0 := 17) (pc' := 44) rfl (hb hby d1_17) rfl (flt (Int32.lt_irrefl)).2.1 (by decide) (by decide) ?_
  show Steps p.tables e below (T4.setTop (mkF m 44 #[.val (.ref o0), .val (.ref b1), .val (.ref o0), .val (.int (3 : Int32)), .val (.int (3 : Int32)), .val (.int d2)] [])) _
  refine XS.aloadN X4.here hx rfl (hb hby d1_44) rfl rfl ?_
  show Steps p.tables e below (T4.setTop (mkF m 45 #[.val (.ref o0), .val (.ref b1), .val (.ref o0), .val (.int (3 : Int32)), .val (.int (3 : Int32)), .val (.int d2)] [(.ref b1)])) _
  exact retOut X4 hx Bd.returns rfl (Or.inr (Or.inr (Or.inr (Or.inr ⟨rfl, rfl, rfl⟩)))) (hb hby d1_45) hr
def Q1_4 (Z : State) (o0 : Addr) (f : Nat → Int32) (d0 : Int32) (d1 : Int32) (d2 : Int32) (d3 : Int32) (h0 : Heap) (n0 : Nat) (v : Option Value) (h : Heap) (L : List Loc) : Prop := (∃ bb, v = some (.ref bb) ∧ h0.size ≤ bb ∧ own_AI Z h bb .int (256 : Int32) (own_inc (own_inc (own_inc (own_inc (fun _ => 0) d0) d1) d2) d3)) ∧ Fr n0 L ∧ Keep h0 h []
set_option maxRecDepth 65536 in
set_option maxHeartbeats 40000000 in
theorem rm1_4 (l : Launch) (Z : State) (a0 : Array Value) (hw : ∀ d ∈ tables_1, d.before a0 Z = true) (ws : List Jvm.Cond) (o0 : Addr) (f : Nat → Int32) (d0 : Int32) (d1 : Int32) (d2 : Int32) (d3 : Int32) (h0 : Heap) (n0 : Nat) (Z0 : n0 ≤ h0.size) (A0 : own_AI Z h0 o0 .byte (4 : Int32) f) (hf0 : f 0 = d0) (hf1 : f 1 = d1) (hf2 : f 2 = d2) (hf3 : f 3 = d3) :
    MetFree l (⟨"com/example/fewbits/fewbits/HuffmanCode", "countBytes", "([B)[I"⟩ : MethodName) (head1 (Jvm.Cond.code (⟨"com/example/fewbits/fewbits/HuffmanCode", "countBytes", "([B)[I"⟩ : MethodName) prog_6_method_5_code 6 (some (.array .int)) :: ws) ({ frames := 0, cells := 1, slots := 256, locals := 0 } : Room)) (fun a_ U_ => a_ = #[(.ref o0)] ∧ Z.Warmed39 U_.vm ∧ U_.heap = h0) (fun _ _ _ _ _ => True) (fun _ U_ o_ U' => ∃ v_ L_, o_ = .returned v_ ∧ (Q1_4 Z o0 f d0 d1 d2 d3 h0 n0 v_ U'.heap L_) ∧ FrameEnd U_ o_ U' L_ ({ frames := 0, cells := 1, slots := 256, locals := 0 } : Room).cells ({ frames := 0, cells := 1, slots := 256, locals := 0 } : Room).slots) := by
  refine MetFree.of_bodySF (plainFor_of_name pn_1) hisR ?_
  intro p e s m args below meth c s₁ Bd hml0 hP hK
  obtain ⟨rfl, hZ, hh⟩ := hP
  have hx := Bd.exec
  have hby := Bd.bytes
  have hml : c.maxLocals = 6 := hml0
  have hown : s.vm.findClass "com/example/fewbits/fewbits/HuffmanCode" = some m.cls := findClass_of_methodNamed Bd.named
  have hnm := (name_of_methodNamed Bd.named Bd.method).1
  have X0 : Stand p l e ({ frames := 0, cells := 1, slots := 256, locals := 0 } : Room) s m #[(.ref o0)] below meth c s₁ [] 0 0 := Stand.of_body Bd
  have e0 : s₁.heap = h0 := by rw [← hh, Bd.state]; rfl
  have N0 := Fr.nil n0
  have pre0 : ∀ t, Steps p.tables e below (s₁.setTop (mkF m 0 #[.val (.ref o0), .unset, .unset, .unset, .unset, .unset] [])) t → Steps p.tables e below (s₁.setTop (entryFrame m #[(.ref o0)] 6)) t := fun t k => castTop (ef_1 m o0) k
  obtain ⟨T1, h1, X1, e1, E1, A1, st1⟩ := own_newI X0 hx hZ (hw _ (List.mem_of_getElem? (i := 6) rfl)) rfl e0 (g := (mkF m 3 #[.val (.ref o0), .unset, .unset, .unset, .unset, .unset] [(.int (256 : Int32))])) rfl (hb hby d1_3) rfl (by decide) (cap := 256) (by decide) (by decide) (by decide) (by decide)
  obtain ⟨b1, g1⟩ : ∃ z, z = h0.size := ⟨_, rfl⟩
  rw [← g1] at A1 st1
  have f_b1 : n0 ≤ b1 := Nat.le_trans Z0 (Nat.le_of_eq g1.symm)
  have s_b1 : h0.size ≤ b1 := Nat.le_trans (Keep.refl h0 []).1 (Nat.le_of_eq g1.symm)
  have K1 : Keep h0 h1 [] := (Keep.refl h0 []).ext E1
  have ne_o0_b1 : o0 ≠ b1 := Nat.ne_of_lt (Nat.lt_of_lt_of_le A0.lt (Nat.le_of_eq g1.symm))
  have A1_o0 := A0.ext E1
  have Z1 : n0 ≤ h1.size := Nat.le_trans Z0 E1.1
  obtain ⟨T2, h2, X2, e2, W2, A2, st2⟩ := own_stI X1 hx hZ e1 A1 (j := (d0 &&& (255 : Int32))) (own_255 d0) (g := (mkF m 37 #[.val (.ref o0), .val (.ref b1), .val (.ref o0), .val (.int (4 : Int32)), .val (.int (0 : Int32)), .val (.int d0)] [(.int (((fun _ => 0) ((d0 &&& (255 : Int32))).toNatClampNeg) + (1 : Int32))), (.int (d0 &&& (255 : Int32))), (.ref b1)])) rfl rfl (hb hby d1_37)
  have N2 := Fr.snoc X2 N0 f_b1
  have K2 : Keep h0 h2 [] := K1.wr W2 (Or.inr s_b1)
  have A2_o0 := A1_o0.other W2 ne_o0_b1
  have Z2 : n0 ≤ h2.size := Nat.le_trans Z1 (Nat.le_of_eq (W2.size).symm)
  have V0 : own_AI Z h2 b1 .int (256 : Int32) (own_inc (fun _ => 0) d0) := A2
  obtain ⟨T3, h3, X3, e3, W3, A3, st3⟩ := own_stI X2 hx hZ e2 V0 (j := (d1 &&& (255 : Int32))) (own_255 d1) (g := (mkF m 37 #[.val (.ref o0), .val (.ref b1), .val (.ref o0), .val (.int (4 : Int32)), .val (.int (1 : Int32)), .val (.int d1)] [(.int (((own_inc (fun _ => 0) d0) ((d1 &&& (255 : Int32))).toNatClampNeg) + (1 : Int32))), (.int (d1 &&& (255 : Int32))), (.ref b1)])) rfl rfl (hb hby d1_37)
  have N3 := Fr.snoc X3 N2 f_b1
  have K3 : Keep h0 h3 [] := K2.wr W3 (Or.inr s_b1)
  have A3_o0 := A2_o0.other W3 ne_o0_b1
  have Z3 : n0 ≤ h3.size := Nat.le_trans Z2 (Nat.le_of_eq (W3.size).symm)
  have V1 : own_AI Z h3 b1 .int (256 : Int32) (own_inc (own_inc (fun _ => 0) d0) d1) := A3
  obtain ⟨T4, h4, X4, e4, W4, A4, st4⟩ := own_stI X3 hx hZ e3 V1 (j := (d2 &&& (255 : Int32))) (own_255 d2) (g := (mkF m 37 #[.val (.ref o0), .val (.ref b1), .val (.ref o0), .val (.int (4 : Int32)), .val (.int (2 : Int32)), .val (.int d2)] [(.int (((own_inc (own_inc (fun _ => 0) d0) d1) ((d2 &&& (255 : Int32))).toNatClampNeg) + (1 : Int32))), (.int (d2 &&& (255 : Int32))), (.ref b1)])) rfl rfl (hb hby d1_37)
  have N4 := Fr.snoc X4 N3 f_b1
  have K4 : Keep h0 h4 [] := K3.wr W4 (Or.inr s_b1)
  have A4_o0 := A3_o0.other W4 ne_o0_b1
  have Z4 : n0 ≤ h4.size := Nat.le_trans Z3 (Nat.le_of_eq (W4.size).symm)
  have V2 : own_AI Z h4 b1 .int (256 : Int32) (own_inc (own_inc (own_inc (fun _ => 0) d0) d1) d2) := A4
  obtain ⟨T5, h5, X5, e5, W5, A5, st5⟩ := own_stI X4 hx hZ e4 V2 (j := (d3 &&& (255 : Int32))) (own_255 d3) (g := (mkF m 37 #[.val (.ref o0), .val (.ref b1), .val (.ref o0), .val (.int (4 : Int32)), .val (.int (3 : Int32)), .val (.int d3)] [(.int (((own_inc (own_inc (own_inc (fun _ => 0) d0) d1) d2) ((d3 &&& (255 : Int32))).toNatClampNeg) + (1 : Int32))), (.int (d3 &&& (255 : Int32))), (.ref b1)])) rfl rfl (hb hby d1_37)
  have N5 := Fr.snoc X5 N4 f_b1
  have K5 : Keep h0 h5 [] := K4.wr W5 (Or.inr s_b1)
  have A5_o0 := A4_o0.other W5 ne_o0_b1
  have Z5 : n0 ≤ h5.size := Nat.le_trans Z4 (Nat.le_of_eq (W5.size).symm)
  have V3 : own_AI Z h5 b1 .int (256 : Int32) (own_inc (own_inc (own_inc (own_inc (fun _ => 0) d0) d1) d2) d3) := A5
  obtain ⟨fs, hr, hrun, hended, hW, hsame⟩ := X5.leave (v := some (.ref b1)) (fun h => by rw [Bd.returns] at h; cases h)
  refine ⟨_, _, pre0 _ ?_, hrun, hended, _, _, rfl, ⟨⟨_, rfl, s_b1, (by show own_AI Z T5.heap _ _ _ _; rw [e5]; exact V3)⟩, N5, (by show Keep h0 T5.heap []; rw [e5]; exact K5)⟩, ⟨_, rfl⟩, hW, hsame.mono (by decide) (by decide)⟩
  show Steps p.tables e below (s₁.setTop (mkF m 0 #[.val (.ref o0), .unset, .unset, .unset, .unset, .unset] [])) _
  refine XS.sipush X0.here hx rfl (hb hby d1_0) ?_
  show Steps p.tables e below (s₁.setTop (mkF m 3 #[.val (.ref o0), .unset, .unset, .unset, .unset, .unset] [(.int (256 : Int32))])) _
  refine st1 _ ?_
  show Steps p.tables e below (T1.setTop (mkF m 5 #[.val (.ref o0), .unset, .unset, .unset, .unset, .unset] [(.ref b1)])) _
  refine XS.astoreN X1.here hx rfl (hb hby d1_5) rfl rfl (l' := #[.val (.ref o0), .val (.ref b1), .unset, .unset, .unset, .unset]) rfl ?_
  show Steps p.tables e below (T1.setTop (mkF m 6 #[.val (.ref o0), .val (.ref b1), .unset, .unset, .unset, .unset] [])) _
  refine XS.aloadN X1.here hx rfl (hb hby d1_6) rfl rfl ?_
  show Steps p.tables e below (T1.setTop (mkF m 7 #[.val (.ref o0), .val (.ref b1), .unset, .unset, .unset, .unset] [(.ref o0)])) _
  refine XS.astoreN X1.here hx rfl (hb hby d1_7) rfl rfl (l' := #[.val (.ref o0), .val (.ref b1), .val (.ref o0), .unset, .unset, .unset]) rfl ?_
  show Steps p.tables e below (T1.setTop (mkF m 8 #[.val (.ref o0), .val (.ref b1), .val (.ref o0), .unset, .unset, .unset] [])) _
  refine XS.aloadN X1.here hx rfl (hb hby d1_8) rfl rfl ?_
  show Steps p.tables e below (T1.setTop (mkF m 9 #[.val (.ref o0), .val (.ref b1), .val (.ref o0), .unset, .unset, .unset] [(.ref o0)])) _
  refine own_len X1 hx hZ e1 A1_o0 rfl rfl (hb hby d1_9) ?_
  show Steps p.tables e below (T1.setTop (mkF m 10 #[.val (.ref o0), .val (.ref b1), .val (.ref o0), .unset, .unset, .unset] [(.int (4 : Int32))])) _
  refine XS.istoreN X1.here hx rfl (hb hby d1_10) rfl (l' := #[.val (.ref o0), .val (.ref b1), .val (.ref o0), .val (.int (4 : Int32)), .unset, .unset]) rfl ?_
  show Steps p.tables e below (T1.setTop (mkF m 11 #[.val (.ref o0), .val (.ref b1), .val (.ref o0), .val (.int (4 : Int32)), .unset, .unset] [])) _
  refine XS.iconst X1.here hx rfl (hb hby d1_11) ?_
  show Steps p.tables e below (T1.setTop (mkF m 12 #[.val (.ref o0), .val (.ref b1), .val (.ref o0), .val (.int (4 : Int32)), .unset, .unset] [(.int (0 : Int32))])) _
  refine XS.istore X1.here hx rfl (hb hby d1_12) rfl (l' := #[.val (.ref o0), .val (.ref b1), .val (.ref o0), .val (.int (4 : Int32)), .val (.int (0 : Int32)), .unset]) rfl ?_
  show Steps p.tables e below (T1.setTop (mkF m 14 #[.val (.ref o0), .val (.ref b1), .val (.ref o0), .val (.int (4 : Int32)), .val (.int (0 : Int32)), .unset] [])) _
  refine XS.iload X1.here hx rfl (hb hby d1_14) rfl ?_
  show Steps p.tables e below (T1.setTop (mkF m 16 #[.val (.ref o0), .val (.ref b1), .val (.ref o0), .val (.int (4 : Int32)), .val (.int (0 : Int32)), .unset] [(.int (0 : Int32))])) _
  refine XS.iloadN X1.here hx rfl (hb hby d1_16) rfl ?_
  show Steps p.tables e below (T1.setTop (mkF m 17 #[.val (.ref o0), .val (.ref b1), .val (.ref o0), .val (.int (4 : Int32)), .val (.int (0 : Int32)), .unset] [(.int (4 : Int32)), (.int (0 : Int32))])) _
  refine XS.icmpNo X1.here hx rfl (hb hby d1_17) rfl (tlt (by decide)).2.1 ?_
  show Steps p.tables e below (T1.setTop (mkF m 20 #[.val (.ref o0), .val (.ref b1), .val (.ref o0), .val (.int (4 : Int32)), .val (.int (0 : Int32)), .unset] [])) _
  refine XS.aloadN X1.here hx rfl (hb hby d1_20) rfl rfl ?_
  show Steps p.tables e below (T1.setTop (mkF m 21 #[.val (.ref o0), .val (.ref b1), .val (.ref o0), .val (.int (4 : Int32)), .val (.int (0 : Int32)), .unset] [(.ref o0)])) _
  refine XS.iload X1.here hx rfl (hb hby d1_21) rfl ?_
  show Steps p.tables e below (T1.setTop (mkF m 23 #[.val (.ref o0), .val (.ref b1), .val (.ref o0), .val (.int (4 : Int32)), .val (.int (0 : Int32)), .unset] [(.int (0 : Int32)), (.ref o0)])) _
  refine own_ldB X1 hx hZ e1 A1_o0 (j := (0 : Int32)) ⟨by decide, by decide⟩ rfl rfl (hb hby d1_23) ?_
  show Steps p.tables e below (T1.setTop (mkF m 24 #[.val (.ref o0), .val (.ref b1), .val (.ref o0), .val (.int (4 : Int32)), .val (.int (0 : Int32)), .unset] [(.int (f 0))])) _
  rw [hf0]
  show Steps p.tables e below (T1.setTop (mkF m 24 #[.val (.ref o0), .val (.ref b1), .val (.ref o0), .val (.int (4 : Int32)), .val (.int (0 : Int32)), .unset] [(.int d0)])) _
  refine XS.istore X1.here hx rfl (hb hby d1_24) rfl (l' := #[.val (.ref o0), .val (.ref b1), .val (.ref o0), .val (.int (4 : Int32)), .val (.int (0 : Int32)), .val (.int d0)]) rfl ?_
  show Steps p.tables e below (T1.setTop (mkF m 26 #[.val (.ref o0), .val (.ref b1), .val (.ref o0), .val (.int (4 : Int32)), .val (.int (0 : Int32)), .val (.int d0)] [])) _
  refine XS.aloadN X1.here hx rfl (hb hby d1_26) rfl rfl ?_
  show Steps p.tables e below (T1.setTop (mkF m 27 #[.val (.ref o0), .val (.ref b1), .val (.ref o0), .val (.int (4 : Int32)), .val (.int (0 : Int32)), .val (.int d0)] [(.ref b1)])) _
  refine XS.iload X1.here hx rfl (hb hby d1_27) rfl ?_
  show Steps p.tables e below (T1.setTop (mkF m 29 #[.val (.ref o0), .val (.ref b1), .val (.ref o0), .val (.int (4 : Int32)), .val (.int (0 : Int32)), .val (.int d0)] [(.int d0), (.ref b1)])) _
  refine XS.sipush X1.here hx rfl (hb hby d1_29) ?_
  show Steps p.tables e below (T1.setTop (mkF m 32 #[.val (.ref o0), .val (.ref b1), .val (.ref o0), .val (.int (4 : Int32)), .val (.int (0 : Int32)), .val (.int d0)] [(.int (255 : Int32)), (.int d0), (.ref b1)])) _
  refine XS.iand X1.here hx rfl (hb hby d1_32) rfl ?_
  show Steps p.tables e below (T1.setTop (mkF m 33 #[.val (.ref o0), .val (.ref b1), .val (.ref o0), .val (.int (4 : Int32)), .val (.int (0 : Int32)), .val (.int d0)] [(.int (d0 &&& (255 : Int32))), (.ref b1)])) _
  refine Jvm.Free.XT.dup2 X1.here hx rfl (hb hby d1_33) rfl rfl rfl ?_
  show Steps p.tables e below (T1.setTop (mkF m 34 #[.val (.ref o0), .val (.ref b1), .val (.ref o0), .val (.int (4 : Int32)), .val (.int (0 : Int32)), .val (.int d0)] [(.int (d0 &&& (255 : Int32))), (.ref b1), (.int (d0 &&& (255 : Int32))), (.ref b1)])) _
  refine own_ldI X1 hx hZ e1 A1 (j := (d0 &&& (255 : Int32))) (own_255 d0) rfl rfl (hb hby d1_34) ?_
  show Steps p.tables e below (T1.setTop (mkF m 35 #[.val (.ref o0), .val (.ref b1), .val (.ref o0), .val (.int (4 : Int32)), .val (.int (0 : Int32)), .val (.int d0)] [(.int ((fun _ => 0) ((d0 &&& (255 : Int32))).toNatClampNeg)), (.int (d0 &&& (255 : Int32))), (.ref b1)])) _
  refine XS.iconst X1.here hx rfl (hb hby d1_35) ?_
  show Steps p.tables e below (T1.setTop (mkF m 36 #[.val (.ref o0), .val (.ref b1), .val (.ref o0), .val (.int (4 : Int32)), .val (.int (0 : Int32)), .val (.int d0)] [(.int (1 : Int32)), (.int ((fun _ => 0) ((d0 &&& (255 : Int32))).toNatClampNeg)), (.int (d0 &&& (255 : Int32))), (.ref b1)])) _
  refine XS.iadd X1.here hx rfl (hb hby d1_36) rfl ?_
  show Steps p.tables e below (T1.setTop (mkF m 37 #[.val (.ref o0), .val (.ref b1), .val (.ref o0), .val (.int (4 : Int32)), .val (.int (0 : Int32)), .val (.int d0)] [(.int (((fun _ => 0) ((d0 &&& (255 : Int32))).toNatClampNeg) + (1 : Int32))), (.int (d0 &&& (255 : Int32))), (.ref b1)])) _
  refine st2 _ ?_
  show Steps p.tables e below (T2.setTop (mkF m 38 #[.val (.ref o0), .val (.ref b1), .val (.ref o0), .val (.int (4 : Int32)), .val (.int (0 : Int32)), .val (.int d0)] [])) _
  refine XS.iinc X2.here hx rfl (hb hby d1_38) rfl (l' := #[.val (.ref o0), .val (.ref b1), .val (.ref o0), .val (.int (4 : Int32)), .val (.int ((0 : Int32) + (1 : Int32))), .val (.int d0)]) rfl ?_
  show Steps p.tables e below (T2.setTop (mkF m 41 #[.val (.ref o0), .val (.ref b1), .val (.ref o0), .val (.int (4 : Int32)), .val (.int (1 : Int32)), .val (.int d0)] [])) _
  refine XS.goto X2.here hx rfl (pc0 := 41) (pc' := 14) rfl (hb hby d1_41) (by decide) (by decide) ?_
  show Steps p.tables e below (T2.setTop (mkF m 14 #[.val (.ref o0), .val (.ref b1), .val (.ref o0), .val (.int (4 : Int32)), .val (.int (1 : Int32)), .val (.int d0)] [])) _
  refine XS.iload X2.here hx rfl (hb hby d1_14) rfl ?_
  show Steps p.tables e below (T2.setTop (mkF m 16 #[.val (.ref o0), .val (.ref b1), .val (.ref o0), .val (.int (4 : Int32)), .val (.int (1 : Int32)), .val (.int d0)] [(.int (1 : Int32))])) _
  refine XS.iloadN X2.here hx rfl (hb hby d1_16) rfl ?_
  show Steps p.tables e below (T2.setTop (mkF m 17 #[.val (.ref o0), .val (.ref b1), .val (.ref o0), .val (.int (4 : Int32)), .val (.int (1 : Int32)), .val (.int d0)] [(.int (4 : Int32)), (.int (1 : Int32))])) _
  refine XS.icmpNo X2.here hx rfl (hb hby d1_17) rfl (tlt (by decide)).2.1 ?_
  show Steps p.tables e below (T2.setTop (mkF m 20 #[.val (.ref o0), .val (.ref b1), .val (.ref o0), .val (.int (4 : Int32)), .val (.int (1 : Int32)), .val (.int d0)] [])) _
  refine XS.aloadN X2.here hx rfl (hb hby d1_20) rfl rfl ?_
  show Steps p.tables e below (T2.setTop (mkF m 21 #[.val (.ref o0), .val (.ref b1), .val (.ref o0), .val (.int (4 : Int32)), .val (.int (1 : Int32)), .val (.int d0)] [(.ref o0)])) _
  refine XS.iload X2.here hx rfl (hb hby d1_21) rfl ?_
  show Steps p.tables e below (T2.setTop (mkF m 23 #[.val (.ref o0), .val (.ref b1), .val (.ref o0), .val (.int (4 : Int32)), .val (.int (1 : Int32)), .val (.int d0)] [(.int (1 : Int32)), (.ref o0)])) _
  refine own_ldB X2 hx hZ e2 A2_o0 (j := (1 : Int32)) ⟨by decide, by decide⟩ rfl rfl (hb hby d1_23) ?_
  show Steps p.tables e below (T2.setTop (mkF m 24 #[.val (.ref o0), .val (.ref b1), .val (.ref o0), .val (.int (4 : Int32)), .val (.int (1 : Int32)), .val (.int d0)] [(.int (f 1))])) _
  rw [hf1]
  show Steps p.tables e below (T2.setTop (mkF m 24 #[.val (.ref o0), .val (.ref b1), .val (.ref o0), .val (.int (4 : Int32)), .val (.int (1 : Int32)), .val (.int d0)] [(.int d1)])) _
  refine XS.istore X2.here hx rfl (hb hby d1_24) rfl (l' := #[.val (.ref o0), .val (.ref b1), .val (.ref o0), .val (.int (4 : Int32)), .val (.int (1 : Int32)), .val (.int d1)]) rfl ?_
  show Steps p.tables e below (T2.setTop (mkF m 26 #[.val (.ref o0), .val (.ref b1), .val (.ref o0), .val (.int (4 : Int32)), .val (.int (1 : Int32)), .val (.int d1)] [])) _
  refine XS.aloadN X2.here hx rfl (hb hby d1_26) rfl rfl ?_
  show Steps p.tables e below (T2.setTop (mkF m 27 #[.val (.ref o0), .val (.ref b1), .val (.ref o0), .val (.int (4 : Int32)), .val (.int (1 : Int32)), .val (.int d1)] [(.ref b1)])) _
  refine XS.iload X2.here hx rfl (hb hby d1_27) rfl ?_
  show Steps p.tables e below (T2.setTop (mkF m 29 #[.val (.ref o0), .val (.ref b1), .val (.ref o0), .val (.int (4 : Int32)), .val (.int (1 : Int32)), .val (.int d1)] [(.int d1), (.ref b1)])) _
  refine XS.sipush X2.here hx rfl (hb hby d1_29) ?_
  show Steps p.tables e below (T2.setTop (mkF m 32 #[.val (.ref o0), .val (.ref b1), .val (.ref o0), .val (.int (4 : Int32)), .val (.int (1 : Int32)), .val (.int d1)] [(.int (255 : Int32)), (.int d1), (.ref b1)])) _
  refine XS.iand X2.here hx rfl (hb hby d1_32) rfl ?_
  show Steps p.tables e below (T2.setTop (mkF m 33 #[.val (.ref o0), .val (.ref b1), .val (.ref o0), .val (.int (4 : Int32)), .val (.int (1 : Int32)), .val (.int d1)] [(.int (d1 &&& (255 : Int32))), (.ref b1)])) _
  refine Jvm.Free.XT.dup2 X2.here hx rfl (hb hby d1_33) rfl rfl rfl ?_
  show Steps p.tables e below (T2.setTop (mkF m 34 #[.val (.ref o0), .val (.ref b1), .val (.ref o0), .val (.int (4 : Int32)), .val (.int (1 : Int32)), .val (.int d1)] [(.int (d1 &&& (255 : Int32))), (.ref b1), (.int (d1 &&& (255 : Int32))), (.ref b1)])) _
  refine own_ldI X2 hx hZ e2 V0 (j := (d1 &&& (255 : Int32))) (own_255 d1) rfl rfl (hb hby d1_34) ?_
  show Steps p.tables e below (T2.setTop (mkF m 35 #[.val (.ref o0), .val (.ref b1), .val (.ref o0), .val (.int (4 : Int32)), .val (.int (1 : Int32)), .val (.int d1)] [(.int ((own_inc (fun _ => 0) d0) ((d1 &&& (255 : Int32))).toNatClampNeg)), (.int (d1 &&& (255 : Int32))), (.ref b1)])) _
  refine XS.iconst X2.here hx rfl (hb hby d1_35) ?_
  show Steps p.tables e below (T2.setTop (mkF m 36 #[.val (.ref o0), .val (.ref b1), .val (.ref o0), .val (.int (4 : Int32)), .val (.int (1 : Int32)), .val (.int d1)] [(.int (1 : Int32)), (.int ((own_inc (fun _ => 0) d0) ((d1 &&& (255 : Int32))).toNatClampNeg)), (.int (d1 &&& (255 : Int32))), (.ref b1)])) _
  refine XS.iadd X2.here hx rfl (hb hby d1_36) rfl ?_
  show Steps p.tables e below (T2.setTop (mkF m 37 #[.val (.ref o0), .val (.ref b1), .val (.ref o0), .val (.int (4 : Int32)), .val (.int (1 : Int32)), .val (.int d1)] [(.int (((own_inc (fun _ => 0) d0) ((d1 &&& (255 : Int32))).toNatClampNeg) + (1 : Int32))), (.int (d1 &&& (255 : Int32))), (.ref b1)])) _
  refine st3 _ ?_
  show Steps p.tables e below (T3.setTop (mkF m 38 #[.val (.ref o0), .val (.ref b1), .val (.ref o0), .val (.int (4 : Int32)), .val (.int (1 : Int32)), .val (.int d1)] [])) _
  refine XS.iinc X3.here hx rfl (hb hby d1_38) rfl (l' := #[.val (.ref o0), .val (.ref b1), .val (.ref o0), .val (.int (4 : Int32)), .val (.int ((1 : Int32) + (1 : Int32))), .val (.int d1)]) rfl ?_
  show Steps p.tables e below (T3.setTop (mkF m 41 #[.val (.ref o0), .val (.ref b1), .val (.ref o0), .val (.int (4 : Int32)), .val (.int (2 : Int32)), .val (.int d1)] [])) _
  refine XS.goto X3.here hx rfl (pc0 := 41) (pc' := 14) rfl (hb hby d1_41) (by decide) (by decide) ?_
  show Steps p.tables e below (T3.setTop (mkF m 14 #[.val (.ref o0), .val (.ref b1), .val (.ref o0), .val (.int (4 : Int32)), .val (.int (2 : Int32)), .val (.int d1)] [])) _
  refine XS.iload X3.here hx rfl (hb hby d1_14) rfl ?_
  show Steps p.tables e below (T3.setTop (mkF m 16 #[.val (.ref o0), .val (.ref b1), .val (.ref o0), .val (.int (4 : Int32)), .val (.int (2 : Int32)), .val (.int d1)] [(.int (2 : Int32))])) _
  refine XS.iloadN X3.here hx rfl (hb hby d1_16) rfl ?_
  show Steps p.tables e below (T3.setTop (mkF m 17 #[.val (.ref o0), .val (.ref b1), .val (.ref o0), .val (.int (4 : Int32)), .val (.int (2 : Int32)), .val (.int d1)] [(.int (4 : Int32)), (.int (2 : Int32))])) _
  refine XS.icmpNo X3.here hx rfl (hb hby d1_17) rfl (tlt (by decide)).2.1 ?_
  show Steps p.tables e below (T3.setTop (mkF m 20 #[.val (.ref o0), .val (.ref b1), .val (.ref o0), .val (.int (4 : Int32)), .val (.int (2 : Int32)), .val (.int d1)] [])) _
  refine XS.aloadN X3.here hx rfl (hb hby d1_20) rfl rfl ?_
  show Steps p.tables e below (T3.setTop (mkF m 21 #[.val (.ref o0), .val (.ref b1), .val (.ref o0), .val (.int (4 : Int32)), .val (.int (2 : Int32)), .val (.int d1)] [(.ref o0)])) _
  refine XS.iload X3.here hx rfl (hb hby d1_21) rfl ?_
  show Steps p.tables e below (T3.setTop (mkF m 23 #[.val (.ref o0), .val (.ref b1), .val (.ref o0), .val (.int (4 : Int32)), .val (.int (2 : Int32)), .val (.int d1)] [(.int (2 : Int32)), (.ref o0)])) _
  refine own_ldB X3 hx hZ e3 A3_o0 (j := (2 : Int32)) ⟨by decide, by decide⟩ rfl rfl (hb hby d1_23) ?_
  show Steps p.tables e below (T3.setTop (mkF m 24 #[.val (.ref o0), .val (.ref b1), .val (.ref o0), .val (.int (4 : Int32)), .val (.int (2 : Int32)), .val (.int d1)] [(.int (f 2))])) _
  rw [hf2]
  show Steps p.tables e below (T3.setTop (mkF m 24 #[.val (.ref o0), .val (.ref b1), .val (.ref o0), .val (.int (4 : Int32)), .val (.int (2 : Int32)), .val (.int d1)] [(.int d2)])) _
  refine XS.istore X3.here hx rfl (hb hby d1_24) rfl (l' := #[.val (.ref o0), .val (.ref b1), .val (.ref o0), .val (.int (4 : Int32)), .val (.int (2 : Int32)), .val (.int d2)]) rfl ?_
  show Steps p.tables e below (T3.setTop (mkF m 26 #[.val (.ref o0), .val (.ref b1), .val (.ref o0), .val (.int (4 : Int32)), .val (.int (2 : Int32)), .val (.int d2)] [])) _
  refine XS.aloadN X3.here hx rfl (hb hby d1_26) rfl rfl ?_
  show Steps p.tables e below (T3.setTop (mkF m 27 #[.val (.ref o0), .val (.ref b1), .val (.ref o0), .val (.int (4 : Int32)), .val (.int (2 : Int32)), .val (.int d2)] [(.ref b1)])) _
  refine XS.iload X3.here hx rfl (hb hby d1_27) rfl ?_
  show Steps p.tables e below (T3.setTop (mkF m 29 #[.val (.ref o0), .val (.ref b1), .val (.ref o0), .val (.int (4 : Int32)), .val (.int (2 : Int32)), .val (.int d2)] [(.int d2), (.ref b1)])) _
  refine XS.sipush X3.here hx rfl (hb hby d1_29) ?_
  show Steps p.tables e below (T3.setTop (mkF m 32 #[.val (.ref o0), .val (.ref b1), .val (.ref o0), .val (.int (4 : Int32)), .val (.int (2 : Int32)), .val (.int d2)] [(.int (255 : Int32)), (.int d2), (.ref b1)])) _
  refine XS.iand X3.here hx rfl (hb hby d1_32) rfl ?_
  show Steps p.tables e below (T3.setTop (mkF m 33 #[.val (.ref o0), .val (.ref b1), .val (.ref o0), .val (.int (4 : Int32)), .val (.int (2 : Int32)), .val (.int d2)] [(.int (d2 &&& (255 : Int32))), (.ref b1)])) _
  refine Jvm.Free.XT.dup2 X3.here hx rfl (hb hby d1_33) rfl rfl rfl ?_
  show Steps p.tables e below (T3.setTop (mkF m 34 #[.val (.ref o0), .val (.ref b1), .val (.ref o0), .val (.int (4 : Int32)), .val (.int (2 : Int32)), .val (.int d2)] [(.int (d2 &&& (255 : Int32))), (.ref b1), (.int (d2 &&& (255 : Int32))), (.ref b1)])) _
  refine own_ldI X3 hx hZ e3 V1 (j := (d2 &&& (255 : Int32))) (own_255 d2) rfl rfl (hb hby d1_34) ?_
  show Steps p.tables e below (T3.setTop (mkF m 35 #[.val (.ref o0), .val (.ref b1), .val (.ref o0), .val (.int (4 : Int32)), .val (.int (2 : Int32)), .val (.int d2)] [(.int ((own_inc (own_inc (fun _ => 0) d0) d1) ((d2 &&& (255 : Int32))).toNatClampNeg)), (.int (d2 &&& (255 : Int32))), (.ref b1)])) _
  refine XS.iconst X3.here hx rfl (hb hby d1_35) ?_
  show Steps p.tables e below (T3.setTop (mkF m 36 #[.val (.ref o0), .val (.ref b1), .val (.ref o0), .val (.int (4 : Int32)), .val (.int (2 : Int32)), .val (.int d2)] [(.int (1 : Int32)), (.int ((own_inc (own_inc (fun _ => 0) d0) d1) ((d2 &&& (255 : Int32))).toNatClampNeg)), (.int (d2 &&& (255 : Int32))), (.ref b1)])) _
  refine XS.iadd X3.here hx rfl (hb hby d1_36) rfl ?_
  show Steps p.tables e below (T3.setTop (mkF m 37 #[.val (.ref o0), .val (.ref b1), .val (.ref o0), .val (.int (4 : Int32)), .val (.int (2 : Int32)), .val (.int d2)] [(.int (((own_inc (own_inc (fun _ => 0) d0) d1) ((d2 &&& (255 : Int32))).toNatClampNeg) + (1 : Int32))), (.int (d2 &&& (255 : Int32))), (.ref b1)])) _
  refine st4 _ ?_
  show Steps p.tables e below (T4.setTop (mkF m 38 #[.val (.ref o0), .val (.ref b1), .val (.ref o0), .val (.int (4 : Int32)), .val (.int (2 : Int32)), .val (.int d2)] [])) _
  refine XS.iinc X4.here hx rfl (hb hby d1_38) rfl (l' := #[.val (.ref o0), .val (.ref b1), .val (.ref o0), .val (.int (4 : Int32)), .val (.int ((2 : Int32) + (1 : Int32))), .val (.int d2)]) rfl ?_
  show Steps p.tables e below (T4.setTop (mkF m 41 #[.val (.ref o0), .val (.ref b1), .val (.ref o0), .val (.int (4 : Int32)), .val (.int (3 : Int32)), .val (.int d2)] [])) _
  refine XS.goto X4.here hx rfl (pc0 := 41) (pc' := 14) rfl (hb hby d1_41) (by decide) (by decide) ?_
  show Steps p.tables e below (T4.setTop (mkF m 14 #[.val (.ref o0), .val (.ref b1), .val (.ref o0), .val (.int (4 : Int32)), .val (.int (3 : Int32)), .val (.int d2)] [])) _
  refine XS.iload X4.here hx rfl (hb hby d1_14) rfl ?_
  show Steps p.tables e below (T4.setTop (mkF m 16 #[.val (.ref o0), .val (.ref b1), .val (.ref o0), .val (.int (4 : Int32)), .val (.int (3 : Int32)), .val (.int d2)] [(.int (3 : Int32))])) _
  refine XS.iloadN X4.here hx rfl (hb hby d1_16) rfl ?_
  show Steps p.tables e below (T4.setTop (mkF m 17 #[.val (.ref o0), .val (.ref b1), .val (.ref o0), .val (.int (4 : Int32)), .val (.int (3 : Int32)), .val (.int d2)] [(.int (4 : Int32)), (.int (3 : Int32))])) _
  refine XS.icmpNo X4.here hx rfl (hb hby d1_17) rfl (tlt (by decide)).2.1 ?_
  show Steps p.tables e below (T4.setTop (mkF m 20 #[.val (.ref o0), .val (.ref b1), .val (.ref o0), .val (.int (4 : Int32)), .val (.int (3 : Int32)), .val (.int d2)] [])) _
  refine XS.aloadN X4.here hx rfl (hb hby d1_20) rfl rfl ?_
  show Steps p.tables e below (T4.setTop (mkF m 21 #[.val (.ref o0), .val (.ref b1), .val (.ref o0), .val (.int (4 : Int32)), .val (.int (3 : Int32)), .val (.int d2)] [(.ref o0)])) _
  refine XS.iload X4.here hx rfl (hb hby d1_21) rfl ?_
  show Steps p.tables e below (T4.setTop (mkF m 23 #[.val (.ref o0), .val (.ref b1), .val (.ref o0), .val (.int (4 : Int32)), .val (.int (3 : Int32)), .val (.int d2)] [(.int (3 : Int32)), (.ref o0)])) _
  refine own_ldB X4 hx hZ e4 A4_o0 (j := (3 : Int32)) ⟨by decide, by decide⟩ rfl rfl (hb hby d1_23) ?_
  show Steps p.tables e below (T4.setTop (mkF m 24 #[.val (.ref o0), .val (.ref b1), .val (.ref o0), .val (.int (4 : Int32)), .val (.int (3 : Int32)), .val (.int d2)] [(.int (f 3))])) _
  rw [hf3]
  show Steps p.tables e below (T4.setTop (mkF m 24 #[.val (.ref o0), .val (.ref b1), .val (.ref o0), .val (.int (4 : Int32)), .val (.int (3 : Int32)), .val (.int d2)] [(.int d3)])) _
  refine XS.istore X4.here hx rfl (hb hby d1_24) rfl (l' := #[.val (.ref o0), .val (.ref b1), .val (.ref o0), .val (.int (4 : Int32)), .val (.int (3 : Int32)), .val (.int d3)]) rfl ?_
  show Steps p.tables e below (T4.setTop (mkF m 26 #[.val (.ref o0), .val (.ref b1), .val (.ref o0), .val (.int (4 : Int32)), .val (.int (3 : Int32)), .val (.int d3)] [])) _
  refine XS.aloadN X4.here hx rfl (hb hby d1_26) rfl rfl ?_
  show Steps p.tables e below (T4.setTop (mkF m 27 #[.val (.ref o0), .val (.ref b1), .val (.ref o0), .val (.int (4 : Int32)), .val (.int (3 : Int32)), .val (.int d3)] [(.ref b1)])) _
  refine XS.iload X4.here hx rfl (hb hby d1_27) rfl ?_
  show Steps p.tables e below (T4.setTop (mkF m 29 #[.val (.ref o0), .val (.ref b1), .val (.ref o0), .val (.int (4 : Int32)), .val (.int (3 : Int32)), .val (.int d3)] [(.int d3), (.ref b1)])) _
  refine XS.sipush X4.here hx rfl (hb hby d1_29) ?_
  show Steps p.tables e below (T4.setTop (mkF m 32 #[.val (.ref o0), .val (.ref b1), .val (.ref o0), .val (.int (4 : Int32)), .val (.int (3 : Int32)), .val (.int d3)] [(.int (255 : Int32)), (.int d3), (.ref b1)])) _
  refine XS.iand X4.here hx rfl (hb hby d1_32) rfl ?_
  show Steps p.tables e below (T4.setTop (mkF m 33 #[.val (.ref o0), .val (.ref b1), .val (.ref o0), .val (.int (4 : Int32)), .val (.int (3 : Int32)), .val (.int d3)] [(.int (d3 &&& (255 : Int32))), (.ref b1)])) _
  refine Jvm.Free.XT.dup2 X4.here hx rfl (hb hby d1_33) rfl rfl rfl ?_
  show Steps p.tables e below (T4.setTop (mkF m 34 #[.val (.ref o0), .val (.ref b1), .val (.ref o0), .val (.int (4 : Int32)), .val (.int (3 : Int32)), .val (.int d3)] [(.int (d3 &&& (255 : Int32))), (.ref b1), (.int (d3 &&& (255 : Int32))), (.ref b1)])) _
  refine own_ldI X4 hx hZ e4 V2 (j := (d3 &&& (255 : Int32))) (own_255 d3) rfl rfl (hb hby d1_34) ?_
  show Steps p.tables e below (T4.setTop (mkF m 35 #[.val (.ref o0), .val (.ref b1), .val (.ref o0), .val (.int (4 : Int32)), .val (.int (3 : Int32)), .val (.int d3)] [(.int ((own_inc (own_inc (own_inc (fun _ => 0) d0) d1) d2) ((d3 &&& (255 : Int32))).toNatClampNeg)), (.int (d3 &&& (255 : Int32))), (.ref b1)])) _
  refine XS.iconst X4.here hx rfl (hb hby d1_35) ?_
  show Steps p.tables e below (T4.setTop (mkF m 36 #[.val (.ref o0), .val (.ref b1), .val (.ref o0), .val (.int (4 : Int32)), .val (.int (3 : Int32)), .val (.int d3)] [(.int (1 : Int32)), (.int ((own_inc (own_inc (own_inc (fun _ => 0) d0) d1) d2) ((d3 &&& (255 : Int32))).toNatClampNeg)), (.int (d3 &&& (255 : Int32))), (.ref b1)])) _
  refine XS.iadd X4.here hx rfl (hb hby d1_36) rfl ?_
  show Steps p.tables e below (T4.setTop (mkF m 37 #[.val (.ref o0), .val (.ref b1), .val (.ref o0), .val (.int (4 : Int32)), .val (.int (3 : Int32)), .val (.int d3)] [(.int (((own_inc (own_inc (own_inc (fun _ => 0) d0) d1) d2) ((d3 &&& (255 : Int32))).toNatClampNeg) + (1 : Int32))), (.int (d3 &&& (255 : Int32))), (.ref b1)])) _
  refine st5 _ ?_
  show Steps p.tables e below (T5.setTop (mkF m 38 #[.val (.ref o0), .val (.ref b1), .val (.ref o0), .val (.int (4 : Int32)), .val (.int (3 : Int32)), .val (.int d3)] [])) _
  refine XS.iinc X5.here hx rfl (hb hby d1_38) rfl (l' := #[.val (.ref o0), .val (.ref b1), .val (.ref o0), .val (.int (4 : Int32)), .val (.int ((3 : Int32) + (1 : Int32))), .val (.int d3)]) rfl ?_
  show Steps p.tables e below (T5.setTop (mkF m 41 #[.val (.ref o0), .val (.ref b1), .val (.ref o0), .val (.int (4 : Int32)), .val (.int (4 : Int32)), .val (.int d3)] [])) _
  refine XS.goto X5.here hx rfl (pc0 := 41) (pc' := 14) rfl (hb hby d1_41) (by decide) (by decide) ?_
  show Steps p.tables e below (T5.setTop (mkF m 14 #[.val (.ref o0), .val (.ref b1), .val (.ref o0), .val (.int (4 : Int32)), .val (.int (4 : Int32)), .val (.int d3)] [])) _
  refine XS.iload X5.here hx rfl (hb hby d1_14) rfl ?_
  show Steps p.tables e below (T5.setTop (mkF m 16 #[.val (.ref o0), .val (.ref b1), .val (.ref o0), .val (.int (4 : Int32)), .val (.int (4 : Int32)), .val (.int d3)] [(.int (4 : Int32))])) _
  refine XS.iloadN X5.here hx rfl (hb hby d1_16) rfl ?_
  show Steps p.tables e below (T5.setTop (mkF m 17 #[.val (.ref o0), .val (.ref b1), .val (.ref o0), .val (.int (4 : Int32)), .val (.int (4 : Int32)), .val (.int d3)] [(.int (4 : Int32)), (.int (4 : Int32))])) _
  refine XS.icmpYes X5.here hx rfl (pc0 := 17) (pc' := 44) rfl (hb hby d1_17) rfl (flt (Int32.lt_irrefl)).2.1 (by decide) (by decide) ?_
  show Steps p.tables e below (T5.setTop (mkF m 44 #[.val (.ref o0), .val (.ref b1), .val (.ref o0), .val (.int (4 : Int32)), .val (.int (4 : Int32)), .val (.int d3)] [])) _
  refine XS.aloadN X5.here hx rfl (hb hby d1_44) rfl rfl ?_
  show Steps p.tables e below (T5.setTop (mkF m 45 #[.val (.ref o0), .val (.ref b1), .val (.ref o0), .val (.int (4 : Int32)), .val (.int (4 : Int32)), .val (.int d3)] [(.ref b1)])) _
  exact retOut X5 hx Bd.returns rfl (Or.inr (Or.inr (Or.inr (Or.inr ⟨rfl, rfl, rfl⟩)))) (hb hby d1_45) hr
theorem pn_0 : plainName "com/example/fewbits/fewbits/HuffmanCodeCountBytesPinLaw" = true := by first | (simp [plainName, overriddenIn]; done) | decide +kernel
theorem ef_0 (m : MethodId) (x0 : Int32) (x1 : Int32) (x2 : Int32) (x3 : Int32) (x4 : Int32) (x5 : Int32) : entryFrame m #[(.int x0), (.int x1), (.int x2), (.int x3), (.int x4), (.int x5)] maxLocals = mkF m 0 #[.val (.int x0), .val (.int x1), .val (.int x2), .val (.int x3), .val (.int x4), .val (.int x5), .unset, .unset, .unset, .unset, .unset, .unset, .unset, .unset, .unset, .unset] [] := by first | (simp [entryFrame, mkF, argsToLocals, Value.category, maxLocals]; done) | rfl
theorem pd_0 : parseMethodDescriptor "([B)[I" = some ⟨[(.array .byte)], some (.array .int)⟩ := by decide +kernel
theorem pd_1 : parseMethodDescriptor "(BI)I" = some ⟨[.byte, .int], some .int⟩ := by decide +kernel
def Q0_0 (Z : State) (p0 : Int32) (p1 : Int32) (p2 : Int32) (p3 : Int32) (p4 : Int32) (p5 : Int32) (h0 : Heap) (n0 : Nat) (v : Option Value) (h : Heap) (L : List Loc) : Prop := v = some (.int (1 : Int32)) ∧ Fr n0 L
set_option maxRecDepth 65536 in
set_option maxHeartbeats 40000000 in
theorem rm0_0 (l : Launch) (Z : State) (a0 : Array Value) (hw : ∀ d ∈ tables_1, d.before a0 Z = true) (ws : List Jvm.Cond) (p0 : Int32) (p1 : Int32) (p2 : Int32) (p3 : Int32) (p4 : Int32) (p5 : Int32) (h0 : Heap) (n0 : Nat) (Z0 : n0 ≤ h0.size) (hn : ((p0 &&& (2147483647 : Int32)) % (5 : Int32)) = (0 : Int32)) :
    MetFree l x (head1 (Jvm.Cond.code x code maxLocals ret :: ws) room_1) (fun a_ U_ => a_ = #[(.int p0), (.int p1), (.int p2), (.int p3), (.int p4), (.int p5)] ∧ Z.Warmed39 U_.vm ∧ U_.heap = h0) (fun _ _ _ _ _ => True) (fun _ U_ o_ U' => ∃ v_ L_, o_ = .returned v_ ∧ (Q0_0 Z p0 p1 p2 p3 p4 p5 h0 n0 v_ U'.heap L_) ∧ FrameEnd U_ o_ U' L_ room_1.cells room_1.slots) := by
  refine MetFree.of_bodySF (plainFor_of_name pn_0) hisR ?_
  intro p e s m args below meth c s₁ Bd hml0 hP hK
  obtain ⟨rfl, hZ, hh⟩ := hP
  have hx := Bd.exec
  have hby := Bd.bytes
  have hml : c.maxLocals = 16 := hml0
  have hown : s.vm.findClass "com/example/fewbits/fewbits/HuffmanCodeCountBytesPinLaw" = some m.cls := findClass_of_methodNamed Bd.named
  have hnm := (name_of_methodNamed Bd.named Bd.method).1
  have X0 : Stand p l e room_1 s m #[(.int p0), (.int p1), (.int p2), (.int p3), (.int p4), (.int p5)] below meth c s₁ [] 0 0 := Stand.of_body Bd
  have e0 : s₁.heap = h0 := by rw [← hh, Bd.state]; rfl
  have N0 := Fr.nil n0
  have pre0 : ∀ t, Steps p.tables e below (s₁.setTop (mkF m 0 #[.val (.int p0), .val (.int p1), .val (.int p2), .val (.int p3), .val (.int p4), .val (.int p5), .unset, .unset, .unset, .unset, .unset, .unset, .unset, .unset, .unset, .unset] [])) t → Steps p.tables e below (s₁.setTop (entryFrame m #[(.int p0), (.int p1), (.int p2), (.int p3), (.int p4), (.int p5)] maxLocals)) t := fun t k => castTop (ef_0 m p0 p1 p2 p3 p4 p5) k
  obtain ⟨ba, h_ba⟩ : ∃ z, (p2.toInt8.toInt32) = z := ⟨_, rfl⟩
  have h8_ba : ba.toInt8.toInt32 = ba := by rw [← h_ba]; exact own_bb _
  obtain ⟨bb, h_bb⟩ : ∃ z, (p3.toInt8.toInt32) = z := ⟨_, rfl⟩
  have h8_bb : bb.toInt8.toInt32 = bb := by rw [← h_bb]; exact own_bb _
  obtain ⟨bc, h_bc⟩ : ∃ z, (p4.toInt8.toInt32) = z := ⟨_, rfl⟩
  have h8_bc : bc.toInt8.toInt32 = bc := by rw [← h_bc]; exact own_bb _
  obtain ⟨bd, h_bd⟩ : ∃ z, (p5.toInt8.toInt32) = z := ⟨_, rfl⟩
  have h8_bd : bd.toInt8.toInt32 = bd := by rw [← h_bd]; exact own_bb _
  obtain ⟨T1, h1, X1, e1, E1, A1, st1⟩ := own_newI X0 hx hZ (hw _ (List.mem_of_getElem? (i := 1) rfl)) rfl e0 (g := (mkF m 32 #[.val (.int p0), .val (.int p1), .val (.int p2), .val (.int p3), .val (.int p4), .val (.int p5), .val (.int (0 : Int32)), .val (.int ba), .val (.int bb), .val (.int bc), .val (.int bd), .unset, .unset, .unset, .unset, .unset] [(.int (0 : Int32))])) rfl (hb hby at_32) rfl (by decide) (cap := 0) (by decide) (by decide) (by decide) (by decide)
  obtain ⟨b1, g1⟩ : ∃ z, z = h0.size := ⟨_, rfl⟩
  rw [← g1] at A1 st1
  have f_b1 : n0 ≤ b1 := Nat.le_trans Z0 (Nat.le_of_eq g1.symm)
  have s_b1 : h0.size ≤ b1 := Nat.le_trans (Keep.refl h0 []).1 (Nat.le_of_eq g1.symm)
  have K1 : Keep h0 h1 [] := (Keep.refl h0 []).ext E1
  have Z1 : n0 ≤ h1.size := Nat.le_trans Z0 E1.1
  obtain ⟨_, _, ⟨T2, L2, k2, n2⟩, -, X2, ⟨Lc2, hQ2, l2, y2, z2⟩, st2⟩ := Jvm.LawKit.callS X1 hx (y := (⟨"com/example/fewbits/fewbits/HuffmanCode", "countBytes", "([B)[I"⟩ : MethodName)) hown (mvT hZ (hw _ (List.mem_of_getElem? (i := 2) rfl))) (mvT hZ (hw _ (List.mem_of_getElem? (i := 3) rfl))) (mvT hZ (hw _ (List.mem_of_getElem? (i := 4) rfl))) (mvT hZ (hw _ (List.mem_of_getElem? (i := 5) rfl))) (by decide) (backOf (W := 0) (rm1_0 l Z a0 hw [] b1 _  h1 n0 Z1 A1) hZ (hw _ (List.mem_of_getElem? (i := 5) rfl)) (hw _ (List.mem_of_getElem? (i := 4) rfl)) (by decide) (by decide)) (g := (mkF m 138 #[.val (.int p0), .val (.int p1), .val (.int p2), .val (.int p3), .val (.int p4), .val (.int p5), .val (.int (0 : Int32)), .val (.int ba), .val (.int bb), .val (.int bc), .val (.int bd), .val (.ref b1), .unset, .unset, .unset, .unset] [(.ref b1)])) rfl (by rw [hml]; rfl) (argsL := [(.ref b1)]) (rest := []) (lenOf pd_0 rfl) rfl (by show 2 * 0 + _ ≤ _; exact Nat.le_of_eq rfl) (hb hby at_138) (fun _ _ => ⟨rfl, e1, (by decide : 1 + 1 ≤ _), (by decide : 0 + 256 ≤ _)⟩)
  dsimp only [Pt.U, Pt.locs, Pt.cells, Pt.slots] at X2 l2 y2 z2 st2 hQ2
  subst l2 y2 z2
  obtain ⟨⟨cc, rfl, sc2, AC2⟩, Nq2, Kq2⟩ := hQ2
  have N2 := Fr.app N0 Nq2
  have Z2 : n0 ≤ T2.heap.size := Nat.le_trans Z1 Kq2.1
  have AD2 := A1.keep Kq2 nin0
  obtain ⟨kk, h_kk⟩ : ∃ z, (p1 &&& (255 : Int32)) = z := ⟨_, rfl⟩
  have hk0 : ¬ kk < 0 ∧ kk < (256 : Int32) := by rw [← h_kk]; exact own_255 _
  have hfin : ((fun _ => 0) (kk).toNatClampNeg) = (0 : Int32) := by
    rfl
  obtain ⟨fs, hr, hrun, hended, hW, hsame⟩ := X2.leave (v := some (.int (1 : Int32))) (fun h => by rw [Bd.returns] at h; cases h)
  refine ⟨_, _, pre0 _ ?_, hrun, hended, _, _, rfl, ⟨rfl, N2⟩, ⟨_, rfl⟩, hW, hsame.mono (by decide) (by decide)⟩
  show Steps p.tables e below (s₁.setTop (mkF m 0 #[.val (.int p0), .val (.int p1), .val (.int p2), .val (.int p3), .val (.int p4), .val (.int p5), .unset, .unset, .unset, .unset, .unset, .unset, .unset, .unset, .unset, .unset] [])) _
  refine XS.iloadN X0.here hx rfl (hb hby at_0) rfl ?_
  show Steps p.tables e below (s₁.setTop (mkF m 1 #[.val (.int p0), .val (.int p1), .val (.int p2), .val (.int p3), .val (.int p4), .val (.int p5), .unset, .unset, .unset, .unset, .unset, .unset, .unset, .unset, .unset, .unset] [(.int p0)])) _
  refine X0.ldcI hx hown (mvT hZ (hw _ (List.mem_of_getElem? (i := 0) rfl))) rfl (hb hby at_1) ?_
  show Steps p.tables e below (s₁.setTop (mkF m 3 #[.val (.int p0), .val (.int p1), .val (.int p2), .val (.int p3), .val (.int p4), .val (.int p5), .unset, .unset, .unset, .unset, .unset, .unset, .unset, .unset, .unset, .unset] [(.int (2147483647 : Int32)), (.int p0)])) _
  refine XS.iand X0.here hx rfl (hb hby at_3) rfl ?_
  show Steps p.tables e below (s₁.setTop (mkF m 4 #[.val (.int p0), .val (.int p1), .val (.int p2), .val (.int p3), .val (.int p4), .val (.int p5), .unset, .unset, .unset, .unset, .unset, .unset, .unset, .unset, .unset, .unset] [(.int (p0 &&& (2147483647 : Int32)))])) _
  refine XS.iconst X0.here hx rfl (hb hby at_4) ?_
  show Steps p.tables e below (s₁.setTop (mkF m 5 #[.val (.int p0), .val (.int p1), .val (.int p2), .val (.int p3), .val (.int p4), .val (.int p5), .unset, .unset, .unset, .unset, .unset, .unset, .unset, .unset, .unset, .unset] [(.int (5 : Int32)), (.int (p0 &&& (2147483647 : Int32)))])) _
  refine iremM X0 hx rfl (hb hby at_5) rfl (by decide) ?_
  show Steps p.tables e below (s₁.setTop (mkF m 6 #[.val (.int p0), .val (.int p1), .val (.int p2), .val (.int p3), .val (.int p4), .val (.int p5), .unset, .unset, .unset, .unset, .unset, .unset, .unset, .unset, .unset, .unset] [(.int ((p0 &&& (2147483647 : Int32)) % (5 : Int32)))])) _
  refine XS.istore X0.here hx rfl (hb hby at_6) rfl (l' := #[.val (.int p0), .val (.int p1), .val (.int p2), .val (.int p3), .val (.int p4), .val (.int p5), .val (.int ((p0 &&& (2147483647 : Int32)) % (5 : Int32))), .unset, .unset, .unset, .unset, .unset, .unset, .unset, .unset, .unset]) rfl ?_
  show Steps p.tables e below (s₁.setTop (mkF m 8 #[.val (.int p0), .val (.int p1), .val (.int p2), .val (.int p3), .val (.int p4), .val (.int p5), .val (.int ((p0 &&& (2147483647 : Int32)) % (5 : Int32))), .unset, .unset, .unset, .unset, .unset, .unset, .unset, .unset, .unset] [])) _
  rw [hn]
  show Steps p.tables e below (s₁.setTop (mkF m 8 #[.val (.int p0), .val (.int p1), .val (.int p2), .val (.int p3), .val (.int p4), .val (.int p5), .val (.int (0 : Int32)), .unset, .unset, .unset, .unset, .unset, .unset, .unset, .unset, .unset] [])) _
  refine XS.iloadN X0.here hx rfl (hb hby at_8) rfl ?_
  show Steps p.tables e below (s₁.setTop (mkF m 9 #[.val (.int p0), .val (.int p1), .val (.int p2), .val (.int p3), .val (.int p4), .val (.int p5), .val (.int (0 : Int32)), .unset, .unset, .unset, .unset, .unset, .unset, .unset, .unset, .unset] [(.int p2)])) _
  refine XS.i2b X0.here hx rfl (hb hby at_9) rfl ?_
  show Steps p.tables e below (s₁.setTop (mkF m 10 #[.val (.int p0), .val (.int p1), .val (.int p2), .val (.int p3), .val (.int p4), .val (.int p5), .val (.int (0 : Int32)), .unset, .unset, .unset, .unset, .unset, .unset, .unset, .unset, .unset] [(.int (p2.toInt8.toInt32))])) _
  refine XS.istore X0.here hx rfl (hb hby at_10) rfl (l' := #[.val (.int p0), .val (.int p1), .val (.int p2), .val (.int p3), .val (.int p4), .val (.int p5), .val (.int (0 : Int32)), .val (.int (p2.toInt8.toInt32)), .unset, .unset, .unset, .unset, .unset, .unset, .unset, .unset]) rfl ?_
  show Steps p.tables e below (s₁.setTop (mkF m 12 #[.val (.int p0), .val (.int p1), .val (.int p2), .val (.int p3), .val (.int p4), .val (.int p5), .val (.int (0 : Int32)), .val (.int (p2.toInt8.toInt32)), .unset, .unset, .unset, .unset, .unset, .unset, .unset, .unset] [])) _
  rw [h_ba]
  show Steps p.tables e below (s₁.setTop (mkF m 12 #[.val (.int p0), .val (.int p1), .val (.int p2), .val (.int p3), .val (.int p4), .val (.int p5), .val (.int (0 : Int32)), .val (.int ba), .unset, .unset, .unset, .unset, .unset, .unset, .unset, .unset] [])) _
  refine XS.iloadN X0.here hx rfl (hb hby at_12) rfl ?_
  show Steps p.tables e below (s₁.setTop (mkF m 13 #[.val (.int p0), .val (.int p1), .val (.int p2), .val (.int p3), .val (.int p4), .val (.int p5), .val (.int (0 : Int32)), .val (.int ba), .unset, .unset, .unset, .unset, .unset, .unset, .unset, .unset] [(.int p3)])) _
  refine XS.i2b X0.here hx rfl (hb hby at_13) rfl ?_
  show Steps p.tables e below (s₁.setTop (mkF m 14 #[.val (.int p0), .val (.int p1), .val (.int p2), .val (.int p3), .val (.int p4), .val (.int p5), .val (.int (0 : Int32)), .val (.int ba), .unset, .unset, .unset, .unset, .unset, .unset, .unset, .unset] [(.int (p3.toInt8.toInt32))])) _
  refine XS.istore X0.here hx rfl (hb hby at_14) rfl (l' := #[.val (.int p0), .val (.int p1), .val (.int p2), .val (.int p3), .val (.int p4), .val (.int p5), .val (.int (0 : Int32)), .val (.int ba), .val (.int (p3.toInt8.toInt32)), .unset, .unset, .unset, .unset, .unset, .unset, .unset]) rfl ?_
  show Steps p.tables e below (s₁.setTop (mkF m 16 #[.val (.int p0), .val (.int p1), .val (.int p2), .val (.int p3), .val (.int p4), .val (.int p5), .val (.int (0 : Int32)), .val (.int ba), .val (.int (p3.toInt8.toInt32)), .unset, .unset, .unset, .unset, .unset, .unset, .unset] [])) _
  rw [h_bb]
  show Steps p.tables e below (s₁.setTop (mkF m 16 #[.val (.int p0), .val (.int p1), .val (.int p2), .val (.int p3), .val (.int p4), .val (.int p5), .val (.int (0 : Int32)), .val (.int ba), .val (.int bb), .unset, .unset, .unset, .unset, .unset, .unset, .unset] [])) _
  refine XS.iload X0.here hx rfl (hb hby at_16) rfl ?_
  show Steps p.tables e below (s₁.setTop (mkF m 18 #[.val (.int p0), .val (.int p1), .val (.int p2), .val (.int p3), .val (.int p4), .val (.int p5), .val (.int (0 : Int32)), .val (.int ba), .val (.int bb), .unset, .unset, .unset, .unset, .unset, .unset, .unset] [(.int p4)])) _
  refine XS.i2b X0.here hx rfl (hb hby at_18) rfl ?_
  show Steps p.tables e below (s₁.setTop (mkF m 19 #[.val (.int p0), .val (.int p1), .val (.int p2), .val (.int p3), .val (.int p4), .val (.int p5), .val (.int (0 : Int32)), .val (.int ba), .val (.int bb), .unset, .unset, .unset, .unset, .unset, .unset, .unset] [(.int (p4.toInt8.toInt32))])) _
  refine XS.istore X0.here hx rfl (hb hby at_19) rfl (l' := #[.val (.int p0), .val (.int p1), .val (.int p2), .val (.int p3), .val (.int p4), .val (.int p5), .val (.int (0 : Int32)), .val (.int ba), .val (.int bb), .val (.int (p4.toInt8.toInt32)), .unset, .unset, .unset, .unset, .unset, .unset]) rfl ?_
  show Steps p.tables e below (s₁.setTop (mkF m 21 #[.val (.int p0), .val (.int p1), .val (.int p2), .val (.int p3), .val (.int p4), .val (.int p5), .val (.int (0 : Int32)), .val (.int ba), .val (.int bb), .val (.int (p4.toInt8.toInt32)), .unset, .unset, .unset, .unset, .unset, .unset] [])) _
  rw [h_bc]
  show Steps p.tables e below (s₁.setTop (mkF m 21 #[.val (.int p0), .val (.int p1), .val (.int p2), .val (.int p3), .val (.int p4), .val (.int p5), .val (.int (0 : Int32)), .val (.int ba), .val (.int bb), .val (.int bc), .unset, .unset, .unset, .unset, .unset, .unset] [])) _
  refine XS.iload X0.here hx rfl (hb hby at_21) rfl ?_
  show Steps p.tables e below (s₁.setTop (mkF m 23 #[.val (.int p0), .val (.int p1), .val (.int p2), .val (.int p3), .val (.int p4), .val (.int p5), .val (.int (0 : Int32)), .val (.int ba), .val (.int bb), .val (.int bc), .unset, .unset, .unset, .unset, .unset, .unset] [(.int p5)])) _
  refine XS.i2b X0.here hx rfl (hb hby at_23) rfl ?_
  show Steps p.tables e below (s₁.setTop (mkF m 24 #[.val (.int p0), .val (.int p1), .val (.int p2), .val (.int p3), .val (.int p4), .val (.int p5), .val (.int (0 : Int32)), .val (.int ba), .val (.int bb), .val (.int bc), .unset, .unset, .unset, .unset, .unset, .unset] [(.int (p5.toInt8.toInt32))])) _
  refine XS.istore X0.here hx rfl (hb hby at_24) rfl (l' := #[.val (.int p0), .val (.int p1), .val (.int p2), .val (.int p3), .val (.int p4), .val (.int p5), .val (.int (0 : Int32)), .val (.int ba), .val (.int bb), .val (.int bc), .val (.int (p5.toInt8.toInt32)), .unset, .unset, .unset, .unset, .unset]) rfl ?_
  show Steps p.tables e below (s₁.setTop (mkF m 26 #[.val (.int p0), .val (.int p1), .val (.int p2), .val (.int p3), .val (.int p4), .val (.int p5), .val (.int (0 : Int32)), .val (.int ba), .val (.int bb), .val (.int bc), .val (.int (p5.toInt8.toInt32)), .unset, .unset, .unset, .unset, .unset] [])) _
  rw [h_bd]
  show Steps p.tables e below (s₁.setTop (mkF m 26 #[.val (.int p0), .val (.int p1), .val (.int p2), .val (.int p3), .val (.int p4), .val (.int p5), .val (.int (0 : Int32)), .val (.int ba), .val (.int bb), .val (.int bc), .val (.int bd), .unset, .unset, .unset, .unset, .unset] [])) _
  refine XS.iload X0.here hx rfl (hb hby at_26) rfl ?_
  show Steps p.tables e below (s₁.setTop (mkF m 28 #[.val (.int p0), .val (.int p1), .val (.int p2), .val (.int p3), .val (.int p4), .val (.int p5), .val (.int (0 : Int32)), .val (.int ba), .val (.int bb), .val (.int bc), .val (.int bd), .unset, .unset, .unset, .unset, .unset] [(.int (0 : Int32))])) _
  refine XS.ifNo X0.here hx rfl (hb hby at_28) rfl ((if0 _ _).trans (teq (rfl : (0 : Int32) = (0 : Int32))).2) ?_
  show Steps p.tables e below (s₁.setTop (mkF m 31 #[.val (.int p0), .val (.int p1), .val (.int p2), .val (.int p3), .val (.int p4), .val (.int p5), .val (.int (0 : Int32)), .val (.int ba), .val (.int bb), .val (.int bc), .val (.int bd), .unset, .unset, .unset, .unset, .unset] [])) _
  refine XS.iconst X0.here hx rfl (hb hby at_31) ?_
  show Steps p.tables e below (s₁.setTop (mkF m 32 #[.val (.int p0), .val (.int p1), .val (.int p2), .val (.int p3), .val (.int p4), .val (.int p5), .val (.int (0 : Int32)), .val (.int ba), .val (.int bb), .val (.int bc), .val (.int bd), .unset, .unset, .unset, .unset, .unset] [(.int (0 : Int32))])) _
  refine st1 _ ?_
  show Steps p.tables e below (T1.setTop (mkF m 34 #[.val (.int p0), .val (.int p1), .val (.int p2), .val (.int p3), .val (.int p4), .val (.int p5), .val (.int (0 : Int32)), .val (.int ba), .val (.int bb), .val (.int bc), .val (.int bd), .unset, .unset, .unset, .unset, .unset] [(.ref b1)])) _
  refine XS.astore X1.here hx rfl (hb hby at_34) rfl rfl (l' := #[.val (.int p0), .val (.int p1), .val (.int p2), .val (.int p3), .val (.int p4), .val (.int p5), .val (.int (0 : Int32)), .val (.int ba), .val (.int bb), .val (.int bc), .val (.int bd), .val (.ref b1), .unset, .unset, .unset, .unset]) rfl ?_
  show Steps p.tables e below (T1.setTop (mkF m 36 #[.val (.int p0), .val (.int p1), .val (.int p2), .val (.int p3), .val (.int p4), .val (.int p5), .val (.int (0 : Int32)), .val (.int ba), .val (.int bb), .val (.int bc), .val (.int bd), .val (.ref b1), .unset, .unset, .unset, .unset] [])) _
  refine XS.goto X1.here hx rfl (pc0 := 36) (pc' := 136) rfl (hb hby at_36) (by decide) (by decide) ?_
  show Steps p.tables e below (T1.setTop (mkF m 136 #[.val (.int p0), .val (.int p1), .val (.int p2), .val (.int p3), .val (.int p4), .val (.int p5), .val (.int (0 : Int32)), .val (.int ba), .val (.int bb), .val (.int bc), .val (.int bd), .val (.ref b1), .unset, .unset, .unset, .unset] [])) _
  refine XS.aload X1.here hx rfl (hb hby at_136) rfl rfl ?_
  show Steps p.tables e below (T1.setTop (mkF m 138 #[.val (.int p0), .val (.int p1), .val (.int p2), .val (.int p3), .val (.int p4), .val (.int p5), .val (.int (0 : Int32)), .val (.int ba), .val (.int bb), .val (.int bc), .val (.int bd), .val (.ref b1), .unset, .unset, .unset, .unset] [(.ref b1)])) _
  refine st2 _ ?_
  show Steps p.tables e below (T2.setTop (mkF m 141 #[.val (.int p0), .val (.int p1), .val (.int p2), .val (.int p3), .val (.int p4), .val (.int p5), .val (.int (0 : Int32)), .val (.int ba), .val (.int bb), .val (.int bc), .val (.int bd), .val (.ref b1), .unset, .unset, .unset, .unset] [(.ref cc)])) _
  refine XS.astore X2.here hx rfl (hb hby at_141) rfl rfl (l' := #[.val (.int p0), .val (.int p1), .val (.int p2), .val (.int p3), .val (.int p4), .val (.int p5), .val (.int (0 : Int32)), .val (.int ba), .val (.int bb), .val (.int bc), .val (.int bd), .val (.ref b1), .val (.ref cc), .unset, .unset, .unset]) rfl ?_
  show Steps p.tables e below (T2.setTop (mkF m 143 #[.val (.int p0), .val (.int p1), .val (.int p2), .val (.int p3), .val (.int p4), .val (.int p5), .val (.int (0 : Int32)), .val (.int ba), .val (.int bb), .val (.int bc), .val (.int bd), .val (.ref b1), .val (.ref cc), .unset, .unset, .unset] [])) _
  refine XS.aload X2.here hx rfl (hb hby at_143) rfl rfl ?_
  show Steps p.tables e below (T2.setTop (mkF m 145 #[.val (.int p0), .val (.int p1), .val (.int p2), .val (.int p3), .val (.int p4), .val (.int p5), .val (.int (0 : Int32)), .val (.int ba), .val (.int bb), .val (.int bc), .val (.int bd), .val (.ref b1), .val (.ref cc), .unset, .unset, .unset] [(.ref cc)])) _
  refine XS.ifnullNo X2.here hx rfl (hb hby at_145) rfl ?_
  show Steps p.tables e below (T2.setTop (mkF m 148 #[.val (.int p0), .val (.int p1), .val (.int p2), .val (.int p3), .val (.int p4), .val (.int p5), .val (.int (0 : Int32)), .val (.int ba), .val (.int bb), .val (.int bc), .val (.int bd), .val (.ref b1), .val (.ref cc), .unset, .unset, .unset] [])) _
  refine XS.aload X2.here hx rfl (hb hby at_148) rfl rfl ?_
  show Steps p.tables e below (T2.setTop (mkF m 150 #[.val (.int p0), .val (.int p1), .val (.int p2), .val (.int p3), .val (.int p4), .val (.int p5), .val (.int (0 : Int32)), .val (.int ba), .val (.int bb), .val (.int bc), .val (.int bd), .val (.ref b1), .val (.ref cc), .unset, .unset, .unset] [(.ref cc)])) _
  refine own_len X2 hx hZ rfl AC2 rfl rfl (hb hby at_150) ?_
  show Steps p.tables e below (T2.setTop (mkF m 151 #[.val (.int p0), .val (.int p1), .val (.int p2), .val (.int p3), .val (.int p4), .val (.int p5), .val (.int (0 : Int32)), .val (.int ba), .val (.int bb), .val (.int bc), .val (.int bd), .val (.ref b1), .val (.ref cc), .unset, .unset, .unset] [(.int (256 : Int32))])) _
  refine XS.sipush X2.here hx rfl (hb hby at_151) ?_
  show Steps p.tables e below (T2.setTop (mkF m 154 #[.val (.int p0), .val (.int p1), .val (.int p2), .val (.int p3), .val (.int p4), .val (.int p5), .val (.int (0 : Int32)), .val (.int ba), .val (.int bb), .val (.int bc), .val (.int bd), .val (.ref b1), .val (.ref cc), .unset, .unset, .unset] [(.int (256 : Int32)), (.int (256 : Int32))])) _
  refine XS.icmpYes X2.here hx rfl (pc0 := 154) (pc' := 159) rfl (hb hby at_154) rfl (teq (rfl : (256 : Int32) = (256 : Int32))).1 (by decide) (by decide) ?_
  show Steps p.tables e below (T2.setTop (mkF m 159 #[.val (.int p0), .val (.int p1), .val (.int p2), .val (.int p3), .val (.int p4), .val (.int p5), .val (.int (0 : Int32)), .val (.int ba), .val (.int bb), .val (.int bc), .val (.int bd), .val (.ref b1), .val (.ref cc), .unset, .unset, .unset] [])) _
  refine XS.iloadN X2.here hx rfl (hb hby at_159) rfl ?_
  show Steps p.tables e below (T2.setTop (mkF m 160 #[.val (.int p0), .val (.int p1), .val (.int p2), .val (.int p3), .val (.int p4), .val (.int p5), .val (.int (0 : Int32)), .val (.int ba), .val (.int bb), .val (.int bc), .val (.int bd), .val (.ref b1), .val (.ref cc), .unset, .unset, .unset] [(.int p1)])) _
  refine XS.sipush X2.here hx rfl (hb hby at_160) ?_
  show Steps p.tables e below (T2.setTop (mkF m 163 #[.val (.int p0), .val (.int p1), .val (.int p2), .val (.int p3), .val (.int p4), .val (.int p5), .val (.int (0 : Int32)), .val (.int ba), .val (.int bb), .val (.int bc), .val (.int bd), .val (.ref b1), .val (.ref cc), .unset, .unset, .unset] [(.int (255 : Int32)), (.int p1)])) _
  refine XS.iand X2.here hx rfl (hb hby at_163) rfl ?_
  show Steps p.tables e below (T2.setTop (mkF m 164 #[.val (.int p0), .val (.int p1), .val (.int p2), .val (.int p3), .val (.int p4), .val (.int p5), .val (.int (0 : Int32)), .val (.int ba), .val (.int bb), .val (.int bc), .val (.int bd), .val (.ref b1), .val (.ref cc), .unset, .unset, .unset] [(.int (p1 &&& (255 : Int32)))])) _
  refine XS.istore X2.here hx rfl (hb hby at_164) rfl (l' := #[.val (.int p0), .val (.int p1), .val (.int p2), .val (.int p3), .val (.int p4), .val (.int p5), .val (.int (0 : Int32)), .val (.int ba), .val (.int bb), .val (.int bc), .val (.int bd), .val (.ref b1), .val (.ref cc), .val (.int (p1 &&& (255 : Int32))), .unset, .unset]) rfl ?_
  show Steps p.tables e below (T2.setTop (mkF m 166 #[.val (.int p0), .val (.int p1), .val (.int p2), .val (.int p3), .val (.int p4), .val (.int p5), .val (.int (0 : Int32)), .val (.int ba), .val (.int bb), .val (.int bc), .val (.int bd), .val (.ref b1), .val (.ref cc), .val (.int (p1 &&& (255 : Int32))), .unset, .unset] [])) _
  rw [h_kk]
  show Steps p.tables e below (T2.setTop (mkF m 166 #[.val (.int p0), .val (.int p1), .val (.int p2), .val (.int p3), .val (.int p4), .val (.int p5), .val (.int (0 : Int32)), .val (.int ba), .val (.int bb), .val (.int bc), .val (.int bd), .val (.ref b1), .val (.ref cc), .val (.int kk), .unset, .unset] [])) _
  refine XS.iconst X2.here hx rfl (hb hby at_166) ?_
  show Steps p.tables e below (T2.setTop (mkF m 167 #[.val (.int p0), .val (.int p1), .val (.int p2), .val (.int p3), .val (.int p4), .val (.int p5), .val (.int (0 : Int32)), .val (.int ba), .val (.int bb), .val (.int bc), .val (.int bd), .val (.ref b1), .val (.ref cc), .val (.int kk), .unset, .unset] [(.int (0 : Int32))])) _
  refine XS.istore X2.here hx rfl (hb hby at_167) rfl (l' := #[.val (.int p0), .val (.int p1), .val (.int p2), .val (.int p3), .val (.int p4), .val (.int p5), .val (.int (0 : Int32)), .val (.int ba), .val (.int bb), .val (.int bc), .val (.int bd), .val (.ref b1), .val (.ref cc), .val (.int kk), .val (.int (0 : Int32)), .unset]) rfl ?_
  show Steps p.tables e below (T2.setTop (mkF m 169 #[.val (.int p0), .val (.int p1), .val (.int p2), .val (.int p3), .val (.int p4), .val (.int p5), .val (.int (0 : Int32)), .val (.int ba), .val (.int bb), .val (.int bc), .val (.int bd), .val (.ref b1), .val (.ref cc), .val (.int kk), .val (.int (0 : Int32)), .unset] [])) _
  refine XS.iload X2.here hx rfl (hb hby at_169) rfl ?_
  show Steps p.tables e below (T2.setTop (mkF m 171 #[.val (.int p0), .val (.int p1), .val (.int p2), .val (.int p3), .val (.int p4), .val (.int p5), .val (.int (0 : Int32)), .val (.int ba), .val (.int bb), .val (.int bc), .val (.int bd), .val (.ref b1), .val (.ref cc), .val (.int kk), .val (.int (0 : Int32)), .unset] [(.int (0 : Int32))])) _
  refine XS.ifYes X2.here hx rfl (pc0 := 171) (pc' := 186) rfl (hb hby at_171) rfl ((if0 _ _).trans (flt (Int32.lt_irrefl)).2.2.2) (by decide) (by decide) ?_
  show Steps p.tables e below (T2.setTop (mkF m 186 #[.val (.int p0), .val (.int p1), .val (.int p2), .val (.int p3), .val (.int p4), .val (.int p5), .val (.int (0 : Int32)), .val (.int ba), .val (.int bb), .val (.int bc), .val (.int bd), .val (.ref b1), .val (.ref cc), .val (.int kk), .val (.int (0 : Int32)), .unset] [])) _
  refine XS.iload X2.here hx rfl (hb hby at_186) rfl ?_
  show Steps p.tables e below (T2.setTop (mkF m 188 #[.val (.int p0), .val (.int p1), .val (.int p2), .val (.int p3), .val (.int p4), .val (.int p5), .val (.int (0 : Int32)), .val (.int ba), .val (.int bb), .val (.int bc), .val (.int bd), .val (.ref b1), .val (.ref cc), .val (.int kk), .val (.int (0 : Int32)), .unset] [(.int (0 : Int32))])) _
  refine XS.iconst X2.here hx rfl (hb hby at_188) ?_
  show Steps p.tables e below (T2.setTop (mkF m 189 #[.val (.int p0), .val (.int p1), .val (.int p2), .val (.int p3), .val (.int p4), .val (.int p5), .val (.int (0 : Int32)), .val (.int ba), .val (.int bb), .val (.int bc), .val (.int bd), .val (.ref b1), .val (.ref cc), .val (.int kk), .val (.int (0 : Int32)), .unset] [(.int (1 : Int32)), (.int (0 : Int32))])) _
  refine XS.icmpYes X2.here hx rfl (pc0 := 189) (pc' := 204) rfl (hb hby at_189) rfl (flt (by decide)).2.2.2 (by decide) (by decide) ?_
  show Steps p.tables e below (T2.setTop (mkF m 204 #[.val (.int p0), .val (.int p1), .val (.int p2), .val (.int p3), .val (.int p4), .val (.int p5), .val (.int (0 : Int32)), .val (.int ba), .val (.int bb), .val (.int bc), .val (.int bd), .val (.ref b1), .val (.ref cc), .val (.int kk), .val (.int (0 : Int32)), .unset] [])) _
  refine XS.iload X2.here hx rfl (hb hby at_204) rfl ?_
  show Steps p.tables e below (T2.setTop (mkF m 206 #[.val (.int p0), .val (.int p1), .val (.int p2), .val (.int p3), .val (.int p4), .val (.int p5), .val (.int (0 : Int32)), .val (.int ba), .val (.int bb), .val (.int bc), .val (.int bd), .val (.ref b1), .val (.ref cc), .val (.int kk), .val (.int (0 : Int32)), .unset] [(.int (0 : Int32))])) _
  refine XS.iconst X2.here hx rfl (hb hby at_206) ?_
  show Steps p.tables e below (T2.setTop (mkF m 207 #[.val (.int p0), .val (.int p1), .val (.int p2), .val (.int p3), .val (.int p4), .val (.int p5), .val (.int (0 : Int32)), .val (.int ba), .val (.int bb), .val (.int bc), .val (.int bd), .val (.ref b1), .val (.ref cc), .val (.int kk), .val (.int (0 : Int32)), .unset] [(.int (2 : Int32)), (.int (0 : Int32))])) _
  refine XS.icmpYes X2.here hx rfl (pc0 := 207) (pc' := 222) rfl (hb hby at_207) rfl (flt (by decide)).2.2.2 (by decide) (by decide) ?_
  show Steps p.tables e below (T2.setTop (mkF m 222 #[.val (.int p0), .val (.int p1), .val (.int p2), .val (.int p3), .val (.int p4), .val (.int p5), .val (.int (0 : Int32)), .val (.int ba), .val (.int bb), .val (.int bc), .val (.int bd), .val (.ref b1), .val (.ref cc), .val (.int kk), .val (.int (0 : Int32)), .unset] [])) _
  refine XS.iload X2.here hx rfl (hb hby at_222) rfl ?_
  show Steps p.tables e below (T2.setTop (mkF m 224 #[.val (.int p0), .val (.int p1), .val (.int p2), .val (.int p3), .val (.int p4), .val (.int p5), .val (.int (0 : Int32)), .val (.int ba), .val (.int bb), .val (.int bc), .val (.int bd), .val (.ref b1), .val (.ref cc), .val (.int kk), .val (.int (0 : Int32)), .unset] [(.int (0 : Int32))])) _
  refine XS.iconst X2.here hx rfl (hb hby at_224) ?_
  show Steps p.tables e below (T2.setTop (mkF m 225 #[.val (.int p0), .val (.int p1), .val (.int p2), .val (.int p3), .val (.int p4), .val (.int p5), .val (.int (0 : Int32)), .val (.int ba), .val (.int bb), .val (.int bc), .val (.int bd), .val (.ref b1), .val (.ref cc), .val (.int kk), .val (.int (0 : Int32)), .unset] [(.int (3 : Int32)), (.int (0 : Int32))])) _
  refine XS.icmpYes X2.here hx rfl (pc0 := 225) (pc' := 240) rfl (hb hby at_225) rfl (flt (by decide)).2.2.2 (by decide) (by decide) ?_
  show Steps p.tables e below (T2.setTop (mkF m 240 #[.val (.int p0), .val (.int p1), .val (.int p2), .val (.int p3), .val (.int p4), .val (.int p5), .val (.int (0 : Int32)), .val (.int ba), .val (.int bb), .val (.int bc), .val (.int bd), .val (.ref b1), .val (.ref cc), .val (.int kk), .val (.int (0 : Int32)), .unset] [])) _
  refine XS.aload X2.here hx rfl (hb hby at_240) rfl rfl ?_
  show Steps p.tables e below (T2.setTop (mkF m 242 #[.val (.int p0), .val (.int p1), .val (.int p2), .val (.int p3), .val (.int p4), .val (.int p5), .val (.int (0 : Int32)), .val (.int ba), .val (.int bb), .val (.int bc), .val (.int bd), .val (.ref b1), .val (.ref cc), .val (.int kk), .val (.int (0 : Int32)), .unset] [(.ref b1)])) _
  refine own_len X2 hx hZ rfl AD2 rfl rfl (hb hby at_242) ?_
  show Steps p.tables e below (T2.setTop (mkF m 243 #[.val (.int p0), .val (.int p1), .val (.int p2), .val (.int p3), .val (.int p4), .val (.int p5), .val (.int (0 : Int32)), .val (.int ba), .val (.int bb), .val (.int bc), .val (.int bd), .val (.ref b1), .val (.ref cc), .val (.int kk), .val (.int (0 : Int32)), .unset] [(.int (0 : Int32))])) _
  refine XS.iload X2.here hx rfl (hb hby at_243) rfl ?_
  show Steps p.tables e below (T2.setTop (mkF m 245 #[.val (.int p0), .val (.int p1), .val (.int p2), .val (.int p3), .val (.int p4), .val (.int p5), .val (.int (0 : Int32)), .val (.int ba), .val (.int bb), .val (.int bc), .val (.int bd), .val (.ref b1), .val (.ref cc), .val (.int kk), .val (.int (0 : Int32)), .unset] [(.int (0 : Int32)), (.int (0 : Int32))])) _
  refine XS.icmpNo X2.here hx rfl (hb hby at_245) rfl (teq (rfl : (0 : Int32) = (0 : Int32))).2 ?_
  show Steps p.tables e below (T2.setTop (mkF m 248 #[.val (.int p0), .val (.int p1), .val (.int p2), .val (.int p3), .val (.int p4), .val (.int p5), .val (.int (0 : Int32)), .val (.int ba), .val (.int bb), .val (.int bc), .val (.int bd), .val (.ref b1), .val (.ref cc), .val (.int kk), .val (.int (0 : Int32)), .unset] [])) _
  refine XS.iconst X2.here hx rfl (hb hby at_248) ?_
  show Steps p.tables e below (T2.setTop (mkF m 249 #[.val (.int p0), .val (.int p1), .val (.int p2), .val (.int p3), .val (.int p4), .val (.int p5), .val (.int (0 : Int32)), .val (.int ba), .val (.int bb), .val (.int bc), .val (.int bd), .val (.ref b1), .val (.ref cc), .val (.int kk), .val (.int (0 : Int32)), .unset] [(.int (1 : Int32))])) _
  refine XS.goto X2.here hx rfl (pc0 := 249) (pc' := 253) rfl (hb hby at_249) (by decide) (by decide) ?_
  show Steps p.tables e below (T2.setTop (mkF m 253 #[.val (.int p0), .val (.int p1), .val (.int p2), .val (.int p3), .val (.int p4), .val (.int p5), .val (.int (0 : Int32)), .val (.int ba), .val (.int bb), .val (.int bc), .val (.int bd), .val (.ref b1), .val (.ref cc), .val (.int kk), .val (.int (0 : Int32)), .unset] [(.int (1 : Int32))])) _
  refine XS.istore X2.here hx rfl (hb hby at_253) rfl (l' := #[.val (.int p0), .val (.int p1), .val (.int p2), .val (.int p3), .val (.int p4), .val (.int p5), .val (.int (0 : Int32)), .val (.int ba), .val (.int bb), .val (.int bc), .val (.int bd), .val (.ref b1), .val (.ref cc), .val (.int kk), .val (.int (0 : Int32)), .val (.int (1 : Int32))]) rfl ?_
  show Steps p.tables e below (T2.setTop (mkF m 255 #[.val (.int p0), .val (.int p1), .val (.int p2), .val (.int p3), .val (.int p4), .val (.int p5), .val (.int (0 : Int32)), .val (.int ba), .val (.int bb), .val (.int bc), .val (.int bd), .val (.ref b1), .val (.ref cc), .val (.int kk), .val (.int (0 : Int32)), .val (.int (1 : Int32))] [])) _
  refine XS.iload X2.here hx rfl (hb hby at_255) rfl ?_
  show Steps p.tables e below (T2.setTop (mkF m 257 #[.val (.int p0), .val (.int p1), .val (.int p2), .val (.int p3), .val (.int p4), .val (.int p5), .val (.int (0 : Int32)), .val (.int ba), .val (.int bb), .val (.int bc), .val (.int bd), .val (.ref b1), .val (.ref cc), .val (.int kk), .val (.int (0 : Int32)), .val (.int (1 : Int32))] [(.int (0 : Int32))])) _
  refine XS.ifYes X2.here hx rfl (pc0 := 257) (pc' := 281) rfl (hb hby at_257) rfl ((if0 _ _).trans (flt (Int32.lt_irrefl)).2.2.2) (by decide) (by decide) ?_
  show Steps p.tables e below (T2.setTop (mkF m 281 #[.val (.int p0), .val (.int p1), .val (.int p2), .val (.int p3), .val (.int p4), .val (.int p5), .val (.int (0 : Int32)), .val (.int ba), .val (.int bb), .val (.int bc), .val (.int bd), .val (.ref b1), .val (.ref cc), .val (.int kk), .val (.int (0 : Int32)), .val (.int (1 : Int32))] [])) _
  refine XS.iload X2.here hx rfl (hb hby at_281) rfl ?_
  show Steps p.tables e below (T2.setTop (mkF m 283 #[.val (.int p0), .val (.int p1), .val (.int p2), .val (.int p3), .val (.int p4), .val (.int p5), .val (.int (0 : Int32)), .val (.int ba), .val (.int bb), .val (.int bc), .val (.int bd), .val (.ref b1), .val (.ref cc), .val (.int kk), .val (.int (0 : Int32)), .val (.int (1 : Int32))] [(.int (0 : Int32))])) _
  refine XS.iconst X2.here hx rfl (hb hby at_283) ?_
  show Steps p.tables e below (T2.setTop (mkF m 284 #[.val (.int p0), .val (.int p1), .val (.int p2), .val (.int p3), .val (.int p4), .val (.int p5), .val (.int (0 : Int32)), .val (.int ba), .val (.int bb), .val (.int bc), .val (.int bd), .val (.ref b1), .val (.ref cc), .val (.int kk), .val (.int (0 : Int32)), .val (.int (1 : Int32))] [(.int (1 : Int32)), (.int (0 : Int32))])) _
  refine XS.icmpYes X2.here hx rfl (pc0 := 284) (pc' := 308) rfl (hb hby at_284) rfl (flt (by decide)).2.2.2 (by decide) (by decide) ?_
  show Steps p.tables e below (T2.setTop (mkF m 308 #[.val (.int p0), .val (.int p1), .val (.int p2), .val (.int p3), .val (.int p4), .val (.int p5), .val (.int (0 : Int32)), .val (.int ba), .val (.int bb), .val (.int bc), .val (.int bd), .val (.ref b1), .val (.ref cc), .val (.int kk), .val (.int (0 : Int32)), .val (.int (1 : Int32))] [])) _
  refine XS.iload X2.here hx rfl (hb hby at_308) rfl ?_
  show Steps p.tables e below (T2.setTop (mkF m 310 #[.val (.int p0), .val (.int p1), .val (.int p2), .val (.int p3), .val (.int p4), .val (.int p5), .val (.int (0 : Int32)), .val (.int ba), .val (.int bb), .val (.int bc), .val (.int bd), .val (.ref b1), .val (.ref cc), .val (.int kk), .val (.int (0 : Int32)), .val (.int (1 : Int32))] [(.int (0 : Int32))])) _
  refine XS.iconst X2.here hx rfl (hb hby at_310) ?_
  show Steps p.tables e below (T2.setTop (mkF m 311 #[.val (.int p0), .val (.int p1), .val (.int p2), .val (.int p3), .val (.int p4), .val (.int p5), .val (.int (0 : Int32)), .val (.int ba), .val (.int bb), .val (.int bc), .val (.int bd), .val (.ref b1), .val (.ref cc), .val (.int kk), .val (.int (0 : Int32)), .val (.int (1 : Int32))] [(.int (2 : Int32)), (.int (0 : Int32))])) _
  refine XS.icmpYes X2.here hx rfl (pc0 := 311) (pc' := 335) rfl (hb hby at_311) rfl (flt (by decide)).2.2.2 (by decide) (by decide) ?_
  show Steps p.tables e below (T2.setTop (mkF m 335 #[.val (.int p0), .val (.int p1), .val (.int p2), .val (.int p3), .val (.int p4), .val (.int p5), .val (.int (0 : Int32)), .val (.int ba), .val (.int bb), .val (.int bc), .val (.int bd), .val (.ref b1), .val (.ref cc), .val (.int kk), .val (.int (0 : Int32)), .val (.int (1 : Int32))] [])) _
  refine XS.iload X2.here hx rfl (hb hby at_335) rfl ?_
  show Steps p.tables e below (T2.setTop (mkF m 337 #[.val (.int p0), .val (.int p1), .val (.int p2), .val (.int p3), .val (.int p4), .val (.int p5), .val (.int (0 : Int32)), .val (.int ba), .val (.int bb), .val (.int bc), .val (.int bd), .val (.ref b1), .val (.ref cc), .val (.int kk), .val (.int (0 : Int32)), .val (.int (1 : Int32))] [(.int (0 : Int32))])) _
  refine XS.iconst X2.here hx rfl (hb hby at_337) ?_
  show Steps p.tables e below (T2.setTop (mkF m 338 #[.val (.int p0), .val (.int p1), .val (.int p2), .val (.int p3), .val (.int p4), .val (.int p5), .val (.int (0 : Int32)), .val (.int ba), .val (.int bb), .val (.int bc), .val (.int bd), .val (.ref b1), .val (.ref cc), .val (.int kk), .val (.int (0 : Int32)), .val (.int (1 : Int32))] [(.int (3 : Int32)), (.int (0 : Int32))])) _
  refine XS.icmpYes X2.here hx rfl (pc0 := 338) (pc' := 362) rfl (hb hby at_338) rfl (flt (by decide)).2.2.2 (by decide) (by decide) ?_
  show Steps p.tables e below (T2.setTop (mkF m 362 #[.val (.int p0), .val (.int p1), .val (.int p2), .val (.int p3), .val (.int p4), .val (.int p5), .val (.int (0 : Int32)), .val (.int ba), .val (.int bb), .val (.int bc), .val (.int bd), .val (.ref b1), .val (.ref cc), .val (.int kk), .val (.int (0 : Int32)), .val (.int (1 : Int32))] [])) _
  refine XS.iload X2.here hx rfl (hb hby at_362) rfl ?_
  show Steps p.tables e below (T2.setTop (mkF m 364 #[.val (.int p0), .val (.int p1), .val (.int p2), .val (.int p3), .val (.int p4), .val (.int p5), .val (.int (0 : Int32)), .val (.int ba), .val (.int bb), .val (.int bc), .val (.int bd), .val (.ref b1), .val (.ref cc), .val (.int kk), .val (.int (0 : Int32)), .val (.int (1 : Int32))] [(.int (1 : Int32))])) _
  refine XS.ifNo X2.here hx rfl (hb hby at_364) rfl ((if0 _ _).trans (feq (by decide)).1) ?_
  show Steps p.tables e below (T2.setTop (mkF m 367 #[.val (.int p0), .val (.int p1), .val (.int p2), .val (.int p3), .val (.int p4), .val (.int p5), .val (.int (0 : Int32)), .val (.int ba), .val (.int bb), .val (.int bc), .val (.int bd), .val (.ref b1), .val (.ref cc), .val (.int kk), .val (.int (0 : Int32)), .val (.int (1 : Int32))] [])) _
  refine XS.aload X2.here hx rfl (hb hby at_367) rfl rfl ?_
  show Steps p.tables e below (T2.setTop (mkF m 369 #[.val (.int p0), .val (.int p1), .val (.int p2), .val (.int p3), .val (.int p4), .val (.int p5), .val (.int (0 : Int32)), .val (.int ba), .val (.int bb), .val (.int bc), .val (.int bd), .val (.ref b1), .val (.ref cc), .val (.int kk), .val (.int (0 : Int32)), .val (.int (1 : Int32))] [(.ref cc)])) _
  refine XS.iload X2.here hx rfl (hb hby at_369) rfl ?_
  show Steps p.tables e below (T2.setTop (mkF m 371 #[.val (.int p0), .val (.int p1), .val (.int p2), .val (.int p3), .val (.int p4), .val (.int p5), .val (.int (0 : Int32)), .val (.int ba), .val (.int bb), .val (.int bc), .val (.int bd), .val (.ref b1), .val (.ref cc), .val (.int kk), .val (.int (0 : Int32)), .val (.int (1 : Int32))] [(.int kk), (.ref cc)])) _
  refine own_ldI X2 hx hZ rfl AC2 (j := kk) hk0 rfl rfl (hb hby at_371) ?_
  show Steps p.tables e below (T2.setTop (mkF m 372 #[.val (.int p0), .val (.int p1), .val (.int p2), .val (.int p3), .val (.int p4), .val (.int p5), .val (.int (0 : Int32)), .val (.int ba), .val (.int bb), .val (.int bc), .val (.int bd), .val (.ref b1), .val (.ref cc), .val (.int kk), .val (.int (0 : Int32)), .val (.int (1 : Int32))] [(.int ((fun _ => 0) (kk).toNatClampNeg))])) _
  refine XS.iload X2.here hx rfl (hb hby at_372) rfl ?_
  show Steps p.tables e below (T2.setTop (mkF m 374 #[.val (.int p0), .val (.int p1), .val (.int p2), .val (.int p3), .val (.int p4), .val (.int p5), .val (.int (0 : Int32)), .val (.int ba), .val (.int bb), .val (.int bc), .val (.int bd), .val (.ref b1), .val (.ref cc), .val (.int kk), .val (.int (0 : Int32)), .val (.int (1 : Int32))] [(.int (0 : Int32)), (.int ((fun _ => 0) (kk).toNatClampNeg))])) _
  refine XS.icmpNo X2.here hx rfl (hb hby at_374) rfl (teq hfin).2 ?_
  show Steps p.tables e below (T2.setTop (mkF m 377 #[.val (.int p0), .val (.int p1), .val (.int p2), .val (.int p3), .val (.int p4), .val (.int p5), .val (.int (0 : Int32)), .val (.int ba), .val (.int bb), .val (.int bc), .val (.int bd), .val (.ref b1), .val (.ref cc), .val (.int kk), .val (.int (0 : Int32)), .val (.int (1 : Int32))] [])) _
  refine XS.iconst X2.here hx rfl (hb hby at_377) ?_
  show Steps p.tables e below (T2.setTop (mkF m 378 #[.val (.int p0), .val (.int p1), .val (.int p2), .val (.int p3), .val (.int p4), .val (.int p5), .val (.int (0 : Int32)), .val (.int ba), .val (.int bb), .val (.int bc), .val (.int bd), .val (.ref b1), .val (.ref cc), .val (.int kk), .val (.int (0 : Int32)), .val (.int (1 : Int32))] [(.int (1 : Int32))])) _
  refine XS.goto X2.here hx rfl (pc0 := 378) (pc' := 382) rfl (hb hby at_378) (by decide) (by decide) ?_
  show Steps p.tables e below (T2.setTop (mkF m 382 #[.val (.int p0), .val (.int p1), .val (.int p2), .val (.int p3), .val (.int p4), .val (.int p5), .val (.int (0 : Int32)), .val (.int ba), .val (.int bb), .val (.int bc), .val (.int bd), .val (.ref b1), .val (.ref cc), .val (.int kk), .val (.int (0 : Int32)), .val (.int (1 : Int32))] [(.int (1 : Int32))])) _
  exact retN X2 hx (t := .boolean) Bd.returns (by simp) (hb hby at_382) hr
def Q0_1 (Z : State) (p0 : Int32) (p1 : Int32) (p2 : Int32) (p3 : Int32) (p4 : Int32) (p5 : Int32) (h0 : Heap) (n0 : Nat) (v : Option Value) (h : Heap) (L : List Loc) : Prop := v = some (.int (1 : Int32)) ∧ Fr n0 L
set_option maxRecDepth 65536 in
set_option maxHeartbeats 40000000 in
theorem rm0_1 (l : Launch) (Z : State) (a0 : Array Value) (hw : ∀ d ∈ tables_1, d.before a0 Z = true) (ws : List Jvm.Cond) (p0 : Int32) (p1 : Int32) (p2 : Int32) (p3 : Int32) (p4 : Int32) (p5 : Int32) (h0 : Heap) (n0 : Nat) (Z0 : n0 ≤ h0.size) (hn : ((p0 &&& (2147483647 : Int32)) % (5 : Int32)) = (1 : Int32)) :
    MetFree l x (head1 (Jvm.Cond.code x code maxLocals ret :: ws) room_1) (fun a_ U_ => a_ = #[(.int p0), (.int p1), (.int p2), (.int p3), (.int p4), (.int p5)] ∧ Z.Warmed39 U_.vm ∧ U_.heap = h0) (fun _ _ _ _ _ => True) (fun _ U_ o_ U' => ∃ v_ L_, o_ = .returned v_ ∧ (Q0_1 Z p0 p1 p2 p3 p4 p5 h0 n0 v_ U'.heap L_) ∧ FrameEnd U_ o_ U' L_ room_1.cells room_1.slots) := by
  refine MetFree.of_bodySF (plainFor_of_name pn_0) hisR ?_
  intro p e s m args below meth c s₁ Bd hml0 hP hK
  obtain ⟨rfl, hZ, hh⟩ := hP
  have hx := Bd.exec
  have hby := Bd.bytes
  have hml : c.maxLocals = 16 := hml0
  have hown : s.vm.findClass "com/example/fewbits/fewbits/HuffmanCodeCountBytesPinLaw" = some m.cls := findClass_of_methodNamed Bd.named
  have hnm := (name_of_methodNamed Bd.named Bd.method).1
  have X0 : Stand p l e room_1 s m #[(.int p0), (.int p1), (.int p2), (.int p3), (.int p4), (.int p5)] below meth c s₁ [] 0 0 := Stand.of_body Bd
  have e0 : s₁.heap = h0 := by rw [← hh, Bd.state]; rfl
  have N0 := Fr.nil n0
  have pre0 : ∀ t, Steps p.tables e below (s₁.setTop (mkF m 0 #[.val (.int p0), .val (.int p1), .val (.int p2), .val (.int p3), .val (.int p4), .val (.int p5), .unset, .unset, .unset, .unset, .unset, .unset, .unset, .unset, .unset, .unset] [])) t → Steps p.tables e below (s₁.setTop (entryFrame m #[(.int p0), (.int p1), (.int p2), (.int p3), (.int p4), (.int p5)] maxLocals)) t := fun t k => castTop (ef_0 m p0 p1 p2 p3 p4 p5) k
  obtain ⟨ba, h_ba⟩ : ∃ z, (p2.toInt8.toInt32) = z := ⟨_, rfl⟩
  have h8_ba : ba.toInt8.toInt32 = ba := by rw [← h_ba]; exact own_bb _
  obtain ⟨bb, h_bb⟩ : ∃ z, (p3.toInt8.toInt32) = z := ⟨_, rfl⟩
  have h8_bb : bb.toInt8.toInt32 = bb := by rw [← h_bb]; exact own_bb _
  obtain ⟨bc, h_bc⟩ : ∃ z, (p4.toInt8.toInt32) = z := ⟨_, rfl⟩
  have h8_bc : bc.toInt8.toInt32 = bc := by rw [← h_bc]; exact own_bb _
  obtain ⟨bd, h_bd⟩ : ∃ z, (p5.toInt8.toInt32) = z := ⟨_, rfl⟩
  have h8_bd : bd.toInt8.toInt32 = bd := by rw [← h_bd]; exact own_bb _
  obtain ⟨T1, h1, X1, e1, E1, A1, st1⟩ := own_newI X0 hx hZ (hw _ (List.mem_of_getElem? (i := 1) rfl)) rfl e0 (g := (mkF m 46 #[.val (.int p0), .val (.int p1), .val (.int p2), .val (.int p3), .val (.int p4), .val (.int p5), .val (.int (1 : Int32)), .val (.int ba), .val (.int bb), .val (.int bc), .val (.int bd), .unset, .unset, .unset, .unset, .unset] [(.int (1 : Int32))])) rfl (hb hby at_46) rfl (by decide) (cap := 1) (by decide) (by decide) (by decide) (by decide)
  obtain ⟨b1, g1⟩ : ∃ z, z = h0.size := ⟨_, rfl⟩
  rw [← g1] at A1 st1
  have f_b1 : n0 ≤ b1 := Nat.le_trans Z0 (Nat.le_of_eq g1.symm)
  have s_b1 : h0.size ≤ b1 := Nat.le_trans (Keep.refl h0 []).1 (Nat.le_of_eq g1.symm)
  have K1 : Keep h0 h1 [] := (Keep.refl h0 []).ext E1
  have Z1 : n0 ≤ h1.size := Nat.le_trans Z0 E1.1
  obtain ⟨T2, h2, X2, e2, W2, A2, st2⟩ := own_stB X1 hx hZ e1 A1 (j := (0 : Int32)) ⟨by decide, by decide⟩ (g := (mkF m 52 #[.val (.int p0), .val (.int p1), .val (.int p2), .val (.int p3), .val (.int p4), .val (.int p5), .val (.int (1 : Int32)), .val (.int ba), .val (.int bb), .val (.int bc), .val (.int bd), .unset, .unset, .unset, .unset, .unset] [(.int ba), (.int (0 : Int32)), (.ref b1), (.ref b1)])) rfl rfl (hb hby at_52)
  have N2 := Fr.snoc X2 N0 f_b1
  have K2 : Keep h0 h2 [] := K1.wr W2 (Or.inr s_b1)
  rw [h8_ba] at A2
  have Z2 : n0 ≤ h2.size := Nat.le_trans Z1 (Nat.le_of_eq (W2.size).symm)
  obtain ⟨_, _, ⟨T3, L3, k3, n3⟩, -, X3, ⟨Lc3, hQ3, l3, y3, z3⟩, st3⟩ := Jvm.LawKit.callS X2 hx (y := (⟨"com/example/fewbits/fewbits/HuffmanCode", "countBytes", "([B)[I"⟩ : MethodName)) hown (mvT hZ (hw _ (List.mem_of_getElem? (i := 2) rfl))) (mvT hZ (hw _ (List.mem_of_getElem? (i := 3) rfl))) (mvT hZ (hw _ (List.mem_of_getElem? (i := 4) rfl))) (mvT hZ (hw _ (List.mem_of_getElem? (i := 5) rfl))) (by decide) (backOf (W := 0) (rm1_1 l Z a0 hw [] b1 _ ba h2 n0 Z2 A2 rfl) hZ (hw _ (List.mem_of_getElem? (i := 5) rfl)) (hw _ (List.mem_of_getElem? (i := 4) rfl)) (by decide) (by decide)) (g := (mkF m 138 #[.val (.int p0), .val (.int p1), .val (.int p2), .val (.int p3), .val (.int p4), .val (.int p5), .val (.int (1 : Int32)), .val (.int ba), .val (.int bb), .val (.int bc), .val (.int bd), .val (.ref b1), .unset, .unset, .unset, .unset] [(.ref b1)])) rfl (by rw [hml]; rfl) (argsL := [(.ref b1)]) (rest := []) (lenOf pd_0 rfl) rfl (by show 2 * 0 + _ ≤ _; exact Nat.le_of_eq rfl) (hb hby at_138) (fun _ _ => ⟨rfl, e2, (by decide : 1 + 1 ≤ _), (by decide : 1 + 256 ≤ _)⟩)
  dsimp only [Pt.U, Pt.locs, Pt.cells, Pt.slots] at X3 l3 y3 z3 st3 hQ3
  subst l3 y3 z3
  obtain ⟨⟨cc, rfl, sc3, AC3⟩, Nq3, Kq3⟩ := hQ3
  have N3 := Fr.app N2 Nq3
  have Z3 : n0 ≤ T3.heap.size := Nat.le_trans Z2 Kq3.1
  have AD3 := A2.keep Kq3 nin0
  obtain ⟨kk, h_kk⟩ : ∃ z, (p1 &&& (255 : Int32)) = z := ⟨_, rfl⟩
  obtain ⟨_, _, ⟨T4, L4, k4, n4⟩, -, X4, ⟨Lc4, hQ4, l4, y4, z4⟩, st4⟩ := Jvm.LawKit.callS X3 hx (y := (⟨"com/example/fewbits/fewbits/HuffmanCodeCountBytesPinLaw", "hit", "(BI)I"⟩ : MethodName)) hown (mvT hZ (hw _ (List.mem_of_getElem? (i := 7) rfl))) (mvT hZ (hw _ (List.mem_of_getElem? (i := 8) rfl))) (mvT hZ (hw _ (List.mem_of_getElem? (i := 9) rfl))) (mvT hZ (hw _ (List.mem_of_getElem? (i := 10) rfl))) (by decide) (backOf (W := 1) (rm2 l Z a0 hw [] ba kk  T3.heap n0 Z3 ) hZ (hw _ (List.mem_of_getElem? (i := 10) rfl)) (hw _ (List.mem_of_getElem? (i := 9) rfl)) (by decide) (by decide)) (g := (mkF m 180 #[.val (.int p0), .val (.int p1), .val (.int p2), .val (.int p3), .val (.int p4), .val (.int p5), .val (.int (1 : Int32)), .val (.int ba), .val (.int bb), .val (.int bc), .val (.int bd), .val (.ref b1), .val (.ref cc), .val (.int kk), .val (.int (0 : Int32)), .unset] [(.int kk), (.int ba), (.int (0 : Int32))])) rfl (by rw [hml]; rfl) (argsL := [(.int ba), (.int kk)]) (rest := [(.int (0 : Int32))]) (lenOf pd_1 rfl) rfl (by show 2 * 0 + _ ≤ _; exact Nat.le_of_eq rfl) (hb hby at_180) (fun _ _ => ⟨rfl, rfl, (by decide : 2 + 0 ≤ _), (by decide : 257 + 0 ≤ _)⟩)
  dsimp only [Pt.U, Pt.locs, Pt.cells, Pt.slots] at X4 l4 y4 z4 st4 hQ4
  subst l4 y4 z4
  obtain ⟨rfl, Nq4, e4⟩ := hQ4
  have N4 := Fr.app N3 Nq4
  have hk0 : ¬ kk < 0 ∧ kk < (256 : Int32) := by rw [← h_kk]; exact own_255 _
  have hfin : ((own_inc (fun _ => 0) ba) (kk).toNatClampNeg) = ((0 : Int32) + (own_hit ba kk)) := by
    rw [own_inc_at _ _ hk0.1]
  obtain ⟨fs, hr, hrun, hended, hW, hsame⟩ := X4.leave (v := some (.int (1 : Int32))) (fun h => by rw [Bd.returns] at h; cases h)
  refine ⟨_, _, pre0 _ ?_, hrun, hended, _, _, rfl, ⟨rfl, N4⟩, ⟨_, rfl⟩, hW, hsame.mono (by decide) (by decide)⟩
  show Steps p.tables e below (s₁.setTop (mkF m 0 #[.val (.int p0), .val (.int p1), .val (.int p2), .val (.int p3), .val (.int p4), .val (.int p5), .unset, .unset, .unset, .unset, .unset, .unset, .unset, .unset, .unset, .unset] [])) _
  refine XS.iloadN X0.here hx rfl (hb hby at_0) rfl ?_
  show Steps p.tables e below (s₁.setTop (mkF m 1 #[.val (.int p0), .val (.int p1), .val (.int p2), .val (.int p3), .val (.int p4), .val (.int p5), .unset, .unset, .unset, .unset, .unset, .unset, .unset, .unset, .unset, .unset] [(.int p0)])) _
  refine X0.ldcI hx hown (mvT hZ (hw _ (List.mem_of_getElem? (i := 0) rfl))) rfl (hb hby at_1) ?_
  show Steps p.tables e below (s₁.setTop (mkF m 3 #[.val (.int p0), .val (.int p1), .val (.int p2), .val (.int p3), .val (.int p4), .val (.int p5), .unset, .unset, .unset, .unset, .unset, .unset, .unset, .unset, .unset, .unset] [(.int (2147483647 : Int32)), (.int p0)])) _
  refine XS.iand X0.here hx rfl (hb hby at_3) rfl ?_
  show Steps p.tables e below (s₁.setTop (mkF m 4 #[.val (.int p0), .val (.int p1), .val (.int p2), .val (.int p3), .val (.int p4), .val (.int p5), .unset, .unset, .unset, .unset, .unset, .unset, .unset, .unset, .unset, .unset] [(.int (p0 &&& (2147483647 : Int32)))])) _
  refine XS.iconst X0.here hx rfl (hb hby at_4) ?_
  show Steps p.tables e below (s₁.setTop (mkF m 5 #[.val (.int p0), .val (.int p1), .val (.int p2), .val (.int p3), .val (.int p4), .val (.int p5), .unset, .unset, .unset, .unset, .unset, .unset, .unset, .unset, .unset, .unset] [(.int (5 : Int32)), (.int (p0 &&& (2147483647 : Int32)))])) _
  refine iremM X0 hx rfl (hb hby at_5) rfl (by decide) ?_
  show Steps p.tables e below (s₁.setTop (mkF m 6 #[.val (.int p0), .val (.int p1), .val (.int p2), .val (.int p3), .val (.int p4), .val (.int p5), .unset, .unset, .unset, .unset, .unset, .unset, .unset, .unset, .unset, .unset] [(.int ((p0 &&& (2147483647 : Int32)) % (5 : Int32)))])) _
  refine XS.istore X0.here hx rfl (hb hby at_6) rfl (l' := #[.val (.int p0), .val (.int p1), .val (.int p2), .val (.int p3), .val (.int p4), .val (.int p5), .val (.int ((p0 &&& (2147483647 : Int32)) % (5 : Int32))), .unset, .unset, .unset, .unset, .unset, .unset, .unset, .unset, .unset]) rfl ?_
  show Steps p.tables e below (s₁.setTop (mkF m 8 #[.val (.int p0), .val (.int p1), .val (.int p2), .val (.int p3), .val (.int p4), .val (.int p5), .val (.int ((p0 &&& (2147483647 : Int32)) % (5 : Int32))), .unset, .unset, .unset, .unset, .unset, .unset, .unset, .unset, .unset] [])) _
  rw [hn]
  show Steps p.tables e below (s₁.setTop (mkF m 8 #[.val (.int p0), .val (.int p1), .val (.int p2), .val (.int p3), .val (.int p4), .val (.int p5), .val (.int (1 : Int32)), .unset, .unset, .unset, .unset, .unset, .unset, .unset, .unset, .unset] [])) _
  refine XS.iloadN X0.here hx rfl (hb hby at_8) rfl ?_
  show Steps p.tables e below (s₁.setTop (mkF m 9 #[.val (.int p0), .val (.int p1), .val (.int p2), .val (.int p3), .val (.int p4), .val (.int p5), .val (.int (1 : Int32)), .unset, .unset, .unset, .unset, .unset, .unset, .unset, .unset, .unset] [(.int p2)])) _
  refine XS.i2b X0.here hx rfl (hb hby at_9) rfl ?_
  show Steps p.tables e below (s₁.setTop (mkF m 10 #[.val (.int p0), .val (.int p1), .val (.int p2), .val (.int p3), .val (.int p4), .val (.int p5), .val (.int (1 : Int32)), .unset, .unset, .unset, .unset, .unset, .unset, .unset, .unset, .unset] [(.int (p2.toInt8.toInt32))])) _
  refine XS.istore X0.here hx rfl (hb hby at_10) rfl (l' := #[.val (.int p0), .val (.int p1), .val (.int p2), .val (.int p3), .val (.int p4), .val (.int p5), .val (.int (1 : Int32)), .val (.int (p2.toInt8.toInt32)), .unset, .unset, .unset, .unset, .unset, .unset, .unset, .unset]) rfl ?_
  show Steps p.tables e below (s₁.setTop (mkF m 12 #[.val (.int p0), .val (.int p1), .val (.int p2), .val (.int p3), .val (.int p4), .val (.int p5), .val (.int (1 : Int32)), .val (.int (p2.toInt8.toInt32)), .unset, .unset, .unset, .unset, .unset, .unset, .unset, .unset] [])) _
  rw [h_ba]
  show Steps p.tables e below (s₁.setTop (mkF m 12 #[.val (.int p0), .val (.int p1), .val (.int p2), .val (.int p3), .val (.int p4), .val (.int p5), .val (.int (1 : Int32)), .val (.int ba), .unset, .unset, .unset, .unset, .unset, .unset, .unset, .unset] [])) _
  refine XS.iloadN X0.here hx rfl (hb hby at_12) rfl ?_
  show Steps p.tables e below (s₁.setTop (mkF m 13 #[.val (.int p0), .val (.int p1), .val (.int p2), .val (.int p3), .val (.int p4), .val (.int p5), .val (.int (1 : Int32)), .val (.int ba), .unset, .unset, .unset, .unset, .unset, .unset, .unset, .unset] [(.int p3)])) _
  refine XS.i2b X0.here hx rfl (hb hby at_13) rfl ?_
  show Steps p.tables e below (s₁.setTop (mkF m 14 #[.val (.int p0), .val (.int p1), .val (.int p2), .val (.int p3), .val (.int p4), .val (.int p5), .val (.int (1 : Int32)), .val (.int ba), .unset, .unset, .unset, .unset, .unset, .unset, .unset, .unset] [(.int (p3.toInt8.toInt32))])) _
  refine XS.istore X0.here hx rfl (hb hby at_14) rfl (l' := #[.val (.int p0), .val (.int p1), .val (.int p2), .val (.int p3), .val (.int p4), .val (.int p5), .val (.int (1 : Int32)), .val (.int ba), .val (.int (p3.toInt8.toInt32)), .unset, .unset, .unset, .unset, .unset, .unset, .unset]) rfl ?_
  show Steps p.tables e below (s₁.setTop (mkF m 16 #[.val (.int p0), .val (.int p1), .val (.int p2), .val (.int p3), .val (.int p4), .val (.int p5), .val (.int (1 : Int32)), .val (.int ba), .val (.int (p3.toInt8.toInt32)), .unset, .unset, .unset, .unset, .unset, .unset, .unset] [])) _
  rw [h_bb]
  show Steps p.tables e below (s₁.setTop (mkF m 16 #[.val (.int p0), .val (.int p1), .val (.int p2), .val (.int p3), .val (.int p4), .val (.int p5), .val (.int (1 : Int32)), .val (.int ba), .val (.int bb), .unset, .unset, .unset, .unset, .unset, .unset, .unset] [])) _
  refine XS.iload X0.here hx rfl (hb hby at_16) rfl ?_
  show Steps p.tables e below (s₁.setTop (mkF m 18 #[.val (.int p0), .val (.int p1), .val (.int p2), .val (.int p3), .val (.int p4), .val (.int p5), .val (.int (1 : Int32)), .val (.int ba), .val (.int bb), .unset, .unset, .unset, .unset, .unset, .unset, .unset] [(.int p4)])) _
  refine XS.i2b X0.here hx rfl (hb hby at_18) rfl ?_
  show Steps p.tables e below (s₁.setTop (mkF m 19 #[.val (.int p0), .val (.int p1), .val (.int p2), .val (.int p3), .val (.int p4), .val (.int p5), .val (.int (1 : Int32)), .val (.int ba), .val (.int bb), .unset, .unset, .unset, .unset, .unset, .unset, .unset] [(.int (p4.toInt8.toInt32))])) _
  refine XS.istore X0.here hx rfl (hb hby at_19) rfl (l' := #[.val (.int p0), .val (.int p1), .val (.int p2), .val (.int p3), .val (.int p4), .val (.int p5), .val (.int (1 : Int32)), .val (.int ba), .val (.int bb), .val (.int (p4.toInt8.toInt32)), .unset, .unset, .unset, .unset, .unset, .unset]) rfl ?_
  show Steps p.tables e below (s₁.setTop (mkF m 21 #[.val (.int p0), .val (.int p1), .val (.int p2), .val (.int p3), .val (.int p4), .val (.int p5), .val (.int (1 : Int32)), .val (.int ba), .val (.int bb), .val (.int (p4.toInt8.toInt32)), .unset, .unset, .unset, .unset, .unset, .unset] [])) _
  rw [h_bc]
  show Steps p.tables e below (s₁.setTop (mkF m 21 #[.val (.int p0), .val (.int p1), .val (.int p2), .val (.int p3), .val (.int p4), .val (.int p5), .val (.int (1 : Int32)), .val (.int ba), .val (.int bb), .val (.int bc), .unset, .unset, .unset, .unset, .unset, .unset] [])) _
  refine XS.iload X0.here hx rfl (hb hby at_21) rfl ?_
  show Steps p.tables e below (s₁.setTop (mkF m 23 #[.val (.int p0), .val (.int p1), .val (.int p2), .val (.int p3), .val (.int p4), .val (.int p5), .val (.int (1 : Int32)), .val (.int ba), .val (.int bb), .val (.int bc), .unset, .unset, .unset, .unset, .unset, .unset] [(.int p5)])) _
  refine XS.i2b X0.here hx rfl (hb hby at_23) rfl ?_
  show Steps p.tables e below (s₁.setTop (mkF m 24 #[.val (.int p0), .val (.int p1), .val (.int p2), .val (.int p3), .val (.int p4), .val (.int p5), .val (.int (1 : Int32)), .val (.int ba), .val (.int bb), .val (.int bc), .unset, .unset, .unset, .unset, .unset, .unset] [(.int (p5.toInt8.toInt32))])) _
  refine XS.istore X0.here hx rfl (hb hby at_24) rfl (l' := #[.val (.int p0), .val (.int p1), .val (.int p2), .val (.int p3), .val (.int p4), .val (.int p5), .val (.int (1 : Int32)), .val (.int ba), .val (.int bb), .val (.int bc), .val (.int (p5.toInt8.toInt32)), .unset, .unset, .unset, .unset, .unset]) rfl ?_
  show Steps p.tables e below (s₁.setTop (mkF m 26 #[.val (.int p0), .val (.int p1), .val (.int p2), .val (.int p3), .val (.int p4), .val (.int p5), .val (.int (1 : Int32)), .val (.int ba), .val (.int bb), .val (.int bc), .val (.int (p5.toInt8.toInt32)), .unset, .unset, .unset, .unset, .unset] [])) _
  rw [h_bd]
  show Steps p.tables e below (s₁.setTop (mkF m 26 #[.val (.int p0), .val (.int p1), .val (.int p2), .val (.int p3), .val (.int p4), .val (.int p5), .val (.int (1 : Int32)), .val (.int ba), .val (.int bb), .val (.int bc), .val (.int bd), .unset, .unset, .unset, .unset, .unset] [])) _
  refine XS.iload X0.here hx rfl (hb hby at_26) rfl ?_
  show Steps p.tables e below (s₁.setTop (mkF m 28 #[.val (.int p0), .val (.int p1), .val (.int p2), .val (.int p3), .val (.int p4), .val (.int p5), .val (.int (1 : Int32)), .val (.int ba), .val (.int bb), .val (.int bc), .val (.int bd), .unset, .unset, .unset, .unset, .unset] [(.int (1 : Int32))])) _
  refine XS.ifYes X0.here hx rfl (pc0 := 28) (pc' := 39) rfl (hb hby at_28) rfl ((if0 _ _).trans (feq (by decide)).2) (by decide) (by decide) ?_
  show Steps p.tables e below (s₁.setTop (mkF m 39 #[.val (.int p0), .val (.int p1), .val (.int p2), .val (.int p3), .val (.int p4), .val (.int p5), .val (.int (1 : Int32)), .val (.int ba), .val (.int bb), .val (.int bc), .val (.int bd), .unset, .unset, .unset, .unset, .unset] [])) _
  refine XS.iload X0.here hx rfl (hb hby at_39) rfl ?_
  show Steps p.tables e below (s₁.setTop (mkF m 41 #[.val (.int p0), .val (.int p1), .val (.int p2), .val (.int p3), .val (.int p4), .val (.int p5), .val (.int (1 : Int32)), .val (.int ba), .val (.int bb), .val (.int bc), .val (.int bd), .unset, .unset, .unset, .unset, .unset] [(.int (1 : Int32))])) _
  refine XS.iconst X0.here hx rfl (hb hby at_41) ?_
  show Steps p.tables e below (s₁.setTop (mkF m 42 #[.val (.int p0), .val (.int p1), .val (.int p2), .val (.int p3), .val (.int p4), .val (.int p5), .val (.int (1 : Int32)), .val (.int ba), .val (.int bb), .val (.int bc), .val (.int bd), .unset, .unset, .unset, .unset, .unset] [(.int (1 : Int32)), (.int (1 : Int32))])) _
  refine XS.icmpNo X0.here hx rfl (hb hby at_42) rfl (teq (rfl : (1 : Int32) = (1 : Int32))).2 ?_
  show Steps p.tables e below (s₁.setTop (mkF m 45 #[.val (.int p0), .val (.int p1), .val (.int p2), .val (.int p3), .val (.int p4), .val (.int p5), .val (.int (1 : Int32)), .val (.int ba), .val (.int bb), .val (.int bc), .val (.int bd), .unset, .unset, .unset, .unset, .unset] [])) _
  refine XS.iconst X0.here hx rfl (hb hby at_45) ?_
  show Steps p.tables e below (s₁.setTop (mkF m 46 #[.val (.int p0), .val (.int p1), .val (.int p2), .val (.int p3), .val (.int p4), .val (.int p5), .val (.int (1 : Int32)), .val (.int ba), .val (.int bb), .val (.int bc), .val (.int bd), .unset, .unset, .unset, .unset, .unset] [(.int (1 : Int32))])) _
  refine st1 _ ?_
  show Steps p.tables e below (T1.setTop (mkF m 48 #[.val (.int p0), .val (.int p1), .val (.int p2), .val (.int p3), .val (.int p4), .val (.int p5), .val (.int (1 : Int32)), .val (.int ba), .val (.int bb), .val (.int bc), .val (.int bd), .unset, .unset, .unset, .unset, .unset] [(.ref b1)])) _
  refine XS.dup X1.here hx rfl (hb hby at_48) rfl rfl ?_
  show Steps p.tables e below (T1.setTop (mkF m 49 #[.val (.int p0), .val (.int p1), .val (.int p2), .val (.int p3), .val (.int p4), .val (.int p5), .val (.int (1 : Int32)), .val (.int ba), .val (.int bb), .val (.int bc), .val (.int bd), .unset, .unset, .unset, .unset, .unset] [(.ref b1), (.ref b1)])) _
  refine XS.iconst X1.here hx rfl (hb hby at_49) ?_
  show Steps p.tables e below (T1.setTop (mkF m 50 #[.val (.int p0), .val (.int p1), .val (.int p2), .val (.int p3), .val (.int p4), .val (.int p5), .val (.int (1 : Int32)), .val (.int ba), .val (.int bb), .val (.int bc), .val (.int bd), .unset, .unset, .unset, .unset, .unset] [(.int (0 : Int32)), (.ref b1), (.ref b1)])) _
  refine XS.iload X1.here hx rfl (hb hby at_50) rfl ?_
  show Steps p.tables e below (T1.setTop (mkF m 52 #[.val (.int p0), .val (.int p1), .val (.int p2), .val (.int p3), .val (.int p4), .val (.int p5), .val (.int (1 : Int32)), .val (.int ba), .val (.int bb), .val (.int bc), .val (.int bd), .unset, .unset, .unset, .unset, .unset] [(.int ba), (.int (0 : Int32)), (.ref b1), (.ref b1)])) _
  refine st2 _ ?_
  show Steps p.tables e below (T2.setTop (mkF m 53 #[.val (.int p0), .val (.int p1), .val (.int p2), .val (.int p3), .val (.int p4), .val (.int p5), .val (.int (1 : Int32)), .val (.int ba), .val (.int bb), .val (.int bc), .val (.int bd), .unset, .unset, .unset, .unset, .unset] [(.ref b1)])) _
  refine XS.astore X2.here hx rfl (hb hby at_53) rfl rfl (l' := #[.val (.int p0), .val (.int p1), .val (.int p2), .val (.int p3), .val (.int p4), .val (.int p5), .val (.int (1 : Int32)), .val (.int ba), .val (.int bb), .val (.int bc), .val (.int bd), .val (.ref b1), .unset, .unset, .unset, .unset]) rfl ?_
  show Steps p.tables e below (T2.setTop (mkF m 55 #[.val (.int p0), .val (.int p1), .val (.int p2), .val (.int p3), .val (.int p4), .val (.int p5), .val (.int (1 : Int32)), .val (.int ba), .val (.int bb), .val (.int bc), .val (.int bd), .val (.ref b1), .unset, .unset, .unset, .unset] [])) _
  refine XS.goto X2.here hx rfl (pc0 := 55) (pc' := 136) rfl (hb hby at_55) (by decide) (by decide) ?_
  show Steps p.tables e below (T2.setTop (mkF m 136 #[.val (.int p0), .val (.int p1), .val (.int p2), .val (.int p3), .val (.int p4), .val (.int p5), .val (.int (1 : Int32)), .val (.int ba), .val (.int bb), .val (.int bc), .val (.int bd), .val (.ref b1), .unset, .unset, .unset, .unset] [])) _
  refine XS.aload X2.here hx rfl (hb hby at_136) rfl rfl ?_
  show Steps p.tables e below (T2.setTop (mkF m 138 #[.val (.int p0), .val (.int p1), .val (.int p2), .val (.int p3), .val (.int p4), .val (.int p5), .val (.int (1 : Int32)), .val (.int ba), .val (.int bb), .val (.int bc), .val (.int bd), .val (.ref b1), .unset, .unset, .unset, .unset] [(.ref b1)])) _
  refine st3 _ ?_
  show Steps p.tables e below (T3.setTop (mkF m 141 #[.val (.int p0), .val (.int p1), .val (.int p2), .val (.int p3), .val (.int p4), .val (.int p5), .val (.int (1 : Int32)), .val (.int ba), .val (.int bb), .val (.int bc), .val (.int bd), .val (.ref b1), .unset, .unset, .unset, .unset] [(.ref cc)])) _
  refine XS.astore X3.here hx rfl (hb hby at_141) rfl rfl (l' := #[.val (.int p0), .val (.int p1), .val (.int p2), .val (.int p3), .val (.int p4), .val (.int p5), .val (.int (1 : Int32)), .val (.int ba), .val (.int bb), .val (.int bc), .val (.int bd), .val (.ref b1), .val (.ref cc), .unset, .unset, .unset]) rfl ?_
  show Steps p.tables e below (T3.setTop (mkF m 143 #[.val (.int p0), .val (.int p1), .val (.int p2), .val (.int p3), .val (.int p4), .val (.int p5), .val (.int (1 : Int32)), .val (.int ba), .val (.int bb), .val (.int bc), .val (.int bd), .val (.ref b1), .val (.ref cc), .unset, .unset, .unset] [])) _
  refine XS.aload X3.here hx rfl (hb hby at_143) rfl rfl ?_
  show Steps p.tables e below (T3.setTop (mkF m 145 #[.val (.int p0), .val (.int p1), .val (.int p2), .val (.int p3), .val (.int p4), .val (.int p5), .val (.int (1 : Int32)), .val (.int ba), .val (.int bb), .val (.int bc), .val (.int bd), .val (.ref b1), .val (.ref cc), .unset, .unset, .unset] [(.ref cc)])) _
  refine XS.ifnullNo X3.here hx rfl (hb hby at_145) rfl ?_
  show Steps p.tables e below (T3.setTop (mkF m 148 #[.val (.int p0), .val (.int p1), .val (.int p2), .val (.int p3), .val (.int p4), .val (.int p5), .val (.int (1 : Int32)), .val (.int ba), .val (.int bb), .val (.int bc), .val (.int bd), .val (.ref b1), .val (.ref cc), .unset, .unset, .unset] [])) _
  refine XS.aload X3.here hx rfl (hb hby at_148) rfl rfl ?_
  show Steps p.tables e below (T3.setTop (mkF m 150 #[.val (.int p0), .val (.int p1), .val (.int p2), .val (.int p3), .val (.int p4), .val (.int p5), .val (.int (1 : Int32)), .val (.int ba), .val (.int bb), .val (.int bc), .val (.int bd), .val (.ref b1), .val (.ref cc), .unset, .unset, .unset] [(.ref cc)])) _
  refine own_len X3 hx hZ rfl AC3 rfl rfl (hb hby at_150) ?_
  show Steps p.tables e below (T3.setTop (mkF m 151 #[.val (.int p0), .val (.int p1), .val (.int p2), .val (.int p3), .val (.int p4), .val (.int p5), .val (.int (1 : Int32)), .val (.int ba), .val (.int bb), .val (.int bc), .val (.int bd), .val (.ref b1), .val (.ref cc), .unset, .unset, .unset] [(.int (256 : Int32))])) _
  refine XS.sipush X3.here hx rfl (hb hby at_151) ?_
  show Steps p.tables e below (T3.setTop (mkF m 154 #[.val (.int p0), .val (.int p1), .val (.int p2), .val (.int p3), .val (.int p4), .val (.int p5), .val (.int (1 : Int32)), .val (.int ba), .val (.int bb), .val (.int bc), .val (.int bd), .val (.ref b1), .val (.ref cc), .unset, .unset, .unset] [(.int (256 : Int32)), (.int (256 : Int32))])) _
  refine XS.icmpYes X3.here hx rfl (pc0 := 154) (pc' := 159) rfl (hb hby at_154) rfl (teq (rfl : (256 : Int32) = (256 : Int32))).1 (by decide) (by decide) ?_
  show Steps p.tables e below (T3.setTop (mkF m 159 #[.val (.int p0), .val (.int p1), .val (.int p2), .val (.int p3), .val (.int p4), .val (.int p5), .val (.int (1 : Int32)), .val (.int ba), .val (.int bb), .val (.int bc), .val (.int bd), .val (.ref b1), .val (.ref cc), .unset, .unset, .unset] [])) _
  refine XS.iloadN X3.here hx rfl (hb hby at_159) rfl ?_
  show Steps p.tables e below (T3.setTop (mkF m 160 #[.val (.int p0), .val (.int p1), .val (.int p2), .val (.int p3), .val (.int p4), .val (.int p5), .val (.int (1 : Int32)), .val (.int ba), .val (.int bb), .val (.int bc), .val (.int bd), .val (.ref b1), .val (.ref cc), .unset, .unset, .unset] [(.int p1)])) _
  refine XS.sipush X3.here hx rfl (hb hby at_160) ?_
  show Steps p.tables e below (T3.setTop (mkF m 163 #[.val (.int p0), .val (.int p1), .val (.int p2), .val (.int p3), .val (.int p4), .val (.int p5), .val (.int (1 : Int32)), .val (.int ba), .val (.int bb), .val (.int bc), .val (.int bd), .val (.ref b1), .val (.ref cc), .unset, .unset, .unset] [(.int (255 : Int32)), (.int p1)])) _
  refine XS.iand X3.here hx rfl (hb hby at_163) rfl ?_
  show Steps p.tables e below (T3.setTop (mkF m 164 #[.val (.int p0), .val (.int p1), .val (.int p2), .val (.int p3), .val (.int p4), .val (.int p5), .val (.int (1 : Int32)), .val (.int ba), .val (.int bb), .val (.int bc), .val (.int bd), .val (.ref b1), .val (.ref cc), .unset, .unset, .unset] [(.int (p1 &&& (255 : Int32)))])) _
  refine XS.istore X3.here hx rfl (hb hby at_164) rfl (l' := #[.val (.int p0), .val (.int p1), .val (.int p2), .val (.int p3), .val (.int p4), .val (.int p5), .val (.int (1 : Int32)), .val (.int ba), .val (.int bb), .val (.int bc), .val (.int bd), .val (.ref b1), .val (.ref cc), .val (.int (p1 &&& (255 : Int32))), .unset, .unset]) rfl ?_
  show Steps p.tables e below (T3.setTop (mkF m 166 #[.val (.int p0), .val (.int p1), .val (.int p2), .val (.int p3), .val (.int p4), .val (.int p5), .val (.int (1 : Int32)), .val (.int ba), .val (.int bb), .val (.int bc), .val (.int bd), .val (.ref b1), .val (.ref cc), .val (.int (p1 &&& (255 : Int32))), .unset, .unset] [])) _
  rw [h_kk]
  show Steps p.tables e below (T3.setTop (mkF m 166 #[.val (.int p0), .val (.int p1), .val (.int p2), .val (.int p3), .val (.int p4), .val (.int p5), .val (.int (1 : Int32)), .val (.int ba), .val (.int bb), .val (.int bc), .val (.int bd), .val (.ref b1), .val (.ref cc), .val (.int kk), .unset, .unset] [])) _
  refine XS.iconst X3.here hx rfl (hb hby at_166) ?_
  show Steps p.tables e below (T3.setTop (mkF m 167 #[.val (.int p0), .val (.int p1), .val (.int p2), .val (.int p3), .val (.int p4), .val (.int p5), .val (.int (1 : Int32)), .val (.int ba), .val (.int bb), .val (.int bc), .val (.int bd), .val (.ref b1), .val (.ref cc), .val (.int kk), .unset, .unset] [(.int (0 : Int32))])) _
  refine XS.istore X3.here hx rfl (hb hby at_167) rfl (l' := #[.val (.int p0), .val (.int p1), .val (.int p2), .val (.int p3), .val (.int p4), .val (.int p5), .val (.int (1 : Int32)), .val (.int ba), .val (.int bb), .val (.int bc), .val (.int bd), .val (.ref b1), .val (.ref cc), .val (.int kk), .val (.int (0 : Int32)), .unset]) rfl ?_
  show Steps p.tables e below (T3.setTop (mkF m 169 #[.val (.int p0), .val (.int p1), .val (.int p2), .val (.int p3), .val (.int p4), .val (.int p5), .val (.int (1 : Int32)), .val (.int ba), .val (.int bb), .val (.int bc), .val (.int bd), .val (.ref b1), .val (.ref cc), .val (.int kk), .val (.int (0 : Int32)), .unset] [])) _
  refine XS.iload X3.here hx rfl (hb hby at_169) rfl ?_
  show Steps p.tables e below (T3.setTop (mkF m 171 #[.val (.int p0), .val (.int p1), .val (.int p2), .val (.int p3), .val (.int p4), .val (.int p5), .val (.int (1 : Int32)), .val (.int ba), .val (.int bb), .val (.int bc), .val (.int bd), .val (.ref b1), .val (.ref cc), .val (.int kk), .val (.int (0 : Int32)), .unset] [(.int (1 : Int32))])) _
  refine XS.ifNo X3.here hx rfl (hb hby at_171) rfl ((if0 _ _).trans (tlt (by decide)).2.2.2) ?_
  show Steps p.tables e below (T3.setTop (mkF m 174 #[.val (.int p0), .val (.int p1), .val (.int p2), .val (.int p3), .val (.int p4), .val (.int p5), .val (.int (1 : Int32)), .val (.int ba), .val (.int bb), .val (.int bc), .val (.int bd), .val (.ref b1), .val (.ref cc), .val (.int kk), .val (.int (0 : Int32)), .unset] [])) _
  refine XS.iload X3.here hx rfl (hb hby at_174) rfl ?_
  show Steps p.tables e below (T3.setTop (mkF m 176 #[.val (.int p0), .val (.int p1), .val (.int p2), .val (.int p3), .val (.int p4), .val (.int p5), .val (.int (1 : Int32)), .val (.int ba), .val (.int bb), .val (.int bc), .val (.int bd), .val (.ref b1), .val (.ref cc), .val (.int kk), .val (.int (0 : Int32)), .unset] [(.int (0 : Int32))])) _
  refine XS.iload X3.here hx rfl (hb hby at_176) rfl ?_
  show Steps p.tables e below (T3.setTop (mkF m 178 #[.val (.int p0), .val (.int p1), .val (.int p2), .val (.int p3), .val (.int p4), .val (.int p5), .val (.int (1 : Int32)), .val (.int ba), .val (.int bb), .val (.int bc), .val (.int bd), .val (.ref b1), .val (.ref cc), .val (.int kk), .val (.int (0 : Int32)), .unset] [(.int ba), (.int (0 : Int32))])) _
  refine XS.iload X3.here hx rfl (hb hby at_178) rfl ?_
  show Steps p.tables e below (T3.setTop (mkF m 180 #[.val (.int p0), .val (.int p1), .val (.int p2), .val (.int p3), .val (.int p4), .val (.int p5), .val (.int (1 : Int32)), .val (.int ba), .val (.int bb), .val (.int bc), .val (.int bd), .val (.ref b1), .val (.ref cc), .val (.int kk), .val (.int (0 : Int32)), .unset] [(.int kk), (.int ba), (.int (0 : Int32))])) _
  refine st4 _ ?_
  show Steps p.tables e below (T4.setTop (mkF m 183 #[.val (.int p0), .val (.int p1), .val (.int p2), .val (.int p3), .val (.int p4), .val (.int p5), .val (.int (1 : Int32)), .val (.int ba), .val (.int bb), .val (.int bc), .val (.int bd), .val (.ref b1), .val (.ref cc), .val (.int kk), .val (.int (0 : Int32)), .unset] [(.int (own_hit ba kk)), (.int (0 : Int32))])) _
  refine XS.iadd X4.here hx rfl (hb hby at_183) rfl ?_
  show Steps p.tables e below (T4.setTop (mkF m 184 #[.val (.int p0), .val (.int p1), .val (.int p2), .val (.int p3), .val (.int p4), .val (.int p5), .val (.int (1 : Int32)), .val (.int ba), .val (.int bb), .val (.int bc), .val (.int bd), .val (.ref b1), .val (.ref cc), .val (.int kk), .val (.int (0 : Int32)), .unset] [(.int ((0 : Int32) + (own_hit ba kk)))])) _
  refine XS.istore X4.here hx rfl (hb hby at_184) rfl (l' := #[.val (.int p0), .val (.int p1), .val (.int p2), .val (.int p3), .val (.int p4), .val (.int p5), .val (.int (1 : Int32)), .val (.int ba), .val (.int bb), .val (.int bc), .val (.int bd), .val (.ref b1), .val (.ref cc), .val (.int kk), .val (.int ((0 : Int32) + (own_hit ba kk))), .unset]) rfl ?_
  show Steps p.tables e below (T4.setTop (mkF m 186 #[.val (.int p0), .val (.int p1), .val (.int p2), .val (.int p3), .val (.int p4), .val (.int p5), .val (.int (1 : Int32)), .val (.int ba), .val (.int bb), .val (.int bc), .val (.int bd), .val (.ref b1), .val (.ref cc), .val (.int kk), .val (.int ((0 : Int32) + (own_hit ba kk))), .unset] [])) _
  refine XS.iload X4.here hx rfl (hb hby at_186) rfl ?_
  show Steps p.tables e below (T4.setTop (mkF m 188 #[.val (.int p0), .val (.int p1), .val (.int p2), .val (.int p3), .val (.int p4), .val (.int p5), .val (.int (1 : Int32)), .val (.int ba), .val (.int bb), .val (.int bc), .val (.int bd), .val (.ref b1), .val (.ref cc), .val (.int kk), .val (.int ((0 : Int32) + (own_hit ba kk))), .unset] [(.int (1 : Int32))])) _
  refine XS.iconst X4.here hx rfl (hb hby at_188) ?_
  show Steps p.tables e below (T4.setTop (mkF m 189 #[.val (.int p0), .val (.int p1), .val (.int p2), .val (.int p3), .val (.int p4), .val (.int p5), .val (.int (1 : Int32)), .val (.int ba), .val (.int bb), .val (.int bc), .val (.int bd), .val (.ref b1), .val (.ref cc), .val (.int kk), .val (.int ((0 : Int32) + (own_hit ba kk))), .unset] [(.int (1 : Int32)), (.int (1 : Int32))])) _
  refine XS.icmpYes X4.here hx rfl (pc0 := 189) (pc' := 204) rfl (hb hby at_189) rfl (flt (Int32.lt_irrefl)).2.2.2 (by decide) (by decide) ?_
  show Steps p.tables e below (T4.setTop (mkF m 204 #[.val (.int p0), .val (.int p1), .val (.int p2), .val (.int p3), .val (.int p4), .val (.int p5), .val (.int (1 : Int32)), .val (.int ba), .val (.int bb), .val (.int bc), .val (.int bd), .val (.ref b1), .val (.ref cc), .val (.int kk), .val (.int ((0 : Int32) + (own_hit ba kk))), .unset] [])) _
  refine XS.iload X4.here hx rfl (hb hby at_204) rfl ?_
  show Steps p.tables e below (T4.setTop (mkF m 206 #[.val (.int p0), .val (.int p1), .val (.int p2), .val (.int p3), .val (.int p4), .val (.int p5), .val (.int (1 : Int32)), .val (.int ba), .val (.int bb), .val (.int bc), .val (.int bd), .val (.ref b1), .val (.ref cc), .val (.int kk), .val (.int ((0 : Int32) + (own_hit ba kk))), .unset] [(.int (1 : Int32))])) _
  refine XS.iconst X4.here hx rfl (hb hby at_206) ?_
  show Steps p.tables e below (T4.setTop (mkF m 207 #[.val (.int p0), .val (.int p1), .val (.int p2), .val (.int p3), .val (.int p4), .val (.int p5), .val (.int (1 : Int32)), .val (.int ba), .val (.int bb), .val (.int bc), .val (.int bd), .val (.ref b1), .val (.ref cc), .val (.int kk), .val (.int ((0 : Int32) + (own_hit ba kk))), .unset] [(.int (2 : Int32)), (.int (1 : Int32))])) _
  refine XS.icmpYes X4.here hx rfl (pc0 := 207) (pc' := 222) rfl (hb hby at_207) rfl (flt (by decide)).2.2.2 (by decide) (by decide) ?_
  show Steps p.tables e below (T4.setTop (mkF m 222 #[.val (.int p0), .val (.int p1), .val (.int p2), .val (.int p3), .val (.int p4), .val (.int p5), .val (.int (1 : Int32)), .val (.int ba), .val (.int bb), .val (.int bc), .val (.int bd), .val (.ref b1), .val (.ref cc), .val (.int kk), .val (.int ((0 : Int32) + (own_hit ba kk))), .unset] [])) _
  refine XS.iload X4.here hx rfl (hb hby at_222) rfl ?_
  show Steps p.tables e below (T4.setTop (mkF m 224 #[.val (.int p0), .val (.int p1), .val (.int p2), .val (.int p3), .val (.int p4), .val (.int p5), .val (.int (1 : Int32)), .val (.int ba), .val (.int bb), .val (.int bc), .val (.int bd), .val (.ref b1), .val (.ref cc), .val (.int kk), .val (.int ((0 : Int32) + (own_hit ba kk))), .unset] [(.int (1 : Int32))])) _
  refine XS.iconst X4.here hx rfl (hb hby at_224) ?_
  show Steps p.tables e below (T4.setTop (mkF m 225 #[.val (.int p0), .val (.int p1), .val (.int p2), .val (.int p3), .val (.int p4), .val (.int p5), .val (.int (1 : Int32)), .val (.int ba), .val (.int bb), .val (.int bc), .val (.int bd), .val (.ref b1), .val (.ref cc), .val (.int kk), .val (.int ((0 : Int32) + (own_hit ba kk))), .unset] [(.int (3 : Int32)), (.int (1 : Int32))])) _
  refine XS.icmpYes X4.here hx rfl (pc0 := 225) (pc' := 240) rfl (hb hby at_225) rfl (flt (by decide)).2.2.2 (by decide) (by decide) ?_
  show Steps p.tables e below (T4.setTop (mkF m 240 #[.val (.int p0), .val (.int p1), .val (.int p2), .val (.int p3), .val (.int p4), .val (.int p5), .val (.int (1 : Int32)), .val (.int ba), .val (.int bb), .val (.int bc), .val (.int bd), .val (.ref b1), .val (.ref cc), .val (.int kk), .val (.int ((0 : Int32) + (own_hit ba kk))), .unset] [])) _
  refine XS.aload X4.here hx rfl (hb hby at_240) rfl rfl ?_
  show Steps p.tables e below (T4.setTop (mkF m 242 #[.val (.int p0), .val (.int p1), .val (.int p2), .val (.int p3), .val (.int p4), .val (.int p5), .val (.int (1 : Int32)), .val (.int ba), .val (.int bb), .val (.int bc), .val (.int bd), .val (.ref b1), .val (.ref cc), .val (.int kk), .val (.int ((0 : Int32) + (own_hit ba kk))), .unset] [(.ref b1)])) _
  refine own_len X4 hx hZ e4 AD3 rfl rfl (hb hby at_242) ?_
  show Steps p.tables e below (T4.setTop (mkF m 243 #[.val (.int p0), .val (.int p1), .val (.int p2), .val (.int p3), .val (.int p4), .val (.int p5), .val (.int (1 : Int32)), .val (.int ba), .val (.int bb), .val (.int bc), .val (.int bd), .val (.ref b1), .val (.ref cc), .val (.int kk), .val (.int ((0 : Int32) + (own_hit ba kk))), .unset] [(.int (1 : Int32))])) _
  refine XS.iload X4.here hx rfl (hb hby at_243) rfl ?_
  show Steps p.tables e below (T4.setTop (mkF m 245 #[.val (.int p0), .val (.int p1), .val (.int p2), .val (.int p3), .val (.int p4), .val (.int p5), .val (.int (1 : Int32)), .val (.int ba), .val (.int bb), .val (.int bc), .val (.int bd), .val (.ref b1), .val (.ref cc), .val (.int kk), .val (.int ((0 : Int32) + (own_hit ba kk))), .unset] [(.int (1 : Int32)), (.int (1 : Int32))])) _
  refine XS.icmpNo X4.here hx rfl (hb hby at_245) rfl (teq (rfl : (1 : Int32) = (1 : Int32))).2 ?_
  show Steps p.tables e below (T4.setTop (mkF m 248 #[.val (.int p0), .val (.int p1), .val (.int p2), .val (.int p3), .val (.int p4), .val (.int p5), .val (.int (1 : Int32)), .val (.int ba), .val (.int bb), .val (.int bc), .val (.int bd), .val (.ref b1), .val (.ref cc), .val (.int kk), .val (.int ((0 : Int32) + (own_hit ba kk))), .unset] [])) _
  refine XS.iconst X4.here hx rfl (hb hby at_248) ?_
  show Steps p.tables e below (T4.setTop (mkF m 249 #[.val (.int p0), .val (.int p1), .val (.int p2), .val (.int p3), .val (.int p4), .val (.int p5), .val (.int (1 : Int32)), .val (.int ba), .val (.int bb), .val (.int bc), .val (.int bd), .val (.ref b1), .val (.ref cc), .val (.int kk), .val (.int ((0 : Int32) + (own_hit ba kk))), .unset] [(.int (1 : Int32))])) _
  refine XS.goto X4.here hx rfl (pc0 := 249) (pc' := 253) rfl (hb hby at_249) (by decide) (by decide) ?_
  show Steps p.tables e below (T4.setTop (mkF m 253 #[.val (.int p0), .val (.int p1), .val (.int p2), .val (.int p3), .val (.int p4), .val (.int p5), .val (.int (1 : Int32)), .val (.int ba), .val (.int bb), .val (.int bc), .val (.int bd), .val (.ref b1), .val (.ref cc), .val (.int kk), .val (.int ((0 : Int32) + (own_hit ba kk))), .unset] [(.int (1 : Int32))])) _
  refine XS.istore X4.here hx rfl (hb hby at_253) rfl (l' := #[.val (.int p0), .val (.int p1), .val (.int p2), .val (.int p3), .val (.int p4), .val (.int p5), .val (.int (1 : Int32)), .val (.int ba), .val (.int bb), .val (.int bc), .val (.int bd), .val (.ref b1), .val (.ref cc), .val (.int kk), .val (.int ((0 : Int32) + (own_hit ba kk))), .val (.int (1 : Int32))]) rfl ?_
  show Steps p.tables e below (T4.setTop (mkF m 255 #[.val (.int p0), .val (.int p1), .val (.int p2), .val (.int p3), .val (.int p4), .val (.int p5), .val (.int (1 : Int32)), .val (.int ba), .val (.int bb), .val (.int bc), .val (.int bd), .val (.ref b1), .val (.ref cc), .val (.int kk), .val (.int ((0 : Int32) + (own_hit ba kk))), .val (.int (1 : Int32))] [])) _
  refine XS.iload X4.here hx rfl (hb hby at_255) rfl ?_
  show Steps p.tables e below (T4.setTop (mkF m 257 #[.val (.int p0), .val (.int p1), .val (.int p2), .val (.int p3), .val (.int p4), .val (.int p5), .val (.int (1 : Int32)), .val (.int ba), .val (.int bb), .val (.int bc), .val (.int bd), .val (.ref b1), .val (.ref cc), .val (.int kk), .val (.int ((0 : Int32) + (own_hit ba kk))), .val (.int (1 : Int32))] [(.int (1 : Int32))])) _
  refine XS.ifNo X4.here hx rfl (hb hby at_257) rfl ((if0 _ _).trans (tlt (by decide)).2.2.2) ?_
  show Steps p.tables e below (T4.setTop (mkF m 260 #[.val (.int p0), .val (.int p1), .val (.int p2), .val (.int p3), .val (.int p4), .val (.int p5), .val (.int (1 : Int32)), .val (.int ba), .val (.int bb), .val (.int bc), .val (.int bd), .val (.ref b1), .val (.ref cc), .val (.int kk), .val (.int ((0 : Int32) + (own_hit ba kk))), .val (.int (1 : Int32))] [])) _
  refine XS.iload X4.here hx rfl (hb hby at_260) rfl ?_
  show Steps p.tables e below (T4.setTop (mkF m 262 #[.val (.int p0), .val (.int p1), .val (.int p2), .val (.int p3), .val (.int p4), .val (.int p5), .val (.int (1 : Int32)), .val (.int ba), .val (.int bb), .val (.int bc), .val (.int bd), .val (.ref b1), .val (.ref cc), .val (.int kk), .val (.int ((0 : Int32) + (own_hit ba kk))), .val (.int (1 : Int32))] [(.int (1 : Int32))])) _
  refine XS.ifNo X4.here hx rfl (hb hby at_262) rfl ((if0 _ _).trans (feq (by decide)).1) ?_
  show Steps p.tables e below (T4.setTop (mkF m 265 #[.val (.int p0), .val (.int p1), .val (.int p2), .val (.int p3), .val (.int p4), .val (.int p5), .val (.int (1 : Int32)), .val (.int ba), .val (.int bb), .val (.int bc), .val (.int bd), .val (.ref b1), .val (.ref cc), .val (.int kk), .val (.int ((0 : Int32) + (own_hit ba kk))), .val (.int (1 : Int32))] [])) _
  refine XS.aload X4.here hx rfl (hb hby at_265) rfl rfl ?_
  show Steps p.tables e below (T4.setTop (mkF m 267 #[.val (.int p0), .val (.int p1), .val (.int p2), .val (.int p3), .val (.int p4), .val (.int p5), .val (.int (1 : Int32)), .val (.int ba), .val (.int bb), .val (.int bc), .val (.int bd), .val (.ref b1), .val (.ref cc), .val (.int kk), .val (.int ((0 : Int32) + (own_hit ba kk))), .val (.int (1 : Int32))] [(.ref b1)])) _
  refine XS.iconst X4.here hx rfl (hb hby at_267) ?_
  show Steps p.tables e below (T4.setTop (mkF m 268 #[.val (.int p0), .val (.int p1), .val (.int p2), .val (.int p3), .val (.int p4), .val (.int p5), .val (.int (1 : Int32)), .val (.int ba), .val (.int bb), .val (.int bc), .val (.int bd), .val (.ref b1), .val (.ref cc), .val (.int kk), .val (.int ((0 : Int32) + (own_hit ba kk))), .val (.int (1 : Int32))] [(.int (0 : Int32)), (.ref b1)])) _
  refine own_ldB X4 hx hZ e4 AD3 (j := (0 : Int32)) ⟨by decide, by decide⟩ rfl rfl (hb hby at_268) ?_
  show Steps p.tables e below (T4.setTop (mkF m 269 #[.val (.int p0), .val (.int p1), .val (.int p2), .val (.int p3), .val (.int p4), .val (.int p5), .val (.int (1 : Int32)), .val (.int ba), .val (.int bb), .val (.int bc), .val (.int bd), .val (.ref b1), .val (.ref cc), .val (.int kk), .val (.int ((0 : Int32) + (own_hit ba kk))), .val (.int (1 : Int32))] [(.int ba)])) _
  refine XS.iload X4.here hx rfl (hb hby at_269) rfl ?_
  show Steps p.tables e below (T4.setTop (mkF m 271 #[.val (.int p0), .val (.int p1), .val (.int p2), .val (.int p3), .val (.int p4), .val (.int p5), .val (.int (1 : Int32)), .val (.int ba), .val (.int bb), .val (.int bc), .val (.int bd), .val (.ref b1), .val (.ref cc), .val (.int kk), .val (.int ((0 : Int32) + (own_hit ba kk))), .val (.int (1 : Int32))] [(.int ba), (.int ba)])) _
  refine XS.icmpNo X4.here hx rfl (hb hby at_271) rfl (teq (rfl : ba = ba)).2 ?_
  show Steps p.tables e below (T4.setTop (mkF m 274 #[.val (.int p0), .val (.int p1), .val (.int p2), .val (.int p3), .val (.int p4), .val (.int p5), .val (.int (1 : Int32)), .val (.int ba), .val (.int bb), .val (.int bc), .val (.int bd), .val (.ref b1), .val (.ref cc), .val (.int kk), .val (.int ((0 : Int32) + (own_hit ba kk))), .val (.int (1 : Int32))] [])) _
  refine XS.iconst X4.here hx rfl (hb hby at_274) ?_
  show Steps p.tables e below (T4.setTop (mkF m 275 #[.val (.int p0), .val (.int p1), .val (.int p2), .val (.int p3), .val (.int p4), .val (.int p5), .val (.int (1 : Int32)), .val (.int ba), .val (.int bb), .val (.int bc), .val (.int bd), .val (.ref b1), .val (.ref cc), .val (.int kk), .val (.int ((0 : Int32) + (own_hit ba kk))), .val (.int (1 : Int32))] [(.int (1 : Int32))])) _
  refine XS.goto X4.here hx rfl (pc0 := 275) (pc' := 279) rfl (hb hby at_275) (by decide) (by decide) ?_
  show Steps p.tables e below (T4.setTop (mkF m 279 #[.val (.int p0), .val (.int p1), .val (.int p2), .val (.int p3), .val (.int p4), .val (.int p5), .val (.int (1 : Int32)), .val (.int ba), .val (.int bb), .val (.int bc), .val (.int bd), .val (.ref b1), .val (.ref cc), .val (.int kk), .val (.int ((0 : Int32) + (own_hit ba kk))), .val (.int (1 : Int32))] [(.int (1 : Int32))])) _
  refine XS.istore X4.here hx rfl (hb hby at_279) rfl (l' := #[.val (.int p0), .val (.int p1), .val (.int p2), .val (.int p3), .val (.int p4), .val (.int p5), .val (.int (1 : Int32)), .val (.int ba), .val (.int bb), .val (.int bc), .val (.int bd), .val (.ref b1), .val (.ref cc), .val (.int kk), .val (.int ((0 : Int32) + (own_hit ba kk))), .val (.int (1 : Int32))]) rfl ?_
  show Steps p.tables e below (T4.setTop (mkF m 281 #[.val (.int p0), .val (.int p1), .val (.int p2), .val (.int p3), .val (.int p4), .val (.int p5), .val (.int (1 : Int32)), .val (.int ba), .val (.int bb), .val (.int bc), .val (.int bd), .val (.ref b1), .val (.ref cc), .val (.int kk), .val (.int ((0 : Int32) + (own_hit ba kk))), .val (.int (1 : Int32))] [])) _
  refine XS.iload X4.here hx rfl (hb hby at_281) rfl ?_
  show Steps p.tables e below (T4.setTop (mkF m 283 #[.val (.int p0), .val (.int p1), .val (.int p2), .val (.int p3), .val (.int p4), .val (.int p5), .val (.int (1 : Int32)), .val (.int ba), .val (.int bb), .val (.int bc), .val (.int bd), .val (.ref b1), .val (.ref cc), .val (.int kk), .val (.int ((0 : Int32) + (own_hit ba kk))), .val (.int (1 : Int32))] [(.int (1 : Int32))])) _
  refine XS.iconst X4.here hx rfl (hb hby at_283) ?_
  show Steps p.tables e below (T4.setTop (mkF m 284 #[.val (.int p0), .val (.int p1), .val (.int p2), .val (.int p3), .val (.int p4), .val (.int p5), .val (.int (1 : Int32)), .val (.int ba), .val (.int bb), .val (.int bc), .val (.int bd), .val (.ref b1), .val (.ref cc), .val (.int kk), .val (.int ((0 : Int32) + (own_hit ba kk))), .val (.int (1 : Int32))] [(.int (1 : Int32)), (.int (1 : Int32))])) _
  refine XS.icmpYes X4.here hx rfl (pc0 := 284) (pc' := 308) rfl (hb hby at_284) rfl (flt (Int32.lt_irrefl)).2.2.2 (by decide) (by decide) ?_
  show Steps p.tables e below (T4.setTop (mkF m 308 #[.val (.int p0), .val (.int p1), .val (.int p2), .val (.int p3), .val (.int p4), .val (.int p5), .val (.int (1 : Int32)), .val (.int ba), .val (.int bb), .val (.int bc), .val (.int bd), .val (.ref b1), .val (.ref cc), .val (.int kk), .val (.int ((0 : Int32) + (own_hit ba kk))), .val (.int (1 : Int32))] [])) _
  refine XS.iload X4.here hx rfl (hb hby at_308) rfl ?_
  show Steps p.tables e below (T4.setTop (mkF m 310 #[.val (.int p0), .val (.int p1), .val (.int p2), .val (.int p3), .val (.int p4), .val (.int p5), .val (.int (1 : Int32)), .val (.int ba), .val (.int bb), .val (.int bc), .val (.int bd), .val (.ref b1), .val (.ref cc), .val (.int kk), .val (.int ((0 : Int32) + (own_hit ba kk))), .val (.int (1 : Int32))] [(.int (1 : Int32))])) _
  refine XS.iconst X4.here hx rfl (hb hby at_310) ?_
  show Steps p.tables e below (T4.setTop (mkF m 311 #[.val (.int p0), .val (.int p1), .val (.int p2), .val (.int p3), .val (.int p4), .val (.int p5), .val (.int (1 : Int32)), .val (.int ba), .val (.int bb), .val (.int bc), .val (.int bd), .val (.ref b1), .val (.ref cc), .val (.int kk), .val (.int ((0 : Int32) + (own_hit ba kk))), .val (.int (1 : Int32))] [(.int (2 : Int32)), (.int (1 : Int32))])) _
  refine XS.icmpYes X4.here hx rfl (pc0 := 311) (pc' := 335) rfl (hb hby at_311) rfl (flt (by decide)).2.2.2 (by decide) (by decide) ?_
  show Steps p.tables e below (T4.setTop (mkF m 335 #[.val (.int p0), .val (.int p1), .val (.int p2), .val (.int p3), .val (.int p4), .val (.int p5), .val (.int (1 : Int32)), .val (.int ba), .val (.int bb), .val (.int bc), .val (.int bd), .val (.ref b1), .val (.ref cc), .val (.int kk), .val (.int ((0 : Int32) + (own_hit ba kk))), .val (.int (1 : Int32))] [])) _
  refine XS.iload X4.here hx rfl (hb hby at_335) rfl ?_
  show Steps p.tables e below (T4.setTop (mkF m 337 #[.val (.int p0), .val (.int p1), .val (.int p2), .val (.int p3), .val (.int p4), .val (.int p5), .val (.int (1 : Int32)), .val (.int ba), .val (.int bb), .val (.int bc), .val (.int bd), .val (.ref b1), .val (.ref cc), .val (.int kk), .val (.int ((0 : Int32) + (own_hit ba kk))), .val (.int (1 : Int32))] [(.int (1 : Int32))])) _
  refine XS.iconst X4.here hx rfl (hb hby at_337) ?_
  show Steps p.tables e below (T4.setTop (mkF m 338 #[.val (.int p0), .val (.int p1), .val (.int p2), .val (.int p3), .val (.int p4), .val (.int p5), .val (.int (1 : Int32)), .val (.int ba), .val (.int bb), .val (.int bc), .val (.int bd), .val (.ref b1), .val (.ref cc), .val (.int kk), .val (.int ((0 : Int32) + (own_hit ba kk))), .val (.int (1 : Int32))] [(.int (3 : Int32)), (.int (1 : Int32))])) _
  refine XS.icmpYes X4.here hx rfl (pc0 := 338) (pc' := 362) rfl (hb hby at_338) rfl (flt (by decide)).2.2.2 (by decide) (by decide) ?_
  show Steps p.tables e below (T4.setTop (mkF m 362 #[.val (.int p0), .val (.int p1), .val (.int p2), .val (.int p3), .val (.int p4), .val (.int p5), .val (.int (1 : Int32)), .val (.int ba), .val (.int bb), .val (.int bc), .val (.int bd), .val (.ref b1), .val (.ref cc), .val (.int kk), .val (.int ((0 : Int32) + (own_hit ba kk))), .val (.int (1 : Int32))] [])) _
  refine XS.iload X4.here hx rfl (hb hby at_362) rfl ?_
  show Steps p.tables e below (T4.setTop (mkF m 364 #[.val (.int p0), .val (.int p1), .val (.int p2), .val (.int p3), .val (.int p4), .val (.int p5), .val (.int (1 : Int32)), .val (.int ba), .val (.int bb), .val (.int bc), .val (.int bd), .val (.ref b1), .val (.ref cc), .val (.int kk), .val (.int ((0 : Int32) + (own_hit ba kk))), .val (.int (1 : Int32))] [(.int (1 : Int32))])) _
  refine XS.ifNo X4.here hx rfl (hb hby at_364) rfl ((if0 _ _).trans (feq (by decide)).1) ?_
  show Steps p.tables e below (T4.setTop (mkF m 367 #[.val (.int p0), .val (.int p1), .val (.int p2), .val (.int p3), .val (.int p4), .val (.int p5), .val (.int (1 : Int32)), .val (.int ba), .val (.int bb), .val (.int bc), .val (.int bd), .val (.ref b1), .val (.ref cc), .val (.int kk), .val (.int ((0 : Int32) + (own_hit ba kk))), .val (.int (1 : Int32))] [])) _
  refine XS.aload X4.here hx rfl (hb hby at_367) rfl rfl ?_
  show Steps p.tables e below (T4.setTop (mkF m 369 #[.val (.int p0), .val (.int p1), .val (.int p2), .val (.int p3), .val (.int p4), .val (.int p5), .val (.int (1 : Int32)), .val (.int ba), .val (.int bb), .val (.int bc), .val (.int bd), .val (.ref b1), .val (.ref cc), .val (.int kk), .val (.int ((0 : Int32) + (own_hit ba kk))), .val (.int (1 : Int32))] [(.ref cc)])) _
  refine XS.iload X4.here hx rfl (hb hby at_369) rfl ?_
  show Steps p.tables e below (T4.setTop (mkF m 371 #[.val (.int p0), .val (.int p1), .val (.int p2), .val (.int p3), .val (.int p4), .val (.int p5), .val (.int (1 : Int32)), .val (.int ba), .val (.int bb), .val (.int bc), .val (.int bd), .val (.ref b1), .val (.ref cc), .val (.int kk), .val (.int ((0 : Int32) + (own_hit ba kk))), .val (.int (1 : Int32))] [(.int kk), (.ref cc)])) _
  refine own_ldI X4 hx hZ e4 AC3 (j := kk) hk0 rfl rfl (hb hby at_371) ?_
  show Steps p.tables e below (T4.setTop (mkF m 372 #[.val (.int p0), .val (.int p1), .val (.int p2), .val (.int p3), .val (.int p4), .val (.int p5), .val (.int (1 : Int32)), .val (.int ba), .val (.int bb), .val (.int bc), .val (.int bd), .val (.ref b1), .val (.ref cc), .val (.int kk), .val (.int ((0 : Int32) + (own_hit ba kk))), .val (.int (1 : Int32))] [(.int ((own_inc (fun _ => 0) ba) (kk).toNatClampNeg))])) _
  refine XS.iload X4.here hx rfl (hb hby at_372) rfl ?_
  show Steps p.tables e below (T4.setTop (mkF m 374 #[.val (.int p0), .val (.int p1), .val (.int p2), .val (.int p3), .val (.int p4), .val (.int p5), .val (.int (1 : Int32)), .val (.int ba), .val (.int bb), .val (.int bc), .val (.int bd), .val (.ref b1), .val (.ref cc), .val (.int kk), .val (.int ((0 : Int32) + (own_hit ba kk))), .val (.int (1 : Int32))] [(.int ((0 : Int32) + (own_hit ba kk))), (.int ((own_inc (fun _ => 0) ba) (kk).toNatClampNeg))])) _
  refine XS.icmpNo X4.here hx rfl (hb hby at_374) rfl (teq hfin).2 ?_
  show Steps p.tables e below (T4.setTop (mkF m 377 #[.val (.int p0), .val (.int p1), .val (.int p2), .val (.int p3), .val (.int p4), .val (.int p5), .val (.int (1 : Int32)), .val (.int ba), .val (.int bb), .val (.int bc), .val (.int bd), .val (.ref b1), .val (.ref cc), .val (.int kk), .val (.int ((0 : Int32) + (own_hit ba kk))), .val (.int (1 : Int32))] [])) _
  refine XS.iconst X4.here hx rfl (hb hby at_377) ?_
  show Steps p.tables e below (T4.setTop (mkF m 378 #[.val (.int p0), .val (.int p1), .val (.int p2), .val (.int p3), .val (.int p4), .val (.int p5), .val (.int (1 : Int32)), .val (.int ba), .val (.int bb), .val (.int bc), .val (.int bd), .val (.ref b1), .val (.ref cc), .val (.int kk), .val (.int ((0 : Int32) + (own_hit ba kk))), .val (.int (1 : Int32))] [(.int (1 : Int32))])) _
  refine XS.goto X4.here hx rfl (pc0 := 378) (pc' := 382) rfl (hb hby at_378) (by decide) (by decide) ?_
  show Steps p.tables e below (T4.setTop (mkF m 382 #[.val (.int p0), .val (.int p1), .val (.int p2), .val (.int p3), .val (.int p4), .val (.int p5), .val (.int (1 : Int32)), .val (.int ba), .val (.int bb), .val (.int bc), .val (.int bd), .val (.ref b1), .val (.ref cc), .val (.int kk), .val (.int ((0 : Int32) + (own_hit ba kk))), .val (.int (1 : Int32))] [(.int (1 : Int32))])) _
  exact retN X4 hx (t := .boolean) Bd.returns (by simp) (hb hby at_382) hr
def Q0_2 (Z : State) (p0 : Int32) (p1 : Int32) (p2 : Int32) (p3 : Int32) (p4 : Int32) (p5 : Int32) (h0 : Heap) (n0 : Nat) (v : Option Value) (h : Heap) (L : List Loc) : Prop := v = some (.int (1 : Int32)) ∧ Fr n0 L
set_option maxRecDepth 65536 in
set_option maxHeartbeats 40000000 in
theorem rm0_2 (l : Launch) (Z : State) (a0 : Array Value) (hw : ∀ d ∈ tables_1, d.before a0 Z = true) (ws : List Jvm.Cond) (p0 : Int32) (p1 : Int32) (p2 : Int32) (p3 : Int32) (p4 : Int32) (p5 : Int32) (h0 : Heap) (n0 : Nat) (Z0 : n0 ≤ h0.size) (hn : ((p0 &&& (2147483647 : Int32)) % (5 : Int32)) = (2 : Int32)) :
    MetFree l x (head1 (Jvm.Cond.code x code maxLocals ret :: ws) room_1) (fun a_ U_ => a_ = #[(.int p0), (.int p1), (.int p2), (.int p3), (.int p4), (.int p5)] ∧ Z.Warmed39 U_.vm ∧ U_.heap = h0) (fun _ _ _ _ _ => True) (fun _ U_ o_ U' => ∃ v_ L_, o_ = .returned v_ ∧ (Q0_2 Z p0 p1 p2 p3 p4 p5 h0 n0 v_ U'.heap L_) ∧ FrameEnd U_ o_ U' L_ room_1.cells room_1.slots) := by
  refine MetFree.of_bodySF (plainFor_of_name pn_0) hisR ?_
  intro p e s m args below meth c s₁ Bd hml0 hP hK
  obtain ⟨rfl, hZ, hh⟩ := hP
  have hx := Bd.exec
  have hby := Bd.bytes
  have hml : c.maxLocals = 16 := hml0
  have hown : s.vm.findClass "com/example/fewbits/fewbits/HuffmanCodeCountBytesPinLaw" = some m.cls := findClass_of_methodNamed Bd.named
  have hnm := (name_of_methodNamed Bd.named Bd.method).1
  have X0 : Stand p l e room_1 s m #[(.int p0), (.int p1), (.int p2), (.int p3), (.int p4), (.int p5)] below meth c s₁ [] 0 0 := Stand.of_body Bd
  have e0 : s₁.heap = h0 := by rw [← hh, Bd.state]; rfl
  have N0 := Fr.nil n0
  have pre0 : ∀ t, Steps p.tables e below (s₁.setTop (mkF m 0 #[.val (.int p0), .val (.int p1), .val (.int p2), .val (.int p3), .val (.int p4), .val (.int p5), .unset, .unset, .unset, .unset, .unset, .unset, .unset, .unset, .unset, .unset] [])) t → Steps p.tables e below (s₁.setTop (entryFrame m #[(.int p0), (.int p1), (.int p2), (.int p3), (.int p4), (.int p5)] maxLocals)) t := fun t k => castTop (ef_0 m p0 p1 p2 p3 p4 p5) k
  obtain ⟨ba, h_ba⟩ : ∃ z, (p2.toInt8.toInt32) = z := ⟨_, rfl⟩
  have h8_ba : ba.toInt8.toInt32 = ba := by rw [← h_ba]; exact own_bb _
  obtain ⟨bb, h_bb⟩ : ∃ z, (p3.toInt8.toInt32) = z := ⟨_, rfl⟩
  have h8_bb : bb.toInt8.toInt32 = bb := by rw [← h_bb]; exact own_bb _
  obtain ⟨bc, h_bc⟩ : ∃ z, (p4.toInt8.toInt32) = z := ⟨_, rfl⟩
  have h8_bc : bc.toInt8.toInt32 = bc := by rw [← h_bc]; exact own_bb _
  obtain ⟨bd, h_bd⟩ : ∃ z, (p5.toInt8.toInt32) = z := ⟨_, rfl⟩
  have h8_bd : bd.toInt8.toInt32 = bd := by rw [← h_bd]; exact own_bb _
  obtain ⟨T1, h1, X1, e1, E1, A1, st1⟩ := own_newI X0 hx hZ (hw _ (List.mem_of_getElem? (i := 1) rfl)) rfl e0 (g := (mkF m 65 #[.val (.int p0), .val (.int p1), .val (.int p2), .val (.int p3), .val (.int p4), .val (.int p5), .val (.int (2 : Int32)), .val (.int ba), .val (.int bb), .val (.int bc), .val (.int bd), .unset, .unset, .unset, .unset, .unset] [(.int (2 : Int32))])) rfl (hb hby at_65) rfl (by decide) (cap := 2) (by decide) (by decide) (by decide) (by decide)
  obtain ⟨b1, g1⟩ : ∃ z, z = h0.size := ⟨_, rfl⟩
  rw [← g1] at A1 st1
  have f_b1 : n0 ≤ b1 := Nat.le_trans Z0 (Nat.le_of_eq g1.symm)
  have s_b1 : h0.size ≤ b1 := Nat.le_trans (Keep.refl h0 []).1 (Nat.le_of_eq g1.symm)
  have K1 : Keep h0 h1 [] := (Keep.refl h0 []).ext E1
  have Z1 : n0 ≤ h1.size := Nat.le_trans Z0 E1.1
  obtain ⟨T2, h2, X2, e2, W2, A2, st2⟩ := own_stB X1 hx hZ e1 A1 (j := (0 : Int32)) ⟨by decide, by decide⟩ (g := (mkF m 71 #[.val (.int p0), .val (.int p1), .val (.int p2), .val (.int p3), .val (.int p4), .val (.int p5), .val (.int (2 : Int32)), .val (.int ba), .val (.int bb), .val (.int bc), .val (.int bd), .unset, .unset, .unset, .unset, .unset] [(.int ba), (.int (0 : Int32)), (.ref b1), (.ref b1)])) rfl rfl (hb hby at_71)
  have N2 := Fr.snoc X2 N0 f_b1
  have K2 : Keep h0 h2 [] := K1.wr W2 (Or.inr s_b1)
  rw [h8_ba] at A2
  have Z2 : n0 ≤ h2.size := Nat.le_trans Z1 (Nat.le_of_eq (W2.size).symm)
  obtain ⟨T3, h3, X3, e3, W3, A3, st3⟩ := own_stB X2 hx hZ e2 A2 (j := (1 : Int32)) ⟨by decide, by decide⟩ (g := (mkF m 76 #[.val (.int p0), .val (.int p1), .val (.int p2), .val (.int p3), .val (.int p4), .val (.int p5), .val (.int (2 : Int32)), .val (.int ba), .val (.int bb), .val (.int bc), .val (.int bd), .unset, .unset, .unset, .unset, .unset] [(.int bb), (.int (1 : Int32)), (.ref b1), (.ref b1)])) rfl rfl (hb hby at_76)
  have N3 := Fr.snoc X3 N2 f_b1
  have K3 : Keep h0 h3 [] := K2.wr W3 (Or.inr s_b1)
  rw [h8_bb] at A3
  have Z3 : n0 ≤ h3.size := Nat.le_trans Z2 (Nat.le_of_eq (W3.size).symm)
  obtain ⟨_, _, ⟨T4, L4, k4, n4⟩, -, X4, ⟨Lc4, hQ4, l4, y4, z4⟩, st4⟩ := Jvm.LawKit.callS X3 hx (y := (⟨"com/example/fewbits/fewbits/HuffmanCode", "countBytes", "([B)[I"⟩ : MethodName)) hown (mvT hZ (hw _ (List.mem_of_getElem? (i := 2) rfl))) (mvT hZ (hw _ (List.mem_of_getElem? (i := 3) rfl))) (mvT hZ (hw _ (List.mem_of_getElem? (i := 4) rfl))) (mvT hZ (hw _ (List.mem_of_getElem? (i := 5) rfl))) (by decide) (backOf (W := 0) (rm1_2 l Z a0 hw [] b1 _ ba bb h3 n0 Z3 A3 rfl rfl) hZ (hw _ (List.mem_of_getElem? (i := 5) rfl)) (hw _ (List.mem_of_getElem? (i := 4) rfl)) (by decide) (by decide)) (g := (mkF m 138 #[.val (.int p0), .val (.int p1), .val (.int p2), .val (.int p3), .val (.int p4), .val (.int p5), .val (.int (2 : Int32)), .val (.int ba), .val (.int bb), .val (.int bc), .val (.int bd), .val (.ref b1), .unset, .unset, .unset, .unset] [(.ref b1)])) rfl (by rw [hml]; rfl) (argsL := [(.ref b1)]) (rest := []) (lenOf pd_0 rfl) rfl (by show 2 * 0 + _ ≤ _; exact Nat.le_of_eq rfl) (hb hby at_138) (fun _ _ => ⟨rfl, e3, (by decide : 1 + 1 ≤ _), (by decide : 2 + 256 ≤ _)⟩)
  dsimp only [Pt.U, Pt.locs, Pt.cells, Pt.slots] at X4 l4 y4 z4 st4 hQ4
  subst l4 y4 z4
  obtain ⟨⟨cc, rfl, sc4, AC4⟩, Nq4, Kq4⟩ := hQ4
  have N4 := Fr.app N3 Nq4
  have Z4 : n0 ≤ T4.heap.size := Nat.le_trans Z3 Kq4.1
  have AD4 := A3.keep Kq4 nin0
  obtain ⟨kk, h_kk⟩ : ∃ z, (p1 &&& (255 : Int32)) = z := ⟨_, rfl⟩
  obtain ⟨_, _, ⟨T5, L5, k5, n5⟩, -, X5, ⟨Lc5, hQ5, l5, y5, z5⟩, st5⟩ := Jvm.LawKit.callS X4 hx (y := (⟨"com/example/fewbits/fewbits/HuffmanCodeCountBytesPinLaw", "hit", "(BI)I"⟩ : MethodName)) hown (mvT hZ (hw _ (List.mem_of_getElem? (i := 7) rfl))) (mvT hZ (hw _ (List.mem_of_getElem? (i := 8) rfl))) (mvT hZ (hw _ (List.mem_of_getElem? (i := 9) rfl))) (mvT hZ (hw _ (List.mem_of_getElem? (i := 10) rfl))) (by decide) (backOf (W := 1) (rm2 l Z a0 hw [] ba kk  T4.heap n0 Z4 ) hZ (hw _ (List.mem_of_getElem? (i := 10) rfl)) (hw _ (List.mem_of_getElem? (i := 9) rfl)) (by decide) (by decide)) (g := (mkF m 180 #[.val (.int p0), .val (.int p1), .val (.int p2), .val (.int p3), .val (.int p4), .val (.int p5), .val (.int (2 : Int32)), .val (.int ba), .val (.int bb), .val (.int bc), .val (.int bd), .val (.ref b1), .val (.ref cc), .val (.int kk), .val (.int (0 : Int32)), .unset] [(.int kk), (.int ba), (.int (0 : Int32))])) rfl (by rw [hml]; rfl) (argsL := [(.int ba), (.int kk)]) (rest := [(.int (0 : Int32))]) (lenOf pd_1 rfl) rfl (by show 2 * 0 + _ ≤ _; exact Nat.le_of_eq rfl) (hb hby at_180) (fun _ _ => ⟨rfl, rfl, (by decide : 2 + 0 ≤ _), (by decide : 258 + 0 ≤ _)⟩)
  dsimp only [Pt.U, Pt.locs, Pt.cells, Pt.slots] at X5 l5 y5 z5 st5 hQ5
  subst l5 y5 z5
  obtain ⟨rfl, Nq5, e5⟩ := hQ5
  have N5 := Fr.app N4 Nq5
  obtain ⟨_, _, ⟨T6, L6, k6, n6⟩, -, X6, ⟨Lc6, hQ6, l6, y6, z6⟩, st6⟩ := Jvm.LawKit.callS X5 hx (y := (⟨"com/example/fewbits/fewbits/HuffmanCodeCountBytesPinLaw", "hit", "(BI)I"⟩ : MethodName)) hown (mvT hZ (hw _ (List.mem_of_getElem? (i := 7) rfl))) (mvT hZ (hw _ (List.mem_of_getElem? (i := 8) rfl))) (mvT hZ (hw _ (List.mem_of_getElem? (i := 9) rfl))) (mvT hZ (hw _ (List.mem_of_getElem? (i := 10) rfl))) (by decide) (backOf (W := 1) (rm2 l Z a0 hw [] bb kk  T4.heap n0 Z4 ) hZ (hw _ (List.mem_of_getElem? (i := 10) rfl)) (hw _ (List.mem_of_getElem? (i := 9) rfl)) (by decide) (by decide)) (g := (mkF m 198 #[.val (.int p0), .val (.int p1), .val (.int p2), .val (.int p3), .val (.int p4), .val (.int p5), .val (.int (2 : Int32)), .val (.int ba), .val (.int bb), .val (.int bc), .val (.int bd), .val (.ref b1), .val (.ref cc), .val (.int kk), .val (.int ((0 : Int32) + (own_hit ba kk))), .unset] [(.int kk), (.int bb), (.int ((0 : Int32) + (own_hit ba kk)))])) rfl (by rw [hml]; rfl) (argsL := [(.int bb), (.int kk)]) (rest := [(.int ((0 : Int32) + (own_hit ba kk)))]) (lenOf pd_1 rfl) rfl (by show 2 * 0 + _ ≤ _; exact Nat.le_of_eq rfl) (hb hby at_198) (fun _ _ => ⟨rfl, e5, (by decide : 2 + 0 ≤ _), (by decide : 258 + 0 ≤ _)⟩)
  dsimp only [Pt.U, Pt.locs, Pt.cells, Pt.slots] at X6 l6 y6 z6 st6 hQ6
  subst l6 y6 z6
  obtain ⟨rfl, Nq6, e6⟩ := hQ6
  have N6 := Fr.app N5 Nq6
  have hk0 : ¬ kk < 0 ∧ kk < (256 : Int32) := by rw [← h_kk]; exact own_255 _
  have hfin : ((own_inc (own_inc (fun _ => 0) ba) bb) (kk).toNatClampNeg) = (((0 : Int32) + (own_hit ba kk)) + (own_hit bb kk)) := by
    rw [own_inc_at _ _ hk0.1, own_inc_at _ _ hk0.1]
  obtain ⟨fs, hr, hrun, hended, hW, hsame⟩ := X6.leave (v := some (.int (1 : Int32))) (fun h => by rw [Bd.returns] at h; cases h)
  refine ⟨_, _, pre0 _ ?_, hrun, hended, _, _, rfl, ⟨rfl, N6⟩, ⟨_, rfl⟩, hW, hsame.mono (by decide) (by decide)⟩
  show Steps p.tables e below (s₁.setTop (mkF m 0 #[.val (.int p0), .val (.int p1), .val (.int p2), .val (.int p3), .val (.int p4), .val (.int p5), .unset, .unset, .unset, .unset, .unset, .unset, .unset, .unset, .unset, .unset] [])) _
  refine XS.iloadN X0.here hx rfl (hb hby at_0) rfl ?_
  show Steps p.tables e below (s₁.setTop (mkF m 1 #[.val (.int p0), .val (.int p1), .val (.int p2), .val (.int p3), .val (.int p4), .val (.int p5), .unset, .unset, .unset, .unset, .unset, .unset, .unset, .unset, .unset, .unset] [(.int p0)])) _
  refine X0.ldcI hx hown (mvT hZ (hw _ (List.mem_of_getElem? (i := 0) rfl))) rfl (hb hby at_1) ?_
  show Steps p.tables e below (s₁.setTop (mkF m 3 #[.val (.int p0), .val (.int p1), .val (.int p2), .val (.int p3), .val (.int p4), .val (.int p5), .unset, .unset, .unset, .unset, .unset, .unset, .unset, .unset, .unset, .unset] [(.int (2147483647 : Int32)), (.int p0)])) _
  refine XS.iand X0.here hx rfl (hb hby at_3) rfl ?_
  show Steps p.tables e below (s₁.setTop (mkF m 4 #[.val (.int p0), .val (.int p1), .val (.int p2), .val (.int p3), .val (.int p4), .val (.int p5), .unset, .unset, .unset, .unset, .unset, .unset, .unset, .unset, .unset, .unset] [(.int (p0 &&& (2147483647 : Int32)))])) _
  refine XS.iconst X0.here hx rfl (hb hby at_4) ?_
  show Steps p.tables e below (s₁.setTop (mkF m 5 #[.val (.int p0), .val (.int p1), .val (.int p2), .val (.int p3), .val (.int p4), .val (.int p5), .unset, .unset, .unset, .unset, .unset, .unset, .unset, .unset, .unset, .unset] [(.int (5 : Int32)), (.int (p0 &&& (2147483647 : Int32)))])) _
  refine iremM X0 hx rfl (hb hby at_5) rfl (by decide) ?_
  show Steps p.tables e below (s₁.setTop (mkF m 6 #[.val (.int p0), .val (.int p1), .val (.int p2), .val (.int p3), .val (.int p4), .val (.int p5), .unset, .unset, .unset, .unset, .unset, .unset, .unset, .unset, .unset, .unset] [(.int ((p0 &&& (2147483647 : Int32)) % (5 : Int32)))])) _
  refine XS.istore X0.here hx rfl (hb hby at_6) rfl (l' := #[.val (.int p0), .val (.int p1), .val (.int p2), .val (.int p3), .val (.int p4), .val (.int p5), .val (.int ((p0 &&& (2147483647 : Int32)) % (5 : Int32))), .unset, .unset, .unset, .unset, .unset, .unset, .unset, .unset, .unset]) rfl ?_
  show Steps p.tables e below (s₁.setTop (mkF m 8 #[.val (.int p0), .val (.int p1), .val (.int p2), .val (.int p3), .val (.int p4), .val (.int p5), .val (.int ((p0 &&& (2147483647 : Int32)) % (5 : Int32))), .unset, .unset, .unset, .unset, .unset, .unset, .unset, .unset, .unset] [])) _
  rw [hn]
  show Steps p.tables e below (s₁.setTop (mkF m 8 #[.val (.int p0), .val (.int p1), .val (.int p2), .val (.int p3), .val (.int p4), .val (.int p5), .val (.int (2 : Int32)), .unset, .unset, .unset, .unset, .unset, .unset, .unset, .unset, .unset] [])) _
  refine XS.iloadN X0.here hx rfl (hb hby at_8) rfl ?_
  show Steps p.tables e below (s₁.setTop (mkF m 9 #[.val (.int p0), .val (.int p1), .val (.int p2), .val (.int p3), .val (.int p4), .val (.int p5), .val (.int (2 : Int32)), .unset, .unset, .unset, .unset, .unset, .unset, .unset, .unset, .unset] [(.int p2)])) _
  refine XS.i2b X0.here hx rfl (hb hby at_9) rfl ?_
  show Steps p.tables e below (s₁.setTop (mkF m 10 #[.val (.int p0), .val (.int p1), .val (.int p2), .val (.int p3), .val (.int p4), .val (.int p5), .val (.int (2 : Int32)), .unset, .unset, .unset, .unset, .unset, .unset, .unset, .unset, .unset] [(.int (p2.toInt8.toInt32))])) _
  refine XS.istore X0.here hx rfl (hb hby at_10) rfl (l' := #[.val (.int p0), .val (.int p1), .val (.int p2), .val (.int p3), .val (.int p4), .val (.int p5), .val (.int (2 : Int32)), .val (.int (p2.toInt8.toInt32)), .unset, .unset, .unset, .unset, .unset, .unset, .unset, .unset]) rfl ?_
  show Steps p.tables e below (s₁.setTop (mkF m 12 #[.val (.int p0), .val (.int p1), .val (.int p2), .val (.int p3), .val (.int p4), .val (.int p5), .val (.int (2 : Int32)), .val (.int (p2.toInt8.toInt32)), .unset, .unset, .unset, .unset, .unset, .unset, .unset, .unset] [])) _
  rw [h_ba]
  show Steps p.tables e below (s₁.setTop (mkF m 12 #[.val (.int p0), .val (.int p1), .val (.int p2), .val (.int p3), .val (.int p4), .val (.int p5), .val (.int (2 : Int32)), .val (.int ba), .unset, .unset, .unset, .unset, .unset, .unset, .unset, .unset] [])) _
  refine XS.iloadN X0.here hx rfl (hb hby at_12) rfl ?_
  show Steps p.tables e below (s₁.setTop (mkF m 13 #[.val (.int p0), .val (.int p1), .val (.int p2), .val (.int p3), .val (.int p4), .val (.int p5), .val (.int (2 : Int32)), .val (.int ba), .unset, .unset, .unset, .unset, .unset, .unset, .unset, .unset] [(.int p3)])) _
  refine XS.i2b X0.here hx rfl (hb hby at_13) rfl ?_
  show Steps p.tables e below (s₁.setTop (mkF m 14 #[.val (.int p0), .val (.int p1), .val (.int p2), .val (.int p3), .val (.int p4), .val (.int p5), .val (.int (2 : Int32)), .val (.int ba), .unset, .unset, .unset, .unset, .unset, .unset, .unset, .unset] [(.int (p3.toInt8.toInt32))])) _
  refine XS.istore X0.here hx rfl (hb hby at_14) rfl (l' := #[.val (.int p0), .val (.int p1), .val (.int p2), .val (.int p3), .val (.int p4), .val (.int p5), .val (.int (2 : Int32)), .val (.int ba), .val (.int (p3.toInt8.toInt32)), .unset, .unset, .unset, .unset, .unset, .unset, .unset]) rfl ?_
  show Steps p.tables e below (s₁.setTop (mkF m 16 #[.val (.int p0), .val (.int p1), .val (.int p2), .val (.int p3), .val (.int p4), .val (.int p5), .val (.int (2 : Int32)), .val (.int ba), .val (.int (p3.toInt8.toInt32)), .unset, .unset, .unset, .unset, .unset, .unset, .unset] [])) _
  rw [h_bb]
  show Steps p.tables e below (s₁.setTop (mkF m 16 #[.val (.int p0), .val (.int p1), .val (.int p2), .val (.int p3), .val (.int p4), .val (.int p5), .val (.int (2 : Int32)), .val (.int ba), .val (.int bb), .unset, .unset, .unset, .unset, .unset, .unset, .unset] [])) _
  refine XS.iload X0.here hx rfl (hb hby at_16) rfl ?_
  show Steps p.tables e below (s₁.setTop (mkF m 18 #[.val (.int p0), .val (.int p1), .val (.int p2), .val (.int p3), .val (.int p4), .val (.int p5), .val (.int (2 : Int32)), .val (.int ba), .val (.int bb), .unset, .unset, .unset, .unset, .unset, .unset, .unset] [(.int p4)])) _
  refine XS.i2b X0.here hx rfl (hb hby at_18) rfl ?_
  show Steps p.tables e below (s₁.setTop (mkF m 19 #[.val (.int p0), .val (.int p1), .val (.int p2), .val (.int p3), .val (.int p4), .val (.int p5), .val (.int (2 : Int32)), .val (.int ba), .val (.int bb), .unset, .unset, .unset, .unset, .unset, .unset, .unset] [(.int (p4.toInt8.toInt32))])) _
  refine XS.istore X0.here hx rfl (hb hby at_19) rfl (l' := #[.val (.int p0), .val (.int p1), .val (.int p2), .val (.int p3), .val (.int p4), .val (.int p5), .val (.int (2 : Int32)), .val (.int ba), .val (.int bb), .val (.int (p4.toInt8.toInt32)), .unset, .unset, .unset, .unset, .unset, .unset]) rfl ?_
  show Steps p.tables e below (s₁.setTop (mkF m 21 #[.val (.int p0), .val (.int p1), .val (.int p2), .val (.int p3), .val (.int p4), .val (.int p5), .val (.int (2 : Int32)), .val (.int ba), .val (.int bb), .val (.int (p4.toInt8.toInt32)), .unset, .unset, .unset, .unset, .unset, .unset] [])) _
  rw [h_bc]
  show Steps p.tables e below (s₁.setTop (mkF m 21 #[.val (.int p0), .val (.int p1), .val (.int p2), .val (.int p3), .val (.int p4), .val (.int p5), .val (.int (2 : Int32)), .val (.int ba), .val (.int bb), .val (.int bc), .unset, .unset, .unset, .unset, .unset, .unset] [])) _
  refine XS.iload X0.here hx rfl (hb hby at_21) rfl ?_
  show Steps p.tables e below (s₁.setTop (mkF m 23 #[.val (.int p0), .val (.int p1), .val (.int p2), .val (.int p3), .val (.int p4), .val (.int p5), .val (.int (2 : Int32)), .val (.int ba), .val (.int bb), .val (.int bc), .unset, .unset, .unset, .unset, .unset, .unset] [(.int p5)])) _
  refine XS.i2b X0.here hx rfl (hb hby at_23) rfl ?_
  show Steps p.tables e below (s₁.setTop (mkF m 24 #[.val (.int p0), .val (.int p1), .val (.int p2), .val (.int p3), .val (.int p4), .val (.int p5), .val (.int (2 : Int32)), .val (.int ba), .val (.int bb), .val (.int bc), .unset, .unset, .unset, .unset, .unset, .unset] [(.int (p5.toInt8.toInt32))])) _
  refine XS.istore X0.here hx rfl (hb hby at_24) rfl (l' := #[.val (.int p0), .val (.int p1), .val (.int p2), .val (.int p3), .val (.int p4), .val (.int p5), .val (.int (2 : Int32)), .val (.int ba), .val (.int bb), .val (.int bc), .val (.int (p5.toInt8.toInt32)), .unset, .unset, .unset, .unset, .unset]) rfl ?_
  show Steps p.tables e below (s₁.setTop (mkF m 26 #[.val (.int p0), .val (.int p1), .val (.int p2), .val (.int p3), .val (.int p4), .val (.int p5), .val (.int (2 : Int32)), .val (.int ba), .val (.int bb), .val (.int bc), .val (.int (p5.toInt8.toInt32)), .unset, .unset, .unset, .unset, .unset] [])) _
  rw [h_bd]
  show Steps p.tables e below (s₁.setTop (mkF m 26 #[.val (.int p0), .val (.int p1), .val (.int p2), .val (.int p3), .val (.int p4), .val (.int p5), .val (.int (2 : Int32)), .val (.int ba), .val (.int bb), .val (.int bc), .val (.int bd), .unset, .unset, .unset, .unset, .unset] [])) _
  refine XS.iload X0.here hx rfl (hb hby at_26) rfl ?_
  show Steps p.tables e below (s₁.setTop (mkF m 28 #[.val (.int p0), .val (.int p1), .val (.int p2), .val (.int p3), .val (.int p4), .val (.int p5), .val (.int (2 : Int32)), .val (.int ba), .val (.int bb), .val (.int bc), .val (.int bd), .unset, .unset, .unset, .unset, .unset] [(.int (2 : Int32))])) _
  refine XS.ifYes X0.here hx rfl (pc0 := 28) (pc' := 39) rfl (hb hby at_28) rfl ((if0 _ _).trans (feq (by decide)).2) (by decide) (by decide) ?_
  show Steps p.tables e below (s₁.setTop (mkF m 39 #[.val (.int p0), .val (.int p1), .val (.int p2), .val (.int p3), .val (.int p4), .val (.int p5), .val (.int (2 : Int32)), .val (.int ba), .val (.int bb), .val (.int bc), .val (.int bd), .unset, .unset, .unset, .unset, .unset] [])) _
  refine XS.iload X0.here hx rfl (hb hby at_39) rfl ?_
  show Steps p.tables e below (s₁.setTop (mkF m 41 #[.val (.int p0), .val (.int p1), .val (.int p2), .val (.int p3), .val (.int p4), .val (.int p5), .val (.int (2 : Int32)), .val (.int ba), .val (.int bb), .val (.int bc), .val (.int bd), .unset, .unset, .unset, .unset, .unset] [(.int (2 : Int32))])) _
  refine XS.iconst X0.here hx rfl (hb hby at_41) ?_
  show Steps p.tables e below (s₁.setTop (mkF m 42 #[.val (.int p0), .val (.int p1), .val (.int p2), .val (.int p3), .val (.int p4), .val (.int p5), .val (.int (2 : Int32)), .val (.int ba), .val (.int bb), .val (.int bc), .val (.int bd), .unset, .unset, .unset, .unset, .unset] [(.int (1 : Int32)), (.int (2 : Int32))])) _
  refine XS.icmpYes X0.here hx rfl (pc0 := 42) (pc' := 58) rfl (hb hby at_42) rfl (feq (by decide)).2 (by decide) (by decide) ?_
  show Steps p.tables e below (s₁.setTop (mkF m 58 #[.val (.int p0), .val (.int p1), .val (.int p2), .val (.int p3), .val (.int p4), .val (.int p5), .val (.int (2 : Int32)), .val (.int ba), .val (.int bb), .val (.int bc), .val (.int bd), .unset, .unset, .unset, .unset, .unset] [])) _
  refine XS.iload X0.here hx rfl (hb hby at_58) rfl ?_
  show Steps p.tables e below (s₁.setTop (mkF m 60 #[.val (.int p0), .val (.int p1), .val (.int p2), .val (.int p3), .val (.int p4), .val (.int p5), .val (.int (2 : Int32)), .val (.int ba), .val (.int bb), .val (.int bc), .val (.int bd), .unset, .unset, .unset, .unset, .unset] [(.int (2 : Int32))])) _
  refine XS.iconst X0.here hx rfl (hb hby at_60) ?_
  show Steps p.tables e below (s₁.setTop (mkF m 61 #[.val (.int p0), .val (.int p1), .val (.int p2), .val (.int p3), .val (.int p4), .val (.int p5), .val (.int (2 : Int32)), .val (.int ba), .val (.int bb), .val (.int bc), .val (.int bd), .unset, .unset, .unset, .unset, .unset] [(.int (2 : Int32)), (.int (2 : Int32))])) _
  refine XS.icmpNo X0.here hx rfl (hb hby at_61) rfl (teq (rfl : (2 : Int32) = (2 : Int32))).2 ?_
  show Steps p.tables e below (s₁.setTop (mkF m 64 #[.val (.int p0), .val (.int p1), .val (.int p2), .val (.int p3), .val (.int p4), .val (.int p5), .val (.int (2 : Int32)), .val (.int ba), .val (.int bb), .val (.int bc), .val (.int bd), .unset, .unset, .unset, .unset, .unset] [])) _
  refine XS.iconst X0.here hx rfl (hb hby at_64) ?_
  show Steps p.tables e below (s₁.setTop (mkF m 65 #[.val (.int p0), .val (.int p1), .val (.int p2), .val (.int p3), .val (.int p4), .val (.int p5), .val (.int (2 : Int32)), .val (.int ba), .val (.int bb), .val (.int bc), .val (.int bd), .unset, .unset, .unset, .unset, .unset] [(.int (2 : Int32))])) _
  refine st1 _ ?_
  show Steps p.tables e below (T1.setTop (mkF m 67 #[.val (.int p0), .val (.int p1), .val (.int p2), .val (.int p3), .val (.int p4), .val (.int p5), .val (.int (2 : Int32)), .val (.int ba), .val (.int bb), .val (.int bc), .val (.int bd), .unset, .unset, .unset, .unset, .unset] [(.ref b1)])) _
  refine XS.dup X1.here hx rfl (hb hby at_67) rfl rfl ?_
  show Steps p.tables e below (T1.setTop (mkF m 68 #[.val (.int p0), .val (.int p1), .val (.int p2), .val (.int p3), .val (.int p4), .val (.int p5), .val (.int (2 : Int32)), .val (.int ba), .val (.int bb), .val (.int bc), .val (.int bd), .unset, .unset, .unset, .unset, .unset] [(.ref b1), (.ref b1)])) _
  refine XS.iconst X1.here hx rfl (hb hby at_68) ?_
  show Steps p.tables e below (T1.setTop (mkF m 69 #[.val (.int p0), .val (.int p1), .val (.int p2), .val (.int p3), .val (.int p4), .val (.int p5), .val (.int (2 : Int32)), .val (.int ba), .val (.int bb), .val (.int bc), .val (.int bd), .unset, .unset, .unset, .unset, .unset] [(.int (0 : Int32)), (.ref b1), (.ref b1)])) _
  refine XS.iload X1.here hx rfl (hb hby at_69) rfl ?_
  show Steps p.tables e below (T1.setTop (mkF m 71 #[.val (.int p0), .val (.int p1), .val (.int p2), .val (.int p3), .val (.int p4), .val (.int p5), .val (.int (2 : Int32)), .val (.int ba), .val (.int bb), .val (.int bc), .val (.int bd), .unset, .unset, .unset, .unset, .unset] [(.int ba), (.int (0 : Int32)), (.ref b1), (.ref b1)])) _
  refine st2 _ ?_
  show Steps p.tables e below (T2.setTop (mkF m 72 #[.val (.int p0), .val (.int p1), .val (.int p2), .val (.int p3), .val (.int p4), .val (.int p5), .val (.int (2 : Int32)), .val (.int ba), .val (.int bb), .val (.int bc), .val (.int bd), .unset, .unset, .unset, .unset, .unset] [(.ref b1)])) _
  refine XS.dup X2.here hx rfl (hb hby at_72) rfl rfl ?_
  show Steps p.tables e below (T2.setTop (mkF m 73 #[.val (.int p0), .val (.int p1), .val (.int p2), .val (.int p3), .val (.int p4), .val (.int p5), .val (.int (2 : Int32)), .val (.int ba), .val (.int bb), .val (.int bc), .val (.int bd), .unset, .unset, .unset, .unset, .unset] [(.ref b1), (.ref b1)])) _
  refine XS.iconst X2.here hx rfl (hb hby at_73) ?_
  show Steps p.tables e below (T2.setTop (mkF m 74 #[.val (.int p0), .val (.int p1), .val (.int p2), .val (.int p3), .val (.int p4), .val (.int p5), .val (.int (2 : Int32)), .val (.int ba), .val (.int bb), .val (.int bc), .val (.int bd), .unset, .unset, .unset, .unset, .unset] [(.int (1 : Int32)), (.ref b1), (.ref b1)])) _
  refine XS.iload X2.here hx rfl (hb hby at_74) rfl ?_
  show Steps p.tables e below (T2.setTop (mkF m 76 #[.val (.int p0), .val (.int p1), .val (.int p2), .val (.int p3), .val (.int p4), .val (.int p5), .val (.int (2 : Int32)), .val (.int ba), .val (.int bb), .val (.int bc), .val (.int bd), .unset, .unset, .unset, .unset, .unset] [(.int bb), (.int (1 : Int32)), (.ref b1), (.ref b1)])) _
  refine st3 _ ?_
  show Steps p.tables e below (T3.setTop (mkF m 77 #[.val (.int p0), .val (.int p1), .val (.int p2), .val (.int p3), .val (.int p4), .val (.int p5), .val (.int (2 : Int32)), .val (.int ba), .val (.int bb), .val (.int bc), .val (.int bd), .unset, .unset, .unset, .unset, .unset] [(.ref b1)])) _
  refine XS.astore X3.here hx rfl (hb hby at_77) rfl rfl (l' := #[.val (.int p0), .val (.int p1), .val (.int p2), .val (.int p3), .val (.int p4), .val (.int p5), .val (.int (2 : Int32)), .val (.int ba), .val (.int bb), .val (.int bc), .val (.int bd), .val (.ref b1), .unset, .unset, .unset, .unset]) rfl ?_
  show Steps p.tables e below (T3.setTop (mkF m 79 #[.val (.int p0), .val (.int p1), .val (.int p2), .val (.int p3), .val (.int p4), .val (.int p5), .val (.int (2 : Int32)), .val (.int ba), .val (.int bb), .val (.int bc), .val (.int bd), .val (.ref b1), .unset, .unset, .unset, .unset] [])) _
  refine XS.goto X3.here hx rfl (pc0 := 79) (pc' := 136) rfl (hb hby at_79) (by decide) (by decide) ?_
  show Steps p.tables e below (T3.setTop (mkF m 136 #[.val (.int p0), .val (.int p1), .val (.int p2), .val (.int p3), .val (.int p4), .val (.int p5), .val (.int (2 : Int32)), .val (.int ba), .val (.int bb), .val (.int bc), .val (.int bd), .val (.ref b1), .unset, .unset, .unset, .unset] [])) _
  refine XS.aload X3.here hx rfl (hb hby at_136) rfl rfl ?_
  show Steps p.tables e below (T3.setTop (mkF m 138 #[.val (.int p0), .val (.int p1), .val (.int p2), .val (.int p3), .val (.int p4), .val (.int p5), .val (.int (2 : Int32)), .val (.int ba), .val (.int bb), .val (.int bc), .val (.int bd), .val (.ref b1), .unset, .unset, .unset, .unset] [(.ref b1)])) _
  refine st4 _ ?_
  show Steps p.tables e below (T4.setTop (mkF m 141 #[.val (.int p0), .val (.int p1), .val (.int p2), .val (.int p3), .val (.int p4), .val (.int p5), .val (.int (2 : Int32)), .val (.int ba), .val (.int bb), .val (.int bc), .val (.int bd), .val (.ref b1), .unset, .unset, .unset, .unset] [(.ref cc)])) _
  refine XS.astore X4.here hx rfl (hb hby at_141) rfl rfl (l' := #[.val (.int p0), .val (.int p1), .val (.int p2), .val (.int p3), .val (.int p4), .val (.int p5), .val (.int (2 : Int32)), .val (.int ba), .val (.int bb), .val (.int bc), .val (.int bd), .val (.ref b1), .val (.ref cc), .unset, .unset, .unset]) rfl ?_
  show Steps p.tables e below (T4.setTop (mkF m 143 #[.val (.int p0), .val (.int p1), .val (.int p2), .val (.int p3), .val (.int p4), .val (.int p5), .val (.int (2 : Int32)), .val (.int ba), .val (.int bb), .val (.int bc), .val (.int bd), .val (.ref b1), .val (.ref cc), .unset, .unset, .unset] [])) _
  refine XS.aload X4.here hx rfl (hb hby at_143) rfl rfl ?_
  show Steps p.tables e below (T4.setTop (mkF m 145 #[.val (.int p0), .val (.int p1), .val (.int p2), .val (.int p3), .val (.int p4), .val (.int p5), .val (.int (2 : Int32)), .val (.int ba), .val (.int bb), .val (.int bc), .val (.int bd), .val (.ref b1), .val (.ref cc), .unset, .unset, .unset] [(.ref cc)])) _
  refine XS.ifnullNo X4.here hx rfl (hb hby at_145) rfl ?_
  show Steps p.tables e below (T4.setTop (mkF m 148 #[.val (.int p0), .val (.int p1), .val (.int p2), .val (.int p3), .val (.int p4), .val (.int p5), .val (.int (2 : Int32)), .val (.int ba), .val (.int bb), .val (.int bc), .val (.int bd), .val (.ref b1), .val (.ref cc), .unset, .unset, .unset] [])) _
  refine XS.aload X4.here hx rfl (hb hby at_148) rfl rfl ?_
  show Steps p.tables e below (T4.setTop (mkF m 150 #[.val (.int p0), .val (.int p1), .val (.int p2), .val (.int p3), .val (.int p4), .val (.int p5), .val (.int (2 : Int32)), .val (.int ba), .val (.int bb), .val (.int bc), .val (.int bd), .val (.ref b1), .val (.ref cc), .unset, .unset, .unset] [(.ref cc)])) _
  refine own_len X4 hx hZ rfl AC4 rfl rfl (hb hby at_150) ?_
  show Steps p.tables e below (T4.setTop (mkF m 151 #[.val (.int p0), .val (.int p1), .val (.int p2), .val (.int p3), .val (.int p4), .val (.int p5), .val (.int (2 : Int32)), .val (.int ba), .val (.int bb), .val (.int bc), .val (.int bd), .val (.ref b1), .val (.ref cc), .unset, .unset, .unset] [(.int (256 : Int32))])) _
  refine XS.sipush X4.here hx rfl (hb hby at_151) ?_
  show Steps p.tables e below (T4.setTop (mkF m 154 #[.val (.int p0), .val (.int p1), .val (.int p2), .val (.int p3), .val (.int p4), .val (.int p5), .val (.int (2 : Int32)), .val (.int ba), .val (.int bb), .val (.int bc), .val (.int bd), .val (.ref b1), .val (.ref cc), .unset, .unset, .unset] [(.int (256 : Int32)), (.int (256 : Int32))])) _
  refine XS.icmpYes X4.here hx rfl (pc0 := 154) (pc' := 159) rfl (hb hby at_154) rfl (teq (rfl : (256 : Int32) = (256 : Int32))).1 (by decide) (by decide) ?_
  show Steps p.tables e below (T4.setTop (mkF m 159 #[.val (.int p0), .val (.int p1), .val (.int p2), .val (.int p3), .val (.int p4), .val (.int p5), .val (.int (2 : Int32)), .val (.int ba), .val (.int bb), .val (.int bc), .val (.int bd), .val (.ref b1), .val (.ref cc), .unset, .unset, .unset] [])) _
  refine XS.iloadN X4.here hx rfl (hb hby at_159) rfl ?_
  show Steps p.tables e below (T4.setTop (mkF m 160 #[.val (.int p0), .val (.int p1), .val (.int p2), .val (.int p3), .val (.int p4), .val (.int p5), .val (.int (2 : Int32)), .val (.int ba), .val (.int bb), .val (.int bc), .val (.int bd), .val (.ref b1), .val (.ref cc), .unset, .unset, .unset] [(.int p1)])) _
  refine XS.sipush X4.here hx rfl (hb hby at_160) ?_
  show Steps p.tables e below (T4.setTop (mkF m 163 #[.val (.int p0), .val (.int p1), .val (.int p2), .val (.int p3), .val (.int p4), .val (.int p5), .val (.int (2 : Int32)), .val (.int ba), .val (.int bb), .val (.int bc), .val (.int bd), .val (.ref b1), .val (.ref cc), .unset, .unset, .unset] [(.int (255 : Int32)), (.int p1)])) _
  refine XS.iand X4.here hx rfl (hb hby at_163) rfl ?_
  show Steps p.tables e below (T4.setTop (mkF m 164 #[.val (.int p0), .val (.int p1), .val (.int p2), .val (.int p3), .val (.int p4), .val (.int p5), .val (.int (2 : Int32)), .val (.int ba), .val (.int bb), .val (.int bc), .val (.int bd), .val (.ref b1), .val (.ref cc), .unset, .unset, .unset] [(.int (p1 &&& (255 : Int32)))])) _
  refine XS.istore X4.here hx rfl (hb hby at_164) rfl (l' := #[.val (.int p0), .val (.int p1), .val (.int p2), .val (.int p3), .val (.int p4), .val (.int p5), .val (.int (2 : Int32)), .val (.int ba), .val (.int bb), .val (.int bc), .val (.int bd), .val (.ref b1), .val (.ref cc), .val (.int (p1 &&& (255 : Int32))), .unset, .unset]) rfl ?_
  show Steps p.tables e below (T4.setTop (mkF m 166 #[.val (.int p0), .val (.int p1), .val (.int p2), .val (.int p3), .val (.int p4), .val (.int p5), .val (.int (2 : Int32)), .val (.int ba), .val (.int bb), .val (.int bc), .val (.int bd), .val (.ref b1), .val (.ref cc), .val (.int (p1 &&& (255 : Int32))), .unset, .unset] [])) _
  rw [h_kk]
  show Steps p.tables e below (T4.setTop (mkF m 166 #[.val (.int p0), .val (.int p1), .val (.int p2), .val (.int p3), .val (.int p4), .val (.int p5), .val (.int (2 : Int32)), .val (.int ba), .val (.int bb), .val (.int bc), .val (.int bd), .val (.ref b1), .val (.ref cc), .val (.int kk), .unset, .unset] [])) _
  refine XS.iconst X4.here hx rfl (hb hby at_166) ?_
  show Steps p.tables e below (T4.setTop (mkF m 167 #[.val (.int p0), .val (.int p1), .val (.int p2), .val (.int p3), .val (.int p4), .val (.int p5), .val (.int (2 : Int32)), .val (.int ba), .val (.int bb), .val (.int bc), .val (.int bd), .val (.ref b1), .val (.ref cc), .val (.int kk), .unset, .unset] [(.int (0 : Int32))])) _
  refine XS.istore X4.here hx rfl (hb hby at_167) rfl (l' := #[.val (.int p0), .val (.int p1), .val (.int p2), .val (.int p3), .val (.int p4), .val (.int p5), .val (.int (2 : Int32)), .val (.int ba), .val (.int bb), .val (.int bc), .val (.int bd), .val (.ref b1), .val (.ref cc), .val (.int kk), .val (.int (0 : Int32)), .unset]) rfl ?_
  show Steps p.tables e below (T4.setTop (mkF m 169 #[.val (.int p0), .val (.int p1), .val (.int p2), .val (.int p3), .val (.int p4), .val (.int p5), .val (.int (2 : Int32)), .val (.int ba), .val (.int bb), .val (.int bc), .val (.int bd), .val (.ref b1), .val (.ref cc), .val (.int kk), .val (.int (0 : Int32)), .unset] [])) _
  refine XS.iload X4.here hx rfl (hb hby at_169) rfl ?_
  show Steps p.tables e below (T4.setTop (mkF m 171 #[.val (.int p0), .val (.int p1), .val (.int p2), .val (.int p3), .val (.int p4), .val (.int p5), .val (.int (2 : Int32)), .val (.int ba), .val (.int bb), .val (.int bc), .val (.int bd), .val (.ref b1), .val (.ref cc), .val (.int kk), .val (.int (0 : Int32)), .unset] [(.int (2 : Int32))])) _
  refine XS.ifNo X4.here hx rfl (hb hby at_171) rfl ((if0 _ _).trans (tlt (by decide)).2.2.2) ?_
  show Steps p.tables e below (T4.setTop (mkF m 174 #[.val (.int p0), .val (.int p1), .val (.int p2), .val (.int p3), .val (.int p4), .val (.int p5), .val (.int (2 : Int32)), .val (.int ba), .val (.int bb), .val (.int bc), .val (.int bd), .val (.ref b1), .val (.ref cc), .val (.int kk), .val (.int (0 : Int32)), .unset] [])) _
  refine XS.iload X4.here hx rfl (hb hby at_174) rfl ?_
  show Steps p.tables e below (T4.setTop (mkF m 176 #[.val (.int p0), .val (.int p1), .val (.int p2), .val (.int p3), .val (.int p4), .val (.int p5), .val (.int (2 : Int32)), .val (.int ba), .val (.int bb), .val (.int bc), .val (.int bd), .val (.ref b1), .val (.ref cc), .val (.int kk), .val (.int (0 : Int32)), .unset] [(.int (0 : Int32))])) _
  refine XS.iload X4.here hx rfl (hb hby at_176) rfl ?_
  show Steps p.tables e below (T4.setTop (mkF m 178 #[.val (.int p0), .val (.int p1), .val (.int p2), .val (.int p3), .val (.int p4), .val (.int p5), .val (.int (2 : Int32)), .val (.int ba), .val (.int bb), .val (.int bc), .val (.int bd), .val (.ref b1), .val (.ref cc), .val (.int kk), .val (.int (0 : Int32)), .unset] [(.int ba), (.int (0 : Int32))])) _
  refine XS.iload X4.here hx rfl (hb hby at_178) rfl ?_
  show Steps p.tables e below (T4.setTop (mkF m 180 #[.val (.int p0), .val (.int p1), .val (.int p2), .val (.int p3), .val (.int p4), .val (.int p5), .val (.int (2 : Int32)), .val (.int ba), .val (.int bb), .val (.int bc), .val (.int bd), .val (.ref b1), .val (.ref cc), .val (.int kk), .val (.int (0 : Int32)), .unset] [(.int kk), (.int ba), (.int (0 : Int32))])) _
  refine st5 _ ?_
  show Steps p.tables e below (T5.setTop (mkF m 183 #[.val (.int p0), .val (.int p1), .val (.int p2), .val (.int p3), .val (.int p4), .val (.int p5), .val (.int (2 : Int32)), .val (.int ba), .val (.int bb), .val (.int bc), .val (.int bd), .val (.ref b1), .val (.ref cc), .val (.int kk), .val (.int (0 : Int32)), .unset] [(.int (own_hit ba kk)), (.int (0 : Int32))])) _
  refine XS.iadd X5.here hx rfl (hb hby at_183) rfl ?_
  show Steps p.tables e below (T5.setTop (mkF m 184 #[.val (.int p0), .val (.int p1), .val (.int p2), .val (.int p3), .val (.int p4), .val (.int p5), .val (.int (2 : Int32)), .val (.int ba), .val (.int bb), .val (.int bc), .val (.int bd), .val (.ref b1), .val (.ref cc), .val (.int kk), .val (.int (0 : Int32)), .unset] [(.int ((0 : Int32) + (own_hit ba kk)))])) _
  refine XS.istore X5.here hx rfl (hb hby at_184) rfl (l' := #[.val (.int p0), .val (.int p1), .val (.int p2), .val (.int p3), .val (.int p4), .val (.int p5), .val (.int (2 : Int32)), .val (.int ba), .val (.int bb), .val (.int bc), .val (.int bd), .val (.ref b1), .val (.ref cc), .val (.int kk), .val (.int ((0 : Int32) + (own_hit ba kk))), .unset]) rfl ?_
  show Steps p.tables e below (T5.setTop (mkF m 186 #[.val (.int p0), .val (.int p1), .val (.int p2), .val (.int p3), .val (.int p4), .val (.int p5), .val (.int (2 : Int32)), .val (.int ba), .val (.int bb), .val (.int bc), .val (.int bd), .val (.ref b1), .val (.ref cc), .val (.int kk), .val (.int ((0 : Int32) + (own_hit ba kk))), .unset] [])) _
  refine XS.iload X5.here hx rfl (hb hby at_186) rfl ?_
  show Steps p.tables e below (T5.setTop (mkF m 188 #[.val (.int p0), .val (.int p1), .val (.int p2), .val (.int p3), .val (.int p4), .val (.int p5), .val (.int (2 : Int32)), .val (.int ba), .val (.int bb), .val (.int bc), .val (.int bd), .val (.ref b1), .val (.ref cc), .val (.int kk), .val (.int ((0 : Int32) + (own_hit ba kk))), .unset] [(.int (2 : Int32))])) _
  refine XS.iconst X5.here hx rfl (hb hby at_188) ?_
  show Steps p.tables e below (T5.setTop (mkF m 189 #[.val (.int p0), .val (.int p1), .val (.int p2), .val (.int p3), .val (.int p4), .val (.int p5), .val (.int (2 : Int32)), .val (.int ba), .val (.int bb), .val (.int bc), .val (.int bd), .val (.ref b1), .val (.ref cc), .val (.int kk), .val (.int ((0 : Int32) + (own_hit ba kk))), .unset] [(.int (1 : Int32)), (.int (2 : Int32))])) _
  refine XS.icmpNo X5.here hx rfl (hb hby at_189) rfl (tlt (by decide)).2.2.2 ?_
  show Steps p.tables e below (T5.setTop (mkF m 192 #[.val (.int p0), .val (.int p1), .val (.int p2), .val (.int p3), .val (.int p4), .val (.int p5), .val (.int (2 : Int32)), .val (.int ba), .val (.int bb), .val (.int bc), .val (.int bd), .val (.ref b1), .val (.ref cc), .val (.int kk), .val (.int ((0 : Int32) + (own_hit ba kk))), .unset] [])) _
  refine XS.iload X5.here hx rfl (hb hby at_192) rfl ?_
  show Steps p.tables e below (T5.setTop (mkF m 194 #[.val (.int p0), .val (.int p1), .val (.int p2), .val (.int p3), .val (.int p4), .val (.int p5), .val (.int (2 : Int32)), .val (.int ba), .val (.int bb), .val (.int bc), .val (.int bd), .val (.ref b1), .val (.ref cc), .val (.int kk), .val (.int ((0 : Int32) + (own_hit ba kk))), .unset] [(.int ((0 : Int32) + (own_hit ba kk)))])) _
  refine XS.iload X5.here hx rfl (hb hby at_194) rfl ?_
  show Steps p.tables e below (T5.setTop (mkF m 196 #[.val (.int p0), .val (.int p1), .val (.int p2), .val (.int p3), .val (.int p4), .val (.int p5), .val (.int (2 : Int32)), .val (.int ba), .val (.int bb), .val (.int bc), .val (.int bd), .val (.ref b1), .val (.ref cc), .val (.int kk), .val (.int ((0 : Int32) + (own_hit ba kk))), .unset] [(.int bb), (.int ((0 : Int32) + (own_hit ba kk)))])) _
  refine XS.iload X5.here hx rfl (hb hby at_196) rfl ?_
  show Steps p.tables e below (T5.setTop (mkF m 198 #[.val (.int p0), .val (.int p1), .val (.int p2), .val (.int p3), .val (.int p4), .val (.int p5), .val (.int (2 : Int32)), .val (.int ba), .val (.int bb), .val (.int bc), .val (.int bd), .val (.ref b1), .val (.ref cc), .val (.int kk), .val (.int ((0 : Int32) + (own_hit ba kk))), .unset] [(.int kk), (.int bb), (.int ((0 : Int32) + (own_hit ba kk)))])) _
  refine st6 _ ?_
  show Steps p.tables e below (T6.setTop (mkF m 201 #[.val (.int p0), .val (.int p1), .val (.int p2), .val (.int p3), .val (.int p4), .val (.int p5), .val (.int (2 : Int32)), .val (.int ba), .val (.int bb), .val (.int bc), .val (.int bd), .val (.ref b1), .val (.ref cc), .val (.int kk), .val (.int ((0 : Int32) + (own_hit ba kk))), .unset] [(.int (own_hit bb kk)), (.int ((0 : Int32) + (own_hit ba kk)))])) _
  refine XS.iadd X6.here hx rfl (hb hby at_201) rfl ?_
  show Steps p.tables e below (T6.setTop (mkF m 202 #[.val (.int p0), .val (.int p1), .val (.int p2), .val (.int p3), .val (.int p4), .val (.int p5), .val (.int (2 : Int32)), .val (.int ba), .val (.int bb), .val (.int bc), .val (.int bd), .val (.ref b1), .val (.ref cc), .val (.int kk), .val (.int ((0 : Int32) + (own_hit ba kk))), .unset] [(.int (((0 : Int32) + (own_hit ba kk)) + (own_hit bb kk)))])) _
  refine XS.istore X6.here hx rfl (hb hby at_202) rfl (l' := #[.val (.int p0), .val (.int p1), .val (.int p2), .val (.int p3), .val (.int p4), .val (.int p5), .val (.int (2 : Int32)), .val (.int ba), .val (.int bb), .val (.int bc), .val (.int bd), .val (.ref b1), .val (.ref cc), .val (.int kk), .val (.int (((0 : Int32) + (own_hit ba kk)) + (own_hit bb kk))), .unset]) rfl ?_
  show Steps p.tables e below (T6.setTop (mkF m 204 #[.val (.int p0), .val (.int p1), .val (.int p2), .val (.int p3), .val (.int p4), .val (.int p5), .val (.int (2 : Int32)), .val (.int ba), .val (.int bb), .val (.int bc), .val (.int bd), .val (.ref b1), .val (.ref cc), .val (.int kk), .val (.int (((0 : Int32) + (own_hit ba kk)) + (own_hit bb kk))), .unset] [])) _
  refine XS.iload X6.here hx rfl (hb hby at_204) rfl ?_
  show Steps p.tables e below (T6.setTop (mkF m 206 #[.val (.int p0), .val (.int p1), .val (.int p2), .val (.int p3), .val (.int p4), .val (.int p5), .val (.int (2 : Int32)), .val (.int ba), .val (.int bb), .val (.int bc), .val (.int bd), .val (.ref b1), .val (.ref cc), .val (.int kk), .val (.int (((0 : Int32) + (own_hit ba kk)) + (own_hit bb kk))), .unset] [(.int (2 : Int32))])) _
  refine XS.iconst X6.here hx rfl (hb hby at_206) ?_
  show Steps p.tables e below (T6.setTop (mkF m 207 #[.val (.int p0), .val (.int p1), .val (.int p2), .val (.int p3), .val (.int p4), .val (.int p5), .val (.int (2 : Int32)), .val (.int ba), .val (.int bb), .val (.int bc), .val (.int bd), .val (.ref b1), .val (.ref cc), .val (.int kk), .val (.int (((0 : Int32) + (own_hit ba kk)) + (own_hit bb kk))), .unset] [(.int (2 : Int32)), (.int (2 : Int32))])) _
  refine XS.icmpYes X6.here hx rfl (pc0 := 207) (pc' := 222) rfl (hb hby at_207) rfl (flt (Int32.lt_irrefl)).2.2.2 (by decide) (by decide) ?_
  show Steps p.tables e below (T6.setTop (mkF m 222 #[.val (.int p0), .val (.int p1), .val (.int p2), .val (.int p3), .val (.int p4), .val (.int p5), .val (.int (2 : Int32)), .val (.int ba), .val (.int bb), .val (.int bc), .val (.int bd), .val (.ref b1), .val (.ref cc), .val (.int kk), .val (.int (((0 : Int32) + (own_hit ba kk)) + (own_hit bb kk))), .unset] [])) _
  refine XS.iload X6.here hx rfl (hb hby at_222) rfl ?_
  show Steps p.tables e below (T6.setTop (mkF m 224 #[.val (.int p0), .val (.int p1), .val (.int p2), .val (.int p3), .val (.int p4), .val (.int p5), .val (.int (2 : Int32)), .val (.int ba), .val (.int bb), .val (.int bc), .val (.int bd), .val (.ref b1), .val (.ref cc), .val (.int kk), .val (.int (((0 : Int32) + (own_hit ba kk)) + (own_hit bb kk))), .unset] [(.int (2 : Int32))])) _
  refine XS.iconst X6.here hx rfl (hb hby at_224) ?_
  show Steps p.tables e below (T6.setTop (mkF m 225 #[.val (.int p0), .val (.int p1), .val (.int p2), .val (.int p3), .val (.int p4), .val (.int p5), .val (.int (2 : Int32)), .val (.int ba), .val (.int bb), .val (.int bc), .val (.int bd), .val (.ref b1), .val (.ref cc), .val (.int kk), .val (.int (((0 : Int32) + (own_hit ba kk)) + (own_hit bb kk))), .unset] [(.int (3 : Int32)), (.int (2 : Int32))])) _
  refine XS.icmpYes X6.here hx rfl (pc0 := 225) (pc' := 240) rfl (hb hby at_225) rfl (flt (by decide)).2.2.2 (by decide) (by decide) ?_
  show Steps p.tables e below (T6.setTop (mkF m 240 #[.val (.int p0), .val (.int p1), .val (.int p2), .val (.int p3), .val (.int p4), .val (.int p5), .val (.int (2 : Int32)), .val (.int ba), .val (.int bb), .val (.int bc), .val (.int bd), .val (.ref b1), .val (.ref cc), .val (.int kk), .val (.int (((0 : Int32) + (own_hit ba kk)) + (own_hit bb kk))), .unset] [])) _
  refine XS.aload X6.here hx rfl (hb hby at_240) rfl rfl ?_
  show Steps p.tables e below (T6.setTop (mkF m 242 #[.val (.int p0), .val (.int p1), .val (.int p2), .val (.int p3), .val (.int p4), .val (.int p5), .val (.int (2 : Int32)), .val (.int ba), .val (.int bb), .val (.int bc), .val (.int bd), .val (.ref b1), .val (.ref cc), .val (.int kk), .val (.int (((0 : Int32) + (own_hit ba kk)) + (own_hit bb kk))), .unset] [(.ref b1)])) _
  refine own_len X6 hx hZ e6 AD4 rfl rfl (hb hby at_242) ?_
  show Steps p.tables e below (T6.setTop (mkF m 243 #[.val (.int p0), .val (.int p1), .val (.int p2), .val (.int p3), .val (.int p4), .val (.int p5), .val (.int (2 : Int32)), .val (.int ba), .val (.int bb), .val (.int bc), .val (.int bd), .val (.ref b1), .val (.ref cc), .val (.int kk), .val (.int (((0 : Int32) + (own_hit ba kk)) + (own_hit bb kk))), .unset] [(.int (2 : Int32))])) _
  refine XS.iload X6.here hx rfl (hb hby at_243) rfl ?_
  show Steps p.tables e below (T6.setTop (mkF m 245 #[.val (.int p0), .val (.int p1), .val (.int p2), .val (.int p3), .val (.int p4), .val (.int p5), .val (.int (2 : Int32)), .val (.int ba), .val (.int bb), .val (.int bc), .val (.int bd), .val (.ref b1), .val (.ref cc), .val (.int kk), .val (.int (((0 : Int32) + (own_hit ba kk)) + (own_hit bb kk))), .unset] [(.int (2 : Int32)), (.int (2 : Int32))])) _
  refine XS.icmpNo X6.here hx rfl (hb hby at_245) rfl (teq (rfl : (2 : Int32) = (2 : Int32))).2 ?_
  show Steps p.tables e below (T6.setTop (mkF m 248 #[.val (.int p0), .val (.int p1), .val (.int p2), .val (.int p3), .val (.int p4), .val (.int p5), .val (.int (2 : Int32)), .val (.int ba), .val (.int bb), .val (.int bc), .val (.int bd), .val (.ref b1), .val (.ref cc), .val (.int kk), .val (.int (((0 : Int32) + (own_hit ba kk)) + (own_hit bb kk))), .unset] [])) _
  refine XS.iconst X6.here hx rfl (hb hby at_248) ?_
  show Steps p.tables e below (T6.setTop (mkF m 249 #[.val (.int p0), .val (.int p1), .val (.int p2), .val (.int p3), .val (.int p4), .val (.int p5), .val (.int (2 : Int32)), .val (.int ba), .val (.int bb), .val (.int bc), .val (.int bd), .val (.ref b1), .val (.ref cc), .val (.int kk), .val (.int (((0 : Int32) + (own_hit ba kk)) + (own_hit bb kk))), .unset] [(.int (1 : Int32))])) _
  refine XS.goto X6.here hx rfl (pc0 := 249) (pc' := 253) rfl (hb hby at_249) (by decide) (by decide) ?_
  show Steps p.tables e below (T6.setTop (mkF m 253 #[.val (.int p0), .val (.int p1), .val (.int p2), .val (.int p3), .val (.int p4), .val (.int p5), .val (.int (2 : Int32)), .val (.int ba), .val (.int bb), .val (.int bc), .val (.int bd), .val (.ref b1), .val (.ref cc), .val (.int kk), .val (.int (((0 : Int32) + (own_hit ba kk)) + (own_hit bb kk))), .unset] [(.int (1 : Int32))])) _
  refine XS.istore X6.here hx rfl (hb hby at_253) rfl (l' := #[.val (.int p0), .val (.int p1), .val (.int p2), .val (.int p3), .val (.int p4), .val (.int p5), .val (.int (2 : Int32)), .val (.int ba), .val (.int bb), .val (.int bc), .val (.int bd), .val (.ref b1), .val (.ref cc), .val (.int kk), .val (.int (((0 : Int32) + (own_hit ba kk)) + (own_hit bb kk))), .val (.int (1 : Int32))]) rfl ?_
  show Steps p.tables e below (T6.setTop (mkF m 255 #[.val (.int p0), .val (.int p1), .val (.int p2), .val (.int p3), .val (.int p4), .val (.int p5), .val (.int (2 : Int32)), .val (.int ba), .val (.int bb), .val (.int bc), .val (.int bd), .val (.ref b1), .val (.ref cc), .val (.int kk), .val (.int (((0 : Int32) + (own_hit ba kk)) + (own_hit bb kk))), .val (.int (1 : Int32))] [])) _
  refine XS.iload X6.here hx rfl (hb hby at_255) rfl ?_
  show Steps p.tables e below (T6.setTop (mkF m 257 #[.val (.int p0), .val (.int p1), .val (.int p2), .val (.int p3), .val (.int p4), .val (.int p5), .val (.int (2 : Int32)), .val (.int ba), .val (.int bb), .val (.int bc), .val (.int bd), .val (.ref b1), .val (.ref cc), .val (.int kk), .val (.int (((0 : Int32) + (own_hit ba kk)) + (own_hit bb kk))), .val (.int (1 : Int32))] [(.int (2 : Int32))])) _
  refine XS.ifNo X6.here hx rfl (hb hby at_257) rfl ((if0 _ _).trans (tlt (by decide)).2.2.2) ?_
  show Steps p.tables e below (T6.setTop (mkF m 260 #[.val (.int p0), .val (.int p1), .val (.int p2), .val (.int p3), .val (.int p4), .val (.int p5), .val (.int (2 : Int32)), .val (.int ba), .val (.int bb), .val (.int bc), .val (.int bd), .val (.ref b1), .val (.ref cc), .val (.int kk), .val (.int (((0 : Int32) + (own_hit ba kk)) + (own_hit bb kk))), .val (.int (1 : Int32))] [])) _
  refine XS.iload X6.here hx rfl (hb hby at_260) rfl ?_
  show Steps p.tables e below (T6.setTop (mkF m 262 #[.val (.int p0), .val (.int p1), .val (.int p2), .val (.int p3), .val (.int p4), .val (.int p5), .val (.int (2 : Int32)), .val (.int ba), .val (.int bb), .val (.int bc), .val (.int bd), .val (.ref b1), .val (.ref cc), .val (.int kk), .val (.int (((0 : Int32) + (own_hit ba kk)) + (own_hit bb kk))), .val (.int (1 : Int32))] [(.int (1 : Int32))])) _
  refine XS.ifNo X6.here hx rfl (hb hby at_262) rfl ((if0 _ _).trans (feq (by decide)).1) ?_
  show Steps p.tables e below (T6.setTop (mkF m 265 #[.val (.int p0), .val (.int p1), .val (.int p2), .val (.int p3), .val (.int p4), .val (.int p5), .val (.int (2 : Int32)), .val (.int ba), .val (.int bb), .val (.int bc), .val (.int bd), .val (.ref b1), .val (.ref cc), .val (.int kk), .val (.int (((0 : Int32) + (own_hit ba kk)) + (own_hit bb kk))), .val (.int (1 : Int32))] [])) _
  refine XS.aload X6.here hx rfl (hb hby at_265) rfl rfl ?_
  show Steps p.tables e below (T6.setTop (mkF m 267 #[.val (.int p0), .val (.int p1), .val (.int p2), .val (.int p3), .val (.int p4), .val (.int p5), .val (.int (2 : Int32)), .val (.int ba), .val (.int bb), .val (.int bc), .val (.int bd), .val (.ref b1), .val (.ref cc), .val (.int kk), .val (.int (((0 : Int32) + (own_hit ba kk)) + (own_hit bb kk))), .val (.int (1 : Int32))] [(.ref b1)])) _
  refine XS.iconst X6.here hx rfl (hb hby at_267) ?_
  show Steps p.tables e below (T6.setTop (mkF m 268 #[.val (.int p0), .val (.int p1), .val (.int p2), .val (.int p3), .val (.int p4), .val (.int p5), .val (.int (2 : Int32)), .val (.int ba), .val (.int bb), .val (.int bc), .val (.int bd), .val (.ref b1), .val (.ref cc), .val (.int kk), .val (.int (((0 : Int32) + (own_hit ba kk)) + (own_hit bb kk))), .val (.int (1 : Int32))] [(.int (0 : Int32)), (.ref b1)])) _
  refine own_ldB X6 hx hZ e6 AD4 (j := (0 : Int32)) ⟨by decide, by decide⟩ rfl rfl (hb hby at_268) ?_
  show Steps p.tables e below (T6.setTop (mkF m 269 #[.val (.int p0), .val (.int p1), .val (.int p2), .val (.int p3), .val (.int p4), .val (.int p5), .val (.int (2 : Int32)), .val (.int ba), .val (.int bb), .val (.int bc), .val (.int bd), .val (.ref b1), .val (.ref cc), .val (.int kk), .val (.int (((0 : Int32) + (own_hit ba kk)) + (own_hit bb kk))), .val (.int (1 : Int32))] [(.int ba)])) _
  refine XS.iload X6.here hx rfl (hb hby at_269) rfl ?_
  show Steps p.tables e below (T6.setTop (mkF m 271 #[.val (.int p0), .val (.int p1), .val (.int p2), .val (.int p3), .val (.int p4), .val (.int p5), .val (.int (2 : Int32)), .val (.int ba), .val (.int bb), .val (.int bc), .val (.int bd), .val (.ref b1), .val (.ref cc), .val (.int kk), .val (.int (((0 : Int32) + (own_hit ba kk)) + (own_hit bb kk))), .val (.int (1 : Int32))] [(.int ba), (.int ba)])) _
  refine XS.icmpNo X6.here hx rfl (hb hby at_271) rfl (teq (rfl : ba = ba)).2 ?_
  show Steps p.tables e below (T6.setTop (mkF m 274 #[.val (.int p0), .val (.int p1), .val (.int p2), .val (.int p3), .val (.int p4), .val (.int p5), .val (.int (2 : Int32)), .val (.int ba), .val (.int bb), .val (.int bc), .val (.int bd), .val (.ref b1), .val (.ref cc), .val (.int kk), .val (.int (((0 : Int32) + (own_hit ba kk)) + (own_hit bb kk))), .val (.int (1 : Int32))] [])) _
  refine XS.iconst X6.here hx rfl (hb hby at_274) ?_
  show Steps p.tables e below (T6.setTop (mkF m 275 #[.val (.int p0), .val (.int p1), .val (.int p2), .val (.int p3), .val (.int p4), .val (.int p5), .val (.int (2 : Int32)), .val (.int ba), .val (.int bb), .val (.int bc), .val (.int bd), .val (.ref b1), .val (.ref cc), .val (.int kk), .val (.int (((0 : Int32) + (own_hit ba kk)) + (own_hit bb kk))), .val (.int (1 : Int32))] [(.int (1 : Int32))])) _
  refine XS.goto X6.here hx rfl (pc0 := 275) (pc' := 279) rfl (hb hby at_275) (by decide) (by decide) ?_
  show Steps p.tables e below (T6.setTop (mkF m 279 #[.val (.int p0), .val (.int p1), .val (.int p2), .val (.int p3), .val (.int p4), .val (.int p5), .val (.int (2 : Int32)), .val (.int ba), .val (.int bb), .val (.int bc), .val (.int bd), .val (.ref b1), .val (.ref cc), .val (.int kk), .val (.int (((0 : Int32) + (own_hit ba kk)) + (own_hit bb kk))), .val (.int (1 : Int32))] [(.int (1 : Int32))])) _
  refine XS.istore X6.here hx rfl (hb hby at_279) rfl (l' := #[.val (.int p0), .val (.int p1), .val (.int p2), .val (.int p3), .val (.int p4), .val (.int p5), .val (.int (2 : Int32)), .val (.int ba), .val (.int bb), .val (.int bc), .val (.int bd), .val (.ref b1), .val (.ref cc), .val (.int kk), .val (.int (((0 : Int32) + (own_hit ba kk)) + (own_hit bb kk))), .val (.int (1 : Int32))]) rfl ?_
  show Steps p.tables e below (T6.setTop (mkF m 281 #[.val (.int p0), .val (.int p1), .val (.int p2), .val (.int p3), .val (.int p4), .val (.int p5), .val (.int (2 : Int32)), .val (.int ba), .val (.int bb), .val (.int bc), .val (.int bd), .val (.ref b1), .val (.ref cc), .val (.int kk), .val (.int (((0 : Int32) + (own_hit ba kk)) + (own_hit bb kk))), .val (.int (1 : Int32))] [])) _
  refine XS.iload X6.here hx rfl (hb hby at_281) rfl ?_
  show Steps p.tables e below (T6.setTop (mkF m 283 #[.val (.int p0), .val (.int p1), .val (.int p2), .val (.int p3), .val (.int p4), .val (.int p5), .val (.int (2 : Int32)), .val (.int ba), .val (.int bb), .val (.int bc), .val (.int bd), .val (.ref b1), .val (.ref cc), .val (.int kk), .val (.int (((0 : Int32) + (own_hit ba kk)) + (own_hit bb kk))), .val (.int (1 : Int32))] [(.int (2 : Int32))])) _
  refine XS.iconst X6.here hx rfl (hb hby at_283) ?_
  show Steps p.tables e below (T6.setTop (mkF m 284 #[.val (.int p0), .val (.int p1), .val (.int p2), .val (.int p3), .val (.int p4), .val (.int p5), .val (.int (2 : Int32)), .val (.int ba), .val (.int bb), .val (.int bc), .val (.int bd), .val (.ref b1), .val (.ref cc), .val (.int kk), .val (.int (((0 : Int32) + (own_hit ba kk)) + (own_hit bb kk))), .val (.int (1 : Int32))] [(.int (1 : Int32)), (.int (2 : Int32))])) _
  refine XS.icmpNo X6.here hx rfl (hb hby at_284) rfl (tlt (by decide)).2.2.2 ?_
  show Steps p.tables e below (T6.setTop (mkF m 287 #[.val (.int p0), .val (.int p1), .val (.int p2), .val (.int p3), .val (.int p4), .val (.int p5), .val (.int (2 : Int32)), .val (.int ba), .val (.int bb), .val (.int bc), .val (.int bd), .val (.ref b1), .val (.ref cc), .val (.int kk), .val (.int (((0 : Int32) + (own_hit ba kk)) + (own_hit bb kk))), .val (.int (1 : Int32))] [])) _
  refine XS.iload X6.here hx rfl (hb hby at_287) rfl ?_
  show Steps p.tables e below (T6.setTop (mkF m 289 #[.val (.int p0), .val (.int p1), .val (.int p2), .val (.int p3), .val (.int p4), .val (.int p5), .val (.int (2 : Int32)), .val (.int ba), .val (.int bb), .val (.int bc), .val (.int bd), .val (.ref b1), .val (.ref cc), .val (.int kk), .val (.int (((0 : Int32) + (own_hit ba kk)) + (own_hit bb kk))), .val (.int (1 : Int32))] [(.int (1 : Int32))])) _
  refine XS.ifNo X6.here hx rfl (hb hby at_289) rfl ((if0 _ _).trans (feq (by decide)).1) ?_
  show Steps p.tables e below (T6.setTop (mkF m 292 #[.val (.int p0), .val (.int p1), .val (.int p2), .val (.int p3), .val (.int p4), .val (.int p5), .val (.int (2 : Int32)), .val (.int ba), .val (.int bb), .val (.int bc), .val (.int bd), .val (.ref b1), .val (.ref cc), .val (.int kk), .val (.int (((0 : Int32) + (own_hit ba kk)) + (own_hit bb kk))), .val (.int (1 : Int32))] [])) _
  refine XS.aload X6.here hx rfl (hb hby at_292) rfl rfl ?_
  show Steps p.tables e below (T6.setTop (mkF m 294 #[.val (.int p0), .val (.int p1), .val (.int p2), .val (.int p3), .val (.int p4), .val (.int p5), .val (.int (2 : Int32)), .val (.int ba), .val (.int bb), .val (.int bc), .val (.int bd), .val (.ref b1), .val (.ref cc), .val (.int kk), .val (.int (((0 : Int32) + (own_hit ba kk)) + (own_hit bb kk))), .val (.int (1 : Int32))] [(.ref b1)])) _
  refine XS.iconst X6.here hx rfl (hb hby at_294) ?_
  show Steps p.tables e below (T6.setTop (mkF m 295 #[.val (.int p0), .val (.int p1), .val (.int p2), .val (.int p3), .val (.int p4), .val (.int p5), .val (.int (2 : Int32)), .val (.int ba), .val (.int bb), .val (.int bc), .val (.int bd), .val (.ref b1), .val (.ref cc), .val (.int kk), .val (.int (((0 : Int32) + (own_hit ba kk)) + (own_hit bb kk))), .val (.int (1 : Int32))] [(.int (1 : Int32)), (.ref b1)])) _
  refine own_ldB X6 hx hZ e6 AD4 (j := (1 : Int32)) ⟨by decide, by decide⟩ rfl rfl (hb hby at_295) ?_
  show Steps p.tables e below (T6.setTop (mkF m 296 #[.val (.int p0), .val (.int p1), .val (.int p2), .val (.int p3), .val (.int p4), .val (.int p5), .val (.int (2 : Int32)), .val (.int ba), .val (.int bb), .val (.int bc), .val (.int bd), .val (.ref b1), .val (.ref cc), .val (.int kk), .val (.int (((0 : Int32) + (own_hit ba kk)) + (own_hit bb kk))), .val (.int (1 : Int32))] [(.int bb)])) _
  refine XS.iload X6.here hx rfl (hb hby at_296) rfl ?_
  show Steps p.tables e below (T6.setTop (mkF m 298 #[.val (.int p0), .val (.int p1), .val (.int p2), .val (.int p3), .val (.int p4), .val (.int p5), .val (.int (2 : Int32)), .val (.int ba), .val (.int bb), .val (.int bc), .val (.int bd), .val (.ref b1), .val (.ref cc), .val (.int kk), .val (.int (((0 : Int32) + (own_hit ba kk)) + (own_hit bb kk))), .val (.int (1 : Int32))] [(.int bb), (.int bb)])) _
  refine XS.icmpNo X6.here hx rfl (hb hby at_298) rfl (teq (rfl : bb = bb)).2 ?_
  show Steps p.tables e below (T6.setTop (mkF m 301 #[.val (.int p0), .val (.int p1), .val (.int p2), .val (.int p3), .val (.int p4), .val (.int p5), .val (.int (2 : Int32)), .val (.int ba), .val (.int bb), .val (.int bc), .val (.int bd), .val (.ref b1), .val (.ref cc), .val (.int kk), .val (.int (((0 : Int32) + (own_hit ba kk)) + (own_hit bb kk))), .val (.int (1 : Int32))] [])) _
  refine XS.iconst X6.here hx rfl (hb hby at_301) ?_
  show Steps p.tables e below (T6.setTop (mkF m 302 #[.val (.int p0), .val (.int p1), .val (.int p2), .val (.int p3), .val (.int p4), .val (.int p5), .val (.int (2 : Int32)), .val (.int ba), .val (.int bb), .val (.int bc), .val (.int bd), .val (.ref b1), .val (.ref cc), .val (.int kk), .val (.int (((0 : Int32) + (own_hit ba kk)) + (own_hit bb kk))), .val (.int (1 : Int32))] [(.int (1 : Int32))])) _
  refine XS.goto X6.here hx rfl (pc0 := 302) (pc' := 306) rfl (hb hby at_302) (by decide) (by decide) ?_
  show Steps p.tables e below (T6.setTop (mkF m 306 #[.val (.int p0), .val (.int p1), .val (.int p2), .val (.int p3), .val (.int p4), .val (.int p5), .val (.int (2 : Int32)), .val (.int ba), .val (.int bb), .val (.int bc), .val (.int bd), .val (.ref b1), .val (.ref cc), .val (.int kk), .val (.int (((0 : Int32) + (own_hit ba kk)) + (own_hit bb kk))), .val (.int (1 : Int32))] [(.int (1 : Int32))])) _
  refine XS.istore X6.here hx rfl (hb hby at_306) rfl (l' := #[.val (.int p0), .val (.int p1), .val (.int p2), .val (.int p3), .val (.int p4), .val (.int p5), .val (.int (2 : Int32)), .val (.int ba), .val (.int bb), .val (.int bc), .val (.int bd), .val (.ref b1), .val (.ref cc), .val (.int kk), .val (.int (((0 : Int32) + (own_hit ba kk)) + (own_hit bb kk))), .val (.int (1 : Int32))]) rfl ?_
  show Steps p.tables e below (T6.setTop (mkF m 308 #[.val (.int p0), .val (.int p1), .val (.int p2), .val (.int p3), .val (.int p4), .val (.int p5), .val (.int (2 : Int32)), .val (.int ba), .val (.int bb), .val (.int bc), .val (.int bd), .val (.ref b1), .val (.ref cc), .val (.int kk), .val (.int (((0 : Int32) + (own_hit ba kk)) + (own_hit bb kk))), .val (.int (1 : Int32))] [])) _
  refine XS.iload X6.here hx rfl (hb hby at_308) rfl ?_
  show Steps p.tables e below (T6.setTop (mkF m 310 #[.val (.int p0), .val (.int p1), .val (.int p2), .val (.int p3), .val (.int p4), .val (.int p5), .val (.int (2 : Int32)), .val (.int ba), .val (.int bb), .val (.int bc), .val (.int bd), .val (.ref b1), .val (.ref cc), .val (.int kk), .val (.int (((0 : Int32) + (own_hit ba kk)) + (own_hit bb kk))), .val (.int (1 : Int32))] [(.int (2 : Int32))])) _
  refine XS.iconst X6.here hx rfl (hb hby at_310) ?_
  show Steps p.tables e below (T6.setTop (mkF m 311 #[.val (.int p0), .val (.int p1), .val (.int p2), .val (.int p3), .val (.int p4), .val (.int p5), .val (.int (2 : Int32)), .val (.int ba), .val (.int bb), .val (.int bc), .val (.int bd), .val (.ref b1), .val (.ref cc), .val (.int kk), .val (.int (((0 : Int32) + (own_hit ba kk)) + (own_hit bb kk))), .val (.int (1 : Int32))] [(.int (2 : Int32)), (.int (2 : Int32))])) _
  refine XS.icmpYes X6.here hx rfl (pc0 := 311) (pc' := 335) rfl (hb hby at_311) rfl (flt (Int32.lt_irrefl)).2.2.2 (by decide) (by decide) ?_
  show Steps p.tables e below (T6.setTop (mkF m 335 #[.val (.int p0), .val (.int p1), .val (.int p2), .val (.int p3), .val (.int p4), .val (.int p5), .val (.int (2 : Int32)), .val (.int ba), .val (.int bb), .val (.int bc), .val (.int bd), .val (.ref b1), .val (.ref cc), .val (.int kk), .val (.int (((0 : Int32) + (own_hit ba kk)) + (own_hit bb kk))), .val (.int (1 : Int32))] [])) _
  refine XS.iload X6.here hx rfl (hb hby at_335) rfl ?_
  show Steps p.tables e below (T6.setTop (mkF m 337 #[.val (.int p0), .val (.int p1), .val (.int p2), .val (.int p3), .val (.int p4), .val (.int p5), .val (.int (2 : Int32)), .val (.int ba), .val (.int bb), .val (.int bc), .val (.int bd), .val (.ref b1), .val (.ref cc), .val (.int kk), .val (.int (((0 : Int32) + (own_hit ba kk)) + (own_hit bb kk))), .val (.int (1 : Int32))] [(.int (2 : Int32))])) _
  refine XS.iconst X6.here hx rfl (hb hby at_337) ?_
  show Steps p.tables e below (T6.setTop (mkF m 338 #[.val (.int p0), .val (.int p1), .val (.int p2), .val (.int p3), .val (.int p4), .val (.int p5), .val (.int (2 : Int32)), .val (.int ba), .val (.int bb), .val (.int bc), .val (.int bd), .val (.ref b1), .val (.ref cc), .val (.int kk), .val (.int (((0 : Int32) + (own_hit ba kk)) + (own_hit bb kk))), .val (.int (1 : Int32))] [(.int (3 : Int32)), (.int (2 : Int32))])) _
  refine XS.icmpYes X6.here hx rfl (pc0 := 338) (pc' := 362) rfl (hb hby at_338) rfl (flt (by decide)).2.2.2 (by decide) (by decide) ?_
  show Steps p.tables e below (T6.setTop (mkF m 362 #[.val (.int p0), .val (.int p1), .val (.int p2), .val (.int p3), .val (.int p4), .val (.int p5), .val (.int (2 : Int32)), .val (.int ba), .val (.int bb), .val (.int bc), .val (.int bd), .val (.ref b1), .val (.ref cc), .val (.int kk), .val (.int (((0 : Int32) + (own_hit ba kk)) + (own_hit bb kk))), .val (.int (1 : Int32))] [])) _
  refine XS.iload X6.here hx rfl (hb hby at_362) rfl ?_
  show Steps p.tables e below (T6.setTop (mkF m 364 #[.val (.int p0), .val (.int p1), .val (.int p2), .val (.int p3), .val (.int p4), .val (.int p5), .val (.int (2 : Int32)), .val (.int ba), .val (.int bb), .val (.int bc), .val (.int bd), .val (.ref b1), .val (.ref cc), .val (.int kk), .val (.int (((0 : Int32) + (own_hit ba kk)) + (own_hit bb kk))), .val (.int (1 : Int32))] [(.int (1 : Int32))])) _
  refine XS.ifNo X6.here hx rfl (hb hby at_364) rfl ((if0 _ _).trans (feq (by decide)).1) ?_
  show Steps p.tables e below (T6.setTop (mkF m 367 #[.val (.int p0), .val (.int p1), .val (.int p2), .val (.int p3), .val (.int p4), .val (.int p5), .val (.int (2 : Int32)), .val (.int ba), .val (.int bb), .val (.int bc), .val (.int bd), .val (.ref b1), .val (.ref cc), .val (.int kk), .val (.int (((0 : Int32) + (own_hit ba kk)) + (own_hit bb kk))), .val (.int (1 : Int32))] [])) _
  refine XS.aload X6.here hx rfl (hb hby at_367) rfl rfl ?_
  show Steps p.tables e below (T6.setTop (mkF m 369 #[.val (.int p0), .val (.int p1), .val (.int p2), .val (.int p3), .val (.int p4), .val (.int p5), .val (.int (2 : Int32)), .val (.int ba), .val (.int bb), .val (.int bc), .val (.int bd), .val (.ref b1), .val (.ref cc), .val (.int kk), .val (.int (((0 : Int32) + (own_hit ba kk)) + (own_hit bb kk))), .val (.int (1 : Int32))] [(.ref cc)])) _
  refine XS.iload X6.here hx rfl (hb hby at_369) rfl ?_
  show Steps p.tables e below (T6.setTop (mkF m 371 #[.val (.int p0), .val (.int p1), .val (.int p2), .val (.int p3), .val (.int p4), .val (.int p5), .val (.int (2 : Int32)), .val (.int ba), .val (.int bb), .val (.int bc), .val (.int bd), .val (.ref b1), .val (.ref cc), .val (.int kk), .val (.int (((0 : Int32) + (own_hit ba kk)) + (own_hit bb kk))), .val (.int (1 : Int32))] [(.int kk), (.ref cc)])) _
  refine own_ldI X6 hx hZ e6 AC4 (j := kk) hk0 rfl rfl (hb hby at_371) ?_
  show Steps p.tables e below (T6.setTop (mkF m 372 #[.val (.int p0), .val (.int p1), .val (.int p2), .val (.int p3), .val (.int p4), .val (.int p5), .val (.int (2 : Int32)), .val (.int ba), .val (.int bb), .val (.int bc), .val (.int bd), .val (.ref b1), .val (.ref cc), .val (.int kk), .val (.int (((0 : Int32) + (own_hit ba kk)) + (own_hit bb kk))), .val (.int (1 : Int32))] [(.int ((own_inc (own_inc (fun _ => 0) ba) bb) (kk).toNatClampNeg))])) _
  refine XS.iload X6.here hx rfl (hb hby at_372) rfl ?_
  show Steps p.tables e below (T6.setTop (mkF m 374 #[.val (.int p0), .val (.int p1), .val (.int p2), .val (.int p3), .val (.int p4), .val (.int p5), .val (.int (2 : Int32)), .val (.int ba), .val (.int bb), .val (.int bc), .val (.int bd), .val (.ref b1), .val (.ref cc), .val (.int kk), .val (.int (((0 : Int32) + (own_hit ba kk)) + (own_hit bb kk))), .val (.int (1 : Int32))] [(.int (((0 : Int32) + (own_hit ba kk)) + (own_hit bb kk))), (.int ((own_inc (own_inc (fun _ => 0) ba) bb) (kk).toNatClampNeg))])) _
  refine XS.icmpNo X6.here hx rfl (hb hby at_374) rfl (teq hfin).2 ?_
  show Steps p.tables e below (T6.setTop (mkF m 377 #[.val (.int p0), .val (.int p1), .val (.int p2), .val (.int p3), .val (.int p4), .val (.int p5), .val (.int (2 : Int32)), .val (.int ba), .val (.int bb), .val (.int bc), .val (.int bd), .val (.ref b1), .val (.ref cc), .val (.int kk), .val (.int (((0 : Int32) + (own_hit ba kk)) + (own_hit bb kk))), .val (.int (1 : Int32))] [])) _
  refine XS.iconst X6.here hx rfl (hb hby at_377) ?_
  show Steps p.tables e below (T6.setTop (mkF m 378 #[.val (.int p0), .val (.int p1), .val (.int p2), .val (.int p3), .val (.int p4), .val (.int p5), .val (.int (2 : Int32)), .val (.int ba), .val (.int bb), .val (.int bc), .val (.int bd), .val (.ref b1), .val (.ref cc), .val (.int kk), .val (.int (((0 : Int32) + (own_hit ba kk)) + (own_hit bb kk))), .val (.int (1 : Int32))] [(.int (1 : Int32))])) _
  refine XS.goto X6.here hx rfl (pc0 := 378) (pc' := 382) rfl (hb hby at_378) (by decide) (by decide) ?_
  show Steps p.tables e below (T6.setTop (mkF m 382 #[.val (.int p0), .val (.int p1), .val (.int p2), .val (.int p3), .val (.int p4), .val (.int p5), .val (.int (2 : Int32)), .val (.int ba), .val (.int bb), .val (.int bc), .val (.int bd), .val (.ref b1), .val (.ref cc), .val (.int kk), .val (.int (((0 : Int32) + (own_hit ba kk)) + (own_hit bb kk))), .val (.int (1 : Int32))] [(.int (1 : Int32))])) _
  exact retN X6 hx (t := .boolean) Bd.returns (by simp) (hb hby at_382) hr
def Q0_3 (Z : State) (p0 : Int32) (p1 : Int32) (p2 : Int32) (p3 : Int32) (p4 : Int32) (p5 : Int32) (h0 : Heap) (n0 : Nat) (v : Option Value) (h : Heap) (L : List Loc) : Prop := v = some (.int (1 : Int32)) ∧ Fr n0 L
set_option maxRecDepth 65536 in
set_option maxHeartbeats 40000000 in
theorem rm0_3 (l : Launch) (Z : State) (a0 : Array Value) (hw : ∀ d ∈ tables_1, d.before a0 Z = true) (ws : List Jvm.Cond) (p0 : Int32) (p1 : Int32) (p2 : Int32) (p3 : Int32) (p4 : Int32) (p5 : Int32) (h0 : Heap) (n0 : Nat) (Z0 : n0 ≤ h0.size) (hn : ((p0 &&& (2147483647 : Int32)) % (5 : Int32)) = (3 : Int32)) :
    MetFree l x (head1 (Jvm.Cond.code x code maxLocals ret :: ws) room_1) (fun a_ U_ => a_ = #[(.int p0), (.int p1), (.int p2), (.int p3), (.int p4), (.int p5)] ∧ Z.Warmed39 U_.vm ∧ U_.heap = h0) (fun _ _ _ _ _ => True) (fun _ U_ o_ U' => ∃ v_ L_, o_ = .returned v_ ∧ (Q0_3 Z p0 p1 p2 p3 p4 p5 h0 n0 v_ U'.heap L_) ∧ FrameEnd U_ o_ U' L_ room_1.cells room_1.slots) := by
  refine MetFree.of_bodySF (plainFor_of_name pn_0) hisR ?_
  intro p e s m args below meth c s₁ Bd hml0 hP hK
  obtain ⟨rfl, hZ, hh⟩ := hP
  have hx := Bd.exec
  have hby := Bd.bytes
  have hml : c.maxLocals = 16 := hml0
  have hown : s.vm.findClass "com/example/fewbits/fewbits/HuffmanCodeCountBytesPinLaw" = some m.cls := findClass_of_methodNamed Bd.named
  have hnm := (name_of_methodNamed Bd.named Bd.method).1
  have X0 : Stand p l e room_1 s m #[(.int p0), (.int p1), (.int p2), (.int p3), (.int p4), (.int p5)] below meth c s₁ [] 0 0 := Stand.of_body Bd
  have e0 : s₁.heap = h0 := by rw [← hh, Bd.state]; rfl
  have N0 := Fr.nil n0
  have pre0 : ∀ t, Steps p.tables e below (s₁.setTop (mkF m 0 #[.val (.int p0), .val (.int p1), .val (.int p2), .val (.int p3), .val (.int p4), .val (.int p5), .unset, .unset, .unset, .unset, .unset, .unset, .unset, .unset, .unset, .unset] [])) t → Steps p.tables e below (s₁.setTop (entryFrame m #[(.int p0), (.int p1), (.int p2), (.int p3), (.int p4), (.int p5)] maxLocals)) t := fun t k => castTop (ef_0 m p0 p1 p2 p3 p4 p5) k
  obtain ⟨ba, h_ba⟩ : ∃ z, (p2.toInt8.toInt32) = z := ⟨_, rfl⟩
  have h8_ba : ba.toInt8.toInt32 = ba := by rw [← h_ba]; exact own_bb _
  obtain ⟨bb, h_bb⟩ : ∃ z, (p3.toInt8.toInt32) = z := ⟨_, rfl⟩
  have h8_bb : bb.toInt8.toInt32 = bb := by rw [← h_bb]; exact own_bb _
  obtain ⟨bc, h_bc⟩ : ∃ z, (p4.toInt8.toInt32) = z := ⟨_, rfl⟩
  have h8_bc : bc.toInt8.toInt32 = bc := by rw [← h_bc]; exact own_bb _
  obtain ⟨bd, h_bd⟩ : ∃ z, (p5.toInt8.toInt32) = z := ⟨_, rfl⟩
  have h8_bd : bd.toInt8.toInt32 = bd := by rw [← h_bd]; exact own_bb _
  obtain ⟨T1, h1, X1, e1, E1, A1, st1⟩ := own_newI X0 hx hZ (hw _ (List.mem_of_getElem? (i := 1) rfl)) rfl e0 (g := (mkF m 89 #[.val (.int p0), .val (.int p1), .val (.int p2), .val (.int p3), .val (.int p4), .val (.int p5), .val (.int (3 : Int32)), .val (.int ba), .val (.int bb), .val (.int bc), .val (.int bd), .unset, .unset, .unset, .unset, .unset] [(.int (3 : Int32))])) rfl (hb hby at_89) rfl (by decide) (cap := 3) (by decide) (by decide) (by decide) (by decide)
  obtain ⟨b1, g1⟩ : ∃ z, z = h0.size := ⟨_, rfl⟩
  rw [← g1] at A1 st1
  have f_b1 : n0 ≤ b1 := Nat.le_trans Z0 (Nat.le_of_eq g1.symm)
  have s_b1 : h0.size ≤ b1 := Nat.le_trans (Keep.refl h0 []).1 (Nat.le_of_eq g1.symm)
  have K1 : Keep h0 h1 [] := (Keep.refl h0 []).ext E1
  have Z1 : n0 ≤ h1.size := Nat.le_trans Z0 E1.1
  obtain ⟨T2, h2, X2, e2, W2, A2, st2⟩ := own_stB X1 hx hZ e1 A1 (j := (0 : Int32)) ⟨by decide, by decide⟩ (g := (mkF m 95 #[.val (.int p0), .val (.int p1), .val (.int p2), .val (.int p3), .val (.int p4), .val (.int p5), .val (.int (3 : Int32)), .val (.int ba), .val (.int bb), .val (.int bc), .val (.int bd), .unset, .unset, .unset, .unset, .unset] [(.int ba), (.int (0 : Int32)), (.ref b1), (.ref b1)])) rfl rfl (hb hby at_95)
  have N2 := Fr.snoc X2 N0 f_b1
  have K2 : Keep h0 h2 [] := K1.wr W2 (Or.inr s_b1)
  rw [h8_ba] at A2
  have Z2 : n0 ≤ h2.size := Nat.le_trans Z1 (Nat.le_of_eq (W2.size).symm)
  obtain ⟨T3, h3, X3, e3, W3, A3, st3⟩ := own_stB X2 hx hZ e2 A2 (j := (1 : Int32)) ⟨by decide, by decide⟩ (g := (mkF m 100 #[.val (.int p0), .val (.int p1), .val (.int p2), .val (.int p3), .val (.int p4), .val (.int p5), .val (.int (3 : Int32)), .val (.int ba), .val (.int bb), .val (.int bc), .val (.int bd), .unset, .unset, .unset, .unset, .unset] [(.int bb), (.int (1 : Int32)), (.ref b1), (.ref b1)])) rfl rfl (hb hby at_100)
  have N3 := Fr.snoc X3 N2 f_b1
  have K3 : Keep h0 h3 [] := K2.wr W3 (Or.inr s_b1)
  rw [h8_bb] at A3
  have Z3 : n0 ≤ h3.size := Nat.le_trans Z2 (Nat.le_of_eq (W3.size).symm)
  obtain ⟨T4, h4, X4, e4, W4, A4, st4⟩ := own_stB X3 hx hZ e3 A3 (j := (2 : Int32)) ⟨by decide, by decide⟩ (g := (mkF m 105 #[.val (.int p0), .val (.int p1), .val (.int p2), .val (.int p3), .val (.int p4), .val (.int p5), .val (.int (3 : Int32)), .val (.int ba), .val (.int bb), .val (.int bc), .val (.int bd), .unset, .unset, .unset, .unset, .unset] [(.int bc), (.int (2 : Int32)), (.ref b1), (.ref b1)])) rfl rfl (hb hby at_105)
  have N4 := Fr.snoc X4 N3 f_b1
  have K4 : Keep h0 h4 [] := K3.wr W4 (Or.inr s_b1)
  rw [h8_bc] at A4
  have Z4 : n0 ≤ h4.size := Nat.le_trans Z3 (Nat.le_of_eq (W4.size).symm)
  obtain ⟨_, _, ⟨T5, L5, k5, n5⟩, -, X5, ⟨Lc5, hQ5, l5, y5, z5⟩, st5⟩ := Jvm.LawKit.callS X4 hx (y := (⟨"com/example/fewbits/fewbits/HuffmanCode", "countBytes", "([B)[I"⟩ : MethodName)) hown (mvT hZ (hw _ (List.mem_of_getElem? (i := 2) rfl))) (mvT hZ (hw _ (List.mem_of_getElem? (i := 3) rfl))) (mvT hZ (hw _ (List.mem_of_getElem? (i := 4) rfl))) (mvT hZ (hw _ (List.mem_of_getElem? (i := 5) rfl))) (by decide) (backOf (W := 0) (rm1_3 l Z a0 hw [] b1 _ ba bb bc h4 n0 Z4 A4 rfl rfl rfl) hZ (hw _ (List.mem_of_getElem? (i := 5) rfl)) (hw _ (List.mem_of_getElem? (i := 4) rfl)) (by decide) (by decide)) (g := (mkF m 138 #[.val (.int p0), .val (.int p1), .val (.int p2), .val (.int p3), .val (.int p4), .val (.int p5), .val (.int (3 : Int32)), .val (.int ba), .val (.int bb), .val (.int bc), .val (.int bd), .val (.ref b1), .unset, .unset, .unset, .unset] [(.ref b1)])) rfl (by rw [hml]; rfl) (argsL := [(.ref b1)]) (rest := []) (lenOf pd_0 rfl) rfl (by show 2 * 0 + _ ≤ _; exact Nat.le_of_eq rfl) (hb hby at_138) (fun _ _ => ⟨rfl, e4, (by decide : 1 + 1 ≤ _), (by decide : 3 + 256 ≤ _)⟩)
  dsimp only [Pt.U, Pt.locs, Pt.cells, Pt.slots] at X5 l5 y5 z5 st5 hQ5
  subst l5 y5 z5
  obtain ⟨⟨cc, rfl, sc5, AC5⟩, Nq5, Kq5⟩ := hQ5
  have N5 := Fr.app N4 Nq5
  have Z5 : n0 ≤ T5.heap.size := Nat.le_trans Z4 Kq5.1
  have AD5 := A4.keep Kq5 nin0
  obtain ⟨kk, h_kk⟩ : ∃ z, (p1 &&& (255 : Int32)) = z := ⟨_, rfl⟩
  obtain ⟨_, _, ⟨T6, L6, k6, n6⟩, -, X6, ⟨Lc6, hQ6, l6, y6, z6⟩, st6⟩ := Jvm.LawKit.callS X5 hx (y := (⟨"com/example/fewbits/fewbits/HuffmanCodeCountBytesPinLaw", "hit", "(BI)I"⟩ : MethodName)) hown (mvT hZ (hw _ (List.mem_of_getElem? (i := 7) rfl))) (mvT hZ (hw _ (List.mem_of_getElem? (i := 8) rfl))) (mvT hZ (hw _ (List.mem_of_getElem? (i := 9) rfl))) (mvT hZ (hw _ (List.mem_of_getElem? (i := 10) rfl))) (by decide) (backOf (W := 1) (rm2 l Z a0 hw [] ba kk  T5.heap n0 Z5 ) hZ (hw _ (List.mem_of_getElem? (i := 10) rfl)) (hw _ (List.mem_of_getElem? (i := 9) rfl)) (by decide) (by decide)) (g := (mkF m 180 #[.val (.int p0), .val (.int p1), .val (.int p2), .val (.int p3), .val (.int p4), .val (.int p5), .val (.int (3 : Int32)), .val (.int ba), .val (.int bb), .val (.int bc), .val (.int bd), .val (.ref b1), .val (.ref cc), .val (.int kk), .val (.int (0 : Int32)), .unset] [(.int kk), (.int ba), (.int (0 : Int32))])) rfl (by rw [hml]; rfl) (argsL := [(.int ba), (.int kk)]) (rest := [(.int (0 : Int32))]) (lenOf pd_1 rfl) rfl (by show 2 * 0 + _ ≤ _; exact Nat.le_of_eq rfl) (hb hby at_180) (fun _ _ => ⟨rfl, rfl, (by decide : 2 + 0 ≤ _), (by decide : 259 + 0 ≤ _)⟩)
  dsimp only [Pt.U, Pt.locs, Pt.cells, Pt.slots] at X6 l6 y6 z6 st6 hQ6
  subst l6 y6 z6
  obtain ⟨rfl, Nq6, e6⟩ := hQ6
  have N6 := Fr.app N5 Nq6
  obtain ⟨_, _, ⟨T7, L7, k7, n7⟩, -, X7, ⟨Lc7, hQ7, l7, y7, z7⟩, st7⟩ := Jvm.LawKit.callS X6 hx (y := (⟨"com/example/fewbits/fewbits/HuffmanCodeCountBytesPinLaw", "hit", "(BI)I"⟩ : MethodName)) hown (mvT hZ (hw _ (List.mem_of_getElem? (i := 7) rfl))) (mvT hZ (hw _ (List.mem_of_getElem? (i := 8) rfl))) (mvT hZ (hw _ (List.mem_of_getElem? (i := 9) rfl))) (mvT hZ (hw _ (List.mem_of_getElem? (i := 10) rfl))) (by decide) (backOf (W := 1) (rm2 l Z a0 hw [] bb kk  T5.heap n0 Z5 ) hZ (hw _ (List.mem_of_getElem? (i := 10) rfl)) (hw _ (List.mem_of_getElem? (i := 9) rfl)) (by decide) (by decide)) (g := (mkF m 198 #[.val (.int p0), .val (.int p1), .val (.int p2), .val (.int p3), .val (.int p4), .val (.int p5), .val (.int (3 : Int32)), .val (.int ba), .val (.int bb), .val (.int bc), .val (.int bd), .val (.ref b1), .val (.ref cc), .val (.int kk), .val (.int ((0 : Int32) + (own_hit ba kk))), .unset] [(.int kk), (.int bb), (.int ((0 : Int32) + (own_hit ba kk)))])) rfl (by rw [hml]; rfl) (argsL := [(.int bb), (.int kk)]) (rest := [(.int ((0 : Int32) + (own_hit ba kk)))]) (lenOf pd_1 rfl) rfl (by show 2 * 0 + _ ≤ _; exact Nat.le_of_eq rfl) (hb hby at_198) (fun _ _ => ⟨rfl, e6, (by decide : 2 + 0 ≤ _), (by decide : 259 + 0 ≤ _)⟩)
  dsimp only [Pt.U, Pt.locs, Pt.cells, Pt.slots] at X7 l7 y7 z7 st7 hQ7
  subst l7 y7 z7
  obtain ⟨rfl, Nq7, e7⟩ := hQ7
  have N7 := Fr.app N6 Nq7
  obtain ⟨_, _, ⟨T8, L8, k8, n8⟩, -, X8, ⟨Lc8, hQ8, l8, y8, z8⟩, st8⟩ := Jvm.LawKit.callS X7 hx (y := (⟨"com/example/fewbits/fewbits/HuffmanCodeCountBytesPinLaw", "hit", "(BI)I"⟩ : MethodName)) hown (mvT hZ (hw _ (List.mem_of_getElem? (i := 7) rfl))) (mvT hZ (hw _ (List.mem_of_getElem? (i := 8) rfl))) (mvT hZ (hw _ (List.mem_of_getElem? (i := 9) rfl))) (mvT hZ (hw _ (List.mem_of_getElem? (i := 10) rfl))) (by decide) (backOf (W := 1) (rm2 l Z a0 hw [] bc kk  T5.heap n0 Z5 ) hZ (hw _ (List.mem_of_getElem? (i := 10) rfl)) (hw _ (List.mem_of_getElem? (i := 9) rfl)) (by decide) (by decide)) (g := (mkF m 216 #[.val (.int p0), .val (.int p1), .val (.int p2), .val (.int p3), .val (.int p4), .val (.int p5), .val (.int (3 : Int32)), .val (.int ba), .val (.int bb), .val (.int bc), .val (.int bd), .val (.ref b1), .val (.ref cc), .val (.int kk), .val (.int (((0 : Int32) + (own_hit ba kk)) + (own_hit bb kk))), .unset] [(.int kk), (.int bc), (.int (((0 : Int32) + (own_hit ba kk)) + (own_hit bb kk)))])) rfl (by rw [hml]; rfl) (argsL := [(.int bc), (.int kk)]) (rest := [(.int (((0 : Int32) + (own_hit ba kk)) + (own_hit bb kk)))]) (lenOf pd_1 rfl) rfl (by show 2 * 0 + _ ≤ _; exact Nat.le_of_eq rfl) (hb hby at_216) (fun _ _ => ⟨rfl, e7, (by decide : 2 + 0 ≤ _), (by decide : 259 + 0 ≤ _)⟩)
  dsimp only [Pt.U, Pt.locs, Pt.cells, Pt.slots] at X8 l8 y8 z8 st8 hQ8
  subst l8 y8 z8
  obtain ⟨rfl, Nq8, e8⟩ := hQ8
  have N8 := Fr.app N7 Nq8
  have hk0 : ¬ kk < 0 ∧ kk < (256 : Int32) := by rw [← h_kk]; exact own_255 _
  have hfin : ((own_inc (own_inc (own_inc (fun _ => 0) ba) bb) bc) (kk).toNatClampNeg) = ((((0 : Int32) + (own_hit ba kk)) + (own_hit bb kk)) + (own_hit bc kk)) := by
    rw [own_inc_at _ _ hk0.1, own_inc_at _ _ hk0.1, own_inc_at _ _ hk0.1]
  obtain ⟨fs, hr, hrun, hended, hW, hsame⟩ := X8.leave (v := some (.int (1 : Int32))) (fun h => by rw [Bd.returns] at h; cases h)
  refine ⟨_, _, pre0 _ ?_, hrun, hended, _, _, rfl, ⟨rfl, N8⟩, ⟨_, rfl⟩, hW, hsame.mono (by decide) (by decide)⟩
  show Steps p.tables e below (s₁.setTop (mkF m 0 #[.val (.int p0), .val (.int p1), .val (.int p2), .val (.int p3), .val (.int p4), .val (.int p5), .unset, .unset, .unset, .unset, .unset, .unset, .unset, .unset, .unset, .unset] [])) _
  refine XS.iloadN X0.here hx rfl (hb hby at_0) rfl ?_
  show Steps p.tables e below (s₁.setTop (mkF m 1 #[.val (.int p0), .val (.int p1), .val (.int p2), .val (.int p3), .val (.int p4), .val (.int p5), .unset, .unset, .unset, .unset, .unset, .unset, .unset, .unset, .unset, .unset] [(.int p0)])) _
  refine X0.ldcI hx hown (mvT hZ (hw _ (List.mem_of_getElem? (i := 0) rfl))) rfl (hb hby at_1) ?_
  show Steps p.tables e below (s₁.setTop (mkF m 3 #[.val (.int p0), .val (.int p1), .val (.int p2), .val (.int p3), .val (.int p4), .val (.int p5), .unset, .unset, .unset, .unset, .unset, .unset, .unset, .unset, .unset, .unset] [(.int (2147483647 : Int32)), (.int p0)])) _
  refine XS.iand X0.here hx rfl (hb hby at_3) rfl ?_
  show Steps p.tables e below (s₁.setTop (mkF m 4 #[.val (.int p0), .val (.int p1), .val (.int p2), .val (.int p3), .val (.int p4), .val (.int p5), .unset, .unset, .unset, .unset, .unset, .unset, .unset, .unset, .unset, .unset] [(.int (p0 &&& (2147483647 : Int32)))])) _
  refine XS.iconst X0.here hx rfl (hb hby at_4) ?_
  show Steps p.tables e below (s₁.setTop (mkF m 5 #[.val (.int p0), .val (.int p1), .val (.int p2), .val (.int p3), .val (.int p4), .val (.int p5), .unset, .unset, .unset, .unset, .unset, .unset, .unset, .unset, .unset, .unset] [(.int (5 : Int32)), (.int (p0 &&& (2147483647 : Int32)))])) _
  refine iremM X0 hx rfl (hb hby at_5) rfl (by decide) ?_
  show Steps p.tables e below (s₁.setTop (mkF m 6 #[.val (.int p0), .val (.int p1), .val (.int p2), .val (.int p3), .val (.int p4), .val (.int p5), .unset, .unset, .unset, .unset, .unset, .unset, .unset, .unset, .unset, .unset] [(.int ((p0 &&& (2147483647 : Int32)) % (5 : Int32)))])) _
  refine XS.istore X0.here hx rfl (hb hby at_6) rfl (l' := #[.val (.int p0), .val (.int p1), .val (.int p2), .val (.int p3), .val (.int p4), .val (.int p5), .val (.int ((p0 &&& (2147483647 : Int32)) % (5 : Int32))), .unset, .unset, .unset, .unset, .unset, .unset, .unset, .unset, .unset]) rfl ?_
  show Steps p.tables e below (s₁.setTop (mkF m 8 #[.val (.int p0), .val (.int p1), .val (.int p2), .val (.int p3), .val (.int p4), .val (.int p5), .val (.int ((p0 &&& (2147483647 : Int32)) % (5 : Int32))), .unset, .unset, .unset, .unset, .unset, .unset, .unset, .unset, .unset] [])) _
  rw [hn]
  show Steps p.tables e below (s₁.setTop (mkF m 8 #[.val (.int p0), .val (.int p1), .val (.int p2), .val (.int p3), .val (.int p4), .val (.int p5), .val (.int (3 : Int32)), .unset, .unset, .unset, .unset, .unset, .unset, .unset, .unset, .unset] [])) _
  refine XS.iloadN X0.here hx rfl (hb hby at_8) rfl ?_
  show Steps p.tables e below (s₁.setTop (mkF m 9 #[.val (.int p0), .val (.int p1), .val (.int p2), .val (.int p3), .val (.int p4), .val (.int p5), .val (.int (3 : Int32)), .unset, .unset, .unset, .unset, .unset, .unset, .unset, .unset, .unset] [(.int p2)])) _
  refine XS.i2b X0.here hx rfl (hb hby at_9) rfl ?_
  show Steps p.tables e below (s₁.setTop (mkF m 10 #[.val (.int p0), .val (.int p1), .val (.int p2), .val (.int p3), .val (.int p4), .val (.int p5), .val (.int (3 : Int32)), .unset, .unset, .unset, .unset, .unset, .unset, .unset, .unset, .unset] [(.int (p2.toInt8.toInt32))])) _
  refine XS.istore X0.here hx rfl (hb hby at_10) rfl (l' := #[.val (.int p0), .val (.int p1), .val (.int p2), .val (.int p3), .val (.int p4), .val (.int p5), .val (.int (3 : Int32)), .val (.int (p2.toInt8.toInt32)), .unset, .unset, .unset, .unset, .unset, .unset, .unset, .unset]) rfl ?_
  show Steps p.tables e below (s₁.setTop (mkF m 12 #[.val (.int p0), .val (.int p1), .val (.int p2), .val (.int p3), .val (.int p4), .val (.int p5), .val (.int (3 : Int32)), .val (.int (p2.toInt8.toInt32)), .unset, .unset, .unset, .unset, .unset, .unset, .unset, .unset] [])) _
  rw [h_ba]
  show Steps p.tables e below (s₁.setTop (mkF m 12 #[.val (.int p0), .val (.int p1), .val (.int p2), .val (.int p3), .val (.int p4), .val (.int p5), .val (.int (3 : Int32)), .val (.int ba), .unset, .unset, .unset, .unset, .unset, .unset, .unset, .unset] [])) _
  refine XS.iloadN X0.here hx rfl (hb hby at_12) rfl ?_
  show Steps p.tables e below (s₁.setTop (mkF m 13 #[.val (.int p0), .val (.int p1), .val (.int p2), .val (.int p3), .val (.int p4), .val (.int p5), .val (.int (3 : Int32)), .val (.int ba), .unset, .unset, .unset, .unset, .unset, .unset, .unset, .unset] [(.int p3)])) _
  refine XS.i2b X0.here hx rfl (hb hby at_13) rfl ?_
  show Steps p.tables e below (s₁.setTop (mkF m 14 #[.val (.int p0), .val (.int p1), .val (.int p2), .val (.int p3), .val (.int p4), .val (.int p5), .val (.int (3 : Int32)), .val (.int ba), .unset, .unset, .unset, .unset, .unset, .unset, .unset, .unset] [(.int (p3.toInt8.toInt32))])) _
  refine XS.istore X0.here hx rfl (hb hby at_14) rfl (l' := #[.val (.int p0), .val (.int p1), .val (.int p2), .val (.int p3), .val (.int p4), .val (.int p5), .val (.int (3 : Int32)), .val (.int ba), .val (.int (p3.toInt8.toInt32)), .unset, .unset, .unset, .unset, .unset, .unset, .unset]) rfl ?_
  show Steps p.tables e below (s₁.setTop (mkF m 16 #[.val (.int p0), .val (.int p1), .val (.int p2), .val (.int p3), .val (.int p4), .val (.int p5), .val (.int (3 : Int32)), .val (.int ba), .val (.int (p3.toInt8.toInt32)), .unset, .unset, .unset, .unset, .unset, .unset, .unset] [])) _
  rw [h_bb]
  show Steps p.tables e below (s₁.setTop (mkF m 16 #[.val (.int p0), .val (.int p1), .val (.int p2), .val (.int p3), .val (.int p4), .val (.int p5), .val (.int (3 : Int32)), .val (.int ba), .val (.int bb), .unset, .unset, .unset, .unset, .unset, .unset, .unset] [])) _
  refine XS.iload X0.here hx rfl (hb hby at_16) rfl ?_
  show Steps p.tables e below (s₁.setTop (mkF m 18 #[.val (.int p0), .val (.int p1), .val (.int p2), .val (.int p3), .val (.int p4), .val (.int p5), .val (.int (3 : Int32)), .val (.int ba), .val (.int bb), .unset, .unset, .unset, .unset, .unset, .unset, .unset] [(.int p4)])) _
  refine XS.i2b X0.here hx rfl (hb hby at_18) rfl ?_
  show Steps p.tables e below (s₁.setTop (mkF m 19 #[.val (.int p0), .val (.int p1), .val (.int p2), .val (.int p3), .val (.int p4), .val (.int p5), .val (.int (3 : Int32)), .val (.int ba), .val (.int bb), .unset, .unset, .unset, .unset, .unset, .unset, .unset] [(.int (p4.toInt8.toInt32))])) _
  refine XS.istore X0.here hx rfl (hb hby at_19) rfl (l' := #[.val (.int p0), .val (.int p1), .val (.int p2), .val (.int p3), .val (.int p4), .val (.int p5), .val (.int (3 : Int32)), .val (.int ba), .val (.int bb), .val (.int (p4.toInt8.toInt32)), .unset, .unset, .unset, .unset, .unset, .unset]) rfl ?_
  show Steps p.tables e below (s₁.setTop (mkF m 21 #[.val (.int p0), .val (.int p1), .val (.int p2), .val (.int p3), .val (.int p4), .val (.int p5), .val (.int (3 : Int32)), .val (.int ba), .val (.int bb), .val (.int (p4.toInt8.toInt32)), .unset, .unset, .unset, .unset, .unset, .unset] [])) _
  rw [h_bc]
  show Steps p.tables e below (s₁.setTop (mkF m 21 #[.val (.int p0), .val (.int p1), .val (.int p2), .val (.int p3), .val (.int p4), .val (.int p5), .val (.int (3 : Int32)), .val (.int ba), .val (.int bb), .val (.int bc), .unset, .unset, .unset, .unset, .unset, .unset] [])) _
  refine XS.iload X0.here hx rfl (hb hby at_21) rfl ?_
  show Steps p.tables e below (s₁.setTop (mkF m 23 #[.val (.int p0), .val (.int p1), .val (.int p2), .val (.int p3), .val (.int p4), .val (.int p5), .val (.int (3 : Int32)), .val (.int ba), .val (.int bb), .val (.int bc), .unset, .unset, .unset, .unset, .unset, .unset] [(.int p5)])) _
  refine XS.i2b X0.here hx rfl (hb hby at_23) rfl ?_
  show Steps p.tables e below (s₁.setTop (mkF m 24 #[.val (.int p0), .val (.int p1), .val (.int p2), .val (.int p3), .val (.int p4), .val (.int p5), .val (.int (3 : Int32)), .val (.int ba), .val (.int bb), .val (.int bc), .unset, .unset, .unset, .unset, .unset, .unset] [(.int (p5.toInt8.toInt32))])) _
  refine XS.istore X0.here hx rfl (hb hby at_24) rfl (l' := #[.val (.int p0), .val (.int p1), .val (.int p2), .val (.int p3), .val (.int p4), .val (.int p5), .val (.int (3 : Int32)), .val (.int ba), .val (.int bb), .val (.int bc), .val (.int (p5.toInt8.toInt32)), .unset, .unset, .unset, .unset, .unset]) rfl ?_
  show Steps p.tables e below (s₁.setTop (mkF m 26 #[.val (.int p0), .val (.int p1), .val (.int p2), .val (.int p3), .val (.int p4), .val (.int p5), .val (.int (3 : Int32)), .val (.int ba), .val (.int bb), .val (.int bc), .val (.int (p5.toInt8.toInt32)), .unset, .unset, .unset, .unset, .unset] [])) _
  rw [h_bd]
  show Steps p.tables e below (s₁.setTop (mkF m 26 #[.val (.int p0), .val (.int p1), .val (.int p2), .val (.int p3), .val (.int p4), .val (.int p5), .val (.int (3 : Int32)), .val (.int ba), .val (.int bb), .val (.int bc), .val (.int bd), .unset, .unset, .unset, .unset, .unset] [])) _
  refine XS.iload X0.here hx rfl (hb hby at_26) rfl ?_
  show Steps p.tables e below (s₁.setTop (mkF m 28 #[.val (.int p0), .val (.int p1), .val (.int p2), .val (.int p3), .val (.int p4), .val (.int p5), .val (.int (3 : Int32)), .val (.int ba), .val (.int bb), .val (.int bc), .val (.int bd), .unset, .unset, .unset, .unset, .unset] [(.int (3 : Int32))])) _
  refine XS.ifYes X0.here hx rfl (pc0 := 28) (pc' := 39) rfl (hb hby at_28) rfl ((if0 _ _).trans (feq (by decide)).2) (by decide) (by decide) ?_
  show Steps p.tables e below (s₁.setTop (mkF m 39 #[.val (.int p0), .val (.int p1), .val (.int p2), .val (.int p3), .val (.int p4), .val (.int p5), .val (.int (3 : Int32)), .val (.int ba), .val (.int bb), .val (.int bc), .val (.int bd), .unset, .unset, .unset, .unset, .unset] [])) _
  refine XS.iload X0.here hx rfl (hb hby at_39) rfl ?_
  show Steps p.tables e below (s₁.setTop (mkF m 41 #[.val (.int p0), .val (.int p1), .val (.int p2), .val (.int p3), .val (.int p4), .val (.int p5), .val (.int (3 : Int32)), .val (.int ba), .val (.int bb), .val (.int bc), .val (.int bd), .unset, .unset, .unset, .unset, .unset] [(.int (3 : Int32))])) _
  refine XS.iconst X0.here hx rfl (hb hby at_41) ?_
  show Steps p.tables e below (s₁.setTop (mkF m 42 #[.val (.int p0), .val (.int p1), .val (.int p2), .val (.int p3), .val (.int p4), .val (.int p5), .val (.int (3 : Int32)), .val (.int ba), .val (.int bb), .val (.int bc), .val (.int bd), .unset, .unset, .unset, .unset, .unset] [(.int (1 : Int32)), (.int (3 : Int32))])) _
  refine XS.icmpYes X0.here hx rfl (pc0 := 42) (pc' := 58) rfl (hb hby at_42) rfl (feq (by decide)).2 (by decide) (by decide) ?_
  show Steps p.tables e below (s₁.setTop (mkF m 58 #[.val (.int p0), .val (.int p1), .val (.int p2), .val (.int p3), .val (.int p4), .val (.int p5), .val (.int (3 : Int32)), .val (.int ba), .val (.int bb), .val (.int bc), .val (.int bd), .unset, .unset, .unset, .unset, .unset] [])) _
  refine XS.iload X0.here hx rfl (hb hby at_58) rfl ?_
  show Steps p.tables e below (s₁.setTop (mkF m 60 #[.val (.int p0), .val (.int p1), .val (.int p2), .val (.int p3), .val (.int p4), .val (.int p5), .val (.int (3 : Int32)), .val (.int ba), .val (.int bb), .val (.int bc), .val (.int bd), .unset, .unset, .unset, .unset, .unset] [(.int (3 : Int32))])) _
  refine XS.iconst X0.here hx rfl (hb hby at_60) ?_
  show Steps p.tables e below (s₁.setTop (mkF m 61 #[.val (.int p0), .val (.int p1), .val (.int p2), .val (.int p3), .val (.int p4), .val (.int p5), .val (.int (3 : Int32)), .val (.int ba), .val (.int bb), .val (.int bc), .val (.int bd), .unset, .unset, .unset, .unset, .unset] [(.int (2 : Int32)), (.int (3 : Int32))])) _
  refine XS.icmpYes X0.here hx rfl (pc0 := 61) (pc' := 82) rfl (hb hby at_61) rfl (feq (by decide)).2 (by decide) (by decide) ?_
  show Steps p.tables e below (s₁.setTop (mkF m 82 #[.val (.int p0), .val (.int p1), .val (.int p2), .val (.int p3), .val (.int p4), .val (.int p5), .val (.int (3 : Int32)), .val (.int ba), .val (.int bb), .val (.int bc), .val (.int bd), .unset, .unset, .unset, .unset, .unset] [])) _
  refine XS.iload X0.here hx rfl (hb hby at_82) rfl ?_
  show Steps p.tables e below (s₁.setTop (mkF m 84 #[.val (.int p0), .val (.int p1), .val (.int p2), .val (.int p3), .val (.int p4), .val (.int p5), .val (.int (3 : Int32)), .val (.int ba), .val (.int bb), .val (.int bc), .val (.int bd), .unset, .unset, .unset, .unset, .unset] [(.int (3 : Int32))])) _
  refine XS.iconst X0.here hx rfl (hb hby at_84) ?_
  show Steps p.tables e below (s₁.setTop (mkF m 85 #[.val (.int p0), .val (.int p1), .val (.int p2), .val (.int p3), .val (.int p4), .val (.int p5), .val (.int (3 : Int32)), .val (.int ba), .val (.int bb), .val (.int bc), .val (.int bd), .unset, .unset, .unset, .unset, .unset] [(.int (3 : Int32)), (.int (3 : Int32))])) _
  refine XS.icmpNo X0.here hx rfl (hb hby at_85) rfl (teq (rfl : (3 : Int32) = (3 : Int32))).2 ?_
  show Steps p.tables e below (s₁.setTop (mkF m 88 #[.val (.int p0), .val (.int p1), .val (.int p2), .val (.int p3), .val (.int p4), .val (.int p5), .val (.int (3 : Int32)), .val (.int ba), .val (.int bb), .val (.int bc), .val (.int bd), .unset, .unset, .unset, .unset, .unset] [])) _
  refine XS.iconst X0.here hx rfl (hb hby at_88) ?_
  show Steps p.tables e below (s₁.setTop (mkF m 89 #[.val (.int p0), .val (.int p1), .val (.int p2), .val (.int p3), .val (.int p4), .val (.int p5), .val (.int (3 : Int32)), .val (.int ba), .val (.int bb), .val (.int bc), .val (.int bd), .unset, .unset, .unset, .unset, .unset] [(.int (3 : Int32))])) _
  refine st1 _ ?_
  show Steps p.tables e below (T1.setTop (mkF m 91 #[.val (.int p0), .val (.int p1), .val (.int p2), .val (.int p3), .val (.int p4), .val (.int p5), .val (.int (3 : Int32)), .val (.int ba), .val (.int bb), .val (.int bc), .val (.int bd), .unset, .unset, .unset, .unset, .unset] [(.ref b1)])) _
  refine XS.dup X1.here hx rfl (hb hby at_91) rfl rfl ?_
  show Steps p.tables e below (T1.setTop (mkF m 92 #[.val (.int p0), .val (.int p1), .val (.int p2), .val (.int p3), .val (.int p4), .val (.int p5), .val (.int (3 : Int32)), .val (.int ba), .val (.int bb), .val (.int bc), .val (.int bd), .unset, .unset, .unset, .unset, .unset] [(.ref b1), (.ref b1)])) _
  refine XS.iconst X1.here hx rfl (hb hby at_92) ?_
  show Steps p.tables e below (T1.setTop (mkF m 93 #[.val (.int p0), .val (.int p1), .val (.int p2), .val (.int p3), .val (.int p4), .val (.int p5), .val (.int (3 : Int32)), .val (.int ba), .val (.int bb), .val (.int bc), .val (.int bd), .unset, .unset, .unset, .unset, .unset] [(.int (0 : Int32)), (.ref b1), (.ref b1)])) _
  refine XS.iload X1.here hx rfl (hb hby at_93) rfl ?_
  show Steps p.tables e below (T1.setTop (mkF m 95 #[.val (.int p0), .val (.int p1), .val (.int p2), .val (.int p3), .val (.int p4), .val (.int p5), .val (.int (3 : Int32)), .val (.int ba), .val (.int bb), .val (.int bc), .val (.int bd), .unset, .unset, .unset, .unset, .unset] [(.int ba), (.int (0 : Int32)), (.ref b1), (.ref b1)])) _
  refine st2 _ ?_
  show Steps p.tables e below (T2.setTop (mkF m 96 #[.val (.int p0), .val (.int p1), .val (.int p2), .val (.int p3), .val (.int p4), .val (.int p5), .val (.int (3 : Int32)), .val (.int ba), .val (.int bb), .val (.int bc), .val (.int bd), .unset, .unset, .unset, .unset, .unset] [(.ref b1)])) _
  refine XS.dup X2.here hx rfl (hb hby at_96) rfl rfl ?_
  show Steps p.tables e below (T2.setTop (mkF m 97 #[.val (.int p0), .val (.int p1), .val (.int p2), .val (.int p3), .val (.int p4), .val (.int p5), .val (.int (3 : Int32)), .val (.int ba), .val (.int bb), .val (.int bc), .val (.int bd), .unset, .unset, .unset, .unset, .unset] [(.ref b1), (.ref b1)])) _
  refine XS.iconst X2.here hx rfl (hb hby at_97) ?_
  show Steps p.tables e below (T2.setTop (mkF m 98 #[.val (.int p0), .val (.int p1), .val (.int p2), .val (.int p3), .val (.int p4), .val (.int p5), .val (.int (3 : Int32)), .val (.int ba), .val (.int bb), .val (.int bc), .val (.int bd), .unset, .unset, .unset, .unset, .unset] [(.int (1 : Int32)), (.ref b1), (.ref b1)])) _
  refine XS.iload X2.here hx rfl (hb hby at_98) rfl ?_
  show Steps p.tables e below (T2.setTop (mkF m 100 #[.val (.int p0), .val (.int p1), .val (.int p2), .val (.int p3), .val (.int p4), .val (.int p5), .val (.int (3 : Int32)), .val (.int ba), .val (.int bb), .val (.int bc), .val (.int bd), .unset, .unset, .unset, .unset, .unset] [(.int bb), (.int (1 : Int32)), (.ref b1), (.ref b1)])) _
  refine st3 _ ?_
  show Steps p.tables e below (T3.setTop (mkF m 101 #[.val (.int p0), .val (.int p1), .val (.int p2), .val (.int p3), .val (.int p4), .val (.int p5), .val (.int (3 : Int32)), .val (.int ba), .val (.int bb), .val (.int bc), .val (.int bd), .unset, .unset, .unset, .unset, .unset] [(.ref b1)])) _
  refine XS.dup X3.here hx rfl (hb hby at_101) rfl rfl ?_
  show Steps p.tables e below (T3.setTop (mkF m 102 #[.val (.int p0), .val (.int p1), .val (.int p2), .val (.int p3), .val (.int p4), .val (.int p5), .val (.int (3 : Int32)), .val (.int ba), .val (.int bb), .val (.int bc), .val (.int bd), .unset, .unset, .unset, .unset, .unset] [(.ref b1), (.ref b1)])) _
  refine XS.iconst X3.here hx rfl (hb hby at_102) ?_
  show Steps p.tables e below (T3.setTop (mkF m 103 #[.val (.int p0), .val (.int p1), .val (.int p2), .val (.int p3), .val (.int p4), .val (.int p5), .val (.int (3 : Int32)), .val (.int ba), .val (.int bb), .val (.int bc), .val (.int bd), .unset, .unset, .unset, .unset, .unset] [(.int (2 : Int32)), (.ref b1), (.ref b1)])) _
  refine XS.iload X3.here hx rfl (hb hby at_103) rfl ?_
  show Steps p.tables e below (T3.setTop (mkF m 105 #[.val (.int p0), .val (.int p1), .val (.int p2), .val (.int p3), .val (.int p4), .val (.int p5), .val (.int (3 : Int32)), .val (.int ba), .val (.int bb), .val (.int bc), .val (.int bd), .unset, .unset, .unset, .unset, .unset] [(.int bc), (.int (2 : Int32)), (.ref b1), (.ref b1)])) _
  refine st4 _ ?_
  show Steps p.tables e below (T4.setTop (mkF m 106 #[.val (.int p0), .val (.int p1), .val (.int p2), .val (.int p3), .val (.int p4), .val (.int p5), .val (.int (3 : Int32)), .val (.int ba), .val (.int bb), .val (.int bc), .val (.int bd), .unset, .unset, .unset, .unset, .unset] [(.ref b1)])) _
  refine XS.astore X4.here hx rfl (hb hby at_106) rfl rfl (l' := #[.val (.int p0), .val (.int p1), .val (.int p2), .val (.int p3), .val (.int p4), .val (.int p5), .val (.int (3 : Int32)), .val (.int ba), .val (.int bb), .val (.int bc), .val (.int bd), .val (.ref b1), .unset, .unset, .unset, .unset]) rfl ?_
  show Steps p.tables e below (T4.setTop (mkF m 108 #[.val (.int p0), .val (.int p1), .val (.int p2), .val (.int p3), .val (.int p4), .val (.int p5), .val (.int (3 : Int32)), .val (.int ba), .val (.int bb), .val (.int bc), .val (.int bd), .val (.ref b1), .unset, .unset, .unset, .unset] [])) _
  refine XS.goto X4.here hx rfl (pc0 := 108) (pc' := 136) rfl (hb hby at_108) (by decide) (by decide) ?_
  show Steps p.tables e below (T4.setTop (mkF m 136 #[.val (.int p0), .val (.int p1), .val (.int p2), .val (.int p3), .val (.int p4), .val (.int p5), .val (.int (3 : Int32)), .val (.int ba), .val (.int bb), .val (.int bc), .val (.int bd), .val (.ref b1), .unset, .unset, .unset, .unset] [])) _
  refine XS.aload X4.here hx rfl (hb hby at_136) rfl rfl ?_
  show Steps p.tables e below (T4.setTop (mkF m 138 #[.val (.int p0), .val (.int p1), .val (.int p2), .val (.int p3), .val (.int p4), .val (.int p5), .val (.int (3 : Int32)), .val (.int ba), .val (.int bb), .val (.int bc), .val (.int bd), .val (.ref b1), .unset, .unset, .unset, .unset] [(.ref b1)])) _
  refine st5 _ ?_
  show Steps p.tables e below (T5.setTop (mkF m 141 #[.val (.int p0), .val (.int p1), .val (.int p2), .val (.int p3), .val (.int p4), .val (.int p5), .val (.int (3 : Int32)), .val (.int ba), .val (.int bb), .val (.int bc), .val (.int bd), .val (.ref b1), .unset, .unset, .unset, .unset] [(.ref cc)])) _
  refine XS.astore X5.here hx rfl (hb hby at_141) rfl rfl (l' := #[.val (.int p0), .val (.int p1), .val (.int p2), .val (.int p3), .val (.int p4), .val (.int p5), .val (.int (3 : Int32)), .val (.int ba), .val (.int bb), .val (.int bc), .val (.int bd), .val (.ref b1), .val (.ref cc), .unset, .unset, .unset]) rfl ?_
  show Steps p.tables e below (T5.setTop (mkF m 143 #[.val (.int p0), .val (.int p1), .val (.int p2), .val (.int p3), .val (.int p4), .val (.int p5), .val (.int (3 : Int32)), .val (.int ba), .val (.int bb), .val (.int bc), .val (.int bd), .val (.ref b1), .val (.ref cc), .unset, .unset, .unset] [])) _
  refine XS.aload X5.here hx rfl (hb hby at_143) rfl rfl ?_
  show Steps p.tables e below (T5.setTop (mkF m 145 #[.val (.int p0), .val (.int p1), .val (.int p2), .val (.int p3), .val (.int p4), .val (.int p5), .val (.int (3 : Int32)), .val (.int ba), .val (.int bb), .val (.int bc), .val (.int bd), .val (.ref b1), .val (.ref cc), .unset, .unset, .unset] [(.ref cc)])) _
  refine XS.ifnullNo X5.here hx rfl (hb hby at_145) rfl ?_
  show Steps p.tables e below (T5.setTop (mkF m 148 #[.val (.int p0), .val (.int p1), .val (.int p2), .val (.int p3), .val (.int p4), .val (.int p5), .val (.int (3 : Int32)), .val (.int ba), .val (.int bb), .val (.int bc), .val (.int bd), .val (.ref b1), .val (.ref cc), .unset, .unset, .unset] [])) _
  refine XS.aload X5.here hx rfl (hb hby at_148) rfl rfl ?_
  show Steps p.tables e below (T5.setTop (mkF m 150 #[.val (.int p0), .val (.int p1), .val (.int p2), .val (.int p3), .val (.int p4), .val (.int p5), .val (.int (3 : Int32)), .val (.int ba), .val (.int bb), .val (.int bc), .val (.int bd), .val (.ref b1), .val (.ref cc), .unset, .unset, .unset] [(.ref cc)])) _
  refine own_len X5 hx hZ rfl AC5 rfl rfl (hb hby at_150) ?_
  show Steps p.tables e below (T5.setTop (mkF m 151 #[.val (.int p0), .val (.int p1), .val (.int p2), .val (.int p3), .val (.int p4), .val (.int p5), .val (.int (3 : Int32)), .val (.int ba), .val (.int bb), .val (.int bc), .val (.int bd), .val (.ref b1), .val (.ref cc), .unset, .unset, .unset] [(.int (256 : Int32))])) _
  refine XS.sipush X5.here hx rfl (hb hby at_151) ?_
  show Steps p.tables e below (T5.setTop (mkF m 154 #[.val (.int p0), .val (.int p1), .val (.int p2), .val (.int p3), .val (.int p4), .val (.int p5), .val (.int (3 : Int32)), .val (.int ba), .val (.int bb), .val (.int bc), .val (.int bd), .val (.ref b1), .val (.ref cc), .unset, .unset, .unset] [(.int (256 : Int32)), (.int (256 : Int32))])) _
  refine XS.icmpYes X5.here hx rfl (pc0 := 154) (pc' := 159) rfl (hb hby at_154) rfl (teq (rfl : (256 : Int32) = (256 : Int32))).1 (by decide) (by decide) ?_
  show Steps p.tables e below (T5.setTop (mkF m 159 #[.val (.int p0), .val (.int p1), .val (.int p2), .val (.int p3), .val (.int p4), .val (.int p5), .val (.int (3 : Int32)), .val (.int ba), .val (.int bb), .val (.int bc), .val (.int bd), .val (.ref b1), .val (.ref cc), .unset, .unset, .unset] [])) _
  refine XS.iloadN X5.here hx rfl (hb hby at_159) rfl ?_
  show Steps p.tables e below (T5.setTop (mkF m 160 #[.val (.int p0), .val (.int p1), .val (.int p2), .val (.int p3), .val (.int p4), .val (.int p5), .val (.int (3 : Int32)), .val (.int ba), .val (.int bb), .val (.int bc), .val (.int bd), .val (.ref b1), .val (.ref cc), .unset, .unset, .unset] [(.int p1)])) _
  refine XS.sipush X5.here hx rfl (hb hby at_160) ?_
  show Steps p.tables e below (T5.setTop (mkF m 163 #[.val (.int p0), .val (.int p1), .val (.int p2), .val (.int p3), .val (.int p4), .val (.int p5), .val (.int (3 : Int32)), .val (.int ba), .val (.int bb), .val (.int bc), .val (.int bd), .val (.ref b1), .val (.ref cc), .unset, .unset, .unset] [(.int (255 : Int32)), (.int p1)])) _
  refine XS.iand X5.here hx rfl (hb hby at_163) rfl ?_
  show Steps p.tables e below (T5.setTop (mkF m 164 #[.val (.int p0), .val (.int p1), .val (.int p2), .val (.int p3), .val (.int p4), .val (.int p5), .val (.int (3 : Int32)), .val (.int ba), .val (.int bb), .val (.int bc), .val (.int bd), .val (.ref b1), .val (.ref cc), .unset, .unset, .unset] [(.int (p1 &&& (255 : Int32)))])) _
  refine XS.istore X5.here hx rfl (hb hby at_164) rfl (l' := #[.val (.int p0), .val (.int p1), .val (.int p2), .val (.int p3), .val (.int p4), .val (.int p5), .val (.int (3 : Int32)), .val (.int ba), .val (.int bb), .val (.int bc), .val (.int bd), .val (.ref b1), .val (.ref cc), .val (.int (p1 &&& (255 : Int32))), .unset, .unset]) rfl ?_
  show Steps p.tables e below (T5.setTop (mkF m 166 #[.val (.int p0), .val (.int p1), .val (.int p2), .val (.int p3), .val (.int p4), .val (.int p5), .val (.int (3 : Int32)), .val (.int ba), .val (.int bb), .val (.int bc), .val (.int bd), .val (.ref b1), .val (.ref cc), .val (.int (p1 &&& (255 : Int32))), .unset, .unset] [])) _
  rw [h_kk]
  show Steps p.tables e below (T5.setTop (mkF m 166 #[.val (.int p0), .val (.int p1), .val (.int p2), .val (.int p3), .val (.int p4), .val (.int p5), .val (.int (3 : Int32)), .val (.int ba), .val (.int bb), .val (.int bc), .val (.int bd), .val (.ref b1), .val (.ref cc), .val (.int kk), .unset, .unset] [])) _
  refine XS.iconst X5.here hx rfl (hb hby at_166) ?_
  show Steps p.tables e below (T5.setTop (mkF m 167 #[.val (.int p0), .val (.int p1), .val (.int p2), .val (.int p3), .val (.int p4), .val (.int p5), .val (.int (3 : Int32)), .val (.int ba), .val (.int bb), .val (.int bc), .val (.int bd), .val (.ref b1), .val (.ref cc), .val (.int kk), .unset, .unset] [(.int (0 : Int32))])) _
  refine XS.istore X5.here hx rfl (hb hby at_167) rfl (l' := #[.val (.int p0), .val (.int p1), .val (.int p2), .val (.int p3), .val (.int p4), .val (.int p5), .val (.int (3 : Int32)), .val (.int ba), .val (.int bb), .val (.int bc), .val (.int bd), .val (.ref b1), .val (.ref cc), .val (.int kk), .val (.int (0 : Int32)), .unset]) rfl ?_
  show Steps p.tables e below (T5.setTop (mkF m 169 #[.val (.int p0), .val (.int p1), .val (.int p2), .val (.int p3), .val (.int p4), .val (.int p5), .val (.int (3 : Int32)), .val (.int ba), .val (.int bb), .val (.int bc), .val (.int bd), .val (.ref b1), .val (.ref cc), .val (.int kk), .val (.int (0 : Int32)), .unset] [])) _
  refine XS.iload X5.here hx rfl (hb hby at_169) rfl ?_
  show Steps p.tables e below (T5.setTop (mkF m 171 #[.val (.int p0), .val (.int p1), .val (.int p2), .val (.int p3), .val (.int p4), .val (.int p5), .val (.int (3 : Int32)), .val (.int ba), .val (.int bb), .val (.int bc), .val (.int bd), .val (.ref b1), .val (.ref cc), .val (.int kk), .val (.int (0 : Int32)), .unset] [(.int (3 : Int32))])) _
  refine XS.ifNo X5.here hx rfl (hb hby at_171) rfl ((if0 _ _).trans (tlt (by decide)).2.2.2) ?_
  show Steps p.tables e below (T5.setTop (mkF m 174 #[.val (.int p0), .val (.int p1), .val (.int p2), .val (.int p3), .val (.int p4), .val (.int p5), .val (.int (3 : Int32)), .val (.int ba), .val (.int bb), .val (.int bc), .val (.int bd), .val (.ref b1), .val (.ref cc), .val (.int kk), .val (.int (0 : Int32)), .unset] [])) _
  refine XS.iload X5.here hx rfl (hb hby at_174) rfl ?_
  show Steps p.tables e below (T5.setTop (mkF m 176 #[.val (.int p0), .val (.int p1), .val (.int p2), .val (.int p3), .val (.int p4), .val (.int p5), .val (.int (3 : Int32)), .val (.int ba), .val (.int bb), .val (.int bc), .val (.int bd), .val (.ref b1), .val (.ref cc), .val (.int kk), .val (.int (0 : Int32)), .unset] [(.int (0 : Int32))])) _
  refine XS.iload X5.here hx rfl (hb hby at_176) rfl ?_
  show Steps p.tables e below (T5.setTop (mkF m 178 #[.val (.int p0), .val (.int p1), .val (.int p2), .val (.int p3), .val (.int p4), .val (.int p5), .val (.int (3 : Int32)), .val (.int ba), .val (.int bb), .val (.int bc), .val (.int bd), .val (.ref b1), .val (.ref cc), .val (.int kk), .val (.int (0 : Int32)), .unset] [(.int ba), (.int (0 : Int32))])) _
  refine XS.iload X5.here hx rfl (hb hby at_178) rfl ?_
  show Steps p.tables e below (T5.setTop (mkF m 180 #[.val (.int p0), .val (.int p1), .val (.int p2), .val (.int p3), .val (.int p4), .val (.int p5), .val (.int (3 : Int32)), .val (.int ba), .val (.int bb), .val (.int bc), .val (.int bd), .val (.ref b1), .val (.ref cc), .val (.int kk), .val (.int (0 : Int32)), .unset] [(.int kk), (.int ba), (.int (0 : Int32))])) _
  refine st6 _ ?_
  show Steps p.tables e below (T6.setTop (mkF m 183 #[.val (.int p0), .val (.int p1), .val (.int p2), .val (.int p3), .val (.int p4), .val (.int p5), .val (.int (3 : Int32)), .val (.int ba), .val (.int bb), .val (.int bc), .val (.int bd), .val (.ref b1), .val (.ref cc), .val (.int kk), .val (.int (0 : Int32)), .unset] [(.int (own_hit ba kk)), (.int (0 : Int32))])) _
  refine XS.iadd X6.here hx rfl (hb hby at_183) rfl ?_
  show Steps p.tables e below (T6.setTop (mkF m 184 #[.val (.int p0), .val (.int p1), .val (.int p2), .val (.int p3), .val (.int p4), .val (.int p5), .val (.int (3 : Int32)), .val (.int ba), .val (.int bb), .val (.int bc), .val (.int bd), .val (.ref b1), .val (.ref cc), .val (.int kk), .val (.int (0 : Int32)), .unset] [(.int ((0 : Int32) + (own_hit ba kk)))])) _
  refine XS.istore X6.here hx rfl (hb hby at_184) rfl (l' := #[.val (.int p0), .val (.int p1), .val (.int p2), .val (.int p3), .val (.int p4), .val (.int p5), .val (.int (3 : Int32)), .val (.int ba), .val (.int bb), .val (.int bc), .val (.int bd), .val (.ref b1), .val (.ref cc), .val (.int kk), .val (.int ((0 : Int32) + (own_hit ba kk))), .unset]) rfl ?_
  show Steps p.tables e below (T6.setTop (mkF m 186 #[.val (.int p0), .val (.int p1), .val (.int p2), .val (.int p3), .val (.int p4), .val (.int p5), .val (.int (3 : Int32)), .val (.int ba), .val (.int bb), .val (.int bc), .val (.int bd), .val (.ref b1), .val (.ref cc), .val (.int kk), .val (.int ((0 : Int32) + (own_hit ba kk))), .unset] [])) _
  refine XS.iload X6.here hx rfl (hb hby at_186) rfl ?_
  show Steps p.tables e below (T6.setTop (mkF m 188 #[.val (.int p0), .val (.int p1), .val (.int p2), .val (.int p3), .val (.int p4), .val (.int p5), .val (.int (3 : Int32)), .val (.int ba), .val (.int bb), .val (.int bc), .val (.int bd), .val (.ref b1), .val (.ref cc), .val (.int kk), .val (.int ((0 : Int32) + (own_hit ba kk))), .unset] [(.int (3 : Int32))])) _
  refine XS.iconst X6.here hx rfl (hb hby at_188) ?_
  show Steps p.tables e below (T6.setTop (mkF m 189 #[.val (.int p0), .val (.int p1), .val (.int p2), .val (.int p3), .val (.int p4), .val (.int p5), .val (.int (3 : Int32)), .val (.int ba), .val (.int bb), .val (.int bc), .val (.int bd), .val (.ref b1), .val (.ref cc), .val (.int kk), .val (.int ((0 : Int32) + (own_hit ba kk))), .unset] [(.int (1 : Int32)), (.int (3 : Int32))])) _
  refine XS.icmpNo X6.here hx rfl (hb hby at_189) rfl (tlt (by decide)).2.2.2 ?_
  show Steps p.tables e below (T6.setTop (mkF m 192 #[.val (.int p0), .val (.int p1), .val (.int p2), .val (.int p3), .val (.int p4), .val (.int p5), .val (.int (3 : Int32)), .val (.int ba), .val (.int bb), .val (.int bc), .val (.int bd), .val (.ref b1), .val (.ref cc), .val (.int kk), .val (.int ((0 : Int32) + (own_hit ba kk))), .unset] [])) _
  refine XS.iload X6.here hx rfl (hb hby at_192) rfl ?_
  show Steps p.tables e below (T6.setTop (mkF m 194 #[.val (.int p0), .val (.int p1), .val (.int p2), .val (.int p3), .val (.int p4), .val (.int p5), .val (.int (3 : Int32)), .val (.int ba), .val (.int bb), .val (.int bc), .val (.int bd), .val (.ref b1), .val (.ref cc), .val (.int kk), .val (.int ((0 : Int32) + (own_hit ba kk))), .unset] [(.int ((0 : Int32) + (own_hit ba kk)))])) _
  refine XS.iload X6.here hx rfl (hb hby at_194) rfl ?_
  show Steps p.tables e below (T6.setTop (mkF m 196 #[.val (.int p0), .val (.int p1), .val (.int p2), .val (.int p3), .val (.int p4), .val (.int p5), .val (.int (3 : Int32)), .val (.int ba), .val (.int bb), .val (.int bc), .val (.int bd), .val (.ref b1), .val (.ref cc), .val (.int kk), .val (.int ((0 : Int32) + (own_hit ba kk))), .unset] [(.int bb), (.int ((0 : Int32) + (own_hit ba kk)))])) _
  refine XS.iload X6.here hx rfl (hb hby at_196) rfl ?_
  show Steps p.tables e below (T6.setTop (mkF m 198 #[.val (.int p0), .val (.int p1), .val (.int p2), .val (.int p3), .val (.int p4), .val (.int p5), .val (.int (3 : Int32)), .val (.int ba), .val (.int bb), .val (.int bc), .val (.int bd), .val (.ref b1), .val (.ref cc), .val (.int kk), .val (.int ((0 : Int32) + (own_hit ba kk))), .unset] [(.int kk), (.int bb), (.int ((0 : Int32) + (own_hit ba kk)))])) _
  refine st7 _ ?_
  show Steps p.tables e below (T7.setTop (mkF m 201 #[.val (.int p0), .val (.int p1), .val (.int p2), .val (.int p3), .val (.int p4), .val (.int p5), .val (.int (3 : Int32)), .val (.int ba), .val (.int bb), .val (.int bc), .val (.int bd), .val (.ref b1), .val (.ref cc), .val (.int kk), .val (.int ((0 : Int32) + (own_hit ba kk))), .unset] [(.int (own_hit bb kk)), (.int ((0 : Int32) + (own_hit ba kk)))])) _
  refine XS.iadd X7.here hx rfl (hb hby at_201) rfl ?_
  show Steps p.tables e below (T7.setTop (mkF m 202 #[.val (.int p0), .val (.int p1), .val (.int p2), .val (.int p3), .val (.int p4), .val (.int p5), .val (.int (3 : Int32)), .val (.int ba), .val (.int bb), .val (.int bc), .val (.int bd), .val (.ref b1), .val (.ref cc), .val (.int kk), .val (.int ((0 : Int32) + (own_hit ba kk))), .unset] [(.int (((0 : Int32) + (own_hit ba kk)) + (own_hit bb kk)))])) _
  refine XS.istore X7.here hx rfl (hb hby at_202) rfl (l' := #[.val (.int p0), .val (.int p1), .val (.int p2), .val (.int p3), .val (.int p4), .val (.int p5), .val (.int (3 : Int32)), .val (.int ba), .val (.int bb), .val (.int bc), .val (.int bd), .val (.ref b1), .val (.ref cc), .val (.int kk), .val (.int (((0 : Int32) + (own_hit ba kk)) + (own_hit bb kk))), .unset]) rfl ?_
  show Steps p.tables e below (T7.setTop (mkF m 204 #[.val (.int p0), .val (.int p1), .val (.int p2), .val (.int p3), .val (.int p4), .val (.int p5), .val (.int (3 : Int32)), .val (.int ba), .val (.int bb), .val (.int bc), .val (.int bd), .val (.ref b1), .val (.ref cc), .val (.int kk), .val (.int (((0 : Int32) + (own_hit ba kk)) + (own_hit bb kk))), .unset] [])) _
  refine XS.iload X7.here hx rfl (hb hby at_204) rfl ?_
  show Steps p.tables e below (T7.setTop (mkF m 206 #[.val (.int p0), .val (.int p1), .val (.int p2), .val (.int p3), .val (.int p4), .val (.int p5), .val (.int (3 : Int32)), .val (.int ba), .val (.int bb), .val (.int bc), .val (.int bd), .val (.ref b1), .val (.ref cc), .val (.int kk), .val (.int (((0 : Int32) + (own_hit ba kk)) + (own_hit bb kk))), .unset] [(.int (3 : Int32))])) _
  refine XS.iconst X7.here hx rfl (hb hby at_206) ?_
  show Steps p.tables e below (T7.setTop (mkF m 207 #[.val (.int p0), .val (.int p1), .val (.int p2), .val (.int p3), .val (.int p4), .val (.int p5), .val (.int (3 : Int32)), .val (.int ba), .val (.int bb), .val (.int bc), .val (.int bd), .val (.ref b1), .val (.ref cc), .val (.int kk), .val (.int (((0 : Int32) + (own_hit ba kk)) + (own_hit bb kk))), .unset] [(.int (2 : Int32)), (.int (3 : Int32))])) _
  refine XS.icmpNo X7.here hx rfl (hb hby at_207) rfl (tlt (by decide)).2.2.2 ?_
  show Steps p.tables e below (T7.setTop (mkF m 210 #[.val (.int p0), .val (.int p1), .val (.int p2), .val (.int p3), .val (.int p4), .val (.int p5), .val (.int (3 : Int32)), .val (.int ba), .val (.int bb), .val (.int bc), .val (.int bd), .val (.ref b1), .val (.ref cc), .val (.int kk), .val (.int (((0 : Int32) + (own_hit ba kk)) + (own_hit bb kk))), .unset] [])) _
  refine XS.iload X7.here hx rfl (hb hby at_210) rfl ?_
  show Steps p.tables e below (T7.setTop (mkF m 212 #[.val (.int p0), .val (.int p1), .val (.int p2), .val (.int p3), .val (.int p4), .val (.int p5), .val (.int (3 : Int32)), .val (.int ba), .val (.int bb), .val (.int bc), .val (.int bd), .val (.ref b1), .val (.ref cc), .val (.int kk), .val (.int (((0 : Int32) + (own_hit ba kk)) + (own_hit bb kk))), .unset] [(.int (((0 : Int32) + (own_hit ba kk)) + (own_hit bb kk)))])) _
  refine XS.iload X7.here hx rfl (hb hby at_212) rfl ?_
  show Steps p.tables e below (T7.setTop (mkF m 214 #[.val (.int p0), .val (.int p1), .val (.int p2), .val (.int p3), .val (.int p4), .val (.int p5), .val (.int (3 : Int32)), .val (.int ba), .val (.int bb), .val (.int bc), .val (.int bd), .val (.ref b1), .val (.ref cc), .val (.int kk), .val (.int (((0 : Int32) + (own_hit ba kk)) + (own_hit bb kk))), .unset] [(.int bc), (.int (((0 : Int32) + (own_hit ba kk)) + (own_hit bb kk)))])) _
  refine XS.iload X7.here hx rfl (hb hby at_214) rfl ?_
  show Steps p.tables e below (T7.setTop (mkF m 216 #[.val (.int p0), .val (.int p1), .val (.int p2), .val (.int p3), .val (.int p4), .val (.int p5), .val (.int (3 : Int32)), .val (.int ba), .val (.int bb), .val (.int bc), .val (.int bd), .val (.ref b1), .val (.ref cc), .val (.int kk), .val (.int (((0 : Int32) + (own_hit ba kk)) + (own_hit bb kk))), .unset] [(.int kk), (.int bc), (.int (((0 : Int32) + (own_hit ba kk)) + (own_hit bb kk)))])) _
  refine st8 _ ?_
  show Steps p.tables e below (T8.setTop (mkF m 219 #[.val (.int p0), .val (.int p1), .val (.int p2), .val (.int p3), .val (.int p4), .val (.int p5), .val (.int (3 : Int32)), .val (.int ba), .val (.int bb), .val (.int bc), .val (.int bd), .val (.ref b1), .val (.ref cc), .val (.int kk), .val (.int (((0 : Int32) + (own_hit ba kk)) + (own_hit bb kk))), .unset] [(.int (own_hit bc kk)), (.int (((0 : Int32) + (own_hit ba kk)) + (own_hit bb kk)))])) _
  refine XS.iadd X8.here hx rfl (hb hby at_219) rfl ?_
  show Steps p.tables e below (T8.setTop (mkF m 220 #[.val (.int p0), .val (.int p1), .val (.int p2), .val (.int p3), .val (.int p4), .val (.int p5), .val (.int (3 : Int32)), .val (.int ba), .val (.int bb), .val (.int bc), .val (.int bd), .val (.ref b1), .val (.ref cc), .val (.int kk), .val (.int (((0 : Int32) + (own_hit ba kk)) + (own_hit bb kk))), .unset] [(.int ((((0 : Int32) + (own_hit ba kk)) + (own_hit bb kk)) + (own_hit bc kk)))])) _
  refine XS.istore X8.here hx rfl (hb hby at_220) rfl (l' := #[.val (.int p0), .val (.int p1), .val (.int p2), .val (.int p3), .val (.int p4), .val (.int p5), .val (.int (3 : Int32)), .val (.int ba), .val (.int bb), .val (.int bc), .val (.int bd), .val (.ref b1), .val (.ref cc), .val (.int kk), .val (.int ((((0 : Int32) + (own_hit ba kk)) + (own_hit bb kk)) + (own_hit bc kk))), .unset]) rfl ?_
  show Steps p.tables e below (T8.setTop (mkF m 222 #[.val (.int p0), .val (.int p1), .val (.int p2), .val (.int p3), .val (.int p4), .val (.int p5), .val (.int (3 : Int32)), .val (.int ba), .val (.int bb), .val (.int bc), .val (.int bd), .val (.ref b1), .val (.ref cc), .val (.int kk), .val (.int ((((0 : Int32) + (own_hit ba kk)) + (own_hit bb kk)) + (own_hit bc kk))), .unset] [])) _
  refine XS.iload X8.here hx rfl (hb hby at_222) rfl ?_
  show Steps p.tables e below (T8.setTop (mkF m 224 #[.val (.int p0), .val (.int p1), .val (.int p2), .val (.int p3), .val (.int p4), .val (.int p5), .val (.int (3 : Int32)), .val (.int ba), .val (.int bb), .val (.int bc), .val (.int bd), .val (.ref b1), .val (.ref cc), .val (.int kk), .val (.int ((((0 : Int32) + (own_hit ba kk)) + (own_hit bb kk)) + (own_hit bc kk))), .unset] [(.int (3 : Int32))])) _
  refine XS.iconst X8.here hx rfl (hb hby at_224) ?_
  show Steps p.tables e below (T8.setTop (mkF m 225 #[.val (.int p0), .val (.int p1), .val (.int p2), .val (.int p3), .val (.int p4), .val (.int p5), .val (.int (3 : Int32)), .val (.int ba), .val (.int bb), .val (.int bc), .val (.int bd), .val (.ref b1), .val (.ref cc), .val (.int kk), .val (.int ((((0 : Int32) + (own_hit ba kk)) + (own_hit bb kk)) + (own_hit bc kk))), .unset] [(.int (3 : Int32)), (.int (3 : Int32))])) _
  refine XS.icmpYes X8.here hx rfl (pc0 := 225) (pc' := 240) rfl (hb hby at_225) rfl (flt (Int32.lt_irrefl)).2.2.2 (by decide) (by decide) ?_
  show Steps p.tables e below (T8.setTop (mkF m 240 #[.val (.int p0), .val (.int p1), .val (.int p2), .val (.int p3), .val (.int p4), .val (.int p5), .val (.int (3 : Int32)), .val (.int ba), .val (.int bb), .val (.int bc), .val (.int bd), .val (.ref b1), .val (.ref cc), .val (.int kk), .val (.int ((((0 : Int32) + (own_hit ba kk)) + (own_hit bb kk)) + (own_hit bc kk))), .unset] [])) _
  refine XS.aload X8.here hx rfl (hb hby at_240) rfl rfl ?_
  show Steps p.tables e below (T8.setTop (mkF m 242 #[.val (.int p0), .val (.int p1), .val (.int p2), .val (.int p3), .val (.int p4), .val (.int p5), .val (.int (3 : Int32)), .val (.int ba), .val (.int bb), .val (.int bc), .val (.int bd), .val (.ref b1), .val (.ref cc), .val (.int kk), .val (.int ((((0 : Int32) + (own_hit ba kk)) + (own_hit bb kk)) + (own_hit bc kk))), .unset] [(.ref b1)])) _
  refine own_len X8 hx hZ e8 AD5 rfl rfl (hb hby at_242) ?_
  show Steps p.tables e below (T8.setTop (mkF m 243 #[.val (.int p0), .val (.int p1), .val (.int p2), .val (.int p3), .val (.int p4), .val (.int p5), .val (.int (3 : Int32)), .val (.int ba), .val (.int bb), .val (.int bc), .val (.int bd), .val (.ref b1), .val (.ref cc), .val (.int kk), .val (.int ((((0 : Int32) + (own_hit ba kk)) + (own_hit bb kk)) + (own_hit bc kk))), .unset] [(.int (3 : Int32))])) _
  refine XS.iload X8.here hx rfl (hb hby at_243) rfl ?_
  show Steps p.tables e below (T8.setTop (mkF m 245 #[.val (.int p0), .val (.int p1), .val (.int p2), .val (.int p3), .val (.int p4), .val (.int p5), .val (.int (3 : Int32)), .val (.int ba), .val (.int bb), .val (.int bc), .val (.int bd), .val (.ref b1), .val (.ref cc), .val (.int kk), .val (.int ((((0 : Int32) + (own_hit ba kk)) + (own_hit bb kk)) + (own_hit bc kk))), .unset] [(.int (3 : Int32)), (.int (3 : Int32))])) _
  refine XS.icmpNo X8.here hx rfl (hb hby at_245) rfl (teq (rfl : (3 : Int32) = (3 : Int32))).2 ?_
  show Steps p.tables e below (T8.setTop (mkF m 248 #[.val (.int p0), .val (.int p1), .val (.int p2), .val (.int p3), .val (.int p4), .val (.int p5), .val (.int (3 : Int32)), .val (.int ba), .val (.int bb), .val (.int bc), .val (.int bd), .val (.ref b1), .val (.ref cc), .val (.int kk), .val (.int ((((0 : Int32) + (own_hit ba kk)) + (own_hit bb kk)) + (own_hit bc kk))), .unset] [])) _
  refine XS.iconst X8.here hx rfl (hb hby at_248) ?_
  show Steps p.tables e below (T8.setTop (mkF m 249 #[.val (.int p0), .val (.int p1), .val (.int p2), .val (.int p3), .val (.int p4), .val (.int p5), .val (.int (3 : Int32)), .val (.int ba), .val (.int bb), .val (.int bc), .val (.int bd), .val (.ref b1), .val (.ref cc), .val (.int kk), .val (.int ((((0 : Int32) + (own_hit ba kk)) + (own_hit bb kk)) + (own_hit bc kk))), .unset] [(.int (1 : Int32))])) _
  refine XS.goto X8.here hx rfl (pc0 := 249) (pc' := 253) rfl (hb hby at_249) (by decide) (by decide) ?_
  show Steps p.tables e below (T8.setTop (mkF m 253 #[.val (.int p0), .val (.int p1), .val (.int p2), .val (.int p3), .val (.int p4), .val (.int p5), .val (.int (3 : Int32)), .val (.int ba), .val (.int bb), .val (.int bc), .val (.int bd), .val (.ref b1), .val (.ref cc), .val (.int kk), .val (.int ((((0 : Int32) + (own_hit ba kk)) + (own_hit bb kk)) + (own_hit bc kk))), .unset] [(.int (1 : Int32))])) _
  refine XS.istore X8.here hx rfl (hb hby at_253) rfl (l' := #[.val (.int p0), .val (.int p1), .val (.int p2), .val (.int p3), .val (.int p4), .val (.int p5), .val (.int (3 : Int32)), .val (.int ba), .val (.int bb), .val (.int bc), .val (.int bd), .val (.ref b1), .val (.ref cc), .val (.int kk), .val (.int ((((0 : Int32) + (own_hit ba kk)) + (own_hit bb kk)) + (own_hit bc kk))), .val (.int (1 : Int32))]) rfl ?_
  show Steps p.tables e below (T8.setTop (mkF m 255 #[.val (.int p0), .val (.int p1), .val (.int p2), .val (.int p3), .val (.int p4), .val (.int p5), .val (.int (3 : Int32)), .val (.int ba), .val (.int bb), .val (.int bc), .val (.int bd), .val (.ref b1), .val (.ref cc), .val (.int kk), .val (.int ((((0 : Int32) + (own_hit ba kk)) + (own_hit bb kk)) + (own_hit bc kk))), .val (.int (1 : Int32))] [])) _
  refine XS.iload X8.here hx rfl (hb hby at_255) rfl ?_
  show Steps p.tables e below (T8.setTop (mkF m 257 #[.val (.int p0), .val (.int p1), .val (.int p2), .val (.int p3), .val (.int p4), .val (.int p5), .val (.int (3 : Int32)), .val (.int ba), .val (.int bb), .val (.int bc), .val (.int bd), .val (.ref b1), .val (.ref cc), .val (.int kk), .val (.int ((((0 : Int32) + (own_hit ba kk)) + (own_hit bb kk)) + (own_hit bc kk))), .val (.int (1 : Int32))] [(.int (3 : Int32))])) _
  refine XS.ifNo X8.here hx rfl (hb hby at_257) rfl ((if0 _ _).trans (tlt (by decide)).2.2.2) ?_
  show Steps p.tables e below (T8.setTop (mkF m 260 #[.val (.int p0), .val (.int p1), .val (.int p2), .val (.int p3), .val (.int p4), .val (.int p5), .val (.int (3 : Int32)), .val (.int ba), .val (.int bb), .val (.int bc), .val (.int bd), .val (.ref b1), .val (.ref cc), .val (.int kk), .val (.int ((((0 : Int32) + (own_hit ba kk)) + (own_hit bb kk)) + (own_hit bc kk))), .val (.int (1 : Int32))] [])) _
  refine XS.iload X8.here hx rfl (hb hby at_260) rfl ?_
  show Steps p.tables e below (T8.setTop (mkF m 262 #[.val (.int p0), .val (.int p1), .val (.int p2), .val (.int p3), .val (.int p4), .val (.int p5), .val (.int (3 : Int32)), .val (.int ba), .val (.int bb), .val (.int bc), .val (.int bd), .val (.ref b1), .val (.ref cc), .val (.int kk), .val (.int ((((0 : Int32) + (own_hit ba kk)) + (own_hit bb kk)) + (own_hit bc kk))), .val (.int (1 : Int32))] [(.int (1 : Int32))])) _
  refine XS.ifNo X8.here hx rfl (hb hby at_262) rfl ((if0 _ _).trans (feq (by decide)).1) ?_
  show Steps p.tables e below (T8.setTop (mkF m 265 #[.val (.int p0), .val (.int p1), .val (.int p2), .val (.int p3), .val (.int p4), .val (.int p5), .val (.int (3 : Int32)), .val (.int ba), .val (.int bb), .val (.int bc), .val (.int bd), .val (.ref b1), .val (.ref cc), .val (.int kk), .val (.int ((((0 : Int32) + (own_hit ba kk)) + (own_hit bb kk)) + (own_hit bc kk))), .val (.int (1 : Int32))] [])) _
  refine XS.aload X8.here hx rfl (hb hby at_265) rfl rfl ?_
  show Steps p.tables e below (T8.setTop (mkF m 267 #[.val (.int p0), .val (.int p1), .val (.int p2), .val (.int p3), .val (.int p4), .val (.int p5), .val (.int (3 : Int32)), .val (.int ba), .val (.int bb), .val (.int bc), .val (.int bd), .val (.ref b1), .val (.ref cc), .val (.int kk), .val (.int ((((0 : Int32) + (own_hit ba kk)) + (own_hit bb kk)) + (own_hit bc kk))), .val (.int (1 : Int32))] [(.ref b1)])) _
  refine XS.iconst X8.here hx rfl (hb hby at_267) ?_
  show Steps p.tables e below (T8.setTop (mkF m 268 #[.val (.int p0), .val (.int p1), .val (.int p2), .val (.int p3), .val (.int p4), .val (.int p5), .val (.int (3 : Int32)), .val (.int ba), .val (.int bb), .val (.int bc), .val (.int bd), .val (.ref b1), .val (.ref cc), .val (.int kk), .val (.int ((((0 : Int32) + (own_hit ba kk)) + (own_hit bb kk)) + (own_hit bc kk))), .val (.int (1 : Int32))] [(.int (0 : Int32)), (.ref b1)])) _
  refine own_ldB X8 hx hZ e8 AD5 (j := (0 : Int32)) ⟨by decide, by decide⟩ rfl rfl (hb hby at_268) ?_
  show Steps p.tables e below (T8.setTop (mkF m 269 #[.val (.int p0), .val (.int p1), .val (.int p2), .val (.int p3), .val (.int p4), .val (.int p5), .val (.int (3 : Int32)), .val (.int ba), .val (.int bb), .val (.int bc), .val (.int bd), .val (.ref b1), .val (.ref cc), .val (.int kk), .val (.int ((((0 : Int32) + (own_hit ba kk)) + (own_hit bb kk)) + (own_hit bc kk))), .val (.int (1 : Int32))] [(.int ba)])) _
  refine XS.iload X8.here hx rfl (hb hby at_269) rfl ?_
  show Steps p.tables e below (T8.setTop (mkF m 271 #[.val (.int p0), .val (.int p1), .val (.int p2), .val (.int p3), .val (.int p4), .val (.int p5), .val (.int (3 : Int32)), .val (.int ba), .val (.int bb), .val (.int bc), .val (.int bd), .val (.ref b1), .val (.ref cc), .val (.int kk), .val (.int ((((0 : Int32) + (own_hit ba kk)) + (own_hit bb kk)) + (own_hit bc kk))), .val (.int (1 : Int32))] [(.int ba), (.int ba)])) _
  refine XS.icmpNo X8.here hx rfl (hb hby at_271) rfl (teq (rfl : ba = ba)).2 ?_
  show Steps p.tables e below (T8.setTop (mkF m 274 #[.val (.int p0), .val (.int p1), .val (.int p2), .val (.int p3), .val (.int p4), .val (.int p5), .val (.int (3 : Int32)), .val (.int ba), .val (.int bb), .val (.int bc), .val (.int bd), .val (.ref b1), .val (.ref cc), .val (.int kk), .val (.int ((((0 : Int32) + (own_hit ba kk)) + (own_hit bb kk)) + (own_hit bc kk))), .val (.int (1 : Int32))] [])) _
  refine XS.iconst X8.here hx rfl (hb hby at_274) ?_
  show Steps p.tables e below (T8.setTop (mkF m 275 #[.val (.int p0), .val (.int p1), .val (.int p2), .val (.int p3), .val (.int p4), .val (.int p5), .val (.int (3 : Int32)), .val (.int ba), .val (.int bb), .val (.int bc), .val (.int bd), .val (.ref b1), .val (.ref cc), .val (.int kk), .val (.int ((((0 : Int32) + (own_hit ba kk)) + (own_hit bb kk)) + (own_hit bc kk))), .val (.int (1 : Int32))] [(.int (1 : Int32))])) _
  refine XS.goto X8.here hx rfl (pc0 := 275) (pc' := 279) rfl (hb hby at_275) (by decide) (by decide) ?_
  show Steps p.tables e below (T8.setTop (mkF m 279 #[.val (.int p0), .val (.int p1), .val (.int p2), .val (.int p3), .val (.int p4), .val (.int p5), .val (.int (3 : Int32)), .val (.int ba), .val (.int bb), .val (.int bc), .val (.int bd), .val (.ref b1), .val (.ref cc), .val (.int kk), .val (.int ((((0 : Int32) + (own_hit ba kk)) + (own_hit bb kk)) + (own_hit bc kk))), .val (.int (1 : Int32))] [(.int (1 : Int32))])) _
  refine XS.istore X8.here hx rfl (hb hby at_279) rfl (l' := #[.val (.int p0), .val (.int p1), .val (.int p2), .val (.int p3), .val (.int p4), .val (.int p5), .val (.int (3 : Int32)), .val (.int ba), .val (.int bb), .val (.int bc), .val (.int bd), .val (.ref b1), .val (.ref cc), .val (.int kk), .val (.int ((((0 : Int32) + (own_hit ba kk)) + (own_hit bb kk)) + (own_hit bc kk))), .val (.int (1 : Int32))]) rfl ?_
  show Steps p.tables e below (T8.setTop (mkF m 281 #[.val (.int p0), .val (.int p1), .val (.int p2), .val (.int p3), .val (.int p4), .val (.int p5), .val (.int (3 : Int32)), .val (.int ba), .val (.int bb), .val (.int bc), .val (.int bd), .val (.ref b1), .val (.ref cc), .val (.int kk), .val (.int ((((0 : Int32) + (own_hit ba kk)) + (own_hit bb kk)) + (own_hit bc kk))), .val (.int (1 : Int32))] [])) _
  refine XS.iload X8.here hx rfl (hb hby at_281) rfl ?_
  show Steps p.tables e below (T8.setTop (mkF m 283 #[.val (.int p0), .val (.int p1), .val (.int p2), .val (.int p3), .val (.int p4), .val (.int p5), .val (.int (3 : Int32)), .val (.int ba), .val (.int bb), .val (.int bc), .val (.int bd), .val (.ref b1), .val (.ref cc), .val (.int kk), .val (.int ((((0 : Int32) + (own_hit ba kk)) + (own_hit bb kk)) + (own_hit bc kk))), .val (.int (1 : Int32))] [(.int (3 : Int32))])) _
  refine XS.iconst X8.here hx rfl (hb hby at_283) ?_
  show Steps p.tables e below (T8.setTop (mkF m 284 #[.val (.int p0), .val (.int p1), .val (.int p2), .val (.int p3), .val (.int p4), .val (.int p5), .val (.int (3 : Int32)), .val (.int ba), .val (.int bb), .val (.int bc), .val (.int bd), .val (.ref b1), .val (.ref cc), .val (.int kk), .val (.int ((((0 : Int32) + (own_hit ba kk)) + (own_hit bb kk)) + (own_hit bc kk))), .val (.int (1 : Int32))] [(.int (1 : Int32)), (.int (3 : Int32))])) _
  refine XS.icmpNo X8.here hx rfl (hb hby at_284) rfl (tlt (by decide)).2.2.2 ?_
  show Steps p.tables e below (T8.setTop (mkF m 287 #[.val (.int p0), .val (.int p1), .val (.int p2), .val (.int p3), .val (.int p4), .val (.int p5), .val (.int (3 : Int32)), .val (.int ba), .val (.int bb), .val (.int bc), .val (.int bd), .val (.ref b1), .val (.ref cc), .val (.int kk), .val (.int ((((0 : Int32) + (own_hit ba kk)) + (own_hit bb kk)) + (own_hit bc kk))), .val (.int (1 : Int32))] [])) _
  refine XS.iload X8.here hx rfl (hb hby at_287) rfl ?_
  show Steps p.tables e below (T8.setTop (mkF m 289 #[.val (.int p0), .val (.int p1), .val (.int p2), .val (.int p3), .val (.int p4), .val (.int p5), .val (.int (3 : Int32)), .val (.int ba), .val (.int bb), .val (.int bc), .val (.int bd), .val (.ref b1), .val (.ref cc), .val (.int kk), .val (.int ((((0 : Int32) + (own_hit ba kk)) + (own_hit bb kk)) + (own_hit bc kk))), .val (.int (1 : Int32))] [(.int (1 : Int32))])) _
  refine XS.ifNo X8.here hx rfl (hb hby at_289) rfl ((if0 _ _).trans (feq (by decide)).1) ?_
  show Steps p.tables e below (T8.setTop (mkF m 292 #[.val (.int p0), .val (.int p1), .val (.int p2), .val (.int p3), .val (.int p4), .val (.int p5), .val (.int (3 : Int32)), .val (.int ba), .val (.int bb), .val (.int bc), .val (.int bd), .val (.ref b1), .val (.ref cc), .val (.int kk), .val (.int ((((0 : Int32) + (own_hit ba kk)) + (own_hit bb kk)) + (own_hit bc kk))), .val (.int (1 : Int32))] [])) _
  refine XS.aload X8.here hx rfl (hb hby at_292) rfl rfl ?_
  show Steps p.tables e below (T8.setTop (mkF m 294 #[.val (.int p0), .val (.int p1), .val (.int p2), .val (.int p3), .val (.int p4), .val (.int p5), .val (.int (3 : Int32)), .val (.int ba), .val (.int bb), .val (.int bc), .val (.int bd), .val (.ref b1), .val (.ref cc), .val (.int kk), .val (.int ((((0 : Int32) + (own_hit ba kk)) + (own_hit bb kk)) + (own_hit bc kk))), .val (.int (1 : Int32))] [(.ref b1)])) _
  refine XS.iconst X8.here hx rfl (hb hby at_294) ?_
  show Steps p.tables e below (T8.setTop (mkF m 295 #[.val (.int p0), .val (.int p1), .val (.int p2), .val (.int p3), .val (.int p4), .val (.int p5), .val (.int (3 : Int32)), .val (.int ba), .val (.int bb), .val (.int bc), .val (.int bd), .val (.ref b1), .val (.ref cc), .val (.int kk), .val (.int ((((0 : Int32) + (own_hit ba kk)) + (own_hit bb kk)) + (own_hit bc kk))), .val (.int (1 : Int32))] [(.int (1 : Int32)), (.ref b1)])) _
  refine own_ldB X8 hx hZ e8 AD5 (j := (1 : Int32)) ⟨by decide, by decide⟩ rfl rfl (hb hby at_295) ?_
  show Steps p.tables e below (T8.setTop (mkF m 296 #[.val (.int p0), .val (.int p1), .val (.int p2), .val (.int p3), .val (.int p4), .val (.int p5), .val (.int (3 : Int32)), .val (.int ba), .val (.int bb), .val (.int bc), .val (.int bd), .val (.ref b1), .val (.ref cc), .val (.int kk), .val (.int ((((0 : Int32) + (own_hit ba kk)) + (own_hit bb kk)) + (own_hit bc kk))), .val (.int (1 : Int32))] [(.int bb)])) _
  refine XS.iload X8.here hx rfl (hb hby at_296) rfl ?_
  show Steps p.tables e below (T8.setTop (mkF m 298 #[.val (.int p0), .val (.int p1), .val (.int p2), .val (.int p3), .val (.int p4), .val (.int p5), .val (.int (3 : Int32)), .val (.int ba), .val (.int bb), .val (.int bc), .val (.int bd), .val (.ref b1), .val (.ref cc), .val (.int kk), .val (.int ((((0 : Int32) + (own_hit ba kk)) + (own_hit bb kk)) + (own_hit bc kk))), .val (.int (1 : Int32))] [(.int bb), (.int bb)])) _
  refine XS.icmpNo X8.here hx rfl (hb hby at_298) rfl (teq (rfl : bb = bb)).2 ?_
  show Steps p.tables e below (T8.setTop (mkF m 301 #[.val (.int p0), .val (.int p1), .val (.int p2), .val (.int p3), .val (.int p4), .val (.int p5), .val (.int (3 : Int32)), .val (.int ba), .val (.int bb), .val (.int bc), .val (.int bd), .val (.ref b1), .val (.ref cc), .val (.int kk), .val (.int ((((0 : Int32) + (own_hit ba kk)) + (own_hit bb kk)) + (own_hit bc kk))), .val (.int (1 : Int32))] [])) _
  refine XS.iconst X8.here hx rfl (hb hby at_301) ?_
  show Steps p.tables e below (T8.setTop (mkF m 302 #[.val (.int p0), .val (.int p1), .val (.int p2), .val (.int p3), .val (.int p4), .val (.int p5), .val (.int (3 : Int32)), .val (.int ba), .val (.int bb), .val (.int bc), .val (.int bd), .val (.ref b1), .val (.ref cc), .val (.int kk), .val (.int ((((0 : Int32) + (own_hit ba kk)) + (own_hit bb kk)) + (own_hit bc kk))), .val (.int (1 : Int32))] [(.int (1 : Int32))])) _
  refine XS.goto X8.here hx rfl (pc0 := 302) (pc' := 306) rfl (hb hby at_302) (by decide) (by decide) ?_
  show Steps p.tables e below (T8.setTop (mkF m 306 #[.val (.int p0), .val (.int p1), .val (.int p2), .val (.int p3), .val (.int p4), .val (.int p5), .val (.int (3 : Int32)), .val (.int ba), .val (.int bb), .val (.int bc), .val (.int bd), .val (.ref b1), .val (.ref cc), .val (.int kk), .val (.int ((((0 : Int32) + (own_hit ba kk)) + (own_hit bb kk)) + (own_hit bc kk))), .val (.int (1 : Int32))] [(.int (1 : Int32))])) _
  refine XS.istore X8.here hx rfl (hb hby at_306) rfl (l' := #[.val (.int p0), .val (.int p1), .val (.int p2), .val (.int p3), .val (.int p4), .val (.int p5), .val (.int (3 : Int32)), .val (.int ba), .val (.int bb), .val (.int bc), .val (.int bd), .val (.ref b1), .val (.ref cc), .val (.int kk), .val (.int ((((0 : Int32) + (own_hit ba kk)) + (own_hit bb kk)) + (own_hit bc kk))), .val (.int (1 : Int32))]) rfl ?_
  show Steps p.tables e below (T8.setTop (mkF m 308 #[.val (.int p0), .val (.int p1), .val (.int p2), .val (.int p3), .val (.int p4), .val (.int p5), .val (.int (3 : Int32)), .val (.int ba), .val (.int bb), .val (.int bc), .val (.int bd), .val (.ref b1), .val (.ref cc), .val (.int kk), .val (.int ((((0 : Int32) + (own_hit ba kk)) + (own_hit bb kk)) + (own_hit bc kk))), .val (.int (1 : Int32))] [])) _
  refine XS.iload X8.here hx rfl (hb hby at_308) rfl ?_
  show Steps p.tables e below (T8.setTop (mkF m 310 #[.val (.int p0), .val (.int p1), .val (.int p2), .val (.int p3), .val (.int p4), .val (.int p5), .val (.int (3 : Int32)), .val (.int ba), .val (.int bb), .val (.int bc), .val (.int bd), .val (.ref b1), .val (.ref cc), .val (.int kk), .val (.int ((((0 : Int32) + (own_hit ba kk)) + (own_hit bb kk)) + (own_hit bc kk))), .val (.int (1 : Int32))] [(.int (3 : Int32))])) _
  refine XS.iconst X8.here hx rfl (hb hby at_310) ?_
  show Steps p.tables e below (T8.setTop (mkF m 311 #[.val (.int p0), .val (.int p1), .val (.int p2), .val (.int p3), .val (.int p4), .val (.int p5), .val (.int (3 : Int32)), .val (.int ba), .val (.int bb), .val (.int bc), .val (.int bd), .val (.ref b1), .val (.ref cc), .val (.int kk), .val (.int ((((0 : Int32) + (own_hit ba kk)) + (own_hit bb kk)) + (own_hit bc kk))), .val (.int (1 : Int32))] [(.int (2 : Int32)), (.int (3 : Int32))])) _
  refine XS.icmpNo X8.here hx rfl (hb hby at_311) rfl (tlt (by decide)).2.2.2 ?_
  show Steps p.tables e below (T8.setTop (mkF m 314 #[.val (.int p0), .val (.int p1), .val (.int p2), .val (.int p3), .val (.int p4), .val (.int p5), .val (.int (3 : Int32)), .val (.int ba), .val (.int bb), .val (.int bc), .val (.int bd), .val (.ref b1), .val (.ref cc), .val (.int kk), .val (.int ((((0 : Int32) + (own_hit ba kk)) + (own_hit bb kk)) + (own_hit bc kk))), .val (.int (1 : Int32))] [])) _
  refine XS.iload X8.here hx rfl (hb hby at_314) rfl ?_
  show Steps p.tables e below (T8.setTop (mkF m 316 #[.val (.int p0), .val (.int p1), .val (.int p2), .val (.int p3), .val (.int p4), .val (.int p5), .val (.int (3 : Int32)), .val (.int ba), .val (.int bb), .val (.int bc), .val (.int bd), .val (.ref b1), .val (.ref cc), .val (.int kk), .val (.int ((((0 : Int32) + (own_hit ba kk)) + (own_hit bb kk)) + (own_hit bc kk))), .val (.int (1 : Int32))] [(.int (1 : Int32))])) _
  refine XS.ifNo X8.here hx rfl (hb hby at_316) rfl ((if0 _ _).trans (feq (by decide)).1) ?_
  show Steps p.tables e below (T8.setTop (mkF m 319 #[.val (.int p0), .val (.int p1), .val (.int p2), .val (.int p3), .val (.int p4), .val (.int p5), .val (.int (3 : Int32)), .val (.int ba), .val (.int bb), .val (.int bc), .val (.int bd), .val (.ref b1), .val (.ref cc), .val (.int kk), .val (.int ((((0 : Int32) + (own_hit ba kk)) + (own_hit bb kk)) + (own_hit bc kk))), .val (.int (1 : Int32))] [])) _
  refine XS.aload X8.here hx rfl (hb hby at_319) rfl rfl ?_
  show Steps p.tables e below (T8.setTop (mkF m 321 #[.val (.int p0), .val (.int p1), .val (.int p2), .val (.int p3), .val (.int p4), .val (.int p5), .val (.int (3 : Int32)), .val (.int ba), .val (.int bb), .val (.int bc), .val (.int bd), .val (.ref b1), .val (.ref cc), .val (.int kk), .val (.int ((((0 : Int32) + (own_hit ba kk)) + (own_hit bb kk)) + (own_hit bc kk))), .val (.int (1 : Int32))] [(.ref b1)])) _
  refine XS.iconst X8.here hx rfl (hb hby at_321) ?_
  show Steps p.tables e below (T8.setTop (mkF m 322 #[.val (.int p0), .val (.int p1), .val (.int p2), .val (.int p3), .val (.int p4), .val (.int p5), .val (.int (3 : Int32)), .val (.int ba), .val (.int bb), .val (.int bc), .val (.int bd), .val (.ref b1), .val (.ref cc), .val (.int kk), .val (.int ((((0 : Int32) + (own_hit ba kk)) + (own_hit bb kk)) + (own_hit bc kk))), .val (.int (1 : Int32))] [(.int (2 : Int32)), (.ref b1)])) _
  refine own_ldB X8 hx hZ e8 AD5 (j := (2 : Int32)) ⟨by decide, by decide⟩ rfl rfl (hb hby at_322) ?_
  show Steps p.tables e below (T8.setTop (mkF m 323 #[.val (.int p0), .val (.int p1), .val (.int p2), .val (.int p3), .val (.int p4), .val (.int p5), .val (.int (3 : Int32)), .val (.int ba), .val (.int bb), .val (.int bc), .val (.int bd), .val (.ref b1), .val (.ref cc), .val (.int kk), .val (.int ((((0 : Int32) + (own_hit ba kk)) + (own_hit bb kk)) + (own_hit bc kk))), .val (.int (1 : Int32))] [(.int bc)])) _
  refine XS.iload X8.here hx rfl (hb hby at_323) rfl ?_
  show Steps p.tables e below (T8.setTop (mkF m 325 #[.val (.int p0), .val (.int p1), .val (.int p2), .val (.int p3), .val (.int p4), .val (.int p5), .val (.int (3 : Int32)), .val (.int ba), .val (.int bb), .val (.int bc), .val (.int bd), .val (.ref b1), .val (.ref cc), .val (.int kk), .val (.int ((((0 : Int32) + (own_hit ba kk)) + (own_hit bb kk)) + (own_hit bc kk))), .val (.int (1 : Int32))] [(.int bc), (.int bc)])) _
  refine XS.icmpNo X8.here hx rfl (hb hby at_325) rfl (teq (rfl : bc = bc)).2 ?_
  show Steps p.tables e below (T8.setTop (mkF m 328 #[.val (.int p0), .val (.int p1), .val (.int p2), .val (.int p3), .val (.int p4), .val (.int p5), .val (.int (3 : Int32)), .val (.int ba), .val (.int bb), .val (.int bc), .val (.int bd), .val (.ref b1), .val (.ref cc), .val (.int kk), .val (.int ((((0 : Int32) + (own_hit ba kk)) + (own_hit bb kk)) + (own_hit bc kk))), .val (.int (1 : Int32))] [])) _
  refine XS.iconst X8.here hx rfl (hb hby at_328) ?_
  show Steps p.tables e below (T8.setTop (mkF m 329 #[.val (.int p0), .val (.int p1), .val (.int p2), .val (.int p3), .val (.int p4), .val (.int p5), .val (.int (3 : Int32)), .val (.int ba), .val (.int bb), .val (.int bc), .val (.int bd), .val (.ref b1), .val (.ref cc), .val (.int kk), .val (.int ((((0 : Int32) + (own_hit ba kk)) + (own_hit bb kk)) + (own_hit bc kk))), .val (.int (1 : Int32))] [(.int (1 : Int32))])) _
  refine XS.goto X8.here hx rfl (pc0 := 329) (pc' := 333) rfl (hb hby at_329) (by decide) (by decide) ?_
  show Steps p.tables e below (T8.setTop (mkF m 333 #[.val (.int p0), .val (.int p1), .val (.int p2), .val (.int p3), .val (.int p4), .val (.int p5), .val (.int (3 : Int32)), .val (.int ba), .val (.int bb), .val (.int bc), .val (.int bd), .val (.ref b1), .val (.ref cc), .val (.int kk), .val (.int ((((0 : Int32) + (own_hit ba kk)) + (own_hit bb kk)) + (own_hit bc kk))), .val (.int (1 : Int32))] [(.int (1 : Int32))])) _
  refine XS.istore X8.here hx rfl (hb hby at_333) rfl (l' := #[.val (.int p0), .val (.int p1), .val (.int p2), .val (.int p3), .val (.int p4), .val (.int p5), .val (.int (3 : Int32)), .val (.int ba), .val (.int bb), .val (.int bc), .val (.int bd), .val (.ref b1), .val (.ref cc), .val (.int kk), .val (.int ((((0 : Int32) + (own_hit ba kk)) + (own_hit bb kk)) + (own_hit bc kk))), .val (.int (1 : Int32))]) rfl ?_
  show Steps p.tables e below (T8.setTop (mkF m 335 #[.val (.int p0), .val (.int p1), .val (.int p2), .val (.int p3), .val (.int p4), .val (.int p5), .val (.int (3 : Int32)), .val (.int ba), .val (.int bb), .val (.int bc), .val (.int bd), .val (.ref b1), .val (.ref cc), .val (.int kk), .val (.int ((((0 : Int32) + (own_hit ba kk)) + (own_hit bb kk)) + (own_hit bc kk))), .val (.int (1 : Int32))] [])) _
  refine XS.iload X8.here hx rfl (hb hby at_335) rfl ?_
  show Steps p.tables e below (T8.setTop (mkF m 337 #[.val (.int p0), .val (.int p1), .val (.int p2), .val (.int p3), .val (.int p4), .val (.int p5), .val (.int (3 : Int32)), .val (.int ba), .val (.int bb), .val (.int bc), .val (.int bd), .val (.ref b1), .val (.ref cc), .val (.int kk), .val (.int ((((0 : Int32) + (own_hit ba kk)) + (own_hit bb kk)) + (own_hit bc kk))), .val (.int (1 : Int32))] [(.int (3 : Int32))])) _
  refine XS.iconst X8.here hx rfl (hb hby at_337) ?_
  show Steps p.tables e below (T8.setTop (mkF m 338 #[.val (.int p0), .val (.int p1), .val (.int p2), .val (.int p3), .val (.int p4), .val (.int p5), .val (.int (3 : Int32)), .val (.int ba), .val (.int bb), .val (.int bc), .val (.int bd), .val (.ref b1), .val (.ref cc), .val (.int kk), .val (.int ((((0 : Int32) + (own_hit ba kk)) + (own_hit bb kk)) + (own_hit bc kk))), .val (.int (1 : Int32))] [(.int (3 : Int32)), (.int (3 : Int32))])) _
  refine XS.icmpYes X8.here hx rfl (pc0 := 338) (pc' := 362) rfl (hb hby at_338) rfl (flt (Int32.lt_irrefl)).2.2.2 (by decide) (by decide) ?_
  show Steps p.tables e below (T8.setTop (mkF m 362 #[.val (.int p0), .val (.int p1), .val (.int p2), .val (.int p3), .val (.int p4), .val (.int p5), .val (.int (3 : Int32)), .val (.int ba), .val (.int bb), .val (.int bc), .val (.int bd), .val (.ref b1), .val (.ref cc), .val (.int kk), .val (.int ((((0 : Int32) + (own_hit ba kk)) + (own_hit bb kk)) + (own_hit bc kk))), .val (.int (1 : Int32))] [])) _
  refine XS.iload X8.here hx rfl (hb hby at_362) rfl ?_
  show Steps p.tables e below (T8.setTop (mkF m 364 #[.val (.int p0), .val (.int p1), .val (.int p2), .val (.int p3), .val (.int p4), .val (.int p5), .val (.int (3 : Int32)), .val (.int ba), .val (.int bb), .val (.int bc), .val (.int bd), .val (.ref b1), .val (.ref cc), .val (.int kk), .val (.int ((((0 : Int32) + (own_hit ba kk)) + (own_hit bb kk)) + (own_hit bc kk))), .val (.int (1 : Int32))] [(.int (1 : Int32))])) _
  refine XS.ifNo X8.here hx rfl (hb hby at_364) rfl ((if0 _ _).trans (feq (by decide)).1) ?_
  show Steps p.tables e below (T8.setTop (mkF m 367 #[.val (.int p0), .val (.int p1), .val (.int p2), .val (.int p3), .val (.int p4), .val (.int p5), .val (.int (3 : Int32)), .val (.int ba), .val (.int bb), .val (.int bc), .val (.int bd), .val (.ref b1), .val (.ref cc), .val (.int kk), .val (.int ((((0 : Int32) + (own_hit ba kk)) + (own_hit bb kk)) + (own_hit bc kk))), .val (.int (1 : Int32))] [])) _
  refine XS.aload X8.here hx rfl (hb hby at_367) rfl rfl ?_
  show Steps p.tables e below (T8.setTop (mkF m 369 #[.val (.int p0), .val (.int p1), .val (.int p2), .val (.int p3), .val (.int p4), .val (.int p5), .val (.int (3 : Int32)), .val (.int ba), .val (.int bb), .val (.int bc), .val (.int bd), .val (.ref b1), .val (.ref cc), .val (.int kk), .val (.int ((((0 : Int32) + (own_hit ba kk)) + (own_hit bb kk)) + (own_hit bc kk))), .val (.int (1 : Int32))] [(.ref cc)])) _
  refine XS.iload X8.here hx rfl (hb hby at_369) rfl ?_
  show Steps p.tables e below (T8.setTop (mkF m 371 #[.val (.int p0), .val (.int p1), .val (.int p2), .val (.int p3), .val (.int p4), .val (.int p5), .val (.int (3 : Int32)), .val (.int ba), .val (.int bb), .val (.int bc), .val (.int bd), .val (.ref b1), .val (.ref cc), .val (.int kk), .val (.int ((((0 : Int32) + (own_hit ba kk)) + (own_hit bb kk)) + (own_hit bc kk))), .val (.int (1 : Int32))] [(.int kk), (.ref cc)])) _
  refine own_ldI X8 hx hZ e8 AC5 (j := kk) hk0 rfl rfl (hb hby at_371) ?_
  show Steps p.tables e below (T8.setTop (mkF m 372 #[.val (.int p0), .val (.int p1), .val (.int p2), .val (.int p3), .val (.int p4), .val (.int p5), .val (.int (3 : Int32)), .val (.int ba), .val (.int bb), .val (.int bc), .val (.int bd), .val (.ref b1), .val (.ref cc), .val (.int kk), .val (.int ((((0 : Int32) + (own_hit ba kk)) + (own_hit bb kk)) + (own_hit bc kk))), .val (.int (1 : Int32))] [(.int ((own_inc (own_inc (own_inc (fun _ => 0) ba) bb) bc) (kk).toNatClampNeg))])) _
  refine XS.iload X8.here hx rfl (hb hby at_372) rfl ?_
  show Steps p.tables e below (T8.setTop (mkF m 374 #[.val (.int p0), .val (.int p1), .val (.int p2), .val (.int p3), .val (.int p4), .val (.int p5), .val (.int (3 : Int32)), .val (.int ba), .val (.int bb), .val (.int bc), .val (.int bd), .val (.ref b1), .val (.ref cc), .val (.int kk), .val (.int ((((0 : Int32) + (own_hit ba kk)) + (own_hit bb kk)) + (own_hit bc kk))), .val (.int (1 : Int32))] [(.int ((((0 : Int32) + (own_hit ba kk)) + (own_hit bb kk)) + (own_hit bc kk))), (.int ((own_inc (own_inc (own_inc (fun _ => 0) ba) bb) bc) (kk).toNatClampNeg))])) _
  refine XS.icmpNo X8.here hx rfl (hb hby at_374) rfl (teq hfin).2 ?_
  show Steps p.tables e below (T8.setTop (mkF m 377 #[.val (.int p0), .val (.int p1), .val (.int p2), .val (.int p3), .val (.int p4), .val (.int p5), .val (.int (3 : Int32)), .val (.int ba), .val (.int bb), .val (.int bc), .val (.int bd), .val (.ref b1), .val (.ref cc), .val (.int kk), .val (.int ((((0 : Int32) + (own_hit ba kk)) + (own_hit bb kk)) + (own_hit bc kk))), .val (.int (1 : Int32))] [])) _
  refine XS.iconst X8.here hx rfl (hb hby at_377) ?_
  show Steps p.tables e below (T8.setTop (mkF m 378 #[.val (.int p0), .val (.int p1), .val (.int p2), .val (.int p3), .val (.int p4), .val (.int p5), .val (.int (3 : Int32)), .val (.int ba), .val (.int bb), .val (.int bc), .val (.int bd), .val (.ref b1), .val (.ref cc), .val (.int kk), .val (.int ((((0 : Int32) + (own_hit ba kk)) + (own_hit bb kk)) + (own_hit bc kk))), .val (.int (1 : Int32))] [(.int (1 : Int32))])) _
  refine XS.goto X8.here hx rfl (pc0 := 378) (pc' := 382) rfl (hb hby at_378) (by decide) (by decide) ?_
  show Steps p.tables e below (T8.setTop (mkF m 382 #[.val (.int p0), .val (.int p1), .val (.int p2), .val (.int p3), .val (.int p4), .val (.int p5), .val (.int (3 : Int32)), .val (.int ba), .val (.int bb), .val (.int bc), .val (.int bd), .val (.ref b1), .val (.ref cc), .val (.int kk), .val (.int ((((0 : Int32) + (own_hit ba kk)) + (own_hit bb kk)) + (own_hit bc kk))), .val (.int (1 : Int32))] [(.int (1 : Int32))])) _
  exact retN X8 hx (t := .boolean) Bd.returns (by simp) (hb hby at_382) hr
def Q0_4 (Z : State) (p0 : Int32) (p1 : Int32) (p2 : Int32) (p3 : Int32) (p4 : Int32) (p5 : Int32) (h0 : Heap) (n0 : Nat) (v : Option Value) (h : Heap) (L : List Loc) : Prop := v = some (.int (1 : Int32)) ∧ Fr n0 L
set_option maxRecDepth 65536 in
set_option maxHeartbeats 40000000 in
theorem rm0_4 (l : Launch) (Z : State) (a0 : Array Value) (hw : ∀ d ∈ tables_1, d.before a0 Z = true) (ws : List Jvm.Cond) (p0 : Int32) (p1 : Int32) (p2 : Int32) (p3 : Int32) (p4 : Int32) (p5 : Int32) (h0 : Heap) (n0 : Nat) (Z0 : n0 ≤ h0.size) (hn : ((p0 &&& (2147483647 : Int32)) % (5 : Int32)) = (4 : Int32)) :
    MetFree l x (head1 (Jvm.Cond.code x code maxLocals ret :: ws) room_1) (fun a_ U_ => a_ = #[(.int p0), (.int p1), (.int p2), (.int p3), (.int p4), (.int p5)] ∧ Z.Warmed39 U_.vm ∧ U_.heap = h0) (fun _ _ _ _ _ => True) (fun _ U_ o_ U' => ∃ v_ L_, o_ = .returned v_ ∧ (Q0_4 Z p0 p1 p2 p3 p4 p5 h0 n0 v_ U'.heap L_) ∧ FrameEnd U_ o_ U' L_ room_1.cells room_1.slots) := by
  refine MetFree.of_bodySF (plainFor_of_name pn_0) hisR ?_
  intro p e s m args below meth c s₁ Bd hml0 hP hK
  obtain ⟨rfl, hZ, hh⟩ := hP
  have hx := Bd.exec
  have hby := Bd.bytes
  have hml : c.maxLocals = 16 := hml0
  have hown : s.vm.findClass "com/example/fewbits/fewbits/HuffmanCodeCountBytesPinLaw" = some m.cls := findClass_of_methodNamed Bd.named
  have hnm := (name_of_methodNamed Bd.named Bd.method).1
  have X0 : Stand p l e room_1 s m #[(.int p0), (.int p1), (.int p2), (.int p3), (.int p4), (.int p5)] below meth c s₁ [] 0 0 := Stand.of_body Bd
  have e0 : s₁.heap = h0 := by rw [← hh, Bd.state]; rfl
  have N0 := Fr.nil n0
  have pre0 : ∀ t, Steps p.tables e below (s₁.setTop (mkF m 0 #[.val (.int p0), .val (.int p1), .val (.int p2), .val (.int p3), .val (.int p4), .val (.int p5), .unset, .unset, .unset, .unset, .unset, .unset, .unset, .unset, .unset, .unset] [])) t → Steps p.tables e below (s₁.setTop (entryFrame m #[(.int p0), (.int p1), (.int p2), (.int p3), (.int p4), (.int p5)] maxLocals)) t := fun t k => castTop (ef_0 m p0 p1 p2 p3 p4 p5) k
  obtain ⟨ba, h_ba⟩ : ∃ z, (p2.toInt8.toInt32) = z := ⟨_, rfl⟩
  have h8_ba : ba.toInt8.toInt32 = ba := by rw [← h_ba]; exact own_bb _
  obtain ⟨bb, h_bb⟩ : ∃ z, (p3.toInt8.toInt32) = z := ⟨_, rfl⟩
  have h8_bb : bb.toInt8.toInt32 = bb := by rw [← h_bb]; exact own_bb _
  obtain ⟨bc, h_bc⟩ : ∃ z, (p4.toInt8.toInt32) = z := ⟨_, rfl⟩
  have h8_bc : bc.toInt8.toInt32 = bc := by rw [← h_bc]; exact own_bb _
  obtain ⟨bd, h_bd⟩ : ∃ z, (p5.toInt8.toInt32) = z := ⟨_, rfl⟩
  have h8_bd : bd.toInt8.toInt32 = bd := by rw [← h_bd]; exact own_bb _
  obtain ⟨T1, h1, X1, e1, E1, A1, st1⟩ := own_newI X0 hx hZ (hw _ (List.mem_of_getElem? (i := 1) rfl)) rfl e0 (g := (mkF m 112 #[.val (.int p0), .val (.int p1), .val (.int p2), .val (.int p3), .val (.int p4), .val (.int p5), .val (.int (4 : Int32)), .val (.int ba), .val (.int bb), .val (.int bc), .val (.int bd), .unset, .unset, .unset, .unset, .unset] [(.int (4 : Int32))])) rfl (hb hby at_112) rfl (by decide) (cap := 4) (by decide) (by decide) (by decide) (by decide)
  obtain ⟨b1, g1⟩ : ∃ z, z = h0.size := ⟨_, rfl⟩
  rw [← g1] at A1 st1
  have f_b1 : n0 ≤ b1 := Nat.le_trans Z0 (Nat.le_of_eq g1.symm)
  have s_b1 : h0.size ≤ b1 := Nat.le_trans (Keep.refl h0 []).1 (Nat.le_of_eq g1.symm)
  have K1 : Keep h0 h1 [] := (Keep.refl h0 []).ext E1
  have Z1 : n0 ≤ h1.size := Nat.le_trans Z0 E1.1
  obtain ⟨T2, h2, X2, e2, W2, A2, st2⟩ := own_stB X1 hx hZ e1 A1 (j := (0 : Int32)) ⟨by decide, by decide⟩ (g := (mkF m 118 #[.val (.int p0), .val (.int p1), .val (.int p2), .val (.int p3), .val (.int p4), .val (.int p5), .val (.int (4 : Int32)), .val (.int ba), .val (.int bb), .val (.int bc), .val (.int bd), .unset, .unset, .unset, .unset, .unset] [(.int ba), (.int (0 : Int32)), (.ref b1), (.ref b1)])) rfl rfl (hb hby at_118)
  have N2 := Fr.snoc X2 N0 f_b1
  have K2 : Keep h0 h2 [] := K1.wr W2 (Or.inr s_b1)
  rw [h8_ba] at A2
  have Z2 : n0 ≤ h2.size := Nat.le_trans Z1 (Nat.le_of_eq (W2.size).symm)
  obtain ⟨T3, h3, X3, e3, W3, A3, st3⟩ := own_stB X2 hx hZ e2 A2 (j := (1 : Int32)) ⟨by decide, by decide⟩ (g := (mkF m 123 #[.val (.int p0), .val (.int p1), .val (.int p2), .val (.int p3), .val (.int p4), .val (.int p5), .val (.int (4 : Int32)), .val (.int ba), .val (.int bb), .val (.int bc), .val (.int bd), .unset, .unset, .unset, .unset, .unset] [(.int bb), (.int (1 : Int32)), (.ref b1), (.ref b1)])) rfl rfl (hb hby at_123)
  have N3 := Fr.snoc X3 N2 f_b1
  have K3 : Keep h0 h3 [] := K2.wr W3 (Or.inr s_b1)
  rw [h8_bb] at A3
  have Z3 : n0 ≤ h3.size := Nat.le_trans Z2 (Nat.le_of_eq (W3.size).symm)
  obtain ⟨T4, h4, X4, e4, W4, A4, st4⟩ := own_stB X3 hx hZ e3 A3 (j := (2 : Int32)) ⟨by decide, by decide⟩ (g := (mkF m 128 #[.val (.int p0), .val (.int p1), .val (.int p2), .val (.int p3), .val (.int p4), .val (.int p5), .val (.int (4 : Int32)), .val (.int ba), .val (.int bb), .val (.int bc), .val (.int bd), .unset, .unset, .unset, .unset, .unset] [(.int bc), (.int (2 : Int32)), (.ref b1), (.ref b1)])) rfl rfl (hb hby at_128)
  have N4 := Fr.snoc X4 N3 f_b1
  have K4 : Keep h0 h4 [] := K3.wr W4 (Or.inr s_b1)
  rw [h8_bc] at A4
  have Z4 : n0 ≤ h4.size := Nat.le_trans Z3 (Nat.le_of_eq (W4.size).symm)
  obtain ⟨T5, h5, X5, e5, W5, A5, st5⟩ := own_stB X4 hx hZ e4 A4 (j := (3 : Int32)) ⟨by decide, by decide⟩ (g := (mkF m 133 #[.val (.int p0), .val (.int p1), .val (.int p2), .val (.int p3), .val (.int p4), .val (.int p5), .val (.int (4 : Int32)), .val (.int ba), .val (.int bb), .val (.int bc), .val (.int bd), .unset, .unset, .unset, .unset, .unset] [(.int bd), (.int (3 : Int32)), (.ref b1), (.ref b1)])) rfl rfl (hb hby at_133)
  have N5 := Fr.snoc X5 N4 f_b1
  have K5 : Keep h0 h5 [] := K4.wr W5 (Or.inr s_b1)
  rw [h8_bd] at A5
  have Z5 : n0 ≤ h5.size := Nat.le_trans Z4 (Nat.le_of_eq (W5.size).symm)
  obtain ⟨_, _, ⟨T6, L6, k6, n6⟩, -, X6, ⟨Lc6, hQ6, l6, y6, z6⟩, st6⟩ := Jvm.LawKit.callS X5 hx (y := (⟨"com/example/fewbits/fewbits/HuffmanCode", "countBytes", "([B)[I"⟩ : MethodName)) hown (mvT hZ (hw _ (List.mem_of_getElem? (i := 2) rfl))) (mvT hZ (hw _ (List.mem_of_getElem? (i := 3) rfl))) (mvT hZ (hw _ (List.mem_of_getElem? (i := 4) rfl))) (mvT hZ (hw _ (List.mem_of_getElem? (i := 5) rfl))) (by decide) (backOf (W := 0) (rm1_4 l Z a0 hw [] b1 _ ba bb bc bd h5 n0 Z5 A5 rfl rfl rfl rfl) hZ (hw _ (List.mem_of_getElem? (i := 5) rfl)) (hw _ (List.mem_of_getElem? (i := 4) rfl)) (by decide) (by decide)) (g := (mkF m 138 #[.val (.int p0), .val (.int p1), .val (.int p2), .val (.int p3), .val (.int p4), .val (.int p5), .val (.int (4 : Int32)), .val (.int ba), .val (.int bb), .val (.int bc), .val (.int bd), .val (.ref b1), .unset, .unset, .unset, .unset] [(.ref b1)])) rfl (by rw [hml]; rfl) (argsL := [(.ref b1)]) (rest := []) (lenOf pd_0 rfl) rfl (by show 2 * 0 + _ ≤ _; exact Nat.le_of_eq rfl) (hb hby at_138) (fun _ _ => ⟨rfl, e5, (by decide : 1 + 1 ≤ _), (by decide : 4 + 256 ≤ _)⟩)
  dsimp only [Pt.U, Pt.locs, Pt.cells, Pt.slots] at X6 l6 y6 z6 st6 hQ6
  subst l6 y6 z6
  obtain ⟨⟨cc, rfl, sc6, AC6⟩, Nq6, Kq6⟩ := hQ6
  have N6 := Fr.app N5 Nq6
  have Z6 : n0 ≤ T6.heap.size := Nat.le_trans Z5 Kq6.1
  have AD6 := A5.keep Kq6 nin0
  obtain ⟨kk, h_kk⟩ : ∃ z, (p1 &&& (255 : Int32)) = z := ⟨_, rfl⟩
  obtain ⟨_, _, ⟨T7, L7, k7, n7⟩, -, X7, ⟨Lc7, hQ7, l7, y7, z7⟩, st7⟩ := Jvm.LawKit.callS X6 hx (y := (⟨"com/example/fewbits/fewbits/HuffmanCodeCountBytesPinLaw", "hit", "(BI)I"⟩ : MethodName)) hown (mvT hZ (hw _ (List.mem_of_getElem? (i := 7) rfl))) (mvT hZ (hw _ (List.mem_of_getElem? (i := 8) rfl))) (mvT hZ (hw _ (List.mem_of_getElem? (i := 9) rfl))) (mvT hZ (hw _ (List.mem_of_getElem? (i := 10) rfl))) (by decide) (backOf (W := 1) (rm2 l Z a0 hw [] ba kk  T6.heap n0 Z6 ) hZ (hw _ (List.mem_of_getElem? (i := 10) rfl)) (hw _ (List.mem_of_getElem? (i := 9) rfl)) (by decide) (by decide)) (g := (mkF m 180 #[.val (.int p0), .val (.int p1), .val (.int p2), .val (.int p3), .val (.int p4), .val (.int p5), .val (.int (4 : Int32)), .val (.int ba), .val (.int bb), .val (.int bc), .val (.int bd), .val (.ref b1), .val (.ref cc), .val (.int kk), .val (.int (0 : Int32)), .unset] [(.int kk), (.int ba), (.int (0 : Int32))])) rfl (by rw [hml]; rfl) (argsL := [(.int ba), (.int kk)]) (rest := [(.int (0 : Int32))]) (lenOf pd_1 rfl) rfl (by show 2 * 0 + _ ≤ _; exact Nat.le_of_eq rfl) (hb hby at_180) (fun _ _ => ⟨rfl, rfl, (by decide : 2 + 0 ≤ _), (by decide : 260 + 0 ≤ _)⟩)
  dsimp only [Pt.U, Pt.locs, Pt.cells, Pt.slots] at X7 l7 y7 z7 st7 hQ7
  subst l7 y7 z7
  obtain ⟨rfl, Nq7, e7⟩ := hQ7
  have N7 := Fr.app N6 Nq7
  obtain ⟨_, _, ⟨T8, L8, k8, n8⟩, -, X8, ⟨Lc8, hQ8, l8, y8, z8⟩, st8⟩ := Jvm.LawKit.callS X7 hx (y := (⟨"com/example/fewbits/fewbits/HuffmanCodeCountBytesPinLaw", "hit", "(BI)I"⟩ : MethodName)) hown (mvT hZ (hw _ (List.mem_of_getElem? (i := 7) rfl))) (mvT hZ (hw _ (List.mem_of_getElem? (i := 8) rfl))) (mvT hZ (hw _ (List.mem_of_getElem? (i := 9) rfl))) (mvT hZ (hw _ (List.mem_of_getElem? (i := 10) rfl))) (by decide) (backOf (W := 1) (rm2 l Z a0 hw [] bb kk  T6.heap n0 Z6 ) hZ (hw _ (List.mem_of_getElem? (i := 10) rfl)) (hw _ (List.mem_of_getElem? (i := 9) rfl)) (by decide) (by decide)) (g := (mkF m 198 #[.val (.int p0), .val (.int p1), .val (.int p2), .val (.int p3), .val (.int p4), .val (.int p5), .val (.int (4 : Int32)), .val (.int ba), .val (.int bb), .val (.int bc), .val (.int bd), .val (.ref b1), .val (.ref cc), .val (.int kk), .val (.int ((0 : Int32) + (own_hit ba kk))), .unset] [(.int kk), (.int bb), (.int ((0 : Int32) + (own_hit ba kk)))])) rfl (by rw [hml]; rfl) (argsL := [(.int bb), (.int kk)]) (rest := [(.int ((0 : Int32) + (own_hit ba kk)))]) (lenOf pd_1 rfl) rfl (by show 2 * 0 + _ ≤ _; exact Nat.le_of_eq rfl) (hb hby at_198) (fun _ _ => ⟨rfl, e7, (by decide : 2 + 0 ≤ _), (by decide : 260 + 0 ≤ _)⟩)
  dsimp only [Pt.U, Pt.locs, Pt.cells, Pt.slots] at X8 l8 y8 z8 st8 hQ8
  subst l8 y8 z8
  obtain ⟨rfl, Nq8, e8⟩ := hQ8
  have N8 := Fr.app N7 Nq8
  obtain ⟨_, _, ⟨T9, L9, k9, n9⟩, -, X9, ⟨Lc9, hQ9, l9, y9, z9⟩, st9⟩ := Jvm.LawKit.callS X8 hx (y := (⟨"com/example/fewbits/fewbits/HuffmanCodeCountBytesPinLaw", "hit", "(BI)I"⟩ : MethodName)) hown (mvT hZ (hw _ (List.mem_of_getElem? (i := 7) rfl))) (mvT hZ (hw _ (List.mem_of_getElem? (i := 8) rfl))) (mvT hZ (hw _ (List.mem_of_getElem? (i := 9) rfl))) (mvT hZ (hw _ (List.mem_of_getElem? (i := 10) rfl))) (by decide) (backOf (W := 1) (rm2 l Z a0 hw [] bc kk  T6.heap n0 Z6 ) hZ (hw _ (List.mem_of_getElem? (i := 10) rfl)) (hw _ (List.mem_of_getElem? (i := 9) rfl)) (by decide) (by decide)) (g := (mkF m 216 #[.val (.int p0), .val (.int p1), .val (.int p2), .val (.int p3), .val (.int p4), .val (.int p5), .val (.int (4 : Int32)), .val (.int ba), .val (.int bb), .val (.int bc), .val (.int bd), .val (.ref b1), .val (.ref cc), .val (.int kk), .val (.int (((0 : Int32) + (own_hit ba kk)) + (own_hit bb kk))), .unset] [(.int kk), (.int bc), (.int (((0 : Int32) + (own_hit ba kk)) + (own_hit bb kk)))])) rfl (by rw [hml]; rfl) (argsL := [(.int bc), (.int kk)]) (rest := [(.int (((0 : Int32) + (own_hit ba kk)) + (own_hit bb kk)))]) (lenOf pd_1 rfl) rfl (by show 2 * 0 + _ ≤ _; exact Nat.le_of_eq rfl) (hb hby at_216) (fun _ _ => ⟨rfl, e8, (by decide : 2 + 0 ≤ _), (by decide : 260 + 0 ≤ _)⟩)
  dsimp only [Pt.U, Pt.locs, Pt.cells, Pt.slots] at X9 l9 y9 z9 st9 hQ9
  subst l9 y9 z9
  obtain ⟨rfl, Nq9, e9⟩ := hQ9
  have N9 := Fr.app N8 Nq9
  obtain ⟨_, _, ⟨T10, L10, k10, n10⟩, -, X10, ⟨Lc10, hQ10, l10, y10, z10⟩, st10⟩ := Jvm.LawKit.callS X9 hx (y := (⟨"com/example/fewbits/fewbits/HuffmanCodeCountBytesPinLaw", "hit", "(BI)I"⟩ : MethodName)) hown (mvT hZ (hw _ (List.mem_of_getElem? (i := 7) rfl))) (mvT hZ (hw _ (List.mem_of_getElem? (i := 8) rfl))) (mvT hZ (hw _ (List.mem_of_getElem? (i := 9) rfl))) (mvT hZ (hw _ (List.mem_of_getElem? (i := 10) rfl))) (by decide) (backOf (W := 1) (rm2 l Z a0 hw [] bd kk  T6.heap n0 Z6 ) hZ (hw _ (List.mem_of_getElem? (i := 10) rfl)) (hw _ (List.mem_of_getElem? (i := 9) rfl)) (by decide) (by decide)) (g := (mkF m 234 #[.val (.int p0), .val (.int p1), .val (.int p2), .val (.int p3), .val (.int p4), .val (.int p5), .val (.int (4 : Int32)), .val (.int ba), .val (.int bb), .val (.int bc), .val (.int bd), .val (.ref b1), .val (.ref cc), .val (.int kk), .val (.int ((((0 : Int32) + (own_hit ba kk)) + (own_hit bb kk)) + (own_hit bc kk))), .unset] [(.int kk), (.int bd), (.int ((((0 : Int32) + (own_hit ba kk)) + (own_hit bb kk)) + (own_hit bc kk)))])) rfl (by rw [hml]; rfl) (argsL := [(.int bd), (.int kk)]) (rest := [(.int ((((0 : Int32) + (own_hit ba kk)) + (own_hit bb kk)) + (own_hit bc kk)))]) (lenOf pd_1 rfl) rfl (by show 2 * 0 + _ ≤ _; exact Nat.le_of_eq rfl) (hb hby at_234) (fun _ _ => ⟨rfl, e9, (by decide : 2 + 0 ≤ _), (by decide : 260 + 0 ≤ _)⟩)
  dsimp only [Pt.U, Pt.locs, Pt.cells, Pt.slots] at X10 l10 y10 z10 st10 hQ10
  subst l10 y10 z10
  obtain ⟨rfl, Nq10, e10⟩ := hQ10
  have N10 := Fr.app N9 Nq10
  have hk0 : ¬ kk < 0 ∧ kk < (256 : Int32) := by rw [← h_kk]; exact own_255 _
  have hfin : ((own_inc (own_inc (own_inc (own_inc (fun _ => 0) ba) bb) bc) bd) (kk).toNatClampNeg) = (((((0 : Int32) + (own_hit ba kk)) + (own_hit bb kk)) + (own_hit bc kk)) + (own_hit bd kk)) := by
    rw [own_inc_at _ _ hk0.1, own_inc_at _ _ hk0.1, own_inc_at _ _ hk0.1, own_inc_at _ _ hk0.1]
  obtain ⟨fs, hr, hrun, hended, hW, hsame⟩ := X10.leave (v := some (.int (1 : Int32))) (fun h => by rw [Bd.returns] at h; cases h)
  refine ⟨_, _, pre0 _ ?_, hrun, hended, _, _, rfl, ⟨rfl, N10⟩, ⟨_, rfl⟩, hW, hsame.mono (by decide) (by decide)⟩
  show Steps p.tables e below (s₁.setTop (mkF m 0 #[.val (.int p0), .val (.int p1), .val (.int p2), .val (.int p3), .val (.int p4), .val (.int p5), .unset, .unset, .unset, .unset, .unset, .unset, .unset, .unset, .unset, .unset] [])) _
  refine XS.iloadN X0.here hx rfl (hb hby at_0) rfl ?_
  show Steps p.tables e below (s₁.setTop (mkF m 1 #[.val (.int p0), .val (.int p1), .val (.int p2), .val (.int p3), .val (.int p4), .val (.int p5), .unset, .unset, .unset, .unset, .unset, .unset, .unset, .unset, .unset, .unset] [(.int p0)])) _
  refine X0.ldcI hx hown (mvT hZ (hw _ (List.mem_of_getElem? (i := 0) rfl))) rfl (hb hby at_1) ?_
  show Steps p.tables e below (s₁.setTop (mkF m 3 #[.val (.int p0), .val (.int p1), .val (.int p2), .val (.int p3), .val (.int p4), .val (.int p5), .unset, .unset, .unset, .unset, .unset, .unset, .unset, .unset, .unset, .unset] [(.int (2147483647 : Int32)), (.int p0)])) _
  refine XS.iand X0.here hx rfl (hb hby at_3) rfl ?_
  show Steps p.tables e below (s₁.setTop (mkF m 4 #[.val (.int p0), .val (.int p1), .val (.int p2), .val (.int p3), .val (.int p4), .val (.int p5), .unset, .unset, .unset, .unset, .unset, .unset, .unset, .unset, .unset, .unset] [(.int (p0 &&& (2147483647 : Int32)))])) _
  refine XS.iconst X0.here hx rfl (hb hby at_4) ?_
  show Steps p.tables e below (s₁.setTop (mkF m 5 #[.val (.int p0), .val (.int p1), .val (.int p2), .val (.int p3), .val (.int p4), .val (.int p5), .unset, .unset, .unset, .unset, .unset, .unset, .unset, .unset, .unset, .unset] [(.int (5 : Int32)), (.int (p0 &&& (2147483647 : Int32)))])) _
  refine iremM X0 hx rfl (hb hby at_5) rfl (by decide) ?_
  show Steps p.tables e below (s₁.setTop (mkF m 6 #[.val (.int p0), .val (.int p1), .val (.int p2), .val (.int p3), .val (.int p4), .val (.int p5), .unset, .unset, .unset, .unset, .unset, .unset, .unset, .unset, .unset, .unset] [(.int ((p0 &&& (2147483647 : Int32)) % (5 : Int32)))])) _
  refine XS.istore X0.here hx rfl (hb hby at_6) rfl (l' := #[.val (.int p0), .val (.int p1), .val (.int p2), .val (.int p3), .val (.int p4), .val (.int p5), .val (.int ((p0 &&& (2147483647 : Int32)) % (5 : Int32))), .unset, .unset, .unset, .unset, .unset, .unset, .unset, .unset, .unset]) rfl ?_
  show Steps p.tables e below (s₁.setTop (mkF m 8 #[.val (.int p0), .val (.int p1), .val (.int p2), .val (.int p3), .val (.int p4), .val (.int p5), .val (.int ((p0 &&& (2147483647 : Int32)) % (5 : Int32))), .unset, .unset, .unset, .unset, .unset, .unset, .unset, .unset, .unset] [])) _
  rw [hn]
  show Steps p.tables e below (s₁.setTop (mkF m 8 #[.val (.int p0), .val (.int p1), .val (.int p2), .val (.int p3), .val (.int p4), .val (.int p5), .val (.int (4 : Int32)), .unset, .unset, .unset, .unset, .unset, .unset, .unset, .unset, .unset] [])) _
  refine XS.iloadN X0.here hx rfl (hb hby at_8) rfl ?_
  show Steps p.tables e below (s₁.setTop (mkF m 9 #[.val (.int p0), .val (.int p1), .val (.int p2), .val (.int p3), .val (.int p4), .val (.int p5), .val (.int (4 : Int32)), .unset, .unset, .unset, .unset, .unset, .unset, .unset, .unset, .unset] [(.int p2)])) _
  refine XS.i2b X0.here hx rfl (hb hby at_9) rfl ?_
  show Steps p.tables e below (s₁.setTop (mkF m 10 #[.val (.int p0), .val (.int p1), .val (.int p2), .val (.int p3), .val (.int p4), .val (.int p5), .val (.int (4 : Int32)), .unset, .unset, .unset, .unset, .unset, .unset, .unset, .unset, .unset] [(.int (p2.toInt8.toInt32))])) _
  refine XS.istore X0.here hx rfl (hb hby at_10) rfl (l' := #[.val (.int p0), .val (.int p1), .val (.int p2), .val (.int p3), .val (.int p4), .val (.int p5), .val (.int (4 : Int32)), .val (.int (p2.toInt8.toInt32)), .unset, .unset, .unset, .unset, .unset, .unset, .unset, .unset]) rfl ?_
  show Steps p.tables e below (s₁.setTop (mkF m 12 #[.val (.int p0), .val (.int p1), .val (.int p2), .val (.int p3), .val (.int p4), .val (.int p5), .val (.int (4 : Int32)), .val (.int (p2.toInt8.toInt32)), .unset, .unset, .unset, .unset, .unset, .unset, .unset, .unset] [])) _
  rw [h_ba]
  show Steps p.tables e below (s₁.setTop (mkF m 12 #[.val (.int p0), .val (.int p1), .val (.int p2), .val (.int p3), .val (.int p4), .val (.int p5), .val (.int (4 : Int32)), .val (.int ba), .unset, .unset, .unset, .unset, .unset, .unset, .unset, .unset] [])) _
  refine XS.iloadN X0.here hx rfl (hb hby at_12) rfl ?_
  show Steps p.tables e below (s₁.setTop (mkF m 13 #[.val (.int p0), .val (.int p1), .val (.int p2), .val (.int p3), .val (.int p4), .val (.int p5), .val (.int (4 : Int32)), .val (.int ba), .unset, .unset, .unset, .unset, .unset, .unset, .unset, .unset] [(.int p3)])) _
  refine XS.i2b X0.here hx rfl (hb hby at_13) rfl ?_
  show Steps p.tables e below (s₁.setTop (mkF m 14 #[.val (.int p0), .val (.int p1), .val (.int p2), .val (.int p3), .val (.int p4), .val (.int p5), .val (.int (4 : Int32)), .val (.int ba), .unset, .unset, .unset, .unset, .unset, .unset, .unset, .unset] [(.int (p3.toInt8.toInt32))])) _
  refine XS.istore X0.here hx rfl (hb hby at_14) rfl (l' := #[.val (.int p0), .val (.int p1), .val (.int p2), .val (.int p3), .val (.int p4), .val (.int p5), .val (.int (4 : Int32)), .val (.int ba), .val (.int (p3.toInt8.toInt32)), .unset, .unset, .unset, .unset, .unset, .unset, .unset]) rfl ?_
  show Steps p.tables e below (s₁.setTop (mkF m 16 #[.val (.int p0), .val (.int p1), .val (.int p2), .val (.int p3), .val (.int p4), .val (.int p5), .val (.int (4 : Int32)), .val (.int ba), .val (.int (p3.toInt8.toInt32)), .unset, .unset, .unset, .unset, .unset, .unset, .unset] [])) _
  rw [h_bb]
  show Steps p.tables e below (s₁.setTop (mkF m 16 #[.val (.int p0), .val (.int p1), .val (.int p2), .val (.int p3), .val (.int p4), .val (.int p5), .val (.int (4 : Int32)), .val (.int ba), .val (.int bb), .unset, .unset, .unset, .unset, .unset, .unset, .unset] [])) _
  refine XS.iload X0.here hx rfl (hb hby at_16) rfl ?_
  show Steps p.tables e below (s₁.setTop (mkF m 18 #[.val (.int p0), .val (.int p1), .val (.int p2), .val (.int p3), .val (.int p4), .val (.int p5), .val (.int (4 : Int32)), .val (.int ba), .val (.int bb), .unset, .unset, .unset, .unset, .unset, .unset, .unset] [(.int p4)])) _
  refine XS.i2b X0.here hx rfl (hb hby at_18) rfl ?_
  show Steps p.tables e below (s₁.setTop (mkF m 19 #[.val (.int p0), .val (.int p1), .val (.int p2), .val (.int p3), .val (.int p4), .val (.int p5), .val (.int (4 : Int32)), .val (.int ba), .val (.int bb), .unset, .unset, .unset, .unset, .unset, .unset, .unset] [(.int (p4.toInt8.toInt32))])) _
  refine XS.istore X0.here hx rfl (hb hby at_19) rfl (l' := #[.val (.int p0), .val (.int p1), .val (.int p2), .val (.int p3), .val (.int p4), .val (.int p5), .val (.int (4 : Int32)), .val (.int ba), .val (.int bb), .val (.int (p4.toInt8.toInt32)), .unset, .unset, .unset, .unset, .unset, .unset]) rfl ?_
  show Steps p.tables e below (s₁.setTop (mkF m 21 #[.val (.int p0), .val (.int p1), .val (.int p2), .val (.int p3), .val (.int p4), .val (.int p5), .val (.int (4 : Int32)), .val (.int ba), .val (.int bb), .val (.int (p4.toInt8.toInt32)), .unset, .unset, .unset, .unset, .unset, .unset] [])) _
  rw [h_bc]
  show Steps p.tables e below (s₁.setTop (mkF m 21 #[.val (.int p0), .val (.int p1), .val (.int p2), .val (.int p3), .val (.int p4), .val (.int p5), .val (.int (4 : Int32)), .val (.int ba), .val (.int bb), .val (.int bc), .unset, .unset, .unset, .unset, .unset, .unset] [])) _
  refine XS.iload X0.here hx rfl (hb hby at_21) rfl ?_
  show Steps p.tables e below (s₁.setTop (mkF m 23 #[.val (.int p0), .val (.int p1), .val (.int p2), .val (.int p3), .val (.int p4), .val (.int p5), .val (.int (4 : Int32)), .val (.int ba), .val (.int bb), .val (.int bc), .unset, .unset, .unset, .unset, .unset, .unset] [(.int p5)])) _
  refine XS.i2b X0.here hx rfl (hb hby at_23) rfl ?_
  show Steps p.tables e below (s₁.setTop (mkF m 24 #[.val (.int p0), .val (.int p1), .val (.int p2), .val (.int p3), .val (.int p4), .val (.int p5), .val (.int (4 : Int32)), .val (.int ba), .val (.int bb), .val (.int bc), .unset, .unset, .unset, .unset, .unset, .unset] [(.int (p5.toInt8.toInt32))])) _
  refine XS.istore X0.here hx rfl (hb hby at_24) rfl (l' := #[.val (.int p0), .val (.int p1), .val (.int p2), .val (.int p3), .val (.int p4), .val (.int p5), .val (.int (4 : Int32)), .val (.int ba), .val (.int bb), .val (.int bc), .val (.int (p5.toInt8.toInt32)), .unset, .unset, .unset, .unset, .unset]) rfl ?_
  show Steps p.tables e below (s₁.setTop (mkF m 26 #[.val (.int p0), .val (.int p1), .val (.int p2), .val (.int p3), .val (.int p4), .val (.int p5), .val (.int (4 : Int32)), .val (.int ba), .val (.int bb), .val (.int bc), .val (.int (p5.toInt8.toInt32)), .unset, .unset, .unset, .unset, .unset] [])) _
  rw [h_bd]
  show Steps p.tables e below (s₁.setTop (mkF m 26 #[.val (.int p0), .val (.int p1), .val (.int p2), .val (.int p3), .val (.int p4), .val (.int p5), .val (.int (4 : Int32)), .val (.int ba), .val (.int bb), .val (.int bc), .val (.int bd), .unset, .unset, .unset, .unset, .unset] [])) _
  refine XS.iload X0.here hx rfl (hb hby at_26) rfl ?_
  show Steps p.tables e below (s₁.setTop (mkF m 28 #[.val (.int p0), .val (.int p1), .val (.int p2), .val (.int p3), .val (.int p4), .val (.int p5), .val (.int (4 : Int32)), .val (.int ba), .val (.int bb), .val (.int bc), .val (.int bd), .unset, .unset, .unset, .unset, .unset] [(.int (4 : Int32))])) _
  refine XS.ifYes X0.here hx rfl (pc0 := 28) (pc' := 39) rfl (hb hby at_28) rfl ((if0 _ _).trans (feq (by decide)).2) (by decide) (by decide) ?_
  show Steps p.tables e below (s₁.setTop (mkF m 39 #[.val (.int p0), .val (.int p1), .val (.int p2), .val (.int p3), .val (.int p4), .val (.int p5), .val (.int (4 : Int32)), .val (.int ba), .val (.int bb), .val (.int bc), .val (.int bd), .unset, .unset, .unset, .unset, .unset] [])) _
  refine XS.iload X0.here hx rfl (hb hby at_39) rfl ?_
  show Steps p.tables e below (s₁.setTop (mkF m 41 #[.val (.int p0), .val (.int p1), .val (.int p2), .val (.int p3), .val (.int p4), .val (.int p5), .val (.int (4 : Int32)), .val (.int ba), .val (.int bb), .val (.int bc), .val (.int bd), .unset, .unset, .unset, .unset, .unset] [(.int (4 : Int32))])) _
  refine XS.iconst X0.here hx rfl (hb hby at_41) ?_
  show Steps p.tables e below (s₁.setTop (mkF m 42 #[.val (.int p0), .val (.int p1), .val (.int p2), .val (.int p3), .val (.int p4), .val (.int p5), .val (.int (4 : Int32)), .val (.int ba), .val (.int bb), .val (.int bc), .val (.int bd), .unset, .unset, .unset, .unset, .unset] [(.int (1 : Int32)), (.int (4 : Int32))])) _
  refine XS.icmpYes X0.here hx rfl (pc0 := 42) (pc' := 58) rfl (hb hby at_42) rfl (feq (by decide)).2 (by decide) (by decide) ?_
  show Steps p.tables e below (s₁.setTop (mkF m 58 #[.val (.int p0), .val (.int p1), .val (.int p2), .val (.int p3), .val (.int p4), .val (.int p5), .val (.int (4 : Int32)), .val (.int ba), .val (.int bb), .val (.int bc), .val (.int bd), .unset, .unset, .unset, .unset, .unset] [])) _
  refine XS.iload X0.here hx rfl (hb hby at_58) rfl ?_
  show Steps p.tables e below (s₁.setTop (mkF m 60 #[.val (.int p0), .val (.int p1), .val (.int p2), .val (.int p3), .val (.int p4), .val (.int p5), .val (.int (4 : Int32)), .val (.int ba), .val (.int bb), .val (.int bc), .val (.int bd), .unset, .unset, .unset, .unset, .unset] [(.int (4 : Int32))])) _
  refine XS.iconst X0.here hx rfl (hb hby at_60) ?_
  show Steps p.tables e below (s₁.setTop (mkF m 61 #[.val (.int p0), .val (.int p1), .val (.int p2), .val (.int p3), .val (.int p4), .val (.int p5), .val (.int (4 : Int32)), .val (.int ba), .val (.int bb), .val (.int bc), .val (.int bd), .unset, .unset, .unset, .unset, .unset] [(.int (2 : Int32)), (.int (4 : Int32))])) _
  refine XS.icmpYes X0.here hx rfl (pc0 := 61) (pc' := 82) rfl (hb hby at_61) rfl (feq (by decide)).2 (by decide) (by decide) ?_
  show Steps p.tables e below (s₁.setTop (mkF m 82 #[.val (.int p0), .val (.int p1), .val (.int p2), .val (.int p3), .val (.int p4), .val (.int p5), .val (.int (4 : Int32)), .val (.int ba), .val (.int bb), .val (.int bc), .val (.int bd), .unset, .unset, .unset, .unset, .unset] [])) _
  refine XS.iload X0.here hx rfl (hb hby at_82) rfl ?_
  show Steps p.tables e below (s₁.setTop (mkF m 84 #[.val (.int p0), .val (.int p1), .val (.int p2), .val (.int p3), .val (.int p4), .val (.int p5), .val (.int (4 : Int32)), .val (.int ba), .val (.int bb), .val (.int bc), .val (.int bd), .unset, .unset, .unset, .unset, .unset] [(.int (4 : Int32))])) _
  refine XS.iconst X0.here hx rfl (hb hby at_84) ?_
  show Steps p.tables e below (s₁.setTop (mkF m 85 #[.val (.int p0), .val (.int p1), .val (.int p2), .val (.int p3), .val (.int p4), .val (.int p5), .val (.int (4 : Int32)), .val (.int ba), .val (.int bb), .val (.int bc), .val (.int bd), .unset, .unset, .unset, .unset, .unset] [(.int (3 : Int32)), (.int (4 : Int32))])) _
  refine XS.icmpYes X0.here hx rfl (pc0 := 85) (pc' := 111) rfl (hb hby at_85) rfl (feq (by decide)).2 (by decide) (by decide) ?_
  show Steps p.tables e below (s₁.setTop (mkF m 111 #[.val (.int p0), .val (.int p1), .val (.int p2), .val (.int p3), .val (.int p4), .val (.int p5), .val (.int (4 : Int32)), .val (.int ba), .val (.int bb), .val (.int bc), .val (.int bd), .unset, .unset, .unset, .unset, .unset] [])) _
  refine XS.iconst X0.here hx rfl (hb hby at_111) ?_
  show Steps p.tables e below (s₁.setTop (mkF m 112 #[.val (.int p0), .val (.int p1), .val (.int p2), .val (.int p3), .val (.int p4), .val (.int p5), .val (.int (4 : Int32)), .val (.int ba), .val (.int bb), .val (.int bc), .val (.int bd), .unset, .unset, .unset, .unset, .unset] [(.int (4 : Int32))])) _
  refine st1 _ ?_
  show Steps p.tables e below (T1.setTop (mkF m 114 #[.val (.int p0), .val (.int p1), .val (.int p2), .val (.int p3), .val (.int p4), .val (.int p5), .val (.int (4 : Int32)), .val (.int ba), .val (.int bb), .val (.int bc), .val (.int bd), .unset, .unset, .unset, .unset, .unset] [(.ref b1)])) _
  refine XS.dup X1.here hx rfl (hb hby at_114) rfl rfl ?_
  show Steps p.tables e below (T1.setTop (mkF m 115 #[.val (.int p0), .val (.int p1), .val (.int p2), .val (.int p3), .val (.int p4), .val (.int p5), .val (.int (4 : Int32)), .val (.int ba), .val (.int bb), .val (.int bc), .val (.int bd), .unset, .unset, .unset, .unset, .unset] [(.ref b1), (.ref b1)])) _
  refine XS.iconst X1.here hx rfl (hb hby at_115) ?_
  show Steps p.tables e below (T1.setTop (mkF m 116 #[.val (.int p0), .val (.int p1), .val (.int p2), .val (.int p3), .val (.int p4), .val (.int p5), .val (.int (4 : Int32)), .val (.int ba), .val (.int bb), .val (.int bc), .val (.int bd), .unset, .unset, .unset, .unset, .unset] [(.int (0 : Int32)), (.ref b1), (.ref b1)])) _
  refine XS.iload X1.here hx rfl (hb hby at_116) rfl ?_
  show Steps p.tables e below (T1.setTop (mkF m 118 #[.val (.int p0), .val (.int p1), .val (.int p2), .val (.int p3), .val (.int p4), .val (.int p5), .val (.int (4 : Int32)), .val (.int ba), .val (.int bb), .val (.int bc), .val (.int bd), .unset, .unset, .unset, .unset, .unset] [(.int ba), (.int (0 : Int32)), (.ref b1), (.ref b1)])) _
  refine st2 _ ?_
  show Steps p.tables e below (T2.setTop (mkF m 119 #[.val (.int p0), .val (.int p1), .val (.int p2), .val (.int p3), .val (.int p4), .val (.int p5), .val (.int (4 : Int32)), .val (.int ba), .val (.int bb), .val (.int bc), .val (.int bd), .unset, .unset, .unset, .unset, .unset] [(.ref b1)])) _
  refine XS.dup X2.here hx rfl (hb hby at_119) rfl rfl ?_
  show Steps p.tables e below (T2.setTop (mkF m 120 #[.val (.int p0), .val (.int p1), .val (.int p2), .val (.int p3), .val (.int p4), .val (.int p5), .val (.int (4 : Int32)), .val (.int ba), .val (.int bb), .val (.int bc), .val (.int bd), .unset, .unset, .unset, .unset, .unset] [(.ref b1), (.ref b1)])) _
  refine XS.iconst X2.here hx rfl (hb hby at_120) ?_
  show Steps p.tables e below (T2.setTop (mkF m 121 #[.val (.int p0), .val (.int p1), .val (.int p2), .val (.int p3), .val (.int p4), .val (.int p5), .val (.int (4 : Int32)), .val (.int ba), .val (.int bb), .val (.int bc), .val (.int bd), .unset, .unset, .unset, .unset, .unset] [(.int (1 : Int32)), (.ref b1), (.ref b1)])) _
  refine XS.iload X2.here hx rfl (hb hby at_121) rfl ?_
  show Steps p.tables e below (T2.setTop (mkF m 123 #[.val (.int p0), .val (.int p1), .val (.int p2), .val (.int p3), .val (.int p4), .val (.int p5), .val (.int (4 : Int32)), .val (.int ba), .val (.int bb), .val (.int bc), .val (.int bd), .unset, .unset, .unset, .unset, .unset] [(.int bb), (.int (1 : Int32)), (.ref b1), (.ref b1)])) _
  refine st3 _ ?_
  show Steps p.tables e below (T3.setTop (mkF m 124 #[.val (.int p0), .val (.int p1), .val (.int p2), .val (.int p3), .val (.int p4), .val (.int p5), .val (.int (4 : Int32)), .val (.int ba), .val (.int bb), .val (.int bc), .val (.int bd), .unset, .unset, .unset, .unset, .unset] [(.ref b1)])) _
  refine XS.dup X3.here hx rfl (hb hby at_124) rfl rfl ?_
  show Steps p.tables e below (T3.setTop (mkF m 125 #[.val (.int p0), .val (.int p1), .val (.int p2), .val (.int p3), .val (.int p4), .val (.int p5), .val (.int (4 : Int32)), .val (.int ba), .val (.int bb), .val (.int bc), .val (.int bd), .unset, .unset, .unset, .unset, .unset] [(.ref b1), (.ref b1)])) _
  refine XS.iconst X3.here hx rfl (hb hby at_125) ?_
  show Steps p.tables e below (T3.setTop (mkF m 126 #[.val (.int p0), .val (.int p1), .val (.int p2), .val (.int p3), .val (.int p4), .val (.int p5), .val (.int (4 : Int32)), .val (.int ba), .val (.int bb), .val (.int bc), .val (.int bd), .unset, .unset, .unset, .unset, .unset] [(.int (2 : Int32)), (.ref b1), (.ref b1)])) _
  refine XS.iload X3.here hx rfl (hb hby at_126) rfl ?_
  show Steps p.tables e below (T3.setTop (mkF m 128 #[.val (.int p0), .val (.int p1), .val (.int p2), .val (.int p3), .val (.int p4), .val (.int p5), .val (.int (4 : Int32)), .val (.int ba), .val (.int bb), .val (.int bc), .val (.int bd), .unset, .unset, .unset, .unset, .unset] [(.int bc), (.int (2 : Int32)), (.ref b1), (.ref b1)])) _
  refine st4 _ ?_
  show Steps p.tables e below (T4.setTop (mkF m 129 #[.val (.int p0), .val (.int p1), .val (.int p2), .val (.int p3), .val (.int p4), .val (.int p5), .val (.int (4 : Int32)), .val (.int ba), .val (.int bb), .val (.int bc), .val (.int bd), .unset, .unset, .unset, .unset, .unset] [(.ref b1)])) _
  refine XS.dup X4.here hx rfl (hb hby at_129) rfl rfl ?_
  show Steps p.tables e below (T4.setTop (mkF m 130 #[.val (.int p0), .val (.int p1), .val (.int p2), .val (.int p3), .val (.int p4), .val (.int p5), .val (.int (4 : Int32)), .val (.int ba), .val (.int bb), .val (.int bc), .val (.int bd), .unset, .unset, .unset, .unset, .unset] [(.ref b1), (.ref b1)])) _
  refine XS.iconst X4.here hx rfl (hb hby at_130) ?_
  show Steps p.tables e below (T4.setTop (mkF m 131 #[.val (.int p0), .val (.int p1), .val (.int p2), .val (.int p3), .val (.int p4), .val (.int p5), .val (.int (4 : Int32)), .val (.int ba), .val (.int bb), .val (.int bc), .val (.int bd), .unset, .unset, .unset, .unset, .unset] [(.int (3 : Int32)), (.ref b1), (.ref b1)])) _
  refine XS.iload X4.here hx rfl (hb hby at_131) rfl ?_
  show Steps p.tables e below (T4.setTop (mkF m 133 #[.val (.int p0), .val (.int p1), .val (.int p2), .val (.int p3), .val (.int p4), .val (.int p5), .val (.int (4 : Int32)), .val (.int ba), .val (.int bb), .val (.int bc), .val (.int bd), .unset, .unset, .unset, .unset, .unset] [(.int bd), (.int (3 : Int32)), (.ref b1), (.ref b1)])) _
  refine st5 _ ?_
  show Steps p.tables e below (T5.setTop (mkF m 134 #[.val (.int p0), .val (.int p1), .val (.int p2), .val (.int p3), .val (.int p4), .val (.int p5), .val (.int (4 : Int32)), .val (.int ba), .val (.int bb), .val (.int bc), .val (.int bd), .unset, .unset, .unset, .unset, .unset] [(.ref b1)])) _
  refine XS.astore X5.here hx rfl (hb hby at_134) rfl rfl (l' := #[.val (.int p0), .val (.int p1), .val (.int p2), .val (.int p3), .val (.int p4), .val (.int p5), .val (.int (4 : Int32)), .val (.int ba), .val (.int bb), .val (.int bc), .val (.int bd), .val (.ref b1), .unset, .unset, .unset, .unset]) rfl ?_
  show Steps p.tables e below (T5.setTop (mkF m 136 #[.val (.int p0), .val (.int p1), .val (.int p2), .val (.int p3), .val (.int p4), .val (.int p5), .val (.int (4 : Int32)), .val (.int ba), .val (.int bb), .val (.int bc), .val (.int bd), .val (.ref b1), .unset, .unset, .unset, .unset] [])) _
  refine XS.aload X5.here hx rfl (hb hby at_136) rfl rfl ?_
  show Steps p.tables e below (T5.setTop (mkF m 138 #[.val (.int p0), .val (.int p1), .val (.int p2), .val (.int p3), .val (.int p4), .val (.int p5), .val (.int (4 : Int32)), .val (.int ba), .val (.int bb), .val (.int bc), .val (.int bd), .val (.ref b1), .unset, .unset, .unset, .unset] [(.ref b1)])) _
  refine st6 _ ?_
  show Steps p.tables e below (T6.setTop (mkF m 141 #[.val (.int p0), .val (.int p1), .val (.int p2), .val (.int p3), .val (.int p4), .val (.int p5), .val (.int (4 : Int32)), .val (.int ba), .val (.int bb), .val (.int bc), .val (.int bd), .val (.ref b1), .unset, .unset, .unset, .unset] [(.ref cc)])) _
  refine XS.astore X6.here hx rfl (hb hby at_141) rfl rfl (l' := #[.val (.int p0), .val (.int p1), .val (.int p2), .val (.int p3), .val (.int p4), .val (.int p5), .val (.int (4 : Int32)), .val (.int ba), .val (.int bb), .val (.int bc), .val (.int bd), .val (.ref b1), .val (.ref cc), .unset, .unset, .unset]) rfl ?_
  show Steps p.tables e below (T6.setTop (mkF m 143 #[.val (.int p0), .val (.int p1), .val (.int p2), .val (.int p3), .val (.int p4), .val (.int p5), .val (.int (4 : Int32)), .val (.int ba), .val (.int bb), .val (.int bc), .val (.int bd), .val (.ref b1), .val (.ref cc), .unset, .unset, .unset] [])) _
  refine XS.aload X6.here hx rfl (hb hby at_143) rfl rfl ?_
  show Steps p.tables e below (T6.setTop (mkF m 145 #[.val (.int p0), .val (.int p1), .val (.int p2), .val (.int p3), .val (.int p4), .val (.int p5), .val (.int (4 : Int32)), .val (.int ba), .val (.int bb), .val (.int bc), .val (.int bd), .val (.ref b1), .val (.ref cc), .unset, .unset, .unset] [(.ref cc)])) _
  refine XS.ifnullNo X6.here hx rfl (hb hby at_145) rfl ?_
  show Steps p.tables e below (T6.setTop (mkF m 148 #[.val (.int p0), .val (.int p1), .val (.int p2), .val (.int p3), .val (.int p4), .val (.int p5), .val (.int (4 : Int32)), .val (.int ba), .val (.int bb), .val (.int bc), .val (.int bd), .val (.ref b1), .val (.ref cc), .unset, .unset, .unset] [])) _
  refine XS.aload X6.here hx rfl (hb hby at_148) rfl rfl ?_
  show Steps p.tables e below (T6.setTop (mkF m 150 #[.val (.int p0), .val (.int p1), .val (.int p2), .val (.int p3), .val (.int p4), .val (.int p5), .val (.int (4 : Int32)), .val (.int ba), .val (.int bb), .val (.int bc), .val (.int bd), .val (.ref b1), .val (.ref cc), .unset, .unset, .unset] [(.ref cc)])) _
  refine own_len X6 hx hZ rfl AC6 rfl rfl (hb hby at_150) ?_
  show Steps p.tables e below (T6.setTop (mkF m 151 #[.val (.int p0), .val (.int p1), .val (.int p2), .val (.int p3), .val (.int p4), .val (.int p5), .val (.int (4 : Int32)), .val (.int ba), .val (.int bb), .val (.int bc), .val (.int bd), .val (.ref b1), .val (.ref cc), .unset, .unset, .unset] [(.int (256 : Int32))])) _
  refine XS.sipush X6.here hx rfl (hb hby at_151) ?_
  show Steps p.tables e below (T6.setTop (mkF m 154 #[.val (.int p0), .val (.int p1), .val (.int p2), .val (.int p3), .val (.int p4), .val (.int p5), .val (.int (4 : Int32)), .val (.int ba), .val (.int bb), .val (.int bc), .val (.int bd), .val (.ref b1), .val (.ref cc), .unset, .unset, .unset] [(.int (256 : Int32)), (.int (256 : Int32))])) _
  refine XS.icmpYes X6.here hx rfl (pc0 := 154) (pc' := 159) rfl (hb hby at_154) rfl (teq (rfl : (256 : Int32) = (256 : Int32))).1 (by decide) (by decide) ?_
  show Steps p.tables e below (T6.setTop (mkF m 159 #[.val (.int p0), .val (.int p1), .val (.int p2), .val (.int p3), .val (.int p4), .val (.int p5), .val (.int (4 : Int32)), .val (.int ba), .val (.int bb), .val (.int bc), .val (.int bd), .val (.ref b1), .val (.ref cc), .unset, .unset, .unset] [])) _
  refine XS.iloadN X6.here hx rfl (hb hby at_159) rfl ?_
  show Steps p.tables e below (T6.setTop (mkF m 160 #[.val (.int p0), .val (.int p1), .val (.int p2), .val (.int p3), .val (.int p4), .val (.int p5), .val (.int (4 : Int32)), .val (.int ba), .val (.int bb), .val (.int bc), .val (.int bd), .val (.ref b1), .val (.ref cc), .unset, .unset, .unset] [(.int p1)])) _
  refine XS.sipush X6.here hx rfl (hb hby at_160) ?_
  show Steps p.tables e below (T6.setTop (mkF m 163 #[.val (.int p0), .val (.int p1), .val (.int p2), .val (.int p3), .val (.int p4), .val (.int p5), .val (.int (4 : Int32)), .val (.int ba), .val (.int bb), .val (.int bc), .val (.int bd), .val (.ref b1), .val (.ref cc), .unset, .unset, .unset] [(.int (255 : Int32)), (.int p1)])) _
  refine XS.iand X6.here hx rfl (hb hby at_163) rfl ?_
  show Steps p.tables e below (T6.setTop (mkF m 164 #[.val (.int p0), .val (.int p1), .val (.int p2), .val (.int p3), .val (.int p4), .val (.int p5), .val (.int (4 : Int32)), .val (.int ba), .val (.int bb), .val (.int bc), .val (.int bd), .val (.ref b1), .val (.ref cc), .unset, .unset, .unset] [(.int (p1 &&& (255 : Int32)))])) _
  refine XS.istore X6.here hx rfl (hb hby at_164) rfl (l' := #[.val (.int p0), .val (.int p1), .val (.int p2), .val (.int p3), .val (.int p4), .val (.int p5), .val (.int (4 : Int32)), .val (.int ba), .val (.int bb), .val (.int bc), .val (.int bd), .val (.ref b1), .val (.ref cc), .val (.int (p1 &&& (255 : Int32))), .unset, .unset]) rfl ?_
  show Steps p.tables e below (T6.setTop (mkF m 166 #[.val (.int p0), .val (.int p1), .val (.int p2), .val (.int p3), .val (.int p4), .val (.int p5), .val (.int (4 : Int32)), .val (.int ba), .val (.int bb), .val (.int bc), .val (.int bd), .val (.ref b1), .val (.ref cc), .val (.int (p1 &&& (255 : Int32))), .unset, .unset] [])) _
  rw [h_kk]
  show Steps p.tables e below (T6.setTop (mkF m 166 #[.val (.int p0), .val (.int p1), .val (.int p2), .val (.int p3), .val (.int p4), .val (.int p5), .val (.int (4 : Int32)), .val (.int ba), .val (.int bb), .val (.int bc), .val (.int bd), .val (.ref b1), .val (.ref cc), .val (.int kk), .unset, .unset] [])) _
  refine XS.iconst X6.here hx rfl (hb hby at_166) ?_
  show Steps p.tables e below (T6.setTop (mkF m 167 #[.val (.int p0), .val (.int p1), .val (.int p2), .val (.int p3), .val (.int p4), .val (.int p5), .val (.int (4 : Int32)), .val (.int ba), .val (.int bb), .val (.int bc), .val (.int bd), .val (.ref b1), .val (.ref cc), .val (.int kk), .unset, .unset] [(.int (0 : Int32))])) _
  refine XS.istore X6.here hx rfl (hb hby at_167) rfl (l' := #[.val (.int p0), .val (.int p1), .val (.int p2), .val (.int p3), .val (.int p4), .val (.int p5), .val (.int (4 : Int32)), .val (.int ba), .val (.int bb), .val (.int bc), .val (.int bd), .val (.ref b1), .val (.ref cc), .val (.int kk), .val (.int (0 : Int32)), .unset]) rfl ?_
  show Steps p.tables e below (T6.setTop (mkF m 169 #[.val (.int p0), .val (.int p1), .val (.int p2), .val (.int p3), .val (.int p4), .val (.int p5), .val (.int (4 : Int32)), .val (.int ba), .val (.int bb), .val (.int bc), .val (.int bd), .val (.ref b1), .val (.ref cc), .val (.int kk), .val (.int (0 : Int32)), .unset] [])) _
  refine XS.iload X6.here hx rfl (hb hby at_169) rfl ?_
  show Steps p.tables e below (T6.setTop (mkF m 171 #[.val (.int p0), .val (.int p1), .val (.int p2), .val (.int p3), .val (.int p4), .val (.int p5), .val (.int (4 : Int32)), .val (.int ba), .val (.int bb), .val (.int bc), .val (.int bd), .val (.ref b1), .val (.ref cc), .val (.int kk), .val (.int (0 : Int32)), .unset] [(.int (4 : Int32))])) _
  refine XS.ifNo X6.here hx rfl (hb hby at_171) rfl ((if0 _ _).trans (tlt (by decide)).2.2.2) ?_
  show Steps p.tables e below (T6.setTop (mkF m 174 #[.val (.int p0), .val (.int p1), .val (.int p2), .val (.int p3), .val (.int p4), .val (.int p5), .val (.int (4 : Int32)), .val (.int ba), .val (.int bb), .val (.int bc), .val (.int bd), .val (.ref b1), .val (.ref cc), .val (.int kk), .val (.int (0 : Int32)), .unset] [])) _
  refine XS.iload X6.here hx rfl (hb hby at_174) rfl ?_
  show Steps p.tables e below (T6.setTop (mkF m 176 #[.val (.int p0), .val (.int p1), .val (.int p2), .val (.int p3), .val (.int p4), .val (.int p5), .val (.int (4 : Int32)), .val (.int ba), .val (.int bb), .val (.int bc), .val (.int bd), .val (.ref b1), .val (.ref cc), .val (.int kk), .val (.int (0 : Int32)), .unset] [(.int (0 : Int32))])) _
  refine XS.iload X6.here hx rfl (hb hby at_176) rfl ?_
  show Steps p.tables e below (T6.setTop (mkF m 178 #[.val (.int p0), .val (.int p1), .val (.int p2), .val (.int p3), .val (.int p4), .val (.int p5), .val (.int (4 : Int32)), .val (.int ba), .val (.int bb), .val (.int bc), .val (.int bd), .val (.ref b1), .val (.ref cc), .val (.int kk), .val (.int (0 : Int32)), .unset] [(.int ba), (.int (0 : Int32))])) _
  refine XS.iload X6.here hx rfl (hb hby at_178) rfl ?_
  show Steps p.tables e below (T6.setTop (mkF m 180 #[.val (.int p0), .val (.int p1), .val (.int p2), .val (.int p3), .val (.int p4), .val (.int p5), .val (.int (4 : Int32)), .val (.int ba), .val (.int bb), .val (.int bc), .val (.int bd), .val (.ref b1), .val (.ref cc), .val (.int kk), .val (.int (0 : Int32)), .unset] [(.int kk), (.int ba), (.int (0 : Int32))])) _
  refine st7 _ ?_
  show Steps p.tables e below (T7.setTop (mkF m 183 #[.val (.int p0), .val (.int p1), .val (.int p2), .val (.int p3), .val (.int p4), .val (.int p5), .val (.int (4 : Int32)), .val (.int ba), .val (.int bb), .val (.int bc), .val (.int bd), .val (.ref b1), .val (.ref cc), .val (.int kk), .val (.int (0 : Int32)), .unset] [(.int (own_hit ba kk)), (.int (0 : Int32))])) _
  refine XS.iadd X7.here hx rfl (hb hby at_183) rfl ?_
  show Steps p.tables e below (T7.setTop (mkF m 184 #[.val (.int p0), .val (.int p1), .val (.int p2), .val (.int p3), .val (.int p4), .val (.int p5), .val (.int (4 : Int32)), .val (.int ba), .val (.int bb), .val (.int bc), .val (.int bd), .val (.ref b1), .val (.ref cc), .val (.int kk), .val (.int (0 : Int32)), .unset] [(.int ((0 : Int32) + (own_hit ba kk)))])) _
  refine XS.istore X7.here hx rfl (hb hby at_184) rfl (l' := #[.val (.int p0), .val (.int p1), .val (.int p2), .val (.int p3), .val (.int p4), .val (.int p5), .val (.int (4 : Int32)), .val (.int ba), .val (.int bb), .val (.int bc), .val (.int bd), .val (.ref b1), .val (.ref cc), .val (.int kk), .val (.int ((0 : Int32) + (own_hit ba kk))), .unset]) rfl ?_
  show Steps p.tables e below (T7.setTop (mkF m 186 #[.val (.int p0), .val (.int p1), .val (.int p2), .val (.int p3), .val (.int p4), .val (.int p5), .val (.int (4 : Int32)), .val (.int ba), .val (.int bb), .val (.int bc), .val (.int bd), .val (.ref b1), .val (.ref cc), .val (.int kk), .val (.int ((0 : Int32) + (own_hit ba kk))), .unset] [])) _
  refine XS.iload X7.here hx rfl (hb hby at_186) rfl ?_
  show Steps p.tables e below (T7.setTop (mkF m 188 #[.val (.int p0), .val (.int p1), .val (.int p2), .val (.int p3), .val (.int p4), .val (.int p5), .val (.int (4 : Int32)), .val (.int ba), .val (.int bb), .val (.int bc), .val (.int bd), .val (.ref b1), .val (.ref cc), .val (.int kk), .val (.int ((0 : Int32) + (own_hit ba kk))), .unset] [(.int (4 : Int32))])) _
  refine XS.iconst X7.here hx rfl (hb hby at_188) ?_
  show Steps p.tables e below (T7.setTop (mkF m 189 #[.val (.int p0), .val (.int p1), .val (.int p2), .val (.int p3), .val (.int p4), .val (.int p5), .val (.int (4 : Int32)), .val (.int ba), .val (.int bb), .val (.int bc), .val (.int bd), .val (.ref b1), .val (.ref cc), .val (.int kk), .val (.int ((0 : Int32) + (own_hit ba kk))), .unset] [(.int (1 : Int32)), (.int (4 : Int32))])) _
  refine XS.icmpNo X7.here hx rfl (hb hby at_189) rfl (tlt (by decide)).2.2.2 ?_
  show Steps p.tables e below (T7.setTop (mkF m 192 #[.val (.int p0), .val (.int p1), .val (.int p2), .val (.int p3), .val (.int p4), .val (.int p5), .val (.int (4 : Int32)), .val (.int ba), .val (.int bb), .val (.int bc), .val (.int bd), .val (.ref b1), .val (.ref cc), .val (.int kk), .val (.int ((0 : Int32) + (own_hit ba kk))), .unset] [])) _
  refine XS.iload X7.here hx rfl (hb hby at_192) rfl ?_
  show Steps p.tables e below (T7.setTop (mkF m 194 #[.val (.int p0), .val (.int p1), .val (.int p2), .val (.int p3), .val (.int p4), .val (.int p5), .val (.int (4 : Int32)), .val (.int ba), .val (.int bb), .val (.int bc), .val (.int bd), .val (.ref b1), .val (.ref cc), .val (.int kk), .val (.int ((0 : Int32) + (own_hit ba kk))), .unset] [(.int ((0 : Int32) + (own_hit ba kk)))])) _
  refine XS.iload X7.here hx rfl (hb hby at_194) rfl ?_
  show Steps p.tables e below (T7.setTop (mkF m 196 #[.val (.int p0), .val (.int p1), .val (.int p2), .val (.int p3), .val (.int p4), .val (.int p5), .val (.int (4 : Int32)), .val (.int ba), .val (.int bb), .val (.int bc), .val (.int bd), .val (.ref b1), .val (.ref cc), .val (.int kk), .val (.int ((0 : Int32) + (own_hit ba kk))), .unset] [(.int bb), (.int ((0 : Int32) + (own_hit ba kk)))])) _
  refine XS.iload X7.here hx rfl (hb hby at_196) rfl ?_
  show Steps p.tables e below (T7.setTop (mkF m 198 #[.val (.int p0), .val (.int p1), .val (.int p2), .val (.int p3), .val (.int p4), .val (.int p5), .val (.int (4 : Int32)), .val (.int ba), .val (.int bb), .val (.int bc), .val (.int bd), .val (.ref b1), .val (.ref cc), .val (.int kk), .val (.int ((0 : Int32) + (own_hit ba kk))), .unset] [(.int kk), (.int bb), (.int ((0 : Int32) + (own_hit ba kk)))])) _
  refine st8 _ ?_
  show Steps p.tables e below (T8.setTop (mkF m 201 #[.val (.int p0), .val (.int p1), .val (.int p2), .val (.int p3), .val (.int p4), .val (.int p5), .val (.int (4 : Int32)), .val (.int ba), .val (.int bb), .val (.int bc), .val (.int bd), .val (.ref b1), .val (.ref cc), .val (.int kk), .val (.int ((0 : Int32) + (own_hit ba kk))), .unset] [(.int (own_hit bb kk)), (.int ((0 : Int32) + (own_hit ba kk)))])) _
  refine XS.iadd X8.here hx rfl (hb hby at_201) rfl ?_
  show Steps p.tables e below (T8.setTop (mkF m 202 #[.val (.int p0), .val (.int p1), .val (.int p2), .val (.int p3), .val (.int p4), .val (.int p5), .val (.int (4 : Int32)), .val (.int ba), .val (.int bb), .val (.int bc), .val (.int bd), .val (.ref b1), .val (.ref cc), .val (.int kk), .val (.int ((0 : Int32) + (own_hit ba kk))), .unset] [(.int (((0 : Int32) + (own_hit ba kk)) + (own_hit bb kk)))])) _
  refine XS.istore X8.here hx rfl (hb hby at_202) rfl (l' := #[.val (.int p0), .val (.int p1), .val (.int p2), .val (.int p3), .val (.int p4), .val (.int p5), .val (.int (4 : Int32)), .val (.int ba), .val (.int bb), .val (.int bc), .val (.int bd), .val (.ref b1), .val (.ref cc), .val (.int kk), .val (.int (((0 : Int32) + (own_hit ba kk)) + (own_hit bb kk))), .unset]) rfl ?_
  show Steps p.tables e below (T8.setTop (mkF m 204 #[.val (.int p0), .val (.int p1), .val (.int p2), .val (.int p3), .val (.int p4), .val (.int p5), .val (.int (4 : Int32)), .val (.int ba), .val (.int bb), .val (.int bc), .val (.int bd), .val (.ref b1), .val (.ref cc), .val (.int kk), .val (.int (((0 : Int32) + (own_hit ba kk)) + (own_hit bb kk))), .unset] [])) _
  refine XS.iload X8.here hx rfl (hb hby at_204) rfl ?_
  show Steps p.tables e below (T8.setTop (mkF m 206 #[.val (.int p0), .val (.int p1), .val (.int p2), .val (.int p3), .val (.int p4), .val (.int p5), .val (.int (4 : Int32)), .val (.int ba), .val (.int bb), .val (.int bc), .val (.int bd), .val (.ref b1), .val (.ref cc), .val (.int kk), .val (.int (((0 : Int32) + (own_hit ba kk)) + (own_hit bb kk))), .unset] [(.int (4 : Int32))])) _
  refine XS.iconst X8.here hx rfl (hb hby at_206) ?_
  show Steps p.tables e below (T8.setTop (mkF m 207 #[.val (.int p0), .val (.int p1), .val (.int p2), .val (.int p3), .val (.int p4), .val (.int p5), .val (.int (4 : Int32)), .val (.int ba), .val (.int bb), .val (.int bc), .val (.int bd), .val (.ref b1), .val (.ref cc), .val (.int kk), .val (.int (((0 : Int32) + (own_hit ba kk)) + (own_hit bb kk))), .unset] [(.int (2 : Int32)), (.int (4 : Int32))])) _
  refine XS.icmpNo X8.here hx rfl (hb hby at_207) rfl (tlt (by decide)).2.2.2 ?_
  show Steps p.tables e below (T8.setTop (mkF m 210 #[.val (.int p0), .val (.int p1), .val (.int p2), .val (.int p3), .val (.int p4), .val (.int p5), .val (.int (4 : Int32)), .val (.int ba), .val (.int bb), .val (.int bc), .val (.int bd), .val (.ref b1), .val (.ref cc), .val (.int kk), .val (.int (((0 : Int32) + (own_hit ba kk)) + (own_hit bb kk))), .unset] [])) _
  refine XS.iload X8.here hx rfl (hb hby at_210) rfl ?_
  show Steps p.tables e below (T8.setTop (mkF m 212 #[.val (.int p0), .val (.int p1), .val (.int p2), .val (.int p3), .val (.int p4), .val (.int p5), .val (.int (4 : Int32)), .val (.int ba), .val (.int bb), .val (.int bc), .val (.int bd), .val (.ref b1), .val (.ref cc), .val (.int kk), .val (.int (((0 : Int32) + (own_hit ba kk)) + (own_hit bb kk))), .unset] [(.int (((0 : Int32) + (own_hit ba kk)) + (own_hit bb kk)))])) _
  refine XS.iload X8.here hx rfl (hb hby at_212) rfl ?_
  show Steps p.tables e below (T8.setTop (mkF m 214 #[.val (.int p0), .val (.int p1), .val (.int p2), .val (.int p3), .val (.int p4), .val (.int p5), .val (.int (4 : Int32)), .val (.int ba), .val (.int bb), .val (.int bc), .val (.int bd), .val (.ref b1), .val (.ref cc), .val (.int kk), .val (.int (((0 : Int32) + (own_hit ba kk)) + (own_hit bb kk))), .unset] [(.int bc), (.int (((0 : Int32) + (own_hit ba kk)) + (own_hit bb kk)))])) _
  refine XS.iload X8.here hx rfl (hb hby at_214) rfl ?_
  show Steps p.tables e below (T8.setTop (mkF m 216 #[.val (.int p0), .val (.int p1), .val (.int p2), .val (.int p3), .val (.int p4), .val (.int p5), .val (.int (4 : Int32)), .val (.int ba), .val (.int bb), .val (.int bc), .val (.int bd), .val (.ref b1), .val (.ref cc), .val (.int kk), .val (.int (((0 : Int32) + (own_hit ba kk)) + (own_hit bb kk))), .unset] [(.int kk), (.int bc), (.int (((0 : Int32) + (own_hit ba kk)) + (own_hit bb kk)))])) _
  refine st9 _ ?_
  show Steps p.tables e below (T9.setTop (mkF m 219 #[.val (.int p0), .val (.int p1), .val (.int p2), .val (.int p3), .val (.int p4), .val (.int p5), .val (.int (4 : Int32)), .val (.int ba), .val (.int bb), .val (.int bc), .val (.int bd), .val (.ref b1), .val (.ref cc), .val (.int kk), .val (.int (((0 : Int32) + (own_hit ba kk)) + (own_hit bb kk))), .unset] [(.int (own_hit bc kk)), (.int (((0 : Int32) + (own_hit ba kk)) + (own_hit bb kk)))])) _
  refine XS.iadd X9.here hx rfl (hb hby at_219) rfl ?_
  show Steps p.tables e below (T9.setTop (mkF m 220 #[.val (.int p0), .val (.int p1), .val (.int p2), .val (.int p3), .val (.int p4), .val (.int p5), .val (.int (4 : Int32)), .val (.int ba), .val (.int bb), .val (.int bc), .val (.int bd), .val (.ref b1), .val (.ref cc), .val (.int kk), .val (.int (((0 : Int32) + (own_hit ba kk)) + (own_hit bb kk))), .unset] [(.int ((((0 : Int32) + (own_hit ba kk)) + (own_hit bb kk)) + (own_hit bc kk)))])) _
  refine XS.istore X9.here hx rfl (hb hby at_220) rfl (l' := #[.val (.int p0), .val (.int p1), .val (.int p2), .val (.int p3), .val (.int p4), .val (.int p5), .val (.int (4 : Int32)), .val (.int ba), .val (.int bb), .val (.int bc), .val (.int bd), .val (.ref b1), .val (.ref cc), .val (.int kk), .val (.int ((((0 : Int32) + (own_hit ba kk)) + (own_hit bb kk)) + (own_hit bc kk))), .unset]) rfl ?_
  show Steps p.tables e below (T9.setTop (mkF m 222 #[.val (.int p0), .val (.int p1), .val (.int p2), .val (.int p3), .val (.int p4), .val (.int p5), .val (.int (4 : Int32)), .val (.int ba), .val (.int bb), .val (.int bc), .val (.int bd), .val (.ref b1), .val (.ref cc), .val (.int kk), .val (.int ((((0 : Int32) + (own_hit ba kk)) + (own_hit bb kk)) + (own_hit bc kk))), .unset] [])) _
  refine XS.iload X9.here hx rfl (hb hby at_222) rfl ?_
  show Steps p.tables e below (T9.setTop (mkF m 224 #[.val (.int p0), .val (.int p1), .val (.int p2), .val (.int p3), .val (.int p4), .val (.int p5), .val (.int (4 : Int32)), .val (.int ba), .val (.int bb), .val (.int bc), .val (.int bd), .val (.ref b1), .val (.ref cc), .val (.int kk), .val (.int ((((0 : Int32) + (own_hit ba kk)) + (own_hit bb kk)) + (own_hit bc kk))), .unset] [(.int (4 : Int32))])) _
  refine XS.iconst X9.here hx rfl (hb hby at_224) ?_
  show Steps p.tables e below (T9.setTop (mkF m 225 #[.val (.int p0), .val (.int p1), .val (.int p2), .val (.int p3), .val (.int p4), .val (.int p5), .val (.int (4 : Int32)), .val (.int ba), .val (.int bb), .val (.int bc), .val (.int bd), .val (.ref b1), .val (.ref cc), .val (.int kk), .val (.int ((((0 : Int32) + (own_hit ba kk)) + (own_hit bb kk)) + (own_hit bc kk))), .unset] [(.int (3 : Int32)), (.int (4 : Int32))])) _
  refine XS.icmpNo X9.here hx rfl (hb hby at_225) rfl (tlt (by decide)).2.2.2 ?_
  show Steps p.tables e below (T9.setTop (mkF m 228 #[.val (.int p0), .val (.int p1), .val (.int p2), .val (.int p3), .val (.int p4), .val (.int p5), .val (.int (4 : Int32)), .val (.int ba), .val (.int bb), .val (.int bc), .val (.int bd), .val (.ref b1), .val (.ref cc), .val (.int kk), .val (.int ((((0 : Int32) + (own_hit ba kk)) + (own_hit bb kk)) + (own_hit bc kk))), .unset] [])) _
  refine XS.iload X9.here hx rfl (hb hby at_228) rfl ?_
  show Steps p.tables e below (T9.setTop (mkF m 230 #[.val (.int p0), .val (.int p1), .val (.int p2), .val (.int p3), .val (.int p4), .val (.int p5), .val (.int (4 : Int32)), .val (.int ba), .val (.int bb), .val (.int bc), .val (.int bd), .val (.ref b1), .val (.ref cc), .val (.int kk), .val (.int ((((0 : Int32) + (own_hit ba kk)) + (own_hit bb kk)) + (own_hit bc kk))), .unset] [(.int ((((0 : Int32) + (own_hit ba kk)) + (own_hit bb kk)) + (own_hit bc kk)))])) _
  refine XS.iload X9.here hx rfl (hb hby at_230) rfl ?_
  show Steps p.tables e below (T9.setTop (mkF m 232 #[.val (.int p0), .val (.int p1), .val (.int p2), .val (.int p3), .val (.int p4), .val (.int p5), .val (.int (4 : Int32)), .val (.int ba), .val (.int bb), .val (.int bc), .val (.int bd), .val (.ref b1), .val (.ref cc), .val (.int kk), .val (.int ((((0 : Int32) + (own_hit ba kk)) + (own_hit bb kk)) + (own_hit bc kk))), .unset] [(.int bd), (.int ((((0 : Int32) + (own_hit ba kk)) + (own_hit bb kk)) + (own_hit bc kk)))])) _
  refine XS.iload X9.here hx rfl (hb hby at_232) rfl ?_
  show Steps p.tables e below (T9.setTop (mkF m 234 #[.val (.int p0), .val (.int p1), .val (.int p2), .val (.int p3), .val (.int p4), .val (.int p5), .val (.int (4 : Int32)), .val (.int ba), .val (.int bb), .val (.int bc), .val (.int bd), .val (.ref b1), .val (.ref cc), .val (.int kk), .val (.int ((((0 : Int32) + (own_hit ba kk)) + (own_hit bb kk)) + (own_hit bc kk))), .unset] [(.int kk), (.int bd), (.int ((((0 : Int32) + (own_hit ba kk)) + (own_hit bb kk)) + (own_hit bc kk)))])) _
  refine st10 _ ?_
  show Steps p.tables e below (T10.setTop (mkF m 237 #[.val (.int p0), .val (.int p1), .val (.int p2), .val (.int p3), .val (.int p4), .val (.int p5), .val (.int (4 : Int32)), .val (.int ba), .val (.int bb), .val (.int bc), .val (.int bd), .val (.ref b1), .val (.ref cc), .val (.int kk), .val (.int ((((0 : Int32) + (own_hit ba kk)) + (own_hit bb kk)) + (own_hit bc kk))), .unset] [(.int (own_hit bd kk)), (.int ((((0 : Int32) + (own_hit ba kk)) + (own_hit bb kk)) + (own_hit bc kk)))])) _
  refine XS.iadd X10.here hx rfl (hb hby at_237) rfl ?_
  show Steps p.tables e below (T10.setTop (mkF m 238 #[.val (.int p0), .val (.int p1), .val (.int p2), .val (.int p3), .val (.int p4), .val (.int p5), .val (.int (4 : Int32)), .val (.int ba), .val (.int bb), .val (.int bc), .val (.int bd), .val (.ref b1), .val (.ref cc), .val (.int kk), .val (.int ((((0 : Int32) + (own_hit ba kk)) + (own_hit bb kk)) + (own_hit bc kk))), .unset] [(.int (((((0 : Int32) + (own_hit ba kk)) + (own_hit bb kk)) + (own_hit bc kk)) + (own_hit bd kk)))])) _
  refine XS.istore X10.here hx rfl (hb hby at_238) rfl (l' := #[.val (.int p0), .val (.int p1), .val (.int p2), .val (.int p3), .val (.int p4), .val (.int p5), .val (.int (4 : Int32)), .val (.int ba), .val (.int bb), .val (.int bc), .val (.int bd), .val (.ref b1), .val (.ref cc), .val (.int kk), .val (.int (((((0 : Int32) + (own_hit ba kk)) + (own_hit bb kk)) + (own_hit bc kk)) + (own_hit bd kk))), .unset]) rfl ?_
  show Steps p.tables e below (T10.setTop (mkF m 240 #[.val (.int p0), .val (.int p1), .val (.int p2), .val (.int p3), .val (.int p4), .val (.int p5), .val (.int (4 : Int32)), .val (.int ba), .val (.int bb), .val (.int bc), .val (.int bd), .val (.ref b1), .val (.ref cc), .val (.int kk), .val (.int (((((0 : Int32) + (own_hit ba kk)) + (own_hit bb kk)) + (own_hit bc kk)) + (own_hit bd kk))), .unset] [])) _
  refine XS.aload X10.here hx rfl (hb hby at_240) rfl rfl ?_
  show Steps p.tables e below (T10.setTop (mkF m 242 #[.val (.int p0), .val (.int p1), .val (.int p2), .val (.int p3), .val (.int p4), .val (.int p5), .val (.int (4 : Int32)), .val (.int ba), .val (.int bb), .val (.int bc), .val (.int bd), .val (.ref b1), .val (.ref cc), .val (.int kk), .val (.int (((((0 : Int32) + (own_hit ba kk)) + (own_hit bb kk)) + (own_hit bc kk)) + (own_hit bd kk))), .unset] [(.ref b1)])) _
  refine own_len X10 hx hZ e10 AD6 rfl rfl (hb hby at_242) ?_
  show Steps p.tables e below (T10.setTop (mkF m 243 #[.val (.int p0), .val (.int p1), .val (.int p2), .val (.int p3), .val (.int p4), .val (.int p5), .val (.int (4 : Int32)), .val (.int ba), .val (.int bb), .val (.int bc), .val (.int bd), .val (.ref b1), .val (.ref cc), .val (.int kk), .val (.int (((((0 : Int32) + (own_hit ba kk)) + (own_hit bb kk)) + (own_hit bc kk)) + (own_hit bd kk))), .unset] [(.int (4 : Int32))])) _
  refine XS.iload X10.here hx rfl (hb hby at_243) rfl ?_
  show Steps p.tables e below (T10.setTop (mkF m 245 #[.val (.int p0), .val (.int p1), .val (.int p2), .val (.int p3), .val (.int p4), .val (.int p5), .val (.int (4 : Int32)), .val (.int ba), .val (.int bb), .val (.int bc), .val (.int bd), .val (.ref b1), .val (.ref cc), .val (.int kk), .val (.int (((((0 : Int32) + (own_hit ba kk)) + (own_hit bb kk)) + (own_hit bc kk)) + (own_hit bd kk))), .unset] [(.int (4 : Int32)), (.int (4 : Int32))])) _
  refine XS.icmpNo X10.here hx rfl (hb hby at_245) rfl (teq (rfl : (4 : Int32) = (4 : Int32))).2 ?_
  show Steps p.tables e below (T10.setTop (mkF m 248 #[.val (.int p0), .val (.int p1), .val (.int p2), .val (.int p3), .val (.int p4), .val (.int p5), .val (.int (4 : Int32)), .val (.int ba), .val (.int bb), .val (.int bc), .val (.int bd), .val (.ref b1), .val (.ref cc), .val (.int kk), .val (.int (((((0 : Int32) + (own_hit ba kk)) + (own_hit bb kk)) + (own_hit bc kk)) + (own_hit bd kk))), .unset] [])) _
  refine XS.iconst X10.here hx rfl (hb hby at_248) ?_
  show Steps p.tables e below (T10.setTop (mkF m 249 #[.val (.int p0), .val (.int p1), .val (.int p2), .val (.int p3), .val (.int p4), .val (.int p5), .val (.int (4 : Int32)), .val (.int ba), .val (.int bb), .val (.int bc), .val (.int bd), .val (.ref b1), .val (.ref cc), .val (.int kk), .val (.int (((((0 : Int32) + (own_hit ba kk)) + (own_hit bb kk)) + (own_hit bc kk)) + (own_hit bd kk))), .unset] [(.int (1 : Int32))])) _
  refine XS.goto X10.here hx rfl (pc0 := 249) (pc' := 253) rfl (hb hby at_249) (by decide) (by decide) ?_
  show Steps p.tables e below (T10.setTop (mkF m 253 #[.val (.int p0), .val (.int p1), .val (.int p2), .val (.int p3), .val (.int p4), .val (.int p5), .val (.int (4 : Int32)), .val (.int ba), .val (.int bb), .val (.int bc), .val (.int bd), .val (.ref b1), .val (.ref cc), .val (.int kk), .val (.int (((((0 : Int32) + (own_hit ba kk)) + (own_hit bb kk)) + (own_hit bc kk)) + (own_hit bd kk))), .unset] [(.int (1 : Int32))])) _
  refine XS.istore X10.here hx rfl (hb hby at_253) rfl (l' := #[.val (.int p0), .val (.int p1), .val (.int p2), .val (.int p3), .val (.int p4), .val (.int p5), .val (.int (4 : Int32)), .val (.int ba), .val (.int bb), .val (.int bc), .val (.int bd), .val (.ref b1), .val (.ref cc), .val (.int kk), .val (.int (((((0 : Int32) + (own_hit ba kk)) + (own_hit bb kk)) + (own_hit bc kk)) + (own_hit bd kk))), .val (.int (1 : Int32))]) rfl ?_
  show Steps p.tables e below (T10.setTop (mkF m 255 #[.val (.int p0), .val (.int p1), .val (.int p2), .val (.int p3), .val (.int p4), .val (.int p5), .val (.int (4 : Int32)), .val (.int ba), .val (.int bb), .val (.int bc), .val (.int bd), .val (.ref b1), .val (.ref cc), .val (.int kk), .val (.int (((((0 : Int32) + (own_hit ba kk)) + (own_hit bb kk)) + (own_hit bc kk)) + (own_hit bd kk))), .val (.int (1 : Int32))] [])) _
  refine XS.iload X10.here hx rfl (hb hby at_255) rfl ?_
  show Steps p.tables e below (T10.setTop (mkF m 257 #[.val (.int p0), .val (.int p1), .val (.int p2), .val (.int p3), .val (.int p4), .val (.int p5), .val (.int (4 : Int32)), .val (.int ba), .val (.int bb), .val (.int bc), .val (.int bd), .val (.ref b1), .val (.ref cc), .val (.int kk), .val (.int (((((0 : Int32) + (own_hit ba kk)) + (own_hit bb kk)) + (own_hit bc kk)) + (own_hit bd kk))), .val (.int (1 : Int32))] [(.int (4 : Int32))])) _
  refine XS.ifNo X10.here hx rfl (hb hby at_257) rfl ((if0 _ _).trans (tlt (by decide)).2.2.2) ?_
  show Steps p.tables e below (T10.setTop (mkF m 260 #[.val (.int p0), .val (.int p1), .val (.int p2), .val (.int p3), .val (.int p4), .val (.int p5), .val (.int (4 : Int32)), .val (.int ba), .val (.int bb), .val (.int bc), .val (.int bd), .val (.ref b1), .val (.ref cc), .val (.int kk), .val (.int (((((0 : Int32) + (own_hit ba kk)) + (own_hit bb kk)) + (own_hit bc kk)) + (own_hit bd kk))), .val (.int (1 : Int32))] [])) _
  refine XS.iload X10.here hx rfl (hb hby at_260) rfl ?_
  show Steps p.tables e below (T10.setTop (mkF m 262 #[.val (.int p0), .val (.int p1), .val (.int p2), .val (.int p3), .val (.int p4), .val (.int p5), .val (.int (4 : Int32)), .val (.int ba), .val (.int bb), .val (.int bc), .val (.int bd), .val (.ref b1), .val (.ref cc), .val (.int kk), .val (.int (((((0 : Int32) + (own_hit ba kk)) + (own_hit bb kk)) + (own_hit bc kk)) + (own_hit bd kk))), .val (.int (1 : Int32))] [(.int (1 : Int32))])) _
  refine XS.ifNo X10.here hx rfl (hb hby at_262) rfl ((if0 _ _).trans (feq (by decide)).1) ?_
  show Steps p.tables e below (T10.setTop (mkF m 265 #[.val (.int p0), .val (.int p1), .val (.int p2), .val (.int p3), .val (.int p4), .val (.int p5), .val (.int (4 : Int32)), .val (.int ba), .val (.int bb), .val (.int bc), .val (.int bd), .val (.ref b1), .val (.ref cc), .val (.int kk), .val (.int (((((0 : Int32) + (own_hit ba kk)) + (own_hit bb kk)) + (own_hit bc kk)) + (own_hit bd kk))), .val (.int (1 : Int32))] [])) _
  refine XS.aload X10.here hx rfl (hb hby at_265) rfl rfl ?_
  show Steps p.tables e below (T10.setTop (mkF m 267 #[.val (.int p0), .val (.int p1), .val (.int p2), .val (.int p3), .val (.int p4), .val (.int p5), .val (.int (4 : Int32)), .val (.int ba), .val (.int bb), .val (.int bc), .val (.int bd), .val (.ref b1), .val (.ref cc), .val (.int kk), .val (.int (((((0 : Int32) + (own_hit ba kk)) + (own_hit bb kk)) + (own_hit bc kk)) + (own_hit bd kk))), .val (.int (1 : Int32))] [(.ref b1)])) _
  refine XS.iconst X10.here hx rfl (hb hby at_267) ?_
  show Steps p.tables e below (T10.setTop (mkF m 268 #[.val (.int p0), .val (.int p1), .val (.int p2), .val (.int p3), .val (.int p4), .val (.int p5), .val (.int (4 : Int32)), .val (.int ba), .val (.int bb), .val (.int bc), .val (.int bd), .val (.ref b1), .val (.ref cc), .val (.int kk), .val (.int (((((0 : Int32) + (own_hit ba kk)) + (own_hit bb kk)) + (own_hit bc kk)) + (own_hit bd kk))), .val (.int (1 : Int32))] [(.int (0 : Int32)), (.ref b1)])) _
  refine own_ldB X10 hx hZ e10 AD6 (j := (0 : Int32)) ⟨by decide, by decide⟩ rfl rfl (hb hby at_268) ?_
  show Steps p.tables e below (T10.setTop (mkF m 269 #[.val (.int p0), .val (.int p1), .val (.int p2), .val (.int p3), .val (.int p4), .val (.int p5), .val (.int (4 : Int32)), .val (.int ba), .val (.int bb), .val (.int bc), .val (.int bd), .val (.ref b1), .val (.ref cc), .val (.int kk), .val (.int (((((0 : Int32) + (own_hit ba kk)) + (own_hit bb kk)) + (own_hit bc kk)) + (own_hit bd kk))), .val (.int (1 : Int32))] [(.int ba)])) _
  refine XS.iload X10.here hx rfl (hb hby at_269) rfl ?_
  show Steps p.tables e below (T10.setTop (mkF m 271 #[.val (.int p0), .val (.int p1), .val (.int p2), .val (.int p3), .val (.int p4), .val (.int p5), .val (.int (4 : Int32)), .val (.int ba), .val (.int bb), .val (.int bc), .val (.int bd), .val (.ref b1), .val (.ref cc), .val (.int kk), .val (.int (((((0 : Int32) + (own_hit ba kk)) + (own_hit bb kk)) + (own_hit bc kk)) + (own_hit bd kk))), .val (.int (1 : Int32))] [(.int ba), (.int ba)])) _
  refine XS.icmpNo X10.here hx rfl (hb hby at_271) rfl (teq (rfl : ba = ba)).2 ?_
  show Steps p.tables e below (T10.setTop (mkF m 274 #[.val (.int p0), .val (.int p1), .val (.int p2), .val (.int p3), .val (.int p4), .val (.int p5), .val (.int (4 : Int32)), .val (.int ba), .val (.int bb), .val (.int bc), .val (.int bd), .val (.ref b1), .val (.ref cc), .val (.int kk), .val (.int (((((0 : Int32) + (own_hit ba kk)) + (own_hit bb kk)) + (own_hit bc kk)) + (own_hit bd kk))), .val (.int (1 : Int32))] [])) _
  refine XS.iconst X10.here hx rfl (hb hby at_274) ?_
  show Steps p.tables e below (T10.setTop (mkF m 275 #[.val (.int p0), .val (.int p1), .val (.int p2), .val (.int p3), .val (.int p4), .val (.int p5), .val (.int (4 : Int32)), .val (.int ba), .val (.int bb), .val (.int bc), .val (.int bd), .val (.ref b1), .val (.ref cc), .val (.int kk), .val (.int (((((0 : Int32) + (own_hit ba kk)) + (own_hit bb kk)) + (own_hit bc kk)) + (own_hit bd kk))), .val (.int (1 : Int32))] [(.int (1 : Int32))])) _
  refine XS.goto X10.here hx rfl (pc0 := 275) (pc' := 279) rfl (hb hby at_275) (by decide) (by decide) ?_
  show Steps p.tables e below (T10.setTop (mkF m 279 #[.val (.int p0), .val (.int p1), .val (.int p2), .val (.int p3), .val (.int p4), .val (.int p5), .val (.int (4 : Int32)), .val (.int ba), .val (.int bb), .val (.int bc), .val (.int bd), .val (.ref b1), .val (.ref cc), .val (.int kk), .val (.int (((((0 : Int32) + (own_hit ba kk)) + (own_hit bb kk)) + (own_hit bc kk)) + (own_hit bd kk))), .val (.int (1 : Int32))] [(.int (1 : Int32))])) _
  refine XS.istore X10.here hx rfl (hb hby at_279) rfl (l' := #[.val (.int p0), .val (.int p1), .val (.int p2), .val (.int p3), .val (.int p4), .val (.int p5), .val (.int (4 : Int32)), .val (.int ba), .val (.int bb), .val (.int bc), .val (.int bd), .val (.ref b1), .val (.ref cc), .val (.int kk), .val (.int (((((0 : Int32) + (own_hit ba kk)) + (own_hit bb kk)) + (own_hit bc kk)) + (own_hit bd kk))), .val (.int (1 : Int32))]) rfl ?_
  show Steps p.tables e below (T10.setTop (mkF m 281 #[.val (.int p0), .val (.int p1), .val (.int p2), .val (.int p3), .val (.int p4), .val (.int p5), .val (.int (4 : Int32)), .val (.int ba), .val (.int bb), .val (.int bc), .val (.int bd), .val (.ref b1), .val (.ref cc), .val (.int kk), .val (.int (((((0 : Int32) + (own_hit ba kk)) + (own_hit bb kk)) + (own_hit bc kk)) + (own_hit bd kk))), .val (.int (1 : Int32))] [])) _
  refine XS.iload X10.here hx rfl (hb hby at_281) rfl ?_
  show Steps p.tables e below (T10.setTop (mkF m 283 #[.val (.int p0), .val (.int p1), .val (.int p2), .val (.int p3), .val (.int p4), .val (.int p5), .val (.int (4 : Int32)), .val (.int ba), .val (.int bb), .val (.int bc), .val (.int bd), .val (.ref b1), .val (.ref cc), .val (.int kk), .val (.int (((((0 : Int32) + (own_hit ba kk)) + (own_hit bb kk)) + (own_hit bc kk)) + (own_hit bd kk))), .val (.int (1 : Int32))] [(.int (4 : Int32))])) _
  refine XS.iconst X10.here hx rfl (hb hby at_283) ?_
  show Steps p.tables e below (T10.setTop (mkF m 284 #[.val (.int p0), .val (.int p1), .val (.int p2), .val (.int p3), .val (.int p4), .val (.int p5), .val (.int (4 : Int32)), .val (.int ba), .val (.int bb), .val (.int bc), .val (.int bd), .val (.ref b1), .val (.ref cc), .val (.int kk), .val (.int (((((0 : Int32) + (own_hit ba kk)) + (own_hit bb kk)) + (own_hit bc kk)) + (own_hit bd kk))), .val (.int (1 : Int32))] [(.int (1 : Int32)), (.int (4 : Int32))])) _
  refine XS.icmpNo X10.here hx rfl (hb hby at_284) rfl (tlt (by decide)).2.2.2 ?_
  show Steps p.tables e below (T10.setTop (mkF m 287 #[.val (.int p0), .val (.int p1), .val (.int p2), .val (.int p3), .val (.int p4), .val (.int p5), .val (.int (4 : Int32)), .val (.int ba), .val (.int bb), .val (.int bc), .val (.int bd), .val (.ref b1), .val (.ref cc), .val (.int kk), .val (.int (((((0 : Int32) + (own_hit ba kk)) + (own_hit bb kk)) + (own_hit bc kk)) + (own_hit bd kk))), .val (.int (1 : Int32))] [])) _
  refine XS.iload X10.here hx rfl (hb hby at_287) rfl ?_
  show Steps p.tables e below (T10.setTop (mkF m 289 #[.val (.int p0), .val (.int p1), .val (.int p2), .val (.int p3), .val (.int p4), .val (.int p5), .val (.int (4 : Int32)), .val (.int ba), .val (.int bb), .val (.int bc), .val (.int bd), .val (.ref b1), .val (.ref cc), .val (.int kk), .val (.int (((((0 : Int32) + (own_hit ba kk)) + (own_hit bb kk)) + (own_hit bc kk)) + (own_hit bd kk))), .val (.int (1 : Int32))] [(.int (1 : Int32))])) _
  refine XS.ifNo X10.here hx rfl (hb hby at_289) rfl ((if0 _ _).trans (feq (by decide)).1) ?_
  show Steps p.tables e below (T10.setTop (mkF m 292 #[.val (.int p0), .val (.int p1), .val (.int p2), .val (.int p3), .val (.int p4), .val (.int p5), .val (.int (4 : Int32)), .val (.int ba), .val (.int bb), .val (.int bc), .val (.int bd), .val (.ref b1), .val (.ref cc), .val (.int kk), .val (.int (((((0 : Int32) + (own_hit ba kk)) + (own_hit bb kk)) + (own_hit bc kk)) + (own_hit bd kk))), .val (.int (1 : Int32))] [])) _
  refine XS.aload X10.here hx rfl (hb hby at_292) rfl rfl ?_
  show Steps p.tables e below (T10.setTop (mkF m 294 #[.val (.int p0), .val (.int p1), .val (.int p2), .val (.int p3), .val (.int p4), .val (.int p5), .val (.int (4 : Int32)), .val (.int ba), .val (.int bb), .val (.int bc), .val (.int bd), .val (.ref b1), .val (.ref cc), .val (.int kk), .val (.int (((((0 : Int32) + (own_hit ba kk)) + (own_hit bb kk)) + (own_hit bc kk)) + (own_hit bd kk))), .val (.int (1 : Int32))] [(.ref b1)])) _
  refine XS.iconst X10.here hx rfl (hb hby at_294) ?_
  show Steps p.tables e below (T10.setTop (mkF m 295 #[.val (.int p0), .val (.int p1), .val (.int p2), .val (.int p3), .val (.int p4), .val (.int p5), .val (.int (4 : Int32)), .val (.int ba), .val (.int bb), .val (.int bc), .val (.int bd), .val (.ref b1), .val (.ref cc), .val (.int kk), .val (.int (((((0 : Int32) + (own_hit ba kk)) + (own_hit bb kk)) + (own_hit bc kk)) + (own_hit bd kk))), .val (.int (1 : Int32))] [(.int (1 : Int32)), (.ref b1)])) _
  refine own_ldB X10 hx hZ e10 AD6 (j := (1 : Int32)) ⟨by decide, by decide⟩ rfl rfl (hb hby at_295) ?_
  show Steps p.tables e below (T10.setTop (mkF m 296 #[.val (.int p0), .val (.int p1), .val (.int p2), .val (.int p3), .val (.int p4), .val (.int p5), .val (.int (4 : Int32)), .val (.int ba), .val (.int bb), .val (.int bc), .val (.int bd), .val (.ref b1), .val (.ref cc), .val (.int kk), .val (.int (((((0 : Int32) + (own_hit ba kk)) + (own_hit bb kk)) + (own_hit bc kk)) + (own_hit bd kk))), .val (.int (1 : Int32))] [(.int bb)])) _
  refine XS.iload X10.here hx rfl (hb hby at_296) rfl ?_
  show Steps p.tables e below (T10.setTop (mkF m 298 #[.val (.int p0), .val (.int p1), .val (.int p2), .val (.int p3), .val (.int p4), .val (.int p5), .val (.int (4 : Int32)), .val (.int ba), .val (.int bb), .val (.int bc), .val (.int bd), .val (.ref b1), .val (.ref cc), .val (.int kk), .val (.int (((((0 : Int32) + (own_hit ba kk)) + (own_hit bb kk)) + (own_hit bc kk)) + (own_hit bd kk))), .val (.int (1 : Int32))] [(.int bb), (.int bb)])) _
  refine XS.icmpNo X10.here hx rfl (hb hby at_298) rfl (teq (rfl : bb = bb)).2 ?_
  show Steps p.tables e below (T10.setTop (mkF m 301 #[.val (.int p0), .val (.int p1), .val (.int p2), .val (.int p3), .val (.int p4), .val (.int p5), .val (.int (4 : Int32)), .val (.int ba), .val (.int bb), .val (.int bc), .val (.int bd), .val (.ref b1), .val (.ref cc), .val (.int kk), .val (.int (((((0 : Int32) + (own_hit ba kk)) + (own_hit bb kk)) + (own_hit bc kk)) + (own_hit bd kk))), .val (.int (1 : Int32))] [])) _
  refine XS.iconst X10.here hx rfl (hb hby at_301) ?_
  show Steps p.tables e below (T10.setTop (mkF m 302 #[.val (.int p0), .val (.int p1), .val (.int p2), .val (.int p3), .val (.int p4), .val (.int p5), .val (.int (4 : Int32)), .val (.int ba), .val (.int bb), .val (.int bc), .val (.int bd), .val (.ref b1), .val (.ref cc), .val (.int kk), .val (.int (((((0 : Int32) + (own_hit ba kk)) + (own_hit bb kk)) + (own_hit bc kk)) + (own_hit bd kk))), .val (.int (1 : Int32))] [(.int (1 : Int32))])) _
  refine XS.goto X10.here hx rfl (pc0 := 302) (pc' := 306) rfl (hb hby at_302) (by decide) (by decide) ?_
  show Steps p.tables e below (T10.setTop (mkF m 306 #[.val (.int p0), .val (.int p1), .val (.int p2), .val (.int p3), .val (.int p4), .val (.int p5), .val (.int (4 : Int32)), .val (.int ba), .val (.int bb), .val (.int bc), .val (.int bd), .val (.ref b1), .val (.ref cc), .val (.int kk), .val (.int (((((0 : Int32) + (own_hit ba kk)) + (own_hit bb kk)) + (own_hit bc kk)) + (own_hit bd kk))), .val (.int (1 : Int32))] [(.int (1 : Int32))])) _
  refine XS.istore X10.here hx rfl (hb hby at_306) rfl (l' := #[.val (.int p0), .val (.int p1), .val (.int p2), .val (.int p3), .val (.int p4), .val (.int p5), .val (.int (4 : Int32)), .val (.int ba), .val (.int bb), .val (.int bc), .val (.int bd), .val (.ref b1), .val (.ref cc), .val (.int kk), .val (.int (((((0 : Int32) + (own_hit ba kk)) + (own_hit bb kk)) + (own_hit bc kk)) + (own_hit bd kk))), .val (.int (1 : Int32))]) rfl ?_
  show Steps p.tables e below (T10.setTop (mkF m 308 #[.val (.int p0), .val (.int p1), .val (.int p2), .val (.int p3), .val (.int p4), .val (.int p5), .val (.int (4 : Int32)), .val (.int ba), .val (.int bb), .val (.int bc), .val (.int bd), .val (.ref b1), .val (.ref cc), .val (.int kk), .val (.int (((((0 : Int32) + (own_hit ba kk)) + (own_hit bb kk)) + (own_hit bc kk)) + (own_hit bd kk))), .val (.int (1 : Int32))] [])) _
  refine XS.iload X10.here hx rfl (hb hby at_308) rfl ?_
  show Steps p.tables e below (T10.setTop (mkF m 310 #[.val (.int p0), .val (.int p1), .val (.int p2), .val (.int p3), .val (.int p4), .val (.int p5), .val (.int (4 : Int32)), .val (.int ba), .val (.int bb), .val (.int bc), .val (.int bd), .val (.ref b1), .val (.ref cc), .val (.int kk), .val (.int (((((0 : Int32) + (own_hit ba kk)) + (own_hit bb kk)) + (own_hit bc kk)) + (own_hit bd kk))), .val (.int (1 : Int32))] [(.int (4 : Int32))])) _
  refine XS.iconst X10.here hx rfl (hb hby at_310) ?_
  show Steps p.tables e below (T10.setTop (mkF m 311 #[.val (.int p0), .val (.int p1), .val (.int p2), .val (.int p3), .val (.int p4), .val (.int p5), .val (.int (4 : Int32)), .val (.int ba), .val (.int bb), .val (.int bc), .val (.int bd), .val (.ref b1), .val (.ref cc), .val (.int kk), .val (.int (((((0 : Int32) + (own_hit ba kk)) + (own_hit bb kk)) + (own_hit bc kk)) + (own_hit bd kk))), .val (.int (1 : Int32))] [(.int (2 : Int32)), (.int (4 : Int32))])) _
  refine XS.icmpNo X10.here hx rfl (hb hby at_311) rfl (tlt (by decide)).2.2.2 ?_
  show Steps p.tables e below (T10.setTop (mkF m 314 #[.val (.int p0), .val (.int p1), .val (.int p2), .val (.int p3), .val (.int p4), .val (.int p5), .val (.int (4 : Int32)), .val (.int ba), .val (.int bb), .val (.int bc), .val (.int bd), .val (.ref b1), .val (.ref cc), .val (.int kk), .val (.int (((((0 : Int32) + (own_hit ba kk)) + (own_hit bb kk)) + (own_hit bc kk)) + (own_hit bd kk))), .val (.int (1 : Int32))] [])) _
  refine XS.iload X10.here hx rfl (hb hby at_314) rfl ?_
  show Steps p.tables e below (T10.setTop (mkF m 316 #[.val (.int p0), .val (.int p1), .val (.int p2), .val (.int p3), .val (.int p4), .val (.int p5), .val (.int (4 : Int32)), .val (.int ba), .val (.int bb), .val (.int bc), .val (.int bd), .val (.ref b1), .val (.ref cc), .val (.int kk), .val (.int (((((0 : Int32) + (own_hit ba kk)) + (own_hit bb kk)) + (own_hit bc kk)) + (own_hit bd kk))), .val (.int (1 : Int32))] [(.int (1 : Int32))])) _
  refine XS.ifNo X10.here hx rfl (hb hby at_316) rfl ((if0 _ _).trans (feq (by decide)).1) ?_
  show Steps p.tables e below (T10.setTop (mkF m 319 #[.val (.int p0), .val (.int p1), .val (.int p2), .val (.int p3), .val (.int p4), .val (.int p5), .val (.int (4 : Int32)), .val (.int ba), .val (.int bb), .val (.int bc), .val (.int bd), .val (.ref b1), .val (.ref cc), .val (.int kk), .val (.int (((((0 : Int32) + (own_hit ba kk)) + (own_hit bb kk)) + (own_hit bc kk)) + (own_hit bd kk))), .val (.int (1 : Int32))] [])) _
  refine XS.aload X10.here hx rfl (hb hby at_319) rfl rfl ?_
  show Steps p.tables e below (T10.setTop (mkF m 321 #[.val (.int p0), .val (.int p1), .val (.int p2), .val (.int p3), .val (.int p4), .val (.int p5), .val (.int (4 : Int32)), .val (.int ba), .val (.int bb), .val (.int bc), .val (.int bd), .val (.ref b1), .val (.ref cc), .val (.int kk), .val (.int (((((0 : Int32) + (own_hit ba kk)) + (own_hit bb kk)) + (own_hit bc kk)) + (own_hit bd kk))), .val (.int (1 : Int32))] [(.ref b1)])) _
  refine XS.iconst X10.here hx rfl (hb hby at_321) ?_
  show Steps p.tables e below (T10.setTop (mkF m 322 #[.val (.int p0), .val (.int p1), .val (.int p2), .val (.int p3), .val (.int p4), .val (.int p5), .val (.int (4 : Int32)), .val (.int ba), .val (.int bb), .val (.int bc), .val (.int bd), .val (.ref b1), .val (.ref cc), .val (.int kk), .val (.int (((((0 : Int32) + (own_hit ba kk)) + (own_hit bb kk)) + (own_hit bc kk)) + (own_hit bd kk))), .val (.int (1 : Int32))] [(.int (2 : Int32)), (.ref b1)])) _
  refine own_ldB X10 hx hZ e10 AD6 (j := (2 : Int32)) ⟨by decide, by decide⟩ rfl rfl (hb hby at_322) ?_
  show Steps p.tables e below (T10.setTop (mkF m 323 #[.val (.int p0), .val (.int p1), .val (.int p2), .val (.int p3), .val (.int p4), .val (.int p5), .val (.int (4 : Int32)), .val (.int ba), .val (.int bb), .val (.int bc), .val (.int bd), .val (.ref b1), .val (.ref cc), .val (.int kk), .val (.int (((((0 : Int32) + (own_hit ba kk)) + (own_hit bb kk)) + (own_hit bc kk)) + (own_hit bd kk))), .val (.int (1 : Int32))] [(.int bc)])) _
  refine XS.iload X10.here hx rfl (hb hby at_323) rfl ?_
  show Steps p.tables e below (T10.setTop (mkF m 325 #[.val (.int p0), .val (.int p1), .val (.int p2), .val (.int p3), .val (.int p4), .val (.int p5), .val (.int (4 : Int32)), .val (.int ba), .val (.int bb), .val (.int bc), .val (.int bd), .val (.ref b1), .val (.ref cc), .val (.int kk), .val (.int (((((0 : Int32) + (own_hit ba kk)) + (own_hit bb kk)) + (own_hit bc kk)) + (own_hit bd kk))), .val (.int (1 : Int32))] [(.int bc), (.int bc)])) _
  refine XS.icmpNo X10.here hx rfl (hb hby at_325) rfl (teq (rfl : bc = bc)).2 ?_
  show Steps p.tables e below (T10.setTop (mkF m 328 #[.val (.int p0), .val (.int p1), .val (.int p2), .val (.int p3), .val (.int p4), .val (.int p5), .val (.int (4 : Int32)), .val (.int ba), .val (.int bb), .val (.int bc), .val (.int bd), .val (.ref b1), .val (.ref cc), .val (.int kk), .val (.int (((((0 : Int32) + (own_hit ba kk)) + (own_hit bb kk)) + (own_hit bc kk)) + (own_hit bd kk))), .val (.int (1 : Int32))] [])) _
  refine XS.iconst X10.here hx rfl (hb hby at_328) ?_
  show Steps p.tables e below (T10.setTop (mkF m 329 #[.val (.int p0), .val (.int p1), .val (.int p2), .val (.int p3), .val (.int p4), .val (.int p5), .val (.int (4 : Int32)), .val (.int ba), .val (.int bb), .val (.int bc), .val (.int bd), .val (.ref b1), .val (.ref cc), .val (.int kk), .val (.int (((((0 : Int32) + (own_hit ba kk)) + (own_hit bb kk)) + (own_hit bc kk)) + (own_hit bd kk))), .val (.int (1 : Int32))] [(.int (1 : Int32))])) _
  refine XS.goto X10.here hx rfl (pc0 := 329) (pc' := 333) rfl (hb hby at_329) (by decide) (by decide) ?_
  show Steps p.tables e below (T10.setTop (mkF m 333 #[.val (.int p0), .val (.int p1), .val (.int p2), .val (.int p3), .val (.int p4), .val (.int p5), .val (.int (4 : Int32)), .val (.int ba), .val (.int bb), .val (.int bc), .val (.int bd), .val (.ref b1), .val (.ref cc), .val (.int kk), .val (.int (((((0 : Int32) + (own_hit ba kk)) + (own_hit bb kk)) + (own_hit bc kk)) + (own_hit bd kk))), .val (.int (1 : Int32))] [(.int (1 : Int32))])) _
  refine XS.istore X10.here hx rfl (hb hby at_333) rfl (l' := #[.val (.int p0), .val (.int p1), .val (.int p2), .val (.int p3), .val (.int p4), .val (.int p5), .val (.int (4 : Int32)), .val (.int ba), .val (.int bb), .val (.int bc), .val (.int bd), .val (.ref b1), .val (.ref cc), .val (.int kk), .val (.int (((((0 : Int32) + (own_hit ba kk)) + (own_hit bb kk)) + (own_hit bc kk)) + (own_hit bd kk))), .val (.int (1 : Int32))]) rfl ?_
  show Steps p.tables e below (T10.setTop (mkF m 335 #[.val (.int p0), .val (.int p1), .val (.int p2), .val (.int p3), .val (.int p4), .val (.int p5), .val (.int (4 : Int32)), .val (.int ba), .val (.int bb), .val (.int bc), .val (.int bd), .val (.ref b1), .val (.ref cc), .val (.int kk), .val (.int (((((0 : Int32) + (own_hit ba kk)) + (own_hit bb kk)) + (own_hit bc kk)) + (own_hit bd kk))), .val (.int (1 : Int32))] [])) _
  refine XS.iload X10.here hx rfl (hb hby at_335) rfl ?_
  show Steps p.tables e below (T10.setTop (mkF m 337 #[.val (.int p0), .val (.int p1), .val (.int p2), .val (.int p3), .val (.int p4), .val (.int p5), .val (.int (4 : Int32)), .val (.int ba), .val (.int bb), .val (.int bc), .val (.int bd), .val (.ref b1), .val (.ref cc), .val (.int kk), .val (.int (((((0 : Int32) + (own_hit ba kk)) + (own_hit bb kk)) + (own_hit bc kk)) + (own_hit bd kk))), .val (.int (1 : Int32))] [(.int (4 : Int32))])) _
  refine XS.iconst X10.here hx rfl (hb hby at_337) ?_
  show Steps p.tables e below (T10.setTop (mkF m 338 #[.val (.int p0), .val (.int p1), .val (.int p2), .val (.int p3), .val (.int p4), .val (.int p5), .val (.int (4 : Int32)), .val (.int ba), .val (.int bb), .val (.int bc), .val (.int bd), .val (.ref b1), .val (.ref cc), .val (.int kk), .val (.int (((((0 : Int32) + (own_hit ba kk)) + (own_hit bb kk)) + (own_hit bc kk)) + (own_hit bd kk))), .val (.int (1 : Int32))] [(.int (3 : Int32)), (.int (4 : Int32))])) _
  refine XS.icmpNo X10.here hx rfl (hb hby at_338) rfl (tlt (by decide)).2.2.2 ?_
  show Steps p.tables e below (T10.setTop (mkF m 341 #[.val (.int p0), .val (.int p1), .val (.int p2), .val (.int p3), .val (.int p4), .val (.int p5), .val (.int (4 : Int32)), .val (.int ba), .val (.int bb), .val (.int bc), .val (.int bd), .val (.ref b1), .val (.ref cc), .val (.int kk), .val (.int (((((0 : Int32) + (own_hit ba kk)) + (own_hit bb kk)) + (own_hit bc kk)) + (own_hit bd kk))), .val (.int (1 : Int32))] [])) _
  refine XS.iload X10.here hx rfl (hb hby at_341) rfl ?_
  show Steps p.tables e below (T10.setTop (mkF m 343 #[.val (.int p0), .val (.int p1), .val (.int p2), .val (.int p3), .val (.int p4), .val (.int p5), .val (.int (4 : Int32)), .val (.int ba), .val (.int bb), .val (.int bc), .val (.int bd), .val (.ref b1), .val (.ref cc), .val (.int kk), .val (.int (((((0 : Int32) + (own_hit ba kk)) + (own_hit bb kk)) + (own_hit bc kk)) + (own_hit bd kk))), .val (.int (1 : Int32))] [(.int (1 : Int32))])) _
  refine XS.ifNo X10.here hx rfl (hb hby at_343) rfl ((if0 _ _).trans (feq (by decide)).1) ?_
  show Steps p.tables e below (T10.setTop (mkF m 346 #[.val (.int p0), .val (.int p1), .val (.int p2), .val (.int p3), .val (.int p4), .val (.int p5), .val (.int (4 : Int32)), .val (.int ba), .val (.int bb), .val (.int bc), .val (.int bd), .val (.ref b1), .val (.ref cc), .val (.int kk), .val (.int (((((0 : Int32) + (own_hit ba kk)) + (own_hit bb kk)) + (own_hit bc kk)) + (own_hit bd kk))), .val (.int (1 : Int32))] [])) _
  refine XS.aload X10.here hx rfl (hb hby at_346) rfl rfl ?_
  show Steps p.tables e below (T10.setTop (mkF m 348 #[.val (.int p0), .val (.int p1), .val (.int p2), .val (.int p3), .val (.int p4), .val (.int p5), .val (.int (4 : Int32)), .val (.int ba), .val (.int bb), .val (.int bc), .val (.int bd), .val (.ref b1), .val (.ref cc), .val (.int kk), .val (.int (((((0 : Int32) + (own_hit ba kk)) + (own_hit bb kk)) + (own_hit bc kk)) + (own_hit bd kk))), .val (.int (1 : Int32))] [(.ref b1)])) _
  refine XS.iconst X10.here hx rfl (hb hby at_348) ?_
  show Steps p.tables e below (T10.setTop (mkF m 349 #[.val (.int p0), .val (.int p1), .val (.int p2), .val (.int p3), .val (.int p4), .val (.int p5), .val (.int (4 : Int32)), .val (.int ba), .val (.int bb), .val (.int bc), .val (.int bd), .val (.ref b1), .val (.ref cc), .val (.int kk), .val (.int (((((0 : Int32) + (own_hit ba kk)) + (own_hit bb kk)) + (own_hit bc kk)) + (own_hit bd kk))), .val (.int (1 : Int32))] [(.int (3 : Int32)), (.ref b1)])) _
  refine own_ldB X10 hx hZ e10 AD6 (j := (3 : Int32)) ⟨by decide, by decide⟩ rfl rfl (hb hby at_349) ?_
  show Steps p.tables e below (T10.setTop (mkF m 350 #[.val (.int p0), .val (.int p1), .val (.int p2), .val (.int p3), .val (.int p4), .val (.int p5), .val (.int (4 : Int32)), .val (.int ba), .val (.int bb), .val (.int bc), .val (.int bd), .val (.ref b1), .val (.ref cc), .val (.int kk), .val (.int (((((0 : Int32) + (own_hit ba kk)) + (own_hit bb kk)) + (own_hit bc kk)) + (own_hit bd kk))), .val (.int (1 : Int32))] [(.int bd)])) _
  refine XS.iload X10.here hx rfl (hb hby at_350) rfl ?_
  show Steps p.tables e below (T10.setTop (mkF m 352 #[.val (.int p0), .val (.int p1), .val (.int p2), .val (.int p3), .val (.int p4), .val (.int p5), .val (.int (4 : Int32)), .val (.int ba), .val (.int bb), .val (.int bc), .val (.int bd), .val (.ref b1), .val (.ref cc), .val (.int kk), .val (.int (((((0 : Int32) + (own_hit ba kk)) + (own_hit bb kk)) + (own_hit bc kk)) + (own_hit bd kk))), .val (.int (1 : Int32))] [(.int bd), (.int bd)])) _
  refine XS.icmpNo X10.here hx rfl (hb hby at_352) rfl (teq (rfl : bd = bd)).2 ?_
  show Steps p.tables e below (T10.setTop (mkF m 355 #[.val (.int p0), .val (.int p1), .val (.int p2), .val (.int p3), .val (.int p4), .val (.int p5), .val (.int (4 : Int32)), .val (.int ba), .val (.int bb), .val (.int bc), .val (.int bd), .val (.ref b1), .val (.ref cc), .val (.int kk), .val (.int (((((0 : Int32) + (own_hit ba kk)) + (own_hit bb kk)) + (own_hit bc kk)) + (own_hit bd kk))), .val (.int (1 : Int32))] [])) _
  refine XS.iconst X10.here hx rfl (hb hby at_355) ?_
  show Steps p.tables e below (T10.setTop (mkF m 356 #[.val (.int p0), .val (.int p1), .val (.int p2), .val (.int p3), .val (.int p4), .val (.int p5), .val (.int (4 : Int32)), .val (.int ba), .val (.int bb), .val (.int bc), .val (.int bd), .val (.ref b1), .val (.ref cc), .val (.int kk), .val (.int (((((0 : Int32) + (own_hit ba kk)) + (own_hit bb kk)) + (own_hit bc kk)) + (own_hit bd kk))), .val (.int (1 : Int32))] [(.int (1 : Int32))])) _
  refine XS.goto X10.here hx rfl (pc0 := 356) (pc' := 360) rfl (hb hby at_356) (by decide) (by decide) ?_
  show Steps p.tables e below (T10.setTop (mkF m 360 #[.val (.int p0), .val (.int p1), .val (.int p2), .val (.int p3), .val (.int p4), .val (.int p5), .val (.int (4 : Int32)), .val (.int ba), .val (.int bb), .val (.int bc), .val (.int bd), .val (.ref b1), .val (.ref cc), .val (.int kk), .val (.int (((((0 : Int32) + (own_hit ba kk)) + (own_hit bb kk)) + (own_hit bc kk)) + (own_hit bd kk))), .val (.int (1 : Int32))] [(.int (1 : Int32))])) _
  refine XS.istore X10.here hx rfl (hb hby at_360) rfl (l' := #[.val (.int p0), .val (.int p1), .val (.int p2), .val (.int p3), .val (.int p4), .val (.int p5), .val (.int (4 : Int32)), .val (.int ba), .val (.int bb), .val (.int bc), .val (.int bd), .val (.ref b1), .val (.ref cc), .val (.int kk), .val (.int (((((0 : Int32) + (own_hit ba kk)) + (own_hit bb kk)) + (own_hit bc kk)) + (own_hit bd kk))), .val (.int (1 : Int32))]) rfl ?_
  show Steps p.tables e below (T10.setTop (mkF m 362 #[.val (.int p0), .val (.int p1), .val (.int p2), .val (.int p3), .val (.int p4), .val (.int p5), .val (.int (4 : Int32)), .val (.int ba), .val (.int bb), .val (.int bc), .val (.int bd), .val (.ref b1), .val (.ref cc), .val (.int kk), .val (.int (((((0 : Int32) + (own_hit ba kk)) + (own_hit bb kk)) + (own_hit bc kk)) + (own_hit bd kk))), .val (.int (1 : Int32))] [])) _
  refine XS.iload X10.here hx rfl (hb hby at_362) rfl ?_
  show Steps p.tables e below (T10.setTop (mkF m 364 #[.val (.int p0), .val (.int p1), .val (.int p2), .val (.int p3), .val (.int p4), .val (.int p5), .val (.int (4 : Int32)), .val (.int ba), .val (.int bb), .val (.int bc), .val (.int bd), .val (.ref b1), .val (.ref cc), .val (.int kk), .val (.int (((((0 : Int32) + (own_hit ba kk)) + (own_hit bb kk)) + (own_hit bc kk)) + (own_hit bd kk))), .val (.int (1 : Int32))] [(.int (1 : Int32))])) _
  refine XS.ifNo X10.here hx rfl (hb hby at_364) rfl ((if0 _ _).trans (feq (by decide)).1) ?_
  show Steps p.tables e below (T10.setTop (mkF m 367 #[.val (.int p0), .val (.int p1), .val (.int p2), .val (.int p3), .val (.int p4), .val (.int p5), .val (.int (4 : Int32)), .val (.int ba), .val (.int bb), .val (.int bc), .val (.int bd), .val (.ref b1), .val (.ref cc), .val (.int kk), .val (.int (((((0 : Int32) + (own_hit ba kk)) + (own_hit bb kk)) + (own_hit bc kk)) + (own_hit bd kk))), .val (.int (1 : Int32))] [])) _
  refine XS.aload X10.here hx rfl (hb hby at_367) rfl rfl ?_
  show Steps p.tables e below (T10.setTop (mkF m 369 #[.val (.int p0), .val (.int p1), .val (.int p2), .val (.int p3), .val (.int p4), .val (.int p5), .val (.int (4 : Int32)), .val (.int ba), .val (.int bb), .val (.int bc), .val (.int bd), .val (.ref b1), .val (.ref cc), .val (.int kk), .val (.int (((((0 : Int32) + (own_hit ba kk)) + (own_hit bb kk)) + (own_hit bc kk)) + (own_hit bd kk))), .val (.int (1 : Int32))] [(.ref cc)])) _
  refine XS.iload X10.here hx rfl (hb hby at_369) rfl ?_
  show Steps p.tables e below (T10.setTop (mkF m 371 #[.val (.int p0), .val (.int p1), .val (.int p2), .val (.int p3), .val (.int p4), .val (.int p5), .val (.int (4 : Int32)), .val (.int ba), .val (.int bb), .val (.int bc), .val (.int bd), .val (.ref b1), .val (.ref cc), .val (.int kk), .val (.int (((((0 : Int32) + (own_hit ba kk)) + (own_hit bb kk)) + (own_hit bc kk)) + (own_hit bd kk))), .val (.int (1 : Int32))] [(.int kk), (.ref cc)])) _
  refine own_ldI X10 hx hZ e10 AC6 (j := kk) hk0 rfl rfl (hb hby at_371) ?_
  show Steps p.tables e below (T10.setTop (mkF m 372 #[.val (.int p0), .val (.int p1), .val (.int p2), .val (.int p3), .val (.int p4), .val (.int p5), .val (.int (4 : Int32)), .val (.int ba), .val (.int bb), .val (.int bc), .val (.int bd), .val (.ref b1), .val (.ref cc), .val (.int kk), .val (.int (((((0 : Int32) + (own_hit ba kk)) + (own_hit bb kk)) + (own_hit bc kk)) + (own_hit bd kk))), .val (.int (1 : Int32))] [(.int ((own_inc (own_inc (own_inc (own_inc (fun _ => 0) ba) bb) bc) bd) (kk).toNatClampNeg))])) _
  refine XS.iload X10.here hx rfl (hb hby at_372) rfl ?_
  show Steps p.tables e below (T10.setTop (mkF m 374 #[.val (.int p0), .val (.int p1), .val (.int p2), .val (.int p3), .val (.int p4), .val (.int p5), .val (.int (4 : Int32)), .val (.int ba), .val (.int bb), .val (.int bc), .val (.int bd), .val (.ref b1), .val (.ref cc), .val (.int kk), .val (.int (((((0 : Int32) + (own_hit ba kk)) + (own_hit bb kk)) + (own_hit bc kk)) + (own_hit bd kk))), .val (.int (1 : Int32))] [(.int (((((0 : Int32) + (own_hit ba kk)) + (own_hit bb kk)) + (own_hit bc kk)) + (own_hit bd kk))), (.int ((own_inc (own_inc (own_inc (own_inc (fun _ => 0) ba) bb) bc) bd) (kk).toNatClampNeg))])) _
  refine XS.icmpNo X10.here hx rfl (hb hby at_374) rfl (teq hfin).2 ?_
  show Steps p.tables e below (T10.setTop (mkF m 377 #[.val (.int p0), .val (.int p1), .val (.int p2), .val (.int p3), .val (.int p4), .val (.int p5), .val (.int (4 : Int32)), .val (.int ba), .val (.int bb), .val (.int bc), .val (.int bd), .val (.ref b1), .val (.ref cc), .val (.int kk), .val (.int (((((0 : Int32) + (own_hit ba kk)) + (own_hit bb kk)) + (own_hit bc kk)) + (own_hit bd kk))), .val (.int (1 : Int32))] [])) _
  refine XS.iconst X10.here hx rfl (hb hby at_377) ?_
  show Steps p.tables e below (T10.setTop (mkF m 378 #[.val (.int p0), .val (.int p1), .val (.int p2), .val (.int p3), .val (.int p4), .val (.int p5), .val (.int (4 : Int32)), .val (.int ba), .val (.int bb), .val (.int bc), .val (.int bd), .val (.ref b1), .val (.ref cc), .val (.int kk), .val (.int (((((0 : Int32) + (own_hit ba kk)) + (own_hit bb kk)) + (own_hit bc kk)) + (own_hit bd kk))), .val (.int (1 : Int32))] [(.int (1 : Int32))])) _
  refine XS.goto X10.here hx rfl (pc0 := 378) (pc' := 382) rfl (hb hby at_378) (by decide) (by decide) ?_
  show Steps p.tables e below (T10.setTop (mkF m 382 #[.val (.int p0), .val (.int p1), .val (.int p2), .val (.int p3), .val (.int p4), .val (.int p5), .val (.int (4 : Int32)), .val (.int ba), .val (.int bb), .val (.int bc), .val (.int bd), .val (.ref b1), .val (.ref cc), .val (.int kk), .val (.int (((((0 : Int32) + (own_hit ba kk)) + (own_hit bb kk)) + (own_hit bc kk)) + (own_hit bd kk))), .val (.int (1 : Int32))] [(.int (1 : Int32))])) _
  exact retN X10 hx (t := .boolean) Bd.returns (by simp) (hb hby at_382) hr
def Q0 (Z : State) (p0 : Int32) (p1 : Int32) (p2 : Int32) (p3 : Int32) (p4 : Int32) (p5 : Int32) (h0 : Heap) (n0 : Nat) (v : Option Value) (h : Heap) (L : List Loc) : Prop := v = some (.int (1 : Int32)) ∧ Fr n0 L
set_option maxRecDepth 65536 in
set_option maxHeartbeats 40000000 in
theorem rm0 (l : Launch) (Z : State) (a0 : Array Value) (hw : ∀ d ∈ tables_1, d.before a0 Z = true) (ws : List Jvm.Cond) (p0 : Int32) (p1 : Int32) (p2 : Int32) (p3 : Int32) (p4 : Int32) (p5 : Int32) (h0 : Heap) (n0 : Nat) (Z0 : n0 ≤ h0.size)  :
    MetFree l x (head1 (Jvm.Cond.code x code maxLocals ret :: ws) room_1) (fun a_ U_ => a_ = #[(.int p0), (.int p1), (.int p2), (.int p3), (.int p4), (.int p5)] ∧ Z.Warmed39 U_.vm ∧ U_.heap = h0) (fun _ _ _ _ _ => True) (fun _ U_ o_ U' => ∃ v_ L_, o_ = .returned v_ ∧ (Q0 Z p0 p1 p2 p3 p4 p5 h0 n0 v_ U'.heap L_) ∧ FrameEnd U_ o_ U' L_ room_1.cells room_1.slots) := by
  have t1 := own_i_mask (2147483647 : Int32) 31 (by decide) (by decide) (rfl : p0.toInt = p0.toInt)
  have t2 := own_i_mod t1 (show (5 : Int32).toInt = 5 from rfl) (by omega)
  have cases5 : ((p0 &&& (2147483647 : Int32)) % (5 : Int32)).toInt = 0 ∨ ((p0 &&& (2147483647 : Int32)) % (5 : Int32)).toInt = 1 ∨ ((p0 &&& (2147483647 : Int32)) % (5 : Int32)).toInt = 2 ∨ ((p0 &&& (2147483647 : Int32)) % (5 : Int32)).toInt = 3 ∨ ((p0 &&& (2147483647 : Int32)) % (5 : Int32)).toInt = 4 := by omega
  rcases cases5 with q | q | q | q | q
  · exact rm0_0 l Z a0 hw ws p0 p1 p2 p3 p4 p5 h0 n0 Z0 (Int32.toInt_inj.mp q)
  · exact rm0_1 l Z a0 hw ws p0 p1 p2 p3 p4 p5 h0 n0 Z0 (Int32.toInt_inj.mp q)
  · exact rm0_2 l Z a0 hw ws p0 p1 p2 p3 p4 p5 h0 n0 Z0 (Int32.toInt_inj.mp q)
  · exact rm0_3 l Z a0 hw ws p0 p1 p2 p3 p4 p5 h0 n0 Z0 (Int32.toInt_inj.mp q)
  · exact rm0_4 l Z a0 hw ws p0 p1 p2 p3 p4 p5 h0 n0 Z0 (Int32.toInt_inj.mp q)
set_option maxRecDepth 65536 in
set_option maxHeartbeats 40000000 in
theorem comes_1 {Post : Tables → Env → Array Value → State → Outcome → State → Prop} (hpost : ∀ tb e args s v u, (limb_1_1.after args s (.returned v) u = true ∧ limb_1_2.after args s (.returned v) u = true ∧ True) → FrameEnd s (.returned v) u (Jvm.fieldLocs frame_1_writes args s ++ Jvm.arrayLocs frame_1_arrays args s ++ Jvm.staticLocs frame_1_statics s) 16 640 → Post tb e args s (.returned v) u) :
    ArmFor flags0 classFile x code maxLocals ret World_1 tables_1 room_1 Calls_1 rest_1 Pre_1 Post := by
  intro l hfl _ _ p e ha hc hk s m args below hf hA hF happ hP
  obtain ⟨hcalls, hrest, hpre⟩ := hP
  obtain ⟨-, -, -, hnamed, -, -, -, hat⟩ := (Spec.applies_iff hf).mp happ
  obtain ⟨hg, hn⟩ := and_e (Cond.before_iff.mp (show (Jvm.Cond.and given_1 narrow_1).before args s = true from hpre))
  obtain ⟨gc, g0⟩ := and_e hg
  obtain ⟨k0, g1⟩ := and_e g0
  obtain ⟨k1, g2⟩ := and_e g1
  obtain ⟨k2, g3⟩ := and_e g2
  obtain ⟨k3, g4⟩ := and_e g3
  obtain ⟨k4, g5⟩ := and_e g4
  obtain ⟨w0, w1, w2, w3, w4, w5, rfl⟩ : ∃ w0 w1 w2 w3 w4 w5 : Value, args = #[w0, w1, w2, w3, w4, w5] := by
    have hs : args.size = 6 := by simpa [Cond.value, given_1] using gc
    obtain ⟨L⟩ := args
    match L, hs with
    | [w0, w1, w2, w3, w4, w5], _ => exact ⟨w0, w1, w2, w3, w4, w5, rfl⟩
  have hw := fun d (hd : d ∈ tables_1) => atoms_spec (ws := Jvm.Cond.code x code maxLocals ret :: tables_1) hat d (List.mem_cons_of_mem _ hd)
  obtain ⟨i0, ei0⟩ := is_v k0
  obtain rfl : w0 = (.int i0) := Option.some.inj ei0
  obtain ⟨i1, ei1⟩ := is_v k1
  obtain rfl : w1 = (.int i1) := Option.some.inj ei1
  obtain ⟨i2, ei2⟩ := is_v k2
  obtain rfl : w2 = (.int i2) := Option.some.inj ei2
  obtain ⟨i3, ei3⟩ := is_v k3
  obtain rfl : w3 = (.int i3) := Option.some.inj ei3
  obtain ⟨i4, ei4⟩ := is_v k4
  obtain rfl : w4 = (.int i4) := Option.some.inj ei4
  obtain ⟨i5, ei5⟩ := is_v g5
  obtain rfl : w5 = (.int i5) := Option.some.inj ei5
  obtain ⟨n, o, h1, h2, h3, _, L, rfl, ⟨rfl, N⟩, hq⟩ := rm0 l s _ hw tables_1 i0 i1 i2 i3 i4 i5 s.heap s.heap.size (Nat.le_refl _) p e ha hc hk s m _ below hf ((Spec.applies_iff_loose hf).mp happ).1 ⟨rfl, State.Warmed39.refl s, rfl⟩ trivial
  refine ⟨n, _, h1, h2, h3, hpost _ _ _ _ _ _ ⟨Cond.after_iff.mpr rfl, Cond.after_iff.mpr (eq_i res_at (Term.int_eval (1)) rfl), trivial⟩ ⟨hq.1, hq.2.1, (hq.2.2.sift fun y hy => Or.inr (N y hy)).mono (by decide) (by decide)⟩⟩
theorem main_1_1 : Claimed_1_1 := comes_1 fun _ _ _ _ _ _ h hF => ⟨h.1, hF⟩
theorem main_1_2 : Claimed_1_2 := comes_1 fun _ _ _ _ _ _ h hF => ⟨h.2.1, hF⟩
end Jvm.Pilot.@@N@@
namespace Jvm.Pilot.@@N@@
open Jvm Jvm.ClassFile Sem Op Lib Jvm.Free Jvm.Stand Jvm.Pilot.@@N@@.Jvm.D
/-! MADE BY PROGRAM (witnessworld.py) out of the Statement's table words and the real class files: 9 classes; the members and pool entries that the words name. The judged class is class 1, her method 2. -/
namespace start1
open Jvm.ClassFile
def u (s : String) : CpInfo := .utf8 (stringToUtf16 s)
/-- a pool by its gaps: so many unusable entries, then the entry; so many at the end -/
def gap : Nat → List CpInfo → List CpInfo
  | 0, r => r
  | n + 1, r => .unusable :: gap n r
def poolList (es : List (Nat × CpInfo)) (last : Nat) : List CpInfo := es.foldr (fun e r => gap e.1 (e.2 :: r)) (gap last [])
def pool (es : List (Nat × CpInfo)) (last : Nat) : Array CpInfo := ⟨poolList es last⟩
def fileOf (pool : Array CpInfo) (this : Nat) (attrs : Array Attribute := #[]) (ms : Array MethodInfo := #[]) (fl : Nat := 33) (sup : Nat := 0) (ifs : Array Nat := #[]) (fds : Array FieldInfo := #[]) : ClassFile where
  minorVersion := 0
  majorVersion := 65
  constantPool := pool
  accessFlags := fl
  thisClass := this
  superClass := sup
  interfaces := ifs
  fields := fds
  methods := ms
  attributes := attrs
def plain (name : String) (sup : Option ClassId) : Class where
  name := name
  kind := .ordinary
  loader := none
  accessFlags := 33
  super := sup
  interfaces := #[]
  cf := none
  fields := #[]
  methods := #[]
  instanceTypes := #[]
  staticTypes := #[]
  resolved := #[]
  callSites := []
  init := .initialized
  statics := none
  mirror := none

def pool0 : Array CpInfo := pool [(5, u "<init>"), (0, u "()V"), (1, .class_ 10), (1, u "java/lang/Object")] 113

def k0m0 : Method := { name := "<init>", desc := "()V", sig := { parameters := [], returnType := none }, accessFlags := 1, code := none }
/-- java/lang/Object -/
def k0 : Class := { plain "java/lang/Object" none with
  accessFlags := 33
  interfaces := #[]
  cf := some (fileOf pool0 8 #[] #[{ accessFlags := 1, nameIndex := 5, descriptorIndex := 6, attributes := #[] }] 33 0 #[] #[])
  fields := #[]
  methods := #[k0m0]
  instanceTypes := #[]
  staticTypes := #[]
  resolved := Array.replicate 124 none
  statics := none }

def pool1 : Array CpInfo := pool [(2, .class_ 4), (1, u "java/lang/Object"), (0, u "<init>"), (0, u "()V"), (0, .integer 2147483647), (0, .methodref 9 10), (0, .class_ 11), (0, .nameAndType 12 13), (0, u "com/example/fewbits/fewbits/HuffmanCode"), (0, u "countBytes"), (0, u "([B)[I"), (0, .methodref 15 16), (0, .class_ 17), (0, .nameAndType 18 19), (0, u "com/example/fewbits/fewbits/HuffmanCodeCountBytesPinLaw"), (0, u "hit"), (0, u "(BI)I"), (3, u "law"), (0, u "(IIIIII)Z")] 6

def k1m0 : Method := { name := "<init>", desc := "()V", sig := { parameters := [], returnType := none }, accessFlags := 1, code := none }
def k1c1 : Code := { maxStack := 2, maxLocals := 2, code := method_2_code, exceptionTable := #[], attributes := #[] }
def k1m1 : Method := { name := "hit", desc := "(BI)I", sig := { parameters := [.byte, .int], returnType := some .int }, accessFlags := 10, code := some k1c1 }
def k1c2 : Code := { maxStack := 4, maxLocals := 16, code := code, exceptionTable := #[], attributes := #[] }
def k1m2 : Method := { name := "law", desc := "(IIIIII)Z", sig := { parameters := [.int, .int, .int, .int, .int, .int], returnType := some .boolean }, accessFlags := 9, code := some k1c2 }
/-- com/example/fewbits/fewbits/HuffmanCodeCountBytesPinLaw -/
def k1 : Class := { plain "com/example/fewbits/fewbits/HuffmanCodeCountBytesPinLaw" (some 0) with
  accessFlags := 49
  interfaces := #[]
  cf := some (fileOf pool1 15 #[] #[{ accessFlags := 1, nameIndex := 5, descriptorIndex := 6, attributes := #[] }, { accessFlags := 10, nameIndex := 18, descriptorIndex := 19, attributes := #[] }, { accessFlags := 9, nameIndex := 23, descriptorIndex := 24, attributes := #[] }] 49 2 #[] #[])
  fields := #[]
  methods := #[k1m0, k1m1, k1m2]
  instanceTypes := #[]
  staticTypes := #[]
  resolved := Array.replicate 31 none
  statics := none }

def pool2 : Array CpInfo := pool [(2, .class_ 4), (1, u "java/lang/Object"), (3, .class_ 10), (1, u "com/example/fewbits/fewbits/HuffmanCode"), (0, u "m_aLengths"), (0, u "[I"), (2, u "m_aCodes"), (0, u "[J"), (2, u "m_aOrder"), (2, u "m_nTotalBits"), (0, u "J"), (70, u "countBytes"), (0, u "([B)[I")] 35

def k2c0 : Code := { maxStack := 4, maxLocals := 6, code := prog_6_method_5_code, exceptionTable := #[], attributes := #[] }
def k2m0 : Method := { name := "countBytes", desc := "([B)[I", sig := { parameters := [(.array .byte)], returnType := some (.array .int) }, accessFlags := 9, code := some k2c0 }
/-- com/example/fewbits/fewbits/HuffmanCode -/
def k2 : Class := { plain "com/example/fewbits/fewbits/HuffmanCode" (some 0) with
  accessFlags := 49
  interfaces := #[]
  cf := some (fileOf pool2 8 #[] #[{ accessFlags := 9, nameIndex := 94, descriptorIndex := 95, attributes := #[] }] 49 2 #[] #[{ accessFlags := 18, nameIndex := 11, descriptorIndex := 12, attributes := #[] }, { accessFlags := 18, nameIndex := 15, descriptorIndex := 16, attributes := #[] }, { accessFlags := 18, nameIndex := 19, descriptorIndex := 12, attributes := #[] }, { accessFlags := 18, nameIndex := 22, descriptorIndex := 23, attributes := #[] }])
  fields := #[{ name := "m_aLengths", type := (.array .int), accessFlags := 18, slot := 0, constantValue := 0 }, { name := "m_aCodes", type := (.array .long), accessFlags := 18, slot := 1, constantValue := 0 }, { name := "m_aOrder", type := (.array .int), accessFlags := 18, slot := 2, constantValue := 0 }, { name := "m_nTotalBits", type := .long, accessFlags := 18, slot := 3, constantValue := 0 }]
  methods := #[k2m0]
  instanceTypes := #[(.array .int), (.array .long), (.array .int), .long]
  staticTypes := #[]
  resolved := Array.replicate 131 none
  statics := none }

def pool3 : Array CpInfo := pool [(1, u "java/lang/Cloneable"), (0, .class_ 1), (0, u "java/lang/Object"), (0, .class_ 3)] 3

/-- java/lang/Cloneable -/
def k3 : Class := { plain "java/lang/Cloneable" (some 0) with
  accessFlags := 1537
  interfaces := #[]
  cf := some (fileOf pool3 2 #[] #[] 1537 4 #[] #[])
  fields := #[]
  methods := #[]
  instanceTypes := #[]
  staticTypes := #[]
  resolved := Array.replicate 8 none
  statics := none }

def pool4 : Array CpInfo := pool [(1, u "java/io/Serializable"), (0, .class_ 1), (0, u "java/lang/Object"), (0, .class_ 3)] 3

/-- java/io/Serializable -/
def k4 : Class := { plain "java/io/Serializable" (some 0) with
  accessFlags := 1537
  interfaces := #[]
  cf := some (fileOf pool4 2 #[] #[] 1537 4 #[] #[])
  fields := #[]
  methods := #[]
  instanceTypes := #[]
  staticTypes := #[]
  resolved := Array.replicate 8 none
  statics := none }

/-- the primitive byte -/
def k5 : Class := { plain "byte" none with kind := .primitive 'B', accessFlags := 0x411 }
/-- [B -/
def k6 : Class := { plain "[B" (some 0) with kind := .array 5 .byte, interfaces := #[3, 4], accessFlags := 1041 }

/-- the primitive int -/
def k7 : Class := { plain "int" none with kind := .primitive 'I', accessFlags := 0x411 }
/-- [I -/
def k8 : Class := { plain "[I" (some 0) with kind := .array 7 .int, interfaces := #[3, 4], accessFlags := 1041 }

def heap : Heap := #[]
def classes : Array Class := #[k0, k1, k2, k3, k4, k5, k6, k7, k8]
def interned : List (Array UInt16 × Addr) := []
def slotsUsed : Nat := 0
def theMethod : MethodId := ⟨1, 2⟩
def args0 : Array Value := #[.int 5, .int 3, .int 7, .int 1, .int 2, .int 4]
def aboutOver (below : List Frame) : State where
  vm := { classes := classes, interned := interned.toArray }
  heap := heap
  slotsUsed := slotsUsed
  threads := #[{ frames := .invoking theMethod args0 :: below }]
def below0 : List Frame := [.native { method := ⟨0, 0⟩, args := #[] }]
def about1 : State := aboutOver below0
def p0 : Program := .bare "" "" ""
def e0 : Env := launch0.env 0 0 0
theorem w_frames : about1.frames = Frame.invoking theMethod args0 :: below0 := rfl
set_option maxRecDepth 65536 in
theorem w_args : argsFit about1.vm theMethod args0 = true := by decide +kernel
set_option maxRecDepth 65536 in
theorem w_heap : heapFits about1 = true := by decide +kernel
set_option maxRecDepth 65536 in
theorem w_runnable : about1.curStatus? = some .runnable := by decide +kernel
set_option maxRecDepth 65536 in
theorem w_alone : about1.alone = true := by decide +kernel
set_option maxRecDepth 65536 in
theorem w_named : about1.methodNamed? x = some theMethod := by decide +kernel
set_option maxRecDepth 65536 in
theorem w_hears : about1.hears theMethod below0 = true := by decide +kernel
set_option maxRecDepth 65536 in
theorem w_ripe : about1.ripe theMethod args0 below0 = true := by decide +kernel
theorem w_running : about1.status = .running := rfl
set_option maxRecDepth 65536 in
theorem w_room : about1.hasRoom e0.platform room_1 = true :=
  launch0.hasRoom_least _ room_1 (by decide +kernel) (by decide +kernel) (by decide +kernel) (by decide +kernel) (by decide +kernel) (by decide +kernel)
theorem allAtoms_all (ts : List Jvm.Cond) (a : Array Jvm.Value) (st : Jvm.State) : (allAtoms ts).before a st = ts.all (fun c => c.before a st) := by
  induction ts with
  | nil => rfl
  | cons c t ih =>
    show (Jvm.Cond.and c (allAtoms t)).before a st = _
    rw [Jvm.Cond.before_and, ih, List.all_cons]
def words1 : List Jvm.Cond := Jvm.Cond.code x code maxLocals ret :: tables_1
/-- a 'code' word, met by the world's own term for the bytes: nothing is compared byte by byte -/
theorem code_word {y : MethodName} {bytes : ByteArray} {mx : Nat} {rt : Option FieldType} {a : Array Value} {s : State} {m : MethodId} {meth : Method} {c : Code} (h1 : s.methodNamed? y = some m) (h2 : s.vm.method? m = some meth) (h3 : meth.code = some c) (h4 : c.code = bytes)
    (h5 : (c.maxLocals == mx && c.exceptionTable.isEmpty && decide (c.maxStack ≤ mostOperands) && decide (meth.sig.returnType = rt) && !meth.locks && decide (parseMethodDescriptor y.desc = some meth.sig)) = true) : (Jvm.Cond.code y bytes mx rt).before a s = true := by
  simp only [Bool.and_eq_true, beq_iff_eq, Bool.not_eq_true', decide_eq_true_eq] at h5
  obtain ⟨⟨⟨⟨⟨g1, g2⟩, g3⟩, g4⟩, g5⟩, g6⟩ := h5
  simp [Cond.before, Cond.holds, Cond.value, h1, h2, h3, h4, g1, g2, g3, g4, g5, g6]
def isCode : Jvm.Cond → Bool
  | .code _ _ _ _ => true
  | _ => false
theorem all_split {L : List Jvm.Cond} {P : Jvm.Cond → Bool} (h1 : L.all (fun c => isCode c || P c) = true) (h2 : ∀ c ∈ L.filter isCode, P c = true) : L.all P = true := by
  refine List.all_eq_true.mpr fun c hc => ?_
  have h := List.all_eq_true.mp h1 c hc
  rcases Bool.eq_false_or_eq_true (isCode c) with hi | hi
  · exact h2 c (List.mem_filter.mpr ⟨hc, hi⟩)
  · simpa [hi] using h
set_option maxRecDepth 65536 in
theorem w_c0 : (Jvm.Cond.code x code maxLocals ret).before args0 about1 = true := code_word (m := ⟨1, 2⟩) (meth := k1m2) (c := k1c2) (by decide +kernel) rfl rfl rfl (by decide +kernel)
set_option maxRecDepth 65536 in
theorem w_c1 : (Jvm.Cond.code ({ cls := "com/example/fewbits/fewbits/HuffmanCode", name := "countBytes", desc := "([B)[I" } : Jvm.MethodName) prog_6_method_5_code (6 : Nat) (Option.some (Jvm.ClassFile.FieldType.array Jvm.ClassFile.FieldType.int))).before args0 about1 = true := code_word (m := ⟨2, 0⟩) (meth := k2m0) (c := k2c0) (by decide +kernel) rfl rfl rfl (by decide +kernel)
set_option maxRecDepth 65536 in
theorem w_c2 : (Jvm.Cond.code ({ cls := "com/example/fewbits/fewbits/HuffmanCodeCountBytesPinLaw", name := "hit", desc := "(BI)I" } : Jvm.MethodName) method_2_code (2 : Nat) (Option.some Jvm.ClassFile.FieldType.int)).before args0 about1 = true := code_word (m := ⟨1, 1⟩) (meth := k1m1) (c := k1c1) (by decide +kernel) rfl rfl rfl (by decide +kernel)
def codes1 : List Jvm.Cond := [Jvm.Cond.code x code maxLocals ret, Jvm.Cond.code ({ cls := "com/example/fewbits/fewbits/HuffmanCode", name := "countBytes", desc := "([B)[I" } : Jvm.MethodName) prog_6_method_5_code (6 : Nat) (Option.some (Jvm.ClassFile.FieldType.array Jvm.ClassFile.FieldType.int)), Jvm.Cond.code ({ cls := "com/example/fewbits/fewbits/HuffmanCodeCountBytesPinLaw", name := "hit", desc := "(BI)I" } : Jvm.MethodName) method_2_code (2 : Nat) (Option.some Jvm.ClassFile.FieldType.int)]
set_option maxRecDepth 65536 in
theorem codes_eq : words1.filter isCode = codes1 := rfl
theorem w_codes : ∀ c ∈ words1.filter isCode, c.before args0 about1 = true := by
  rw [codes_eq]
  intro c hc
  simp only [codes1, List.mem_cons, List.not_mem_nil, or_false] at hc
  rcases hc with rfl | rfl | rfl
  · exact w_c0
  · exact w_c1
  · exact w_c2
set_option maxRecDepth 65536 in
theorem w_t1 : words1.all (fun c => isCode c || c.before args0 about1) = true := by decide +kernel
theorem w_tables : (allAtoms (Jvm.Cond.code x code maxLocals ret :: tables_1)).before args0 about1 = true := by
  rw [allAtoms_all]
  show words1.all (fun c => c.before args0 about1) = true
  refine all_split ?_ w_codes
  rw [w_t1]
set_option maxRecDepth 65536 in
theorem w_case : (Jvm.Cond.and given_1 narrow_1).before args0 about1 = true := by decide +kernel
theorem w_applies : (headSpec (Jvm.Cond.code x code maxLocals ret :: tables_1) room_1).applies x e0.platform about1 = true :=
  (Spec.applies_iff w_frames).mpr ⟨w_running, w_runnable, w_alone, w_named, w_hears, w_ripe, w_room, w_tables⟩
theorem atStart : AtStart classFile x code maxLocals ret World_1 tables_1 room_1 Calls_1 rest_1 Pre_1 launch0 p0 e0 about1 theMethod args0 below0 :=
  ⟨lists_1, trivial, launch0.admits_env _ _ _, launch0.least_env, fairChoices_fair.cas, fairChoices_fair.clock, w_frames, w_args, w_heap, w_applies, trivial, trivial, w_case⟩
end start1
theorem witness_1 : WitnessClaimed_1 := ⟨start1.p0, start1.e0, start1.about1, start1.theMethod, start1.args0, start1.below0, start1.atStart⟩
end Jvm.Pilot.@@N@@
