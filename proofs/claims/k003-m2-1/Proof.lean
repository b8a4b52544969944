import JvmDerived
import JvmDerived.Pilot.@@N@@Statement
import JvmDerived.Pilot.@@N@@Code
set_option linter.unusedVariables false
set_option linter.unusedSimpArgs false
namespace Jvm.Pilot.@@N@@
open Jvm Jvm.ClassFile Sem Op Lib Jvm.Free Jvm.Stand Jvm.LawKit Jvm.RoadKit Bundle Jvm.Pilot.@@N@@.Jvm.D
/-! OWN LAYER (the same text in every claim): arrays by a function, and their steps -/
section OwnLayer
variable {p : Program} {l : Launch} {e : Env} {R : Room} {s : State} {m : MethodId} {args : Array Value} {below : List Frame} {meth : Method} {c : Code} {T : State} {locs : List Loc} {cells slots : Nat} {Z : State} {a0 : Array Value} {h h' : Heap} {a b : Addr} {ty : FieldType} {N : Int32} {target : State}
theorem own_retI (X : Stand p l e R s m args below meth c T locs cells slots) (hx : p.tables.exec = Jvm.exec) {pc : Nat} {Ls : Array Slot} {z : Int32} {rest : List Value} (hret : meth.sig.returnType = some .int) (hd : decode c.code pc = .ok (.ireturn, 1)) {fs : List Frame}
    (hl : ∀ (f : JFrame) (acts : List Action), f.method = m → f.locked = none → f.entered = [] → (doReturn e (T.setTop f) acts (some (.int z))).1 = T.setFrames fs) : Steps p.tables e below (T.setTop (mkF m pc Ls (.int z :: rest))) (T.setFrames fs) :=
  retOut X hx hret rfl (Or.inl ⟨rfl, Or.inl rfl, z, rfl⟩) hd hl
theorem own_retJ (X : Stand p l e R s m args below meth c T locs cells slots) (hx : p.tables.exec = Jvm.exec) {pc : Nat} {Ls : Array Slot} {z : Int64} {rest : List Value} (hret : meth.sig.returnType = some .long) (hd : decode c.code pc = .ok (.lreturn, 1)) {fs : List Frame}
    (hl : ∀ (f : JFrame) (acts : List Action), f.method = m → f.locked = none → f.entered = [] → (doReturn e (T.setTop f) acts (some (.long z))).1 = T.setFrames fs) : Steps p.tables e below (T.setTop (mkF m pc Ls (.long z :: rest))) (T.setFrames fs) :=
  retOut X hx hret rfl (Or.inr (Or.inl ⟨rfl, rfl, z, rfl⟩)) hd hl
/-- the written places by a name -/
theorem own_gen {n0 : Nat} (X : Stand p l e R s m args below meth c T locs cells slots) (N : Fr n0 locs) : ∃ L, Stand p l e R s m args below meth c T L cells slots ∧ Fr n0 L := ⟨_, X, N⟩
/-- f with v at the place i -/
def own_up {α : Type} (f : Nat → α) (i : Nat) (v : α) : Nat → α := fun j => if j = i then v else f j
theorem own_up_at {α : Type} (f : Nat → α) (i : Nat) (v : α) : own_up f i v i = v := if_pos rfl
theorem own_up_ne {α : Type} (f : Nat → α) {i j : Nat} (v : α) (q : j ≠ i) : own_up f i v j = f j := if_neg q
/-- an array of N places whose place j holds the int f j -/
def own_AI (Z : State) (h : Heap) (a : Addr) (ty : FieldType) (N : Int32) (f : Nat → Int32) : Prop := ∃ c : Cell, Arr Z h a c ty ∧ c.slots.size = N.toNatClampNeg ∧ ¬ N < 0 ∧ ∀ j, j < N.toNatClampNeg → c.slots[j]? = some (.int (f j))
/-- an array of N places whose place j holds the long f j -/
def own_AJ (Z : State) (h : Heap) (a : Addr) (N : Int32) (f : Nat → Int64) : Prop := ∃ c : Cell, Arr Z h a c .long ∧ c.slots.size = N.toNatClampNeg ∧ ¬ N < 0 ∧ ∀ j, j < N.toNatClampNeg → c.slots[j]? = some (.long (f j))
variable {f : Nat → Int32} {fJ : Nat → Int64}
theorem own_AI.lt (A : own_AI Z h a ty N f) : a < h.size := by obtain ⟨c, A, -⟩ := A; exact A.lt
theorem own_AJ.lt (A : own_AJ Z h a N fJ) : a < h.size := by obtain ⟨c, A, -⟩ := A; exact A.lt
theorem own_AI.ext (A : own_AI Z h a ty N f) (E : Ext h h') : own_AI Z h' a ty N f := by obtain ⟨c, A, r⟩ := A; exact ⟨c, A.ext E, r⟩
theorem own_AJ.ext (A : own_AJ Z h a N fJ) (E : Ext h h') : own_AJ Z h' a N fJ := by obtain ⟨c, A, r⟩ := A; exact ⟨c, A.ext E, r⟩
theorem own_AI.other {sl : Nat} {v : Value} (A : own_AI Z h a ty N f) (W : Wr h h' b sl v) (q : a ≠ b) : own_AI Z h' a ty N f := by obtain ⟨c, A, r⟩ := A; exact ⟨c, A.other W q, r⟩
theorem own_AJ.other {sl : Nat} {v : Value} (A : own_AJ Z h a N fJ) (W : Wr h h' b sl v) (q : a ≠ b) : own_AJ Z h' a N fJ := by obtain ⟨c, A, r⟩ := A; exact ⟨c, A.other W q, r⟩
theorem own_AI.keep {ws : List Addr} (A : own_AI Z h a ty N f) (K : Keep h h' ws) (q : a ∉ ws) : own_AI Z h' a ty N f := by obtain ⟨c, A, r⟩ := A; exact ⟨c, ⟨K.2.1 a c A.1 q, A.2⟩, r⟩
theorem own_AJ.keep {ws : List Addr} (A : own_AJ Z h a N fJ) (K : Keep h h' ws) (q : a ∉ ws) : own_AJ Z h' a N fJ := by obtain ⟨c, A, r⟩ := A; exact ⟨c, ⟨K.2.1 a c A.1 q, A.2⟩, r⟩
theorem own_slots (c : Cell) (i j : Nat) (v : Value) (hj : j < c.slots.size) : (c.setSlot i v).slots[j]? = if j = i then some v else c.slots[j]? := by
  show (c.slots.setIfInBounds i v)[j]? = _
  rw [Array.getElem?_setIfInBounds]
  by_cases q : i = j
  · subst q; simp [hj]
  · simp [q, Ne.symm q]
theorem own_AI.set {i : Nat} {v : Int32} (A : own_AI Z h a ty N f) (W : Wr h h' a i (.int v)) : own_AI Z h' a ty N (own_up f i v) := by
  obtain ⟨c, A, S, M, H⟩ := A
  refine ⟨_, A.same W, by rw [sz_set, S], M, fun j hj => ?_⟩
  rw [own_slots c i j _ (by rw [S]; exact hj)]
  by_cases q : j = i
  · rw [if_pos q, q, own_up_at]
  · rw [if_neg q, own_up_ne _ _ q, H j hj]
theorem own_AJ.set {i : Nat} {v : Int64} (A : own_AJ Z h a N fJ) (W : Wr h h' a i (.long v)) : own_AJ Z h' a N (own_up fJ i v) := by
  obtain ⟨c, A, S, M, H⟩ := A
  refine ⟨_, A.same W, by rw [sz_set, S], M, fun j hj => ?_⟩
  rw [own_slots c i j _ (by rw [S]; exact hj)]
  by_cases q : j = i
  · rw [if_pos q, q, own_up_at]
  · rw [if_neg q, own_up_ne _ _ q, H j hj]
theorem own_AI.fresh {k : ClassId} (A : Arr Z h a (newA k ty N) ty) (hd : defaultValue ty = .int 0) (M : ¬ N < 0) : own_AI Z h a ty N (fun _ => 0) := by
  refine ⟨_, A, sz_new _ _ _, M, fun j hj => ?_⟩
  show (Array.replicate N.toNatClampNeg (defaultValue ty))[j]? = _
  rw [Array.getElem?_replicate, if_pos hj, hd]
theorem own_AJ.fresh {k : ClassId} (A : Arr Z h a (newA k .long N) .long) (M : ¬ N < 0) : own_AJ Z h a N (fun _ => 0) := by
  refine ⟨_, A, sz_new _ _ _, M, fun j hj => ?_⟩
  show (Array.replicate N.toNatClampNeg (defaultValue .long))[j]? = _
  rw [Array.getElem?_replicate, if_pos hj]; rfl
theorem own_AI.congr {f' : Nat → Int32} (A : own_AI Z h a ty N f) (q : ∀ j, j < N.toNatClampNeg → f j = f' j) : own_AI Z h a ty N f' := by
  obtain ⟨c, A, S, M, H⟩ := A
  exact ⟨c, A, S, M, fun j hj => by rw [H j hj, q j hj]⟩
theorem own_AJ.congr {f' : Nat → Int64} (A : own_AJ Z h a N fJ) (q : ∀ j, j < N.toNatClampNeg → fJ j = f' j) : own_AJ Z h a N f' := by
  obtain ⟨c, A, S, M, H⟩ := A
  exact ⟨c, A, S, M, fun j hj => by rw [H j hj, q j hj]⟩
theorem own_lt_nat {j : Int32} (q : ¬ j < 0 ∧ j < N) : j.toNatClampNeg < N.toNatClampNeg := by
  have h1 := nat_of q.1
  have h2 : ¬ N < 0 := by
    intro u; have := q.1; have := q.2
    rw [Int32.lt_iff_toInt_lt] at *; omega
  have h3 := nat_of h2
  have := q.2
  rw [Int32.lt_iff_toInt_lt] at this
  omega
/-- a place in the array, by its number -/
theorem own_ix {j : Int32} (h0 : 0 ≤ j.toInt) (h1 : j.toInt < N.toInt) : ¬ j < 0 ∧ j < N := by
  rw [Int32.lt_iff_toInt_lt, Int32.lt_iff_toInt_lt]
  exact ⟨by show ¬ j.toInt < 0; omega, h1⟩
theorem own_len (X : Stand p l e R s m args below meth c T locs cells slots) (hx : p.tables.exec = Jvm.exec) (hZ : Z.Warmed39 s.vm) (eT : T.heap = h) (A : own_AI Z h a ty N f) {g : JFrame} (hg : g.method = m) {rest : List Value} (hs : g.stack = .ref a :: rest) (hd : decode c.code g.pc = .ok (.arraylength, 1))
    (hr : Steps p.tables e below (T.setTop { g with pc := g.pc + 1, stack := .int N :: rest }) target) : Steps p.tables e below (T.setTop g) target := by
  obtain ⟨cl, A, S, M, -⟩ := A
  refine X.arraylength hx (cell := cl) (by rw [eT]; exact A.1) (State.isArrayOf_alike hZ.alike A.2.1) hg hs hd _ ?_
  rw [len_of S M]; exact hr
theorem own_lenJ (X : Stand p l e R s m args below meth c T locs cells slots) (hx : p.tables.exec = Jvm.exec) (hZ : Z.Warmed39 s.vm) (eT : T.heap = h) (A : own_AJ Z h a N fJ) {g : JFrame} (hg : g.method = m) {rest : List Value} (hs : g.stack = .ref a :: rest) (hd : decode c.code g.pc = .ok (.arraylength, 1))
    (hr : Steps p.tables e below (T.setTop { g with pc := g.pc + 1, stack := .int N :: rest }) target) : Steps p.tables e below (T.setTop g) target := by
  obtain ⟨cl, A, S, M, -⟩ := A
  refine X.arraylength hx (cell := cl) (by rw [eT]; exact A.1) (State.isArrayOf_alike hZ.alike A.2.1) hg hs hd _ ?_
  rw [len_of S M]; exact hr
theorem own_ldI (X : Stand p l e R s m args below meth c T locs cells slots) (hx : p.tables.exec = Jvm.exec) (hZ : Z.Warmed39 s.vm) (eT : T.heap = h) (A : own_AI Z h a .int N f) {j : Int32} (q : ¬ j < 0 ∧ j < N) {g : JFrame} (hg : g.method = m) {rest : List Value} (hs : g.stack = .int j :: .ref a :: rest) (hd : decode c.code g.pc = .ok (.iaload, 1))
    (hr : Steps p.tables e below (T.setTop { g with pc := g.pc + 1, stack := .int (f j.toNatClampNeg) :: rest }) target) : Steps p.tables e below (T.setTop g) target := by
  obtain ⟨cl, A, S, M, H⟩ := A
  exact X.iaload hx (j := j) (by rw [eT]; exact A.1) (State.isArrayOf_alike hZ.alike A.2.1) A.2.2 (inb_of S q) (H _ (own_lt_nat q)) hg hs hd _ hr
theorem own_ldB (X : Stand p l e R s m args below meth c T locs cells slots) (hx : p.tables.exec = Jvm.exec) (hZ : Z.Warmed39 s.vm) (eT : T.heap = h) (A : own_AI Z h a .byte N f) {j : Int32} (q : ¬ j < 0 ∧ j < N) {g : JFrame} (hg : g.method = m) {rest : List Value} (hs : g.stack = .int j :: .ref a :: rest) (hd : decode c.code g.pc = .ok (.baload, 1))
    (hr : Steps p.tables e below (T.setTop { g with pc := g.pc + 1, stack := .int (f j.toNatClampNeg) :: rest }) target) : Steps p.tables e below (T.setTop g) target := by
  obtain ⟨cl, A, S, M, H⟩ := A
  exact X.baloadBytes hx (j := j) (by rw [eT]; exact A.1) (State.isArrayOf_alike hZ.alike A.2.1) A.2.2 (inb_of S q) (H _ (own_lt_nat q)) hg hs hd _ hr
theorem own_ldJ (X : Stand p l e R s m args below meth c T locs cells slots) (hx : p.tables.exec = Jvm.exec) (hZ : Z.Warmed39 s.vm) (eT : T.heap = h) (A : own_AJ Z h a N fJ) {j : Int32} (q : ¬ j < 0 ∧ j < N) {g : JFrame} (hg : g.method = m) {rest : List Value} (hs : g.stack = .int j :: .ref a :: rest) (hd : decode c.code g.pc = .ok (.laload, 1))
    (hr : Steps p.tables e below (T.setTop { g with pc := g.pc + 1, stack := .long (fJ j.toNatClampNeg) :: rest }) target) : Steps p.tables e below (T.setTop g) target := by
  obtain ⟨cl, A, S, M, H⟩ := A
  exact X.laload hx (j := j) (by rw [eT]; exact A.1) (State.isArrayOf_alike hZ.alike A.2.1) A.2.2 (inb_of S q) (H _ (own_lt_nat q)) hg hs hd _ hr
theorem own_stI (X : Stand p l e R s m args below meth c T locs cells slots) (hx : p.tables.exec = Jvm.exec) (hZ : Z.Warmed39 s.vm) (eT : T.heap = h) (A : own_AI Z h a .int N f) {j x : Int32} (q : ¬ j < 0 ∧ j < N) {g : JFrame} (hg : g.method = m) {rest : List Value} (hs : g.stack = .int x :: .int j :: .ref a :: rest) (hd : decode c.code g.pc = .ok (.iastore, 1)) :
    ∃ T' h', Stand p l e R s m args below meth c T' (locs ++ [⟨a, j.toNatClampNeg⟩]) cells slots ∧ T'.heap = h' ∧ Wr h h' a j.toNatClampNeg (.int x) ∧ own_AI Z h' a .int N (own_up f j.toNatClampNeg x) ∧ ∀ target, Steps p.tables e below (T'.setTop { g with pc := g.pc + 1, stack := rest }) target → Steps p.tables e below (T.setTop g) target := by
  have A' := A
  obtain ⟨cl, A, S, M, H⟩ := A
  obtain ⟨T', h', X', e', W', st⟩ := stI X hx hZ eT A (j := j) (inb_of S q) hg hs hd
  exact ⟨T', h', X', e', W', A'.set W', st⟩
theorem own_stB (X : Stand p l e R s m args below meth c T locs cells slots) (hx : p.tables.exec = Jvm.exec) (hZ : Z.Warmed39 s.vm) (eT : T.heap = h) (A : own_AI Z h a .byte N f) {j x : Int32} (q : ¬ j < 0 ∧ j < N) {g : JFrame} (hg : g.method = m) {rest : List Value} (hs : g.stack = .int x :: .int j :: .ref a :: rest) (hd : decode c.code g.pc = .ok (.bastore, 1)) :
    ∃ T' h', Stand p l e R s m args below meth c T' (locs ++ [⟨a, j.toNatClampNeg⟩]) cells slots ∧ T'.heap = h' ∧ Wr h h' a j.toNatClampNeg (.int x.toInt8.toInt32) ∧ own_AI Z h' a .byte N (own_up f j.toNatClampNeg x.toInt8.toInt32) ∧ ∀ target, Steps p.tables e below (T'.setTop { g with pc := g.pc + 1, stack := rest }) target → Steps p.tables e below (T.setTop g) target := by
  have A' := A
  obtain ⟨cl, A, S, M, H⟩ := A
  obtain ⟨T', h', X', e', W', st⟩ := stB X hx hZ eT A (j := j) (inb_of S q) hg hs hd
  exact ⟨T', h', X', e', W', A'.set W', st⟩
theorem own_stJ (X : Stand p l e R s m args below meth c T locs cells slots) (hx : p.tables.exec = Jvm.exec) (hZ : Z.Warmed39 s.vm) (eT : T.heap = h) (A : own_AJ Z h a N fJ) {j : Int32} {x : Int64} (q : ¬ j < 0 ∧ j < N) {g : JFrame} (hg : g.method = m) {rest : List Value} (hs : g.stack = .long x :: .int j :: .ref a :: rest) (hd : decode c.code g.pc = .ok (.lastore, 1)) :
    ∃ T' h', Stand p l e R s m args below meth c T' (locs ++ [⟨a, j.toNatClampNeg⟩]) cells slots ∧ T'.heap = h' ∧ Wr h h' a j.toNatClampNeg (.long x) ∧ own_AJ Z h' a N (own_up fJ j.toNatClampNeg x) ∧ ∀ target, Steps p.tables e below (T'.setTop { g with pc := g.pc + 1, stack := rest }) target → Steps p.tables e below (T.setTop g) target := by
  have A' := A
  obtain ⟨cl, A, S, M, H⟩ := A
  obtain ⟨T', h', X', e', W', st⟩ := stJ X hx hZ eT A (j := j) (inb_of S q) hg hs hd
  exact ⟨T', h', X', e', W', A'.set W', st⟩
theorem own_newI (X : Stand p l e R s m args below meth c T locs cells slots) (hx : p.tables.exec = Jvm.exec) (hZ : Z.Warmed39 s.vm) {aty : ArrayType} (w : (Cond.arrayClass (newarray.typeOf aty)).before a0 Z = true) (hdv : defaultValue (newarray.typeOf aty) = .int 0) (eT : T.heap = h) {g : JFrame} (hg : g.method = m) (hd : decode c.code g.pc = .ok (.newarray aty, 2)) {n : Int32} {rest : List Value} (hs : g.stack = .int n :: rest)
    (hn : ¬ n < 0) {cap : Nat} (hcap : n.toNatClampNeg ≤ cap) (hb : cap * 8 ≤ 536870912) (hc : cells + 1 ≤ R.cells) (hl : slots + cap ≤ R.slots) :
    ∃ T' h', Stand p l e R s m args below meth c T' locs (cells + 1) (slots + cap) ∧ T'.heap = h' ∧ Ext h h' ∧ own_AI Z h' h.size (newarray.typeOf aty) n (fun _ => 0) ∧ ∀ target, Steps p.tables e below (T'.setTop { g with pc := g.pc + 2, stack := .ref h.size :: rest }) target → Steps p.tables e below (T.setTop g) target := by
  obtain ⟨T', h', k, X', e', E', A', st⟩ := newP X hx hZ w eT hg hd hs hn hcap hb hc hl
  exact ⟨T', h', X', e', E', own_AI.fresh A' hdv hn, st⟩
theorem own_newJ (X : Stand p l e R s m args below meth c T locs cells slots) (hx : p.tables.exec = Jvm.exec) (hZ : Z.Warmed39 s.vm) (w : (Cond.arrayClass .long).before a0 Z = true) (eT : T.heap = h) {g : JFrame} (hg : g.method = m) (hd : decode c.code g.pc = .ok (.newarray .long, 2)) {n : Int32} {rest : List Value} (hs : g.stack = .int n :: rest)
    (hn : ¬ n < 0) {cap : Nat} (hcap : n.toNatClampNeg ≤ cap) (hb : cap * 8 ≤ 536870912) (hc : cells + 1 ≤ R.cells) (hl : slots + cap ≤ R.slots) :
    ∃ T' h', Stand p l e R s m args below meth c T' locs (cells + 1) (slots + cap) ∧ T'.heap = h' ∧ Ext h h' ∧ own_AJ Z h' h.size n (fun _ => 0) ∧ ∀ target, Steps p.tables e below (T'.setTop { g with pc := g.pc + 2, stack := .ref h.size :: rest }) target → Steps p.tables e below (T.setTop g) target := by
  obtain ⟨T', h', k, X', e', E', A', st⟩ := newP (aty := .long) X hx hZ w eT hg hd hs hn hcap hb hc hl
  exact ⟨T', h', X', e', E', own_AJ.fresh A' hn, st⟩
theorem own_ne_obj {C : String} {k : Nat} (F : Exa Z h a C) (wi : (Cond.instantiable C k).before a0 Z = true) (A : own_AI Z h b ty N f) : a ≠ b := by obtain ⟨c, A, -⟩ := A; exact ne_arr F wi A
theorem own_ne_objJ {C : String} {k : Nat} (F : Exa Z h a C) (wi : (Cond.instantiable C k).before a0 Z = true) (A : own_AJ Z h b N fJ) : a ≠ b := by obtain ⟨c, A, -⟩ := A; exact ne_arr F wi A
theorem own_selp {s : State} {b0 args : Array Value} {y : MethodName} {n : Nat} (wi : (Cond.instantiable y.cls n).before b0 s = true) (hp : s.PrivateAt y) (hi : (Cond.instanceMethod y).before b0 s = true) (hy : y.cls ≠ "java/lang/invoke/MethodHandle" ∧ y.cls ≠ "java/lang/invoke/VarHandle") : (Cond.selects y.cls y y).before args s = true := by
  obtain ⟨c, k, hc, hk, -, hab, -, -⟩ := Cond.instantiable_spec wi
  have hni : k.isInterface = false := by
    cases q : k.isInterface with
    | false => rfl
    | true => rw [q] at hab; simp at hab
  have r := selects_self_of_private (args := b0) hc hk hni hp hi hy
  exact r
end OwnLayer
/-! OWN LAYER: machine numbers as integers -/
section OwnNums
variable {x y : Int32} {u v : Int64} {a b : Int}
theorem own_i_add (hx : x.toInt = a) (hy : y.toInt = b) (h : -2147483648 ≤ a + b ∧ a + b < 2147483648) : (x + y).toInt = a + b := by
  rw [Jvm.Free.XT.add32 (by rw [hx, hy]; exact h), hx, hy]
theorem own_i_sub (hx : x.toInt = a) (hy : y.toInt = b) (h : -2147483648 ≤ a - b ∧ a - b < 2147483648) : (x - y).toInt = a - b := by
  rw [Jvm.Free.XT.sub32 (by rw [hx, hy]; exact h), hx, hy]
theorem own_i_mul (hx : x.toInt = a) (hy : y.toInt = b) (h : -2147483648 ≤ a * b ∧ a * b < 2147483648) : (x * y).toInt = a * b := by
  rw [Jvm.Free.XT.mul32 (by rw [hx, hy]; exact h), hx, hy]
theorem own_i_div (hx : x.toInt = a) (hy : y.toInt = b) (h : 0 ≤ a ∧ 0 < b) : (x / y).toInt = a / b := by
  rw [(c_idiv x y b hy (fun q => by rw [q] at hy; have : (-1 : Int32).toInt = -1 := rfl; omega)).1 (by omega), hx]
theorem own_i_mod (hx : x.toInt = a) (hy : y.toInt = b) (h : 0 ≤ a ∧ 0 < b) : (x % y).toInt = a % b := by
  rw [(c_irem x y b hy).1 (by omega), hx]
theorem own_l_add (hu : u.toInt = a) (hv : v.toInt = b) (h : -9223372036854775808 ≤ a + b ∧ a + b < 9223372036854775808) : (u + v).toInt = a + b := by
  rw [Jvm.Free.XT.add64 (by rw [hu, hv]; exact h), hu, hv]
theorem own_l_sub (hu : u.toInt = a) (hv : v.toInt = b) (h : -9223372036854775808 ≤ a - b ∧ a - b < 9223372036854775808) : (u - v).toInt = a - b := by
  rw [Jvm.Free.XT.sub64 (by rw [hu, hv]; exact h), hu, hv]
theorem own_l_mul (hu : u.toInt = a) (hv : v.toInt = b) (h : -9223372036854775808 ≤ a * b ∧ a * b < 9223372036854775808) : (u * v).toInt = a * b := by
  rw [Jvm.Free.XT.mul64 (by rw [hu, hv]; exact h), hu, hv]
theorem own_l_div (hu : u.toInt = a) (hv : v.toInt = b) (h : 0 ≤ a ∧ 0 < b) : (u / v).toInt = a / b := by
  rw [(c_ldiv u v b hv (fun q => by rw [q] at hv; have : (-1 : Int64).toInt = -1 := rfl; omega)).1 (by omega), hu]
theorem own_l_divN (hu : u.toInt = a) (hv : v.toInt = b) (h : a < 0 ∧ 0 < b) : (u / v).toInt = -((-a) / b) := by
  rw [(c_ldiv u v b hv (fun q => by rw [q] at hv; have : (-1 : Int64).toInt = -1 := rfl; omega)).2 (by omega), hu]
theorem own_i2l (hx : x.toInt = a) : (x.toInt64).toInt = a := by rw [c_i2l, hx]
theorem own_l2i (hu : u.toInt = a) (h : -2147483648 ≤ a ∧ a < 2147483648) : (u.toInt32).toInt = a := by
  have h1 := c_l2i u; have h2 := rng32 u.toInt32; omega
theorem own_i_mask (m : Int32) (k : Nat) (hk : k ≤ 31) (hm : m.toBitVec.toNat = 2 ^ k - 1) (hx : x.toInt = a) : (x &&& m).toInt = a % (2 ^ k : Nat) := by rw [c_mask x m k hk hm, hx]
theorem own_i_lt (hx : x.toInt = a) (hy : y.toInt = b) : x < y ↔ a < b := by rw [Int32.lt_iff_toInt_lt, hx, hy]
theorem own_l_lt (hu : u.toInt = a) (hv : v.toInt = b) : u < v ↔ a < b := by rw [Int64.lt_iff_toInt_lt, hu, hv]
theorem own_i_eq (hx : x.toInt = a) (hy : y.toInt = b) : x = y ↔ a = b := by rw [← Int32.toInt_inj, hx, hy]
theorem own_l_eq (hu : u.toInt = a) (hv : v.toInt = b) : u = v ↔ a = b := by rw [← Int64.toInt_inj, hu, hv]
theorem own_i_nat (hx : x.toInt = a) (h : 0 ≤ a) : x.toNatClampNeg = a.toNat := by show x.toInt.toNat = a.toNat; rw [hx]
theorem own_i_of (h : x.toInt = y.toInt) : x = y := Int32.toInt_inj.mp h
theorem own_l_of (h : u.toInt = v.toInt) : u = v := Int64.toInt_inj.mp h
end OwnNums
theorem d1_0 : decode method_2_code 0 = .ok (.iload_n 0, 1) := by decide +kernel
theorem d1_1 : decode method_2_code 1 = .ok (.iconst 4, 1) := by decide +kernel
theorem d1_2 : decode method_2_code 2 = .ok (.irem, 1) := by decide +kernel
theorem d1_3 : decode method_2_code 3 = .ok (.ifCond .ne 22, 3) := by decide +kernel
theorem d1_6 : decode method_2_code 6 = .ok (.iload_n 0, 1) := by decide +kernel
theorem d1_7 : decode method_2_code 7 = .ok (.bipush 100, 2) := by decide +kernel
theorem d1_9 : decode method_2_code 9 = .ok (.irem, 1) := by decide +kernel
theorem d1_10 : decode method_2_code 10 = .ok (.ifCond .ne 11, 3) := by decide +kernel
theorem d1_13 : decode method_2_code 13 = .ok (.iload_n 0, 1) := by decide +kernel
theorem d1_14 : decode method_2_code 14 = .ok (.sipush 400, 3) := by decide +kernel
theorem d1_17 : decode method_2_code 17 = .ok (.irem, 1) := by decide +kernel
theorem d1_18 : decode method_2_code 18 = .ok (.ifCond .ne 7, 3) := by decide +kernel
theorem d1_21 : decode method_2_code 21 = .ok (.iconst 1, 1) := by decide +kernel
theorem d1_22 : decode method_2_code 22 = .ok (.goto 4, 3) := by decide +kernel
theorem d1_25 : decode method_2_code 25 = .ok (.iconst 0, 1) := by decide +kernel
theorem d1_26 : decode method_2_code 26 = .ok (.ireturn, 1) := by decide +kernel
theorem pn_1 : plainName "com/example/vestwright/vestwright/model/IsoDateEpochDayPinLaw" = true := by first | (simp [plainName, overriddenIn]; done) | decide +kernel
theorem ef_1 (m : MethodId) (x0 : Int32) : entryFrame m #[(.int x0)] 1 = mkF m 0 #[.val (.int x0)] [] := by first | (simp [entryFrame, mkF, argsToLocals, Value.category]; done) | rfl
def own_leap (p0 : Int32) : Int32 := (if (p0 % (4 : Int32)) = (0 : Int32) then (if (p0 % (100 : Int32)) = (0 : Int32) then (if (p0 % (400 : Int32)) = (0 : Int32) then (1 : Int32) else (0 : Int32)) else (1 : Int32)) else (0 : Int32))
def Q1 (Z : State) (p0 : Int32) (h0 : Heap) (n0 : Nat) (v : Option Value) (h : Heap) (L : List Loc) : Prop := v = some (.int (own_leap p0)) ∧ Fr n0 L ∧ h = h0
set_option maxRecDepth 65536 in
set_option maxHeartbeats 40000000 in
theorem rm1 (l : Launch) (Z : State) (a0 : Array Value) (hw : ∀ d ∈ tables_1, d.before a0 Z = true) (ws : List Jvm.Cond) (p0 : Int32) (h0 : Heap) (n0 : Nat) (Z0 : n0 ≤ h0.size)  :
    MetFree l (⟨"com/example/vestwright/vestwright/model/IsoDateEpochDayPinLaw", "isLeap", "(I)Z"⟩ : MethodName) (head1 (Jvm.Cond.code (⟨"com/example/vestwright/vestwright/model/IsoDateEpochDayPinLaw", "isLeap", "(I)Z"⟩ : MethodName) method_2_code 1 (some .boolean) :: ws) ({ frames := 0, cells := 0, slots := 0, locals := 0 } : Room)) (fun a_ U_ => a_ = #[(.int p0)] ∧ Z.Warmed39 U_.vm ∧ U_.heap = h0) (fun _ _ _ _ _ => True) (fun _ U_ o_ U' => ∃ v_ L_, o_ = .returned v_ ∧ (Q1 Z p0 h0 n0 v_ U'.heap L_) ∧ FrameEnd U_ o_ U' L_ ({ frames := 0, cells := 0, slots := 0, locals := 0 } : Room).cells ({ frames := 0, cells := 0, slots := 0, locals := 0 } : Room).slots) := by
  refine MetFree.of_bodySF (plainFor_of_name pn_1) hisR ?_
  intro p e s m args below meth c s₁ Bd hml0 hP hK
  obtain ⟨rfl, hZ, hh⟩ := hP
  have hx := Bd.exec
  have hby := Bd.bytes
  have hml : c.maxLocals = 1 := hml0
  have hown : s.vm.findClass "com/example/vestwright/vestwright/model/IsoDateEpochDayPinLaw" = some m.cls := findClass_of_methodNamed Bd.named
  have hnm := (name_of_methodNamed Bd.named Bd.method).1
  have X0 : Stand p l e ({ frames := 0, cells := 0, slots := 0, locals := 0 } : Room) s m #[(.int p0)] below meth c s₁ [] 0 0 := Stand.of_body Bd
  have e0 : s₁.heap = h0 := by rw [← hh, Bd.state]; rfl
  have N0 := Fr.nil n0
  have pre0 : ∀ t, Steps p.tables e below (s₁.setTop (mkF m 0 #[.val (.int p0)] [])) t → Steps p.tables e below (s₁.setTop (entryFrame m #[(.int p0)] 1)) t := fun t k => castTop (ef_1 m p0) k
  obtain ⟨fs, hr, hrun, hended, hW, hsame⟩ := X0.leave (v := some (.int (own_leap p0))) (fun h => by rw [Bd.returns] at h; cases h)
  refine ⟨_, _, pre0 _ ?_, hrun, hended, _, _, rfl, ⟨rfl, N0, e0⟩, ⟨_, rfl⟩, hW, hsame.mono (by decide) (by decide)⟩
  show Steps p.tables e below (s₁.setTop (mkF m 0 #[.val (.int p0)] [])) _
  refine XS.iloadN X0.here hx rfl (hb hby d1_0) rfl ?_
  show Steps p.tables e below (s₁.setTop (mkF m 1 #[.val (.int p0)] [(.int p0)])) _
  refine XS.iconst X0.here hx rfl (hb hby d1_1) ?_
  show Steps p.tables e below (s₁.setTop (mkF m 2 #[.val (.int p0)] [(.int (4 : Int32)), (.int p0)])) _
  refine iremM X0 hx rfl (hb hby d1_2) rfl (by decide) ?_
  show Steps p.tables e below (s₁.setTop (mkF m 3 #[.val (.int p0)] [(.int (p0 % (4 : Int32)))])) _
  by_cases hc3 : (p0 % (4 : Int32)) = (0 : Int32)
  · refine XS.ifNo X0.here hx rfl (hb hby d1_3) rfl ((if0 _ _).trans (teq hc3).2) ?_
    show Steps p.tables e below (s₁.setTop (mkF m 6 #[.val (.int p0)] [])) _
    refine XS.iloadN X0.here hx rfl (hb hby d1_6) rfl ?_
    show Steps p.tables e below (s₁.setTop (mkF m 7 #[.val (.int p0)] [(.int p0)])) _
    refine XS.bipush X0.here hx rfl (hb hby d1_7) ?_
    show Steps p.tables e below (s₁.setTop (mkF m 9 #[.val (.int p0)] [(.int (100 : Int32)), (.int p0)])) _
    refine iremM X0 hx rfl (hb hby d1_9) rfl (by decide) ?_
    show Steps p.tables e below (s₁.setTop (mkF m 10 #[.val (.int p0)] [(.int (p0 % (100 : Int32)))])) _
    by_cases hc10 : (p0 % (100 : Int32)) = (0 : Int32)
    · refine XS.ifNo X0.here hx rfl (hb hby d1_10) rfl ((if0 _ _).trans (teq hc10).2) ?_
      show Steps p.tables e below (s₁.setTop (mkF m 13 #[.val (.int p0)] [])) _
      refine XS.iloadN X0.here hx rfl (hb hby d1_13) rfl ?_
      show Steps p.tables e below (s₁.setTop (mkF m 14 #[.val (.int p0)] [(.int p0)])) _
      refine XS.sipush X0.here hx rfl (hb hby d1_14) ?_
      show Steps p.tables e below (s₁.setTop (mkF m 17 #[.val (.int p0)] [(.int (400 : Int32)), (.int p0)])) _
      refine iremM X0 hx rfl (hb hby d1_17) rfl (by decide) ?_
      show Steps p.tables e below (s₁.setTop (mkF m 18 #[.val (.int p0)] [(.int (p0 % (400 : Int32)))])) _
      by_cases hc18 : (p0 % (400 : Int32)) = (0 : Int32)
      · refine XS.ifNo X0.here hx rfl (hb hby d1_18) rfl ((if0 _ _).trans (teq hc18).2) ?_
        show Steps p.tables e below (s₁.setTop (mkF m 21 #[.val (.int p0)] [])) _
        refine XS.iconst X0.here hx rfl (hb hby d1_21) ?_
        show Steps p.tables e below (s₁.setTop (mkF m 22 #[.val (.int p0)] [(.int (1 : Int32))])) _
        refine XS.goto X0.here hx rfl (pc0 := 22) (pc' := 26) rfl (hb hby d1_22) (by decide) (by decide) ?_
        show Steps p.tables e below (s₁.setTop (mkF m 26 #[.val (.int p0)] [(.int (1 : Int32))])) _
        rw [show (own_leap p0) = (1 : Int32) from by unfold own_leap; rw [if_pos hc3, if_pos hc10, if_pos hc18]] at hr
        exact retN X0 hx (t := .boolean) Bd.returns (by simp) (hb hby d1_26) hr
      · refine XS.ifYes X0.here hx rfl (pc0 := 18) (pc' := 25) rfl (hb hby d1_18) rfl ((if0 _ _).trans (feq hc18).2) (by decide) (by decide) ?_
        show Steps p.tables e below (s₁.setTop (mkF m 25 #[.val (.int p0)] [])) _
        refine XS.iconst X0.here hx rfl (hb hby d1_25) ?_
        show Steps p.tables e below (s₁.setTop (mkF m 26 #[.val (.int p0)] [(.int (0 : Int32))])) _
        rw [show (own_leap p0) = (0 : Int32) from by unfold own_leap; rw [if_pos hc3, if_pos hc10, if_neg hc18]] at hr
        exact retN X0 hx (t := .boolean) Bd.returns (by simp) (hb hby d1_26) hr
    · refine XS.ifYes X0.here hx rfl (pc0 := 10) (pc' := 21) rfl (hb hby d1_10) rfl ((if0 _ _).trans (feq hc10).2) (by decide) (by decide) ?_
      show Steps p.tables e below (s₁.setTop (mkF m 21 #[.val (.int p0)] [])) _
      refine XS.iconst X0.here hx rfl (hb hby d1_21) ?_
      show Steps p.tables e below (s₁.setTop (mkF m 22 #[.val (.int p0)] [(.int (1 : Int32))])) _
      refine XS.goto X0.here hx rfl (pc0 := 22) (pc' := 26) rfl (hb hby d1_22) (by decide) (by decide) ?_
      show Steps p.tables e below (s₁.setTop (mkF m 26 #[.val (.int p0)] [(.int (1 : Int32))])) _
      rw [show (own_leap p0) = (1 : Int32) from by unfold own_leap; rw [if_pos hc3, if_neg hc10]] at hr
      exact retN X0 hx (t := .boolean) Bd.returns (by simp) (hb hby d1_26) hr
  · refine XS.ifYes X0.here hx rfl (pc0 := 3) (pc' := 25) rfl (hb hby d1_3) rfl ((if0 _ _).trans (feq hc3).2) (by decide) (by decide) ?_
    show Steps p.tables e below (s₁.setTop (mkF m 25 #[.val (.int p0)] [])) _
    refine XS.iconst X0.here hx rfl (hb hby d1_25) ?_
    show Steps p.tables e below (s₁.setTop (mkF m 26 #[.val (.int p0)] [(.int (0 : Int32))])) _
    rw [show (own_leap p0) = (0 : Int32) from by unfold own_leap; rw [if_neg hc3]] at hr
    exact retN X0 hx (t := .boolean) Bd.returns (by simp) (hb hby d1_26) hr
theorem d2_0 : decode prog_76_method_3_code 0 = .ok (.iload_n 0, 1) := by decide +kernel
theorem d2_1 : decode prog_76_method_3_code 1 = .ok (.sipush 10000, 3) := by decide +kernel
theorem d2_4 : decode prog_76_method_3_code 4 = .ok (.idiv, 1) := by decide +kernel
theorem d2_5 : decode prog_76_method_3_code 5 = .ok (.istore_n 1, 1) := by decide +kernel
theorem d2_6 : decode prog_76_method_3_code 6 = .ok (.iload_n 0, 1) := by decide +kernel
theorem d2_7 : decode prog_76_method_3_code 7 = .ok (.bipush 100, 2) := by decide +kernel
theorem d2_9 : decode prog_76_method_3_code 9 = .ok (.idiv, 1) := by decide +kernel
theorem d2_10 : decode prog_76_method_3_code 10 = .ok (.bipush 100, 2) := by decide +kernel
theorem d2_12 : decode prog_76_method_3_code 12 = .ok (.irem, 1) := by decide +kernel
theorem d2_13 : decode prog_76_method_3_code 13 = .ok (.istore_n 2, 1) := by decide +kernel
theorem d2_14 : decode prog_76_method_3_code 14 = .ok (.iload_n 0, 1) := by decide +kernel
theorem d2_15 : decode prog_76_method_3_code 15 = .ok (.bipush 100, 2) := by decide +kernel
theorem d2_17 : decode prog_76_method_3_code 17 = .ok (.irem, 1) := by decide +kernel
theorem d2_18 : decode prog_76_method_3_code 18 = .ok (.istore_n 3, 1) := by decide +kernel
theorem d2_19 : decode prog_76_method_3_code 19 = .ok (.iload_n 2, 1) := by decide +kernel
theorem d2_20 : decode prog_76_method_3_code 20 = .ok (.iconst 2, 1) := by decide +kernel
theorem d2_21 : decode prog_76_method_3_code 21 = .ok (.if_icmp .le 8, 3) := by decide +kernel
theorem d2_24 : decode prog_76_method_3_code 24 = .ok (.iload_n 1, 1) := by decide +kernel
theorem d2_25 : decode prog_76_method_3_code 25 = .ok (.i2l, 1) := by decide +kernel
theorem d2_26 : decode prog_76_method_3_code 26 = .ok (.goto 7, 3) := by decide +kernel
theorem d2_29 : decode prog_76_method_3_code 29 = .ok (.iload_n 1, 1) := by decide +kernel
theorem d2_30 : decode prog_76_method_3_code 30 = .ok (.iconst 1, 1) := by decide +kernel
theorem d2_31 : decode prog_76_method_3_code 31 = .ok (.isub, 1) := by decide +kernel
theorem d2_32 : decode prog_76_method_3_code 32 = .ok (.i2l, 1) := by decide +kernel
theorem d2_33 : decode prog_76_method_3_code 33 = .ok (.lstore 4, 2) := by decide +kernel
theorem d2_35 : decode prog_76_method_3_code 35 = .ok (.lload 4, 2) := by decide +kernel
theorem d2_37 : decode prog_76_method_3_code 37 = .ok (.lconst 0, 1) := by decide +kernel
theorem d2_38 : decode prog_76_method_3_code 38 = .ok (.lcmp, 1) := by decide +kernel
theorem d2_39 : decode prog_76_method_3_code 39 = .ok (.ifCond .lt 8, 3) := by decide +kernel
theorem d2_42 : decode prog_76_method_3_code 42 = .ok (.lload 4, 2) := by decide +kernel
theorem d2_44 : decode prog_76_method_3_code 44 = .ok (.goto 9, 3) := by decide +kernel
theorem d2_47 : decode prog_76_method_3_code 47 = .ok (.lload 4, 2) := by decide +kernel
theorem d2_49 : decode prog_76_method_3_code 49 = .ok (.ldc2_w 26, 3) := by decide +kernel
theorem d2_52 : decode prog_76_method_3_code 52 = .ok (.lsub, 1) := by decide +kernel
theorem d2_53 : decode prog_76_method_3_code 53 = .ok (.ldc2_w 28, 3) := by decide +kernel
theorem d2_56 : decode prog_76_method_3_code 56 = .ok (.ldiv, 1) := by decide +kernel
theorem d2_57 : decode prog_76_method_3_code 57 = .ok (.lstore 6, 2) := by decide +kernel
theorem d2_59 : decode prog_76_method_3_code 59 = .ok (.lload 4, 2) := by decide +kernel
theorem d2_61 : decode prog_76_method_3_code 61 = .ok (.lload 6, 2) := by decide +kernel
theorem d2_63 : decode prog_76_method_3_code 63 = .ok (.ldc2_w 28, 3) := by decide +kernel
theorem d2_66 : decode prog_76_method_3_code 66 = .ok (.lmul, 1) := by decide +kernel
theorem d2_67 : decode prog_76_method_3_code 67 = .ok (.lsub, 1) := by decide +kernel
theorem d2_68 : decode prog_76_method_3_code 68 = .ok (.lstore 8, 2) := by decide +kernel
theorem d2_70 : decode prog_76_method_3_code 70 = .ok (.sipush 153, 3) := by decide +kernel
theorem d2_73 : decode prog_76_method_3_code 73 = .ok (.iload_n 2, 1) := by decide +kernel
theorem d2_74 : decode prog_76_method_3_code 74 = .ok (.iconst 2, 1) := by decide +kernel
theorem d2_75 : decode prog_76_method_3_code 75 = .ok (.if_icmp .le 9, 3) := by decide +kernel
theorem d2_78 : decode prog_76_method_3_code 78 = .ok (.iload_n 2, 1) := by decide +kernel
theorem d2_79 : decode prog_76_method_3_code 79 = .ok (.iconst 3, 1) := by decide +kernel
theorem d2_80 : decode prog_76_method_3_code 80 = .ok (.isub, 1) := by decide +kernel
theorem d2_81 : decode prog_76_method_3_code 81 = .ok (.goto 7, 3) := by decide +kernel
theorem d2_84 : decode prog_76_method_3_code 84 = .ok (.iload_n 2, 1) := by decide +kernel
theorem d2_85 : decode prog_76_method_3_code 85 = .ok (.bipush 9, 2) := by decide +kernel
theorem d2_87 : decode prog_76_method_3_code 87 = .ok (.iadd, 1) := by decide +kernel
theorem d2_88 : decode prog_76_method_3_code 88 = .ok (.imul, 1) := by decide +kernel
theorem d2_89 : decode prog_76_method_3_code 89 = .ok (.iconst 2, 1) := by decide +kernel
theorem d2_90 : decode prog_76_method_3_code 90 = .ok (.iadd, 1) := by decide +kernel
theorem d2_91 : decode prog_76_method_3_code 91 = .ok (.iconst 5, 1) := by decide +kernel
theorem d2_92 : decode prog_76_method_3_code 92 = .ok (.idiv, 1) := by decide +kernel
theorem d2_93 : decode prog_76_method_3_code 93 = .ok (.iload_n 3, 1) := by decide +kernel
theorem d2_94 : decode prog_76_method_3_code 94 = .ok (.iadd, 1) := by decide +kernel
theorem d2_95 : decode prog_76_method_3_code 95 = .ok (.iconst 1, 1) := by decide +kernel
theorem d2_96 : decode prog_76_method_3_code 96 = .ok (.isub, 1) := by decide +kernel
theorem d2_97 : decode prog_76_method_3_code 97 = .ok (.i2l, 1) := by decide +kernel
theorem d2_98 : decode prog_76_method_3_code 98 = .ok (.lstore 10, 2) := by decide +kernel
theorem d2_100 : decode prog_76_method_3_code 100 = .ok (.ldc2_w 30, 3) := by decide +kernel
theorem d2_103 : decode prog_76_method_3_code 103 = .ok (.lload 8, 2) := by decide +kernel
theorem d2_105 : decode prog_76_method_3_code 105 = .ok (.lmul, 1) := by decide +kernel
theorem d2_106 : decode prog_76_method_3_code 106 = .ok (.lload 8, 2) := by decide +kernel
theorem d2_108 : decode prog_76_method_3_code 108 = .ok (.ldc2_w 32, 3) := by decide +kernel
theorem d2_111 : decode prog_76_method_3_code 111 = .ok (.ldiv, 1) := by decide +kernel
theorem d2_112 : decode prog_76_method_3_code 112 = .ok (.ladd, 1) := by decide +kernel
theorem d2_113 : decode prog_76_method_3_code 113 = .ok (.lload 8, 2) := by decide +kernel
theorem d2_115 : decode prog_76_method_3_code 115 = .ok (.ldc2_w 34, 3) := by decide +kernel
theorem d2_118 : decode prog_76_method_3_code 118 = .ok (.ldiv, 1) := by decide +kernel
theorem d2_119 : decode prog_76_method_3_code 119 = .ok (.lsub, 1) := by decide +kernel
theorem d2_120 : decode prog_76_method_3_code 120 = .ok (.lload 10, 2) := by decide +kernel
theorem d2_122 : decode prog_76_method_3_code 122 = .ok (.ladd, 1) := by decide +kernel
theorem d2_123 : decode prog_76_method_3_code 123 = .ok (.lstore 12, 2) := by decide +kernel
theorem d2_125 : decode prog_76_method_3_code 125 = .ok (.lload 6, 2) := by decide +kernel
theorem d2_127 : decode prog_76_method_3_code 127 = .ok (.ldc2_w 36, 3) := by decide +kernel
theorem d2_130 : decode prog_76_method_3_code 130 = .ok (.lmul, 1) := by decide +kernel
theorem d2_131 : decode prog_76_method_3_code 131 = .ok (.lload 12, 2) := by decide +kernel
theorem d2_133 : decode prog_76_method_3_code 133 = .ok (.ladd, 1) := by decide +kernel
theorem d2_134 : decode prog_76_method_3_code 134 = .ok (.ldc2_w 38, 3) := by decide +kernel
theorem d2_137 : decode prog_76_method_3_code 137 = .ok (.lsub, 1) := by decide +kernel
theorem d2_138 : decode prog_76_method_3_code 138 = .ok (.lreturn, 1) := by decide +kernel
theorem pn_2 : plainName "com/example/vestwright/vestwright/model/IsoDate" = true := by first | (simp [plainName, overriddenIn]; done) | decide +kernel
theorem ef_2 (m : MethodId) (x0 : Int32) : entryFrame m #[(.int x0)] 14 = mkF m 0 #[.val (.int x0), .unset, .unset, .unset, .unset, .unset, .unset, .unset, .unset, .unset, .unset, .unset, .unset, .unset] [] := by first | (simp [entryFrame, mkF, argsToLocals, Value.category]; done) | rfl
def own_A_s0 (y : Int32) (mo : Int32) : Int64 := (if (2 : Int32) < mo then (y.toInt64) else ((y - (1 : Int32)).toInt64))
set_option maxRecDepth 65536 in
set_option maxHeartbeats 40000000 in
theorem sg_A {p : Program} {l : Launch} {e : Env} {R : Room} {s : State} {m : MethodId} {args : Array Value} {below : List Frame} {meth : Method} {c : Code} {T0 : State} {locs : List Loc} {cells slots : Nat} {Z : State} {a0 : Array Value} {h0 : Heap} {target : State} (p0 : Int32) (y : Int32) (mo : Int32) (d : Int32) (X0 : Stand p l e R s m args below meth c T0 locs cells slots) (hx : p.tables.exec = Jvm.exec) (hZ : Z.Warmed39 s.vm) (hw : ∀ d ∈ tables_1, d.before a0 Z = true) (hby : c.code = prog_76_method_3_code) (hown : s.vm.findClass "com/example/vestwright/vestwright/model/IsoDate" = some m.cls) (e0 : T0.heap = h0) 
    (kt : Steps p.tables e below (T0.setTop (mkF m 33 #[.val (.int p0), .val (.int y), .val (.int mo), .val (.int d), .unset, .unset, .unset, .unset, .unset, .unset, .unset, .unset, .unset, .unset] [(.long (own_A_s0 y mo))])) target) : Steps p.tables e below (T0.setTop (mkF m 19 #[.val (.int p0), .val (.int y), .val (.int mo), .val (.int d), .unset, .unset, .unset, .unset, .unset, .unset, .unset, .unset, .unset, .unset] [])) target := by
  show Steps p.tables e below (T0.setTop (mkF m 19 #[.val (.int p0), .val (.int y), .val (.int mo), .val (.int d), .unset, .unset, .unset, .unset, .unset, .unset, .unset, .unset, .unset, .unset] [])) _
  refine XS.iloadN X0.here hx rfl (hb hby d2_19) rfl ?_
  show Steps p.tables e below (T0.setTop (mkF m 20 #[.val (.int p0), .val (.int y), .val (.int mo), .val (.int d), .unset, .unset, .unset, .unset, .unset, .unset, .unset, .unset, .unset, .unset] [(.int mo)])) _
  refine XS.iconst X0.here hx rfl (hb hby d2_20) ?_
  show Steps p.tables e below (T0.setTop (mkF m 21 #[.val (.int p0), .val (.int y), .val (.int mo), .val (.int d), .unset, .unset, .unset, .unset, .unset, .unset, .unset, .unset, .unset, .unset] [(.int (2 : Int32)), (.int mo)])) _
  by_cases hc21 : (2 : Int32) < mo
  · refine XS.icmpNo X0.here hx rfl (hb hby d2_21) rfl (tlt hc21).2.2.2 ?_
    show Steps p.tables e below (T0.setTop (mkF m 24 #[.val (.int p0), .val (.int y), .val (.int mo), .val (.int d), .unset, .unset, .unset, .unset, .unset, .unset, .unset, .unset, .unset, .unset] [])) _
    refine XS.iloadN X0.here hx rfl (hb hby d2_24) rfl ?_
    show Steps p.tables e below (T0.setTop (mkF m 25 #[.val (.int p0), .val (.int y), .val (.int mo), .val (.int d), .unset, .unset, .unset, .unset, .unset, .unset, .unset, .unset, .unset, .unset] [(.int y)])) _
    refine XS.i2l X0.here hx rfl (hb hby d2_25) rfl ?_
    show Steps p.tables e below (T0.setTop (mkF m 26 #[.val (.int p0), .val (.int y), .val (.int mo), .val (.int d), .unset, .unset, .unset, .unset, .unset, .unset, .unset, .unset, .unset, .unset] [(.long (y.toInt64))])) _
    refine XS.goto X0.here hx rfl (pc0 := 26) (pc' := 33) rfl (hb hby d2_26) (by decide) (by decide) ?_
    rw [show (own_A_s0 y mo) = (y.toInt64) from by unfold own_A_s0; rw [if_pos hc21]] at kt
    exact kt
  · refine XS.icmpYes X0.here hx rfl (pc0 := 21) (pc' := 29) rfl (hb hby d2_21) rfl (flt hc21).2.2.2 (by decide) (by decide) ?_
    show Steps p.tables e below (T0.setTop (mkF m 29 #[.val (.int p0), .val (.int y), .val (.int mo), .val (.int d), .unset, .unset, .unset, .unset, .unset, .unset, .unset, .unset, .unset, .unset] [])) _
    refine XS.iloadN X0.here hx rfl (hb hby d2_29) rfl ?_
    show Steps p.tables e below (T0.setTop (mkF m 30 #[.val (.int p0), .val (.int y), .val (.int mo), .val (.int d), .unset, .unset, .unset, .unset, .unset, .unset, .unset, .unset, .unset, .unset] [(.int y)])) _
    refine XS.iconst X0.here hx rfl (hb hby d2_30) ?_
    show Steps p.tables e below (T0.setTop (mkF m 31 #[.val (.int p0), .val (.int y), .val (.int mo), .val (.int d), .unset, .unset, .unset, .unset, .unset, .unset, .unset, .unset, .unset, .unset] [(.int (1 : Int32)), (.int y)])) _
    refine XS.isub X0.here hx rfl (hb hby d2_31) rfl ?_
    show Steps p.tables e below (T0.setTop (mkF m 32 #[.val (.int p0), .val (.int y), .val (.int mo), .val (.int d), .unset, .unset, .unset, .unset, .unset, .unset, .unset, .unset, .unset, .unset] [(.int (y - (1 : Int32)))])) _
    refine XS.i2l X0.here hx rfl (hb hby d2_32) rfl ?_
    rw [show (own_A_s0 y mo) = ((y - (1 : Int32)).toInt64) from by unfold own_A_s0; rw [if_neg hc21]] at kt
    exact kt
def own_B_s0 (my : Int64) : Int64 := (if my < (0 : Int64) then (my - (399 : Int64)) else my)
set_option maxRecDepth 65536 in
set_option maxHeartbeats 40000000 in
theorem sg_B {p : Program} {l : Launch} {e : Env} {R : Room} {s : State} {m : MethodId} {args : Array Value} {below : List Frame} {meth : Method} {c : Code} {T0 : State} {locs : List Loc} {cells slots : Nat} {Z : State} {a0 : Array Value} {h0 : Heap} {target : State} (p0 : Int32) (y : Int32) (mo : Int32) (d : Int32) (my : Int64) (X0 : Stand p l e R s m args below meth c T0 locs cells slots) (hx : p.tables.exec = Jvm.exec) (hZ : Z.Warmed39 s.vm) (hw : ∀ d ∈ tables_1, d.before a0 Z = true) (hby : c.code = prog_76_method_3_code) (hown : s.vm.findClass "com/example/vestwright/vestwright/model/IsoDate" = some m.cls) (e0 : T0.heap = h0) 
    (kt : Steps p.tables e below (T0.setTop (mkF m 53 #[.val (.int p0), .val (.int y), .val (.int mo), .val (.int d), .val (.long my), .second, .unset, .unset, .unset, .unset, .unset, .unset, .unset, .unset] [(.long (own_B_s0 my))])) target) : Steps p.tables e below (T0.setTop (mkF m 35 #[.val (.int p0), .val (.int y), .val (.int mo), .val (.int d), .val (.long my), .second, .unset, .unset, .unset, .unset, .unset, .unset, .unset, .unset] [])) target := by
  show Steps p.tables e below (T0.setTop (mkF m 35 #[.val (.int p0), .val (.int y), .val (.int mo), .val (.int d), .val (.long my), .second, .unset, .unset, .unset, .unset, .unset, .unset, .unset, .unset] [])) _
  refine XS.lload X0.here hx rfl (hb hby d2_35) rfl ?_
  show Steps p.tables e below (T0.setTop (mkF m 37 #[.val (.int p0), .val (.int y), .val (.int mo), .val (.int d), .val (.long my), .second, .unset, .unset, .unset, .unset, .unset, .unset, .unset, .unset] [(.long my)])) _
  refine XS.lconst X0.here hx rfl (hb hby d2_37) ?_
  show Steps p.tables e below (T0.setTop (mkF m 38 #[.val (.int p0), .val (.int y), .val (.int mo), .val (.int d), .val (.long my), .second, .unset, .unset, .unset, .unset, .unset, .unset, .unset, .unset] [(.long (0 : Int64)), (.long my)])) _
  refine XS.lcmp X0.here hx rfl (hb hby d2_38) rfl ?_
  show Steps p.tables e below (T0.setTop (mkF m 39 #[.val (.int p0), .val (.int y), .val (.int mo), .val (.int d), .val (.long my), .second, .unset, .unset, .unset, .unset, .unset, .unset, .unset, .unset] [(.int (lcmpW my (0 : Int64)))])) _
  by_cases hc39 : my < (0 : Int64)
  · refine XS.ifYes X0.here hx rfl (pc0 := 39) (pc' := 47) rfl (hb hby d2_39) rfl ((if0 _ _).trans (tlt ((lw_lt my (0 : Int64)).mpr hc39)).1) (by decide) (by decide) ?_
    show Steps p.tables e below (T0.setTop (mkF m 47 #[.val (.int p0), .val (.int y), .val (.int mo), .val (.int d), .val (.long my), .second, .unset, .unset, .unset, .unset, .unset, .unset, .unset, .unset] [])) _
    refine XS.lload X0.here hx rfl (hb hby d2_47) rfl ?_
    show Steps p.tables e below (T0.setTop (mkF m 49 #[.val (.int p0), .val (.int y), .val (.int mo), .val (.int d), .val (.long my), .second, .unset, .unset, .unset, .unset, .unset, .unset, .unset, .unset] [(.long my)])) _
    refine X0.ldc2J hx hown (mvT hZ (hw _ (List.mem_of_getElem? (i := 24) rfl))) rfl (hb hby d2_49) ?_
    show Steps p.tables e below (T0.setTop (mkF m 52 #[.val (.int p0), .val (.int y), .val (.int mo), .val (.int d), .val (.long my), .second, .unset, .unset, .unset, .unset, .unset, .unset, .unset, .unset] [(.long (399 : Int64)), (.long my)])) _
    refine XS.lsub X0.here hx rfl (hb hby d2_52) rfl ?_
    rw [show (own_B_s0 my) = (my - (399 : Int64)) from by unfold own_B_s0; rw [if_pos hc39]] at kt
    exact kt
  · refine XS.ifNo X0.here hx rfl (hb hby d2_39) rfl ((if0 _ _).trans (flt (fun q => hc39 ((lw_lt my (0 : Int64)).mp q))).1) ?_
    show Steps p.tables e below (T0.setTop (mkF m 42 #[.val (.int p0), .val (.int y), .val (.int mo), .val (.int d), .val (.long my), .second, .unset, .unset, .unset, .unset, .unset, .unset, .unset, .unset] [])) _
    refine XS.lload X0.here hx rfl (hb hby d2_42) rfl ?_
    show Steps p.tables e below (T0.setTop (mkF m 44 #[.val (.int p0), .val (.int y), .val (.int mo), .val (.int d), .val (.long my), .second, .unset, .unset, .unset, .unset, .unset, .unset, .unset, .unset] [(.long my)])) _
    refine XS.goto X0.here hx rfl (pc0 := 44) (pc' := 53) rfl (hb hby d2_44) (by decide) (by decide) ?_
    rw [show (own_B_s0 my) = my from by unfold own_B_s0; rw [if_neg hc39]] at kt
    exact kt
def own_C_s0 (mo : Int32) : Int32 := (if (2 : Int32) < mo then (mo - (3 : Int32)) else (mo + (9 : Int32)))
set_option maxRecDepth 65536 in
set_option maxHeartbeats 40000000 in
theorem sg_C {p : Program} {l : Launch} {e : Env} {R : Room} {s : State} {m : MethodId} {args : Array Value} {below : List Frame} {meth : Method} {c : Code} {T0 : State} {locs : List Loc} {cells slots : Nat} {Z : State} {a0 : Array Value} {h0 : Heap} {target : State} (p0 : Int32) (y : Int32) (mo : Int32) (d : Int32) (my : Int64) (er : Int64) (yo : Int64) (X0 : Stand p l e R s m args below meth c T0 locs cells slots) (hx : p.tables.exec = Jvm.exec) (hZ : Z.Warmed39 s.vm) (hw : ∀ d ∈ tables_1, d.before a0 Z = true) (hby : c.code = prog_76_method_3_code) (hown : s.vm.findClass "com/example/vestwright/vestwright/model/IsoDate" = some m.cls) (e0 : T0.heap = h0) 
    (kt : Steps p.tables e below (T0.setTop (mkF m 88 #[.val (.int p0), .val (.int y), .val (.int mo), .val (.int d), .val (.long my), .second, .val (.long er), .second, .val (.long yo), .second, .unset, .unset, .unset, .unset] [(.int (own_C_s0 mo)), (.int (153 : Int32))])) target) : Steps p.tables e below (T0.setTop (mkF m 73 #[.val (.int p0), .val (.int y), .val (.int mo), .val (.int d), .val (.long my), .second, .val (.long er), .second, .val (.long yo), .second, .unset, .unset, .unset, .unset] [(.int (153 : Int32))])) target := by
  show Steps p.tables e below (T0.setTop (mkF m 73 #[.val (.int p0), .val (.int y), .val (.int mo), .val (.int d), .val (.long my), .second, .val (.long er), .second, .val (.long yo), .second, .unset, .unset, .unset, .unset] [(.int (153 : Int32))])) _
  refine XS.iloadN X0.here hx rfl (hb hby d2_73) rfl ?_
  show Steps p.tables e below (T0.setTop (mkF m 74 #[.val (.int p0), .val (.int y), .val (.int mo), .val (.int d), .val (.long my), .second, .val (.long er), .second, .val (.long yo), .second, .unset, .unset, .unset, .unset] [(.int mo), (.int (153 : Int32))])) _
  refine XS.iconst X0.here hx rfl (hb hby d2_74) ?_
  show Steps p.tables e below (T0.setTop (mkF m 75 #[.val (.int p0), .val (.int y), .val (.int mo), .val (.int d), .val (.long my), .second, .val (.long er), .second, .val (.long yo), .second, .unset, .unset, .unset, .unset] [(.int (2 : Int32)), (.int mo), (.int (153 : Int32))])) _
  by_cases hc75 : (2 : Int32) < mo
  · refine XS.icmpNo X0.here hx rfl (hb hby d2_75) rfl (tlt hc75).2.2.2 ?_
    show Steps p.tables e below (T0.setTop (mkF m 78 #[.val (.int p0), .val (.int y), .val (.int mo), .val (.int d), .val (.long my), .second, .val (.long er), .second, .val (.long yo), .second, .unset, .unset, .unset, .unset] [(.int (153 : Int32))])) _
    refine XS.iloadN X0.here hx rfl (hb hby d2_78) rfl ?_
    show Steps p.tables e below (T0.setTop (mkF m 79 #[.val (.int p0), .val (.int y), .val (.int mo), .val (.int d), .val (.long my), .second, .val (.long er), .second, .val (.long yo), .second, .unset, .unset, .unset, .unset] [(.int mo), (.int (153 : Int32))])) _
    refine XS.iconst X0.here hx rfl (hb hby d2_79) ?_
    show Steps p.tables e below (T0.setTop (mkF m 80 #[.val (.int p0), .val (.int y), .val (.int mo), .val (.int d), .val (.long my), .second, .val (.long er), .second, .val (.long yo), .second, .unset, .unset, .unset, .unset] [(.int (3 : Int32)), (.int mo), (.int (153 : Int32))])) _
    refine XS.isub X0.here hx rfl (hb hby d2_80) rfl ?_
    show Steps p.tables e below (T0.setTop (mkF m 81 #[.val (.int p0), .val (.int y), .val (.int mo), .val (.int d), .val (.long my), .second, .val (.long er), .second, .val (.long yo), .second, .unset, .unset, .unset, .unset] [(.int (mo - (3 : Int32))), (.int (153 : Int32))])) _
    refine XS.goto X0.here hx rfl (pc0 := 81) (pc' := 88) rfl (hb hby d2_81) (by decide) (by decide) ?_
    rw [show (own_C_s0 mo) = (mo - (3 : Int32)) from by unfold own_C_s0; rw [if_pos hc75]] at kt
    exact kt
  · refine XS.icmpYes X0.here hx rfl (pc0 := 75) (pc' := 84) rfl (hb hby d2_75) rfl (flt hc75).2.2.2 (by decide) (by decide) ?_
    show Steps p.tables e below (T0.setTop (mkF m 84 #[.val (.int p0), .val (.int y), .val (.int mo), .val (.int d), .val (.long my), .second, .val (.long er), .second, .val (.long yo), .second, .unset, .unset, .unset, .unset] [(.int (153 : Int32))])) _
    refine XS.iloadN X0.here hx rfl (hb hby d2_84) rfl ?_
    show Steps p.tables e below (T0.setTop (mkF m 85 #[.val (.int p0), .val (.int y), .val (.int mo), .val (.int d), .val (.long my), .second, .val (.long er), .second, .val (.long yo), .second, .unset, .unset, .unset, .unset] [(.int mo), (.int (153 : Int32))])) _
    refine XS.bipush X0.here hx rfl (hb hby d2_85) ?_
    show Steps p.tables e below (T0.setTop (mkF m 87 #[.val (.int p0), .val (.int y), .val (.int mo), .val (.int d), .val (.long my), .second, .val (.long er), .second, .val (.long yo), .second, .unset, .unset, .unset, .unset] [(.int (9 : Int32)), (.int mo), (.int (153 : Int32))])) _
    refine XS.iadd X0.here hx rfl (hb hby d2_87) rfl ?_
    rw [show (own_C_s0 mo) = (mo + (9 : Int32)) from by unfold own_C_s0; rw [if_neg hc75]] at kt
    exact kt
def own_Ep (p0 : Int32) (r : Int64) : Prop := ∃ (y : Int32) (mo : Int32) (d : Int32) (my : Int64) (er : Int64) (yo : Int64) (dy : Int64) (de : Int64), (p0 / (10000 : Int32)) = y ∧ ((p0 / (100 : Int32)) % (100 : Int32)) = mo ∧ (p0 % (100 : Int32)) = d ∧ (own_A_s0 y mo) = my ∧ ((own_B_s0 my) / (400 : Int64)) = er ∧ (my - (er * (400 : Int64))) = yo ∧ (((((((153 : Int32) * (own_C_s0 mo)) + (2 : Int32)) / (5 : Int32)) + d) - (1 : Int32)).toInt64) = dy ∧ (((((365 : Int64) * yo) + (yo / (4 : Int64))) - (yo / (100 : Int64))) + dy) = de ∧ (((er * (146097 : Int64)) + de) - (719468 : Int64)) = r
def Q2 (Z : State) (p0 : Int32) (h0 : Heap) (n0 : Nat) (v : Option Value) (h : Heap) (L : List Loc) : Prop := (∃ r, v = some (.long r) ∧ own_Ep p0 r) ∧ Fr n0 L ∧ h = h0
set_option maxRecDepth 65536 in
set_option maxHeartbeats 40000000 in
theorem rm2 (l : Launch) (Z : State) (a0 : Array Value) (hw : ∀ d ∈ tables_1, d.before a0 Z = true) (ws : List Jvm.Cond) (p0 : Int32) (h0 : Heap) (n0 : Nat) (Z0 : n0 ≤ h0.size)  :
    MetFree l (⟨"com/example/vestwright/vestwright/model/IsoDate", "epochDay", "(I)J"⟩ : MethodName) (head1 (Jvm.Cond.code (⟨"com/example/vestwright/vestwright/model/IsoDate", "epochDay", "(I)J"⟩ : MethodName) prog_76_method_3_code 14 (some .long) :: ws) ({ frames := 0, cells := 0, slots := 0, locals := 0 } : Room)) (fun a_ U_ => a_ = #[(.int p0)] ∧ Z.Warmed39 U_.vm ∧ U_.heap = h0) (fun _ _ _ _ _ => True) (fun _ U_ o_ U' => ∃ v_ L_, o_ = .returned v_ ∧ (Q2 Z p0 h0 n0 v_ U'.heap L_) ∧ FrameEnd U_ o_ U' L_ ({ frames := 0, cells := 0, slots := 0, locals := 0 } : Room).cells ({ frames := 0, cells := 0, slots := 0, locals := 0 } : Room).slots) := by
  refine MetFree.of_bodySF (plainFor_of_name pn_2) hisR ?_
  intro p e s m args below meth c s₁ Bd hml0 hP hK
  obtain ⟨rfl, hZ, hh⟩ := hP
  have hx := Bd.exec
  have hby := Bd.bytes
  have hml : c.maxLocals = 14 := hml0
  have hown : s.vm.findClass "com/example/vestwright/vestwright/model/IsoDate" = some m.cls := findClass_of_methodNamed Bd.named
  have hnm := (name_of_methodNamed Bd.named Bd.method).1
  have X0 : Stand p l e ({ frames := 0, cells := 0, slots := 0, locals := 0 } : Room) s m #[(.int p0)] below meth c s₁ [] 0 0 := Stand.of_body Bd
  have e0 : s₁.heap = h0 := by rw [← hh, Bd.state]; rfl
  have N0 := Fr.nil n0
  have pre0 : ∀ t, Steps p.tables e below (s₁.setTop (mkF m 0 #[.val (.int p0), .unset, .unset, .unset, .unset, .unset, .unset, .unset, .unset, .unset, .unset, .unset, .unset, .unset] [])) t → Steps p.tables e below (s₁.setTop (entryFrame m #[(.int p0)] 14)) t := fun t k => castTop (ef_2 m p0) k
  obtain ⟨y, h_y⟩ : ∃ z, (p0 / (10000 : Int32)) = z := ⟨_, rfl⟩
  obtain ⟨mo, h_mo⟩ : ∃ z, ((p0 / (100 : Int32)) % (100 : Int32)) = z := ⟨_, rfl⟩
  obtain ⟨d, h_d⟩ : ∃ z, (p0 % (100 : Int32)) = z := ⟨_, rfl⟩
  obtain ⟨my, h_my⟩ : ∃ z, (own_A_s0 y mo) = z := ⟨_, rfl⟩
  obtain ⟨er, h_er⟩ : ∃ z, ((own_B_s0 my) / (400 : Int64)) = z := ⟨_, rfl⟩
  obtain ⟨yo, h_yo⟩ : ∃ z, (my - (er * (400 : Int64))) = z := ⟨_, rfl⟩
  obtain ⟨dy, h_dy⟩ : ∃ z, (((((((153 : Int32) * (own_C_s0 mo)) + (2 : Int32)) / (5 : Int32)) + d) - (1 : Int32)).toInt64) = z := ⟨_, rfl⟩
  obtain ⟨de, h_de⟩ : ∃ z, (((((365 : Int64) * yo) + (yo / (4 : Int64))) - (yo / (100 : Int64))) + dy) = z := ⟨_, rfl⟩
  obtain ⟨fs, hr, hrun, hended, hW, hsame⟩ := X0.leave (v := some (.long (((er * (146097 : Int64)) + de) - (719468 : Int64)))) (fun h => by rw [Bd.returns] at h; cases h)
  refine ⟨_, _, pre0 _ ?_, hrun, hended, _, _, rfl, ⟨⟨_, rfl, y, mo, d, my, er, yo, dy, de, h_y, h_mo, h_d, h_my, h_er, h_yo, h_dy, h_de, rfl⟩, N0, e0⟩, ⟨_, rfl⟩, hW, hsame.mono (by decide) (by decide)⟩
  show Steps p.tables e below (s₁.setTop (mkF m 0 #[.val (.int p0), .unset, .unset, .unset, .unset, .unset, .unset, .unset, .unset, .unset, .unset, .unset, .unset, .unset] [])) _
  refine XS.iloadN X0.here hx rfl (hb hby d2_0) rfl ?_
  show Steps p.tables e below (s₁.setTop (mkF m 1 #[.val (.int p0), .unset, .unset, .unset, .unset, .unset, .unset, .unset, .unset, .unset, .unset, .unset, .unset, .unset] [(.int p0)])) _
  refine XS.sipush X0.here hx rfl (hb hby d2_1) ?_
  show Steps p.tables e below (s₁.setTop (mkF m 4 #[.val (.int p0), .unset, .unset, .unset, .unset, .unset, .unset, .unset, .unset, .unset, .unset, .unset, .unset, .unset] [(.int (10000 : Int32)), (.int p0)])) _
  refine XS.idiv X0.here hx rfl (hb hby d2_4) rfl (by decide) ?_
  show Steps p.tables e below (s₁.setTop (mkF m 5 #[.val (.int p0), .unset, .unset, .unset, .unset, .unset, .unset, .unset, .unset, .unset, .unset, .unset, .unset, .unset] [(.int (p0 / (10000 : Int32)))])) _
  refine XS.istoreN X0.here hx rfl (hb hby d2_5) rfl (l' := #[.val (.int p0), .val (.int (p0 / (10000 : Int32))), .unset, .unset, .unset, .unset, .unset, .unset, .unset, .unset, .unset, .unset, .unset, .unset]) rfl ?_
  show Steps p.tables e below (s₁.setTop (mkF m 6 #[.val (.int p0), .val (.int (p0 / (10000 : Int32))), .unset, .unset, .unset, .unset, .unset, .unset, .unset, .unset, .unset, .unset, .unset, .unset] [])) _
  refine XS.iloadN X0.here hx rfl (hb hby d2_6) rfl ?_
  show Steps p.tables e below (s₁.setTop (mkF m 7 #[.val (.int p0), .val (.int (p0 / (10000 : Int32))), .unset, .unset, .unset, .unset, .unset, .unset, .unset, .unset, .unset, .unset, .unset, .unset] [(.int p0)])) _
  refine XS.bipush X0.here hx rfl (hb hby d2_7) ?_
  show Steps p.tables e below (s₁.setTop (mkF m 9 #[.val (.int p0), .val (.int (p0 / (10000 : Int32))), .unset, .unset, .unset, .unset, .unset, .unset, .unset, .unset, .unset, .unset, .unset, .unset] [(.int (100 : Int32)), (.int p0)])) _
  refine XS.idiv X0.here hx rfl (hb hby d2_9) rfl (by decide) ?_
  show Steps p.tables e below (s₁.setTop (mkF m 10 #[.val (.int p0), .val (.int (p0 / (10000 : Int32))), .unset, .unset, .unset, .unset, .unset, .unset, .unset, .unset, .unset, .unset, .unset, .unset] [(.int (p0 / (100 : Int32)))])) _
  refine XS.bipush X0.here hx rfl (hb hby d2_10) ?_
  show Steps p.tables e below (s₁.setTop (mkF m 12 #[.val (.int p0), .val (.int (p0 / (10000 : Int32))), .unset, .unset, .unset, .unset, .unset, .unset, .unset, .unset, .unset, .unset, .unset, .unset] [(.int (100 : Int32)), (.int (p0 / (100 : Int32)))])) _
  refine iremM X0 hx rfl (hb hby d2_12) rfl (by decide) ?_
  show Steps p.tables e below (s₁.setTop (mkF m 13 #[.val (.int p0), .val (.int (p0 / (10000 : Int32))), .unset, .unset, .unset, .unset, .unset, .unset, .unset, .unset, .unset, .unset, .unset, .unset] [(.int ((p0 / (100 : Int32)) % (100 : Int32)))])) _
  refine XS.istoreN X0.here hx rfl (hb hby d2_13) rfl (l' := #[.val (.int p0), .val (.int (p0 / (10000 : Int32))), .val (.int ((p0 / (100 : Int32)) % (100 : Int32))), .unset, .unset, .unset, .unset, .unset, .unset, .unset, .unset, .unset, .unset, .unset]) rfl ?_
  show Steps p.tables e below (s₁.setTop (mkF m 14 #[.val (.int p0), .val (.int (p0 / (10000 : Int32))), .val (.int ((p0 / (100 : Int32)) % (100 : Int32))), .unset, .unset, .unset, .unset, .unset, .unset, .unset, .unset, .unset, .unset, .unset] [])) _
  refine XS.iloadN X0.here hx rfl (hb hby d2_14) rfl ?_
  show Steps p.tables e below (s₁.setTop (mkF m 15 #[.val (.int p0), .val (.int (p0 / (10000 : Int32))), .val (.int ((p0 / (100 : Int32)) % (100 : Int32))), .unset, .unset, .unset, .unset, .unset, .unset, .unset, .unset, .unset, .unset, .unset] [(.int p0)])) _
  refine XS.bipush X0.here hx rfl (hb hby d2_15) ?_
  show Steps p.tables e below (s₁.setTop (mkF m 17 #[.val (.int p0), .val (.int (p0 / (10000 : Int32))), .val (.int ((p0 / (100 : Int32)) % (100 : Int32))), .unset, .unset, .unset, .unset, .unset, .unset, .unset, .unset, .unset, .unset, .unset] [(.int (100 : Int32)), (.int p0)])) _
  refine iremM X0 hx rfl (hb hby d2_17) rfl (by decide) ?_
  show Steps p.tables e below (s₁.setTop (mkF m 18 #[.val (.int p0), .val (.int (p0 / (10000 : Int32))), .val (.int ((p0 / (100 : Int32)) % (100 : Int32))), .unset, .unset, .unset, .unset, .unset, .unset, .unset, .unset, .unset, .unset, .unset] [(.int (p0 % (100 : Int32)))])) _
  refine XS.istoreN X0.here hx rfl (hb hby d2_18) rfl (l' := #[.val (.int p0), .val (.int (p0 / (10000 : Int32))), .val (.int ((p0 / (100 : Int32)) % (100 : Int32))), .val (.int (p0 % (100 : Int32))), .unset, .unset, .unset, .unset, .unset, .unset, .unset, .unset, .unset, .unset]) rfl ?_
  rw [h_y]
  rw [h_mo]
  rw [h_d]
  show Steps p.tables e below (s₁.setTop (mkF m 19 #[.val (.int p0), .val (.int y), .val (.int mo), .val (.int d), .unset, .unset, .unset, .unset, .unset, .unset, .unset, .unset, .unset, .unset] [])) _
  refine sg_A p0 y mo d X0 hx hZ hw hby hown e0  ?_
  show Steps p.tables e below (s₁.setTop (mkF m 33 #[.val (.int p0), .val (.int y), .val (.int mo), .val (.int d), .unset, .unset, .unset, .unset, .unset, .unset, .unset, .unset, .unset, .unset] [(.long (own_A_s0 y mo))])) _
  refine XS.lstore X0.here hx rfl (hb hby d2_33) rfl (l' := #[.val (.int p0), .val (.int y), .val (.int mo), .val (.int d), .val (.long (own_A_s0 y mo)), .second, .unset, .unset, .unset, .unset, .unset, .unset, .unset, .unset]) rfl ?_
  rw [h_my]
  show Steps p.tables e below (s₁.setTop (mkF m 35 #[.val (.int p0), .val (.int y), .val (.int mo), .val (.int d), .val (.long my), .second, .unset, .unset, .unset, .unset, .unset, .unset, .unset, .unset] [])) _
  refine sg_B p0 y mo d my X0 hx hZ hw hby hown e0  ?_
  show Steps p.tables e below (s₁.setTop (mkF m 53 #[.val (.int p0), .val (.int y), .val (.int mo), .val (.int d), .val (.long my), .second, .unset, .unset, .unset, .unset, .unset, .unset, .unset, .unset] [(.long (own_B_s0 my))])) _
  refine X0.ldc2J hx hown (mvT hZ (hw _ (List.mem_of_getElem? (i := 18) rfl))) rfl (hb hby d2_53) ?_
  show Steps p.tables e below (s₁.setTop (mkF m 56 #[.val (.int p0), .val (.int y), .val (.int mo), .val (.int d), .val (.long my), .second, .unset, .unset, .unset, .unset, .unset, .unset, .unset, .unset] [(.long (400 : Int64)), (.long (own_B_s0 my))])) _
  refine XS.ldiv X0.here hx rfl (hb hby d2_56) rfl (by decide) ?_
  show Steps p.tables e below (s₁.setTop (mkF m 57 #[.val (.int p0), .val (.int y), .val (.int mo), .val (.int d), .val (.long my), .second, .unset, .unset, .unset, .unset, .unset, .unset, .unset, .unset] [(.long ((own_B_s0 my) / (400 : Int64)))])) _
  refine XS.lstore X0.here hx rfl (hb hby d2_57) rfl (l' := #[.val (.int p0), .val (.int y), .val (.int mo), .val (.int d), .val (.long my), .second, .val (.long ((own_B_s0 my) / (400 : Int64))), .second, .unset, .unset, .unset, .unset, .unset, .unset]) rfl ?_
  rw [h_er]
  show Steps p.tables e below (s₁.setTop (mkF m 59 #[.val (.int p0), .val (.int y), .val (.int mo), .val (.int d), .val (.long my), .second, .val (.long er), .second, .unset, .unset, .unset, .unset, .unset, .unset] [])) _
  refine XS.lload X0.here hx rfl (hb hby d2_59) rfl ?_
  show Steps p.tables e below (s₁.setTop (mkF m 61 #[.val (.int p0), .val (.int y), .val (.int mo), .val (.int d), .val (.long my), .second, .val (.long er), .second, .unset, .unset, .unset, .unset, .unset, .unset] [(.long my)])) _
  refine XS.lload X0.here hx rfl (hb hby d2_61) rfl ?_
  show Steps p.tables e below (s₁.setTop (mkF m 63 #[.val (.int p0), .val (.int y), .val (.int mo), .val (.int d), .val (.long my), .second, .val (.long er), .second, .unset, .unset, .unset, .unset, .unset, .unset] [(.long er), (.long my)])) _
  refine X0.ldc2J hx hown (mvT hZ (hw _ (List.mem_of_getElem? (i := 18) rfl))) rfl (hb hby d2_63) ?_
  show Steps p.tables e below (s₁.setTop (mkF m 66 #[.val (.int p0), .val (.int y), .val (.int mo), .val (.int d), .val (.long my), .second, .val (.long er), .second, .unset, .unset, .unset, .unset, .unset, .unset] [(.long (400 : Int64)), (.long er), (.long my)])) _
  refine XS.lmul X0.here hx rfl (hb hby d2_66) rfl ?_
  show Steps p.tables e below (s₁.setTop (mkF m 67 #[.val (.int p0), .val (.int y), .val (.int mo), .val (.int d), .val (.long my), .second, .val (.long er), .second, .unset, .unset, .unset, .unset, .unset, .unset] [(.long (er * (400 : Int64))), (.long my)])) _
  refine XS.lsub X0.here hx rfl (hb hby d2_67) rfl ?_
  show Steps p.tables e below (s₁.setTop (mkF m 68 #[.val (.int p0), .val (.int y), .val (.int mo), .val (.int d), .val (.long my), .second, .val (.long er), .second, .unset, .unset, .unset, .unset, .unset, .unset] [(.long (my - (er * (400 : Int64))))])) _
  refine XS.lstore X0.here hx rfl (hb hby d2_68) rfl (l' := #[.val (.int p0), .val (.int y), .val (.int mo), .val (.int d), .val (.long my), .second, .val (.long er), .second, .val (.long (my - (er * (400 : Int64)))), .second, .unset, .unset, .unset, .unset]) rfl ?_
  rw [h_yo]
  show Steps p.tables e below (s₁.setTop (mkF m 70 #[.val (.int p0), .val (.int y), .val (.int mo), .val (.int d), .val (.long my), .second, .val (.long er), .second, .val (.long yo), .second, .unset, .unset, .unset, .unset] [])) _
  refine XS.sipush X0.here hx rfl (hb hby d2_70) ?_
  show Steps p.tables e below (s₁.setTop (mkF m 73 #[.val (.int p0), .val (.int y), .val (.int mo), .val (.int d), .val (.long my), .second, .val (.long er), .second, .val (.long yo), .second, .unset, .unset, .unset, .unset] [(.int (153 : Int32))])) _
  refine sg_C p0 y mo d my er yo X0 hx hZ hw hby hown e0  ?_
  show Steps p.tables e below (s₁.setTop (mkF m 88 #[.val (.int p0), .val (.int y), .val (.int mo), .val (.int d), .val (.long my), .second, .val (.long er), .second, .val (.long yo), .second, .unset, .unset, .unset, .unset] [(.int (own_C_s0 mo)), (.int (153 : Int32))])) _
  refine XS.imul X0.here hx rfl (hb hby d2_88) rfl ?_
  show Steps p.tables e below (s₁.setTop (mkF m 89 #[.val (.int p0), .val (.int y), .val (.int mo), .val (.int d), .val (.long my), .second, .val (.long er), .second, .val (.long yo), .second, .unset, .unset, .unset, .unset] [(.int ((153 : Int32) * (own_C_s0 mo)))])) _
  refine XS.iconst X0.here hx rfl (hb hby d2_89) ?_
  show Steps p.tables e below (s₁.setTop (mkF m 90 #[.val (.int p0), .val (.int y), .val (.int mo), .val (.int d), .val (.long my), .second, .val (.long er), .second, .val (.long yo), .second, .unset, .unset, .unset, .unset] [(.int (2 : Int32)), (.int ((153 : Int32) * (own_C_s0 mo)))])) _
  refine XS.iadd X0.here hx rfl (hb hby d2_90) rfl ?_
  show Steps p.tables e below (s₁.setTop (mkF m 91 #[.val (.int p0), .val (.int y), .val (.int mo), .val (.int d), .val (.long my), .second, .val (.long er), .second, .val (.long yo), .second, .unset, .unset, .unset, .unset] [(.int (((153 : Int32) * (own_C_s0 mo)) + (2 : Int32)))])) _
  refine XS.iconst X0.here hx rfl (hb hby d2_91) ?_
  show Steps p.tables e below (s₁.setTop (mkF m 92 #[.val (.int p0), .val (.int y), .val (.int mo), .val (.int d), .val (.long my), .second, .val (.long er), .second, .val (.long yo), .second, .unset, .unset, .unset, .unset] [(.int (5 : Int32)), (.int (((153 : Int32) * (own_C_s0 mo)) + (2 : Int32)))])) _
  refine XS.idiv X0.here hx rfl (hb hby d2_92) rfl (by decide) ?_
  show Steps p.tables e below (s₁.setTop (mkF m 93 #[.val (.int p0), .val (.int y), .val (.int mo), .val (.int d), .val (.long my), .second, .val (.long er), .second, .val (.long yo), .second, .unset, .unset, .unset, .unset] [(.int ((((153 : Int32) * (own_C_s0 mo)) + (2 : Int32)) / (5 : Int32)))])) _
  refine XS.iloadN X0.here hx rfl (hb hby d2_93) rfl ?_
  show Steps p.tables e below (s₁.setTop (mkF m 94 #[.val (.int p0), .val (.int y), .val (.int mo), .val (.int d), .val (.long my), .second, .val (.long er), .second, .val (.long yo), .second, .unset, .unset, .unset, .unset] [(.int d), (.int ((((153 : Int32) * (own_C_s0 mo)) + (2 : Int32)) / (5 : Int32)))])) _
  refine XS.iadd X0.here hx rfl (hb hby d2_94) rfl ?_
  show Steps p.tables e below (s₁.setTop (mkF m 95 #[.val (.int p0), .val (.int y), .val (.int mo), .val (.int d), .val (.long my), .second, .val (.long er), .second, .val (.long yo), .second, .unset, .unset, .unset, .unset] [(.int (((((153 : Int32) * (own_C_s0 mo)) + (2 : Int32)) / (5 : Int32)) + d))])) _
  refine XS.iconst X0.here hx rfl (hb hby d2_95) ?_
  show Steps p.tables e below (s₁.setTop (mkF m 96 #[.val (.int p0), .val (.int y), .val (.int mo), .val (.int d), .val (.long my), .second, .val (.long er), .second, .val (.long yo), .second, .unset, .unset, .unset, .unset] [(.int (1 : Int32)), (.int (((((153 : Int32) * (own_C_s0 mo)) + (2 : Int32)) / (5 : Int32)) + d))])) _
  refine XS.isub X0.here hx rfl (hb hby d2_96) rfl ?_
  show Steps p.tables e below (s₁.setTop (mkF m 97 #[.val (.int p0), .val (.int y), .val (.int mo), .val (.int d), .val (.long my), .second, .val (.long er), .second, .val (.long yo), .second, .unset, .unset, .unset, .unset] [(.int ((((((153 : Int32) * (own_C_s0 mo)) + (2 : Int32)) / (5 : Int32)) + d) - (1 : Int32)))])) _
  refine XS.i2l X0.here hx rfl (hb hby d2_97) rfl ?_
  show Steps p.tables e below (s₁.setTop (mkF m 98 #[.val (.int p0), .val (.int y), .val (.int mo), .val (.int d), .val (.long my), .second, .val (.long er), .second, .val (.long yo), .second, .unset, .unset, .unset, .unset] [(.long (((((((153 : Int32) * (own_C_s0 mo)) + (2 : Int32)) / (5 : Int32)) + d) - (1 : Int32)).toInt64))])) _
  refine XS.lstore X0.here hx rfl (hb hby d2_98) rfl (l' := #[.val (.int p0), .val (.int y), .val (.int mo), .val (.int d), .val (.long my), .second, .val (.long er), .second, .val (.long yo), .second, .val (.long (((((((153 : Int32) * (own_C_s0 mo)) + (2 : Int32)) / (5 : Int32)) + d) - (1 : Int32)).toInt64)), .second, .unset, .unset]) rfl ?_
  rw [h_dy]
  show Steps p.tables e below (s₁.setTop (mkF m 100 #[.val (.int p0), .val (.int y), .val (.int mo), .val (.int d), .val (.long my), .second, .val (.long er), .second, .val (.long yo), .second, .val (.long dy), .second, .unset, .unset] [])) _
  refine X0.ldc2J hx hown (mvT hZ (hw _ (List.mem_of_getElem? (i := 19) rfl))) rfl (hb hby d2_100) ?_
  show Steps p.tables e below (s₁.setTop (mkF m 103 #[.val (.int p0), .val (.int y), .val (.int mo), .val (.int d), .val (.long my), .second, .val (.long er), .second, .val (.long yo), .second, .val (.long dy), .second, .unset, .unset] [(.long (365 : Int64))])) _
  refine XS.lload X0.here hx rfl (hb hby d2_103) rfl ?_
  show Steps p.tables e below (s₁.setTop (mkF m 105 #[.val (.int p0), .val (.int y), .val (.int mo), .val (.int d), .val (.long my), .second, .val (.long er), .second, .val (.long yo), .second, .val (.long dy), .second, .unset, .unset] [(.long yo), (.long (365 : Int64))])) _
  refine XS.lmul X0.here hx rfl (hb hby d2_105) rfl ?_
  show Steps p.tables e below (s₁.setTop (mkF m 106 #[.val (.int p0), .val (.int y), .val (.int mo), .val (.int d), .val (.long my), .second, .val (.long er), .second, .val (.long yo), .second, .val (.long dy), .second, .unset, .unset] [(.long ((365 : Int64) * yo))])) _
  refine XS.lload X0.here hx rfl (hb hby d2_106) rfl ?_
  show Steps p.tables e below (s₁.setTop (mkF m 108 #[.val (.int p0), .val (.int y), .val (.int mo), .val (.int d), .val (.long my), .second, .val (.long er), .second, .val (.long yo), .second, .val (.long dy), .second, .unset, .unset] [(.long yo), (.long ((365 : Int64) * yo))])) _
  refine X0.ldc2J hx hown (mvT hZ (hw _ (List.mem_of_getElem? (i := 20) rfl))) rfl (hb hby d2_108) ?_
  show Steps p.tables e below (s₁.setTop (mkF m 111 #[.val (.int p0), .val (.int y), .val (.int mo), .val (.int d), .val (.long my), .second, .val (.long er), .second, .val (.long yo), .second, .val (.long dy), .second, .unset, .unset] [(.long (4 : Int64)), (.long yo), (.long ((365 : Int64) * yo))])) _
  refine XS.ldiv X0.here hx rfl (hb hby d2_111) rfl (by decide) ?_
  show Steps p.tables e below (s₁.setTop (mkF m 112 #[.val (.int p0), .val (.int y), .val (.int mo), .val (.int d), .val (.long my), .second, .val (.long er), .second, .val (.long yo), .second, .val (.long dy), .second, .unset, .unset] [(.long (yo / (4 : Int64))), (.long ((365 : Int64) * yo))])) _
  refine XS.ladd X0.here hx rfl (hb hby d2_112) rfl ?_
  show Steps p.tables e below (s₁.setTop (mkF m 113 #[.val (.int p0), .val (.int y), .val (.int mo), .val (.int d), .val (.long my), .second, .val (.long er), .second, .val (.long yo), .second, .val (.long dy), .second, .unset, .unset] [(.long (((365 : Int64) * yo) + (yo / (4 : Int64))))])) _
  refine XS.lload X0.here hx rfl (hb hby d2_113) rfl ?_
  show Steps p.tables e below (s₁.setTop (mkF m 115 #[.val (.int p0), .val (.int y), .val (.int mo), .val (.int d), .val (.long my), .second, .val (.long er), .second, .val (.long yo), .second, .val (.long dy), .second, .unset, .unset] [(.long yo), (.long (((365 : Int64) * yo) + (yo / (4 : Int64))))])) _
  refine X0.ldc2J hx hown (mvT hZ (hw _ (List.mem_of_getElem? (i := 21) rfl))) rfl (hb hby d2_115) ?_
  show Steps p.tables e below (s₁.setTop (mkF m 118 #[.val (.int p0), .val (.int y), .val (.int mo), .val (.int d), .val (.long my), .second, .val (.long er), .second, .val (.long yo), .second, .val (.long dy), .second, .unset, .unset] [(.long (100 : Int64)), (.long yo), (.long (((365 : Int64) * yo) + (yo / (4 : Int64))))])) _
  refine XS.ldiv X0.here hx rfl (hb hby d2_118) rfl (by decide) ?_
  show Steps p.tables e below (s₁.setTop (mkF m 119 #[.val (.int p0), .val (.int y), .val (.int mo), .val (.int d), .val (.long my), .second, .val (.long er), .second, .val (.long yo), .second, .val (.long dy), .second, .unset, .unset] [(.long (yo / (100 : Int64))), (.long (((365 : Int64) * yo) + (yo / (4 : Int64))))])) _
  refine XS.lsub X0.here hx rfl (hb hby d2_119) rfl ?_
  show Steps p.tables e below (s₁.setTop (mkF m 120 #[.val (.int p0), .val (.int y), .val (.int mo), .val (.int d), .val (.long my), .second, .val (.long er), .second, .val (.long yo), .second, .val (.long dy), .second, .unset, .unset] [(.long ((((365 : Int64) * yo) + (yo / (4 : Int64))) - (yo / (100 : Int64))))])) _
  refine XS.lload X0.here hx rfl (hb hby d2_120) rfl ?_
  show Steps p.tables e below (s₁.setTop (mkF m 122 #[.val (.int p0), .val (.int y), .val (.int mo), .val (.int d), .val (.long my), .second, .val (.long er), .second, .val (.long yo), .second, .val (.long dy), .second, .unset, .unset] [(.long dy), (.long ((((365 : Int64) * yo) + (yo / (4 : Int64))) - (yo / (100 : Int64))))])) _
  refine XS.ladd X0.here hx rfl (hb hby d2_122) rfl ?_
  show Steps p.tables e below (s₁.setTop (mkF m 123 #[.val (.int p0), .val (.int y), .val (.int mo), .val (.int d), .val (.long my), .second, .val (.long er), .second, .val (.long yo), .second, .val (.long dy), .second, .unset, .unset] [(.long (((((365 : Int64) * yo) + (yo / (4 : Int64))) - (yo / (100 : Int64))) + dy))])) _
  refine XS.lstore X0.here hx rfl (hb hby d2_123) rfl (l' := #[.val (.int p0), .val (.int y), .val (.int mo), .val (.int d), .val (.long my), .second, .val (.long er), .second, .val (.long yo), .second, .val (.long dy), .second, .val (.long (((((365 : Int64) * yo) + (yo / (4 : Int64))) - (yo / (100 : Int64))) + dy)), .second]) rfl ?_
  rw [h_de]
  show Steps p.tables e below (s₁.setTop (mkF m 125 #[.val (.int p0), .val (.int y), .val (.int mo), .val (.int d), .val (.long my), .second, .val (.long er), .second, .val (.long yo), .second, .val (.long dy), .second, .val (.long de), .second] [])) _
  refine XS.lload X0.here hx rfl (hb hby d2_125) rfl ?_
  show Steps p.tables e below (s₁.setTop (mkF m 127 #[.val (.int p0), .val (.int y), .val (.int mo), .val (.int d), .val (.long my), .second, .val (.long er), .second, .val (.long yo), .second, .val (.long dy), .second, .val (.long de), .second] [(.long er)])) _
  refine X0.ldc2J hx hown (mvT hZ (hw _ (List.mem_of_getElem? (i := 22) rfl))) rfl (hb hby d2_127) ?_
  show Steps p.tables e below (s₁.setTop (mkF m 130 #[.val (.int p0), .val (.int y), .val (.int mo), .val (.int d), .val (.long my), .second, .val (.long er), .second, .val (.long yo), .second, .val (.long dy), .second, .val (.long de), .second] [(.long (146097 : Int64)), (.long er)])) _
  refine XS.lmul X0.here hx rfl (hb hby d2_130) rfl ?_
  show Steps p.tables e below (s₁.setTop (mkF m 131 #[.val (.int p0), .val (.int y), .val (.int mo), .val (.int d), .val (.long my), .second, .val (.long er), .second, .val (.long yo), .second, .val (.long dy), .second, .val (.long de), .second] [(.long (er * (146097 : Int64)))])) _
  refine XS.lload X0.here hx rfl (hb hby d2_131) rfl ?_
  show Steps p.tables e below (s₁.setTop (mkF m 133 #[.val (.int p0), .val (.int y), .val (.int mo), .val (.int d), .val (.long my), .second, .val (.long er), .second, .val (.long yo), .second, .val (.long dy), .second, .val (.long de), .second] [(.long de), (.long (er * (146097 : Int64)))])) _
  refine XS.ladd X0.here hx rfl (hb hby d2_133) rfl ?_
  show Steps p.tables e below (s₁.setTop (mkF m 134 #[.val (.int p0), .val (.int y), .val (.int mo), .val (.int d), .val (.long my), .second, .val (.long er), .second, .val (.long yo), .second, .val (.long dy), .second, .val (.long de), .second] [(.long ((er * (146097 : Int64)) + de))])) _
  refine X0.ldc2J hx hown (mvT hZ (hw _ (List.mem_of_getElem? (i := 23) rfl))) rfl (hb hby d2_134) ?_
  show Steps p.tables e below (s₁.setTop (mkF m 137 #[.val (.int p0), .val (.int y), .val (.int mo), .val (.int d), .val (.long my), .second, .val (.long er), .second, .val (.long yo), .second, .val (.long dy), .second, .val (.long de), .second] [(.long (719468 : Int64)), (.long ((er * (146097 : Int64)) + de))])) _
  refine XS.lsub X0.here hx rfl (hb hby d2_137) rfl ?_
  show Steps p.tables e below (s₁.setTop (mkF m 138 #[.val (.int p0), .val (.int y), .val (.int mo), .val (.int d), .val (.long my), .second, .val (.long er), .second, .val (.long yo), .second, .val (.long dy), .second, .val (.long de), .second] [(.long (((er * (146097 : Int64)) + de) - (719468 : Int64)))])) _
  exact own_retJ X0 hx Bd.returns (hb hby d2_138) hr
theorem own_Ep_val {p0 : Int32} {r : Int64} (hE : own_Ep p0 r) (Y M D : Int) (hY : 0 ≤ Y ∧ Y ≤ 9999) (hM : 1 ≤ M ∧ M ≤ 12) (hD : 1 ≤ D ∧ D ≤ 99) (hp : p0.toInt = Y * 10000 + M * 100 + D) :
    ∃ y' m' : Int, ((3 ≤ M ∧ y' = Y ∧ m' = M - 3) ∨ (M ≤ 2 ∧ y' = Y - 1 ∧ m' = M + 9)) ∧ r.toInt = (y' / 400) * 146097 + (365 * (y' - y' / 400 * 400) + (y' - y' / 400 * 400) / 4 - (y' - y' / 400 * 400) / 100 + ((153 * m' + 2) / 5 + D - 1)) - 719468 := by
  obtain ⟨y, mo, d, my, er, yo, dy, de, hy, hmo, hd, hmy, her, hyo, hdy, hde, hr⟩ := hE
  have ey : y.toInt = Y := by rw [← hy, own_i_div hp (show (10000 : Int32).toInt = 10000 from rfl) (by omega)]; omega
  have e100 : (p0 / (100 : Int32)).toInt = Y * 100 + M := by rw [own_i_div hp (show (100 : Int32).toInt = 100 from rfl) (by omega)]; omega
  have emo : mo.toInt = M := by rw [← hmo, own_i_mod e100 (show (100 : Int32).toInt = 100 from rfl) (by omega)]; omega
  have ed : d.toInt = D := by rw [← hd, own_i_mod hp (show (100 : Int32).toInt = 100 from rfl) (by omega)]; omega
  have em : (2 : Int32) < mo ↔ 2 < M := own_i_lt rfl emo
  obtain ⟨y', m', h3, emy, hy', em', hm'⟩ : ∃ y' m' : Int, ((3 ≤ M ∧ y' = Y ∧ m' = M - 3) ∨ (M ≤ 2 ∧ y' = Y - 1 ∧ m' = M + 9)) ∧ my.toInt = y' ∧ (-1 ≤ y' ∧ y' ≤ 9999) ∧ (own_C_s0 mo).toInt = m' ∧ (0 ≤ m' ∧ m' ≤ 11) := by
    by_cases q : (2 : Int32) < mo
    · have q' := em.mp q
      refine ⟨Y, M - 3, Or.inl ⟨by omega, rfl, rfl⟩, ?_, by omega, ?_, by omega⟩
      · rw [← hmy]; unfold own_A_s0; rw [if_pos q]; exact own_i2l ey
      · unfold own_C_s0; rw [if_pos q]; exact own_i_sub emo rfl (by show -2147483648 ≤ M - (3 : Int) ∧ M - (3 : Int) < 2147483648; omega)
    · have q' : ¬ 2 < M := fun z => q (em.mpr z)
      refine ⟨Y - 1, M + 9, Or.inr ⟨by omega, rfl, rfl⟩, ?_, by omega, ?_, by omega⟩
      · rw [← hmy]; unfold own_A_s0; rw [if_neg q]; exact own_i2l (own_i_sub ey rfl (by show -2147483648 ≤ Y - (1 : Int) ∧ Y - (1 : Int) < 2147483648; omega))
      · unfold own_C_s0; rw [if_neg q]; exact own_i_add emo rfl (by show -2147483648 ≤ M + (9 : Int) ∧ M + (9 : Int) < 2147483648; omega)
  refine ⟨y', m', h3, ?_⟩
  have eer : er.toInt = y' / 400 := by
    rw [← her]; unfold own_B_s0
    by_cases q : my < (0 : Int64)
    · have q' : y' < 0 := (own_l_lt emy rfl).mp q
      rw [if_pos q]
      have t1 : (my - (399 : Int64)).toInt = y' - 399 := own_l_sub emy rfl (by show -9223372036854775808 ≤ y' - (399 : Int) ∧ y' - (399 : Int) < 9223372036854775808; omega)
      rw [own_l_divN t1 rfl (by show y' - 399 < 0 ∧ 0 < (400 : Int); omega)]
      show -(-(y' - 399) / (400 : Int)) = _
      omega
    · have q' : ¬ y' < 0 := fun z => q ((own_l_lt emy rfl).mpr z)
      rw [if_neg q, own_l_div emy rfl (by show 0 ≤ y' ∧ 0 < (400 : Int); omega)]
      rfl
  have eyo : yo.toInt = y' - y' / 400 * 400 := by
    rw [← hyo]
    exact own_l_sub emy (own_l_mul eer rfl (by show -9223372036854775808 ≤ y' / 400 * (400 : Int) ∧ y' / 400 * (400 : Int) < 9223372036854775808; omega)) (by show -9223372036854775808 ≤ y' - y' / 400 * (400 : Int) ∧ y' - y' / 400 * (400 : Int) < 9223372036854775808; omega)
  have edy : dy.toInt = (153 * m' + 2) / 5 + D - 1 := by
    rw [← hdy]
    have t1 : ((153 : Int32) * own_C_s0 mo).toInt = 153 * m' := own_i_mul rfl em' (by show -2147483648 ≤ (153 : Int) * m' ∧ (153 : Int) * m' < 2147483648; omega)
    have t2 := own_i_add t1 (show (2 : Int32).toInt = 2 from rfl) (by omega)
    have t3 := own_i_div t2 (show (5 : Int32).toInt = 5 from rfl) (by omega)
    have t4 := own_i_add t3 ed (by omega)
    exact own_i2l (own_i_sub t4 (show (1 : Int32).toInt = 1 from rfl) (by omega))
  generalize hq : y' / 400 = Q at *
  have ede : de.toInt = 365 * (y' - Q * 400) + (y' - Q * 400) / 4 - (y' - Q * 400) / 100 + ((153 * m' + 2) / 5 + D - 1) := by
    rw [← hde]
    have t1 := own_l_mul (show (365 : Int64).toInt = 365 from rfl) eyo (by omega)
    have t2 := own_l_div eyo (show (4 : Int64).toInt = 4 from rfl) (by omega)
    have t3 := own_l_add t1 t2 (by omega)
    have t4 := own_l_div eyo (show (100 : Int64).toInt = 100 from rfl) (by omega)
    have t5 := own_l_sub t3 t4 (by omega)
    exact own_l_add t5 edy (by omega)
  rw [← hr]
  have t1 := own_l_mul eer (show (146097 : Int64).toInt = 146097 from rfl) (by omega)
  have t2 := own_l_add t1 ede (by omega)
  exact own_l_sub t2 (show (719468 : Int64).toInt = 719468 from rfl) (by omega)
theorem pn_0 : plainName "com/example/vestwright/vestwright/model/IsoDateEpochDayPinLaw" = true := by first | (simp [plainName, overriddenIn]; done) | decide +kernel
theorem ef_0 (m : MethodId) (x0 : Int32) (x1 : Int32) (x2 : Int32) : entryFrame m #[(.int x0), (.int x1), (.int x2)] maxLocals = mkF m 0 #[.val (.int x0), .val (.int x1), .val (.int x2), .unset, .unset, .unset, .unset, .unset, .unset, .unset, .unset, .unset, .unset, .unset, .unset] [] := by first | (simp [entryFrame, mkF, argsToLocals, Value.category, maxLocals]; done) | rfl
def own_G_s0 (mo : Int32) (lp : Int32) : Int32 := (if mo = (2 : Int32) then (if lp = (0 : Int32) then (0 : Int32) else (1 : Int32)) else (0 : Int32))
set_option maxRecDepth 65536 in
set_option maxHeartbeats 40000000 in
theorem sg_G {p : Program} {l : Launch} {e : Env} {R : Room} {s : State} {m : MethodId} {args : Array Value} {below : List Frame} {meth : Method} {c : Code} {T0 : State} {locs : List Loc} {cells slots : Nat} {Z : State} {a0 : Array Value} {h0 : Heap} {target : State} (p0 : Int32) (p1 : Int32) (p2 : Int32) (yr : Int32) (mo : Int32) (lp : Int32) (u6 : Addr) (u7 : Addr) (z : Int32) (X0 : Stand p l e R s m args below meth c T0 locs cells slots) (hx : p.tables.exec = Jvm.exec) (hZ : Z.Warmed39 s.vm) (hw : ∀ d ∈ tables_1, d.before a0 Z = true) (hby : c.code = code) (hown : s.vm.findClass "com/example/vestwright/vestwright/model/IsoDateEpochDayPinLaw" = some m.cls) (e0 : T0.heap = h0) 
    (kt : Steps p.tables e below (T0.setTop (mkF m 199 #[.val (.int p0), .val (.int p1), .val (.int p2), .val (.int yr), .val (.int mo), .val (.int lp), .val (.ref u6), .val (.ref u7), .unset, .unset, .unset, .unset, .unset, .unset, .unset] [(.int (own_G_s0 mo lp)), (.int z)])) target) : Steps p.tables e below (T0.setTop (mkF m 183 #[.val (.int p0), .val (.int p1), .val (.int p2), .val (.int yr), .val (.int mo), .val (.int lp), .val (.ref u6), .val (.ref u7), .unset, .unset, .unset, .unset, .unset, .unset, .unset] [(.int z)])) target := by
  show Steps p.tables e below (T0.setTop (mkF m 183 #[.val (.int p0), .val (.int p1), .val (.int p2), .val (.int yr), .val (.int mo), .val (.int lp), .val (.ref u6), .val (.ref u7), .unset, .unset, .unset, .unset, .unset, .unset, .unset] [(.int z)])) _
  refine XS.iload X0.here hx rfl (hb hby at_183) rfl ?_
  show Steps p.tables e below (T0.setTop (mkF m 185 #[.val (.int p0), .val (.int p1), .val (.int p2), .val (.int yr), .val (.int mo), .val (.int lp), .val (.ref u6), .val (.ref u7), .unset, .unset, .unset, .unset, .unset, .unset, .unset] [(.int mo), (.int z)])) _
  refine XS.iconst X0.here hx rfl (hb hby at_185) ?_
  show Steps p.tables e below (T0.setTop (mkF m 186 #[.val (.int p0), .val (.int p1), .val (.int p2), .val (.int yr), .val (.int mo), .val (.int lp), .val (.ref u6), .val (.ref u7), .unset, .unset, .unset, .unset, .unset, .unset, .unset] [(.int (2 : Int32)), (.int mo), (.int z)])) _
  by_cases hc186 : mo = (2 : Int32)
  · refine XS.icmpNo X0.here hx rfl (hb hby at_186) rfl (teq hc186).2 ?_
    show Steps p.tables e below (T0.setTop (mkF m 189 #[.val (.int p0), .val (.int p1), .val (.int p2), .val (.int yr), .val (.int mo), .val (.int lp), .val (.ref u6), .val (.ref u7), .unset, .unset, .unset, .unset, .unset, .unset, .unset] [(.int z)])) _
    refine XS.iload X0.here hx rfl (hb hby at_189) rfl ?_
    show Steps p.tables e below (T0.setTop (mkF m 191 #[.val (.int p0), .val (.int p1), .val (.int p2), .val (.int yr), .val (.int mo), .val (.int lp), .val (.ref u6), .val (.ref u7), .unset, .unset, .unset, .unset, .unset, .unset, .unset] [(.int lp), (.int z)])) _
    by_cases hc191 : lp = (0 : Int32)
    · refine XS.ifYes X0.here hx rfl (pc0 := 191) (pc' := 198) rfl (hb hby at_191) rfl ((if0 _ _).trans (teq hc191).1) (by decide) (by decide) ?_
      show Steps p.tables e below (T0.setTop (mkF m 198 #[.val (.int p0), .val (.int p1), .val (.int p2), .val (.int yr), .val (.int mo), .val (.int lp), .val (.ref u6), .val (.ref u7), .unset, .unset, .unset, .unset, .unset, .unset, .unset] [(.int z)])) _
      refine XS.iconst X0.here hx rfl (hb hby at_198) ?_
      rw [show (own_G_s0 mo lp) = (0 : Int32) from by unfold own_G_s0; rw [if_pos hc186, if_pos hc191]] at kt
      exact kt
    · refine XS.ifNo X0.here hx rfl (hb hby at_191) rfl ((if0 _ _).trans (feq hc191).1) ?_
      show Steps p.tables e below (T0.setTop (mkF m 194 #[.val (.int p0), .val (.int p1), .val (.int p2), .val (.int yr), .val (.int mo), .val (.int lp), .val (.ref u6), .val (.ref u7), .unset, .unset, .unset, .unset, .unset, .unset, .unset] [(.int z)])) _
      refine XS.iconst X0.here hx rfl (hb hby at_194) ?_
      show Steps p.tables e below (T0.setTop (mkF m 195 #[.val (.int p0), .val (.int p1), .val (.int p2), .val (.int yr), .val (.int mo), .val (.int lp), .val (.ref u6), .val (.ref u7), .unset, .unset, .unset, .unset, .unset, .unset, .unset] [(.int (1 : Int32)), (.int z)])) _
      refine XS.goto X0.here hx rfl (pc0 := 195) (pc' := 199) rfl (hb hby at_195) (by decide) (by decide) ?_
      rw [show (own_G_s0 mo lp) = (1 : Int32) from by unfold own_G_s0; rw [if_pos hc186, if_neg hc191]] at kt
      exact kt
  · refine XS.icmpYes X0.here hx rfl (pc0 := 186) (pc' := 198) rfl (hb hby at_186) rfl (feq hc186).2 (by decide) (by decide) ?_
    show Steps p.tables e below (T0.setTop (mkF m 198 #[.val (.int p0), .val (.int p1), .val (.int p2), .val (.int yr), .val (.int mo), .val (.int lp), .val (.ref u6), .val (.ref u7), .unset, .unset, .unset, .unset, .unset, .unset, .unset] [(.int z)])) _
    refine XS.iconst X0.here hx rfl (hb hby at_198) ?_
    rw [show (own_G_s0 mo lp) = (0 : Int32) from by unfold own_G_s0; rw [if_neg hc186]] at kt
    exact kt
def own_H_s0 (mo : Int32) (lp : Int32) : Int32 := (if (2 : Int32) < mo then (if lp = (0 : Int32) then (0 : Int32) else (1 : Int32)) else (0 : Int32))
set_option maxRecDepth 65536 in
set_option maxHeartbeats 40000000 in
theorem sg_H {p : Program} {l : Launch} {e : Env} {R : Room} {s : State} {m : MethodId} {args : Array Value} {below : List Frame} {meth : Method} {c : Code} {T0 : State} {locs : List Loc} {cells slots : Nat} {Z : State} {a0 : Array Value} {h0 : Heap} {target : State} (p0 : Int32) (p1 : Int32) (p2 : Int32) (yr : Int32) (mo : Int32) (lp : Int32) (u6 : Addr) (u7 : Addr) (ml : Int32) (dd : Int32) (dt : Int32) (lb : Int64) (wz : Int64) (X0 : Stand p l e R s m args below meth c T0 locs cells slots) (hx : p.tables.exec = Jvm.exec) (hZ : Z.Warmed39 s.vm) (hw : ∀ d ∈ tables_1, d.before a0 Z = true) (hby : c.code = code) (hown : s.vm.findClass "com/example/vestwright/vestwright/model/IsoDateEpochDayPinLaw" = some m.cls) (e0 : T0.heap = h0) 
    (kt : Steps p.tables e below (T0.setTop (mkF m 297 #[.val (.int p0), .val (.int p1), .val (.int p2), .val (.int yr), .val (.int mo), .val (.int lp), .val (.ref u6), .val (.ref u7), .val (.int ml), .val (.int dd), .val (.int dt), .val (.long lb), .second, .unset, .unset] [(.int (own_H_s0 mo lp)), (.long wz)])) target) : Steps p.tables e below (T0.setTop (mkF m 281 #[.val (.int p0), .val (.int p1), .val (.int p2), .val (.int yr), .val (.int mo), .val (.int lp), .val (.ref u6), .val (.ref u7), .val (.int ml), .val (.int dd), .val (.int dt), .val (.long lb), .second, .unset, .unset] [(.long wz)])) target := by
  show Steps p.tables e below (T0.setTop (mkF m 281 #[.val (.int p0), .val (.int p1), .val (.int p2), .val (.int yr), .val (.int mo), .val (.int lp), .val (.ref u6), .val (.ref u7), .val (.int ml), .val (.int dd), .val (.int dt), .val (.long lb), .second, .unset, .unset] [(.long wz)])) _
  refine XS.iload X0.here hx rfl (hb hby at_281) rfl ?_
  show Steps p.tables e below (T0.setTop (mkF m 283 #[.val (.int p0), .val (.int p1), .val (.int p2), .val (.int yr), .val (.int mo), .val (.int lp), .val (.ref u6), .val (.ref u7), .val (.int ml), .val (.int dd), .val (.int dt), .val (.long lb), .second, .unset, .unset] [(.int mo), (.long wz)])) _
  refine XS.iconst X0.here hx rfl (hb hby at_283) ?_
  show Steps p.tables e below (T0.setTop (mkF m 284 #[.val (.int p0), .val (.int p1), .val (.int p2), .val (.int yr), .val (.int mo), .val (.int lp), .val (.ref u6), .val (.ref u7), .val (.int ml), .val (.int dd), .val (.int dt), .val (.long lb), .second, .unset, .unset] [(.int (2 : Int32)), (.int mo), (.long wz)])) _
  by_cases hc284 : (2 : Int32) < mo
  · refine XS.icmpNo X0.here hx rfl (hb hby at_284) rfl (tlt hc284).2.2.2 ?_
    show Steps p.tables e below (T0.setTop (mkF m 287 #[.val (.int p0), .val (.int p1), .val (.int p2), .val (.int yr), .val (.int mo), .val (.int lp), .val (.ref u6), .val (.ref u7), .val (.int ml), .val (.int dd), .val (.int dt), .val (.long lb), .second, .unset, .unset] [(.long wz)])) _
    refine XS.iload X0.here hx rfl (hb hby at_287) rfl ?_
    show Steps p.tables e below (T0.setTop (mkF m 289 #[.val (.int p0), .val (.int p1), .val (.int p2), .val (.int yr), .val (.int mo), .val (.int lp), .val (.ref u6), .val (.ref u7), .val (.int ml), .val (.int dd), .val (.int dt), .val (.long lb), .second, .unset, .unset] [(.int lp), (.long wz)])) _
    by_cases hc289 : lp = (0 : Int32)
    · refine XS.ifYes X0.here hx rfl (pc0 := 289) (pc' := 296) rfl (hb hby at_289) rfl ((if0 _ _).trans (teq hc289).1) (by decide) (by decide) ?_
      show Steps p.tables e below (T0.setTop (mkF m 296 #[.val (.int p0), .val (.int p1), .val (.int p2), .val (.int yr), .val (.int mo), .val (.int lp), .val (.ref u6), .val (.ref u7), .val (.int ml), .val (.int dd), .val (.int dt), .val (.long lb), .second, .unset, .unset] [(.long wz)])) _
      refine XS.iconst X0.here hx rfl (hb hby at_296) ?_
      rw [show (own_H_s0 mo lp) = (0 : Int32) from by unfold own_H_s0; rw [if_pos hc284, if_pos hc289]] at kt
      exact kt
    · refine XS.ifNo X0.here hx rfl (hb hby at_289) rfl ((if0 _ _).trans (feq hc289).1) ?_
      show Steps p.tables e below (T0.setTop (mkF m 292 #[.val (.int p0), .val (.int p1), .val (.int p2), .val (.int yr), .val (.int mo), .val (.int lp), .val (.ref u6), .val (.ref u7), .val (.int ml), .val (.int dd), .val (.int dt), .val (.long lb), .second, .unset, .unset] [(.long wz)])) _
      refine XS.iconst X0.here hx rfl (hb hby at_292) ?_
      show Steps p.tables e below (T0.setTop (mkF m 293 #[.val (.int p0), .val (.int p1), .val (.int p2), .val (.int yr), .val (.int mo), .val (.int lp), .val (.ref u6), .val (.ref u7), .val (.int ml), .val (.int dd), .val (.int dt), .val (.long lb), .second, .unset, .unset] [(.int (1 : Int32)), (.long wz)])) _
      refine XS.goto X0.here hx rfl (pc0 := 293) (pc' := 297) rfl (hb hby at_293) (by decide) (by decide) ?_
      rw [show (own_H_s0 mo lp) = (1 : Int32) from by unfold own_H_s0; rw [if_pos hc284, if_neg hc289]] at kt
      exact kt
  · refine XS.icmpYes X0.here hx rfl (pc0 := 284) (pc' := 296) rfl (hb hby at_284) rfl (flt hc284).2.2.2 (by decide) (by decide) ?_
    show Steps p.tables e below (T0.setTop (mkF m 296 #[.val (.int p0), .val (.int p1), .val (.int p2), .val (.int yr), .val (.int mo), .val (.int lp), .val (.ref u6), .val (.ref u7), .val (.int ml), .val (.int dd), .val (.int dt), .val (.long lb), .second, .unset, .unset] [(.long wz)])) _
    refine XS.iconst X0.here hx rfl (hb hby at_296) ?_
    rw [show (own_H_s0 mo lp) = (0 : Int32) from by unfold own_H_s0; rw [if_neg hc284]] at kt
    exact kt
theorem pd_0 : parseMethodDescriptor "(I)Z" = some ⟨[.int], some .boolean⟩ := by decide +kernel
theorem pd_1 : parseMethodDescriptor "(I)J" = some ⟨[.int], some .long⟩ := by decide +kernel
theorem own_yr {p0 yr : Int32} (h : ((p0 &&& (2147483647 : Int32)) % (10000 : Int32)) = yr) : 0 ≤ yr.toInt ∧ yr.toInt ≤ 9999 := by
  have t1 := own_i_mask (2147483647 : Int32) 31 (by decide) (by decide) (rfl : p0.toInt = p0.toInt)
  rw [← h, own_i_mod t1 (show (10000 : Int32).toInt = 10000 from rfl) (by omega)]
  omega
theorem own_mo {p1 mo : Int32} (h : (((p1 &&& (2147483647 : Int32)) % (12 : Int32)) + (1 : Int32)) = mo) : 1 ≤ mo.toInt ∧ mo.toInt ≤ 12 := by
  have t1 := own_i_mask (2147483647 : Int32) 31 (by decide) (by decide) (rfl : p1.toInt = p1.toInt)
  have t2 := own_i_mod t1 (show (12 : Int32).toInt = 12 from rfl) (by omega)
  rw [← h, own_i_add t2 (show (1 : Int32).toInt = 1 from rfl) (by omega)]
  omega
theorem own_mo_in {p1 mo : Int32} (h : (((p1 &&& (2147483647 : Int32)) % (12 : Int32)) + (1 : Int32)) = mo) : ¬ (mo - (1 : Int32)) < 0 ∧ (mo - (1 : Int32)) < (12 : Int32) := by
  have q := own_mo h
  have t := own_i_sub (rfl : mo.toInt = mo.toInt) (show (1 : Int32).toInt = 1 from rfl) (by omega)
  exact own_ix (by omega) (by rw [t]; show _ < (12 : Int); omega)
def own_mlen : Nat → Int32 := (own_up (own_up (own_up (own_up (own_up (own_up (own_up (own_up (own_up (own_up (own_up (own_up (fun _ => 0) 0 (31 : Int32)) 1 (28 : Int32)) 2 (31 : Int32)) 3 (30 : Int32)) 4 (31 : Int32)) 5 (30 : Int32)) 6 (31 : Int32)) 7 (31 : Int32)) 8 (30 : Int32)) 9 (31 : Int32)) 10 (30 : Int32)) 11 (31 : Int32))
def own_bef : Nat → Int32 := (own_up (own_up (own_up (own_up (own_up (own_up (own_up (own_up (own_up (own_up (own_up (own_up (fun _ => 0) 0 (0 : Int32)) 1 (31 : Int32)) 2 (59 : Int32)) 3 (90 : Int32)) 4 (120 : Int32)) 5 (151 : Int32)) 6 (181 : Int32)) 7 (212 : Int32)) 8 (243 : Int32)) 9 (273 : Int32)) 10 (304 : Int32)) 11 (334 : Int32))
theorem own_ml {p1 mo lp zz ml : Int32} (h : (((p1 &&& (2147483647 : Int32)) % (12 : Int32)) + (1 : Int32)) = mo) (hz : (own_mlen ((mo - (1 : Int32))).toNatClampNeg) = zz) (hm : (zz + (own_G_s0 mo lp)) = ml) : 1 ≤ ml.toInt ∧ ml.toInt ≤ 40 := by
  have q := own_mo h
  have t := own_i_sub (rfl : mo.toInt = mo.toInt) (show (1 : Int32).toInt = 1 from rfl) (by omega)
  have k := own_i_nat t (by omega)
  rw [k] at hz
  have hz' : 28 ≤ zz.toInt ∧ zz.toInt ≤ 31 := by
    rw [← hz]
    obtain ⟨n, hn⟩ : ∃ n : Nat, (mo.toInt - 1).toNat = n := ⟨_, rfl⟩
    rw [hn]
    have : n < 12 := by omega
    have all : ∀ n : Fin 12, 28 ≤ (own_mlen n.1).toInt ∧ (own_mlen n.1).toInt ≤ 31 := by decide
    exact all ⟨n, this⟩
  have hg : (own_G_s0 mo lp).toInt = 0 ∨ (own_G_s0 mo lp).toInt = 1 := by
    unfold own_G_s0; split <;> (try split) <;> first | exact Or.inl rfl | exact Or.inr rfl
  have := own_i_add (rfl : zz.toInt = zz.toInt) (rfl : (own_G_s0 mo lp).toInt = (own_G_s0 mo lp).toInt) (by omega)
  rw [← hm]; omega
theorem own_cal (Y M D y' m' bf lv : Int) (qy : 0 ≤ Y ∧ Y ≤ 9999) (qm : 1 ≤ M ∧ M ≤ 12) (hc : (3 ≤ M ∧ y' = Y ∧ m' = M - 3) ∨ (M ≤ 2 ∧ y' = Y - 1 ∧ m' = M + 9)) (hb : bf = (own_bef (M - 1).toNat).toInt) (hl : lv = if 2 < M ∧ (Y % 4 = 0 ∧ (Y % 100 ≠ 0 ∨ Y % 400 = 0)) then 1 else 0) :
    (y' / 400) * 146097 + (365 * (y' - y' / 400 * 400) + (y' - y' / 400 * 400) / 4 - (y' - y' / 400 * 400) / 100 + ((153 * m' + 2) / 5 + D - 1)) - 719468 = 365 * Y + ((Y + 3) / 4 - (Y + 99) / 100 + (Y + 399) / 400) + bf + lv + D - 1 - 719528 := by
  have hM : M = 1 ∨ M = 2 ∨ M = 3 ∨ M = 4 ∨ M = 5 ∨ M = 6 ∨ M = 7 ∨ M = 8 ∨ M = 9 ∨ M = 10 ∨ M = 11 ∨ M = 12 := by omega
  have key : (3 ≤ M → y' / 400 * 146097 + (365 * (y' - y' / 400 * 400) + (y' - y' / 400 * 400) / 4 - (y' - y' / 400 * 400) / 100) = 365 * Y + ((Y + 3) / 4 - (Y + 99) / 100 + (Y + 399) / 400) + lv - 1) ∧ (M ≤ 2 → y' / 400 * 146097 + (365 * (y' - y' / 400 * 400) + (y' - y' / 400 * 400) / 4 - (y' - y' / 400 * 400) / 100) = 365 * Y + ((Y + 3) / 4 - (Y + 99) / 100 + (Y + 399) / 400) - 366 ∧ lv = 0) := by
    constructor
    · intro h3
      obtain ⟨rfl, -⟩ : y' = Y ∧ True := ⟨by omega, trivial⟩
      split at hl <;> omega
    · intro h3
      obtain rfl : y' = Y - 1 := by omega
      refine ⟨by omega, ?_⟩
      rw [hl, if_neg (by omega)]
  rcases hM with rfl | rfl | rfl | rfl | rfl | rfl | rfl | rfl | rfl | rfl | rfl | rfl
  all_goals (first | (have hb' : bf = 0 := hb; omega) | (have hb' : bf = 31 := hb; omega) | (have hb' : bf = 59 := hb; omega) | (have hb' : bf = 90 := hb; omega) | (have hb' : bf = 120 := hb; omega) | (have hb' : bf = 151 := hb; omega) | (have hb' : bf = 181 := hb; omega) | (have hb' : bf = 212 := hb; omega) | (have hb' : bf = 243 := hb; omega) | (have hb' : bf = 273 := hb; omega) | (have hb' : bf = 304 := hb; omega) | (have hb' : bf = 334 := hb; omega))
theorem own_fin {p0 p1 p2 yr mo zz ml dd dt : Int32} {lb wz ex r : Int64} (h_yr : ((p0 &&& (2147483647 : Int32)) % (10000 : Int32)) = yr) (h_mo : (((p1 &&& (2147483647 : Int32)) % (12 : Int32)) + (1 : Int32)) = mo) (h_ml : 1 ≤ ml.toInt ∧ ml.toInt ≤ 40) (h_dd : (((p2 &&& (2147483647 : Int32)) % ml) + (1 : Int32)) = dd) (h_dt : (((yr * (10000 : Int32)) + (mo * (100 : Int32))) + dd) = dt) (h_lb : (((((yr.toInt64) + (3 : Int64)) / (4 : Int64)) - (((yr.toInt64) + (99 : Int64)) / (100 : Int64))) + (((yr.toInt64) + (399 : Int64)) / (400 : Int64))) = lb) (h_wz : ((((365 : Int64) * (yr.toInt64)) + lb) + ((own_bef ((mo - (1 : Int32))).toNatClampNeg).toInt64)) = wz) (h_ex : ((((wz + ((own_H_s0 mo (own_leap yr)).toInt64)) + (dd.toInt64)) - (1 : Int64)) - (719528 : Int64)) = ex) (hE : own_Ep dt r) : r = ex := by
  have qy := own_yr h_yr
  have qm := own_mo h_mo
  have t1 := own_i_mask (2147483647 : Int32) 31 (by decide) (by decide) (rfl : p2.toInt = p2.toInt)
  have t2 := own_i_mod t1 (rfl : ml.toInt = ml.toInt) (by omega)
  have t2' : 0 ≤ ((p2 &&& (2147483647 : Int32)) % ml).toInt ∧ ((p2 &&& (2147483647 : Int32)) % ml).toInt < ml.toInt := by
    rw [t2]; exact ⟨Int.emod_nonneg _ (by omega), Int.emod_lt_of_pos _ (by omega)⟩
  have t3 := own_i_add (rfl : ((p2 &&& (2147483647 : Int32)) % ml).toInt = _) (show (1 : Int32).toInt = 1 from rfl) (by omega)
  rw [h_dd] at t3
  obtain ⟨Y, eY⟩ : ∃ Y, yr.toInt = Y := ⟨_, rfl⟩
  obtain ⟨M, eM⟩ : ∃ M, mo.toInt = M := ⟨_, rfl⟩
  obtain ⟨D, eD⟩ : ∃ D, dd.toInt = D := ⟨_, rfl⟩
  rw [eY] at qy; rw [eM] at qm
  have qd : 1 ≤ D ∧ D ≤ 40 := by omega
  have d1 := own_i_mul eY (show (10000 : Int32).toInt = 10000 from rfl) (by omega)
  have d2 := own_i_mul eM (show (100 : Int32).toInt = 100 from rfl) (by omega)
  have d3 := own_i_add (own_i_add d1 d2 (by omega)) eD (by omega)
  rw [h_dt] at d3
  obtain ⟨y', m', hc, hr⟩ := own_Ep_val hE Y M D qy qm (by omega) d3
  apply own_l_of
  rw [hr]
  -- the law's own sum
  have yl := own_i2l eY
  have l1 := own_l_div (own_l_add yl (show (3 : Int64).toInt = 3 from rfl) (by omega)) (show (4 : Int64).toInt = 4 from rfl) (by omega)
  have l2 := own_l_div (own_l_add yl (show (99 : Int64).toInt = 99 from rfl) (by omega)) (show (100 : Int64).toInt = 100 from rfl) (by omega)
  have l3 := own_l_div (own_l_add yl (show (399 : Int64).toInt = 399 from rfl) (by omega)) (show (400 : Int64).toInt = 400 from rfl) (by omega)
  have l4 := own_l_add (own_l_sub l1 l2 (by omega)) l3 (by omega)
  rw [h_lb] at l4
  have t := own_i_sub eM (show (1 : Int32).toInt = 1 from rfl) (by omega)
  have k := own_i_nat t (by omega)
  obtain ⟨bf, hbf⟩ : ∃ bf, (own_bef (mo - (1 : Int32)).toNatClampNeg).toInt = bf := ⟨_, rfl⟩
  have hbf2 : bf = (own_bef (M - 1).toNat).toInt := by rw [← hbf, k]
  have hbf3 : 0 ≤ bf ∧ bf ≤ 334 := by
    obtain ⟨n, hn⟩ : ∃ n : Nat, (M - 1).toNat = n := ⟨_, rfl⟩
    rw [hbf2, hn]
    have : n < 12 := by omega
    have all : ∀ n : Fin 12, 0 ≤ (own_bef n.1).toInt ∧ (own_bef n.1).toInt ≤ 334 := by decide
    exact all ⟨n, this⟩
  have w1 := own_l_add (own_l_add (own_l_mul (show (365 : Int64).toInt = 365 from rfl) yl (by omega)) l4 (by omega)) (own_i2l hbf) (by omega)
  rw [h_wz] at w1
  have hm2 : (2 : Int32) < mo ↔ 2 < M := own_i_lt rfl eM
  have lpv : (own_leap yr).toInt = if Y % 4 = 0 ∧ (Y % 100 ≠ 0 ∨ Y % 400 = 0) then 1 else 0 := by
    have e4 := own_i_mod eY (show (4 : Int32).toInt = 4 from rfl) (by omega)
    have e100 := own_i_mod eY (show (100 : Int32).toInt = 100 from rfl) (by omega)
    have e400 := own_i_mod eY (show (400 : Int32).toInt = 400 from rfl) (by omega)
    have z4 : (yr % (4 : Int32)) = (0 : Int32) ↔ Y % 4 = 0 := own_i_eq e4 rfl
    have z100 : (yr % (100 : Int32)) = (0 : Int32) ↔ Y % 100 = 0 := own_i_eq e100 rfl
    have z400 : (yr % (400 : Int32)) = (0 : Int32) ↔ Y % 400 = 0 := own_i_eq e400 rfl
    unfold own_leap
    by_cases a1 : (yr % (4 : Int32)) = (0 : Int32)
    · by_cases a2 : (yr % (100 : Int32)) = (0 : Int32)
      · by_cases a3 : (yr % (400 : Int32)) = (0 : Int32)
        · rw [if_pos a1, if_pos a2, if_pos a3, if_pos ⟨z4.mp a1, Or.inr (z400.mp a3)⟩]; rfl
        · rw [if_pos a1, if_pos a2, if_neg a3, if_neg (fun q => q.2.elim (fun u => u (z100.mp a2)) (fun u => a3 (z400.mpr u)))]; rfl
      · rw [if_pos a1, if_neg a2, if_pos ⟨z4.mp a1, Or.inl (fun u => a2 (z100.mpr u))⟩]; rfl
    · rw [if_neg a1, if_neg (fun q => a1 (z4.mpr q.1))]; rfl
  obtain ⟨lv, hlv⟩ : ∃ lv, (own_H_s0 mo (own_leap yr)).toInt = lv := ⟨_, rfl⟩
  have lvv : lv = if 2 < M ∧ (Y % 4 = 0 ∧ (Y % 100 ≠ 0 ∨ Y % 400 = 0)) then 1 else 0 := by
    rw [← hlv]; unfold own_H_s0
    have z0 : own_leap yr = (0 : Int32) ↔ (own_leap yr).toInt = 0 := own_i_eq rfl rfl
    rw [lpv] at z0
    by_cases a1 : (2 : Int32) < mo
    · by_cases a2 : own_leap yr = (0 : Int32)
      · rw [if_pos a1, if_pos a2]
        have a3 := z0.mp a2
        split at a3
        · omega
        · rename_i a4; rw [if_neg (fun q => a4 q.2)]; rfl
      · rw [if_pos a1, if_neg a2]
        have a3 : ¬ _ := fun u => a2 (z0.mpr u)
        split at a3
        · rename_i a4; rw [if_pos ⟨hm2.mp a1, a4⟩]; rfl
        · exact absurd rfl a3
    · rw [if_neg a1, if_neg (fun q => a1 (hm2.mpr q.1))]; rfl
  have lv01 : 0 ≤ lv ∧ lv ≤ 1 := by rw [lvv]; split <;> omega
  have x1 := own_l_add w1 (own_i2l hlv) (by omega)
  have x2 := own_l_add x1 (own_i2l eD) (by omega)
  have x3 := own_l_sub (own_l_sub x2 (show (1 : Int64).toInt = 1 from rfl) (by omega)) (show (719528 : Int64).toInt = 719528 from rfl) (by omega)
  rw [h_ex] at x3
  rw [x3]
  clear x1 x2 x3 w1 l1 l2 l3 l4 d1 d2 d3 t1 t2 t2' t3 hr hE h_yr h_mo h_ml h_dd h_dt h_lb h_wz h_ex lpv hm2 hlv hbf hbf3 t k yl eY eM eD
  exact own_cal Y M D y' m' bf lv qy qm hc hbf2 lvv
def Q0 (Z : State) (p0 : Int32) (p1 : Int32) (p2 : Int32) (h0 : Heap) (n0 : Nat) (v : Option Value) (h : Heap) (L : List Loc) : Prop := v = some (.int (1 : Int32)) ∧ Fr n0 L
set_option maxRecDepth 65536 in
set_option maxHeartbeats 40000000 in
theorem rm0 (l : Launch) (Z : State) (a0 : Array Value) (hw : ∀ d ∈ tables_1, d.before a0 Z = true) (ws : List Jvm.Cond) (p0 : Int32) (p1 : Int32) (p2 : Int32) (h0 : Heap) (n0 : Nat) (Z0 : n0 ≤ h0.size)  :
    MetFree l x (head1 (Jvm.Cond.code x code maxLocals ret :: ws) room_1) (fun a_ U_ => a_ = #[(.int p0), (.int p1), (.int p2)] ∧ Z.Warmed39 U_.vm ∧ U_.heap = h0) (fun _ _ _ _ _ => True) (fun _ U_ o_ U' => ∃ v_ L_, o_ = .returned v_ ∧ (Q0 Z p0 p1 p2 h0 n0 v_ U'.heap L_) ∧ FrameEnd U_ o_ U' L_ room_1.cells room_1.slots) := by
  refine MetFree.of_bodySF (plainFor_of_name pn_0) hisR ?_
  intro p e s m args below meth c s₁ Bd hml0 hP hK
  obtain ⟨rfl, hZ, hh⟩ := hP
  have hx := Bd.exec
  have hby := Bd.bytes
  have hml : c.maxLocals = 15 := hml0
  have hown : s.vm.findClass "com/example/vestwright/vestwright/model/IsoDateEpochDayPinLaw" = some m.cls := findClass_of_methodNamed Bd.named
  have hnm := (name_of_methodNamed Bd.named Bd.method).1
  have X0 : Stand p l e room_1 s m #[(.int p0), (.int p1), (.int p2)] below meth c s₁ [] 0 0 := Stand.of_body Bd
  have e0 : s₁.heap = h0 := by rw [← hh, Bd.state]; rfl
  have N0 := Fr.nil n0
  have pre0 : ∀ t, Steps p.tables e below (s₁.setTop (mkF m 0 #[.val (.int p0), .val (.int p1), .val (.int p2), .unset, .unset, .unset, .unset, .unset, .unset, .unset, .unset, .unset, .unset, .unset, .unset] [])) t → Steps p.tables e below (s₁.setTop (entryFrame m #[(.int p0), (.int p1), (.int p2)] maxLocals)) t := fun t k => castTop (ef_0 m p0 p1 p2) k
  obtain ⟨yr, h_yr⟩ : ∃ z, ((p0 &&& (2147483647 : Int32)) % (10000 : Int32)) = z := ⟨_, rfl⟩
  obtain ⟨mo, h_mo⟩ : ∃ z, (((p1 &&& (2147483647 : Int32)) % (12 : Int32)) + (1 : Int32)) = z := ⟨_, rfl⟩
  obtain ⟨_, _, ⟨T1, L1, k1, n1⟩, -, X1, ⟨Lc1, hQ1, l1, y1, z1⟩, st1⟩ := Jvm.LawKit.callS X0 hx (y := (⟨"com/example/vestwright/vestwright/model/IsoDateEpochDayPinLaw", "isLeap", "(I)Z"⟩ : MethodName)) hown (mvT hZ (hw _ (List.mem_of_getElem? (i := 1) rfl))) (mvT hZ (hw _ (List.mem_of_getElem? (i := 2) rfl))) (mvT hZ (hw _ (List.mem_of_getElem? (i := 3) rfl))) (mvT hZ (hw _ (List.mem_of_getElem? (i := 4) rfl))) (by decide) (backOf (W := 0) (rm1 l Z a0 hw [] yr  h0 n0 Z0 ) hZ (hw _ (List.mem_of_getElem? (i := 4) rfl)) (hw _ (List.mem_of_getElem? (i := 3) rfl)) (by decide) (by decide)) (g := (mkF m 21 #[.val (.int p0), .val (.int p1), .val (.int p2), .val (.int yr), .val (.int mo), .unset, .unset, .unset, .unset, .unset, .unset, .unset, .unset, .unset, .unset] [(.int yr)])) rfl (by rw [hml]; rfl) (argsL := [(.int yr)]) (rest := []) (lenOf pd_0 rfl) rfl (by show 2 * 0 + _ ≤ _; exact Nat.le_of_eq rfl) (hb hby at_21) (fun _ _ => ⟨rfl, e0, (by decide : 0 + 0 ≤ _), (by decide : 0 + 0 ≤ _)⟩)
  dsimp only [Pt.U, Pt.locs, Pt.cells, Pt.slots] at X1 l1 y1 z1 st1 hQ1
  subst l1 y1 z1
  obtain ⟨rfl, Nq1, e1⟩ := hQ1
  have N1 := Fr.app N0 Nq1
  obtain ⟨T2, h2, X2, e2, E2, A2, st2⟩ := own_newI X1 hx hZ (hw _ (List.mem_of_getElem? (i := 5) rfl)) rfl e1 (g := (mkF m 28 #[.val (.int p0), .val (.int p1), .val (.int p2), .val (.int yr), .val (.int mo), .val (.int (own_leap yr)), .unset, .unset, .unset, .unset, .unset, .unset, .unset, .unset, .unset] [(.int (12 : Int32))])) rfl (hb hby at_28) rfl (by decide) (cap := 12) (by decide) (by decide) (by decide) (by decide)
  obtain ⟨b2, g2⟩ : ∃ z, z = h0.size := ⟨_, rfl⟩
  rw [← g2] at A2 st2
  have f_b2 : n0 ≤ b2 := Nat.le_trans Z0 (Nat.le_of_eq g2.symm)
  have s_b2 : h0.size ≤ b2 := Nat.le_trans (Keep.refl h0 []).1 (Nat.le_of_eq g2.symm)
  have K2 : Keep h0 h2 [] := (Keep.refl h0 []).ext E2
  have Z2 : n0 ≤ h2.size := Nat.le_trans Z0 E2.1
  obtain ⟨T3, h3, X3, e3, W3, A3, st3⟩ := own_stI X2 hx hZ e2 A2 (j := (0 : Int32)) ⟨by decide, by decide⟩ (g := (mkF m 34 #[.val (.int p0), .val (.int p1), .val (.int p2), .val (.int yr), .val (.int mo), .val (.int (own_leap yr)), .unset, .unset, .unset, .unset, .unset, .unset, .unset, .unset, .unset] [(.int (31 : Int32)), (.int (0 : Int32)), (.ref b2), (.ref b2)])) rfl rfl (hb hby at_34)
  have N3 := Fr.snoc X3 N1 f_b2
  have K3 : Keep h0 h3 [] := K2.wr W3 (Or.inr s_b2)
  have Z3 : n0 ≤ h3.size := Nat.le_trans Z2 (Nat.le_of_eq (W3.size).symm)
  obtain ⟨T4, h4, X4, e4, W4, A4, st4⟩ := own_stI X3 hx hZ e3 A3 (j := (1 : Int32)) ⟨by decide, by decide⟩ (g := (mkF m 39 #[.val (.int p0), .val (.int p1), .val (.int p2), .val (.int yr), .val (.int mo), .val (.int (own_leap yr)), .unset, .unset, .unset, .unset, .unset, .unset, .unset, .unset, .unset] [(.int (28 : Int32)), (.int (1 : Int32)), (.ref b2), (.ref b2)])) rfl rfl (hb hby at_39)
  have N4 := Fr.snoc X4 N3 f_b2
  have K4 : Keep h0 h4 [] := K3.wr W4 (Or.inr s_b2)
  have Z4 : n0 ≤ h4.size := Nat.le_trans Z3 (Nat.le_of_eq (W4.size).symm)
  obtain ⟨T5, h5, X5, e5, W5, A5, st5⟩ := own_stI X4 hx hZ e4 A4 (j := (2 : Int32)) ⟨by decide, by decide⟩ (g := (mkF m 44 #[.val (.int p0), .val (.int p1), .val (.int p2), .val (.int yr), .val (.int mo), .val (.int (own_leap yr)), .unset, .unset, .unset, .unset, .unset, .unset, .unset, .unset, .unset] [(.int (31 : Int32)), (.int (2 : Int32)), (.ref b2), (.ref b2)])) rfl rfl (hb hby at_44)
  have N5 := Fr.snoc X5 N4 f_b2
  have K5 : Keep h0 h5 [] := K4.wr W5 (Or.inr s_b2)
  have Z5 : n0 ≤ h5.size := Nat.le_trans Z4 (Nat.le_of_eq (W5.size).symm)
  obtain ⟨T6, h6, X6, e6, W6, A6, st6⟩ := own_stI X5 hx hZ e5 A5 (j := (3 : Int32)) ⟨by decide, by decide⟩ (g := (mkF m 49 #[.val (.int p0), .val (.int p1), .val (.int p2), .val (.int yr), .val (.int mo), .val (.int (own_leap yr)), .unset, .unset, .unset, .unset, .unset, .unset, .unset, .unset, .unset] [(.int (30 : Int32)), (.int (3 : Int32)), (.ref b2), (.ref b2)])) rfl rfl (hb hby at_49)
  have N6 := Fr.snoc X6 N5 f_b2
  have K6 : Keep h0 h6 [] := K5.wr W6 (Or.inr s_b2)
  have Z6 : n0 ≤ h6.size := Nat.le_trans Z5 (Nat.le_of_eq (W6.size).symm)
  obtain ⟨T7, h7, X7, e7, W7, A7, st7⟩ := own_stI X6 hx hZ e6 A6 (j := (4 : Int32)) ⟨by decide, by decide⟩ (g := (mkF m 54 #[.val (.int p0), .val (.int p1), .val (.int p2), .val (.int yr), .val (.int mo), .val (.int (own_leap yr)), .unset, .unset, .unset, .unset, .unset, .unset, .unset, .unset, .unset] [(.int (31 : Int32)), (.int (4 : Int32)), (.ref b2), (.ref b2)])) rfl rfl (hb hby at_54)
  have N7 := Fr.snoc X7 N6 f_b2
  have K7 : Keep h0 h7 [] := K6.wr W7 (Or.inr s_b2)
  have Z7 : n0 ≤ h7.size := Nat.le_trans Z6 (Nat.le_of_eq (W7.size).symm)
  obtain ⟨T8, h8, X8, e8, W8, A8, st8⟩ := own_stI X7 hx hZ e7 A7 (j := (5 : Int32)) ⟨by decide, by decide⟩ (g := (mkF m 59 #[.val (.int p0), .val (.int p1), .val (.int p2), .val (.int yr), .val (.int mo), .val (.int (own_leap yr)), .unset, .unset, .unset, .unset, .unset, .unset, .unset, .unset, .unset] [(.int (30 : Int32)), (.int (5 : Int32)), (.ref b2), (.ref b2)])) rfl rfl (hb hby at_59)
  have N8 := Fr.snoc X8 N7 f_b2
  have K8 : Keep h0 h8 [] := K7.wr W8 (Or.inr s_b2)
  have Z8 : n0 ≤ h8.size := Nat.le_trans Z7 (Nat.le_of_eq (W8.size).symm)
  obtain ⟨T9, h9, X9, e9, W9, A9, st9⟩ := own_stI X8 hx hZ e8 A8 (j := (6 : Int32)) ⟨by decide, by decide⟩ (g := (mkF m 65 #[.val (.int p0), .val (.int p1), .val (.int p2), .val (.int yr), .val (.int mo), .val (.int (own_leap yr)), .unset, .unset, .unset, .unset, .unset, .unset, .unset, .unset, .unset] [(.int (31 : Int32)), (.int (6 : Int32)), (.ref b2), (.ref b2)])) rfl rfl (hb hby at_65)
  have N9 := Fr.snoc X9 N8 f_b2
  have K9 : Keep h0 h9 [] := K8.wr W9 (Or.inr s_b2)
  have Z9 : n0 ≤ h9.size := Nat.le_trans Z8 (Nat.le_of_eq (W9.size).symm)
  obtain ⟨T10, h10, X10, e10, W10, A10, st10⟩ := own_stI X9 hx hZ e9 A9 (j := (7 : Int32)) ⟨by decide, by decide⟩ (g := (mkF m 71 #[.val (.int p0), .val (.int p1), .val (.int p2), .val (.int yr), .val (.int mo), .val (.int (own_leap yr)), .unset, .unset, .unset, .unset, .unset, .unset, .unset, .unset, .unset] [(.int (31 : Int32)), (.int (7 : Int32)), (.ref b2), (.ref b2)])) rfl rfl (hb hby at_71)
  have N10 := Fr.snoc X10 N9 f_b2
  have K10 : Keep h0 h10 [] := K9.wr W10 (Or.inr s_b2)
  have Z10 : n0 ≤ h10.size := Nat.le_trans Z9 (Nat.le_of_eq (W10.size).symm)
  obtain ⟨T11, h11, X11, e11, W11, A11, st11⟩ := own_stI X10 hx hZ e10 A10 (j := (8 : Int32)) ⟨by decide, by decide⟩ (g := (mkF m 77 #[.val (.int p0), .val (.int p1), .val (.int p2), .val (.int yr), .val (.int mo), .val (.int (own_leap yr)), .unset, .unset, .unset, .unset, .unset, .unset, .unset, .unset, .unset] [(.int (30 : Int32)), (.int (8 : Int32)), (.ref b2), (.ref b2)])) rfl rfl (hb hby at_77)
  have N11 := Fr.snoc X11 N10 f_b2
  have K11 : Keep h0 h11 [] := K10.wr W11 (Or.inr s_b2)
  have Z11 : n0 ≤ h11.size := Nat.le_trans Z10 (Nat.le_of_eq (W11.size).symm)
  obtain ⟨T12, h12, X12, e12, W12, A12, st12⟩ := own_stI X11 hx hZ e11 A11 (j := (9 : Int32)) ⟨by decide, by decide⟩ (g := (mkF m 83 #[.val (.int p0), .val (.int p1), .val (.int p2), .val (.int yr), .val (.int mo), .val (.int (own_leap yr)), .unset, .unset, .unset, .unset, .unset, .unset, .unset, .unset, .unset] [(.int (31 : Int32)), (.int (9 : Int32)), (.ref b2), (.ref b2)])) rfl rfl (hb hby at_83)
  have N12 := Fr.snoc X12 N11 f_b2
  have K12 : Keep h0 h12 [] := K11.wr W12 (Or.inr s_b2)
  have Z12 : n0 ≤ h12.size := Nat.le_trans Z11 (Nat.le_of_eq (W12.size).symm)
  obtain ⟨T13, h13, X13, e13, W13, A13, st13⟩ := own_stI X12 hx hZ e12 A12 (j := (10 : Int32)) ⟨by decide, by decide⟩ (g := (mkF m 89 #[.val (.int p0), .val (.int p1), .val (.int p2), .val (.int yr), .val (.int mo), .val (.int (own_leap yr)), .unset, .unset, .unset, .unset, .unset, .unset, .unset, .unset, .unset] [(.int (30 : Int32)), (.int (10 : Int32)), (.ref b2), (.ref b2)])) rfl rfl (hb hby at_89)
  have N13 := Fr.snoc X13 N12 f_b2
  have K13 : Keep h0 h13 [] := K12.wr W13 (Or.inr s_b2)
  have Z13 : n0 ≤ h13.size := Nat.le_trans Z12 (Nat.le_of_eq (W13.size).symm)
  obtain ⟨T14, h14, X14, e14, W14, A14, st14⟩ := own_stI X13 hx hZ e13 A13 (j := (11 : Int32)) ⟨by decide, by decide⟩ (g := (mkF m 95 #[.val (.int p0), .val (.int p1), .val (.int p2), .val (.int yr), .val (.int mo), .val (.int (own_leap yr)), .unset, .unset, .unset, .unset, .unset, .unset, .unset, .unset, .unset] [(.int (31 : Int32)), (.int (11 : Int32)), (.ref b2), (.ref b2)])) rfl rfl (hb hby at_95)
  have N14 := Fr.snoc X14 N13 f_b2
  have K14 : Keep h0 h14 [] := K13.wr W14 (Or.inr s_b2)
  have Z14 : n0 ≤ h14.size := Nat.le_trans Z13 (Nat.le_of_eq (W14.size).symm)
  obtain ⟨T15, h15, X15, e15, E15, A15, st15⟩ := own_newI X14 hx hZ (hw _ (List.mem_of_getElem? (i := 5) rfl)) rfl e14 (g := (mkF m 100 #[.val (.int p0), .val (.int p1), .val (.int p2), .val (.int yr), .val (.int mo), .val (.int (own_leap yr)), .val (.ref b2), .unset, .unset, .unset, .unset, .unset, .unset, .unset, .unset] [(.int (12 : Int32))])) rfl (hb hby at_100) rfl (by decide) (cap := 12) (by decide) (by decide) (by decide) (by decide)
  obtain ⟨b15, g15⟩ : ∃ z, z = h14.size := ⟨_, rfl⟩
  rw [← g15] at A15 st15
  have f_b15 : n0 ≤ b15 := Nat.le_trans Z14 (Nat.le_of_eq g15.symm)
  have s_b15 : h0.size ≤ b15 := Nat.le_trans K14.1 (Nat.le_of_eq g15.symm)
  have K15 : Keep h0 h15 [] := K14.ext E15
  have ne_b2_b15 : b2 ≠ b15 := Nat.ne_of_lt (Nat.lt_of_lt_of_le A14.lt (Nat.le_of_eq g15.symm))
  have A15_b2 := A14.ext E15
  have Z15 : n0 ≤ h15.size := Nat.le_trans Z14 E15.1
  obtain ⟨T16, h16, X16, e16, W16, A16, st16⟩ := own_stI X15 hx hZ e15 A15 (j := (0 : Int32)) ⟨by decide, by decide⟩ (g := (mkF m 105 #[.val (.int p0), .val (.int p1), .val (.int p2), .val (.int yr), .val (.int mo), .val (.int (own_leap yr)), .val (.ref b2), .unset, .unset, .unset, .unset, .unset, .unset, .unset, .unset] [(.int (0 : Int32)), (.int (0 : Int32)), (.ref b15), (.ref b15)])) rfl rfl (hb hby at_105)
  have N16 := Fr.snoc X16 N14 f_b15
  have K16 : Keep h0 h16 [] := K15.wr W16 (Or.inr s_b15)
  have A16_b2 := A15_b2.other W16 ne_b2_b15
  have Z16 : n0 ≤ h16.size := Nat.le_trans Z15 (Nat.le_of_eq (W16.size).symm)
  obtain ⟨T17, h17, X17, e17, W17, A17, st17⟩ := own_stI X16 hx hZ e16 A16 (j := (1 : Int32)) ⟨by decide, by decide⟩ (g := (mkF m 110 #[.val (.int p0), .val (.int p1), .val (.int p2), .val (.int yr), .val (.int mo), .val (.int (own_leap yr)), .val (.ref b2), .unset, .unset, .unset, .unset, .unset, .unset, .unset, .unset] [(.int (31 : Int32)), (.int (1 : Int32)), (.ref b15), (.ref b15)])) rfl rfl (hb hby at_110)
  have N17 := Fr.snoc X17 N16 f_b15
  have K17 : Keep h0 h17 [] := K16.wr W17 (Or.inr s_b15)
  have A17_b2 := A16_b2.other W17 ne_b2_b15
  have Z17 : n0 ≤ h17.size := Nat.le_trans Z16 (Nat.le_of_eq (W17.size).symm)
  obtain ⟨T18, h18, X18, e18, W18, A18, st18⟩ := own_stI X17 hx hZ e17 A17 (j := (2 : Int32)) ⟨by decide, by decide⟩ (g := (mkF m 115 #[.val (.int p0), .val (.int p1), .val (.int p2), .val (.int yr), .val (.int mo), .val (.int (own_leap yr)), .val (.ref b2), .unset, .unset, .unset, .unset, .unset, .unset, .unset, .unset] [(.int (59 : Int32)), (.int (2 : Int32)), (.ref b15), (.ref b15)])) rfl rfl (hb hby at_115)
  have N18 := Fr.snoc X18 N17 f_b15
  have K18 : Keep h0 h18 [] := K17.wr W18 (Or.inr s_b15)
  have A18_b2 := A17_b2.other W18 ne_b2_b15
  have Z18 : n0 ≤ h18.size := Nat.le_trans Z17 (Nat.le_of_eq (W18.size).symm)
  obtain ⟨T19, h19, X19, e19, W19, A19, st19⟩ := own_stI X18 hx hZ e18 A18 (j := (3 : Int32)) ⟨by decide, by decide⟩ (g := (mkF m 120 #[.val (.int p0), .val (.int p1), .val (.int p2), .val (.int yr), .val (.int mo), .val (.int (own_leap yr)), .val (.ref b2), .unset, .unset, .unset, .unset, .unset, .unset, .unset, .unset] [(.int (90 : Int32)), (.int (3 : Int32)), (.ref b15), (.ref b15)])) rfl rfl (hb hby at_120)
  have N19 := Fr.snoc X19 N18 f_b15
  have K19 : Keep h0 h19 [] := K18.wr W19 (Or.inr s_b15)
  have A19_b2 := A18_b2.other W19 ne_b2_b15
  have Z19 : n0 ≤ h19.size := Nat.le_trans Z18 (Nat.le_of_eq (W19.size).symm)
  obtain ⟨T20, h20, X20, e20, W20, A20, st20⟩ := own_stI X19 hx hZ e19 A19 (j := (4 : Int32)) ⟨by decide, by decide⟩ (g := (mkF m 125 #[.val (.int p0), .val (.int p1), .val (.int p2), .val (.int yr), .val (.int mo), .val (.int (own_leap yr)), .val (.ref b2), .unset, .unset, .unset, .unset, .unset, .unset, .unset, .unset] [(.int (120 : Int32)), (.int (4 : Int32)), (.ref b15), (.ref b15)])) rfl rfl (hb hby at_125)
  have N20 := Fr.snoc X20 N19 f_b15
  have K20 : Keep h0 h20 [] := K19.wr W20 (Or.inr s_b15)
  have A20_b2 := A19_b2.other W20 ne_b2_b15
  have Z20 : n0 ≤ h20.size := Nat.le_trans Z19 (Nat.le_of_eq (W20.size).symm)
  obtain ⟨T21, h21, X21, e21, W21, A21, st21⟩ := own_stI X20 hx hZ e20 A20 (j := (5 : Int32)) ⟨by decide, by decide⟩ (g := (mkF m 131 #[.val (.int p0), .val (.int p1), .val (.int p2), .val (.int yr), .val (.int mo), .val (.int (own_leap yr)), .val (.ref b2), .unset, .unset, .unset, .unset, .unset, .unset, .unset, .unset] [(.int (151 : Int32)), (.int (5 : Int32)), (.ref b15), (.ref b15)])) rfl rfl (hb hby at_131)
  have N21 := Fr.snoc X21 N20 f_b15
  have K21 : Keep h0 h21 [] := K20.wr W21 (Or.inr s_b15)
  have A21_b2 := A20_b2.other W21 ne_b2_b15
  have Z21 : n0 ≤ h21.size := Nat.le_trans Z20 (Nat.le_of_eq (W21.size).symm)
  obtain ⟨T22, h22, X22, e22, W22, A22, st22⟩ := own_stI X21 hx hZ e21 A21 (j := (6 : Int32)) ⟨by decide, by decide⟩ (g := (mkF m 138 #[.val (.int p0), .val (.int p1), .val (.int p2), .val (.int yr), .val (.int mo), .val (.int (own_leap yr)), .val (.ref b2), .unset, .unset, .unset, .unset, .unset, .unset, .unset, .unset] [(.int (181 : Int32)), (.int (6 : Int32)), (.ref b15), (.ref b15)])) rfl rfl (hb hby at_138)
  have N22 := Fr.snoc X22 N21 f_b15
  have K22 : Keep h0 h22 [] := K21.wr W22 (Or.inr s_b15)
  have A22_b2 := A21_b2.other W22 ne_b2_b15
  have Z22 : n0 ≤ h22.size := Nat.le_trans Z21 (Nat.le_of_eq (W22.size).symm)
  obtain ⟨T23, h23, X23, e23, W23, A23, st23⟩ := own_stI X22 hx hZ e22 A22 (j := (7 : Int32)) ⟨by decide, by decide⟩ (g := (mkF m 145 #[.val (.int p0), .val (.int p1), .val (.int p2), .val (.int yr), .val (.int mo), .val (.int (own_leap yr)), .val (.ref b2), .unset, .unset, .unset, .unset, .unset, .unset, .unset, .unset] [(.int (212 : Int32)), (.int (7 : Int32)), (.ref b15), (.ref b15)])) rfl rfl (hb hby at_145)
  have N23 := Fr.snoc X23 N22 f_b15
  have K23 : Keep h0 h23 [] := K22.wr W23 (Or.inr s_b15)
  have A23_b2 := A22_b2.other W23 ne_b2_b15
  have Z23 : n0 ≤ h23.size := Nat.le_trans Z22 (Nat.le_of_eq (W23.size).symm)
  obtain ⟨T24, h24, X24, e24, W24, A24, st24⟩ := own_stI X23 hx hZ e23 A23 (j := (8 : Int32)) ⟨by decide, by decide⟩ (g := (mkF m 152 #[.val (.int p0), .val (.int p1), .val (.int p2), .val (.int yr), .val (.int mo), .val (.int (own_leap yr)), .val (.ref b2), .unset, .unset, .unset, .unset, .unset, .unset, .unset, .unset] [(.int (243 : Int32)), (.int (8 : Int32)), (.ref b15), (.ref b15)])) rfl rfl (hb hby at_152)
  have N24 := Fr.snoc X24 N23 f_b15
  have K24 : Keep h0 h24 [] := K23.wr W24 (Or.inr s_b15)
  have A24_b2 := A23_b2.other W24 ne_b2_b15
  have Z24 : n0 ≤ h24.size := Nat.le_trans Z23 (Nat.le_of_eq (W24.size).symm)
  obtain ⟨T25, h25, X25, e25, W25, A25, st25⟩ := own_stI X24 hx hZ e24 A24 (j := (9 : Int32)) ⟨by decide, by decide⟩ (g := (mkF m 159 #[.val (.int p0), .val (.int p1), .val (.int p2), .val (.int yr), .val (.int mo), .val (.int (own_leap yr)), .val (.ref b2), .unset, .unset, .unset, .unset, .unset, .unset, .unset, .unset] [(.int (273 : Int32)), (.int (9 : Int32)), (.ref b15), (.ref b15)])) rfl rfl (hb hby at_159)
  have N25 := Fr.snoc X25 N24 f_b15
  have K25 : Keep h0 h25 [] := K24.wr W25 (Or.inr s_b15)
  have A25_b2 := A24_b2.other W25 ne_b2_b15
  have Z25 : n0 ≤ h25.size := Nat.le_trans Z24 (Nat.le_of_eq (W25.size).symm)
  obtain ⟨T26, h26, X26, e26, W26, A26, st26⟩ := own_stI X25 hx hZ e25 A25 (j := (10 : Int32)) ⟨by decide, by decide⟩ (g := (mkF m 166 #[.val (.int p0), .val (.int p1), .val (.int p2), .val (.int yr), .val (.int mo), .val (.int (own_leap yr)), .val (.ref b2), .unset, .unset, .unset, .unset, .unset, .unset, .unset, .unset] [(.int (304 : Int32)), (.int (10 : Int32)), (.ref b15), (.ref b15)])) rfl rfl (hb hby at_166)
  have N26 := Fr.snoc X26 N25 f_b15
  have K26 : Keep h0 h26 [] := K25.wr W26 (Or.inr s_b15)
  have A26_b2 := A25_b2.other W26 ne_b2_b15
  have Z26 : n0 ≤ h26.size := Nat.le_trans Z25 (Nat.le_of_eq (W26.size).symm)
  obtain ⟨T27, h27, X27, e27, W27, A27, st27⟩ := own_stI X26 hx hZ e26 A26 (j := (11 : Int32)) ⟨by decide, by decide⟩ (g := (mkF m 173 #[.val (.int p0), .val (.int p1), .val (.int p2), .val (.int yr), .val (.int mo), .val (.int (own_leap yr)), .val (.ref b2), .unset, .unset, .unset, .unset, .unset, .unset, .unset, .unset] [(.int (334 : Int32)), (.int (11 : Int32)), (.ref b15), (.ref b15)])) rfl rfl (hb hby at_173)
  have N27 := Fr.snoc X27 N26 f_b15
  have K27 : Keep h0 h27 [] := K26.wr W27 (Or.inr s_b15)
  have A27_b2 := A26_b2.other W27 ne_b2_b15
  have Z27 : n0 ≤ h27.size := Nat.le_trans Z26 (Nat.le_of_eq (W27.size).symm)
  have V_b2 : own_AI Z h27 b2 .int (12 : Int32) own_mlen := A27_b2
  have V_b15 : own_AI Z h27 b15 .int (12 : Int32) own_bef := A27
  obtain ⟨zz, h_zz⟩ : ∃ z, (own_mlen ((mo - (1 : Int32))).toNatClampNeg) = z := ⟨_, rfl⟩
  obtain ⟨ml, h_ml⟩ : ∃ z, (zz + (own_G_s0 mo (own_leap yr))) = z := ⟨_, rfl⟩
  have hml2 := own_ml h_mo h_zz h_ml
  have nzm : ml ≠ 0 := fun q => by rw [q] at hml2; have : (0 : Int32).toInt = 0 := rfl; omega
  obtain ⟨dd, h_dd⟩ : ∃ z, (((p2 &&& (2147483647 : Int32)) % ml) + (1 : Int32)) = z := ⟨_, rfl⟩
  obtain ⟨dt, h_dt⟩ : ∃ z, (((yr * (10000 : Int32)) + (mo * (100 : Int32))) + dd) = z := ⟨_, rfl⟩
  obtain ⟨lb, h_lb⟩ : ∃ z, (((((yr.toInt64) + (3 : Int64)) / (4 : Int64)) - (((yr.toInt64) + (99 : Int64)) / (100 : Int64))) + (((yr.toInt64) + (399 : Int64)) / (400 : Int64))) = z := ⟨_, rfl⟩
  obtain ⟨wz, h_wz⟩ : ∃ z, ((((365 : Int64) * (yr.toInt64)) + lb) + ((own_bef ((mo - (1 : Int32))).toNatClampNeg).toInt64)) = z := ⟨_, rfl⟩
  obtain ⟨ex, h_ex⟩ : ∃ z, ((((wz + ((own_H_s0 mo (own_leap yr)).toInt64)) + (dd.toInt64)) - (1 : Int64)) - (719528 : Int64)) = z := ⟨_, rfl⟩
  obtain ⟨Lg28, Xg28, Ng28⟩ := own_gen X27 N27
  obtain ⟨_, _, ⟨T29, L29, k29, n29⟩, -, X29, ⟨Lc29, hQ29, l29, y29, z29⟩, st29⟩ := Jvm.LawKit.callS Xg28 hx (y := (⟨"com/example/vestwright/vestwright/model/IsoDate", "epochDay", "(I)J"⟩ : MethodName)) hown (mvT hZ (hw _ (List.mem_of_getElem? (i := 14) rfl))) (mvT hZ (hw _ (List.mem_of_getElem? (i := 15) rfl))) (mvT hZ (hw _ (List.mem_of_getElem? (i := 16) rfl))) (mvT hZ (hw _ (List.mem_of_getElem? (i := 17) rfl))) (by decide) (backOf (W := 0) (rm2 l Z a0 hw [] dt  h27 n0 Z27 ) hZ (hw _ (List.mem_of_getElem? (i := 17) rfl)) (hw _ (List.mem_of_getElem? (i := 16) rfl)) (by decide) (by decide)) (g := (mkF m 313 #[.val (.int p0), .val (.int p1), .val (.int p2), .val (.int yr), .val (.int mo), .val (.int (own_leap yr)), .val (.ref b2), .val (.ref b15), .val (.int ml), .val (.int dd), .val (.int dt), .val (.long lb), .second, .val (.long ex), .second] [(.int dt)])) rfl (by rw [hml]; rfl) (argsL := [(.int dt)]) (rest := []) (lenOf pd_1 rfl) rfl (by show 2 * 0 + _ ≤ _; exact Nat.le_of_eq rfl) (hb hby at_313) (fun _ _ => ⟨rfl, e27, (by decide : 2 + 0 ≤ _), (by decide : 24 + 0 ≤ _)⟩)
  dsimp only [Pt.U, Pt.locs, Pt.cells, Pt.slots] at X29 l29 y29 z29 st29 hQ29
  subst l29 y29 z29
  obtain ⟨⟨rr, rfl, hEp⟩, Nq29, e29⟩ := hQ29
  have N29 := Fr.app Ng28 Nq29
  have hfin := own_fin (zz := zz) h_yr h_mo hml2 h_dd h_dt h_lb h_wz h_ex hEp
  obtain ⟨fs, hr, hrun, hended, hW, hsame⟩ := X29.leave (v := some (.int (1 : Int32))) (fun h => by rw [Bd.returns] at h; cases h)
  refine ⟨_, _, pre0 _ ?_, hrun, hended, _, _, rfl, ⟨rfl, N29⟩, ⟨_, rfl⟩, hW, hsame.mono (by decide) (by decide)⟩
  show Steps p.tables e below (s₁.setTop (mkF m 0 #[.val (.int p0), .val (.int p1), .val (.int p2), .unset, .unset, .unset, .unset, .unset, .unset, .unset, .unset, .unset, .unset, .unset, .unset] [])) _
  refine XS.iloadN X0.here hx rfl (hb hby at_0) rfl ?_
  show Steps p.tables e below (s₁.setTop (mkF m 1 #[.val (.int p0), .val (.int p1), .val (.int p2), .unset, .unset, .unset, .unset, .unset, .unset, .unset, .unset, .unset, .unset, .unset, .unset] [(.int p0)])) _
  refine X0.ldcI hx hown (mvT hZ (hw _ (List.mem_of_getElem? (i := 0) rfl))) rfl (hb hby at_1) ?_
  show Steps p.tables e below (s₁.setTop (mkF m 3 #[.val (.int p0), .val (.int p1), .val (.int p2), .unset, .unset, .unset, .unset, .unset, .unset, .unset, .unset, .unset, .unset, .unset, .unset] [(.int (2147483647 : Int32)), (.int p0)])) _
  refine XS.iand X0.here hx rfl (hb hby at_3) rfl ?_
  show Steps p.tables e below (s₁.setTop (mkF m 4 #[.val (.int p0), .val (.int p1), .val (.int p2), .unset, .unset, .unset, .unset, .unset, .unset, .unset, .unset, .unset, .unset, .unset, .unset] [(.int (p0 &&& (2147483647 : Int32)))])) _
  refine XS.sipush X0.here hx rfl (hb hby at_4) ?_
  show Steps p.tables e below (s₁.setTop (mkF m 7 #[.val (.int p0), .val (.int p1), .val (.int p2), .unset, .unset, .unset, .unset, .unset, .unset, .unset, .unset, .unset, .unset, .unset, .unset] [(.int (10000 : Int32)), (.int (p0 &&& (2147483647 : Int32)))])) _
  refine iremM X0 hx rfl (hb hby at_7) rfl (by decide) ?_
  show Steps p.tables e below (s₁.setTop (mkF m 8 #[.val (.int p0), .val (.int p1), .val (.int p2), .unset, .unset, .unset, .unset, .unset, .unset, .unset, .unset, .unset, .unset, .unset, .unset] [(.int ((p0 &&& (2147483647 : Int32)) % (10000 : Int32)))])) _
  refine XS.istoreN X0.here hx rfl (hb hby at_8) rfl (l' := #[.val (.int p0), .val (.int p1), .val (.int p2), .val (.int ((p0 &&& (2147483647 : Int32)) % (10000 : Int32))), .unset, .unset, .unset, .unset, .unset, .unset, .unset, .unset, .unset, .unset, .unset]) rfl ?_
  rw [h_yr]
  show Steps p.tables e below (s₁.setTop (mkF m 9 #[.val (.int p0), .val (.int p1), .val (.int p2), .val (.int yr), .unset, .unset, .unset, .unset, .unset, .unset, .unset, .unset, .unset, .unset, .unset] [])) _
  refine XS.iloadN X0.here hx rfl (hb hby at_9) rfl ?_
  show Steps p.tables e below (s₁.setTop (mkF m 10 #[.val (.int p0), .val (.int p1), .val (.int p2), .val (.int yr), .unset, .unset, .unset, .unset, .unset, .unset, .unset, .unset, .unset, .unset, .unset] [(.int p1)])) _
  refine X0.ldcI hx hown (mvT hZ (hw _ (List.mem_of_getElem? (i := 0) rfl))) rfl (hb hby at_10) ?_
  show Steps p.tables e below (s₁.setTop (mkF m 12 #[.val (.int p0), .val (.int p1), .val (.int p2), .val (.int yr), .unset, .unset, .unset, .unset, .unset, .unset, .unset, .unset, .unset, .unset, .unset] [(.int (2147483647 : Int32)), (.int p1)])) _
  refine XS.iand X0.here hx rfl (hb hby at_12) rfl ?_
  show Steps p.tables e below (s₁.setTop (mkF m 13 #[.val (.int p0), .val (.int p1), .val (.int p2), .val (.int yr), .unset, .unset, .unset, .unset, .unset, .unset, .unset, .unset, .unset, .unset, .unset] [(.int (p1 &&& (2147483647 : Int32)))])) _
  refine XS.bipush X0.here hx rfl (hb hby at_13) ?_
  show Steps p.tables e below (s₁.setTop (mkF m 15 #[.val (.int p0), .val (.int p1), .val (.int p2), .val (.int yr), .unset, .unset, .unset, .unset, .unset, .unset, .unset, .unset, .unset, .unset, .unset] [(.int (12 : Int32)), (.int (p1 &&& (2147483647 : Int32)))])) _
  refine iremM X0 hx rfl (hb hby at_15) rfl (by decide) ?_
  show Steps p.tables e below (s₁.setTop (mkF m 16 #[.val (.int p0), .val (.int p1), .val (.int p2), .val (.int yr), .unset, .unset, .unset, .unset, .unset, .unset, .unset, .unset, .unset, .unset, .unset] [(.int ((p1 &&& (2147483647 : Int32)) % (12 : Int32)))])) _
  refine XS.iconst X0.here hx rfl (hb hby at_16) ?_
  show Steps p.tables e below (s₁.setTop (mkF m 17 #[.val (.int p0), .val (.int p1), .val (.int p2), .val (.int yr), .unset, .unset, .unset, .unset, .unset, .unset, .unset, .unset, .unset, .unset, .unset] [(.int (1 : Int32)), (.int ((p1 &&& (2147483647 : Int32)) % (12 : Int32)))])) _
  refine XS.iadd X0.here hx rfl (hb hby at_17) rfl ?_
  show Steps p.tables e below (s₁.setTop (mkF m 18 #[.val (.int p0), .val (.int p1), .val (.int p2), .val (.int yr), .unset, .unset, .unset, .unset, .unset, .unset, .unset, .unset, .unset, .unset, .unset] [(.int (((p1 &&& (2147483647 : Int32)) % (12 : Int32)) + (1 : Int32)))])) _
  refine XS.istore X0.here hx rfl (hb hby at_18) rfl (l' := #[.val (.int p0), .val (.int p1), .val (.int p2), .val (.int yr), .val (.int (((p1 &&& (2147483647 : Int32)) % (12 : Int32)) + (1 : Int32))), .unset, .unset, .unset, .unset, .unset, .unset, .unset, .unset, .unset, .unset]) rfl ?_
  rw [h_mo]
  show Steps p.tables e below (s₁.setTop (mkF m 20 #[.val (.int p0), .val (.int p1), .val (.int p2), .val (.int yr), .val (.int mo), .unset, .unset, .unset, .unset, .unset, .unset, .unset, .unset, .unset, .unset] [])) _
  refine XS.iloadN X0.here hx rfl (hb hby at_20) rfl ?_
  show Steps p.tables e below (s₁.setTop (mkF m 21 #[.val (.int p0), .val (.int p1), .val (.int p2), .val (.int yr), .val (.int mo), .unset, .unset, .unset, .unset, .unset, .unset, .unset, .unset, .unset, .unset] [(.int yr)])) _
  refine st1 _ ?_
  show Steps p.tables e below (T1.setTop (mkF m 24 #[.val (.int p0), .val (.int p1), .val (.int p2), .val (.int yr), .val (.int mo), .unset, .unset, .unset, .unset, .unset, .unset, .unset, .unset, .unset, .unset] [(.int (own_leap yr))])) _
  refine XS.istore X1.here hx rfl (hb hby at_24) rfl (l' := #[.val (.int p0), .val (.int p1), .val (.int p2), .val (.int yr), .val (.int mo), .val (.int (own_leap yr)), .unset, .unset, .unset, .unset, .unset, .unset, .unset, .unset, .unset]) rfl ?_
  show Steps p.tables e below (T1.setTop (mkF m 26 #[.val (.int p0), .val (.int p1), .val (.int p2), .val (.int yr), .val (.int mo), .val (.int (own_leap yr)), .unset, .unset, .unset, .unset, .unset, .unset, .unset, .unset, .unset] [])) _
  refine XS.bipush X1.here hx rfl (hb hby at_26) ?_
  show Steps p.tables e below (T1.setTop (mkF m 28 #[.val (.int p0), .val (.int p1), .val (.int p2), .val (.int yr), .val (.int mo), .val (.int (own_leap yr)), .unset, .unset, .unset, .unset, .unset, .unset, .unset, .unset, .unset] [(.int (12 : Int32))])) _
  refine st2 _ ?_
  show Steps p.tables e below (T2.setTop (mkF m 30 #[.val (.int p0), .val (.int p1), .val (.int p2), .val (.int yr), .val (.int mo), .val (.int (own_leap yr)), .unset, .unset, .unset, .unset, .unset, .unset, .unset, .unset, .unset] [(.ref b2)])) _
  refine XS.dup X2.here hx rfl (hb hby at_30) rfl rfl ?_
  show Steps p.tables e below (T2.setTop (mkF m 31 #[.val (.int p0), .val (.int p1), .val (.int p2), .val (.int yr), .val (.int mo), .val (.int (own_leap yr)), .unset, .unset, .unset, .unset, .unset, .unset, .unset, .unset, .unset] [(.ref b2), (.ref b2)])) _
  refine XS.iconst X2.here hx rfl (hb hby at_31) ?_
  show Steps p.tables e below (T2.setTop (mkF m 32 #[.val (.int p0), .val (.int p1), .val (.int p2), .val (.int yr), .val (.int mo), .val (.int (own_leap yr)), .unset, .unset, .unset, .unset, .unset, .unset, .unset, .unset, .unset] [(.int (0 : Int32)), (.ref b2), (.ref b2)])) _
  refine XS.bipush X2.here hx rfl (hb hby at_32) ?_
  show Steps p.tables e below (T2.setTop (mkF m 34 #[.val (.int p0), .val (.int p1), .val (.int p2), .val (.int yr), .val (.int mo), .val (.int (own_leap yr)), .unset, .unset, .unset, .unset, .unset, .unset, .unset, .unset, .unset] [(.int (31 : Int32)), (.int (0 : Int32)), (.ref b2), (.ref b2)])) _
  refine st3 _ ?_
  show Steps p.tables e below (T3.setTop (mkF m 35 #[.val (.int p0), .val (.int p1), .val (.int p2), .val (.int yr), .val (.int mo), .val (.int (own_leap yr)), .unset, .unset, .unset, .unset, .unset, .unset, .unset, .unset, .unset] [(.ref b2)])) _
  refine XS.dup X3.here hx rfl (hb hby at_35) rfl rfl ?_
  show Steps p.tables e below (T3.setTop (mkF m 36 #[.val (.int p0), .val (.int p1), .val (.int p2), .val (.int yr), .val (.int mo), .val (.int (own_leap yr)), .unset, .unset, .unset, .unset, .unset, .unset, .unset, .unset, .unset] [(.ref b2), (.ref b2)])) _
  refine XS.iconst X3.here hx rfl (hb hby at_36) ?_
  show Steps p.tables e below (T3.setTop (mkF m 37 #[.val (.int p0), .val (.int p1), .val (.int p2), .val (.int yr), .val (.int mo), .val (.int (own_leap yr)), .unset, .unset, .unset, .unset, .unset, .unset, .unset, .unset, .unset] [(.int (1 : Int32)), (.ref b2), (.ref b2)])) _
  refine XS.bipush X3.here hx rfl (hb hby at_37) ?_
  show Steps p.tables e below (T3.setTop (mkF m 39 #[.val (.int p0), .val (.int p1), .val (.int p2), .val (.int yr), .val (.int mo), .val (.int (own_leap yr)), .unset, .unset, .unset, .unset, .unset, .unset, .unset, .unset, .unset] [(.int (28 : Int32)), (.int (1 : Int32)), (.ref b2), (.ref b2)])) _
  refine st4 _ ?_
  show Steps p.tables e below (T4.setTop (mkF m 40 #[.val (.int p0), .val (.int p1), .val (.int p2), .val (.int yr), .val (.int mo), .val (.int (own_leap yr)), .unset, .unset, .unset, .unset, .unset, .unset, .unset, .unset, .unset] [(.ref b2)])) _
  refine XS.dup X4.here hx rfl (hb hby at_40) rfl rfl ?_
  show Steps p.tables e below (T4.setTop (mkF m 41 #[.val (.int p0), .val (.int p1), .val (.int p2), .val (.int yr), .val (.int mo), .val (.int (own_leap yr)), .unset, .unset, .unset, .unset, .unset, .unset, .unset, .unset, .unset] [(.ref b2), (.ref b2)])) _
  refine XS.iconst X4.here hx rfl (hb hby at_41) ?_
  show Steps p.tables e below (T4.setTop (mkF m 42 #[.val (.int p0), .val (.int p1), .val (.int p2), .val (.int yr), .val (.int mo), .val (.int (own_leap yr)), .unset, .unset, .unset, .unset, .unset, .unset, .unset, .unset, .unset] [(.int (2 : Int32)), (.ref b2), (.ref b2)])) _
  refine XS.bipush X4.here hx rfl (hb hby at_42) ?_
  show Steps p.tables e below (T4.setTop (mkF m 44 #[.val (.int p0), .val (.int p1), .val (.int p2), .val (.int yr), .val (.int mo), .val (.int (own_leap yr)), .unset, .unset, .unset, .unset, .unset, .unset, .unset, .unset, .unset] [(.int (31 : Int32)), (.int (2 : Int32)), (.ref b2), (.ref b2)])) _
  refine st5 _ ?_
  show Steps p.tables e below (T5.setTop (mkF m 45 #[.val (.int p0), .val (.int p1), .val (.int p2), .val (.int yr), .val (.int mo), .val (.int (own_leap yr)), .unset, .unset, .unset, .unset, .unset, .unset, .unset, .unset, .unset] [(.ref b2)])) _
  refine XS.dup X5.here hx rfl (hb hby at_45) rfl rfl ?_
  show Steps p.tables e below (T5.setTop (mkF m 46 #[.val (.int p0), .val (.int p1), .val (.int p2), .val (.int yr), .val (.int mo), .val (.int (own_leap yr)), .unset, .unset, .unset, .unset, .unset, .unset, .unset, .unset, .unset] [(.ref b2), (.ref b2)])) _
  refine XS.iconst X5.here hx rfl (hb hby at_46) ?_
  show Steps p.tables e below (T5.setTop (mkF m 47 #[.val (.int p0), .val (.int p1), .val (.int p2), .val (.int yr), .val (.int mo), .val (.int (own_leap yr)), .unset, .unset, .unset, .unset, .unset, .unset, .unset, .unset, .unset] [(.int (3 : Int32)), (.ref b2), (.ref b2)])) _
  refine XS.bipush X5.here hx rfl (hb hby at_47) ?_
  show Steps p.tables e below (T5.setTop (mkF m 49 #[.val (.int p0), .val (.int p1), .val (.int p2), .val (.int yr), .val (.int mo), .val (.int (own_leap yr)), .unset, .unset, .unset, .unset, .unset, .unset, .unset, .unset, .unset] [(.int (30 : Int32)), (.int (3 : Int32)), (.ref b2), (.ref b2)])) _
  refine st6 _ ?_
  show Steps p.tables e below (T6.setTop (mkF m 50 #[.val (.int p0), .val (.int p1), .val (.int p2), .val (.int yr), .val (.int mo), .val (.int (own_leap yr)), .unset, .unset, .unset, .unset, .unset, .unset, .unset, .unset, .unset] [(.ref b2)])) _
  refine XS.dup X6.here hx rfl (hb hby at_50) rfl rfl ?_
  show Steps p.tables e below (T6.setTop (mkF m 51 #[.val (.int p0), .val (.int p1), .val (.int p2), .val (.int yr), .val (.int mo), .val (.int (own_leap yr)), .unset, .unset, .unset, .unset, .unset, .unset, .unset, .unset, .unset] [(.ref b2), (.ref b2)])) _
  refine XS.iconst X6.here hx rfl (hb hby at_51) ?_
  show Steps p.tables e below (T6.setTop (mkF m 52 #[.val (.int p0), .val (.int p1), .val (.int p2), .val (.int yr), .val (.int mo), .val (.int (own_leap yr)), .unset, .unset, .unset, .unset, .unset, .unset, .unset, .unset, .unset] [(.int (4 : Int32)), (.ref b2), (.ref b2)])) _
  refine XS.bipush X6.here hx rfl (hb hby at_52) ?_
  show Steps p.tables e below (T6.setTop (mkF m 54 #[.val (.int p0), .val (.int p1), .val (.int p2), .val (.int yr), .val (.int mo), .val (.int (own_leap yr)), .unset, .unset, .unset, .unset, .unset, .unset, .unset, .unset, .unset] [(.int (31 : Int32)), (.int (4 : Int32)), (.ref b2), (.ref b2)])) _
  refine st7 _ ?_
  show Steps p.tables e below (T7.setTop (mkF m 55 #[.val (.int p0), .val (.int p1), .val (.int p2), .val (.int yr), .val (.int mo), .val (.int (own_leap yr)), .unset, .unset, .unset, .unset, .unset, .unset, .unset, .unset, .unset] [(.ref b2)])) _
  refine XS.dup X7.here hx rfl (hb hby at_55) rfl rfl ?_
  show Steps p.tables e below (T7.setTop (mkF m 56 #[.val (.int p0), .val (.int p1), .val (.int p2), .val (.int yr), .val (.int mo), .val (.int (own_leap yr)), .unset, .unset, .unset, .unset, .unset, .unset, .unset, .unset, .unset] [(.ref b2), (.ref b2)])) _
  refine XS.iconst X7.here hx rfl (hb hby at_56) ?_
  show Steps p.tables e below (T7.setTop (mkF m 57 #[.val (.int p0), .val (.int p1), .val (.int p2), .val (.int yr), .val (.int mo), .val (.int (own_leap yr)), .unset, .unset, .unset, .unset, .unset, .unset, .unset, .unset, .unset] [(.int (5 : Int32)), (.ref b2), (.ref b2)])) _
  refine XS.bipush X7.here hx rfl (hb hby at_57) ?_
  show Steps p.tables e below (T7.setTop (mkF m 59 #[.val (.int p0), .val (.int p1), .val (.int p2), .val (.int yr), .val (.int mo), .val (.int (own_leap yr)), .unset, .unset, .unset, .unset, .unset, .unset, .unset, .unset, .unset] [(.int (30 : Int32)), (.int (5 : Int32)), (.ref b2), (.ref b2)])) _
  refine st8 _ ?_
  show Steps p.tables e below (T8.setTop (mkF m 60 #[.val (.int p0), .val (.int p1), .val (.int p2), .val (.int yr), .val (.int mo), .val (.int (own_leap yr)), .unset, .unset, .unset, .unset, .unset, .unset, .unset, .unset, .unset] [(.ref b2)])) _
  refine XS.dup X8.here hx rfl (hb hby at_60) rfl rfl ?_
  show Steps p.tables e below (T8.setTop (mkF m 61 #[.val (.int p0), .val (.int p1), .val (.int p2), .val (.int yr), .val (.int mo), .val (.int (own_leap yr)), .unset, .unset, .unset, .unset, .unset, .unset, .unset, .unset, .unset] [(.ref b2), (.ref b2)])) _
  refine XS.bipush X8.here hx rfl (hb hby at_61) ?_
  show Steps p.tables e below (T8.setTop (mkF m 63 #[.val (.int p0), .val (.int p1), .val (.int p2), .val (.int yr), .val (.int mo), .val (.int (own_leap yr)), .unset, .unset, .unset, .unset, .unset, .unset, .unset, .unset, .unset] [(.int (6 : Int32)), (.ref b2), (.ref b2)])) _
  refine XS.bipush X8.here hx rfl (hb hby at_63) ?_
  show Steps p.tables e below (T8.setTop (mkF m 65 #[.val (.int p0), .val (.int p1), .val (.int p2), .val (.int yr), .val (.int mo), .val (.int (own_leap yr)), .unset, .unset, .unset, .unset, .unset, .unset, .unset, .unset, .unset] [(.int (31 : Int32)), (.int (6 : Int32)), (.ref b2), (.ref b2)])) _
  refine st9 _ ?_
  show Steps p.tables e below (T9.setTop (mkF m 66 #[.val (.int p0), .val (.int p1), .val (.int p2), .val (.int yr), .val (.int mo), .val (.int (own_leap yr)), .unset, .unset, .unset, .unset, .unset, .unset, .unset, .unset, .unset] [(.ref b2)])) _
  refine XS.dup X9.here hx rfl (hb hby at_66) rfl rfl ?_
  show Steps p.tables e below (T9.setTop (mkF m 67 #[.val (.int p0), .val (.int p1), .val (.int p2), .val (.int yr), .val (.int mo), .val (.int (own_leap yr)), .unset, .unset, .unset, .unset, .unset, .unset, .unset, .unset, .unset] [(.ref b2), (.ref b2)])) _
  refine XS.bipush X9.here hx rfl (hb hby at_67) ?_
  show Steps p.tables e below (T9.setTop (mkF m 69 #[.val (.int p0), .val (.int p1), .val (.int p2), .val (.int yr), .val (.int mo), .val (.int (own_leap yr)), .unset, .unset, .unset, .unset, .unset, .unset, .unset, .unset, .unset] [(.int (7 : Int32)), (.ref b2), (.ref b2)])) _
  refine XS.bipush X9.here hx rfl (hb hby at_69) ?_
  show Steps p.tables e below (T9.setTop (mkF m 71 #[.val (.int p0), .val (.int p1), .val (.int p2), .val (.int yr), .val (.int mo), .val (.int (own_leap yr)), .unset, .unset, .unset, .unset, .unset, .unset, .unset, .unset, .unset] [(.int (31 : Int32)), (.int (7 : Int32)), (.ref b2), (.ref b2)])) _
  refine st10 _ ?_
  show Steps p.tables e below (T10.setTop (mkF m 72 #[.val (.int p0), .val (.int p1), .val (.int p2), .val (.int yr), .val (.int mo), .val (.int (own_leap yr)), .unset, .unset, .unset, .unset, .unset, .unset, .unset, .unset, .unset] [(.ref b2)])) _
  refine XS.dup X10.here hx rfl (hb hby at_72) rfl rfl ?_
  show Steps p.tables e below (T10.setTop (mkF m 73 #[.val (.int p0), .val (.int p1), .val (.int p2), .val (.int yr), .val (.int mo), .val (.int (own_leap yr)), .unset, .unset, .unset, .unset, .unset, .unset, .unset, .unset, .unset] [(.ref b2), (.ref b2)])) _
  refine XS.bipush X10.here hx rfl (hb hby at_73) ?_
  show Steps p.tables e below (T10.setTop (mkF m 75 #[.val (.int p0), .val (.int p1), .val (.int p2), .val (.int yr), .val (.int mo), .val (.int (own_leap yr)), .unset, .unset, .unset, .unset, .unset, .unset, .unset, .unset, .unset] [(.int (8 : Int32)), (.ref b2), (.ref b2)])) _
  refine XS.bipush X10.here hx rfl (hb hby at_75) ?_
  show Steps p.tables e below (T10.setTop (mkF m 77 #[.val (.int p0), .val (.int p1), .val (.int p2), .val (.int yr), .val (.int mo), .val (.int (own_leap yr)), .unset, .unset, .unset, .unset, .unset, .unset, .unset, .unset, .unset] [(.int (30 : Int32)), (.int (8 : Int32)), (.ref b2), (.ref b2)])) _
  refine st11 _ ?_
  show Steps p.tables e below (T11.setTop (mkF m 78 #[.val (.int p0), .val (.int p1), .val (.int p2), .val (.int yr), .val (.int mo), .val (.int (own_leap yr)), .unset, .unset, .unset, .unset, .unset, .unset, .unset, .unset, .unset] [(.ref b2)])) _
  refine XS.dup X11.here hx rfl (hb hby at_78) rfl rfl ?_
  show Steps p.tables e below (T11.setTop (mkF m 79 #[.val (.int p0), .val (.int p1), .val (.int p2), .val (.int yr), .val (.int mo), .val (.int (own_leap yr)), .unset, .unset, .unset, .unset, .unset, .unset, .unset, .unset, .unset] [(.ref b2), (.ref b2)])) _
  refine XS.bipush X11.here hx rfl (hb hby at_79) ?_
  show Steps p.tables e below (T11.setTop (mkF m 81 #[.val (.int p0), .val (.int p1), .val (.int p2), .val (.int yr), .val (.int mo), .val (.int (own_leap yr)), .unset, .unset, .unset, .unset, .unset, .unset, .unset, .unset, .unset] [(.int (9 : Int32)), (.ref b2), (.ref b2)])) _
  refine XS.bipush X11.here hx rfl (hb hby at_81) ?_
  show Steps p.tables e below (T11.setTop (mkF m 83 #[.val (.int p0), .val (.int p1), .val (.int p2), .val (.int yr), .val (.int mo), .val (.int (own_leap yr)), .unset, .unset, .unset, .unset, .unset, .unset, .unset, .unset, .unset] [(.int (31 : Int32)), (.int (9 : Int32)), (.ref b2), (.ref b2)])) _
  refine st12 _ ?_
  show Steps p.tables e below (T12.setTop (mkF m 84 #[.val (.int p0), .val (.int p1), .val (.int p2), .val (.int yr), .val (.int mo), .val (.int (own_leap yr)), .unset, .unset, .unset, .unset, .unset, .unset, .unset, .unset, .unset] [(.ref b2)])) _
  refine XS.dup X12.here hx rfl (hb hby at_84) rfl rfl ?_
  show Steps p.tables e below (T12.setTop (mkF m 85 #[.val (.int p0), .val (.int p1), .val (.int p2), .val (.int yr), .val (.int mo), .val (.int (own_leap yr)), .unset, .unset, .unset, .unset, .unset, .unset, .unset, .unset, .unset] [(.ref b2), (.ref b2)])) _
  refine XS.bipush X12.here hx rfl (hb hby at_85) ?_
  show Steps p.tables e below (T12.setTop (mkF m 87 #[.val (.int p0), .val (.int p1), .val (.int p2), .val (.int yr), .val (.int mo), .val (.int (own_leap yr)), .unset, .unset, .unset, .unset, .unset, .unset, .unset, .unset, .unset] [(.int (10 : Int32)), (.ref b2), (.ref b2)])) _
  refine XS.bipush X12.here hx rfl (hb hby at_87) ?_
  show Steps p.tables e below (T12.setTop (mkF m 89 #[.val (.int p0), .val (.int p1), .val (.int p2), .val (.int yr), .val (.int mo), .val (.int (own_leap yr)), .unset, .unset, .unset, .unset, .unset, .unset, .unset, .unset, .unset] [(.int (30 : Int32)), (.int (10 : Int32)), (.ref b2), (.ref b2)])) _
  refine st13 _ ?_
  show Steps p.tables e below (T13.setTop (mkF m 90 #[.val (.int p0), .val (.int p1), .val (.int p2), .val (.int yr), .val (.int mo), .val (.int (own_leap yr)), .unset, .unset, .unset, .unset, .unset, .unset, .unset, .unset, .unset] [(.ref b2)])) _
  refine XS.dup X13.here hx rfl (hb hby at_90) rfl rfl ?_
  show Steps p.tables e below (T13.setTop (mkF m 91 #[.val (.int p0), .val (.int p1), .val (.int p2), .val (.int yr), .val (.int mo), .val (.int (own_leap yr)), .unset, .unset, .unset, .unset, .unset, .unset, .unset, .unset, .unset] [(.ref b2), (.ref b2)])) _
  refine XS.bipush X13.here hx rfl (hb hby at_91) ?_
  show Steps p.tables e below (T13.setTop (mkF m 93 #[.val (.int p0), .val (.int p1), .val (.int p2), .val (.int yr), .val (.int mo), .val (.int (own_leap yr)), .unset, .unset, .unset, .unset, .unset, .unset, .unset, .unset, .unset] [(.int (11 : Int32)), (.ref b2), (.ref b2)])) _
  refine XS.bipush X13.here hx rfl (hb hby at_93) ?_
  show Steps p.tables e below (T13.setTop (mkF m 95 #[.val (.int p0), .val (.int p1), .val (.int p2), .val (.int yr), .val (.int mo), .val (.int (own_leap yr)), .unset, .unset, .unset, .unset, .unset, .unset, .unset, .unset, .unset] [(.int (31 : Int32)), (.int (11 : Int32)), (.ref b2), (.ref b2)])) _
  refine st14 _ ?_
  show Steps p.tables e below (T14.setTop (mkF m 96 #[.val (.int p0), .val (.int p1), .val (.int p2), .val (.int yr), .val (.int mo), .val (.int (own_leap yr)), .unset, .unset, .unset, .unset, .unset, .unset, .unset, .unset, .unset] [(.ref b2)])) _
  refine XS.astore X14.here hx rfl (hb hby at_96) rfl rfl (l' := #[.val (.int p0), .val (.int p1), .val (.int p2), .val (.int yr), .val (.int mo), .val (.int (own_leap yr)), .val (.ref b2), .unset, .unset, .unset, .unset, .unset, .unset, .unset, .unset]) rfl ?_
  show Steps p.tables e below (T14.setTop (mkF m 98 #[.val (.int p0), .val (.int p1), .val (.int p2), .val (.int yr), .val (.int mo), .val (.int (own_leap yr)), .val (.ref b2), .unset, .unset, .unset, .unset, .unset, .unset, .unset, .unset] [])) _
  refine XS.bipush X14.here hx rfl (hb hby at_98) ?_
  show Steps p.tables e below (T14.setTop (mkF m 100 #[.val (.int p0), .val (.int p1), .val (.int p2), .val (.int yr), .val (.int mo), .val (.int (own_leap yr)), .val (.ref b2), .unset, .unset, .unset, .unset, .unset, .unset, .unset, .unset] [(.int (12 : Int32))])) _
  refine st15 _ ?_
  show Steps p.tables e below (T15.setTop (mkF m 102 #[.val (.int p0), .val (.int p1), .val (.int p2), .val (.int yr), .val (.int mo), .val (.int (own_leap yr)), .val (.ref b2), .unset, .unset, .unset, .unset, .unset, .unset, .unset, .unset] [(.ref b15)])) _
  refine XS.dup X15.here hx rfl (hb hby at_102) rfl rfl ?_
  show Steps p.tables e below (T15.setTop (mkF m 103 #[.val (.int p0), .val (.int p1), .val (.int p2), .val (.int yr), .val (.int mo), .val (.int (own_leap yr)), .val (.ref b2), .unset, .unset, .unset, .unset, .unset, .unset, .unset, .unset] [(.ref b15), (.ref b15)])) _
  refine XS.iconst X15.here hx rfl (hb hby at_103) ?_
  show Steps p.tables e below (T15.setTop (mkF m 104 #[.val (.int p0), .val (.int p1), .val (.int p2), .val (.int yr), .val (.int mo), .val (.int (own_leap yr)), .val (.ref b2), .unset, .unset, .unset, .unset, .unset, .unset, .unset, .unset] [(.int (0 : Int32)), (.ref b15), (.ref b15)])) _
  refine XS.iconst X15.here hx rfl (hb hby at_104) ?_
  show Steps p.tables e below (T15.setTop (mkF m 105 #[.val (.int p0), .val (.int p1), .val (.int p2), .val (.int yr), .val (.int mo), .val (.int (own_leap yr)), .val (.ref b2), .unset, .unset, .unset, .unset, .unset, .unset, .unset, .unset] [(.int (0 : Int32)), (.int (0 : Int32)), (.ref b15), (.ref b15)])) _
  refine st16 _ ?_
  show Steps p.tables e below (T16.setTop (mkF m 106 #[.val (.int p0), .val (.int p1), .val (.int p2), .val (.int yr), .val (.int mo), .val (.int (own_leap yr)), .val (.ref b2), .unset, .unset, .unset, .unset, .unset, .unset, .unset, .unset] [(.ref b15)])) _
  refine XS.dup X16.here hx rfl (hb hby at_106) rfl rfl ?_
  show Steps p.tables e below (T16.setTop (mkF m 107 #[.val (.int p0), .val (.int p1), .val (.int p2), .val (.int yr), .val (.int mo), .val (.int (own_leap yr)), .val (.ref b2), .unset, .unset, .unset, .unset, .unset, .unset, .unset, .unset] [(.ref b15), (.ref b15)])) _
  refine XS.iconst X16.here hx rfl (hb hby at_107) ?_
  show Steps p.tables e below (T16.setTop (mkF m 108 #[.val (.int p0), .val (.int p1), .val (.int p2), .val (.int yr), .val (.int mo), .val (.int (own_leap yr)), .val (.ref b2), .unset, .unset, .unset, .unset, .unset, .unset, .unset, .unset] [(.int (1 : Int32)), (.ref b15), (.ref b15)])) _
  refine XS.bipush X16.here hx rfl (hb hby at_108) ?_
  show Steps p.tables e below (T16.setTop (mkF m 110 #[.val (.int p0), .val (.int p1), .val (.int p2), .val (.int yr), .val (.int mo), .val (.int (own_leap yr)), .val (.ref b2), .unset, .unset, .unset, .unset, .unset, .unset, .unset, .unset] [(.int (31 : Int32)), (.int (1 : Int32)), (.ref b15), (.ref b15)])) _
  refine st17 _ ?_
  show Steps p.tables e below (T17.setTop (mkF m 111 #[.val (.int p0), .val (.int p1), .val (.int p2), .val (.int yr), .val (.int mo), .val (.int (own_leap yr)), .val (.ref b2), .unset, .unset, .unset, .unset, .unset, .unset, .unset, .unset] [(.ref b15)])) _
  refine XS.dup X17.here hx rfl (hb hby at_111) rfl rfl ?_
  show Steps p.tables e below (T17.setTop (mkF m 112 #[.val (.int p0), .val (.int p1), .val (.int p2), .val (.int yr), .val (.int mo), .val (.int (own_leap yr)), .val (.ref b2), .unset, .unset, .unset, .unset, .unset, .unset, .unset, .unset] [(.ref b15), (.ref b15)])) _
  refine XS.iconst X17.here hx rfl (hb hby at_112) ?_
  show Steps p.tables e below (T17.setTop (mkF m 113 #[.val (.int p0), .val (.int p1), .val (.int p2), .val (.int yr), .val (.int mo), .val (.int (own_leap yr)), .val (.ref b2), .unset, .unset, .unset, .unset, .unset, .unset, .unset, .unset] [(.int (2 : Int32)), (.ref b15), (.ref b15)])) _
  refine XS.bipush X17.here hx rfl (hb hby at_113) ?_
  show Steps p.tables e below (T17.setTop (mkF m 115 #[.val (.int p0), .val (.int p1), .val (.int p2), .val (.int yr), .val (.int mo), .val (.int (own_leap yr)), .val (.ref b2), .unset, .unset, .unset, .unset, .unset, .unset, .unset, .unset] [(.int (59 : Int32)), (.int (2 : Int32)), (.ref b15), (.ref b15)])) _
  refine st18 _ ?_
  show Steps p.tables e below (T18.setTop (mkF m 116 #[.val (.int p0), .val (.int p1), .val (.int p2), .val (.int yr), .val (.int mo), .val (.int (own_leap yr)), .val (.ref b2), .unset, .unset, .unset, .unset, .unset, .unset, .unset, .unset] [(.ref b15)])) _
  refine XS.dup X18.here hx rfl (hb hby at_116) rfl rfl ?_
  show Steps p.tables e below (T18.setTop (mkF m 117 #[.val (.int p0), .val (.int p1), .val (.int p2), .val (.int yr), .val (.int mo), .val (.int (own_leap yr)), .val (.ref b2), .unset, .unset, .unset, .unset, .unset, .unset, .unset, .unset] [(.ref b15), (.ref b15)])) _
  refine XS.iconst X18.here hx rfl (hb hby at_117) ?_
  show Steps p.tables e below (T18.setTop (mkF m 118 #[.val (.int p0), .val (.int p1), .val (.int p2), .val (.int yr), .val (.int mo), .val (.int (own_leap yr)), .val (.ref b2), .unset, .unset, .unset, .unset, .unset, .unset, .unset, .unset] [(.int (3 : Int32)), (.ref b15), (.ref b15)])) _
  refine XS.bipush X18.here hx rfl (hb hby at_118) ?_
  show Steps p.tables e below (T18.setTop (mkF m 120 #[.val (.int p0), .val (.int p1), .val (.int p2), .val (.int yr), .val (.int mo), .val (.int (own_leap yr)), .val (.ref b2), .unset, .unset, .unset, .unset, .unset, .unset, .unset, .unset] [(.int (90 : Int32)), (.int (3 : Int32)), (.ref b15), (.ref b15)])) _
  refine st19 _ ?_
  show Steps p.tables e below (T19.setTop (mkF m 121 #[.val (.int p0), .val (.int p1), .val (.int p2), .val (.int yr), .val (.int mo), .val (.int (own_leap yr)), .val (.ref b2), .unset, .unset, .unset, .unset, .unset, .unset, .unset, .unset] [(.ref b15)])) _
  refine XS.dup X19.here hx rfl (hb hby at_121) rfl rfl ?_
  show Steps p.tables e below (T19.setTop (mkF m 122 #[.val (.int p0), .val (.int p1), .val (.int p2), .val (.int yr), .val (.int mo), .val (.int (own_leap yr)), .val (.ref b2), .unset, .unset, .unset, .unset, .unset, .unset, .unset, .unset] [(.ref b15), (.ref b15)])) _
  refine XS.iconst X19.here hx rfl (hb hby at_122) ?_
  show Steps p.tables e below (T19.setTop (mkF m 123 #[.val (.int p0), .val (.int p1), .val (.int p2), .val (.int yr), .val (.int mo), .val (.int (own_leap yr)), .val (.ref b2), .unset, .unset, .unset, .unset, .unset, .unset, .unset, .unset] [(.int (4 : Int32)), (.ref b15), (.ref b15)])) _
  refine XS.bipush X19.here hx rfl (hb hby at_123) ?_
  show Steps p.tables e below (T19.setTop (mkF m 125 #[.val (.int p0), .val (.int p1), .val (.int p2), .val (.int yr), .val (.int mo), .val (.int (own_leap yr)), .val (.ref b2), .unset, .unset, .unset, .unset, .unset, .unset, .unset, .unset] [(.int (120 : Int32)), (.int (4 : Int32)), (.ref b15), (.ref b15)])) _
  refine st20 _ ?_
  show Steps p.tables e below (T20.setTop (mkF m 126 #[.val (.int p0), .val (.int p1), .val (.int p2), .val (.int yr), .val (.int mo), .val (.int (own_leap yr)), .val (.ref b2), .unset, .unset, .unset, .unset, .unset, .unset, .unset, .unset] [(.ref b15)])) _
  refine XS.dup X20.here hx rfl (hb hby at_126) rfl rfl ?_
  show Steps p.tables e below (T20.setTop (mkF m 127 #[.val (.int p0), .val (.int p1), .val (.int p2), .val (.int yr), .val (.int mo), .val (.int (own_leap yr)), .val (.ref b2), .unset, .unset, .unset, .unset, .unset, .unset, .unset, .unset] [(.ref b15), (.ref b15)])) _
  refine XS.iconst X20.here hx rfl (hb hby at_127) ?_
  show Steps p.tables e below (T20.setTop (mkF m 128 #[.val (.int p0), .val (.int p1), .val (.int p2), .val (.int yr), .val (.int mo), .val (.int (own_leap yr)), .val (.ref b2), .unset, .unset, .unset, .unset, .unset, .unset, .unset, .unset] [(.int (5 : Int32)), (.ref b15), (.ref b15)])) _
  refine XS.sipush X20.here hx rfl (hb hby at_128) ?_
  show Steps p.tables e below (T20.setTop (mkF m 131 #[.val (.int p0), .val (.int p1), .val (.int p2), .val (.int yr), .val (.int mo), .val (.int (own_leap yr)), .val (.ref b2), .unset, .unset, .unset, .unset, .unset, .unset, .unset, .unset] [(.int (151 : Int32)), (.int (5 : Int32)), (.ref b15), (.ref b15)])) _
  refine st21 _ ?_
  show Steps p.tables e below (T21.setTop (mkF m 132 #[.val (.int p0), .val (.int p1), .val (.int p2), .val (.int yr), .val (.int mo), .val (.int (own_leap yr)), .val (.ref b2), .unset, .unset, .unset, .unset, .unset, .unset, .unset, .unset] [(.ref b15)])) _
  refine XS.dup X21.here hx rfl (hb hby at_132) rfl rfl ?_
  show Steps p.tables e below (T21.setTop (mkF m 133 #[.val (.int p0), .val (.int p1), .val (.int p2), .val (.int yr), .val (.int mo), .val (.int (own_leap yr)), .val (.ref b2), .unset, .unset, .unset, .unset, .unset, .unset, .unset, .unset] [(.ref b15), (.ref b15)])) _
  refine XS.bipush X21.here hx rfl (hb hby at_133) ?_
  show Steps p.tables e below (T21.setTop (mkF m 135 #[.val (.int p0), .val (.int p1), .val (.int p2), .val (.int yr), .val (.int mo), .val (.int (own_leap yr)), .val (.ref b2), .unset, .unset, .unset, .unset, .unset, .unset, .unset, .unset] [(.int (6 : Int32)), (.ref b15), (.ref b15)])) _
  refine XS.sipush X21.here hx rfl (hb hby at_135) ?_
  show Steps p.tables e below (T21.setTop (mkF m 138 #[.val (.int p0), .val (.int p1), .val (.int p2), .val (.int yr), .val (.int mo), .val (.int (own_leap yr)), .val (.ref b2), .unset, .unset, .unset, .unset, .unset, .unset, .unset, .unset] [(.int (181 : Int32)), (.int (6 : Int32)), (.ref b15), (.ref b15)])) _
  refine st22 _ ?_
  show Steps p.tables e below (T22.setTop (mkF m 139 #[.val (.int p0), .val (.int p1), .val (.int p2), .val (.int yr), .val (.int mo), .val (.int (own_leap yr)), .val (.ref b2), .unset, .unset, .unset, .unset, .unset, .unset, .unset, .unset] [(.ref b15)])) _
  refine XS.dup X22.here hx rfl (hb hby at_139) rfl rfl ?_
  show Steps p.tables e below (T22.setTop (mkF m 140 #[.val (.int p0), .val (.int p1), .val (.int p2), .val (.int yr), .val (.int mo), .val (.int (own_leap yr)), .val (.ref b2), .unset, .unset, .unset, .unset, .unset, .unset, .unset, .unset] [(.ref b15), (.ref b15)])) _
  refine XS.bipush X22.here hx rfl (hb hby at_140) ?_
  show Steps p.tables e below (T22.setTop (mkF m 142 #[.val (.int p0), .val (.int p1), .val (.int p2), .val (.int yr), .val (.int mo), .val (.int (own_leap yr)), .val (.ref b2), .unset, .unset, .unset, .unset, .unset, .unset, .unset, .unset] [(.int (7 : Int32)), (.ref b15), (.ref b15)])) _
  refine XS.sipush X22.here hx rfl (hb hby at_142) ?_
  show Steps p.tables e below (T22.setTop (mkF m 145 #[.val (.int p0), .val (.int p1), .val (.int p2), .val (.int yr), .val (.int mo), .val (.int (own_leap yr)), .val (.ref b2), .unset, .unset, .unset, .unset, .unset, .unset, .unset, .unset] [(.int (212 : Int32)), (.int (7 : Int32)), (.ref b15), (.ref b15)])) _
  refine st23 _ ?_
  show Steps p.tables e below (T23.setTop (mkF m 146 #[.val (.int p0), .val (.int p1), .val (.int p2), .val (.int yr), .val (.int mo), .val (.int (own_leap yr)), .val (.ref b2), .unset, .unset, .unset, .unset, .unset, .unset, .unset, .unset] [(.ref b15)])) _
  refine XS.dup X23.here hx rfl (hb hby at_146) rfl rfl ?_
  show Steps p.tables e below (T23.setTop (mkF m 147 #[.val (.int p0), .val (.int p1), .val (.int p2), .val (.int yr), .val (.int mo), .val (.int (own_leap yr)), .val (.ref b2), .unset, .unset, .unset, .unset, .unset, .unset, .unset, .unset] [(.ref b15), (.ref b15)])) _
  refine XS.bipush X23.here hx rfl (hb hby at_147) ?_
  show Steps p.tables e below (T23.setTop (mkF m 149 #[.val (.int p0), .val (.int p1), .val (.int p2), .val (.int yr), .val (.int mo), .val (.int (own_leap yr)), .val (.ref b2), .unset, .unset, .unset, .unset, .unset, .unset, .unset, .unset] [(.int (8 : Int32)), (.ref b15), (.ref b15)])) _
  refine XS.sipush X23.here hx rfl (hb hby at_149) ?_
  show Steps p.tables e below (T23.setTop (mkF m 152 #[.val (.int p0), .val (.int p1), .val (.int p2), .val (.int yr), .val (.int mo), .val (.int (own_leap yr)), .val (.ref b2), .unset, .unset, .unset, .unset, .unset, .unset, .unset, .unset] [(.int (243 : Int32)), (.int (8 : Int32)), (.ref b15), (.ref b15)])) _
  refine st24 _ ?_
  show Steps p.tables e below (T24.setTop (mkF m 153 #[.val (.int p0), .val (.int p1), .val (.int p2), .val (.int yr), .val (.int mo), .val (.int (own_leap yr)), .val (.ref b2), .unset, .unset, .unset, .unset, .unset, .unset, .unset, .unset] [(.ref b15)])) _
  refine XS.dup X24.here hx rfl (hb hby at_153) rfl rfl ?_
  show Steps p.tables e below (T24.setTop (mkF m 154 #[.val (.int p0), .val (.int p1), .val (.int p2), .val (.int yr), .val (.int mo), .val (.int (own_leap yr)), .val (.ref b2), .unset, .unset, .unset, .unset, .unset, .unset, .unset, .unset] [(.ref b15), (.ref b15)])) _
  refine XS.bipush X24.here hx rfl (hb hby at_154) ?_
  show Steps p.tables e below (T24.setTop (mkF m 156 #[.val (.int p0), .val (.int p1), .val (.int p2), .val (.int yr), .val (.int mo), .val (.int (own_leap yr)), .val (.ref b2), .unset, .unset, .unset, .unset, .unset, .unset, .unset, .unset] [(.int (9 : Int32)), (.ref b15), (.ref b15)])) _
  refine XS.sipush X24.here hx rfl (hb hby at_156) ?_
  show Steps p.tables e below (T24.setTop (mkF m 159 #[.val (.int p0), .val (.int p1), .val (.int p2), .val (.int yr), .val (.int mo), .val (.int (own_leap yr)), .val (.ref b2), .unset, .unset, .unset, .unset, .unset, .unset, .unset, .unset] [(.int (273 : Int32)), (.int (9 : Int32)), (.ref b15), (.ref b15)])) _
  refine st25 _ ?_
  show Steps p.tables e below (T25.setTop (mkF m 160 #[.val (.int p0), .val (.int p1), .val (.int p2), .val (.int yr), .val (.int mo), .val (.int (own_leap yr)), .val (.ref b2), .unset, .unset, .unset, .unset, .unset, .unset, .unset, .unset] [(.ref b15)])) _
  refine XS.dup X25.here hx rfl (hb hby at_160) rfl rfl ?_
  show Steps p.tables e below (T25.setTop (mkF m 161 #[.val (.int p0), .val (.int p1), .val (.int p2), .val (.int yr), .val (.int mo), .val (.int (own_leap yr)), .val (.ref b2), .unset, .unset, .unset, .unset, .unset, .unset, .unset, .unset] [(.ref b15), (.ref b15)])) _
  refine XS.bipush X25.here hx rfl (hb hby at_161) ?_
  show Steps p.tables e below (T25.setTop (mkF m 163 #[.val (.int p0), .val (.int p1), .val (.int p2), .val (.int yr), .val (.int mo), .val (.int (own_leap yr)), .val (.ref b2), .unset, .unset, .unset, .unset, .unset, .unset, .unset, .unset] [(.int (10 : Int32)), (.ref b15), (.ref b15)])) _
  refine XS.sipush X25.here hx rfl (hb hby at_163) ?_
  show Steps p.tables e below (T25.setTop (mkF m 166 #[.val (.int p0), .val (.int p1), .val (.int p2), .val (.int yr), .val (.int mo), .val (.int (own_leap yr)), .val (.ref b2), .unset, .unset, .unset, .unset, .unset, .unset, .unset, .unset] [(.int (304 : Int32)), (.int (10 : Int32)), (.ref b15), (.ref b15)])) _
  refine st26 _ ?_
  show Steps p.tables e below (T26.setTop (mkF m 167 #[.val (.int p0), .val (.int p1), .val (.int p2), .val (.int yr), .val (.int mo), .val (.int (own_leap yr)), .val (.ref b2), .unset, .unset, .unset, .unset, .unset, .unset, .unset, .unset] [(.ref b15)])) _
  refine XS.dup X26.here hx rfl (hb hby at_167) rfl rfl ?_
  show Steps p.tables e below (T26.setTop (mkF m 168 #[.val (.int p0), .val (.int p1), .val (.int p2), .val (.int yr), .val (.int mo), .val (.int (own_leap yr)), .val (.ref b2), .unset, .unset, .unset, .unset, .unset, .unset, .unset, .unset] [(.ref b15), (.ref b15)])) _
  refine XS.bipush X26.here hx rfl (hb hby at_168) ?_
  show Steps p.tables e below (T26.setTop (mkF m 170 #[.val (.int p0), .val (.int p1), .val (.int p2), .val (.int yr), .val (.int mo), .val (.int (own_leap yr)), .val (.ref b2), .unset, .unset, .unset, .unset, .unset, .unset, .unset, .unset] [(.int (11 : Int32)), (.ref b15), (.ref b15)])) _
  refine XS.sipush X26.here hx rfl (hb hby at_170) ?_
  show Steps p.tables e below (T26.setTop (mkF m 173 #[.val (.int p0), .val (.int p1), .val (.int p2), .val (.int yr), .val (.int mo), .val (.int (own_leap yr)), .val (.ref b2), .unset, .unset, .unset, .unset, .unset, .unset, .unset, .unset] [(.int (334 : Int32)), (.int (11 : Int32)), (.ref b15), (.ref b15)])) _
  refine st27 _ ?_
  show Steps p.tables e below (T27.setTop (mkF m 174 #[.val (.int p0), .val (.int p1), .val (.int p2), .val (.int yr), .val (.int mo), .val (.int (own_leap yr)), .val (.ref b2), .unset, .unset, .unset, .unset, .unset, .unset, .unset, .unset] [(.ref b15)])) _
  refine XS.astore X27.here hx rfl (hb hby at_174) rfl rfl (l' := #[.val (.int p0), .val (.int p1), .val (.int p2), .val (.int yr), .val (.int mo), .val (.int (own_leap yr)), .val (.ref b2), .val (.ref b15), .unset, .unset, .unset, .unset, .unset, .unset, .unset]) rfl ?_
  show Steps p.tables e below (T27.setTop (mkF m 176 #[.val (.int p0), .val (.int p1), .val (.int p2), .val (.int yr), .val (.int mo), .val (.int (own_leap yr)), .val (.ref b2), .val (.ref b15), .unset, .unset, .unset, .unset, .unset, .unset, .unset] [])) _
  refine XS.aload X27.here hx rfl (hb hby at_176) rfl rfl ?_
  show Steps p.tables e below (T27.setTop (mkF m 178 #[.val (.int p0), .val (.int p1), .val (.int p2), .val (.int yr), .val (.int mo), .val (.int (own_leap yr)), .val (.ref b2), .val (.ref b15), .unset, .unset, .unset, .unset, .unset, .unset, .unset] [(.ref b2)])) _
  refine XS.iload X27.here hx rfl (hb hby at_178) rfl ?_
  show Steps p.tables e below (T27.setTop (mkF m 180 #[.val (.int p0), .val (.int p1), .val (.int p2), .val (.int yr), .val (.int mo), .val (.int (own_leap yr)), .val (.ref b2), .val (.ref b15), .unset, .unset, .unset, .unset, .unset, .unset, .unset] [(.int mo), (.ref b2)])) _
  refine XS.iconst X27.here hx rfl (hb hby at_180) ?_
  show Steps p.tables e below (T27.setTop (mkF m 181 #[.val (.int p0), .val (.int p1), .val (.int p2), .val (.int yr), .val (.int mo), .val (.int (own_leap yr)), .val (.ref b2), .val (.ref b15), .unset, .unset, .unset, .unset, .unset, .unset, .unset] [(.int (1 : Int32)), (.int mo), (.ref b2)])) _
  refine XS.isub X27.here hx rfl (hb hby at_181) rfl ?_
  show Steps p.tables e below (T27.setTop (mkF m 182 #[.val (.int p0), .val (.int p1), .val (.int p2), .val (.int yr), .val (.int mo), .val (.int (own_leap yr)), .val (.ref b2), .val (.ref b15), .unset, .unset, .unset, .unset, .unset, .unset, .unset] [(.int (mo - (1 : Int32))), (.ref b2)])) _
  refine own_ldI X27 hx hZ e27 V_b2 (j := (mo - (1 : Int32))) (own_mo_in h_mo) rfl rfl (hb hby at_182) ?_
  rw [h_zz]
  show Steps p.tables e below (T27.setTop (mkF m 183 #[.val (.int p0), .val (.int p1), .val (.int p2), .val (.int yr), .val (.int mo), .val (.int (own_leap yr)), .val (.ref b2), .val (.ref b15), .unset, .unset, .unset, .unset, .unset, .unset, .unset] [(.int zz)])) _
  refine sg_G p0 p1 p2 yr mo (own_leap yr) b2 b15 zz X27 hx hZ hw hby hown e27  ?_
  show Steps p.tables e below (T27.setTop (mkF m 199 #[.val (.int p0), .val (.int p1), .val (.int p2), .val (.int yr), .val (.int mo), .val (.int (own_leap yr)), .val (.ref b2), .val (.ref b15), .unset, .unset, .unset, .unset, .unset, .unset, .unset] [(.int (own_G_s0 mo (own_leap yr))), (.int zz)])) _
  refine XS.iadd X27.here hx rfl (hb hby at_199) rfl ?_
  show Steps p.tables e below (T27.setTop (mkF m 200 #[.val (.int p0), .val (.int p1), .val (.int p2), .val (.int yr), .val (.int mo), .val (.int (own_leap yr)), .val (.ref b2), .val (.ref b15), .unset, .unset, .unset, .unset, .unset, .unset, .unset] [(.int (zz + (own_G_s0 mo (own_leap yr))))])) _
  refine XS.istore X27.here hx rfl (hb hby at_200) rfl (l' := #[.val (.int p0), .val (.int p1), .val (.int p2), .val (.int yr), .val (.int mo), .val (.int (own_leap yr)), .val (.ref b2), .val (.ref b15), .val (.int (zz + (own_G_s0 mo (own_leap yr)))), .unset, .unset, .unset, .unset, .unset, .unset]) rfl ?_
  rw [h_ml]
  show Steps p.tables e below (T27.setTop (mkF m 202 #[.val (.int p0), .val (.int p1), .val (.int p2), .val (.int yr), .val (.int mo), .val (.int (own_leap yr)), .val (.ref b2), .val (.ref b15), .val (.int ml), .unset, .unset, .unset, .unset, .unset, .unset] [])) _
  refine XS.iloadN X27.here hx rfl (hb hby at_202) rfl ?_
  show Steps p.tables e below (T27.setTop (mkF m 203 #[.val (.int p0), .val (.int p1), .val (.int p2), .val (.int yr), .val (.int mo), .val (.int (own_leap yr)), .val (.ref b2), .val (.ref b15), .val (.int ml), .unset, .unset, .unset, .unset, .unset, .unset] [(.int p2)])) _
  refine X27.ldcI hx hown (mvT hZ (hw _ (List.mem_of_getElem? (i := 0) rfl))) rfl (hb hby at_203) ?_
  show Steps p.tables e below (T27.setTop (mkF m 205 #[.val (.int p0), .val (.int p1), .val (.int p2), .val (.int yr), .val (.int mo), .val (.int (own_leap yr)), .val (.ref b2), .val (.ref b15), .val (.int ml), .unset, .unset, .unset, .unset, .unset, .unset] [(.int (2147483647 : Int32)), (.int p2)])) _
  refine XS.iand X27.here hx rfl (hb hby at_205) rfl ?_
  show Steps p.tables e below (T27.setTop (mkF m 206 #[.val (.int p0), .val (.int p1), .val (.int p2), .val (.int yr), .val (.int mo), .val (.int (own_leap yr)), .val (.ref b2), .val (.ref b15), .val (.int ml), .unset, .unset, .unset, .unset, .unset, .unset] [(.int (p2 &&& (2147483647 : Int32)))])) _
  refine XS.iload X27.here hx rfl (hb hby at_206) rfl ?_
  show Steps p.tables e below (T27.setTop (mkF m 208 #[.val (.int p0), .val (.int p1), .val (.int p2), .val (.int yr), .val (.int mo), .val (.int (own_leap yr)), .val (.ref b2), .val (.ref b15), .val (.int ml), .unset, .unset, .unset, .unset, .unset, .unset] [(.int ml), (.int (p2 &&& (2147483647 : Int32)))])) _
  refine iremM X27 hx rfl (hb hby at_208) rfl nzm ?_
  show Steps p.tables e below (T27.setTop (mkF m 209 #[.val (.int p0), .val (.int p1), .val (.int p2), .val (.int yr), .val (.int mo), .val (.int (own_leap yr)), .val (.ref b2), .val (.ref b15), .val (.int ml), .unset, .unset, .unset, .unset, .unset, .unset] [(.int ((p2 &&& (2147483647 : Int32)) % ml))])) _
  refine XS.iconst X27.here hx rfl (hb hby at_209) ?_
  show Steps p.tables e below (T27.setTop (mkF m 210 #[.val (.int p0), .val (.int p1), .val (.int p2), .val (.int yr), .val (.int mo), .val (.int (own_leap yr)), .val (.ref b2), .val (.ref b15), .val (.int ml), .unset, .unset, .unset, .unset, .unset, .unset] [(.int (1 : Int32)), (.int ((p2 &&& (2147483647 : Int32)) % ml))])) _
  refine XS.iadd X27.here hx rfl (hb hby at_210) rfl ?_
  show Steps p.tables e below (T27.setTop (mkF m 211 #[.val (.int p0), .val (.int p1), .val (.int p2), .val (.int yr), .val (.int mo), .val (.int (own_leap yr)), .val (.ref b2), .val (.ref b15), .val (.int ml), .unset, .unset, .unset, .unset, .unset, .unset] [(.int (((p2 &&& (2147483647 : Int32)) % ml) + (1 : Int32)))])) _
  refine XS.istore X27.here hx rfl (hb hby at_211) rfl (l' := #[.val (.int p0), .val (.int p1), .val (.int p2), .val (.int yr), .val (.int mo), .val (.int (own_leap yr)), .val (.ref b2), .val (.ref b15), .val (.int ml), .val (.int (((p2 &&& (2147483647 : Int32)) % ml) + (1 : Int32))), .unset, .unset, .unset, .unset, .unset]) rfl ?_
  rw [h_dd]
  show Steps p.tables e below (T27.setTop (mkF m 213 #[.val (.int p0), .val (.int p1), .val (.int p2), .val (.int yr), .val (.int mo), .val (.int (own_leap yr)), .val (.ref b2), .val (.ref b15), .val (.int ml), .val (.int dd), .unset, .unset, .unset, .unset, .unset] [])) _
  refine XS.iloadN X27.here hx rfl (hb hby at_213) rfl ?_
  show Steps p.tables e below (T27.setTop (mkF m 214 #[.val (.int p0), .val (.int p1), .val (.int p2), .val (.int yr), .val (.int mo), .val (.int (own_leap yr)), .val (.ref b2), .val (.ref b15), .val (.int ml), .val (.int dd), .unset, .unset, .unset, .unset, .unset] [(.int yr)])) _
  refine XS.sipush X27.here hx rfl (hb hby at_214) ?_
  show Steps p.tables e below (T27.setTop (mkF m 217 #[.val (.int p0), .val (.int p1), .val (.int p2), .val (.int yr), .val (.int mo), .val (.int (own_leap yr)), .val (.ref b2), .val (.ref b15), .val (.int ml), .val (.int dd), .unset, .unset, .unset, .unset, .unset] [(.int (10000 : Int32)), (.int yr)])) _
  refine XS.imul X27.here hx rfl (hb hby at_217) rfl ?_
  show Steps p.tables e below (T27.setTop (mkF m 218 #[.val (.int p0), .val (.int p1), .val (.int p2), .val (.int yr), .val (.int mo), .val (.int (own_leap yr)), .val (.ref b2), .val (.ref b15), .val (.int ml), .val (.int dd), .unset, .unset, .unset, .unset, .unset] [(.int (yr * (10000 : Int32)))])) _
  refine XS.iload X27.here hx rfl (hb hby at_218) rfl ?_
  show Steps p.tables e below (T27.setTop (mkF m 220 #[.val (.int p0), .val (.int p1), .val (.int p2), .val (.int yr), .val (.int mo), .val (.int (own_leap yr)), .val (.ref b2), .val (.ref b15), .val (.int ml), .val (.int dd), .unset, .unset, .unset, .unset, .unset] [(.int mo), (.int (yr * (10000 : Int32)))])) _
  refine XS.bipush X27.here hx rfl (hb hby at_220) ?_
  show Steps p.tables e below (T27.setTop (mkF m 222 #[.val (.int p0), .val (.int p1), .val (.int p2), .val (.int yr), .val (.int mo), .val (.int (own_leap yr)), .val (.ref b2), .val (.ref b15), .val (.int ml), .val (.int dd), .unset, .unset, .unset, .unset, .unset] [(.int (100 : Int32)), (.int mo), (.int (yr * (10000 : Int32)))])) _
  refine XS.imul X27.here hx rfl (hb hby at_222) rfl ?_
  show Steps p.tables e below (T27.setTop (mkF m 223 #[.val (.int p0), .val (.int p1), .val (.int p2), .val (.int yr), .val (.int mo), .val (.int (own_leap yr)), .val (.ref b2), .val (.ref b15), .val (.int ml), .val (.int dd), .unset, .unset, .unset, .unset, .unset] [(.int (mo * (100 : Int32))), (.int (yr * (10000 : Int32)))])) _
  refine XS.iadd X27.here hx rfl (hb hby at_223) rfl ?_
  show Steps p.tables e below (T27.setTop (mkF m 224 #[.val (.int p0), .val (.int p1), .val (.int p2), .val (.int yr), .val (.int mo), .val (.int (own_leap yr)), .val (.ref b2), .val (.ref b15), .val (.int ml), .val (.int dd), .unset, .unset, .unset, .unset, .unset] [(.int ((yr * (10000 : Int32)) + (mo * (100 : Int32))))])) _
  refine XS.iload X27.here hx rfl (hb hby at_224) rfl ?_
  show Steps p.tables e below (T27.setTop (mkF m 226 #[.val (.int p0), .val (.int p1), .val (.int p2), .val (.int yr), .val (.int mo), .val (.int (own_leap yr)), .val (.ref b2), .val (.ref b15), .val (.int ml), .val (.int dd), .unset, .unset, .unset, .unset, .unset] [(.int dd), (.int ((yr * (10000 : Int32)) + (mo * (100 : Int32))))])) _
  refine XS.iadd X27.here hx rfl (hb hby at_226) rfl ?_
  show Steps p.tables e below (T27.setTop (mkF m 227 #[.val (.int p0), .val (.int p1), .val (.int p2), .val (.int yr), .val (.int mo), .val (.int (own_leap yr)), .val (.ref b2), .val (.ref b15), .val (.int ml), .val (.int dd), .unset, .unset, .unset, .unset, .unset] [(.int (((yr * (10000 : Int32)) + (mo * (100 : Int32))) + dd))])) _
  refine XS.istore X27.here hx rfl (hb hby at_227) rfl (l' := #[.val (.int p0), .val (.int p1), .val (.int p2), .val (.int yr), .val (.int mo), .val (.int (own_leap yr)), .val (.ref b2), .val (.ref b15), .val (.int ml), .val (.int dd), .val (.int (((yr * (10000 : Int32)) + (mo * (100 : Int32))) + dd)), .unset, .unset, .unset, .unset]) rfl ?_
  rw [h_dt]
  show Steps p.tables e below (T27.setTop (mkF m 229 #[.val (.int p0), .val (.int p1), .val (.int p2), .val (.int yr), .val (.int mo), .val (.int (own_leap yr)), .val (.ref b2), .val (.ref b15), .val (.int ml), .val (.int dd), .val (.int dt), .unset, .unset, .unset, .unset] [])) _
  refine XS.iloadN X27.here hx rfl (hb hby at_229) rfl ?_
  show Steps p.tables e below (T27.setTop (mkF m 230 #[.val (.int p0), .val (.int p1), .val (.int p2), .val (.int yr), .val (.int mo), .val (.int (own_leap yr)), .val (.ref b2), .val (.ref b15), .val (.int ml), .val (.int dd), .val (.int dt), .unset, .unset, .unset, .unset] [(.int yr)])) _
  refine XS.i2l X27.here hx rfl (hb hby at_230) rfl ?_
  show Steps p.tables e below (T27.setTop (mkF m 231 #[.val (.int p0), .val (.int p1), .val (.int p2), .val (.int yr), .val (.int mo), .val (.int (own_leap yr)), .val (.ref b2), .val (.ref b15), .val (.int ml), .val (.int dd), .val (.int dt), .unset, .unset, .unset, .unset] [(.long (yr.toInt64))])) _
  refine X27.ldc2J hx hown (mvT hZ (hw _ (List.mem_of_getElem? (i := 6) rfl))) rfl (hb hby at_231) ?_
  show Steps p.tables e below (T27.setTop (mkF m 234 #[.val (.int p0), .val (.int p1), .val (.int p2), .val (.int yr), .val (.int mo), .val (.int (own_leap yr)), .val (.ref b2), .val (.ref b15), .val (.int ml), .val (.int dd), .val (.int dt), .unset, .unset, .unset, .unset] [(.long (3 : Int64)), (.long (yr.toInt64))])) _
  refine XS.ladd X27.here hx rfl (hb hby at_234) rfl ?_
  show Steps p.tables e below (T27.setTop (mkF m 235 #[.val (.int p0), .val (.int p1), .val (.int p2), .val (.int yr), .val (.int mo), .val (.int (own_leap yr)), .val (.ref b2), .val (.ref b15), .val (.int ml), .val (.int dd), .val (.int dt), .unset, .unset, .unset, .unset] [(.long ((yr.toInt64) + (3 : Int64)))])) _
  refine X27.ldc2J hx hown (mvT hZ (hw _ (List.mem_of_getElem? (i := 7) rfl))) rfl (hb hby at_235) ?_
  show Steps p.tables e below (T27.setTop (mkF m 238 #[.val (.int p0), .val (.int p1), .val (.int p2), .val (.int yr), .val (.int mo), .val (.int (own_leap yr)), .val (.ref b2), .val (.ref b15), .val (.int ml), .val (.int dd), .val (.int dt), .unset, .unset, .unset, .unset] [(.long (4 : Int64)), (.long ((yr.toInt64) + (3 : Int64)))])) _
  refine XS.ldiv X27.here hx rfl (hb hby at_238) rfl (by decide) ?_
  show Steps p.tables e below (T27.setTop (mkF m 239 #[.val (.int p0), .val (.int p1), .val (.int p2), .val (.int yr), .val (.int mo), .val (.int (own_leap yr)), .val (.ref b2), .val (.ref b15), .val (.int ml), .val (.int dd), .val (.int dt), .unset, .unset, .unset, .unset] [(.long (((yr.toInt64) + (3 : Int64)) / (4 : Int64)))])) _
  refine XS.iloadN X27.here hx rfl (hb hby at_239) rfl ?_
  show Steps p.tables e below (T27.setTop (mkF m 240 #[.val (.int p0), .val (.int p1), .val (.int p2), .val (.int yr), .val (.int mo), .val (.int (own_leap yr)), .val (.ref b2), .val (.ref b15), .val (.int ml), .val (.int dd), .val (.int dt), .unset, .unset, .unset, .unset] [(.int yr), (.long (((yr.toInt64) + (3 : Int64)) / (4 : Int64)))])) _
  refine XS.i2l X27.here hx rfl (hb hby at_240) rfl ?_
  show Steps p.tables e below (T27.setTop (mkF m 241 #[.val (.int p0), .val (.int p1), .val (.int p2), .val (.int yr), .val (.int mo), .val (.int (own_leap yr)), .val (.ref b2), .val (.ref b15), .val (.int ml), .val (.int dd), .val (.int dt), .unset, .unset, .unset, .unset] [(.long (yr.toInt64)), (.long (((yr.toInt64) + (3 : Int64)) / (4 : Int64)))])) _
  refine X27.ldc2J hx hown (mvT hZ (hw _ (List.mem_of_getElem? (i := 8) rfl))) rfl (hb hby at_241) ?_
  show Steps p.tables e below (T27.setTop (mkF m 244 #[.val (.int p0), .val (.int p1), .val (.int p2), .val (.int yr), .val (.int mo), .val (.int (own_leap yr)), .val (.ref b2), .val (.ref b15), .val (.int ml), .val (.int dd), .val (.int dt), .unset, .unset, .unset, .unset] [(.long (99 : Int64)), (.long (yr.toInt64)), (.long (((yr.toInt64) + (3 : Int64)) / (4 : Int64)))])) _
  refine XS.ladd X27.here hx rfl (hb hby at_244) rfl ?_
  show Steps p.tables e below (T27.setTop (mkF m 245 #[.val (.int p0), .val (.int p1), .val (.int p2), .val (.int yr), .val (.int mo), .val (.int (own_leap yr)), .val (.ref b2), .val (.ref b15), .val (.int ml), .val (.int dd), .val (.int dt), .unset, .unset, .unset, .unset] [(.long ((yr.toInt64) + (99 : Int64))), (.long (((yr.toInt64) + (3 : Int64)) / (4 : Int64)))])) _
  refine X27.ldc2J hx hown (mvT hZ (hw _ (List.mem_of_getElem? (i := 9) rfl))) rfl (hb hby at_245) ?_
  show Steps p.tables e below (T27.setTop (mkF m 248 #[.val (.int p0), .val (.int p1), .val (.int p2), .val (.int yr), .val (.int mo), .val (.int (own_leap yr)), .val (.ref b2), .val (.ref b15), .val (.int ml), .val (.int dd), .val (.int dt), .unset, .unset, .unset, .unset] [(.long (100 : Int64)), (.long ((yr.toInt64) + (99 : Int64))), (.long (((yr.toInt64) + (3 : Int64)) / (4 : Int64)))])) _
  refine XS.ldiv X27.here hx rfl (hb hby at_248) rfl (by decide) ?_
  show Steps p.tables e below (T27.setTop (mkF m 249 #[.val (.int p0), .val (.int p1), .val (.int p2), .val (.int yr), .val (.int mo), .val (.int (own_leap yr)), .val (.ref b2), .val (.ref b15), .val (.int ml), .val (.int dd), .val (.int dt), .unset, .unset, .unset, .unset] [(.long (((yr.toInt64) + (99 : Int64)) / (100 : Int64))), (.long (((yr.toInt64) + (3 : Int64)) / (4 : Int64)))])) _
  refine XS.lsub X27.here hx rfl (hb hby at_249) rfl ?_
  show Steps p.tables e below (T27.setTop (mkF m 250 #[.val (.int p0), .val (.int p1), .val (.int p2), .val (.int yr), .val (.int mo), .val (.int (own_leap yr)), .val (.ref b2), .val (.ref b15), .val (.int ml), .val (.int dd), .val (.int dt), .unset, .unset, .unset, .unset] [(.long ((((yr.toInt64) + (3 : Int64)) / (4 : Int64)) - (((yr.toInt64) + (99 : Int64)) / (100 : Int64))))])) _
  refine XS.iloadN X27.here hx rfl (hb hby at_250) rfl ?_
  show Steps p.tables e below (T27.setTop (mkF m 251 #[.val (.int p0), .val (.int p1), .val (.int p2), .val (.int yr), .val (.int mo), .val (.int (own_leap yr)), .val (.ref b2), .val (.ref b15), .val (.int ml), .val (.int dd), .val (.int dt), .unset, .unset, .unset, .unset] [(.int yr), (.long ((((yr.toInt64) + (3 : Int64)) / (4 : Int64)) - (((yr.toInt64) + (99 : Int64)) / (100 : Int64))))])) _
  refine XS.i2l X27.here hx rfl (hb hby at_251) rfl ?_
  show Steps p.tables e below (T27.setTop (mkF m 252 #[.val (.int p0), .val (.int p1), .val (.int p2), .val (.int yr), .val (.int mo), .val (.int (own_leap yr)), .val (.ref b2), .val (.ref b15), .val (.int ml), .val (.int dd), .val (.int dt), .unset, .unset, .unset, .unset] [(.long (yr.toInt64)), (.long ((((yr.toInt64) + (3 : Int64)) / (4 : Int64)) - (((yr.toInt64) + (99 : Int64)) / (100 : Int64))))])) _
  refine X27.ldc2J hx hown (mvT hZ (hw _ (List.mem_of_getElem? (i := 10) rfl))) rfl (hb hby at_252) ?_
  show Steps p.tables e below (T27.setTop (mkF m 255 #[.val (.int p0), .val (.int p1), .val (.int p2), .val (.int yr), .val (.int mo), .val (.int (own_leap yr)), .val (.ref b2), .val (.ref b15), .val (.int ml), .val (.int dd), .val (.int dt), .unset, .unset, .unset, .unset] [(.long (399 : Int64)), (.long (yr.toInt64)), (.long ((((yr.toInt64) + (3 : Int64)) / (4 : Int64)) - (((yr.toInt64) + (99 : Int64)) / (100 : Int64))))])) _
  refine XS.ladd X27.here hx rfl (hb hby at_255) rfl ?_
  show Steps p.tables e below (T27.setTop (mkF m 256 #[.val (.int p0), .val (.int p1), .val (.int p2), .val (.int yr), .val (.int mo), .val (.int (own_leap yr)), .val (.ref b2), .val (.ref b15), .val (.int ml), .val (.int dd), .val (.int dt), .unset, .unset, .unset, .unset] [(.long ((yr.toInt64) + (399 : Int64))), (.long ((((yr.toInt64) + (3 : Int64)) / (4 : Int64)) - (((yr.toInt64) + (99 : Int64)) / (100 : Int64))))])) _
  refine X27.ldc2J hx hown (mvT hZ (hw _ (List.mem_of_getElem? (i := 11) rfl))) rfl (hb hby at_256) ?_
  show Steps p.tables e below (T27.setTop (mkF m 259 #[.val (.int p0), .val (.int p1), .val (.int p2), .val (.int yr), .val (.int mo), .val (.int (own_leap yr)), .val (.ref b2), .val (.ref b15), .val (.int ml), .val (.int dd), .val (.int dt), .unset, .unset, .unset, .unset] [(.long (400 : Int64)), (.long ((yr.toInt64) + (399 : Int64))), (.long ((((yr.toInt64) + (3 : Int64)) / (4 : Int64)) - (((yr.toInt64) + (99 : Int64)) / (100 : Int64))))])) _
  refine XS.ldiv X27.here hx rfl (hb hby at_259) rfl (by decide) ?_
  show Steps p.tables e below (T27.setTop (mkF m 260 #[.val (.int p0), .val (.int p1), .val (.int p2), .val (.int yr), .val (.int mo), .val (.int (own_leap yr)), .val (.ref b2), .val (.ref b15), .val (.int ml), .val (.int dd), .val (.int dt), .unset, .unset, .unset, .unset] [(.long (((yr.toInt64) + (399 : Int64)) / (400 : Int64))), (.long ((((yr.toInt64) + (3 : Int64)) / (4 : Int64)) - (((yr.toInt64) + (99 : Int64)) / (100 : Int64))))])) _
  refine XS.ladd X27.here hx rfl (hb hby at_260) rfl ?_
  show Steps p.tables e below (T27.setTop (mkF m 261 #[.val (.int p0), .val (.int p1), .val (.int p2), .val (.int yr), .val (.int mo), .val (.int (own_leap yr)), .val (.ref b2), .val (.ref b15), .val (.int ml), .val (.int dd), .val (.int dt), .unset, .unset, .unset, .unset] [(.long (((((yr.toInt64) + (3 : Int64)) / (4 : Int64)) - (((yr.toInt64) + (99 : Int64)) / (100 : Int64))) + (((yr.toInt64) + (399 : Int64)) / (400 : Int64))))])) _
  refine XS.lstore X27.here hx rfl (hb hby at_261) rfl (l' := #[.val (.int p0), .val (.int p1), .val (.int p2), .val (.int yr), .val (.int mo), .val (.int (own_leap yr)), .val (.ref b2), .val (.ref b15), .val (.int ml), .val (.int dd), .val (.int dt), .val (.long (((((yr.toInt64) + (3 : Int64)) / (4 : Int64)) - (((yr.toInt64) + (99 : Int64)) / (100 : Int64))) + (((yr.toInt64) + (399 : Int64)) / (400 : Int64)))), .second, .unset, .unset]) rfl ?_
  rw [h_lb]
  show Steps p.tables e below (T27.setTop (mkF m 263 #[.val (.int p0), .val (.int p1), .val (.int p2), .val (.int yr), .val (.int mo), .val (.int (own_leap yr)), .val (.ref b2), .val (.ref b15), .val (.int ml), .val (.int dd), .val (.int dt), .val (.long lb), .second, .unset, .unset] [])) _
  refine X27.ldc2J hx hown (mvT hZ (hw _ (List.mem_of_getElem? (i := 12) rfl))) rfl (hb hby at_263) ?_
  show Steps p.tables e below (T27.setTop (mkF m 266 #[.val (.int p0), .val (.int p1), .val (.int p2), .val (.int yr), .val (.int mo), .val (.int (own_leap yr)), .val (.ref b2), .val (.ref b15), .val (.int ml), .val (.int dd), .val (.int dt), .val (.long lb), .second, .unset, .unset] [(.long (365 : Int64))])) _
  refine XS.iloadN X27.here hx rfl (hb hby at_266) rfl ?_
  show Steps p.tables e below (T27.setTop (mkF m 267 #[.val (.int p0), .val (.int p1), .val (.int p2), .val (.int yr), .val (.int mo), .val (.int (own_leap yr)), .val (.ref b2), .val (.ref b15), .val (.int ml), .val (.int dd), .val (.int dt), .val (.long lb), .second, .unset, .unset] [(.int yr), (.long (365 : Int64))])) _
  refine XS.i2l X27.here hx rfl (hb hby at_267) rfl ?_
  show Steps p.tables e below (T27.setTop (mkF m 268 #[.val (.int p0), .val (.int p1), .val (.int p2), .val (.int yr), .val (.int mo), .val (.int (own_leap yr)), .val (.ref b2), .val (.ref b15), .val (.int ml), .val (.int dd), .val (.int dt), .val (.long lb), .second, .unset, .unset] [(.long (yr.toInt64)), (.long (365 : Int64))])) _
  refine XS.lmul X27.here hx rfl (hb hby at_268) rfl ?_
  show Steps p.tables e below (T27.setTop (mkF m 269 #[.val (.int p0), .val (.int p1), .val (.int p2), .val (.int yr), .val (.int mo), .val (.int (own_leap yr)), .val (.ref b2), .val (.ref b15), .val (.int ml), .val (.int dd), .val (.int dt), .val (.long lb), .second, .unset, .unset] [(.long ((365 : Int64) * (yr.toInt64)))])) _
  refine XS.lload X27.here hx rfl (hb hby at_269) rfl ?_
  show Steps p.tables e below (T27.setTop (mkF m 271 #[.val (.int p0), .val (.int p1), .val (.int p2), .val (.int yr), .val (.int mo), .val (.int (own_leap yr)), .val (.ref b2), .val (.ref b15), .val (.int ml), .val (.int dd), .val (.int dt), .val (.long lb), .second, .unset, .unset] [(.long lb), (.long ((365 : Int64) * (yr.toInt64)))])) _
  refine XS.ladd X27.here hx rfl (hb hby at_271) rfl ?_
  show Steps p.tables e below (T27.setTop (mkF m 272 #[.val (.int p0), .val (.int p1), .val (.int p2), .val (.int yr), .val (.int mo), .val (.int (own_leap yr)), .val (.ref b2), .val (.ref b15), .val (.int ml), .val (.int dd), .val (.int dt), .val (.long lb), .second, .unset, .unset] [(.long (((365 : Int64) * (yr.toInt64)) + lb))])) _
  refine XS.aload X27.here hx rfl (hb hby at_272) rfl rfl ?_
  show Steps p.tables e below (T27.setTop (mkF m 274 #[.val (.int p0), .val (.int p1), .val (.int p2), .val (.int yr), .val (.int mo), .val (.int (own_leap yr)), .val (.ref b2), .val (.ref b15), .val (.int ml), .val (.int dd), .val (.int dt), .val (.long lb), .second, .unset, .unset] [(.ref b15), (.long (((365 : Int64) * (yr.toInt64)) + lb))])) _
  refine XS.iload X27.here hx rfl (hb hby at_274) rfl ?_
  show Steps p.tables e below (T27.setTop (mkF m 276 #[.val (.int p0), .val (.int p1), .val (.int p2), .val (.int yr), .val (.int mo), .val (.int (own_leap yr)), .val (.ref b2), .val (.ref b15), .val (.int ml), .val (.int dd), .val (.int dt), .val (.long lb), .second, .unset, .unset] [(.int mo), (.ref b15), (.long (((365 : Int64) * (yr.toInt64)) + lb))])) _
  refine XS.iconst X27.here hx rfl (hb hby at_276) ?_
  show Steps p.tables e below (T27.setTop (mkF m 277 #[.val (.int p0), .val (.int p1), .val (.int p2), .val (.int yr), .val (.int mo), .val (.int (own_leap yr)), .val (.ref b2), .val (.ref b15), .val (.int ml), .val (.int dd), .val (.int dt), .val (.long lb), .second, .unset, .unset] [(.int (1 : Int32)), (.int mo), (.ref b15), (.long (((365 : Int64) * (yr.toInt64)) + lb))])) _
  refine XS.isub X27.here hx rfl (hb hby at_277) rfl ?_
  show Steps p.tables e below (T27.setTop (mkF m 278 #[.val (.int p0), .val (.int p1), .val (.int p2), .val (.int yr), .val (.int mo), .val (.int (own_leap yr)), .val (.ref b2), .val (.ref b15), .val (.int ml), .val (.int dd), .val (.int dt), .val (.long lb), .second, .unset, .unset] [(.int (mo - (1 : Int32))), (.ref b15), (.long (((365 : Int64) * (yr.toInt64)) + lb))])) _
  refine own_ldI X27 hx hZ e27 V_b15 (j := (mo - (1 : Int32))) (own_mo_in h_mo) rfl rfl (hb hby at_278) ?_
  show Steps p.tables e below (T27.setTop (mkF m 279 #[.val (.int p0), .val (.int p1), .val (.int p2), .val (.int yr), .val (.int mo), .val (.int (own_leap yr)), .val (.ref b2), .val (.ref b15), .val (.int ml), .val (.int dd), .val (.int dt), .val (.long lb), .second, .unset, .unset] [(.int (own_bef ((mo - (1 : Int32))).toNatClampNeg)), (.long (((365 : Int64) * (yr.toInt64)) + lb))])) _
  refine XS.i2l X27.here hx rfl (hb hby at_279) rfl ?_
  show Steps p.tables e below (T27.setTop (mkF m 280 #[.val (.int p0), .val (.int p1), .val (.int p2), .val (.int yr), .val (.int mo), .val (.int (own_leap yr)), .val (.ref b2), .val (.ref b15), .val (.int ml), .val (.int dd), .val (.int dt), .val (.long lb), .second, .unset, .unset] [(.long ((own_bef ((mo - (1 : Int32))).toNatClampNeg).toInt64)), (.long (((365 : Int64) * (yr.toInt64)) + lb))])) _
  refine XS.ladd X27.here hx rfl (hb hby at_280) rfl ?_
  rw [h_wz]
  show Steps p.tables e below (T27.setTop (mkF m 281 #[.val (.int p0), .val (.int p1), .val (.int p2), .val (.int yr), .val (.int mo), .val (.int (own_leap yr)), .val (.ref b2), .val (.ref b15), .val (.int ml), .val (.int dd), .val (.int dt), .val (.long lb), .second, .unset, .unset] [(.long wz)])) _
  refine sg_H p0 p1 p2 yr mo (own_leap yr) b2 b15 ml dd dt lb wz X27 hx hZ hw hby hown e27  ?_
  show Steps p.tables e below (T27.setTop (mkF m 297 #[.val (.int p0), .val (.int p1), .val (.int p2), .val (.int yr), .val (.int mo), .val (.int (own_leap yr)), .val (.ref b2), .val (.ref b15), .val (.int ml), .val (.int dd), .val (.int dt), .val (.long lb), .second, .unset, .unset] [(.int (own_H_s0 mo (own_leap yr))), (.long wz)])) _
  refine XS.i2l X27.here hx rfl (hb hby at_297) rfl ?_
  show Steps p.tables e below (T27.setTop (mkF m 298 #[.val (.int p0), .val (.int p1), .val (.int p2), .val (.int yr), .val (.int mo), .val (.int (own_leap yr)), .val (.ref b2), .val (.ref b15), .val (.int ml), .val (.int dd), .val (.int dt), .val (.long lb), .second, .unset, .unset] [(.long ((own_H_s0 mo (own_leap yr)).toInt64)), (.long wz)])) _
  refine XS.ladd X27.here hx rfl (hb hby at_298) rfl ?_
  show Steps p.tables e below (T27.setTop (mkF m 299 #[.val (.int p0), .val (.int p1), .val (.int p2), .val (.int yr), .val (.int mo), .val (.int (own_leap yr)), .val (.ref b2), .val (.ref b15), .val (.int ml), .val (.int dd), .val (.int dt), .val (.long lb), .second, .unset, .unset] [(.long (wz + ((own_H_s0 mo (own_leap yr)).toInt64)))])) _
  refine XS.iload X27.here hx rfl (hb hby at_299) rfl ?_
  show Steps p.tables e below (T27.setTop (mkF m 301 #[.val (.int p0), .val (.int p1), .val (.int p2), .val (.int yr), .val (.int mo), .val (.int (own_leap yr)), .val (.ref b2), .val (.ref b15), .val (.int ml), .val (.int dd), .val (.int dt), .val (.long lb), .second, .unset, .unset] [(.int dd), (.long (wz + ((own_H_s0 mo (own_leap yr)).toInt64)))])) _
  refine XS.i2l X27.here hx rfl (hb hby at_301) rfl ?_
  show Steps p.tables e below (T27.setTop (mkF m 302 #[.val (.int p0), .val (.int p1), .val (.int p2), .val (.int yr), .val (.int mo), .val (.int (own_leap yr)), .val (.ref b2), .val (.ref b15), .val (.int ml), .val (.int dd), .val (.int dt), .val (.long lb), .second, .unset, .unset] [(.long (dd.toInt64)), (.long (wz + ((own_H_s0 mo (own_leap yr)).toInt64)))])) _
  refine XS.ladd X27.here hx rfl (hb hby at_302) rfl ?_
  show Steps p.tables e below (T27.setTop (mkF m 303 #[.val (.int p0), .val (.int p1), .val (.int p2), .val (.int yr), .val (.int mo), .val (.int (own_leap yr)), .val (.ref b2), .val (.ref b15), .val (.int ml), .val (.int dd), .val (.int dt), .val (.long lb), .second, .unset, .unset] [(.long ((wz + ((own_H_s0 mo (own_leap yr)).toInt64)) + (dd.toInt64)))])) _
  refine XS.lconst X27.here hx rfl (hb hby at_303) ?_
  show Steps p.tables e below (T27.setTop (mkF m 304 #[.val (.int p0), .val (.int p1), .val (.int p2), .val (.int yr), .val (.int mo), .val (.int (own_leap yr)), .val (.ref b2), .val (.ref b15), .val (.int ml), .val (.int dd), .val (.int dt), .val (.long lb), .second, .unset, .unset] [(.long (1 : Int64)), (.long ((wz + ((own_H_s0 mo (own_leap yr)).toInt64)) + (dd.toInt64)))])) _
  refine XS.lsub X27.here hx rfl (hb hby at_304) rfl ?_
  show Steps p.tables e below (T27.setTop (mkF m 305 #[.val (.int p0), .val (.int p1), .val (.int p2), .val (.int yr), .val (.int mo), .val (.int (own_leap yr)), .val (.ref b2), .val (.ref b15), .val (.int ml), .val (.int dd), .val (.int dt), .val (.long lb), .second, .unset, .unset] [(.long (((wz + ((own_H_s0 mo (own_leap yr)).toInt64)) + (dd.toInt64)) - (1 : Int64)))])) _
  refine X27.ldc2J hx hown (mvT hZ (hw _ (List.mem_of_getElem? (i := 13) rfl))) rfl (hb hby at_305) ?_
  show Steps p.tables e below (T27.setTop (mkF m 308 #[.val (.int p0), .val (.int p1), .val (.int p2), .val (.int yr), .val (.int mo), .val (.int (own_leap yr)), .val (.ref b2), .val (.ref b15), .val (.int ml), .val (.int dd), .val (.int dt), .val (.long lb), .second, .unset, .unset] [(.long (719528 : Int64)), (.long (((wz + ((own_H_s0 mo (own_leap yr)).toInt64)) + (dd.toInt64)) - (1 : Int64)))])) _
  refine XS.lsub X27.here hx rfl (hb hby at_308) rfl ?_
  show Steps p.tables e below (T27.setTop (mkF m 309 #[.val (.int p0), .val (.int p1), .val (.int p2), .val (.int yr), .val (.int mo), .val (.int (own_leap yr)), .val (.ref b2), .val (.ref b15), .val (.int ml), .val (.int dd), .val (.int dt), .val (.long lb), .second, .unset, .unset] [(.long ((((wz + ((own_H_s0 mo (own_leap yr)).toInt64)) + (dd.toInt64)) - (1 : Int64)) - (719528 : Int64)))])) _
  refine XS.lstore X27.here hx rfl (hb hby at_309) rfl (l' := #[.val (.int p0), .val (.int p1), .val (.int p2), .val (.int yr), .val (.int mo), .val (.int (own_leap yr)), .val (.ref b2), .val (.ref b15), .val (.int ml), .val (.int dd), .val (.int dt), .val (.long lb), .second, .val (.long ((((wz + ((own_H_s0 mo (own_leap yr)).toInt64)) + (dd.toInt64)) - (1 : Int64)) - (719528 : Int64))), .second]) rfl ?_
  rw [h_ex]
  show Steps p.tables e below (T27.setTop (mkF m 311 #[.val (.int p0), .val (.int p1), .val (.int p2), .val (.int yr), .val (.int mo), .val (.int (own_leap yr)), .val (.ref b2), .val (.ref b15), .val (.int ml), .val (.int dd), .val (.int dt), .val (.long lb), .second, .val (.long ex), .second] [])) _
  refine XS.iload X27.here hx rfl (hb hby at_311) rfl ?_
  show Steps p.tables e below (T27.setTop (mkF m 313 #[.val (.int p0), .val (.int p1), .val (.int p2), .val (.int yr), .val (.int mo), .val (.int (own_leap yr)), .val (.ref b2), .val (.ref b15), .val (.int ml), .val (.int dd), .val (.int dt), .val (.long lb), .second, .val (.long ex), .second] [(.int dt)])) _
  refine st29 _ ?_
  show Steps p.tables e below (T29.setTop (mkF m 316 #[.val (.int p0), .val (.int p1), .val (.int p2), .val (.int yr), .val (.int mo), .val (.int (own_leap yr)), .val (.ref b2), .val (.ref b15), .val (.int ml), .val (.int dd), .val (.int dt), .val (.long lb), .second, .val (.long ex), .second] [(.long rr)])) _
  refine XS.lload X29.here hx rfl (hb hby at_316) rfl ?_
  show Steps p.tables e below (T29.setTop (mkF m 318 #[.val (.int p0), .val (.int p1), .val (.int p2), .val (.int yr), .val (.int mo), .val (.int (own_leap yr)), .val (.ref b2), .val (.ref b15), .val (.int ml), .val (.int dd), .val (.int dt), .val (.long lb), .second, .val (.long ex), .second] [(.long ex), (.long rr)])) _
  refine XS.lcmp X29.here hx rfl (hb hby at_318) rfl ?_
  show Steps p.tables e below (T29.setTop (mkF m 319 #[.val (.int p0), .val (.int p1), .val (.int p2), .val (.int yr), .val (.int mo), .val (.int (own_leap yr)), .val (.ref b2), .val (.ref b15), .val (.int ml), .val (.int dd), .val (.int dt), .val (.long lb), .second, .val (.long ex), .second] [(.int (lcmpW rr ex))])) _
  refine XS.ifNo X29.here hx rfl (hb hby at_319) rfl ((if0 _ _).trans (teq ((lw_eq rr ex).mpr hfin)).2) ?_
  show Steps p.tables e below (T29.setTop (mkF m 322 #[.val (.int p0), .val (.int p1), .val (.int p2), .val (.int yr), .val (.int mo), .val (.int (own_leap yr)), .val (.ref b2), .val (.ref b15), .val (.int ml), .val (.int dd), .val (.int dt), .val (.long lb), .second, .val (.long ex), .second] [])) _
  refine XS.iconst X29.here hx rfl (hb hby at_322) ?_
  show Steps p.tables e below (T29.setTop (mkF m 323 #[.val (.int p0), .val (.int p1), .val (.int p2), .val (.int yr), .val (.int mo), .val (.int (own_leap yr)), .val (.ref b2), .val (.ref b15), .val (.int ml), .val (.int dd), .val (.int dt), .val (.long lb), .second, .val (.long ex), .second] [(.int (1 : Int32))])) _
  refine XS.goto X29.here hx rfl (pc0 := 323) (pc' := 327) rfl (hb hby at_323) (by decide) (by decide) ?_
  show Steps p.tables e below (T29.setTop (mkF m 327 #[.val (.int p0), .val (.int p1), .val (.int p2), .val (.int yr), .val (.int mo), .val (.int (own_leap yr)), .val (.ref b2), .val (.ref b15), .val (.int ml), .val (.int dd), .val (.int dt), .val (.long lb), .second, .val (.long ex), .second] [(.int (1 : Int32))])) _
  exact retN X29 hx (t := .boolean) Bd.returns (by simp) (hb hby at_327) hr
set_option maxRecDepth 65536 in
set_option maxHeartbeats 40000000 in
theorem comes_1 {Post : Tables → Env → Array Value → State → Outcome → State → Prop} (hpost : ∀ tb e args s v u, (limb_1_1.after args s (.returned v) u = true ∧ limb_1_2.after args s (.returned v) u = true ∧ True) → FrameEnd s (.returned v) u (Jvm.fieldLocs frame_1_writes args s ++ Jvm.arrayLocs frame_1_arrays args s ++ Jvm.staticLocs frame_1_statics s) 16 128 → Post tb e args s (.returned v) u) :
    ArmFor flags0 classFile x code maxLocals ret World_1 tables_1 room_1 Calls_1 rest_1 Pre_1 Post := by
  intro l hfl _ _ p e ha hc hk s m args below hf hA hF happ hP
  obtain ⟨hcalls, hrest, hpre⟩ := hP
  obtain ⟨-, -, -, hnamed, -, -, -, hat⟩ := (Spec.applies_iff hf).mp happ
  obtain ⟨hg, hn⟩ := and_e (Cond.before_iff.mp (show (Jvm.Cond.and given_1 narrow_1).before args s = true from hpre))
  obtain ⟨gc, g0⟩ := and_e hg
  obtain ⟨k0, g1⟩ := and_e g0
  obtain ⟨k1, g2⟩ := and_e g1
  obtain ⟨w0, w1, w2, rfl⟩ : ∃ w0 w1 w2 : Value, args = #[w0, w1, w2] := by
    have hs : args.size = 3 := by simpa [Cond.value, given_1] using gc
    obtain ⟨L⟩ := args
    match L, hs with
    | [w0, w1, w2], _ => exact ⟨w0, w1, w2, rfl⟩
  have hw := fun d (hd : d ∈ tables_1) => atoms_spec (ws := Jvm.Cond.code x code maxLocals ret :: tables_1) hat d (List.mem_cons_of_mem _ hd)
  obtain ⟨i0, ei0⟩ := is_v k0
  obtain rfl : w0 = (.int i0) := Option.some.inj ei0
  obtain ⟨i1, ei1⟩ := is_v k1
  obtain rfl : w1 = (.int i1) := Option.some.inj ei1
  obtain ⟨i2, ei2⟩ := is_v g2
  obtain rfl : w2 = (.int i2) := Option.some.inj ei2
  obtain ⟨n, o, h1, h2, h3, _, L, rfl, ⟨rfl, N⟩, hq⟩ := rm0 l s _ hw tables_1 i0 i1 i2 s.heap s.heap.size (Nat.le_refl _) p e ha hc hk s m _ below hf ((Spec.applies_iff_loose hf).mp happ).1 ⟨rfl, State.Warmed39.refl s, rfl⟩ trivial
  refine ⟨n, _, h1, h2, h3, hpost _ _ _ _ _ _ ⟨Cond.after_iff.mpr rfl, Cond.after_iff.mpr (eq_i res_at (Term.int_eval (1)) rfl), trivial⟩ ⟨hq.1, hq.2.1, (hq.2.2.sift fun y hy => Or.inr (N y hy)).mono (by decide) (by decide)⟩⟩
theorem main_1_1 : Claimed_1_1 := comes_1 fun _ _ _ _ _ _ h hF => ⟨h.1, hF⟩
theorem main_1_2 : Claimed_1_2 := comes_1 fun _ _ _ _ _ _ h hF => ⟨h.2.1, hF⟩
end Jvm.Pilot.@@N@@
namespace Jvm.Pilot.@@N@@
open Jvm Jvm.ClassFile Sem Op Lib Jvm.Free Jvm.Stand Jvm.Pilot.@@N@@.Jvm.D
/-! MADE BY PROGRAM (witnessworld.py) out of the Statement's table words and the real class files: 9 classes; the members and pool entries that the words name. The judged class is class 1, her method 2. -/
namespace start1
open Jvm.ClassFile
def u (s : String) : CpInfo := .utf8 (stringToUtf16 s)
/-- a pool by its gaps: so many unusable entries, then the entry; so many at the end -/
def gap : Nat → List CpInfo → List CpInfo
  | 0, r => r
  | n + 1, r => .unusable :: gap n r
def poolList (es : List (Nat × CpInfo)) (last : Nat) : List CpInfo := es.foldr (fun e r => gap e.1 (e.2 :: r)) (gap last [])
def pool (es : List (Nat × CpInfo)) (last : Nat) : Array CpInfo := ⟨poolList es last⟩
def fileOf (pool : Array CpInfo) (this : Nat) (attrs : Array Attribute := #[]) (ms : Array MethodInfo := #[]) (fl : Nat := 33) (sup : Nat := 0) (ifs : Array Nat := #[]) (fds : Array FieldInfo := #[]) : ClassFile where
  minorVersion := 0
  majorVersion := 65
  constantPool := pool
  accessFlags := fl
  thisClass := this
  superClass := sup
  interfaces := ifs
  fields := fds
  methods := ms
  attributes := attrs
def plain (name : String) (sup : Option ClassId) : Class where
  name := name
  kind := .ordinary
  loader := none
  accessFlags := 33
  super := sup
  interfaces := #[]
  cf := none
  fields := #[]
  methods := #[]
  instanceTypes := #[]
  staticTypes := #[]
  resolved := #[]
  callSites := []
  init := .initialized
  statics := none
  mirror := none

def pool0 : Array CpInfo := pool [(5, u "<init>"), (0, u "()V"), (1, .class_ 10), (1, u "java/lang/Object")] 113

def k0m0 : Method := { name := "<init>", desc := "()V", sig := { parameters := [], returnType := none }, accessFlags := 1, code := none }
/-- java/lang/Object -/
def k0 : Class := { plain "java/lang/Object" none with
  accessFlags := 33
  interfaces := #[]
  cf := some (fileOf pool0 8 #[] #[{ accessFlags := 1, nameIndex := 5, descriptorIndex := 6, attributes := #[] }] 33 0 #[] #[])
  fields := #[]
  methods := #[k0m0]
  instanceTypes := #[]
  staticTypes := #[]
  resolved := Array.replicate 124 none
  statics := none }

def pool1 : Array CpInfo := pool [(2, .class_ 4), (1, u "java/lang/Object"), (0, u "<init>"), (0, u "()V"), (0, .integer 2147483647), (0, .methodref 9 10), (0, .class_ 11), (0, .nameAndType 12 13), (0, u "com/example/vestwright/vestwright/model/IsoDateEpochDayPinLaw"), (0, u "isLeap"), (0, u "(I)Z"), (0, .long 3), (1, .long 4), (1, .long 99), (1, .long 100), (1, .long 399), (1, .long 400), (1, .long 365), (1, .long 719528), (1, .methodref 31 32), (0, .class_ 33), (0, .nameAndType 34 35), (0, u "com/example/vestwright/vestwright/model/IsoDate"), (0, u "epochDay"), (0, u "(I)J"), (3, u "law"), (0, u "(III)Z")] 4

def k1m0 : Method := { name := "<init>", desc := "()V", sig := { parameters := [], returnType := none }, accessFlags := 2, code := none }
def k1c1 : Code := { maxStack := 2, maxLocals := 1, code := method_2_code, exceptionTable := #[], attributes := #[] }
def k1m1 : Method := { name := "isLeap", desc := "(I)Z", sig := { parameters := [.int], returnType := some .boolean }, accessFlags := 10, code := some k1c1 }
def k1c2 : Code := { maxStack := 6, maxLocals := 15, code := code, exceptionTable := #[], attributes := #[] }
def k1m2 : Method := { name := "law", desc := "(III)Z", sig := { parameters := [.int, .int, .int], returnType := some .boolean }, accessFlags := 9, code := some k1c2 }
/-- com/example/vestwright/vestwright/model/IsoDateEpochDayPinLaw -/
def k1 : Class := { plain "com/example/vestwright/vestwright/model/IsoDateEpochDayPinLaw" (some 0) with
  accessFlags := 49
  interfaces := #[]
  cf := some (fileOf pool1 9 #[] #[{ accessFlags := 2, nameIndex := 5, descriptorIndex := 6, attributes := #[] }, { accessFlags := 10, nameIndex := 12, descriptorIndex := 13, attributes := #[] }, { accessFlags := 9, nameIndex := 39, descriptorIndex := 40, attributes := #[] }] 49 2 #[] #[])
  fields := #[]
  methods := #[k1m0, k1m1, k1m2]
  instanceTypes := #[]
  staticTypes := #[]
  resolved := Array.replicate 45 none
  statics := none }

def pool2 : Array CpInfo := pool [(2, .class_ 4), (1, u "java/lang/Object"), (0, u "<init>"), (0, u "()V"), (7, .class_ 16), (1, u "com/example/vestwright/vestwright/model/IsoDate"), (9, .long 399), (1, .long 400), (1, .long 365), (1, .long 4), (1, .long 100), (1, .long 146097), (1, .long 719468), (23, u "LENGTH"), (0, u "I"), (8, u "MOST_DAYS"), (0, u "[I"), (38, u "DAYS_PER_ERA"), (0, u "J"), (1, u "DAYS_FROM_0000_03_01_TO_1970"), (0, u "NOT_A_DATE"), (8, u "epochDay"), (0, u "(I)J")] 20

def k2m0 : Method := { name := "<init>", desc := "()V", sig := { parameters := [], returnType := none }, accessFlags := 2, code := none }
def k2c1 : Code := { maxStack := 6, maxLocals := 14, code := prog_76_method_3_code, exceptionTable := #[], attributes := #[] }
def k2m1 : Method := { name := "epochDay", desc := "(I)J", sig := { parameters := [.int], returnType := some .long }, accessFlags := 8, code := some k2c1 }
/-- com/example/vestwright/vestwright/model/IsoDate -/
def k2 : Class := { plain "com/example/vestwright/vestwright/model/IsoDate" (some 0) with
  accessFlags := 49
  interfaces := #[]
  cf := some (fileOf pool2 14 #[] #[{ accessFlags := 2, nameIndex := 5, descriptorIndex := 6, attributes := #[] }, { accessFlags := 8, nameIndex := 125, descriptorIndex := 126, attributes := #[] }] 49 2 #[] #[{ accessFlags := 26, nameIndex := 62, descriptorIndex := 63, attributes := #[] }, { accessFlags := 26, nameIndex := 112, descriptorIndex := 113, attributes := #[] }, { accessFlags := 26, nameIndex := 115, descriptorIndex := 113, attributes := #[] }, { accessFlags := 26, nameIndex := 72, descriptorIndex := 73, attributes := #[] }, { accessFlags := 24, nameIndex := 116, descriptorIndex := 63, attributes := #[] }])
  fields := #[{ name := "LENGTH", type := .int, accessFlags := 26, slot := 0, constantValue := 0 }, { name := "DAYS_PER_ERA", type := .long, accessFlags := 26, slot := 1, constantValue := 0 }, { name := "DAYS_FROM_0000_03_01_TO_1970", type := .long, accessFlags := 26, slot := 2, constantValue := 0 }, { name := "MOST_DAYS", type := (.array .int), accessFlags := 26, slot := 3, constantValue := 0 }, { name := "NOT_A_DATE", type := .int, accessFlags := 24, slot := 4, constantValue := 0 }]
  methods := #[k2m0, k2m1]
  instanceTypes := #[]
  staticTypes := #[.int, .long, .long, (.array .int), .int]
  resolved := Array.replicate 147 none
  statics := none }

def pool3 : Array CpInfo := pool [(1, u "java/lang/Cloneable"), (0, .class_ 1), (0, u "java/lang/Object"), (0, .class_ 3)] 3

/-- java/lang/Cloneable -/
def k3 : Class := { plain "java/lang/Cloneable" (some 0) with
  accessFlags := 1537
  interfaces := #[]
  cf := some (fileOf pool3 2 #[] #[] 1537 4 #[] #[])
  fields := #[]
  methods := #[]
  instanceTypes := #[]
  staticTypes := #[]
  resolved := Array.replicate 8 none
  statics := none }

def pool4 : Array CpInfo := pool [(1, u "java/io/Serializable"), (0, .class_ 1), (0, u "java/lang/Object"), (0, .class_ 3)] 3

/-- java/io/Serializable -/
def k4 : Class := { plain "java/io/Serializable" (some 0) with
  accessFlags := 1537
  interfaces := #[]
  cf := some (fileOf pool4 2 #[] #[] 1537 4 #[] #[])
  fields := #[]
  methods := #[]
  instanceTypes := #[]
  staticTypes := #[]
  resolved := Array.replicate 8 none
  statics := none }

/-- the primitive byte -/
def k5 : Class := { plain "byte" none with kind := .primitive 'B', accessFlags := 0x411 }
/-- [B -/
def k6 : Class := { plain "[B" (some 0) with kind := .array 5 .byte, interfaces := #[3, 4], accessFlags := 1041 }

/-- the primitive int -/
def k7 : Class := { plain "int" none with kind := .primitive 'I', accessFlags := 0x411 }
/-- [I -/
def k8 : Class := { plain "[I" (some 0) with kind := .array 7 .int, interfaces := #[3, 4], accessFlags := 1041 }

def heap : Heap := #[]
def classes : Array Class := #[k0, k1, k2, k3, k4, k5, k6, k7, k8]
def interned : List (Array UInt16 × Addr) := []
def slotsUsed : Nat := 0
def theMethod : MethodId := ⟨1, 2⟩
def args0 : Array Value := #[.int 5, .int 3, .int 7]
def aboutOver (below : List Frame) : State where
  vm := { classes := classes, interned := interned.toArray }
  heap := heap
  slotsUsed := slotsUsed
  threads := #[{ frames := .invoking theMethod args0 :: below }]
def below0 : List Frame := [.native { method := ⟨0, 0⟩, args := #[] }]
def about1 : State := aboutOver below0
def p0 : Program := .bare "" "" ""
def e0 : Env := launch0.env 0 0 0
theorem w_frames : about1.frames = Frame.invoking theMethod args0 :: below0 := rfl
set_option maxRecDepth 65536 in
theorem w_args : argsFit about1.vm theMethod args0 = true := by decide +kernel
set_option maxRecDepth 65536 in
theorem w_heap : heapFits about1 = true := by decide +kernel
set_option maxRecDepth 65536 in
theorem w_runnable : about1.curStatus? = some .runnable := by decide +kernel
set_option maxRecDepth 65536 in
theorem w_alone : about1.alone = true := by decide +kernel
set_option maxRecDepth 65536 in
theorem w_named : about1.methodNamed? x = some theMethod := by decide +kernel
set_option maxRecDepth 65536 in
theorem w_hears : about1.hears theMethod below0 = true := by decide +kernel
set_option maxRecDepth 65536 in
theorem w_ripe : about1.ripe theMethod args0 below0 = true := by decide +kernel
theorem w_running : about1.status = .running := rfl
set_option maxRecDepth 65536 in
theorem w_room : about1.hasRoom e0.platform room_1 = true :=
  launch0.hasRoom_least _ room_1 (by decide +kernel) (by decide +kernel) (by decide +kernel) (by decide +kernel) (by decide +kernel) (by decide +kernel)
theorem allAtoms_all (ts : List Jvm.Cond) (a : Array Jvm.Value) (st : Jvm.State) : (allAtoms ts).before a st = ts.all (fun c => c.before a st) := by
  induction ts with
  | nil => rfl
  | cons c t ih =>
    show (Jvm.Cond.and c (allAtoms t)).before a st = _
    rw [Jvm.Cond.before_and, ih, List.all_cons]
def words1 : List Jvm.Cond := Jvm.Cond.code x code maxLocals ret :: tables_1
/-- a 'code' word, met by the world's own term for the bytes: nothing is compared byte by byte -/
theorem code_word {y : MethodName} {bytes : ByteArray} {mx : Nat} {rt : Option FieldType} {a : Array Value} {s : State} {m : MethodId} {meth : Method} {c : Code} (h1 : s.methodNamed? y = some m) (h2 : s.vm.method? m = some meth) (h3 : meth.code = some c) (h4 : c.code = bytes)
    (h5 : (c.maxLocals == mx && c.exceptionTable.isEmpty && decide (c.maxStack ≤ mostOperands) && decide (meth.sig.returnType = rt) && !meth.locks && decide (parseMethodDescriptor y.desc = some meth.sig)) = true) : (Jvm.Cond.code y bytes mx rt).before a s = true := by
  simp only [Bool.and_eq_true, beq_iff_eq, Bool.not_eq_true', decide_eq_true_eq] at h5
  obtain ⟨⟨⟨⟨⟨g1, g2⟩, g3⟩, g4⟩, g5⟩, g6⟩ := h5
  simp [Cond.before, Cond.holds, Cond.value, h1, h2, h3, h4, g1, g2, g3, g4, g5, g6]
def isCode : Jvm.Cond → Bool
  | .code _ _ _ _ => true
  | _ => false
theorem all_split {L : List Jvm.Cond} {P : Jvm.Cond → Bool} (h1 : L.all (fun c => isCode c || P c) = true) (h2 : ∀ c ∈ L.filter isCode, P c = true) : L.all P = true := by
  refine List.all_eq_true.mpr fun c hc => ?_
  have h := List.all_eq_true.mp h1 c hc
  rcases Bool.eq_false_or_eq_true (isCode c) with hi | hi
  · exact h2 c (List.mem_filter.mpr ⟨hc, hi⟩)
  · simpa [hi] using h
set_option maxRecDepth 65536 in
theorem w_c0 : (Jvm.Cond.code x code maxLocals ret).before args0 about1 = true := code_word (m := ⟨1, 2⟩) (meth := k1m2) (c := k1c2) (by decide +kernel) rfl rfl rfl (by decide +kernel)
set_option maxRecDepth 65536 in
theorem w_c1 : (Jvm.Cond.code ({ cls := "com/example/vestwright/vestwright/model/IsoDateEpochDayPinLaw", name := "isLeap", desc := "(I)Z" } : Jvm.MethodName) method_2_code (1 : Nat) (Option.some Jvm.ClassFile.FieldType.boolean)).before args0 about1 = true := code_word (m := ⟨1, 1⟩) (meth := k1m1) (c := k1c1) (by decide +kernel) rfl rfl rfl (by decide +kernel)
set_option maxRecDepth 65536 in
theorem w_c2 : (Jvm.Cond.code ({ cls := "com/example/vestwright/vestwright/model/IsoDate", name := "epochDay", desc := "(I)J" } : Jvm.MethodName) prog_76_method_3_code (14 : Nat) (Option.some Jvm.ClassFile.FieldType.long)).before args0 about1 = true := code_word (m := ⟨2, 1⟩) (meth := k2m1) (c := k2c1) (by decide +kernel) rfl rfl rfl (by decide +kernel)
def codes1 : List Jvm.Cond := [Jvm.Cond.code x code maxLocals ret, Jvm.Cond.code ({ cls := "com/example/vestwright/vestwright/model/IsoDateEpochDayPinLaw", name := "isLeap", desc := "(I)Z" } : Jvm.MethodName) method_2_code (1 : Nat) (Option.some Jvm.ClassFile.FieldType.boolean), Jvm.Cond.code ({ cls := "com/example/vestwright/vestwright/model/IsoDate", name := "epochDay", desc := "(I)J" } : Jvm.MethodName) prog_76_method_3_code (14 : Nat) (Option.some Jvm.ClassFile.FieldType.long)]
set_option maxRecDepth 65536 in
theorem codes_eq : words1.filter isCode = codes1 := rfl
theorem w_codes : ∀ c ∈ words1.filter isCode, c.before args0 about1 = true := by
  rw [codes_eq]
  intro c hc
  simp only [codes1, List.mem_cons, List.not_mem_nil, or_false] at hc
  rcases hc with rfl | rfl | rfl
  · exact w_c0
  · exact w_c1
  · exact w_c2
set_option maxRecDepth 65536 in
theorem w_t1 : (words1.take 24).all (fun c => isCode c || c.before args0 about1) = true := by decide +kernel
set_option maxRecDepth 65536 in
theorem w_t2 : (words1.drop 24).all (fun c => isCode c || c.before args0 about1) = true := by decide +kernel
theorem w_tables : (allAtoms (Jvm.Cond.code x code maxLocals ret :: tables_1)).before args0 about1 = true := by
  rw [allAtoms_all]
  show words1.all (fun c => c.before args0 about1) = true
  refine all_split ?_ w_codes
  rw [← List.take_append_drop 24 words1, List.all_append, w_t1, w_t2]
  rfl
set_option maxRecDepth 65536 in
theorem w_case : (Jvm.Cond.and given_1 narrow_1).before args0 about1 = true := by decide +kernel
theorem w_applies : (headSpec (Jvm.Cond.code x code maxLocals ret :: tables_1) room_1).applies x e0.platform about1 = true :=
  (Spec.applies_iff w_frames).mpr ⟨w_running, w_runnable, w_alone, w_named, w_hears, w_ripe, w_room, w_tables⟩
theorem atStart : AtStart classFile x code maxLocals ret World_1 tables_1 room_1 Calls_1 rest_1 Pre_1 launch0 p0 e0 about1 theMethod args0 below0 :=
  ⟨lists_1, trivial, launch0.admits_env _ _ _, launch0.least_env, fairChoices_fair.cas, fairChoices_fair.clock, w_frames, w_args, w_heap, w_applies, trivial, trivial, w_case⟩
end start1
theorem witness_1 : WitnessClaimed_1 := ⟨start1.p0, start1.e0, start1.about1, start1.theMethod, start1.args0, start1.below0, start1.atStart⟩
end Jvm.Pilot.@@N@@
