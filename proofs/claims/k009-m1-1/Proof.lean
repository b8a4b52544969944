import JvmDerived
import JvmDerived.Pilot.@@N@@Statement
import JvmDerived.Pilot.@@N@@Code
set_option linter.unusedVariables false
set_option linter.unusedSimpArgs false
namespace Jvm.Pilot.@@N@@
open Jvm Jvm.ClassFile Sem Op Lib Jvm.Free Jvm.Stand Jvm.LawKit Jvm.RoadKit Bundle Jvm.Pilot.@@N@@.Jvm.D
/-! OWN LAYER (the same text in every claim): arrays by a function, and their steps -/
section OwnLayer
variable {p : Program} {l : Launch} {e : Env} {R : Room} {s : State} {m : MethodId} {args : Array Value} {below : List Frame} {meth : Method} {c : Code} {T : State} {locs : List Loc} {cells slots : Nat} {Z : State} {a0 : Array Value} {h h' : Heap} {a b : Addr} {ty : FieldType} {N : Int32} {target : State}
theorem own_retI (X : Stand p l e R s m args below meth c T locs cells slots) (hx : p.tables.exec = Jvm.exec) {pc : Nat} {Ls : Array Slot} {z : Int32} {rest : List Value} (hret : meth.sig.returnType = some .int) (hd : decode c.code pc = .ok (.ireturn, 1)) {fs : List Frame}
    (hl : ∀ (f : JFrame) (acts : List Action), f.method = m → f.locked = none → f.entered = [] → (doReturn e (T.setTop f) acts (some (.int z))).1 = T.setFrames fs) : Steps p.tables e below (T.setTop (mkF m pc Ls (.int z :: rest))) (T.setFrames fs) :=
  retOut X hx hret rfl (Or.inl ⟨rfl, Or.inl rfl, z, rfl⟩) hd hl
theorem own_retJ (X : Stand p l e R s m args below meth c T locs cells slots) (hx : p.tables.exec = Jvm.exec) {pc : Nat} {Ls : Array Slot} {z : Int64} {rest : List Value} (hret : meth.sig.returnType = some .long) (hd : decode c.code pc = .ok (.lreturn, 1)) {fs : List Frame}
    (hl : ∀ (f : JFrame) (acts : List Action), f.method = m → f.locked = none → f.entered = [] → (doReturn e (T.setTop f) acts (some (.long z))).1 = T.setFrames fs) : Steps p.tables e below (T.setTop (mkF m pc Ls (.long z :: rest))) (T.setFrames fs) :=
  retOut X hx hret rfl (Or.inr (Or.inl ⟨rfl, rfl, z, rfl⟩)) hd hl
/-- the written places by a name -/
theorem own_gen {n0 : Nat} (X : Stand p l e R s m args below meth c T locs cells slots) (N : Fr n0 locs) : ∃ L, Stand p l e R s m args below meth c T L cells slots ∧ Fr n0 L := ⟨_, X, N⟩
/-- f with v at the place i -/
def own_up {α : Type} (f : Nat → α) (i : Nat) (v : α) : Nat → α := fun j => if j = i then v else f j
theorem own_up_at {α : Type} (f : Nat → α) (i : Nat) (v : α) : own_up f i v i = v := if_pos rfl
theorem own_up_ne {α : Type} (f : Nat → α) {i j : Nat} (v : α) (q : j ≠ i) : own_up f i v j = f j := if_neg q
/-- an array of N places whose place j holds the int f j -/
def own_AI (Z : State) (h : Heap) (a : Addr) (ty : FieldType) (N : Int32) (f : Nat → Int32) : Prop := ∃ c : Cell, Arr Z h a c ty ∧ c.slots.size = N.toNatClampNeg ∧ ¬ N < 0 ∧ ∀ j, j < N.toNatClampNeg → c.slots[j]? = some (.int (f j))
/-- an array of N places whose place j holds the long f j -/
def own_AJ (Z : State) (h : Heap) (a : Addr) (N : Int32) (f : Nat → Int64) : Prop := ∃ c : Cell, Arr Z h a c .long ∧ c.slots.size = N.toNatClampNeg ∧ ¬ N < 0 ∧ ∀ j, j < N.toNatClampNeg → c.slots[j]? = some (.long (f j))
variable {f : Nat → Int32} {fJ : Nat → Int64}
theorem own_AI.lt (A : own_AI Z h a ty N f) : a < h.size := by obtain ⟨c, A, -⟩ := A; exact A.lt
theorem own_AJ.lt (A : own_AJ Z h a N fJ) : a < h.size := by obtain ⟨c, A, -⟩ := A; exact A.lt
theorem own_AI.ext (A : own_AI Z h a ty N f) (E : Ext h h') : own_AI Z h' a ty N f := by obtain ⟨c, A, r⟩ := A; exact ⟨c, A.ext E, r⟩
theorem own_AJ.ext (A : own_AJ Z h a N fJ) (E : Ext h h') : own_AJ Z h' a N fJ := by obtain ⟨c, A, r⟩ := A; exact ⟨c, A.ext E, r⟩
theorem own_AI.other {sl : Nat} {v : Value} (A : own_AI Z h a ty N f) (W : Wr h h' b sl v) (q : a ≠ b) : own_AI Z h' a ty N f := by obtain ⟨c, A, r⟩ := A; exact ⟨c, A.other W q, r⟩
theorem own_AJ.other {sl : Nat} {v : Value} (A : own_AJ Z h a N fJ) (W : Wr h h' b sl v) (q : a ≠ b) : own_AJ Z h' a N fJ := by obtain ⟨c, A, r⟩ := A; exact ⟨c, A.other W q, r⟩
theorem own_AI.keep {ws : List Addr} (A : own_AI Z h a ty N f) (K : Keep h h' ws) (q : a ∉ ws) : own_AI Z h' a ty N f := by obtain ⟨c, A, r⟩ := A; exact ⟨c, ⟨K.2.1 a c A.1 q, A.2⟩, r⟩
theorem own_AJ.keep {ws : List Addr} (A : own_AJ Z h a N fJ) (K : Keep h h' ws) (q : a ∉ ws) : own_AJ Z h' a N fJ := by obtain ⟨c, A, r⟩ := A; exact ⟨c, ⟨K.2.1 a c A.1 q, A.2⟩, r⟩
theorem own_slots (c : Cell) (i j : Nat) (v : Value) (hj : j < c.slots.size) : (c.setSlot i v).slots[j]? = if j = i then some v else c.slots[j]? := by
  show (c.slots.setIfInBounds i v)[j]? = _
  rw [Array.getElem?_setIfInBounds]
  by_cases q : i = j
  · subst q; simp [hj]
  · simp [q, Ne.symm q]
theorem own_AI.set {i : Nat} {v : Int32} (A : own_AI Z h a ty N f) (W : Wr h h' a i (.int v)) : own_AI Z h' a ty N (own_up f i v) := by
  obtain ⟨c, A, S, M, H⟩ := A
  refine ⟨_, A.same W, by rw [sz_set, S], M, fun j hj => ?_⟩
  rw [own_slots c i j _ (by rw [S]; exact hj)]
  by_cases q : j = i
  · rw [if_pos q, q, own_up_at]
  · rw [if_neg q, own_up_ne _ _ q, H j hj]
theorem own_AJ.set {i : Nat} {v : Int64} (A : own_AJ Z h a N fJ) (W : Wr h h' a i (.long v)) : own_AJ Z h' a N (own_up fJ i v) := by
  obtain ⟨c, A, S, M, H⟩ := A
  refine ⟨_, A.same W, by rw [sz_set, S], M, fun j hj => ?_⟩
  rw [own_slots c i j _ (by rw [S]; exact hj)]
  by_cases q : j = i
  · rw [if_pos q, q, own_up_at]
  · rw [if_neg q, own_up_ne _ _ q, H j hj]
theorem own_AI.fresh {k : ClassId} (A : Arr Z h a (newA k ty N) ty) (hd : defaultValue ty = .int 0) (M : ¬ N < 0) : own_AI Z h a ty N (fun _ => 0) := by
  refine ⟨_, A, sz_new _ _ _, M, fun j hj => ?_⟩
  show (Array.replicate N.toNatClampNeg (defaultValue ty))[j]? = _
  rw [Array.getElem?_replicate, if_pos hj, hd]
theorem own_AJ.fresh {k : ClassId} (A : Arr Z h a (newA k .long N) .long) (M : ¬ N < 0) : own_AJ Z h a N (fun _ => 0) := by
  refine ⟨_, A, sz_new _ _ _, M, fun j hj => ?_⟩
  show (Array.replicate N.toNatClampNeg (defaultValue .long))[j]? = _
  rw [Array.getElem?_replicate, if_pos hj]; rfl
theorem own_AI.congr {f' : Nat → Int32} (A : own_AI Z h a ty N f) (q : ∀ j, j < N.toNatClampNeg → f j = f' j) : own_AI Z h a ty N f' := by
  obtain ⟨c, A, S, M, H⟩ := A
  exact ⟨c, A, S, M, fun j hj => by rw [H j hj, q j hj]⟩
theorem own_AJ.congr {f' : Nat → Int64} (A : own_AJ Z h a N fJ) (q : ∀ j, j < N.toNatClampNeg → fJ j = f' j) : own_AJ Z h a N f' := by
  obtain ⟨c, A, S, M, H⟩ := A
  exact ⟨c, A, S, M, fun j hj => by rw [H j hj, q j hj]⟩
theorem own_lt_nat {j : Int32} (q : ¬ j < 0 ∧ j < N) : j.toNatClampNeg < N.toNatClampNeg := by
  have h1 := nat_of q.1
  have h2 : ¬ N < 0 := by
    intro u; have := q.1; have := q.2
    rw [Int32.lt_iff_toInt_lt] at *; omega
  have h3 := nat_of h2
  have := q.2
  rw [Int32.lt_iff_toInt_lt] at this
  omega
/-- a place in the array, by its number -/
theorem own_ix {j : Int32} (h0 : 0 ≤ j.toInt) (h1 : j.toInt < N.toInt) : ¬ j < 0 ∧ j < N := by
  rw [Int32.lt_iff_toInt_lt, Int32.lt_iff_toInt_lt]
  exact ⟨by show ¬ j.toInt < 0; omega, h1⟩
theorem own_len (X : Stand p l e R s m args below meth c T locs cells slots) (hx : p.tables.exec = Jvm.exec) (hZ : Z.Warmed39 s.vm) (eT : T.heap = h) (A : own_AI Z h a ty N f) {g : JFrame} (hg : g.method = m) {rest : List Value} (hs : g.stack = .ref a :: rest) (hd : decode c.code g.pc = .ok (.arraylength, 1))
    (hr : Steps p.tables e below (T.setTop { g with pc := g.pc + 1, stack := .int N :: rest }) target) : Steps p.tables e below (T.setTop g) target := by
  obtain ⟨cl, A, S, M, -⟩ := A
  refine X.arraylength hx (cell := cl) (by rw [eT]; exact A.1) (State.isArrayOf_alike hZ.alike A.2.1) hg hs hd _ ?_
  rw [len_of S M]; exact hr
theorem own_lenJ (X : Stand p l e R s m args below meth c T locs cells slots) (hx : p.tables.exec = Jvm.exec) (hZ : Z.Warmed39 s.vm) (eT : T.heap = h) (A : own_AJ Z h a N fJ) {g : JFrame} (hg : g.method = m) {rest : List Value} (hs : g.stack = .ref a :: rest) (hd : decode c.code g.pc = .ok (.arraylength, 1))
    (hr : Steps p.tables e below (T.setTop { g with pc := g.pc + 1, stack := .int N :: rest }) target) : Steps p.tables e below (T.setTop g) target := by
  obtain ⟨cl, A, S, M, -⟩ := A
  refine X.arraylength hx (cell := cl) (by rw [eT]; exact A.1) (State.isArrayOf_alike hZ.alike A.2.1) hg hs hd _ ?_
  rw [len_of S M]; exact hr
theorem own_ldI (X : Stand p l e R s m args below meth c T locs cells slots) (hx : p.tables.exec = Jvm.exec) (hZ : Z.Warmed39 s.vm) (eT : T.heap = h) (A : own_AI Z h a .int N f) {j : Int32} (q : ¬ j < 0 ∧ j < N) {g : JFrame} (hg : g.method = m) {rest : List Value} (hs : g.stack = .int j :: .ref a :: rest) (hd : decode c.code g.pc = .ok (.iaload, 1))
    (hr : Steps p.tables e below (T.setTop { g with pc := g.pc + 1, stack := .int (f j.toNatClampNeg) :: rest }) target) : Steps p.tables e below (T.setTop g) target := by
  obtain ⟨cl, A, S, M, H⟩ := A
  exact X.iaload hx (j := j) (by rw [eT]; exact A.1) (State.isArrayOf_alike hZ.alike A.2.1) A.2.2 (inb_of S q) (H _ (own_lt_nat q)) hg hs hd _ hr
theorem own_ldB (X : Stand p l e R s m args below meth c T locs cells slots) (hx : p.tables.exec = Jvm.exec) (hZ : Z.Warmed39 s.vm) (eT : T.heap = h) (A : own_AI Z h a .byte N f) {j : Int32} (q : ¬ j < 0 ∧ j < N) {g : JFrame} (hg : g.method = m) {rest : List Value} (hs : g.stack = .int j :: .ref a :: rest) (hd : decode c.code g.pc = .ok (.baload, 1))
    (hr : Steps p.tables e below (T.setTop { g with pc := g.pc + 1, stack := .int (f j.toNatClampNeg) :: rest }) target) : Steps p.tables e below (T.setTop g) target := by
  obtain ⟨cl, A, S, M, H⟩ := A
  exact X.baloadBytes hx (j := j) (by rw [eT]; exact A.1) (State.isArrayOf_alike hZ.alike A.2.1) A.2.2 (inb_of S q) (H _ (own_lt_nat q)) hg hs hd _ hr
theorem own_ldJ (X : Stand p l e R s m args below meth c T locs cells slots) (hx : p.tables.exec = Jvm.exec) (hZ : Z.Warmed39 s.vm) (eT : T.heap = h) (A : own_AJ Z h a N fJ) {j : Int32} (q : ¬ j < 0 ∧ j < N) {g : JFrame} (hg : g.method = m) {rest : List Value} (hs : g.stack = .int j :: .ref a :: rest) (hd : decode c.code g.pc = .ok (.laload, 1))
    (hr : Steps p.tables e below (T.setTop { g with pc := g.pc + 1, stack := .long (fJ j.toNatClampNeg) :: rest }) target) : Steps p.tables e below (T.setTop g) target := by
  obtain ⟨cl, A, S, M, H⟩ := A
  exact X.laload hx (j := j) (by rw [eT]; exact A.1) (State.isArrayOf_alike hZ.alike A.2.1) A.2.2 (inb_of S q) (H _ (own_lt_nat q)) hg hs hd _ hr
theorem own_stI (X : Stand p l e R s m args below meth c T locs cells slots) (hx : p.tables.exec = Jvm.exec) (hZ : Z.Warmed39 s.vm) (eT : T.heap = h) (A : own_AI Z h a .int N f) {j x : Int32} (q : ¬ j < 0 ∧ j < N) {g : JFrame} (hg : g.method = m) {rest : List Value} (hs : g.stack = .int x :: .int j :: .ref a :: rest) (hd : decode c.code g.pc = .ok (.iastore, 1)) :
    ∃ T' h', Stand p l e R s m args below meth c T' (locs ++ [⟨a, j.toNatClampNeg⟩]) cells slots ∧ T'.heap = h' ∧ Wr h h' a j.toNatClampNeg (.int x) ∧ own_AI Z h' a .int N (own_up f j.toNatClampNeg x) ∧ ∀ target, Steps p.tables e below (T'.setTop { g with pc := g.pc + 1, stack := rest }) target → Steps p.tables e below (T.setTop g) target := by
  have A' := A
  obtain ⟨cl, A, S, M, H⟩ := A
  obtain ⟨T', h', X', e', W', st⟩ := stI X hx hZ eT A (j := j) (inb_of S q) hg hs hd
  exact ⟨T', h', X', e', W', A'.set W', st⟩
theorem own_stB (X : Stand p l e R s m args below meth c T locs cells slots) (hx : p.tables.exec = Jvm.exec) (hZ : Z.Warmed39 s.vm) (eT : T.heap = h) (A : own_AI Z h a .byte N f) {j x : Int32} (q : ¬ j < 0 ∧ j < N) {g : JFrame} (hg : g.method = m) {rest : List Value} (hs : g.stack = .int x :: .int j :: .ref a :: rest) (hd : decode c.code g.pc = .ok (.bastore, 1)) :
    ∃ T' h', Stand p l e R s m args below meth c T' (locs ++ [⟨a, j.toNatClampNeg⟩]) cells slots ∧ T'.heap = h' ∧ Wr h h' a j.toNatClampNeg (.int x.toInt8.toInt32) ∧ own_AI Z h' a .byte N (own_up f j.toNatClampNeg x.toInt8.toInt32) ∧ ∀ target, Steps p.tables e below (T'.setTop { g with pc := g.pc + 1, stack := rest }) target → Steps p.tables e below (T.setTop g) target := by
  have A' := A
  obtain ⟨cl, A, S, M, H⟩ := A
  obtain ⟨T', h', X', e', W', st⟩ := stB X hx hZ eT A (j := j) (inb_of S q) hg hs hd
  exact ⟨T', h', X', e', W', A'.set W', st⟩
theorem own_stJ (X : Stand p l e R s m args below meth c T locs cells slots) (hx : p.tables.exec = Jvm.exec) (hZ : Z.Warmed39 s.vm) (eT : T.heap = h) (A : own_AJ Z h a N fJ) {j : Int32} {x : Int64} (q : ¬ j < 0 ∧ j < N) {g : JFrame} (hg : g.method = m) {rest : List Value} (hs : g.stack = .long x :: .int j :: .ref a :: rest) (hd : decode c.code g.pc = .ok (.lastore, 1)) :
    ∃ T' h', Stand p l e R s m args below meth c T' (locs ++ [⟨a, j.toNatClampNeg⟩]) cells slots ∧ T'.heap = h' ∧ Wr h h' a j.toNatClampNeg (.long x) ∧ own_AJ Z h' a N (own_up fJ j.toNatClampNeg x) ∧ ∀ target, Steps p.tables e below (T'.setTop { g with pc := g.pc + 1, stack := rest }) target → Steps p.tables e below (T.setTop g) target := by
  have A' := A
  obtain ⟨cl, A, S, M, H⟩ := A
  obtain ⟨T', h', X', e', W', st⟩ := stJ X hx hZ eT A (j := j) (inb_of S q) hg hs hd
  exact ⟨T', h', X', e', W', A'.set W', st⟩
theorem own_newI (X : Stand p l e R s m args below meth c T locs cells slots) (hx : p.tables.exec = Jvm.exec) (hZ : Z.Warmed39 s.vm) {aty : ArrayType} (w : (Cond.arrayClass (newarray.typeOf aty)).before a0 Z = true) (hdv : defaultValue (newarray.typeOf aty) = .int 0) (eT : T.heap = h) {g : JFrame} (hg : g.method = m) (hd : decode c.code g.pc = .ok (.newarray aty, 2)) {n : Int32} {rest : List Value} (hs : g.stack = .int n :: rest)
    (hn : ¬ n < 0) {cap : Nat} (hcap : n.toNatClampNeg ≤ cap) (hb : cap * 8 ≤ 536870912) (hc : cells + 1 ≤ R.cells) (hl : slots + cap ≤ R.slots) :
    ∃ T' h', Stand p l e R s m args below meth c T' locs (cells + 1) (slots + cap) ∧ T'.heap = h' ∧ Ext h h' ∧ own_AI Z h' h.size (newarray.typeOf aty) n (fun _ => 0) ∧ ∀ target, Steps p.tables e below (T'.setTop { g with pc := g.pc + 2, stack := .ref h.size :: rest }) target → Steps p.tables e below (T.setTop g) target := by
  obtain ⟨T', h', k, X', e', E', A', st⟩ := newP X hx hZ w eT hg hd hs hn hcap hb hc hl
  exact ⟨T', h', X', e', E', own_AI.fresh A' hdv hn, st⟩
theorem own_newJ (X : Stand p l e R s m args below meth c T locs cells slots) (hx : p.tables.exec = Jvm.exec) (hZ : Z.Warmed39 s.vm) (w : (Cond.arrayClass .long).before a0 Z = true) (eT : T.heap = h) {g : JFrame} (hg : g.method = m) (hd : decode c.code g.pc = .ok (.newarray .long, 2)) {n : Int32} {rest : List Value} (hs : g.stack = .int n :: rest)
    (hn : ¬ n < 0) {cap : Nat} (hcap : n.toNatClampNeg ≤ cap) (hb : cap * 8 ≤ 536870912) (hc : cells + 1 ≤ R.cells) (hl : slots + cap ≤ R.slots) :
    ∃ T' h', Stand p l e R s m args below meth c T' locs (cells + 1) (slots + cap) ∧ T'.heap = h' ∧ Ext h h' ∧ own_AJ Z h' h.size n (fun _ => 0) ∧ ∀ target, Steps p.tables e below (T'.setTop { g with pc := g.pc + 2, stack := .ref h.size :: rest }) target → Steps p.tables e below (T.setTop g) target := by
  obtain ⟨T', h', k, X', e', E', A', st⟩ := newP (aty := .long) X hx hZ w eT hg hd hs hn hcap hb hc hl
  exact ⟨T', h', X', e', E', own_AJ.fresh A' hn, st⟩
theorem own_ne_obj {C : String} {k : Nat} (F : Exa Z h a C) (wi : (Cond.instantiable C k).before a0 Z = true) (A : own_AI Z h b ty N f) : a ≠ b := by obtain ⟨c, A, -⟩ := A; exact ne_arr F wi A
theorem own_ne_objJ {C : String} {k : Nat} (F : Exa Z h a C) (wi : (Cond.instantiable C k).before a0 Z = true) (A : own_AJ Z h b N fJ) : a ≠ b := by obtain ⟨c, A, -⟩ := A; exact ne_arr F wi A
theorem own_selp {s : State} {b0 args : Array Value} {y : MethodName} {n : Nat} (wi : (Cond.instantiable y.cls n).before b0 s = true) (hp : s.PrivateAt y) (hi : (Cond.instanceMethod y).before b0 s = true) (hy : y.cls ≠ "java/lang/invoke/MethodHandle" ∧ y.cls ≠ "java/lang/invoke/VarHandle") : (Cond.selects y.cls y y).before args s = true := by
  obtain ⟨c, k, hc, hk, -, hab, -, -⟩ := Cond.instantiable_spec wi
  have hni : k.isInterface = false := by
    cases q : k.isInterface with
    | false => rfl
    | true => rw [q] at hab; simp at hab
  have r := selects_self_of_private (args := b0) hc hk hni hp hi hy
  exact r
end OwnLayer
/-! OWN LAYER: machine numbers as integers -/
section OwnNums
variable {x y : Int32} {u v : Int64} {a b : Int}
theorem own_i_add (hx : x.toInt = a) (hy : y.toInt = b) (h : -2147483648 ≤ a + b ∧ a + b < 2147483648) : (x + y).toInt = a + b := by
  rw [Jvm.Free.XT.add32 (by rw [hx, hy]; exact h), hx, hy]
theorem own_i_sub (hx : x.toInt = a) (hy : y.toInt = b) (h : -2147483648 ≤ a - b ∧ a - b < 2147483648) : (x - y).toInt = a - b := by
  rw [Jvm.Free.XT.sub32 (by rw [hx, hy]; exact h), hx, hy]
theorem own_i_mul (hx : x.toInt = a) (hy : y.toInt = b) (h : -2147483648 ≤ a * b ∧ a * b < 2147483648) : (x * y).toInt = a * b := by
  rw [Jvm.Free.XT.mul32 (by rw [hx, hy]; exact h), hx, hy]
theorem own_i_div (hx : x.toInt = a) (hy : y.toInt = b) (h : 0 ≤ a ∧ 0 < b) : (x / y).toInt = a / b := by
  rw [(c_idiv x y b hy (fun q => by rw [q] at hy; have : (-1 : Int32).toInt = -1 := rfl; omega)).1 (by omega), hx]
theorem own_i_mod (hx : x.toInt = a) (hy : y.toInt = b) (h : 0 ≤ a ∧ 0 < b) : (x % y).toInt = a % b := by
  rw [(c_irem x y b hy).1 (by omega), hx]
theorem own_l_add (hu : u.toInt = a) (hv : v.toInt = b) (h : -9223372036854775808 ≤ a + b ∧ a + b < 9223372036854775808) : (u + v).toInt = a + b := by
  rw [Jvm.Free.XT.add64 (by rw [hu, hv]; exact h), hu, hv]
theorem own_l_sub (hu : u.toInt = a) (hv : v.toInt = b) (h : -9223372036854775808 ≤ a - b ∧ a - b < 9223372036854775808) : (u - v).toInt = a - b := by
  rw [Jvm.Free.XT.sub64 (by rw [hu, hv]; exact h), hu, hv]
theorem own_l_mul (hu : u.toInt = a) (hv : v.toInt = b) (h : -9223372036854775808 ≤ a * b ∧ a * b < 9223372036854775808) : (u * v).toInt = a * b := by
  rw [Jvm.Free.XT.mul64 (by rw [hu, hv]; exact h), hu, hv]
theorem own_l_div (hu : u.toInt = a) (hv : v.toInt = b) (h : 0 ≤ a ∧ 0 < b) : (u / v).toInt = a / b := by
  rw [(c_ldiv u v b hv (fun q => by rw [q] at hv; have : (-1 : Int64).toInt = -1 := rfl; omega)).1 (by omega), hu]
theorem own_l_divN (hu : u.toInt = a) (hv : v.toInt = b) (h : a < 0 ∧ 0 < b) : (u / v).toInt = -((-a) / b) := by
  rw [(c_ldiv u v b hv (fun q => by rw [q] at hv; have : (-1 : Int64).toInt = -1 := rfl; omega)).2 (by omega), hu]
theorem own_i2l (hx : x.toInt = a) : (x.toInt64).toInt = a := by rw [c_i2l, hx]
theorem own_l2i (hu : u.toInt = a) (h : -2147483648 ≤ a ∧ a < 2147483648) : (u.toInt32).toInt = a := by
  have h1 := c_l2i u; have h2 := rng32 u.toInt32; omega
theorem own_i_mask (m : Int32) (k : Nat) (hk : k ≤ 31) (hm : m.toBitVec.toNat = 2 ^ k - 1) (hx : x.toInt = a) : (x &&& m).toInt = a % (2 ^ k : Nat) := by rw [c_mask x m k hk hm, hx]
theorem own_i_lt (hx : x.toInt = a) (hy : y.toInt = b) : x < y ↔ a < b := by rw [Int32.lt_iff_toInt_lt, hx, hy]
theorem own_l_lt (hu : u.toInt = a) (hv : v.toInt = b) : u < v ↔ a < b := by rw [Int64.lt_iff_toInt_lt, hu, hv]
theorem own_i_eq (hx : x.toInt = a) (hy : y.toInt = b) : x = y ↔ a = b := by rw [← Int32.toInt_inj, hx, hy]
theorem own_l_eq (hu : u.toInt = a) (hv : v.toInt = b) : u = v ↔ a = b := by rw [← Int64.toInt_inj, hu, hv]
theorem own_i_nat (hx : x.toInt = a) (h : 0 ≤ a) : x.toNatClampNeg = a.toNat := by show x.toInt.toNat = a.toNat; rw [hx]
theorem own_i_of (h : x.toInt = y.toInt) : x = y := Int32.toInt_inj.mp h
theorem own_l_of (h : u.toInt = v.toInt) : u = v := Int64.toInt_inj.mp h
end OwnNums
theorem d1_0 : decode prog_20_method_4_code 0 = .ok (.iload_n 0, 1) := by decide +kernel
theorem d1_1 : decode prog_20_method_4_code 1 = .ok (.tableswitch 117 3 27 #[115, 115, 115, 117, 117, 117, 117, 117, 117, 117, 115, 115, 115, 117, 117, 117, 117, 117, 117, 117, 117, 117, 117, 117, 115], 115) := by decide +kernel
theorem d1_116 : decode prog_20_method_4_code 116 = .ok (.iconst 1, 1) := by decide +kernel
theorem d1_117 : decode prog_20_method_4_code 117 = .ok (.ireturn, 1) := by decide +kernel
theorem d1_118 : decode prog_20_method_4_code 118 = .ok (.iconst 0, 1) := by decide +kernel
theorem d1_119 : decode prog_20_method_4_code 119 = .ok (.ireturn, 1) := by decide +kernel
theorem pn_1 : plainName "com/example/millrace/millrace/binlog/EventType" = true := by first | (simp [plainName, overriddenIn]; done) | decide +kernel
theorem ef_1 (m : MethodId) (x0 : Int32) : entryFrame m #[(.int x0)] 1 = mkF m 0 #[.val (.int x0)] [] := by first | (simp [entryFrame, mkF, argsToLocals, Value.category]; done) | rfl
theorem own_out1 {k : Int32} (h0 : ¬ k = (3 : Int32)) (h1 : ¬ k = (4 : Int32)) (h2 : ¬ k = (5 : Int32)) (h3 : ¬ k = (6 : Int32)) (h4 : ¬ k = (7 : Int32)) (h5 : ¬ k = (8 : Int32)) (h6 : ¬ k = (9 : Int32)) (h7 : ¬ k = (10 : Int32)) (h8 : ¬ k = (11 : Int32)) (h9 : ¬ k = (12 : Int32)) (h10 : ¬ k = (13 : Int32)) (h11 : ¬ k = (14 : Int32)) (h12 : ¬ k = (15 : Int32)) (h13 : ¬ k = (16 : Int32)) (h14 : ¬ k = (17 : Int32)) (h15 : ¬ k = (18 : Int32)) (h16 : ¬ k = (19 : Int32)) (h17 : ¬ k = (20 : Int32)) (h18 : ¬ k = (21 : Int32)) (h19 : ¬ k = (22 : Int32)) (h20 : ¬ k = (23 : Int32)) (h21 : ¬ k = (24 : Int32)) (h22 : ¬ k = (25 : Int32)) (h23 : ¬ k = (26 : Int32)) (h24 : ¬ k = (27 : Int32)) : k.toInt < 3 ∨ k.toInt > 27 := by
  have g0 : k.toInt ≠ 3 := fun u => h0 (Int32.toInt_inj.mp u)
  have g1 : k.toInt ≠ 4 := fun u => h1 (Int32.toInt_inj.mp u)
  have g2 : k.toInt ≠ 5 := fun u => h2 (Int32.toInt_inj.mp u)
  have g3 : k.toInt ≠ 6 := fun u => h3 (Int32.toInt_inj.mp u)
  have g4 : k.toInt ≠ 7 := fun u => h4 (Int32.toInt_inj.mp u)
  have g5 : k.toInt ≠ 8 := fun u => h5 (Int32.toInt_inj.mp u)
  have g6 : k.toInt ≠ 9 := fun u => h6 (Int32.toInt_inj.mp u)
  have g7 : k.toInt ≠ 10 := fun u => h7 (Int32.toInt_inj.mp u)
  have g8 : k.toInt ≠ 11 := fun u => h8 (Int32.toInt_inj.mp u)
  have g9 : k.toInt ≠ 12 := fun u => h9 (Int32.toInt_inj.mp u)
  have g10 : k.toInt ≠ 13 := fun u => h10 (Int32.toInt_inj.mp u)
  have g11 : k.toInt ≠ 14 := fun u => h11 (Int32.toInt_inj.mp u)
  have g12 : k.toInt ≠ 15 := fun u => h12 (Int32.toInt_inj.mp u)
  have g13 : k.toInt ≠ 16 := fun u => h13 (Int32.toInt_inj.mp u)
  have g14 : k.toInt ≠ 17 := fun u => h14 (Int32.toInt_inj.mp u)
  have g15 : k.toInt ≠ 18 := fun u => h15 (Int32.toInt_inj.mp u)
  have g16 : k.toInt ≠ 19 := fun u => h16 (Int32.toInt_inj.mp u)
  have g17 : k.toInt ≠ 20 := fun u => h17 (Int32.toInt_inj.mp u)
  have g18 : k.toInt ≠ 21 := fun u => h18 (Int32.toInt_inj.mp u)
  have g19 : k.toInt ≠ 22 := fun u => h19 (Int32.toInt_inj.mp u)
  have g20 : k.toInt ≠ 23 := fun u => h20 (Int32.toInt_inj.mp u)
  have g21 : k.toInt ≠ 24 := fun u => h21 (Int32.toInt_inj.mp u)
  have g22 : k.toInt ≠ 25 := fun u => h22 (Int32.toInt_inj.mp u)
  have g23 : k.toInt ≠ 26 := fun u => h23 (Int32.toInt_inj.mp u)
  have g24 : k.toInt ≠ 27 := fun u => h24 (Int32.toInt_inj.mp u)
  omega
def own_car (p0 : Int32) : Int32 := (if p0 = (3 : Int32) then (1 : Int32) else (if p0 = (4 : Int32) then (1 : Int32) else (if p0 = (5 : Int32) then (1 : Int32) else (if p0 = (6 : Int32) then (0 : Int32) else (if p0 = (7 : Int32) then (0 : Int32) else (if p0 = (8 : Int32) then (0 : Int32) else (if p0 = (9 : Int32) then (0 : Int32) else (if p0 = (10 : Int32) then (0 : Int32) else (if p0 = (11 : Int32) then (0 : Int32) else (if p0 = (12 : Int32) then (0 : Int32) else (if p0 = (13 : Int32) then (1 : Int32) else (if p0 = (14 : Int32) then (1 : Int32) else (if p0 = (15 : Int32) then (1 : Int32) else (if p0 = (16 : Int32) then (0 : Int32) else (if p0 = (17 : Int32) then (0 : Int32) else (if p0 = (18 : Int32) then (0 : Int32) else (if p0 = (19 : Int32) then (0 : Int32) else (if p0 = (20 : Int32) then (0 : Int32) else (if p0 = (21 : Int32) then (0 : Int32) else (if p0 = (22 : Int32) then (0 : Int32) else (if p0 = (23 : Int32) then (0 : Int32) else (if p0 = (24 : Int32) then (0 : Int32) else (if p0 = (25 : Int32) then (0 : Int32) else (if p0 = (26 : Int32) then (0 : Int32) else (if p0 = (27 : Int32) then (1 : Int32) else (0 : Int32))))))))))))))))))))))))))
def Q1 (Z : State) (p0 : Int32) (h0 : Heap) (n0 : Nat) (v : Option Value) (h : Heap) (L : List Loc) : Prop := v = some (.int (own_car p0)) ∧ Fr n0 L ∧ h = h0
set_option maxRecDepth 65536 in
set_option maxHeartbeats 40000000 in
theorem rm1 (l : Launch) (Z : State) (a0 : Array Value) (hw : ∀ d ∈ tables_1, d.before a0 Z = true) (ws : List Jvm.Cond) (p0 : Int32) (h0 : Heap) (n0 : Nat) (Z0 : n0 ≤ h0.size)  :
    MetFree l (⟨"com/example/millrace/millrace/binlog/EventType", "carriesNoChange", "(I)Z"⟩ : MethodName) (head1 (Jvm.Cond.code (⟨"com/example/millrace/millrace/binlog/EventType", "carriesNoChange", "(I)Z"⟩ : MethodName) prog_20_method_4_code 1 (some .boolean) :: ws) ({ frames := 0, cells := 0, slots := 0, locals := 0 } : Room)) (fun a_ U_ => a_ = #[(.int p0)] ∧ Z.Warmed39 U_.vm ∧ U_.heap = h0) (fun _ _ _ _ _ => True) (fun _ U_ o_ U' => ∃ v_ L_, o_ = .returned v_ ∧ (Q1 Z p0 h0 n0 v_ U'.heap L_) ∧ FrameEnd U_ o_ U' L_ ({ frames := 0, cells := 0, slots := 0, locals := 0 } : Room).cells ({ frames := 0, cells := 0, slots := 0, locals := 0 } : Room).slots) := by
  refine MetFree.of_bodySF (plainFor_of_name pn_1) hisR ?_
  intro p e s m args below meth c s₁ Bd hml0 hP hK
  obtain ⟨rfl, hZ, hh⟩ := hP
  have hx := Bd.exec
  have hby := Bd.bytes
  have hml : c.maxLocals = 1 := hml0
  have hown : s.vm.findClass "com/example/millrace/millrace/binlog/EventType" = some m.cls := findClass_of_methodNamed Bd.named
  have hnm := (name_of_methodNamed Bd.named Bd.method).1
  have X0 : Stand p l e ({ frames := 0, cells := 0, slots := 0, locals := 0 } : Room) s m #[(.int p0)] below meth c s₁ [] 0 0 := Stand.of_body Bd
  have e0 : s₁.heap = h0 := by rw [← hh, Bd.state]; rfl
  have N0 := Fr.nil n0
  have pre0 : ∀ t, Steps p.tables e below (s₁.setTop (mkF m 0 #[.val (.int p0)] [])) t → Steps p.tables e below (s₁.setTop (entryFrame m #[(.int p0)] 1)) t := fun t k => castTop (ef_1 m p0) k
  obtain ⟨fs, hr, hrun, hended, hW, hsame⟩ := X0.leave (v := some (.int (own_car p0))) (fun h => by rw [Bd.returns] at h; cases h)
  refine ⟨_, _, pre0 _ ?_, hrun, hended, _, _, rfl, ⟨rfl, N0, e0⟩, ⟨_, rfl⟩, hW, hsame.mono (by decide) (by decide)⟩
  show Steps p.tables e below (s₁.setTop (mkF m 0 #[.val (.int p0)] [])) _
  refine XS.iloadN X0.here hx rfl (hb hby d1_0) rfl ?_
  show Steps p.tables e below (s₁.setTop (mkF m 1 #[.val (.int p0)] [(.int p0)])) _
  by_cases hs1_0 : p0 = (3 : Int32)
  · refine X0.tableswitchIn hx (g := (mkF m 1 #[.val (.int p0)] [(.int p0)])) rfl rfl (hb hby d1_1) (by rw [hs1_0]; decide) (off := 115) (by rw [hs1_0]; decide) (show (0 : Int) ≤ ((1 : Nat) : Int) + (115) from by decide) _ ?_
    show Steps p.tables e below (s₁.setTop (mkF m 116 #[.val (.int p0)] [])) _
    refine XS.iconst X0.here hx rfl (hb hby d1_116) ?_
    show Steps p.tables e below (s₁.setTop (mkF m 117 #[.val (.int p0)] [(.int (1 : Int32))])) _
    rw [show (own_car p0) = (1 : Int32) from by unfold own_car; rw [if_pos hs1_0]] at hr
    exact retN X0 hx (t := .boolean) Bd.returns (by simp) (hb hby d1_117) hr
  · by_cases hs1_1 : p0 = (4 : Int32)
    · refine X0.tableswitchIn hx (g := (mkF m 1 #[.val (.int p0)] [(.int p0)])) rfl rfl (hb hby d1_1) (by rw [hs1_1]; decide) (off := 115) (by rw [hs1_1]; decide) (show (0 : Int) ≤ ((1 : Nat) : Int) + (115) from by decide) _ ?_
      show Steps p.tables e below (s₁.setTop (mkF m 116 #[.val (.int p0)] [])) _
      refine XS.iconst X0.here hx rfl (hb hby d1_116) ?_
      show Steps p.tables e below (s₁.setTop (mkF m 117 #[.val (.int p0)] [(.int (1 : Int32))])) _
      rw [show (own_car p0) = (1 : Int32) from by unfold own_car; rw [if_neg hs1_0, if_pos hs1_1]] at hr
      exact retN X0 hx (t := .boolean) Bd.returns (by simp) (hb hby d1_117) hr
    · by_cases hs1_2 : p0 = (5 : Int32)
      · refine X0.tableswitchIn hx (g := (mkF m 1 #[.val (.int p0)] [(.int p0)])) rfl rfl (hb hby d1_1) (by rw [hs1_2]; decide) (off := 115) (by rw [hs1_2]; decide) (show (0 : Int) ≤ ((1 : Nat) : Int) + (115) from by decide) _ ?_
        show Steps p.tables e below (s₁.setTop (mkF m 116 #[.val (.int p0)] [])) _
        refine XS.iconst X0.here hx rfl (hb hby d1_116) ?_
        show Steps p.tables e below (s₁.setTop (mkF m 117 #[.val (.int p0)] [(.int (1 : Int32))])) _
        rw [show (own_car p0) = (1 : Int32) from by unfold own_car; rw [if_neg hs1_0, if_neg hs1_1, if_pos hs1_2]] at hr
        exact retN X0 hx (t := .boolean) Bd.returns (by simp) (hb hby d1_117) hr
      · by_cases hs1_3 : p0 = (6 : Int32)
        · refine X0.tableswitchIn hx (g := (mkF m 1 #[.val (.int p0)] [(.int p0)])) rfl rfl (hb hby d1_1) (by rw [hs1_3]; decide) (off := 117) (by rw [hs1_3]; decide) (show (0 : Int) ≤ ((1 : Nat) : Int) + (117) from by decide) _ ?_
          show Steps p.tables e below (s₁.setTop (mkF m 118 #[.val (.int p0)] [])) _
          refine XS.iconst X0.here hx rfl (hb hby d1_118) ?_
          show Steps p.tables e below (s₁.setTop (mkF m 119 #[.val (.int p0)] [(.int (0 : Int32))])) _
          rw [show (own_car p0) = (0 : Int32) from by unfold own_car; rw [if_neg hs1_0, if_neg hs1_1, if_neg hs1_2, if_pos hs1_3]] at hr
          exact retN X0 hx (t := .boolean) Bd.returns (by simp) (hb hby d1_119) hr
        · by_cases hs1_4 : p0 = (7 : Int32)
          · refine X0.tableswitchIn hx (g := (mkF m 1 #[.val (.int p0)] [(.int p0)])) rfl rfl (hb hby d1_1) (by rw [hs1_4]; decide) (off := 117) (by rw [hs1_4]; decide) (show (0 : Int) ≤ ((1 : Nat) : Int) + (117) from by decide) _ ?_
            show Steps p.tables e below (s₁.setTop (mkF m 118 #[.val (.int p0)] [])) _
            refine XS.iconst X0.here hx rfl (hb hby d1_118) ?_
            show Steps p.tables e below (s₁.setTop (mkF m 119 #[.val (.int p0)] [(.int (0 : Int32))])) _
            rw [show (own_car p0) = (0 : Int32) from by unfold own_car; rw [if_neg hs1_0, if_neg hs1_1, if_neg hs1_2, if_neg hs1_3, if_pos hs1_4]] at hr
            exact retN X0 hx (t := .boolean) Bd.returns (by simp) (hb hby d1_119) hr
          · by_cases hs1_5 : p0 = (8 : Int32)
            · refine X0.tableswitchIn hx (g := (mkF m 1 #[.val (.int p0)] [(.int p0)])) rfl rfl (hb hby d1_1) (by rw [hs1_5]; decide) (off := 117) (by rw [hs1_5]; decide) (show (0 : Int) ≤ ((1 : Nat) : Int) + (117) from by decide) _ ?_
              show Steps p.tables e below (s₁.setTop (mkF m 118 #[.val (.int p0)] [])) _
              refine XS.iconst X0.here hx rfl (hb hby d1_118) ?_
              show Steps p.tables e below (s₁.setTop (mkF m 119 #[.val (.int p0)] [(.int (0 : Int32))])) _
              rw [show (own_car p0) = (0 : Int32) from by unfold own_car; rw [if_neg hs1_0, if_neg hs1_1, if_neg hs1_2, if_neg hs1_3, if_neg hs1_4, if_pos hs1_5]] at hr
              exact retN X0 hx (t := .boolean) Bd.returns (by simp) (hb hby d1_119) hr
            · by_cases hs1_6 : p0 = (9 : Int32)
              · refine X0.tableswitchIn hx (g := (mkF m 1 #[.val (.int p0)] [(.int p0)])) rfl rfl (hb hby d1_1) (by rw [hs1_6]; decide) (off := 117) (by rw [hs1_6]; decide) (show (0 : Int) ≤ ((1 : Nat) : Int) + (117) from by decide) _ ?_
                show Steps p.tables e below (s₁.setTop (mkF m 118 #[.val (.int p0)] [])) _
                refine XS.iconst X0.here hx rfl (hb hby d1_118) ?_
                show Steps p.tables e below (s₁.setTop (mkF m 119 #[.val (.int p0)] [(.int (0 : Int32))])) _
                rw [show (own_car p0) = (0 : Int32) from by unfold own_car; rw [if_neg hs1_0, if_neg hs1_1, if_neg hs1_2, if_neg hs1_3, if_neg hs1_4, if_neg hs1_5, if_pos hs1_6]] at hr
                exact retN X0 hx (t := .boolean) Bd.returns (by simp) (hb hby d1_119) hr
              · by_cases hs1_7 : p0 = (10 : Int32)
                · refine X0.tableswitchIn hx (g := (mkF m 1 #[.val (.int p0)] [(.int p0)])) rfl rfl (hb hby d1_1) (by rw [hs1_7]; decide) (off := 117) (by rw [hs1_7]; decide) (show (0 : Int) ≤ ((1 : Nat) : Int) + (117) from by decide) _ ?_
                  show Steps p.tables e below (s₁.setTop (mkF m 118 #[.val (.int p0)] [])) _
                  refine XS.iconst X0.here hx rfl (hb hby d1_118) ?_
                  show Steps p.tables e below (s₁.setTop (mkF m 119 #[.val (.int p0)] [(.int (0 : Int32))])) _
                  rw [show (own_car p0) = (0 : Int32) from by unfold own_car; rw [if_neg hs1_0, if_neg hs1_1, if_neg hs1_2, if_neg hs1_3, if_neg hs1_4, if_neg hs1_5, if_neg hs1_6, if_pos hs1_7]] at hr
                  exact retN X0 hx (t := .boolean) Bd.returns (by simp) (hb hby d1_119) hr
                · by_cases hs1_8 : p0 = (11 : Int32)
                  · refine X0.tableswitchIn hx (g := (mkF m 1 #[.val (.int p0)] [(.int p0)])) rfl rfl (hb hby d1_1) (by rw [hs1_8]; decide) (off := 117) (by rw [hs1_8]; decide) (show (0 : Int) ≤ ((1 : Nat) : Int) + (117) from by decide) _ ?_
                    show Steps p.tables e below (s₁.setTop (mkF m 118 #[.val (.int p0)] [])) _
                    refine XS.iconst X0.here hx rfl (hb hby d1_118) ?_
                    show Steps p.tables e below (s₁.setTop (mkF m 119 #[.val (.int p0)] [(.int (0 : Int32))])) _
                    rw [show (own_car p0) = (0 : Int32) from by unfold own_car; rw [if_neg hs1_0, if_neg hs1_1, if_neg hs1_2, if_neg hs1_3, if_neg hs1_4, if_neg hs1_5, if_neg hs1_6, if_neg hs1_7, if_pos hs1_8]] at hr
                    exact retN X0 hx (t := .boolean) Bd.returns (by simp) (hb hby d1_119) hr
                  · by_cases hs1_9 : p0 = (12 : Int32)
                    · refine X0.tableswitchIn hx (g := (mkF m 1 #[.val (.int p0)] [(.int p0)])) rfl rfl (hb hby d1_1) (by rw [hs1_9]; decide) (off := 117) (by rw [hs1_9]; decide) (show (0 : Int) ≤ ((1 : Nat) : Int) + (117) from by decide) _ ?_
                      show Steps p.tables e below (s₁.setTop (mkF m 118 #[.val (.int p0)] [])) _
                      refine XS.iconst X0.here hx rfl (hb hby d1_118) ?_
                      show Steps p.tables e below (s₁.setTop (mkF m 119 #[.val (.int p0)] [(.int (0 : Int32))])) _
                      rw [show (own_car p0) = (0 : Int32) from by unfold own_car; rw [if_neg hs1_0, if_neg hs1_1, if_neg hs1_2, if_neg hs1_3, if_neg hs1_4, if_neg hs1_5, if_neg hs1_6, if_neg hs1_7, if_neg hs1_8, if_pos hs1_9]] at hr
                      exact retN X0 hx (t := .boolean) Bd.returns (by simp) (hb hby d1_119) hr
                    · by_cases hs1_10 : p0 = (13 : Int32)
                      · refine X0.tableswitchIn hx (g := (mkF m 1 #[.val (.int p0)] [(.int p0)])) rfl rfl (hb hby d1_1) (by rw [hs1_10]; decide) (off := 115) (by rw [hs1_10]; decide) (show (0 : Int) ≤ ((1 : Nat) : Int) + (115) from by decide) _ ?_
                        show Steps p.tables e below (s₁.setTop (mkF m 116 #[.val (.int p0)] [])) _
                        refine XS.iconst X0.here hx rfl (hb hby d1_116) ?_
                        show Steps p.tables e below (s₁.setTop (mkF m 117 #[.val (.int p0)] [(.int (1 : Int32))])) _
                        rw [show (own_car p0) = (1 : Int32) from by unfold own_car; rw [if_neg hs1_0, if_neg hs1_1, if_neg hs1_2, if_neg hs1_3, if_neg hs1_4, if_neg hs1_5, if_neg hs1_6, if_neg hs1_7, if_neg hs1_8, if_neg hs1_9, if_pos hs1_10]] at hr
                        exact retN X0 hx (t := .boolean) Bd.returns (by simp) (hb hby d1_117) hr
                      · by_cases hs1_11 : p0 = (14 : Int32)
                        · refine X0.tableswitchIn hx (g := (mkF m 1 #[.val (.int p0)] [(.int p0)])) rfl rfl (hb hby d1_1) (by rw [hs1_11]; decide) (off := 115) (by rw [hs1_11]; decide) (show (0 : Int) ≤ ((1 : Nat) : Int) + (115) from by decide) _ ?_
                          show Steps p.tables e below (s₁.setTop (mkF m 116 #[.val (.int p0)] [])) _
                          refine XS.iconst X0.here hx rfl (hb hby d1_116) ?_
                          show Steps p.tables e below (s₁.setTop (mkF m 117 #[.val (.int p0)] [(.int (1 : Int32))])) _
                          rw [show (own_car p0) = (1 : Int32) from by unfold own_car; rw [if_neg hs1_0, if_neg hs1_1, if_neg hs1_2, if_neg hs1_3, if_neg hs1_4, if_neg hs1_5, if_neg hs1_6, if_neg hs1_7, if_neg hs1_8, if_neg hs1_9, if_neg hs1_10, if_pos hs1_11]] at hr
                          exact retN X0 hx (t := .boolean) Bd.returns (by simp) (hb hby d1_117) hr
                        · by_cases hs1_12 : p0 = (15 : Int32)
                          · refine X0.tableswitchIn hx (g := (mkF m 1 #[.val (.int p0)] [(.int p0)])) rfl rfl (hb hby d1_1) (by rw [hs1_12]; decide) (off := 115) (by rw [hs1_12]; decide) (show (0 : Int) ≤ ((1 : Nat) : Int) + (115) from by decide) _ ?_
                            show Steps p.tables e below (s₁.setTop (mkF m 116 #[.val (.int p0)] [])) _
                            refine XS.iconst X0.here hx rfl (hb hby d1_116) ?_
                            show Steps p.tables e below (s₁.setTop (mkF m 117 #[.val (.int p0)] [(.int (1 : Int32))])) _
                            rw [show (own_car p0) = (1 : Int32) from by unfold own_car; rw [if_neg hs1_0, if_neg hs1_1, if_neg hs1_2, if_neg hs1_3, if_neg hs1_4, if_neg hs1_5, if_neg hs1_6, if_neg hs1_7, if_neg hs1_8, if_neg hs1_9, if_neg hs1_10, if_neg hs1_11, if_pos hs1_12]] at hr
                            exact retN X0 hx (t := .boolean) Bd.returns (by simp) (hb hby d1_117) hr
                          · by_cases hs1_13 : p0 = (16 : Int32)
                            · refine X0.tableswitchIn hx (g := (mkF m 1 #[.val (.int p0)] [(.int p0)])) rfl rfl (hb hby d1_1) (by rw [hs1_13]; decide) (off := 117) (by rw [hs1_13]; decide) (show (0 : Int) ≤ ((1 : Nat) : Int) + (117) from by decide) _ ?_
                              show Steps p.tables e below (s₁.setTop (mkF m 118 #[.val (.int p0)] [])) _
                              refine XS.iconst X0.here hx rfl (hb hby d1_118) ?_
                              show Steps p.tables e below (s₁.setTop (mkF m 119 #[.val (.int p0)] [(.int (0 : Int32))])) _
                              rw [show (own_car p0) = (0 : Int32) from by unfold own_car; rw [if_neg hs1_0, if_neg hs1_1, if_neg hs1_2, if_neg hs1_3, if_neg hs1_4, if_neg hs1_5, if_neg hs1_6, if_neg hs1_7, if_neg hs1_8, if_neg hs1_9, if_neg hs1_10, if_neg hs1_11, if_neg hs1_12, if_pos hs1_13]] at hr
                              exact retN X0 hx (t := .boolean) Bd.returns (by simp) (hb hby d1_119) hr
                            · by_cases hs1_14 : p0 = (17 : Int32)
                              · refine X0.tableswitchIn hx (g := (mkF m 1 #[.val (.int p0)] [(.int p0)])) rfl rfl (hb hby d1_1) (by rw [hs1_14]; decide) (off := 117) (by rw [hs1_14]; decide) (show (0 : Int) ≤ ((1 : Nat) : Int) + (117) from by decide) _ ?_
                                show Steps p.tables e below (s₁.setTop (mkF m 118 #[.val (.int p0)] [])) _
                                refine XS.iconst X0.here hx rfl (hb hby d1_118) ?_
                                show Steps p.tables e below (s₁.setTop (mkF m 119 #[.val (.int p0)] [(.int (0 : Int32))])) _
                                rw [show (own_car p0) = (0 : Int32) from by unfold own_car; rw [if_neg hs1_0, if_neg hs1_1, if_neg hs1_2, if_neg hs1_3, if_neg hs1_4, if_neg hs1_5, if_neg hs1_6, if_neg hs1_7, if_neg hs1_8, if_neg hs1_9, if_neg hs1_10, if_neg hs1_11, if_neg hs1_12, if_neg hs1_13, if_pos hs1_14]] at hr
                                exact retN X0 hx (t := .boolean) Bd.returns (by simp) (hb hby d1_119) hr
                              · by_cases hs1_15 : p0 = (18 : Int32)
                                · refine X0.tableswitchIn hx (g := (mkF m 1 #[.val (.int p0)] [(.int p0)])) rfl rfl (hb hby d1_1) (by rw [hs1_15]; decide) (off := 117) (by rw [hs1_15]; decide) (show (0 : Int) ≤ ((1 : Nat) : Int) + (117) from by decide) _ ?_
                                  show Steps p.tables e below (s₁.setTop (mkF m 118 #[.val (.int p0)] [])) _
                                  refine XS.iconst X0.here hx rfl (hb hby d1_118) ?_
                                  show Steps p.tables e below (s₁.setTop (mkF m 119 #[.val (.int p0)] [(.int (0 : Int32))])) _
                                  rw [show (own_car p0) = (0 : Int32) from by unfold own_car; rw [if_neg hs1_0, if_neg hs1_1, if_neg hs1_2, if_neg hs1_3, if_neg hs1_4, if_neg hs1_5, if_neg hs1_6, if_neg hs1_7, if_neg hs1_8, if_neg hs1_9, if_neg hs1_10, if_neg hs1_11, if_neg hs1_12, if_neg hs1_13, if_neg hs1_14, if_pos hs1_15]] at hr
                                  exact retN X0 hx (t := .boolean) Bd.returns (by simp) (hb hby d1_119) hr
                                · by_cases hs1_16 : p0 = (19 : Int32)
                                  · refine X0.tableswitchIn hx (g := (mkF m 1 #[.val (.int p0)] [(.int p0)])) rfl rfl (hb hby d1_1) (by rw [hs1_16]; decide) (off := 117) (by rw [hs1_16]; decide) (show (0 : Int) ≤ ((1 : Nat) : Int) + (117) from by decide) _ ?_
                                    show Steps p.tables e below (s₁.setTop (mkF m 118 #[.val (.int p0)] [])) _
                                    refine XS.iconst X0.here hx rfl (hb hby d1_118) ?_
                                    show Steps p.tables e below (s₁.setTop (mkF m 119 #[.val (.int p0)] [(.int (0 : Int32))])) _
                                    rw [show (own_car p0) = (0 : Int32) from by unfold own_car; rw [if_neg hs1_0, if_neg hs1_1, if_neg hs1_2, if_neg hs1_3, if_neg hs1_4, if_neg hs1_5, if_neg hs1_6, if_neg hs1_7, if_neg hs1_8, if_neg hs1_9, if_neg hs1_10, if_neg hs1_11, if_neg hs1_12, if_neg hs1_13, if_neg hs1_14, if_neg hs1_15, if_pos hs1_16]] at hr
                                    exact retN X0 hx (t := .boolean) Bd.returns (by simp) (hb hby d1_119) hr
                                  · by_cases hs1_17 : p0 = (20 : Int32)
                                    · refine X0.tableswitchIn hx (g := (mkF m 1 #[.val (.int p0)] [(.int p0)])) rfl rfl (hb hby d1_1) (by rw [hs1_17]; decide) (off := 117) (by rw [hs1_17]; decide) (show (0 : Int) ≤ ((1 : Nat) : Int) + (117) from by decide) _ ?_
                                      show Steps p.tables e below (s₁.setTop (mkF m 118 #[.val (.int p0)] [])) _
                                      refine XS.iconst X0.here hx rfl (hb hby d1_118) ?_
                                      show Steps p.tables e below (s₁.setTop (mkF m 119 #[.val (.int p0)] [(.int (0 : Int32))])) _
                                      rw [show (own_car p0) = (0 : Int32) from by unfold own_car; rw [if_neg hs1_0, if_neg hs1_1, if_neg hs1_2, if_neg hs1_3, if_neg hs1_4, if_neg hs1_5, if_neg hs1_6, if_neg hs1_7, if_neg hs1_8, if_neg hs1_9, if_neg hs1_10, if_neg hs1_11, if_neg hs1_12, if_neg hs1_13, if_neg hs1_14, if_neg hs1_15, if_neg hs1_16, if_pos hs1_17]] at hr
                                      exact retN X0 hx (t := .boolean) Bd.returns (by simp) (hb hby d1_119) hr
                                    · by_cases hs1_18 : p0 = (21 : Int32)
                                      · refine X0.tableswitchIn hx (g := (mkF m 1 #[.val (.int p0)] [(.int p0)])) rfl rfl (hb hby d1_1) (by rw [hs1_18]; decide) (off := 117) (by rw [hs1_18]; decide) (show (0 : Int) ≤ ((1 : Nat) : Int) + (117) from by decide) _ ?_
                                        show Steps p.tables e below (s₁.setTop (mkF m 118 #[.val (.int p0)] [])) _
                                        refine XS.iconst X0.here hx rfl (hb hby d1_118) ?_
                                        show Steps p.tables e below (s₁.setTop (mkF m 119 #[.val (.int p0)] [(.int (0 : Int32))])) _
                                        rw [show (own_car p0) = (0 : Int32) from by unfold own_car; rw [if_neg hs1_0, if_neg hs1_1, if_neg hs1_2, if_neg hs1_3, if_neg hs1_4, if_neg hs1_5, if_neg hs1_6, if_neg hs1_7, if_neg hs1_8, if_neg hs1_9, if_neg hs1_10, if_neg hs1_11, if_neg hs1_12, if_neg hs1_13, if_neg hs1_14, if_neg hs1_15, if_neg hs1_16, if_neg hs1_17, if_pos hs1_18]] at hr
                                        exact retN X0 hx (t := .boolean) Bd.returns (by simp) (hb hby d1_119) hr
                                      · by_cases hs1_19 : p0 = (22 : Int32)
                                        · refine X0.tableswitchIn hx (g := (mkF m 1 #[.val (.int p0)] [(.int p0)])) rfl rfl (hb hby d1_1) (by rw [hs1_19]; decide) (off := 117) (by rw [hs1_19]; decide) (show (0 : Int) ≤ ((1 : Nat) : Int) + (117) from by decide) _ ?_
                                          show Steps p.tables e below (s₁.setTop (mkF m 118 #[.val (.int p0)] [])) _
                                          refine XS.iconst X0.here hx rfl (hb hby d1_118) ?_
                                          show Steps p.tables e below (s₁.setTop (mkF m 119 #[.val (.int p0)] [(.int (0 : Int32))])) _
                                          rw [show (own_car p0) = (0 : Int32) from by unfold own_car; rw [if_neg hs1_0, if_neg hs1_1, if_neg hs1_2, if_neg hs1_3, if_neg hs1_4, if_neg hs1_5, if_neg hs1_6, if_neg hs1_7, if_neg hs1_8, if_neg hs1_9, if_neg hs1_10, if_neg hs1_11, if_neg hs1_12, if_neg hs1_13, if_neg hs1_14, if_neg hs1_15, if_neg hs1_16, if_neg hs1_17, if_neg hs1_18, if_pos hs1_19]] at hr
                                          exact retN X0 hx (t := .boolean) Bd.returns (by simp) (hb hby d1_119) hr
                                        · by_cases hs1_20 : p0 = (23 : Int32)
                                          · refine X0.tableswitchIn hx (g := (mkF m 1 #[.val (.int p0)] [(.int p0)])) rfl rfl (hb hby d1_1) (by rw [hs1_20]; decide) (off := 117) (by rw [hs1_20]; decide) (show (0 : Int) ≤ ((1 : Nat) : Int) + (117) from by decide) _ ?_
                                            show Steps p.tables e below (s₁.setTop (mkF m 118 #[.val (.int p0)] [])) _
                                            refine XS.iconst X0.here hx rfl (hb hby d1_118) ?_
                                            show Steps p.tables e below (s₁.setTop (mkF m 119 #[.val (.int p0)] [(.int (0 : Int32))])) _
                                            rw [show (own_car p0) = (0 : Int32) from by unfold own_car; rw [if_neg hs1_0, if_neg hs1_1, if_neg hs1_2, if_neg hs1_3, if_neg hs1_4, if_neg hs1_5, if_neg hs1_6, if_neg hs1_7, if_neg hs1_8, if_neg hs1_9, if_neg hs1_10, if_neg hs1_11, if_neg hs1_12, if_neg hs1_13, if_neg hs1_14, if_neg hs1_15, if_neg hs1_16, if_neg hs1_17, if_neg hs1_18, if_neg hs1_19, if_pos hs1_20]] at hr
                                            exact retN X0 hx (t := .boolean) Bd.returns (by simp) (hb hby d1_119) hr
                                          · by_cases hs1_21 : p0 = (24 : Int32)
                                            · refine X0.tableswitchIn hx (g := (mkF m 1 #[.val (.int p0)] [(.int p0)])) rfl rfl (hb hby d1_1) (by rw [hs1_21]; decide) (off := 117) (by rw [hs1_21]; decide) (show (0 : Int) ≤ ((1 : Nat) : Int) + (117) from by decide) _ ?_
                                              show Steps p.tables e below (s₁.setTop (mkF m 118 #[.val (.int p0)] [])) _
                                              refine XS.iconst X0.here hx rfl (hb hby d1_118) ?_
                                              show Steps p.tables e below (s₁.setTop (mkF m 119 #[.val (.int p0)] [(.int (0 : Int32))])) _
                                              rw [show (own_car p0) = (0 : Int32) from by unfold own_car; rw [if_neg hs1_0, if_neg hs1_1, if_neg hs1_2, if_neg hs1_3, if_neg hs1_4, if_neg hs1_5, if_neg hs1_6, if_neg hs1_7, if_neg hs1_8, if_neg hs1_9, if_neg hs1_10, if_neg hs1_11, if_neg hs1_12, if_neg hs1_13, if_neg hs1_14, if_neg hs1_15, if_neg hs1_16, if_neg hs1_17, if_neg hs1_18, if_neg hs1_19, if_neg hs1_20, if_pos hs1_21]] at hr
                                              exact retN X0 hx (t := .boolean) Bd.returns (by simp) (hb hby d1_119) hr
                                            · by_cases hs1_22 : p0 = (25 : Int32)
                                              · refine X0.tableswitchIn hx (g := (mkF m 1 #[.val (.int p0)] [(.int p0)])) rfl rfl (hb hby d1_1) (by rw [hs1_22]; decide) (off := 117) (by rw [hs1_22]; decide) (show (0 : Int) ≤ ((1 : Nat) : Int) + (117) from by decide) _ ?_
                                                show Steps p.tables e below (s₁.setTop (mkF m 118 #[.val (.int p0)] [])) _
                                                refine XS.iconst X0.here hx rfl (hb hby d1_118) ?_
                                                show Steps p.tables e below (s₁.setTop (mkF m 119 #[.val (.int p0)] [(.int (0 : Int32))])) _
                                                rw [show (own_car p0) = (0 : Int32) from by unfold own_car; rw [if_neg hs1_0, if_neg hs1_1, if_neg hs1_2, if_neg hs1_3, if_neg hs1_4, if_neg hs1_5, if_neg hs1_6, if_neg hs1_7, if_neg hs1_8, if_neg hs1_9, if_neg hs1_10, if_neg hs1_11, if_neg hs1_12, if_neg hs1_13, if_neg hs1_14, if_neg hs1_15, if_neg hs1_16, if_neg hs1_17, if_neg hs1_18, if_neg hs1_19, if_neg hs1_20, if_neg hs1_21, if_pos hs1_22]] at hr
                                                exact retN X0 hx (t := .boolean) Bd.returns (by simp) (hb hby d1_119) hr
                                              · by_cases hs1_23 : p0 = (26 : Int32)
                                                · refine X0.tableswitchIn hx (g := (mkF m 1 #[.val (.int p0)] [(.int p0)])) rfl rfl (hb hby d1_1) (by rw [hs1_23]; decide) (off := 117) (by rw [hs1_23]; decide) (show (0 : Int) ≤ ((1 : Nat) : Int) + (117) from by decide) _ ?_
                                                  show Steps p.tables e below (s₁.setTop (mkF m 118 #[.val (.int p0)] [])) _
                                                  refine XS.iconst X0.here hx rfl (hb hby d1_118) ?_
                                                  show Steps p.tables e below (s₁.setTop (mkF m 119 #[.val (.int p0)] [(.int (0 : Int32))])) _
                                                  rw [show (own_car p0) = (0 : Int32) from by unfold own_car; rw [if_neg hs1_0, if_neg hs1_1, if_neg hs1_2, if_neg hs1_3, if_neg hs1_4, if_neg hs1_5, if_neg hs1_6, if_neg hs1_7, if_neg hs1_8, if_neg hs1_9, if_neg hs1_10, if_neg hs1_11, if_neg hs1_12, if_neg hs1_13, if_neg hs1_14, if_neg hs1_15, if_neg hs1_16, if_neg hs1_17, if_neg hs1_18, if_neg hs1_19, if_neg hs1_20, if_neg hs1_21, if_neg hs1_22, if_pos hs1_23]] at hr
                                                  exact retN X0 hx (t := .boolean) Bd.returns (by simp) (hb hby d1_119) hr
                                                · by_cases hs1_24 : p0 = (27 : Int32)
                                                  · refine X0.tableswitchIn hx (g := (mkF m 1 #[.val (.int p0)] [(.int p0)])) rfl rfl (hb hby d1_1) (by rw [hs1_24]; decide) (off := 115) (by rw [hs1_24]; decide) (show (0 : Int) ≤ ((1 : Nat) : Int) + (115) from by decide) _ ?_
                                                    show Steps p.tables e below (s₁.setTop (mkF m 116 #[.val (.int p0)] [])) _
                                                    refine XS.iconst X0.here hx rfl (hb hby d1_116) ?_
                                                    show Steps p.tables e below (s₁.setTop (mkF m 117 #[.val (.int p0)] [(.int (1 : Int32))])) _
                                                    rw [show (own_car p0) = (1 : Int32) from by unfold own_car; rw [if_neg hs1_0, if_neg hs1_1, if_neg hs1_2, if_neg hs1_3, if_neg hs1_4, if_neg hs1_5, if_neg hs1_6, if_neg hs1_7, if_neg hs1_8, if_neg hs1_9, if_neg hs1_10, if_neg hs1_11, if_neg hs1_12, if_neg hs1_13, if_neg hs1_14, if_neg hs1_15, if_neg hs1_16, if_neg hs1_17, if_neg hs1_18, if_neg hs1_19, if_neg hs1_20, if_neg hs1_21, if_neg hs1_22, if_neg hs1_23, if_pos hs1_24]] at hr
                                                    exact retN X0 hx (t := .boolean) Bd.returns (by simp) (hb hby d1_117) hr
                                                  · refine X0.tableswitchOut hx (g := (mkF m 1 #[.val (.int p0)] [(.int p0)])) rfl rfl (hb hby d1_1) (own_out1 hs1_0 hs1_1 hs1_2 hs1_3 hs1_4 hs1_5 hs1_6 hs1_7 hs1_8 hs1_9 hs1_10 hs1_11 hs1_12 hs1_13 hs1_14 hs1_15 hs1_16 hs1_17 hs1_18 hs1_19 hs1_20 hs1_21 hs1_22 hs1_23 hs1_24) (show (0 : Int) ≤ ((1 : Nat) : Int) + (117) from by decide) _ ?_
                                                    show Steps p.tables e below (s₁.setTop (mkF m 118 #[.val (.int p0)] [])) _
                                                    refine XS.iconst X0.here hx rfl (hb hby d1_118) ?_
                                                    show Steps p.tables e below (s₁.setTop (mkF m 119 #[.val (.int p0)] [(.int (0 : Int32))])) _
                                                    rw [show (own_car p0) = (0 : Int32) from by unfold own_car; rw [if_neg hs1_0, if_neg hs1_1, if_neg hs1_2, if_neg hs1_3, if_neg hs1_4, if_neg hs1_5, if_neg hs1_6, if_neg hs1_7, if_neg hs1_8, if_neg hs1_9, if_neg hs1_10, if_neg hs1_11, if_neg hs1_12, if_neg hs1_13, if_neg hs1_14, if_neg hs1_15, if_neg hs1_16, if_neg hs1_17, if_neg hs1_18, if_neg hs1_19, if_neg hs1_20, if_neg hs1_21, if_neg hs1_22, if_neg hs1_23, if_neg hs1_24]] at hr
                                                    exact retN X0 hx (t := .boolean) Bd.returns (by simp) (hb hby d1_119) hr
theorem d2_0 : decode method_2_code 0 = .ok (.iload_n 0, 1) := by decide +kernel
theorem d2_1 : decode method_2_code 1 = .ok (.bipush 15, 2) := by decide +kernel
theorem d2_3 : decode method_2_code 3 = .ok (.if_icmp .eq 19, 3) := by decide +kernel
theorem d2_6 : decode method_2_code 6 = .ok (.iload_n 0, 1) := by decide +kernel
theorem d2_7 : decode method_2_code 7 = .ok (.iconst 4, 1) := by decide +kernel
theorem d2_8 : decode method_2_code 8 = .ok (.if_icmp .eq 14, 3) := by decide +kernel
theorem d2_11 : decode method_2_code 11 = .ok (.iload_n 0, 1) := by decide +kernel
theorem d2_12 : decode method_2_code 12 = .ok (.iconst 3, 1) := by decide +kernel
theorem d2_13 : decode method_2_code 13 = .ok (.if_icmp .eq 9, 3) := by decide +kernel
theorem d2_16 : decode method_2_code 16 = .ok (.iload_n 0, 1) := by decide +kernel
theorem d2_17 : decode method_2_code 17 = .ok (.bipush 27, 2) := by decide +kernel
theorem d2_19 : decode method_2_code 19 = .ok (.if_icmp .ne 7, 3) := by decide +kernel
theorem d2_22 : decode method_2_code 22 = .ok (.iconst 1, 1) := by decide +kernel
theorem d2_23 : decode method_2_code 23 = .ok (.goto 4, 3) := by decide +kernel
theorem d2_26 : decode method_2_code 26 = .ok (.iconst 0, 1) := by decide +kernel
theorem d2_27 : decode method_2_code 27 = .ok (.istore_n 1, 1) := by decide +kernel
theorem d2_28 : decode method_2_code 28 = .ok (.iload_n 0, 1) := by decide +kernel
theorem d2_29 : decode method_2_code 29 = .ok (.iconst 5, 1) := by decide +kernel
theorem d2_30 : decode method_2_code 30 = .ok (.if_icmp .eq 15, 3) := by decide +kernel
theorem d2_33 : decode method_2_code 33 = .ok (.iload_n 0, 1) := by decide +kernel
theorem d2_34 : decode method_2_code 34 = .ok (.bipush 13, 2) := by decide +kernel
theorem d2_36 : decode method_2_code 36 = .ok (.if_icmp .eq 9, 3) := by decide +kernel
theorem d2_39 : decode method_2_code 39 = .ok (.iload_n 0, 1) := by decide +kernel
theorem d2_40 : decode method_2_code 40 = .ok (.bipush 14, 2) := by decide +kernel
theorem d2_42 : decode method_2_code 42 = .ok (.if_icmp .ne 7, 3) := by decide +kernel
theorem d2_45 : decode method_2_code 45 = .ok (.iconst 1, 1) := by decide +kernel
theorem d2_46 : decode method_2_code 46 = .ok (.goto 4, 3) := by decide +kernel
theorem d2_49 : decode method_2_code 49 = .ok (.iconst 0, 1) := by decide +kernel
theorem d2_50 : decode method_2_code 50 = .ok (.istore_n 2, 1) := by decide +kernel
theorem d2_51 : decode method_2_code 51 = .ok (.iload_n 1, 1) := by decide +kernel
theorem d2_52 : decode method_2_code 52 = .ok (.ifCond .ne 7, 3) := by decide +kernel
theorem d2_55 : decode method_2_code 55 = .ok (.iload_n 2, 1) := by decide +kernel
theorem d2_56 : decode method_2_code 56 = .ok (.ifCond .eq 7, 3) := by decide +kernel
theorem d2_59 : decode method_2_code 59 = .ok (.iconst 1, 1) := by decide +kernel
theorem d2_60 : decode method_2_code 60 = .ok (.goto 4, 3) := by decide +kernel
theorem d2_63 : decode method_2_code 63 = .ok (.iconst 0, 1) := by decide +kernel
theorem d2_64 : decode method_2_code 64 = .ok (.ireturn, 1) := by decide +kernel
theorem pn_2 : plainName "com/example/millrace/millrace/binlog/EventTypeCarriesNoChangePinLaw" = true := by first | (simp [plainName, overriddenIn]; done) | decide +kernel
theorem ef_2 (m : MethodId) (x0 : Int32) : entryFrame m #[(.int x0)] 3 = mkF m 0 #[.val (.int x0), .unset, .unset] [] := by first | (simp [entryFrame, mkF, argsToLocals, Value.category]; done) | rfl
def own_E1_s0 (p0 : Int32) : Int32 := (if p0 = (15 : Int32) then (1 : Int32) else (if p0 = (4 : Int32) then (1 : Int32) else (if p0 = (3 : Int32) then (1 : Int32) else (if p0 = (27 : Int32) then (1 : Int32) else (0 : Int32)))))
set_option maxRecDepth 65536 in
set_option maxHeartbeats 40000000 in
theorem sg_E1 {p : Program} {l : Launch} {e : Env} {R : Room} {s : State} {m : MethodId} {args : Array Value} {below : List Frame} {meth : Method} {c : Code} {T0 : State} {locs : List Loc} {cells slots : Nat} {Z : State} {a0 : Array Value} {h0 : Heap} {target : State} (p0 : Int32) (X0 : Stand p l e R s m args below meth c T0 locs cells slots) (hx : p.tables.exec = Jvm.exec) (hZ : Z.Warmed39 s.vm) (hw : ∀ d ∈ tables_1, d.before a0 Z = true) (hby : c.code = method_2_code) (hown : s.vm.findClass "com/example/millrace/millrace/binlog/EventTypeCarriesNoChangePinLaw" = some m.cls) (e0 : T0.heap = h0) 
    (kt : Steps p.tables e below (T0.setTop (mkF m 27 #[.val (.int p0), .unset, .unset] [(.int (own_E1_s0 p0))])) target) : Steps p.tables e below (T0.setTop (mkF m 0 #[.val (.int p0), .unset, .unset] [])) target := by
  show Steps p.tables e below (T0.setTop (mkF m 0 #[.val (.int p0), .unset, .unset] [])) _
  refine XS.iloadN X0.here hx rfl (hb hby d2_0) rfl ?_
  show Steps p.tables e below (T0.setTop (mkF m 1 #[.val (.int p0), .unset, .unset] [(.int p0)])) _
  refine XS.bipush X0.here hx rfl (hb hby d2_1) ?_
  show Steps p.tables e below (T0.setTop (mkF m 3 #[.val (.int p0), .unset, .unset] [(.int (15 : Int32)), (.int p0)])) _
  by_cases hc3 : p0 = (15 : Int32)
  · refine XS.icmpYes X0.here hx rfl (pc0 := 3) (pc' := 22) rfl (hb hby d2_3) rfl (teq hc3).1 (by decide) (by decide) ?_
    show Steps p.tables e below (T0.setTop (mkF m 22 #[.val (.int p0), .unset, .unset] [])) _
    refine XS.iconst X0.here hx rfl (hb hby d2_22) ?_
    show Steps p.tables e below (T0.setTop (mkF m 23 #[.val (.int p0), .unset, .unset] [(.int (1 : Int32))])) _
    refine XS.goto X0.here hx rfl (pc0 := 23) (pc' := 27) rfl (hb hby d2_23) (by decide) (by decide) ?_
    rw [show (own_E1_s0 p0) = (1 : Int32) from by unfold own_E1_s0; rw [if_pos hc3]] at kt
    exact kt
  · refine XS.icmpNo X0.here hx rfl (hb hby d2_3) rfl (feq hc3).1 ?_
    show Steps p.tables e below (T0.setTop (mkF m 6 #[.val (.int p0), .unset, .unset] [])) _
    refine XS.iloadN X0.here hx rfl (hb hby d2_6) rfl ?_
    show Steps p.tables e below (T0.setTop (mkF m 7 #[.val (.int p0), .unset, .unset] [(.int p0)])) _
    refine XS.iconst X0.here hx rfl (hb hby d2_7) ?_
    show Steps p.tables e below (T0.setTop (mkF m 8 #[.val (.int p0), .unset, .unset] [(.int (4 : Int32)), (.int p0)])) _
    by_cases hc8 : p0 = (4 : Int32)
    · refine XS.icmpYes X0.here hx rfl (pc0 := 8) (pc' := 22) rfl (hb hby d2_8) rfl (teq hc8).1 (by decide) (by decide) ?_
      show Steps p.tables e below (T0.setTop (mkF m 22 #[.val (.int p0), .unset, .unset] [])) _
      refine XS.iconst X0.here hx rfl (hb hby d2_22) ?_
      show Steps p.tables e below (T0.setTop (mkF m 23 #[.val (.int p0), .unset, .unset] [(.int (1 : Int32))])) _
      refine XS.goto X0.here hx rfl (pc0 := 23) (pc' := 27) rfl (hb hby d2_23) (by decide) (by decide) ?_
      rw [show (own_E1_s0 p0) = (1 : Int32) from by unfold own_E1_s0; rw [if_neg hc3, if_pos hc8]] at kt
      exact kt
    · refine XS.icmpNo X0.here hx rfl (hb hby d2_8) rfl (feq hc8).1 ?_
      show Steps p.tables e below (T0.setTop (mkF m 11 #[.val (.int p0), .unset, .unset] [])) _
      refine XS.iloadN X0.here hx rfl (hb hby d2_11) rfl ?_
      show Steps p.tables e below (T0.setTop (mkF m 12 #[.val (.int p0), .unset, .unset] [(.int p0)])) _
      refine XS.iconst X0.here hx rfl (hb hby d2_12) ?_
      show Steps p.tables e below (T0.setTop (mkF m 13 #[.val (.int p0), .unset, .unset] [(.int (3 : Int32)), (.int p0)])) _
      by_cases hc13 : p0 = (3 : Int32)
      · refine XS.icmpYes X0.here hx rfl (pc0 := 13) (pc' := 22) rfl (hb hby d2_13) rfl (teq hc13).1 (by decide) (by decide) ?_
        show Steps p.tables e below (T0.setTop (mkF m 22 #[.val (.int p0), .unset, .unset] [])) _
        refine XS.iconst X0.here hx rfl (hb hby d2_22) ?_
        show Steps p.tables e below (T0.setTop (mkF m 23 #[.val (.int p0), .unset, .unset] [(.int (1 : Int32))])) _
        refine XS.goto X0.here hx rfl (pc0 := 23) (pc' := 27) rfl (hb hby d2_23) (by decide) (by decide) ?_
        rw [show (own_E1_s0 p0) = (1 : Int32) from by unfold own_E1_s0; rw [if_neg hc3, if_neg hc8, if_pos hc13]] at kt
        exact kt
      · refine XS.icmpNo X0.here hx rfl (hb hby d2_13) rfl (feq hc13).1 ?_
        show Steps p.tables e below (T0.setTop (mkF m 16 #[.val (.int p0), .unset, .unset] [])) _
        refine XS.iloadN X0.here hx rfl (hb hby d2_16) rfl ?_
        show Steps p.tables e below (T0.setTop (mkF m 17 #[.val (.int p0), .unset, .unset] [(.int p0)])) _
        refine XS.bipush X0.here hx rfl (hb hby d2_17) ?_
        show Steps p.tables e below (T0.setTop (mkF m 19 #[.val (.int p0), .unset, .unset] [(.int (27 : Int32)), (.int p0)])) _
        by_cases hc19 : p0 = (27 : Int32)
        · refine XS.icmpNo X0.here hx rfl (hb hby d2_19) rfl (teq hc19).2 ?_
          show Steps p.tables e below (T0.setTop (mkF m 22 #[.val (.int p0), .unset, .unset] [])) _
          refine XS.iconst X0.here hx rfl (hb hby d2_22) ?_
          show Steps p.tables e below (T0.setTop (mkF m 23 #[.val (.int p0), .unset, .unset] [(.int (1 : Int32))])) _
          refine XS.goto X0.here hx rfl (pc0 := 23) (pc' := 27) rfl (hb hby d2_23) (by decide) (by decide) ?_
          rw [show (own_E1_s0 p0) = (1 : Int32) from by unfold own_E1_s0; rw [if_neg hc3, if_neg hc8, if_neg hc13, if_pos hc19]] at kt
          exact kt
        · refine XS.icmpYes X0.here hx rfl (pc0 := 19) (pc' := 26) rfl (hb hby d2_19) rfl (feq hc19).2 (by decide) (by decide) ?_
          show Steps p.tables e below (T0.setTop (mkF m 26 #[.val (.int p0), .unset, .unset] [])) _
          refine XS.iconst X0.here hx rfl (hb hby d2_26) ?_
          rw [show (own_E1_s0 p0) = (0 : Int32) from by unfold own_E1_s0; rw [if_neg hc3, if_neg hc8, if_neg hc13, if_neg hc19]] at kt
          exact kt
def own_E2_s0 (p0 : Int32) : Int32 := (if p0 = (5 : Int32) then (1 : Int32) else (if p0 = (13 : Int32) then (1 : Int32) else (if p0 = (14 : Int32) then (1 : Int32) else (0 : Int32))))
set_option maxRecDepth 65536 in
set_option maxHeartbeats 40000000 in
theorem sg_E2 {p : Program} {l : Launch} {e : Env} {R : Room} {s : State} {m : MethodId} {args : Array Value} {below : List Frame} {meth : Method} {c : Code} {T0 : State} {locs : List Loc} {cells slots : Nat} {Z : State} {a0 : Array Value} {h0 : Heap} {target : State} (p0 : Int32) (u : Int32) (X0 : Stand p l e R s m args below meth c T0 locs cells slots) (hx : p.tables.exec = Jvm.exec) (hZ : Z.Warmed39 s.vm) (hw : ∀ d ∈ tables_1, d.before a0 Z = true) (hby : c.code = method_2_code) (hown : s.vm.findClass "com/example/millrace/millrace/binlog/EventTypeCarriesNoChangePinLaw" = some m.cls) (e0 : T0.heap = h0) 
    (kt : Steps p.tables e below (T0.setTop (mkF m 50 #[.val (.int p0), .val (.int u), .unset] [(.int (own_E2_s0 p0))])) target) : Steps p.tables e below (T0.setTop (mkF m 28 #[.val (.int p0), .val (.int u), .unset] [])) target := by
  show Steps p.tables e below (T0.setTop (mkF m 28 #[.val (.int p0), .val (.int u), .unset] [])) _
  refine XS.iloadN X0.here hx rfl (hb hby d2_28) rfl ?_
  show Steps p.tables e below (T0.setTop (mkF m 29 #[.val (.int p0), .val (.int u), .unset] [(.int p0)])) _
  refine XS.iconst X0.here hx rfl (hb hby d2_29) ?_
  show Steps p.tables e below (T0.setTop (mkF m 30 #[.val (.int p0), .val (.int u), .unset] [(.int (5 : Int32)), (.int p0)])) _
  by_cases hc30 : p0 = (5 : Int32)
  · refine XS.icmpYes X0.here hx rfl (pc0 := 30) (pc' := 45) rfl (hb hby d2_30) rfl (teq hc30).1 (by decide) (by decide) ?_
    show Steps p.tables e below (T0.setTop (mkF m 45 #[.val (.int p0), .val (.int u), .unset] [])) _
    refine XS.iconst X0.here hx rfl (hb hby d2_45) ?_
    show Steps p.tables e below (T0.setTop (mkF m 46 #[.val (.int p0), .val (.int u), .unset] [(.int (1 : Int32))])) _
    refine XS.goto X0.here hx rfl (pc0 := 46) (pc' := 50) rfl (hb hby d2_46) (by decide) (by decide) ?_
    rw [show (own_E2_s0 p0) = (1 : Int32) from by unfold own_E2_s0; rw [if_pos hc30]] at kt
    exact kt
  · refine XS.icmpNo X0.here hx rfl (hb hby d2_30) rfl (feq hc30).1 ?_
    show Steps p.tables e below (T0.setTop (mkF m 33 #[.val (.int p0), .val (.int u), .unset] [])) _
    refine XS.iloadN X0.here hx rfl (hb hby d2_33) rfl ?_
    show Steps p.tables e below (T0.setTop (mkF m 34 #[.val (.int p0), .val (.int u), .unset] [(.int p0)])) _
    refine XS.bipush X0.here hx rfl (hb hby d2_34) ?_
    show Steps p.tables e below (T0.setTop (mkF m 36 #[.val (.int p0), .val (.int u), .unset] [(.int (13 : Int32)), (.int p0)])) _
    by_cases hc36 : p0 = (13 : Int32)
    · refine XS.icmpYes X0.here hx rfl (pc0 := 36) (pc' := 45) rfl (hb hby d2_36) rfl (teq hc36).1 (by decide) (by decide) ?_
      show Steps p.tables e below (T0.setTop (mkF m 45 #[.val (.int p0), .val (.int u), .unset] [])) _
      refine XS.iconst X0.here hx rfl (hb hby d2_45) ?_
      show Steps p.tables e below (T0.setTop (mkF m 46 #[.val (.int p0), .val (.int u), .unset] [(.int (1 : Int32))])) _
      refine XS.goto X0.here hx rfl (pc0 := 46) (pc' := 50) rfl (hb hby d2_46) (by decide) (by decide) ?_
      rw [show (own_E2_s0 p0) = (1 : Int32) from by unfold own_E2_s0; rw [if_neg hc30, if_pos hc36]] at kt
      exact kt
    · refine XS.icmpNo X0.here hx rfl (hb hby d2_36) rfl (feq hc36).1 ?_
      show Steps p.tables e below (T0.setTop (mkF m 39 #[.val (.int p0), .val (.int u), .unset] [])) _
      refine XS.iloadN X0.here hx rfl (hb hby d2_39) rfl ?_
      show Steps p.tables e below (T0.setTop (mkF m 40 #[.val (.int p0), .val (.int u), .unset] [(.int p0)])) _
      refine XS.bipush X0.here hx rfl (hb hby d2_40) ?_
      show Steps p.tables e below (T0.setTop (mkF m 42 #[.val (.int p0), .val (.int u), .unset] [(.int (14 : Int32)), (.int p0)])) _
      by_cases hc42 : p0 = (14 : Int32)
      · refine XS.icmpNo X0.here hx rfl (hb hby d2_42) rfl (teq hc42).2 ?_
        show Steps p.tables e below (T0.setTop (mkF m 45 #[.val (.int p0), .val (.int u), .unset] [])) _
        refine XS.iconst X0.here hx rfl (hb hby d2_45) ?_
        show Steps p.tables e below (T0.setTop (mkF m 46 #[.val (.int p0), .val (.int u), .unset] [(.int (1 : Int32))])) _
        refine XS.goto X0.here hx rfl (pc0 := 46) (pc' := 50) rfl (hb hby d2_46) (by decide) (by decide) ?_
        rw [show (own_E2_s0 p0) = (1 : Int32) from by unfold own_E2_s0; rw [if_neg hc30, if_neg hc36, if_pos hc42]] at kt
        exact kt
      · refine XS.icmpYes X0.here hx rfl (pc0 := 42) (pc' := 49) rfl (hb hby d2_42) rfl (feq hc42).2 (by decide) (by decide) ?_
        show Steps p.tables e below (T0.setTop (mkF m 49 #[.val (.int p0), .val (.int u), .unset] [])) _
        refine XS.iconst X0.here hx rfl (hb hby d2_49) ?_
        rw [show (own_E2_s0 p0) = (0 : Int32) from by unfold own_E2_s0; rw [if_neg hc30, if_neg hc36, if_neg hc42]] at kt
        exact kt
def own_E3_s0 (u : Int32) (v : Int32) : Int32 := (if u = (0 : Int32) then (if v = (0 : Int32) then (0 : Int32) else (1 : Int32)) else (1 : Int32))
set_option maxRecDepth 65536 in
set_option maxHeartbeats 40000000 in
theorem sg_E3 {p : Program} {l : Launch} {e : Env} {R : Room} {s : State} {m : MethodId} {args : Array Value} {below : List Frame} {meth : Method} {c : Code} {T0 : State} {locs : List Loc} {cells slots : Nat} {Z : State} {a0 : Array Value} {h0 : Heap} {target : State} (p0 : Int32) (u : Int32) (v : Int32) (X0 : Stand p l e R s m args below meth c T0 locs cells slots) (hx : p.tables.exec = Jvm.exec) (hZ : Z.Warmed39 s.vm) (hw : ∀ d ∈ tables_1, d.before a0 Z = true) (hby : c.code = method_2_code) (hown : s.vm.findClass "com/example/millrace/millrace/binlog/EventTypeCarriesNoChangePinLaw" = some m.cls) (e0 : T0.heap = h0) 
    (kt : Steps p.tables e below (T0.setTop (mkF m 64 #[.val (.int p0), .val (.int u), .val (.int v)] [(.int (own_E3_s0 u v))])) target) : Steps p.tables e below (T0.setTop (mkF m 51 #[.val (.int p0), .val (.int u), .val (.int v)] [])) target := by
  show Steps p.tables e below (T0.setTop (mkF m 51 #[.val (.int p0), .val (.int u), .val (.int v)] [])) _
  refine XS.iloadN X0.here hx rfl (hb hby d2_51) rfl ?_
  show Steps p.tables e below (T0.setTop (mkF m 52 #[.val (.int p0), .val (.int u), .val (.int v)] [(.int u)])) _
  by_cases hc52 : u = (0 : Int32)
  · refine XS.ifNo X0.here hx rfl (hb hby d2_52) rfl ((if0 _ _).trans (teq hc52).2) ?_
    show Steps p.tables e below (T0.setTop (mkF m 55 #[.val (.int p0), .val (.int u), .val (.int v)] [])) _
    refine XS.iloadN X0.here hx rfl (hb hby d2_55) rfl ?_
    show Steps p.tables e below (T0.setTop (mkF m 56 #[.val (.int p0), .val (.int u), .val (.int v)] [(.int v)])) _
    by_cases hc56 : v = (0 : Int32)
    · refine XS.ifYes X0.here hx rfl (pc0 := 56) (pc' := 63) rfl (hb hby d2_56) rfl ((if0 _ _).trans (teq hc56).1) (by decide) (by decide) ?_
      show Steps p.tables e below (T0.setTop (mkF m 63 #[.val (.int p0), .val (.int u), .val (.int v)] [])) _
      refine XS.iconst X0.here hx rfl (hb hby d2_63) ?_
      rw [show (own_E3_s0 u v) = (0 : Int32) from by unfold own_E3_s0; rw [if_pos hc52, if_pos hc56]] at kt
      exact kt
    · refine XS.ifNo X0.here hx rfl (hb hby d2_56) rfl ((if0 _ _).trans (feq hc56).1) ?_
      show Steps p.tables e below (T0.setTop (mkF m 59 #[.val (.int p0), .val (.int u), .val (.int v)] [])) _
      refine XS.iconst X0.here hx rfl (hb hby d2_59) ?_
      show Steps p.tables e below (T0.setTop (mkF m 60 #[.val (.int p0), .val (.int u), .val (.int v)] [(.int (1 : Int32))])) _
      refine XS.goto X0.here hx rfl (pc0 := 60) (pc' := 64) rfl (hb hby d2_60) (by decide) (by decide) ?_
      rw [show (own_E3_s0 u v) = (1 : Int32) from by unfold own_E3_s0; rw [if_pos hc52, if_neg hc56]] at kt
      exact kt
  · refine XS.ifYes X0.here hx rfl (pc0 := 52) (pc' := 59) rfl (hb hby d2_52) rfl ((if0 _ _).trans (feq hc52).2) (by decide) (by decide) ?_
    show Steps p.tables e below (T0.setTop (mkF m 59 #[.val (.int p0), .val (.int u), .val (.int v)] [])) _
    refine XS.iconst X0.here hx rfl (hb hby d2_59) ?_
    show Steps p.tables e below (T0.setTop (mkF m 60 #[.val (.int p0), .val (.int u), .val (.int v)] [(.int (1 : Int32))])) _
    refine XS.goto X0.here hx rfl (pc0 := 60) (pc' := 64) rfl (hb hby d2_60) (by decide) (by decide) ?_
    rw [show (own_E3_s0 u v) = (1 : Int32) from by unfold own_E3_s0; rw [if_neg hc52]] at kt
    exact kt
theorem own_E3_01 (u v : Int32) : own_E3_s0 u v &&& 1 = own_E3_s0 u v := by unfold own_E3_s0; split <;> (try split) <;> rfl
def Q2 (Z : State) (p0 : Int32) (h0 : Heap) (n0 : Nat) (v : Option Value) (h : Heap) (L : List Loc) : Prop := v = some (.int (own_E3_s0 (own_E1_s0 p0) (own_E2_s0 p0))) ∧ Fr n0 L ∧ h = h0
set_option maxRecDepth 65536 in
set_option maxHeartbeats 40000000 in
theorem rm2 (l : Launch) (Z : State) (a0 : Array Value) (hw : ∀ d ∈ tables_1, d.before a0 Z = true) (ws : List Jvm.Cond) (p0 : Int32) (h0 : Heap) (n0 : Nat) (Z0 : n0 ≤ h0.size)  :
    MetFree l (⟨"com/example/millrace/millrace/binlog/EventTypeCarriesNoChangePinLaw", "expected", "(I)Z"⟩ : MethodName) (head1 (Jvm.Cond.code (⟨"com/example/millrace/millrace/binlog/EventTypeCarriesNoChangePinLaw", "expected", "(I)Z"⟩ : MethodName) method_2_code 3 (some .boolean) :: ws) ({ frames := 0, cells := 0, slots := 0, locals := 0 } : Room)) (fun a_ U_ => a_ = #[(.int p0)] ∧ Z.Warmed39 U_.vm ∧ U_.heap = h0) (fun _ _ _ _ _ => True) (fun _ U_ o_ U' => ∃ v_ L_, o_ = .returned v_ ∧ (Q2 Z p0 h0 n0 v_ U'.heap L_) ∧ FrameEnd U_ o_ U' L_ ({ frames := 0, cells := 0, slots := 0, locals := 0 } : Room).cells ({ frames := 0, cells := 0, slots := 0, locals := 0 } : Room).slots) := by
  refine MetFree.of_bodySF (plainFor_of_name pn_2) hisR ?_
  intro p e s m args below meth c s₁ Bd hml0 hP hK
  obtain ⟨rfl, hZ, hh⟩ := hP
  have hx := Bd.exec
  have hby := Bd.bytes
  have hml : c.maxLocals = 3 := hml0
  have hown : s.vm.findClass "com/example/millrace/millrace/binlog/EventTypeCarriesNoChangePinLaw" = some m.cls := findClass_of_methodNamed Bd.named
  have hnm := (name_of_methodNamed Bd.named Bd.method).1
  have X0 : Stand p l e ({ frames := 0, cells := 0, slots := 0, locals := 0 } : Room) s m #[(.int p0)] below meth c s₁ [] 0 0 := Stand.of_body Bd
  have e0 : s₁.heap = h0 := by rw [← hh, Bd.state]; rfl
  have N0 := Fr.nil n0
  have pre0 : ∀ t, Steps p.tables e below (s₁.setTop (mkF m 0 #[.val (.int p0), .unset, .unset] [])) t → Steps p.tables e below (s₁.setTop (entryFrame m #[(.int p0)] 3)) t := fun t k => castTop (ef_2 m p0) k
  obtain ⟨fs, hr, hrun, hended, hW, hsame⟩ := X0.leave (v := some (.int (own_E3_s0 (own_E1_s0 p0) (own_E2_s0 p0)))) (fun h => by rw [Bd.returns] at h; cases h)
  refine ⟨_, _, pre0 _ ?_, hrun, hended, _, _, rfl, ⟨rfl, N0, e0⟩, ⟨_, rfl⟩, hW, hsame.mono (by decide) (by decide)⟩
  show Steps p.tables e below (s₁.setTop (mkF m 0 #[.val (.int p0), .unset, .unset] [])) _
  refine sg_E1 p0 X0 hx hZ hw hby hown e0  ?_
  show Steps p.tables e below (s₁.setTop (mkF m 27 #[.val (.int p0), .unset, .unset] [(.int (own_E1_s0 p0))])) _
  refine XS.istoreN X0.here hx rfl (hb hby d2_27) rfl (l' := #[.val (.int p0), .val (.int (own_E1_s0 p0)), .unset]) rfl ?_
  show Steps p.tables e below (s₁.setTop (mkF m 28 #[.val (.int p0), .val (.int (own_E1_s0 p0)), .unset] [])) _
  refine sg_E2 p0 (own_E1_s0 p0) X0 hx hZ hw hby hown e0  ?_
  show Steps p.tables e below (s₁.setTop (mkF m 50 #[.val (.int p0), .val (.int (own_E1_s0 p0)), .unset] [(.int (own_E2_s0 p0))])) _
  refine XS.istoreN X0.here hx rfl (hb hby d2_50) rfl (l' := #[.val (.int p0), .val (.int (own_E1_s0 p0)), .val (.int (own_E2_s0 p0))]) rfl ?_
  show Steps p.tables e below (s₁.setTop (mkF m 51 #[.val (.int p0), .val (.int (own_E1_s0 p0)), .val (.int (own_E2_s0 p0))] [])) _
  refine sg_E3 p0 (own_E1_s0 p0) (own_E2_s0 p0) X0 hx hZ hw hby hown e0  ?_
  rw [← own_E3_01] at hr
  show Steps p.tables e below (s₁.setTop (mkF m 64 #[.val (.int p0), .val (.int (own_E1_s0 p0)), .val (.int (own_E2_s0 p0))] [(.int (own_E3_s0 (own_E1_s0 p0) (own_E2_s0 p0)))])) _
  exact retN X0 hx (t := .boolean) Bd.returns (by simp) (hb hby d2_64) hr
theorem pn_0 : plainName "com/example/millrace/millrace/binlog/EventTypeCarriesNoChangePinLaw" = true := by first | (simp [plainName, overriddenIn]; done) | decide +kernel
theorem ef_0 (m : MethodId) (x0 : Int32) (x1 : Int32) : entryFrame m #[(.int x0), (.int x1)] maxLocals = mkF m 0 #[.val (.int x0), .val (.int x1), .unset, .unset, .unset] [] := by first | (simp [entryFrame, mkF, argsToLocals, Value.category, maxLocals]; done) | rfl
theorem own_mod (p0 : Int32) : ¬ ((p0 &&& (2147483647 : Int32)) % (20 : Int32)) < 0 ∧ ((p0 &&& (2147483647 : Int32)) % (20 : Int32)) < (20 : Int32) := by
  have h1 := (c_mask p0 (2147483647 : Int32) 31 (by decide) (by decide))
  have h2 := (c_irem (p0 &&& (2147483647 : Int32)) (20 : Int32) 20 rfl).1 (by rw [h1]; omega)
  exact own_ix (by rw [h2]; omega) (by rw [h2]; show _ < (20 : Int); omega)
def own_C_l4 (p0 : Int32) (p1 : Int32) (tb : Nat → Int32) : Int32 := (if (p1 &&& (3 : Int32)) = (0 : Int32) then p0 else (if (p1 &&& (3 : Int32)) = (1 : Int32) then (p0 &&& (255 : Int32)) else (tb (((p0 &&& (2147483647 : Int32)) % (20 : Int32))).toNatClampNeg)))
set_option maxRecDepth 65536 in
set_option maxHeartbeats 40000000 in
theorem sg_C {p : Program} {l : Launch} {e : Env} {R : Room} {s : State} {m : MethodId} {args : Array Value} {below : List Frame} {meth : Method} {c : Code} {T0 : State} {locs : List Loc} {cells slots : Nat} {Z : State} {a0 : Array Value} {h0 : Heap} {target : State} (p0 : Int32) (p1 : Int32) (b : Addr) (tb : Nat → Int32) (X0 : Stand p l e R s m args below meth c T0 locs cells slots) (hx : p.tables.exec = Jvm.exec) (hZ : Z.Warmed39 s.vm) (hw : ∀ d ∈ tables_1, d.before a0 Z = true) (hby : c.code = code) (hown : s.vm.findClass "com/example/millrace/millrace/binlog/EventTypeCarriesNoChangePinLaw" = some m.cls) (e0 : T0.heap = h0) (AB : own_AI Z h0 b .int (20 : Int32) tb)
    (kt : Steps p.tables e below (T0.setTop (mkF m 156 #[.val (.int p0), .val (.int p1), .val (.ref b), .val (.int (p1 &&& (3 : Int32))), .val (.int (own_C_l4 p0 p1 tb))] [])) target) : Steps p.tables e below (T0.setTop (mkF m 116 #[.val (.int p0), .val (.int p1), .val (.ref b), .unset, .unset] [])) target := by
  show Steps p.tables e below (T0.setTop (mkF m 116 #[.val (.int p0), .val (.int p1), .val (.ref b), .unset, .unset] [])) _
  refine XS.iloadN X0.here hx rfl (hb hby at_116) rfl ?_
  show Steps p.tables e below (T0.setTop (mkF m 117 #[.val (.int p0), .val (.int p1), .val (.ref b), .unset, .unset] [(.int p1)])) _
  refine XS.iconst X0.here hx rfl (hb hby at_117) ?_
  show Steps p.tables e below (T0.setTop (mkF m 118 #[.val (.int p0), .val (.int p1), .val (.ref b), .unset, .unset] [(.int (3 : Int32)), (.int p1)])) _
  refine XS.iand X0.here hx rfl (hb hby at_118) rfl ?_
  show Steps p.tables e below (T0.setTop (mkF m 119 #[.val (.int p0), .val (.int p1), .val (.ref b), .unset, .unset] [(.int (p1 &&& (3 : Int32)))])) _
  refine XS.istoreN X0.here hx rfl (hb hby at_119) rfl (l' := #[.val (.int p0), .val (.int p1), .val (.ref b), .val (.int (p1 &&& (3 : Int32))), .unset]) rfl ?_
  show Steps p.tables e below (T0.setTop (mkF m 120 #[.val (.int p0), .val (.int p1), .val (.ref b), .val (.int (p1 &&& (3 : Int32))), .unset] [])) _
  refine XS.iloadN X0.here hx rfl (hb hby at_120) rfl ?_
  show Steps p.tables e below (T0.setTop (mkF m 121 #[.val (.int p0), .val (.int p1), .val (.ref b), .val (.int (p1 &&& (3 : Int32))), .unset] [(.int (p1 &&& (3 : Int32)))])) _
  by_cases hc121 : (p1 &&& (3 : Int32)) = (0 : Int32)
  · refine XS.ifNo X0.here hx rfl (hb hby at_121) rfl ((if0 _ _).trans (teq hc121).2) ?_
    show Steps p.tables e below (T0.setTop (mkF m 124 #[.val (.int p0), .val (.int p1), .val (.ref b), .val (.int (p1 &&& (3 : Int32))), .unset] [])) _
    refine XS.iloadN X0.here hx rfl (hb hby at_124) rfl ?_
    show Steps p.tables e below (T0.setTop (mkF m 125 #[.val (.int p0), .val (.int p1), .val (.ref b), .val (.int (p1 &&& (3 : Int32))), .unset] [(.int p0)])) _
    refine XS.istore X0.here hx rfl (hb hby at_125) rfl (l' := #[.val (.int p0), .val (.int p1), .val (.ref b), .val (.int (p1 &&& (3 : Int32))), .val (.int p0)]) rfl ?_
    show Steps p.tables e below (T0.setTop (mkF m 127 #[.val (.int p0), .val (.int p1), .val (.ref b), .val (.int (p1 &&& (3 : Int32))), .val (.int p0)] [])) _
    refine XS.goto X0.here hx rfl (pc0 := 127) (pc' := 156) rfl (hb hby at_127) (by decide) (by decide) ?_
    rw [show (own_C_l4 p0 p1 tb) = p0 from by unfold own_C_l4; rw [if_pos hc121]] at kt
    exact kt
  · refine XS.ifYes X0.here hx rfl (pc0 := 121) (pc' := 130) rfl (hb hby at_121) rfl ((if0 _ _).trans (feq hc121).2) (by decide) (by decide) ?_
    show Steps p.tables e below (T0.setTop (mkF m 130 #[.val (.int p0), .val (.int p1), .val (.ref b), .val (.int (p1 &&& (3 : Int32))), .unset] [])) _
    refine XS.iloadN X0.here hx rfl (hb hby at_130) rfl ?_
    show Steps p.tables e below (T0.setTop (mkF m 131 #[.val (.int p0), .val (.int p1), .val (.ref b), .val (.int (p1 &&& (3 : Int32))), .unset] [(.int (p1 &&& (3 : Int32)))])) _
    refine XS.iconst X0.here hx rfl (hb hby at_131) ?_
    show Steps p.tables e below (T0.setTop (mkF m 132 #[.val (.int p0), .val (.int p1), .val (.ref b), .val (.int (p1 &&& (3 : Int32))), .unset] [(.int (1 : Int32)), (.int (p1 &&& (3 : Int32)))])) _
    by_cases hc132 : (p1 &&& (3 : Int32)) = (1 : Int32)
    · refine XS.icmpNo X0.here hx rfl (hb hby at_132) rfl (teq hc132).2 ?_
      show Steps p.tables e below (T0.setTop (mkF m 135 #[.val (.int p0), .val (.int p1), .val (.ref b), .val (.int (p1 &&& (3 : Int32))), .unset] [])) _
      refine XS.iloadN X0.here hx rfl (hb hby at_135) rfl ?_
      show Steps p.tables e below (T0.setTop (mkF m 136 #[.val (.int p0), .val (.int p1), .val (.ref b), .val (.int (p1 &&& (3 : Int32))), .unset] [(.int p0)])) _
      refine XS.sipush X0.here hx rfl (hb hby at_136) ?_
      show Steps p.tables e below (T0.setTop (mkF m 139 #[.val (.int p0), .val (.int p1), .val (.ref b), .val (.int (p1 &&& (3 : Int32))), .unset] [(.int (255 : Int32)), (.int p0)])) _
      refine XS.iand X0.here hx rfl (hb hby at_139) rfl ?_
      show Steps p.tables e below (T0.setTop (mkF m 140 #[.val (.int p0), .val (.int p1), .val (.ref b), .val (.int (p1 &&& (3 : Int32))), .unset] [(.int (p0 &&& (255 : Int32)))])) _
      refine XS.istore X0.here hx rfl (hb hby at_140) rfl (l' := #[.val (.int p0), .val (.int p1), .val (.ref b), .val (.int (p1 &&& (3 : Int32))), .val (.int (p0 &&& (255 : Int32)))]) rfl ?_
      show Steps p.tables e below (T0.setTop (mkF m 142 #[.val (.int p0), .val (.int p1), .val (.ref b), .val (.int (p1 &&& (3 : Int32))), .val (.int (p0 &&& (255 : Int32)))] [])) _
      refine XS.goto X0.here hx rfl (pc0 := 142) (pc' := 156) rfl (hb hby at_142) (by decide) (by decide) ?_
      rw [show (own_C_l4 p0 p1 tb) = (p0 &&& (255 : Int32)) from by unfold own_C_l4; rw [if_neg hc121, if_pos hc132]] at kt
      exact kt
    · refine XS.icmpYes X0.here hx rfl (pc0 := 132) (pc' := 145) rfl (hb hby at_132) rfl (feq hc132).2 (by decide) (by decide) ?_
      show Steps p.tables e below (T0.setTop (mkF m 145 #[.val (.int p0), .val (.int p1), .val (.ref b), .val (.int (p1 &&& (3 : Int32))), .unset] [])) _
      refine XS.aloadN X0.here hx rfl (hb hby at_145) rfl rfl ?_
      show Steps p.tables e below (T0.setTop (mkF m 146 #[.val (.int p0), .val (.int p1), .val (.ref b), .val (.int (p1 &&& (3 : Int32))), .unset] [(.ref b)])) _
      refine XS.iloadN X0.here hx rfl (hb hby at_146) rfl ?_
      show Steps p.tables e below (T0.setTop (mkF m 147 #[.val (.int p0), .val (.int p1), .val (.ref b), .val (.int (p1 &&& (3 : Int32))), .unset] [(.int p0), (.ref b)])) _
      refine X0.ldcI hx hown (mvT hZ (hw _ (List.mem_of_getElem? (i := 2) rfl))) rfl (hb hby at_147) ?_
      show Steps p.tables e below (T0.setTop (mkF m 149 #[.val (.int p0), .val (.int p1), .val (.ref b), .val (.int (p1 &&& (3 : Int32))), .unset] [(.int (2147483647 : Int32)), (.int p0), (.ref b)])) _
      refine XS.iand X0.here hx rfl (hb hby at_149) rfl ?_
      show Steps p.tables e below (T0.setTop (mkF m 150 #[.val (.int p0), .val (.int p1), .val (.ref b), .val (.int (p1 &&& (3 : Int32))), .unset] [(.int (p0 &&& (2147483647 : Int32))), (.ref b)])) _
      refine XS.aloadN X0.here hx rfl (hb hby at_150) rfl rfl ?_
      show Steps p.tables e below (T0.setTop (mkF m 151 #[.val (.int p0), .val (.int p1), .val (.ref b), .val (.int (p1 &&& (3 : Int32))), .unset] [(.ref b), (.int (p0 &&& (2147483647 : Int32))), (.ref b)])) _
      refine own_len X0 hx hZ e0 AB rfl rfl (hb hby at_151) ?_
      show Steps p.tables e below (T0.setTop (mkF m 152 #[.val (.int p0), .val (.int p1), .val (.ref b), .val (.int (p1 &&& (3 : Int32))), .unset] [(.int (20 : Int32)), (.int (p0 &&& (2147483647 : Int32))), (.ref b)])) _
      refine iremM X0 hx rfl (hb hby at_152) rfl (by decide) ?_
      show Steps p.tables e below (T0.setTop (mkF m 153 #[.val (.int p0), .val (.int p1), .val (.ref b), .val (.int (p1 &&& (3 : Int32))), .unset] [(.int ((p0 &&& (2147483647 : Int32)) % (20 : Int32))), (.ref b)])) _
      refine own_ldI X0 hx hZ e0 AB (j := ((p0 &&& (2147483647 : Int32)) % (20 : Int32))) (own_mod p0) rfl rfl (hb hby at_153) ?_
      show Steps p.tables e below (T0.setTop (mkF m 154 #[.val (.int p0), .val (.int p1), .val (.ref b), .val (.int (p1 &&& (3 : Int32))), .unset] [(.int (tb (((p0 &&& (2147483647 : Int32)) % (20 : Int32))).toNatClampNeg))])) _
      refine XS.istore X0.here hx rfl (hb hby at_154) rfl (l' := #[.val (.int p0), .val (.int p1), .val (.ref b), .val (.int (p1 &&& (3 : Int32))), .val (.int (tb (((p0 &&& (2147483647 : Int32)) % (20 : Int32))).toNatClampNeg))]) rfl ?_
      rw [show (own_C_l4 p0 p1 tb) = (tb (((p0 &&& (2147483647 : Int32)) % (20 : Int32))).toNatClampNeg) from by unfold own_C_l4; rw [if_neg hc121, if_neg hc132]] at kt
      exact kt
theorem own_same (t : Int32) : own_car t = own_E3_s0 (own_E1_s0 t) (own_E2_s0 t) := by
  by_cases h3 : t = 3; · subst h3; decide
  by_cases h4 : t = 4; · subst h4; decide
  by_cases h5 : t = 5; · subst h5; decide
  by_cases h13 : t = 13; · subst h13; decide
  by_cases h14 : t = 14; · subst h14; decide
  by_cases h15 : t = 15; · subst h15; decide
  by_cases h27 : t = 27; · subst h27; decide
  have e1 : own_E1_s0 t = 0 := by simp only [own_E1_s0, h15, h4, h3, h27, if_false]
  have e2 : own_E2_s0 t = 0 := by simp only [own_E2_s0, h5, h13, h14, if_false]
  have e3 : own_car t = 0 := by simp only [own_car, h3, h4, h5, h13, h14, h15, h27, if_false, ite_self]
  rw [e1, e2, e3]; rfl
theorem pd_0 : parseMethodDescriptor "(I)Z" = some ⟨[.int], some .boolean⟩ := by decide +kernel
def Q0 (Z : State) (p0 : Int32) (p1 : Int32) (h0 : Heap) (n0 : Nat) (v : Option Value) (h : Heap) (L : List Loc) : Prop := v = some (.int (1 : Int32)) ∧ Fr n0 L
set_option maxRecDepth 65536 in
set_option maxHeartbeats 40000000 in
theorem rm0 (l : Launch) (Z : State) (a0 : Array Value) (hw : ∀ d ∈ tables_1, d.before a0 Z = true) (ws : List Jvm.Cond) (p0 : Int32) (p1 : Int32) (h0 : Heap) (n0 : Nat) (Z0 : n0 ≤ h0.size)  :
    MetFree l x (head1 (Jvm.Cond.code x code maxLocals ret :: ws) room_1) (fun a_ U_ => a_ = #[(.int p0), (.int p1)] ∧ Z.Warmed39 U_.vm ∧ U_.heap = h0) (fun _ _ _ _ _ => True) (fun _ U_ o_ U' => ∃ v_ L_, o_ = .returned v_ ∧ (Q0 Z p0 p1 h0 n0 v_ U'.heap L_) ∧ FrameEnd U_ o_ U' L_ room_1.cells room_1.slots) := by
  refine MetFree.of_bodySF (plainFor_of_name pn_0) hisR ?_
  intro p e s m args below meth c s₁ Bd hml0 hP hK
  obtain ⟨rfl, hZ, hh⟩ := hP
  have hx := Bd.exec
  have hby := Bd.bytes
  have hml : c.maxLocals = 5 := hml0
  have hown : s.vm.findClass "com/example/millrace/millrace/binlog/EventTypeCarriesNoChangePinLaw" = some m.cls := findClass_of_methodNamed Bd.named
  have hnm := (name_of_methodNamed Bd.named Bd.method).1
  have X0 : Stand p l e room_1 s m #[(.int p0), (.int p1)] below meth c s₁ [] 0 0 := Stand.of_body Bd
  have e0 : s₁.heap = h0 := by rw [← hh, Bd.state]; rfl
  have N0 := Fr.nil n0
  have pre0 : ∀ t, Steps p.tables e below (s₁.setTop (mkF m 0 #[.val (.int p0), .val (.int p1), .unset, .unset, .unset] [])) t → Steps p.tables e below (s₁.setTop (entryFrame m #[(.int p0), (.int p1)] maxLocals)) t := fun t k => castTop (ef_0 m p0 p1) k
  obtain ⟨T1, h1, X1, e1, E1, A1, st1⟩ := own_newI X0 hx hZ (hw _ (List.mem_of_getElem? (i := 0) rfl)) rfl e0 (g := (mkF m 2 #[.val (.int p0), .val (.int p1), .unset, .unset, .unset] [(.int (20 : Int32))])) rfl (hb hby at_2) rfl (by decide) (cap := 20) (by decide) (by decide) (by decide) (by decide)
  obtain ⟨b1, g1⟩ : ∃ z, z = h0.size := ⟨_, rfl⟩
  rw [← g1] at A1 st1
  have f_b1 : n0 ≤ b1 := Nat.le_trans Z0 (Nat.le_of_eq g1.symm)
  have s_b1 : h0.size ≤ b1 := Nat.le_trans (Keep.refl h0 []).1 (Nat.le_of_eq g1.symm)
  have K1 : Keep h0 h1 [] := (Keep.refl h0 []).ext E1
  have Z1 : n0 ≤ h1.size := Nat.le_trans Z0 E1.1
  obtain ⟨T2, h2, X2, e2, W2, A2, st2⟩ := own_stI X1 hx hZ e1 A1 (j := (0 : Int32)) ⟨by decide, by decide⟩ (g := (mkF m 7 #[.val (.int p0), .val (.int p1), .unset, .unset, .unset] [(.int (3 : Int32)), (.int (0 : Int32)), (.ref b1), (.ref b1)])) rfl rfl (hb hby at_7)
  have N2 := Fr.snoc X2 N0 f_b1
  have K2 : Keep h0 h2 [] := K1.wr W2 (Or.inr s_b1)
  have Z2 : n0 ≤ h2.size := Nat.le_trans Z1 (Nat.le_of_eq (W2.size).symm)
  obtain ⟨T3, h3, X3, e3, W3, A3, st3⟩ := own_stI X2 hx hZ e2 A2 (j := (1 : Int32)) ⟨by decide, by decide⟩ (g := (mkF m 11 #[.val (.int p0), .val (.int p1), .unset, .unset, .unset] [(.int (4 : Int32)), (.int (1 : Int32)), (.ref b1), (.ref b1)])) rfl rfl (hb hby at_11)
  have N3 := Fr.snoc X3 N2 f_b1
  have K3 : Keep h0 h3 [] := K2.wr W3 (Or.inr s_b1)
  have Z3 : n0 ≤ h3.size := Nat.le_trans Z2 (Nat.le_of_eq (W3.size).symm)
  obtain ⟨T4, h4, X4, e4, W4, A4, st4⟩ := own_stI X3 hx hZ e3 A3 (j := (2 : Int32)) ⟨by decide, by decide⟩ (g := (mkF m 15 #[.val (.int p0), .val (.int p1), .unset, .unset, .unset] [(.int (5 : Int32)), (.int (2 : Int32)), (.ref b1), (.ref b1)])) rfl rfl (hb hby at_15)
  have N4 := Fr.snoc X4 N3 f_b1
  have K4 : Keep h0 h4 [] := K3.wr W4 (Or.inr s_b1)
  have Z4 : n0 ≤ h4.size := Nat.le_trans Z3 (Nat.le_of_eq (W4.size).symm)
  obtain ⟨T5, h5, X5, e5, W5, A5, st5⟩ := own_stI X4 hx hZ e4 A4 (j := (3 : Int32)) ⟨by decide, by decide⟩ (g := (mkF m 20 #[.val (.int p0), .val (.int p1), .unset, .unset, .unset] [(.int (13 : Int32)), (.int (3 : Int32)), (.ref b1), (.ref b1)])) rfl rfl (hb hby at_20)
  have N5 := Fr.snoc X5 N4 f_b1
  have K5 : Keep h0 h5 [] := K4.wr W5 (Or.inr s_b1)
  have Z5 : n0 ≤ h5.size := Nat.le_trans Z4 (Nat.le_of_eq (W5.size).symm)
  obtain ⟨T6, h6, X6, e6, W6, A6, st6⟩ := own_stI X5 hx hZ e5 A5 (j := (4 : Int32)) ⟨by decide, by decide⟩ (g := (mkF m 25 #[.val (.int p0), .val (.int p1), .unset, .unset, .unset] [(.int (14 : Int32)), (.int (4 : Int32)), (.ref b1), (.ref b1)])) rfl rfl (hb hby at_25)
  have N6 := Fr.snoc X6 N5 f_b1
  have K6 : Keep h0 h6 [] := K5.wr W6 (Or.inr s_b1)
  have Z6 : n0 ≤ h6.size := Nat.le_trans Z5 (Nat.le_of_eq (W6.size).symm)
  obtain ⟨T7, h7, X7, e7, W7, A7, st7⟩ := own_stI X6 hx hZ e6 A6 (j := (5 : Int32)) ⟨by decide, by decide⟩ (g := (mkF m 30 #[.val (.int p0), .val (.int p1), .unset, .unset, .unset] [(.int (15 : Int32)), (.int (5 : Int32)), (.ref b1), (.ref b1)])) rfl rfl (hb hby at_30)
  have N7 := Fr.snoc X7 N6 f_b1
  have K7 : Keep h0 h7 [] := K6.wr W7 (Or.inr s_b1)
  have Z7 : n0 ≤ h7.size := Nat.le_trans Z6 (Nat.le_of_eq (W7.size).symm)
  obtain ⟨T8, h8, X8, e8, W8, A8, st8⟩ := own_stI X7 hx hZ e7 A7 (j := (6 : Int32)) ⟨by decide, by decide⟩ (g := (mkF m 36 #[.val (.int p0), .val (.int p1), .unset, .unset, .unset] [(.int (27 : Int32)), (.int (6 : Int32)), (.ref b1), (.ref b1)])) rfl rfl (hb hby at_36)
  have N8 := Fr.snoc X8 N7 f_b1
  have K8 : Keep h0 h8 [] := K7.wr W8 (Or.inr s_b1)
  have Z8 : n0 ≤ h8.size := Nat.le_trans Z7 (Nat.le_of_eq (W8.size).symm)
  obtain ⟨T9, h9, X9, e9, W9, A9, st9⟩ := own_stI X8 hx hZ e8 A8 (j := (7 : Int32)) ⟨by decide, by decide⟩ (g := (mkF m 41 #[.val (.int p0), .val (.int p1), .unset, .unset, .unset] [(.int (2 : Int32)), (.int (7 : Int32)), (.ref b1), (.ref b1)])) rfl rfl (hb hby at_41)
  have N9 := Fr.snoc X9 N8 f_b1
  have K9 : Keep h0 h9 [] := K8.wr W9 (Or.inr s_b1)
  have Z9 : n0 ≤ h9.size := Nat.le_trans Z8 (Nat.le_of_eq (W9.size).symm)
  obtain ⟨T10, h10, X10, e10, W10, A10, st10⟩ := own_stI X9 hx hZ e9 A9 (j := (8 : Int32)) ⟨by decide, by decide⟩ (g := (mkF m 47 #[.val (.int p0), .val (.int p1), .unset, .unset, .unset] [(.int (6 : Int32)), (.int (8 : Int32)), (.ref b1), (.ref b1)])) rfl rfl (hb hby at_47)
  have N10 := Fr.snoc X10 N9 f_b1
  have K10 : Keep h0 h10 [] := K9.wr W10 (Or.inr s_b1)
  have Z10 : n0 ≤ h10.size := Nat.le_trans Z9 (Nat.le_of_eq (W10.size).symm)
  obtain ⟨T11, h11, X11, e11, W11, A11, st11⟩ := own_stI X10 hx hZ e10 A10 (j := (9 : Int32)) ⟨by decide, by decide⟩ (g := (mkF m 53 #[.val (.int p0), .val (.int p1), .unset, .unset, .unset] [(.int (12 : Int32)), (.int (9 : Int32)), (.ref b1), (.ref b1)])) rfl rfl (hb hby at_53)
  have N11 := Fr.snoc X11 N10 f_b1
  have K11 : Keep h0 h11 [] := K10.wr W11 (Or.inr s_b1)
  have Z11 : n0 ≤ h11.size := Nat.le_trans Z10 (Nat.le_of_eq (W11.size).symm)
  obtain ⟨T12, h12, X12, e12, W12, A12, st12⟩ := own_stI X11 hx hZ e11 A11 (j := (10 : Int32)) ⟨by decide, by decide⟩ (g := (mkF m 59 #[.val (.int p0), .val (.int p1), .unset, .unset, .unset] [(.int (16 : Int32)), (.int (10 : Int32)), (.ref b1), (.ref b1)])) rfl rfl (hb hby at_59)
  have N12 := Fr.snoc X12 N11 f_b1
  have K12 : Keep h0 h12 [] := K11.wr W12 (Or.inr s_b1)
  have Z12 : n0 ≤ h12.size := Nat.le_trans Z11 (Nat.le_of_eq (W12.size).symm)
  obtain ⟨T13, h13, X13, e13, W13, A13, st13⟩ := own_stI X12 hx hZ e12 A12 (j := (11 : Int32)) ⟨by decide, by decide⟩ (g := (mkF m 65 #[.val (.int p0), .val (.int p1), .unset, .unset, .unset] [(.int (26 : Int32)), (.int (11 : Int32)), (.ref b1), (.ref b1)])) rfl rfl (hb hby at_65)
  have N13 := Fr.snoc X13 N12 f_b1
  have K13 : Keep h0 h13 [] := K12.wr W13 (Or.inr s_b1)
  have Z13 : n0 ≤ h13.size := Nat.le_trans Z12 (Nat.le_of_eq (W13.size).symm)
  obtain ⟨T14, h14, X14, e14, W14, A14, st14⟩ := own_stI X13 hx hZ e13 A13 (j := (12 : Int32)) ⟨by decide, by decide⟩ (g := (mkF m 71 #[.val (.int p0), .val (.int p1), .unset, .unset, .unset] [(.int (28 : Int32)), (.int (12 : Int32)), (.ref b1), (.ref b1)])) rfl rfl (hb hby at_71)
  have N14 := Fr.snoc X14 N13 f_b1
  have K14 : Keep h0 h14 [] := K13.wr W14 (Or.inr s_b1)
  have Z14 : n0 ≤ h14.size := Nat.le_trans Z13 (Nat.le_of_eq (W14.size).symm)
  obtain ⟨T15, h15, X15, e15, W15, A15, st15⟩ := own_stI X14 hx hZ e14 A14 (j := (13 : Int32)) ⟨by decide, by decide⟩ (g := (mkF m 77 #[.val (.int p0), .val (.int p1), .unset, .unset, .unset] [(.int (41 : Int32)), (.int (13 : Int32)), (.ref b1), (.ref b1)])) rfl rfl (hb hby at_77)
  have N15 := Fr.snoc X15 N14 f_b1
  have K15 : Keep h0 h15 [] := K14.wr W15 (Or.inr s_b1)
  have Z15 : n0 ≤ h15.size := Nat.le_trans Z14 (Nat.le_of_eq (W15.size).symm)
  obtain ⟨T16, h16, X16, e16, W16, A16, st16⟩ := own_stI X15 hx hZ e15 A15 (j := (14 : Int32)) ⟨by decide, by decide⟩ (g := (mkF m 82 #[.val (.int p0), .val (.int p1), .unset, .unset, .unset] [(.int (0 : Int32)), (.int (14 : Int32)), (.ref b1), (.ref b1)])) rfl rfl (hb hby at_82)
  have N16 := Fr.snoc X16 N15 f_b1
  have K16 : Keep h0 h16 [] := K15.wr W16 (Or.inr s_b1)
  have Z16 : n0 ≤ h16.size := Nat.le_trans Z15 (Nat.le_of_eq (W16.size).symm)
  obtain ⟨T17, h17, X17, e17, W17, A17, st17⟩ := own_stI X16 hx hZ e16 A16 (j := (15 : Int32)) ⟨by decide, by decide⟩ (g := (mkF m 89 #[.val (.int p0), .val (.int p1), .unset, .unset, .unset] [(.int (255 : Int32)), (.int (15 : Int32)), (.ref b1), (.ref b1)])) rfl rfl (hb hby at_89)
  have N17 := Fr.snoc X17 N16 f_b1
  have K17 : Keep h0 h17 [] := K16.wr W17 (Or.inr s_b1)
  have Z17 : n0 ≤ h17.size := Nat.le_trans Z16 (Nat.le_of_eq (W17.size).symm)
  obtain ⟨T18, h18, X18, e18, W18, A18, st18⟩ := own_stI X17 hx hZ e17 A17 (j := (16 : Int32)) ⟨by decide, by decide⟩ (g := (mkF m 96 #[.val (.int p0), .val (.int p1), .unset, .unset, .unset] [(.int (160 : Int32)), (.int (16 : Int32)), (.ref b1), (.ref b1)])) rfl rfl (hb hby at_96)
  have N18 := Fr.snoc X18 N17 f_b1
  have K18 : Keep h0 h18 [] := K17.wr W18 (Or.inr s_b1)
  have Z18 : n0 ≤ h18.size := Nat.le_trans Z17 (Nat.le_of_eq (W18.size).symm)
  obtain ⟨T19, h19, X19, e19, W19, A19, st19⟩ := own_stI X18 hx hZ e18 A18 (j := (17 : Int32)) ⟨by decide, by decide⟩ (g := (mkF m 103 #[.val (.int p0), .val (.int p1), .unset, .unset, .unset] [(.int (165 : Int32)), (.int (17 : Int32)), (.ref b1), (.ref b1)])) rfl rfl (hb hby at_103)
  have N19 := Fr.snoc X19 N18 f_b1
  have K19 : Keep h0 h19 [] := K18.wr W19 (Or.inr s_b1)
  have Z19 : n0 ≤ h19.size := Nat.le_trans Z18 (Nat.le_of_eq (W19.size).symm)
  obtain ⟨T20, h20, X20, e20, W20, A20, st20⟩ := own_stI X19 hx hZ e19 A19 (j := (18 : Int32)) ⟨by decide, by decide⟩ (g := (mkF m 108 #[.val (.int p0), .val (.int p1), .unset, .unset, .unset] [(.int (-1 : Int32)), (.int (18 : Int32)), (.ref b1), (.ref b1)])) rfl rfl (hb hby at_108)
  have N20 := Fr.snoc X20 N19 f_b1
  have K20 : Keep h0 h20 [] := K19.wr W20 (Or.inr s_b1)
  have Z20 : n0 ≤ h20.size := Nat.le_trans Z19 (Nat.le_of_eq (W20.size).symm)
  obtain ⟨T21, h21, X21, e21, W21, A21, st21⟩ := own_stI X20 hx hZ e20 A20 (j := (19 : Int32)) ⟨by decide, by decide⟩ (g := (mkF m 114 #[.val (.int p0), .val (.int p1), .unset, .unset, .unset] [(.int (-2147483648 : Int32)), (.int (19 : Int32)), (.ref b1), (.ref b1)])) rfl rfl (hb hby at_114)
  have N21 := Fr.snoc X21 N20 f_b1
  have K21 : Keep h0 h21 [] := K20.wr W21 (Or.inr s_b1)
  have Z21 : n0 ≤ h21.size := Nat.le_trans Z20 (Nat.le_of_eq (W21.size).symm)
  obtain ⟨tb, AT⟩ : ∃ f, own_AI Z h21 b1 .int (20 : Int32) f := ⟨_, A21⟩
  obtain ⟨t, ht⟩ : ∃ t, own_C_l4 p0 p1 tb = t := ⟨_, rfl⟩
  obtain ⟨Lg22, Xg22, Ng22⟩ := own_gen X21 N21
  obtain ⟨_, _, ⟨T23, L23, k23, n23⟩, -, X23, ⟨Lc23, hQ23, l23, y23, z23⟩, st23⟩ := Jvm.LawKit.callS Xg22 hx (y := (⟨"com/example/millrace/millrace/binlog/EventType", "carriesNoChange", "(I)Z"⟩ : MethodName)) hown (mvT hZ (hw _ (List.mem_of_getElem? (i := 3) rfl))) (mvT hZ (hw _ (List.mem_of_getElem? (i := 4) rfl))) (mvT hZ (hw _ (List.mem_of_getElem? (i := 5) rfl))) (mvT hZ (hw _ (List.mem_of_getElem? (i := 6) rfl))) (by decide) (backOf (W := 0) (rm1 l Z a0 hw [] t  h21 n0 Z21 ) hZ (hw _ (List.mem_of_getElem? (i := 6) rfl)) (hw _ (List.mem_of_getElem? (i := 5) rfl)) (by decide) (by decide)) (g := (mkF m 158 #[.val (.int p0), .val (.int p1), .val (.ref b1), .val (.int (p1 &&& (3 : Int32))), .val (.int t)] [(.int t)])) rfl (by rw [hml]; rfl) (argsL := [(.int t)]) (rest := []) (lenOf pd_0 rfl) rfl (by show 2 * 0 + _ ≤ _; exact Nat.le_of_eq rfl) (hb hby at_158) (fun _ _ => ⟨rfl, e21, (by decide : 1 + 0 ≤ _), (by decide : 20 + 0 ≤ _)⟩)
  dsimp only [Pt.U, Pt.locs, Pt.cells, Pt.slots] at X23 l23 y23 z23 st23 hQ23
  subst l23 y23 z23
  obtain ⟨rfl, Nq23, e23⟩ := hQ23
  have N23 := Fr.app Ng22 Nq23
  obtain ⟨Lg24, Xg24, Ng24⟩ := own_gen X23 N23
  obtain ⟨_, _, ⟨T25, L25, k25, n25⟩, -, X25, ⟨Lc25, hQ25, l25, y25, z25⟩, st25⟩ := Jvm.LawKit.callS Xg24 hx (y := (⟨"com/example/millrace/millrace/binlog/EventTypeCarriesNoChangePinLaw", "expected", "(I)Z"⟩ : MethodName)) hown (mvT hZ (hw _ (List.mem_of_getElem? (i := 7) rfl))) (mvT hZ (hw _ (List.mem_of_getElem? (i := 8) rfl))) (mvT hZ (hw _ (List.mem_of_getElem? (i := 9) rfl))) (mvT hZ (hw _ (List.mem_of_getElem? (i := 10) rfl))) (by decide) (backOf (W := 1) (rm2 l Z a0 hw [] t  h21 n0 Z21 ) hZ (hw _ (List.mem_of_getElem? (i := 10) rfl)) (hw _ (List.mem_of_getElem? (i := 9) rfl)) (by decide) (by decide)) (g := (mkF m 163 #[.val (.int p0), .val (.int p1), .val (.ref b1), .val (.int (p1 &&& (3 : Int32))), .val (.int t)] [(.int t), (.int (own_car t))])) rfl (by rw [hml]; rfl) (argsL := [(.int t)]) (rest := [(.int (own_car t))]) (lenOf pd_0 rfl) rfl (by show 2 * 0 + _ ≤ _; exact Nat.le_of_eq rfl) (hb hby at_163) (fun _ _ => ⟨rfl, e23, (by decide : 1 + 0 ≤ _), (by decide : 20 + 0 ≤ _)⟩)
  dsimp only [Pt.U, Pt.locs, Pt.cells, Pt.slots] at X25 l25 y25 z25 st25 hQ25
  subst l25 y25 z25
  obtain ⟨rfl, Nq25, e25⟩ := hQ25
  have N25 := Fr.app Ng24 Nq25
  obtain ⟨fs, hr, hrun, hended, hW, hsame⟩ := X25.leave (v := some (.int (1 : Int32))) (fun h => by rw [Bd.returns] at h; cases h)
  refine ⟨_, _, pre0 _ ?_, hrun, hended, _, _, rfl, ⟨rfl, N25⟩, ⟨_, rfl⟩, hW, hsame.mono (by decide) (by decide)⟩
  show Steps p.tables e below (s₁.setTop (mkF m 0 #[.val (.int p0), .val (.int p1), .unset, .unset, .unset] [])) _
  refine XS.bipush X0.here hx rfl (hb hby at_0) ?_
  show Steps p.tables e below (s₁.setTop (mkF m 2 #[.val (.int p0), .val (.int p1), .unset, .unset, .unset] [(.int (20 : Int32))])) _
  refine st1 _ ?_
  show Steps p.tables e below (T1.setTop (mkF m 4 #[.val (.int p0), .val (.int p1), .unset, .unset, .unset] [(.ref b1)])) _
  refine XS.dup X1.here hx rfl (hb hby at_4) rfl rfl ?_
  show Steps p.tables e below (T1.setTop (mkF m 5 #[.val (.int p0), .val (.int p1), .unset, .unset, .unset] [(.ref b1), (.ref b1)])) _
  refine XS.iconst X1.here hx rfl (hb hby at_5) ?_
  show Steps p.tables e below (T1.setTop (mkF m 6 #[.val (.int p0), .val (.int p1), .unset, .unset, .unset] [(.int (0 : Int32)), (.ref b1), (.ref b1)])) _
  refine XS.iconst X1.here hx rfl (hb hby at_6) ?_
  show Steps p.tables e below (T1.setTop (mkF m 7 #[.val (.int p0), .val (.int p1), .unset, .unset, .unset] [(.int (3 : Int32)), (.int (0 : Int32)), (.ref b1), (.ref b1)])) _
  refine st2 _ ?_
  show Steps p.tables e below (T2.setTop (mkF m 8 #[.val (.int p0), .val (.int p1), .unset, .unset, .unset] [(.ref b1)])) _
  refine XS.dup X2.here hx rfl (hb hby at_8) rfl rfl ?_
  show Steps p.tables e below (T2.setTop (mkF m 9 #[.val (.int p0), .val (.int p1), .unset, .unset, .unset] [(.ref b1), (.ref b1)])) _
  refine XS.iconst X2.here hx rfl (hb hby at_9) ?_
  show Steps p.tables e below (T2.setTop (mkF m 10 #[.val (.int p0), .val (.int p1), .unset, .unset, .unset] [(.int (1 : Int32)), (.ref b1), (.ref b1)])) _
  refine XS.iconst X2.here hx rfl (hb hby at_10) ?_
  show Steps p.tables e below (T2.setTop (mkF m 11 #[.val (.int p0), .val (.int p1), .unset, .unset, .unset] [(.int (4 : Int32)), (.int (1 : Int32)), (.ref b1), (.ref b1)])) _
  refine st3 _ ?_
  show Steps p.tables e below (T3.setTop (mkF m 12 #[.val (.int p0), .val (.int p1), .unset, .unset, .unset] [(.ref b1)])) _
  refine XS.dup X3.here hx rfl (hb hby at_12) rfl rfl ?_
  show Steps p.tables e below (T3.setTop (mkF m 13 #[.val (.int p0), .val (.int p1), .unset, .unset, .unset] [(.ref b1), (.ref b1)])) _
  refine XS.iconst X3.here hx rfl (hb hby at_13) ?_
  show Steps p.tables e below (T3.setTop (mkF m 14 #[.val (.int p0), .val (.int p1), .unset, .unset, .unset] [(.int (2 : Int32)), (.ref b1), (.ref b1)])) _
  refine XS.iconst X3.here hx rfl (hb hby at_14) ?_
  show Steps p.tables e below (T3.setTop (mkF m 15 #[.val (.int p0), .val (.int p1), .unset, .unset, .unset] [(.int (5 : Int32)), (.int (2 : Int32)), (.ref b1), (.ref b1)])) _
  refine st4 _ ?_
  show Steps p.tables e below (T4.setTop (mkF m 16 #[.val (.int p0), .val (.int p1), .unset, .unset, .unset] [(.ref b1)])) _
  refine XS.dup X4.here hx rfl (hb hby at_16) rfl rfl ?_
  show Steps p.tables e below (T4.setTop (mkF m 17 #[.val (.int p0), .val (.int p1), .unset, .unset, .unset] [(.ref b1), (.ref b1)])) _
  refine XS.iconst X4.here hx rfl (hb hby at_17) ?_
  show Steps p.tables e below (T4.setTop (mkF m 18 #[.val (.int p0), .val (.int p1), .unset, .unset, .unset] [(.int (3 : Int32)), (.ref b1), (.ref b1)])) _
  refine XS.bipush X4.here hx rfl (hb hby at_18) ?_
  show Steps p.tables e below (T4.setTop (mkF m 20 #[.val (.int p0), .val (.int p1), .unset, .unset, .unset] [(.int (13 : Int32)), (.int (3 : Int32)), (.ref b1), (.ref b1)])) _
  refine st5 _ ?_
  show Steps p.tables e below (T5.setTop (mkF m 21 #[.val (.int p0), .val (.int p1), .unset, .unset, .unset] [(.ref b1)])) _
  refine XS.dup X5.here hx rfl (hb hby at_21) rfl rfl ?_
  show Steps p.tables e below (T5.setTop (mkF m 22 #[.val (.int p0), .val (.int p1), .unset, .unset, .unset] [(.ref b1), (.ref b1)])) _
  refine XS.iconst X5.here hx rfl (hb hby at_22) ?_
  show Steps p.tables e below (T5.setTop (mkF m 23 #[.val (.int p0), .val (.int p1), .unset, .unset, .unset] [(.int (4 : Int32)), (.ref b1), (.ref b1)])) _
  refine XS.bipush X5.here hx rfl (hb hby at_23) ?_
  show Steps p.tables e below (T5.setTop (mkF m 25 #[.val (.int p0), .val (.int p1), .unset, .unset, .unset] [(.int (14 : Int32)), (.int (4 : Int32)), (.ref b1), (.ref b1)])) _
  refine st6 _ ?_
  show Steps p.tables e below (T6.setTop (mkF m 26 #[.val (.int p0), .val (.int p1), .unset, .unset, .unset] [(.ref b1)])) _
  refine XS.dup X6.here hx rfl (hb hby at_26) rfl rfl ?_
  show Steps p.tables e below (T6.setTop (mkF m 27 #[.val (.int p0), .val (.int p1), .unset, .unset, .unset] [(.ref b1), (.ref b1)])) _
  refine XS.iconst X6.here hx rfl (hb hby at_27) ?_
  show Steps p.tables e below (T6.setTop (mkF m 28 #[.val (.int p0), .val (.int p1), .unset, .unset, .unset] [(.int (5 : Int32)), (.ref b1), (.ref b1)])) _
  refine XS.bipush X6.here hx rfl (hb hby at_28) ?_
  show Steps p.tables e below (T6.setTop (mkF m 30 #[.val (.int p0), .val (.int p1), .unset, .unset, .unset] [(.int (15 : Int32)), (.int (5 : Int32)), (.ref b1), (.ref b1)])) _
  refine st7 _ ?_
  show Steps p.tables e below (T7.setTop (mkF m 31 #[.val (.int p0), .val (.int p1), .unset, .unset, .unset] [(.ref b1)])) _
  refine XS.dup X7.here hx rfl (hb hby at_31) rfl rfl ?_
  show Steps p.tables e below (T7.setTop (mkF m 32 #[.val (.int p0), .val (.int p1), .unset, .unset, .unset] [(.ref b1), (.ref b1)])) _
  refine XS.bipush X7.here hx rfl (hb hby at_32) ?_
  show Steps p.tables e below (T7.setTop (mkF m 34 #[.val (.int p0), .val (.int p1), .unset, .unset, .unset] [(.int (6 : Int32)), (.ref b1), (.ref b1)])) _
  refine XS.bipush X7.here hx rfl (hb hby at_34) ?_
  show Steps p.tables e below (T7.setTop (mkF m 36 #[.val (.int p0), .val (.int p1), .unset, .unset, .unset] [(.int (27 : Int32)), (.int (6 : Int32)), (.ref b1), (.ref b1)])) _
  refine st8 _ ?_
  show Steps p.tables e below (T8.setTop (mkF m 37 #[.val (.int p0), .val (.int p1), .unset, .unset, .unset] [(.ref b1)])) _
  refine XS.dup X8.here hx rfl (hb hby at_37) rfl rfl ?_
  show Steps p.tables e below (T8.setTop (mkF m 38 #[.val (.int p0), .val (.int p1), .unset, .unset, .unset] [(.ref b1), (.ref b1)])) _
  refine XS.bipush X8.here hx rfl (hb hby at_38) ?_
  show Steps p.tables e below (T8.setTop (mkF m 40 #[.val (.int p0), .val (.int p1), .unset, .unset, .unset] [(.int (7 : Int32)), (.ref b1), (.ref b1)])) _
  refine XS.iconst X8.here hx rfl (hb hby at_40) ?_
  show Steps p.tables e below (T8.setTop (mkF m 41 #[.val (.int p0), .val (.int p1), .unset, .unset, .unset] [(.int (2 : Int32)), (.int (7 : Int32)), (.ref b1), (.ref b1)])) _
  refine st9 _ ?_
  show Steps p.tables e below (T9.setTop (mkF m 42 #[.val (.int p0), .val (.int p1), .unset, .unset, .unset] [(.ref b1)])) _
  refine XS.dup X9.here hx rfl (hb hby at_42) rfl rfl ?_
  show Steps p.tables e below (T9.setTop (mkF m 43 #[.val (.int p0), .val (.int p1), .unset, .unset, .unset] [(.ref b1), (.ref b1)])) _
  refine XS.bipush X9.here hx rfl (hb hby at_43) ?_
  show Steps p.tables e below (T9.setTop (mkF m 45 #[.val (.int p0), .val (.int p1), .unset, .unset, .unset] [(.int (8 : Int32)), (.ref b1), (.ref b1)])) _
  refine XS.bipush X9.here hx rfl (hb hby at_45) ?_
  show Steps p.tables e below (T9.setTop (mkF m 47 #[.val (.int p0), .val (.int p1), .unset, .unset, .unset] [(.int (6 : Int32)), (.int (8 : Int32)), (.ref b1), (.ref b1)])) _
  refine st10 _ ?_
  show Steps p.tables e below (T10.setTop (mkF m 48 #[.val (.int p0), .val (.int p1), .unset, .unset, .unset] [(.ref b1)])) _
  refine XS.dup X10.here hx rfl (hb hby at_48) rfl rfl ?_
  show Steps p.tables e below (T10.setTop (mkF m 49 #[.val (.int p0), .val (.int p1), .unset, .unset, .unset] [(.ref b1), (.ref b1)])) _
  refine XS.bipush X10.here hx rfl (hb hby at_49) ?_
  show Steps p.tables e below (T10.setTop (mkF m 51 #[.val (.int p0), .val (.int p1), .unset, .unset, .unset] [(.int (9 : Int32)), (.ref b1), (.ref b1)])) _
  refine XS.bipush X10.here hx rfl (hb hby at_51) ?_
  show Steps p.tables e below (T10.setTop (mkF m 53 #[.val (.int p0), .val (.int p1), .unset, .unset, .unset] [(.int (12 : Int32)), (.int (9 : Int32)), (.ref b1), (.ref b1)])) _
  refine st11 _ ?_
  show Steps p.tables e below (T11.setTop (mkF m 54 #[.val (.int p0), .val (.int p1), .unset, .unset, .unset] [(.ref b1)])) _
  refine XS.dup X11.here hx rfl (hb hby at_54) rfl rfl ?_
  show Steps p.tables e below (T11.setTop (mkF m 55 #[.val (.int p0), .val (.int p1), .unset, .unset, .unset] [(.ref b1), (.ref b1)])) _
  refine XS.bipush X11.here hx rfl (hb hby at_55) ?_
  show Steps p.tables e below (T11.setTop (mkF m 57 #[.val (.int p0), .val (.int p1), .unset, .unset, .unset] [(.int (10 : Int32)), (.ref b1), (.ref b1)])) _
  refine XS.bipush X11.here hx rfl (hb hby at_57) ?_
  show Steps p.tables e below (T11.setTop (mkF m 59 #[.val (.int p0), .val (.int p1), .unset, .unset, .unset] [(.int (16 : Int32)), (.int (10 : Int32)), (.ref b1), (.ref b1)])) _
  refine st12 _ ?_
  show Steps p.tables e below (T12.setTop (mkF m 60 #[.val (.int p0), .val (.int p1), .unset, .unset, .unset] [(.ref b1)])) _
  refine XS.dup X12.here hx rfl (hb hby at_60) rfl rfl ?_
  show Steps p.tables e below (T12.setTop (mkF m 61 #[.val (.int p0), .val (.int p1), .unset, .unset, .unset] [(.ref b1), (.ref b1)])) _
  refine XS.bipush X12.here hx rfl (hb hby at_61) ?_
  show Steps p.tables e below (T12.setTop (mkF m 63 #[.val (.int p0), .val (.int p1), .unset, .unset, .unset] [(.int (11 : Int32)), (.ref b1), (.ref b1)])) _
  refine XS.bipush X12.here hx rfl (hb hby at_63) ?_
  show Steps p.tables e below (T12.setTop (mkF m 65 #[.val (.int p0), .val (.int p1), .unset, .unset, .unset] [(.int (26 : Int32)), (.int (11 : Int32)), (.ref b1), (.ref b1)])) _
  refine st13 _ ?_
  show Steps p.tables e below (T13.setTop (mkF m 66 #[.val (.int p0), .val (.int p1), .unset, .unset, .unset] [(.ref b1)])) _
  refine XS.dup X13.here hx rfl (hb hby at_66) rfl rfl ?_
  show Steps p.tables e below (T13.setTop (mkF m 67 #[.val (.int p0), .val (.int p1), .unset, .unset, .unset] [(.ref b1), (.ref b1)])) _
  refine XS.bipush X13.here hx rfl (hb hby at_67) ?_
  show Steps p.tables e below (T13.setTop (mkF m 69 #[.val (.int p0), .val (.int p1), .unset, .unset, .unset] [(.int (12 : Int32)), (.ref b1), (.ref b1)])) _
  refine XS.bipush X13.here hx rfl (hb hby at_69) ?_
  show Steps p.tables e below (T13.setTop (mkF m 71 #[.val (.int p0), .val (.int p1), .unset, .unset, .unset] [(.int (28 : Int32)), (.int (12 : Int32)), (.ref b1), (.ref b1)])) _
  refine st14 _ ?_
  show Steps p.tables e below (T14.setTop (mkF m 72 #[.val (.int p0), .val (.int p1), .unset, .unset, .unset] [(.ref b1)])) _
  refine XS.dup X14.here hx rfl (hb hby at_72) rfl rfl ?_
  show Steps p.tables e below (T14.setTop (mkF m 73 #[.val (.int p0), .val (.int p1), .unset, .unset, .unset] [(.ref b1), (.ref b1)])) _
  refine XS.bipush X14.here hx rfl (hb hby at_73) ?_
  show Steps p.tables e below (T14.setTop (mkF m 75 #[.val (.int p0), .val (.int p1), .unset, .unset, .unset] [(.int (13 : Int32)), (.ref b1), (.ref b1)])) _
  refine XS.bipush X14.here hx rfl (hb hby at_75) ?_
  show Steps p.tables e below (T14.setTop (mkF m 77 #[.val (.int p0), .val (.int p1), .unset, .unset, .unset] [(.int (41 : Int32)), (.int (13 : Int32)), (.ref b1), (.ref b1)])) _
  refine st15 _ ?_
  show Steps p.tables e below (T15.setTop (mkF m 78 #[.val (.int p0), .val (.int p1), .unset, .unset, .unset] [(.ref b1)])) _
  refine XS.dup X15.here hx rfl (hb hby at_78) rfl rfl ?_
  show Steps p.tables e below (T15.setTop (mkF m 79 #[.val (.int p0), .val (.int p1), .unset, .unset, .unset] [(.ref b1), (.ref b1)])) _
  refine XS.bipush X15.here hx rfl (hb hby at_79) ?_
  show Steps p.tables e below (T15.setTop (mkF m 81 #[.val (.int p0), .val (.int p1), .unset, .unset, .unset] [(.int (14 : Int32)), (.ref b1), (.ref b1)])) _
  refine XS.iconst X15.here hx rfl (hb hby at_81) ?_
  show Steps p.tables e below (T15.setTop (mkF m 82 #[.val (.int p0), .val (.int p1), .unset, .unset, .unset] [(.int (0 : Int32)), (.int (14 : Int32)), (.ref b1), (.ref b1)])) _
  refine st16 _ ?_
  show Steps p.tables e below (T16.setTop (mkF m 83 #[.val (.int p0), .val (.int p1), .unset, .unset, .unset] [(.ref b1)])) _
  refine XS.dup X16.here hx rfl (hb hby at_83) rfl rfl ?_
  show Steps p.tables e below (T16.setTop (mkF m 84 #[.val (.int p0), .val (.int p1), .unset, .unset, .unset] [(.ref b1), (.ref b1)])) _
  refine XS.bipush X16.here hx rfl (hb hby at_84) ?_
  show Steps p.tables e below (T16.setTop (mkF m 86 #[.val (.int p0), .val (.int p1), .unset, .unset, .unset] [(.int (15 : Int32)), (.ref b1), (.ref b1)])) _
  refine XS.sipush X16.here hx rfl (hb hby at_86) ?_
  show Steps p.tables e below (T16.setTop (mkF m 89 #[.val (.int p0), .val (.int p1), .unset, .unset, .unset] [(.int (255 : Int32)), (.int (15 : Int32)), (.ref b1), (.ref b1)])) _
  refine st17 _ ?_
  show Steps p.tables e below (T17.setTop (mkF m 90 #[.val (.int p0), .val (.int p1), .unset, .unset, .unset] [(.ref b1)])) _
  refine XS.dup X17.here hx rfl (hb hby at_90) rfl rfl ?_
  show Steps p.tables e below (T17.setTop (mkF m 91 #[.val (.int p0), .val (.int p1), .unset, .unset, .unset] [(.ref b1), (.ref b1)])) _
  refine XS.bipush X17.here hx rfl (hb hby at_91) ?_
  show Steps p.tables e below (T17.setTop (mkF m 93 #[.val (.int p0), .val (.int p1), .unset, .unset, .unset] [(.int (16 : Int32)), (.ref b1), (.ref b1)])) _
  refine XS.sipush X17.here hx rfl (hb hby at_93) ?_
  show Steps p.tables e below (T17.setTop (mkF m 96 #[.val (.int p0), .val (.int p1), .unset, .unset, .unset] [(.int (160 : Int32)), (.int (16 : Int32)), (.ref b1), (.ref b1)])) _
  refine st18 _ ?_
  show Steps p.tables e below (T18.setTop (mkF m 97 #[.val (.int p0), .val (.int p1), .unset, .unset, .unset] [(.ref b1)])) _
  refine XS.dup X18.here hx rfl (hb hby at_97) rfl rfl ?_
  show Steps p.tables e below (T18.setTop (mkF m 98 #[.val (.int p0), .val (.int p1), .unset, .unset, .unset] [(.ref b1), (.ref b1)])) _
  refine XS.bipush X18.here hx rfl (hb hby at_98) ?_
  show Steps p.tables e below (T18.setTop (mkF m 100 #[.val (.int p0), .val (.int p1), .unset, .unset, .unset] [(.int (17 : Int32)), (.ref b1), (.ref b1)])) _
  refine XS.sipush X18.here hx rfl (hb hby at_100) ?_
  show Steps p.tables e below (T18.setTop (mkF m 103 #[.val (.int p0), .val (.int p1), .unset, .unset, .unset] [(.int (165 : Int32)), (.int (17 : Int32)), (.ref b1), (.ref b1)])) _
  refine st19 _ ?_
  show Steps p.tables e below (T19.setTop (mkF m 104 #[.val (.int p0), .val (.int p1), .unset, .unset, .unset] [(.ref b1)])) _
  refine XS.dup X19.here hx rfl (hb hby at_104) rfl rfl ?_
  show Steps p.tables e below (T19.setTop (mkF m 105 #[.val (.int p0), .val (.int p1), .unset, .unset, .unset] [(.ref b1), (.ref b1)])) _
  refine XS.bipush X19.here hx rfl (hb hby at_105) ?_
  show Steps p.tables e below (T19.setTop (mkF m 107 #[.val (.int p0), .val (.int p1), .unset, .unset, .unset] [(.int (18 : Int32)), (.ref b1), (.ref b1)])) _
  refine XS.iconst X19.here hx rfl (hb hby at_107) ?_
  show Steps p.tables e below (T19.setTop (mkF m 108 #[.val (.int p0), .val (.int p1), .unset, .unset, .unset] [(.int (-1 : Int32)), (.int (18 : Int32)), (.ref b1), (.ref b1)])) _
  refine st20 _ ?_
  show Steps p.tables e below (T20.setTop (mkF m 109 #[.val (.int p0), .val (.int p1), .unset, .unset, .unset] [(.ref b1)])) _
  refine XS.dup X20.here hx rfl (hb hby at_109) rfl rfl ?_
  show Steps p.tables e below (T20.setTop (mkF m 110 #[.val (.int p0), .val (.int p1), .unset, .unset, .unset] [(.ref b1), (.ref b1)])) _
  refine XS.bipush X20.here hx rfl (hb hby at_110) ?_
  show Steps p.tables e below (T20.setTop (mkF m 112 #[.val (.int p0), .val (.int p1), .unset, .unset, .unset] [(.int (19 : Int32)), (.ref b1), (.ref b1)])) _
  refine X20.ldcI hx hown (mvT hZ (hw _ (List.mem_of_getElem? (i := 1) rfl))) rfl (hb hby at_112) ?_
  show Steps p.tables e below (T20.setTop (mkF m 114 #[.val (.int p0), .val (.int p1), .unset, .unset, .unset] [(.int (-2147483648 : Int32)), (.int (19 : Int32)), (.ref b1), (.ref b1)])) _
  refine st21 _ ?_
  show Steps p.tables e below (T21.setTop (mkF m 115 #[.val (.int p0), .val (.int p1), .unset, .unset, .unset] [(.ref b1)])) _
  refine XS.astoreN X21.here hx rfl (hb hby at_115) rfl rfl (l' := #[.val (.int p0), .val (.int p1), .val (.ref b1), .unset, .unset]) rfl ?_
  show Steps p.tables e below (T21.setTop (mkF m 116 #[.val (.int p0), .val (.int p1), .val (.ref b1), .unset, .unset] [])) _
  refine sg_C p0 p1 b1 tb X21 hx hZ hw hby hown e21 AT ?_
  show Steps p.tables e below (T21.setTop (mkF m 156 #[.val (.int p0), .val (.int p1), .val (.ref b1), .val (.int (p1 &&& (3 : Int32))), .val (.int (own_C_l4 p0 p1 tb))] [])) _
  rw [ht]
  show Steps p.tables e below (T21.setTop (mkF m 156 #[.val (.int p0), .val (.int p1), .val (.ref b1), .val (.int (p1 &&& (3 : Int32))), .val (.int t)] [])) _
  refine XS.iload X21.here hx rfl (hb hby at_156) rfl ?_
  show Steps p.tables e below (T21.setTop (mkF m 158 #[.val (.int p0), .val (.int p1), .val (.ref b1), .val (.int (p1 &&& (3 : Int32))), .val (.int t)] [(.int t)])) _
  refine st23 _ ?_
  show Steps p.tables e below (T23.setTop (mkF m 161 #[.val (.int p0), .val (.int p1), .val (.ref b1), .val (.int (p1 &&& (3 : Int32))), .val (.int t)] [(.int (own_car t))])) _
  refine XS.iload X23.here hx rfl (hb hby at_161) rfl ?_
  show Steps p.tables e below (T23.setTop (mkF m 163 #[.val (.int p0), .val (.int p1), .val (.ref b1), .val (.int (p1 &&& (3 : Int32))), .val (.int t)] [(.int t), (.int (own_car t))])) _
  refine st25 _ ?_
  show Steps p.tables e below (T25.setTop (mkF m 166 #[.val (.int p0), .val (.int p1), .val (.ref b1), .val (.int (p1 &&& (3 : Int32))), .val (.int t)] [(.int (own_E3_s0 (own_E1_s0 t) (own_E2_s0 t))), (.int (own_car t))])) _
  refine XS.icmpNo X25.here hx rfl (hb hby at_166) rfl (teq (own_same t)).2 ?_
  show Steps p.tables e below (T25.setTop (mkF m 169 #[.val (.int p0), .val (.int p1), .val (.ref b1), .val (.int (p1 &&& (3 : Int32))), .val (.int t)] [])) _
  refine XS.iconst X25.here hx rfl (hb hby at_169) ?_
  show Steps p.tables e below (T25.setTop (mkF m 170 #[.val (.int p0), .val (.int p1), .val (.ref b1), .val (.int (p1 &&& (3 : Int32))), .val (.int t)] [(.int (1 : Int32))])) _
  refine XS.goto X25.here hx rfl (pc0 := 170) (pc' := 174) rfl (hb hby at_170) (by decide) (by decide) ?_
  show Steps p.tables e below (T25.setTop (mkF m 174 #[.val (.int p0), .val (.int p1), .val (.ref b1), .val (.int (p1 &&& (3 : Int32))), .val (.int t)] [(.int (1 : Int32))])) _
  exact retN X25 hx (t := .boolean) Bd.returns (by simp) (hb hby at_174) hr
set_option maxRecDepth 65536 in
set_option maxHeartbeats 40000000 in
theorem comes_1 {Post : Tables → Env → Array Value → State → Outcome → State → Prop} (hpost : ∀ tb e args s v u, (limb_1_1.after args s (.returned v) u = true ∧ limb_1_2.after args s (.returned v) u = true ∧ True) → FrameEnd s (.returned v) u (Jvm.fieldLocs frame_1_writes args s ++ Jvm.arrayLocs frame_1_arrays args s ++ Jvm.staticLocs frame_1_statics s) 16 128 → Post tb e args s (.returned v) u) :
    ArmFor flags0 classFile x code maxLocals ret World_1 tables_1 room_1 Calls_1 rest_1 Pre_1 Post := by
  intro l hfl _ _ p e ha hc hk s m args below hf hA hF happ hP
  obtain ⟨hcalls, hrest, hpre⟩ := hP
  obtain ⟨-, -, -, hnamed, -, -, -, hat⟩ := (Spec.applies_iff hf).mp happ
  obtain ⟨hg, hn⟩ := and_e (Cond.before_iff.mp (show (Jvm.Cond.and given_1 narrow_1).before args s = true from hpre))
  obtain ⟨gc, g0⟩ := and_e hg
  obtain ⟨k0, g1⟩ := and_e g0
  obtain ⟨w0, w1, rfl⟩ : ∃ w0 w1 : Value, args = #[w0, w1] := by
    have hs : args.size = 2 := by simpa [Cond.value, given_1] using gc
    obtain ⟨L⟩ := args
    match L, hs with
    | [w0, w1], _ => exact ⟨w0, w1, rfl⟩
  have hw := fun d (hd : d ∈ tables_1) => atoms_spec (ws := Jvm.Cond.code x code maxLocals ret :: tables_1) hat d (List.mem_cons_of_mem _ hd)
  obtain ⟨i0, ei0⟩ := is_v k0
  obtain rfl : w0 = (.int i0) := Option.some.inj ei0
  obtain ⟨i1, ei1⟩ := is_v g1
  obtain rfl : w1 = (.int i1) := Option.some.inj ei1
  obtain ⟨n, o, h1, h2, h3, _, L, rfl, ⟨rfl, N⟩, hq⟩ := rm0 l s _ hw tables_1 i0 i1 s.heap s.heap.size (Nat.le_refl _) p e ha hc hk s m _ below hf ((Spec.applies_iff_loose hf).mp happ).1 ⟨rfl, State.Warmed39.refl s, rfl⟩ trivial
  refine ⟨n, _, h1, h2, h3, hpost _ _ _ _ _ _ ⟨Cond.after_iff.mpr rfl, Cond.after_iff.mpr (eq_i res_at (Term.int_eval (1)) rfl), trivial⟩ ⟨hq.1, hq.2.1, (hq.2.2.sift fun y hy => Or.inr (N y hy)).mono (by decide) (by decide)⟩⟩
theorem main_1_1 : Claimed_1_1 := comes_1 fun _ _ _ _ _ _ h hF => ⟨h.1, hF⟩
theorem main_1_2 : Claimed_1_2 := comes_1 fun _ _ _ _ _ _ h hF => ⟨h.2.1, hF⟩
end Jvm.Pilot.@@N@@
namespace Jvm.Pilot.@@N@@
open Jvm Jvm.ClassFile Sem Op Lib Jvm.Free Jvm.Stand Jvm.Pilot.@@N@@.Jvm.D
/-! MADE BY PROGRAM (witnessworld.py) out of the Statement's table words and the real class files: 9 classes; the members and pool entries that the words name. The judged class is class 1, her method 2. -/
namespace start1
open Jvm.ClassFile
def u (s : String) : CpInfo := .utf8 (stringToUtf16 s)
/-- a pool by its gaps: so many unusable entries, then the entry; so many at the end -/
def gap : Nat → List CpInfo → List CpInfo
  | 0, r => r
  | n + 1, r => .unusable :: gap n r
def poolList (es : List (Nat × CpInfo)) (last : Nat) : List CpInfo := es.foldr (fun e r => gap e.1 (e.2 :: r)) (gap last [])
def pool (es : List (Nat × CpInfo)) (last : Nat) : Array CpInfo := ⟨poolList es last⟩
def fileOf (pool : Array CpInfo) (this : Nat) (attrs : Array Attribute := #[]) (ms : Array MethodInfo := #[]) (fl : Nat := 33) (sup : Nat := 0) (ifs : Array Nat := #[]) (fds : Array FieldInfo := #[]) : ClassFile where
  minorVersion := 0
  majorVersion := 65
  constantPool := pool
  accessFlags := fl
  thisClass := this
  superClass := sup
  interfaces := ifs
  fields := fds
  methods := ms
  attributes := attrs
def plain (name : String) (sup : Option ClassId) : Class where
  name := name
  kind := .ordinary
  loader := none
  accessFlags := 33
  super := sup
  interfaces := #[]
  cf := none
  fields := #[]
  methods := #[]
  instanceTypes := #[]
  staticTypes := #[]
  resolved := #[]
  callSites := []
  init := .initialized
  statics := none
  mirror := none

def pool0 : Array CpInfo := pool [(5, u "<init>"), (0, u "()V"), (1, .class_ 10), (1, u "java/lang/Object")] 113

def k0m0 : Method := { name := "<init>", desc := "()V", sig := { parameters := [], returnType := none }, accessFlags := 1, code := none }
/-- java/lang/Object -/
def k0 : Class := { plain "java/lang/Object" none with
  accessFlags := 33
  interfaces := #[]
  cf := some (fileOf pool0 8 #[] #[{ accessFlags := 1, nameIndex := 5, descriptorIndex := 6, attributes := #[] }] 33 0 #[] #[])
  fields := #[]
  methods := #[k0m0]
  instanceTypes := #[]
  staticTypes := #[]
  resolved := Array.replicate 124 none
  statics := none }

def pool1 : Array CpInfo := pool [(2, .class_ 4), (1, u "java/lang/Object"), (0, u "<init>"), (0, u "()V"), (0, .class_ 8), (0, u "com/example/millrace/millrace/binlog/EventType"), (2, .integer 2147483648), (0, .integer 2147483647), (0, .methodref 7 14), (0, .nameAndType 15 16), (0, u "carriesNoChange"), (0, u "(I)Z"), (0, .methodref 18 19), (0, .class_ 20), (0, .nameAndType 21 16), (0, u "com/example/millrace/millrace/binlog/EventTypeCarriesNoChangePinLaw"), (0, u "expected"), (3, u "law"), (0, u "(II)Z")] 4

def k1m0 : Method := { name := "<init>", desc := "()V", sig := { parameters := [], returnType := none }, accessFlags := 2, code := none }
def k1c1 : Code := { maxStack := 2, maxLocals := 3, code := method_2_code, exceptionTable := #[], attributes := #[] }
def k1m1 : Method := { name := "expected", desc := "(I)Z", sig := { parameters := [.int], returnType := some .boolean }, accessFlags := 10, code := some k1c1 }
def k1c2 : Code := { maxStack := 4, maxLocals := 5, code := code, exceptionTable := #[], attributes := #[] }
def k1m2 : Method := { name := "law", desc := "(II)Z", sig := { parameters := [.int, .int], returnType := some .boolean }, accessFlags := 9, code := some k1c2 }
/-- com/example/millrace/millrace/binlog/EventTypeCarriesNoChangePinLaw -/
def k1 : Class := { plain "com/example/millrace/millrace/binlog/EventTypeCarriesNoChangePinLaw" (some 0) with
  accessFlags := 49
  interfaces := #[]
  cf := some (fileOf pool1 18 #[] #[{ accessFlags := 2, nameIndex := 5, descriptorIndex := 6, attributes := #[] }, { accessFlags := 10, nameIndex := 21, descriptorIndex := 16, attributes := #[] }, { accessFlags := 9, nameIndex := 25, descriptorIndex := 26, attributes := #[] }] 49 2 #[] #[])
  fields := #[]
  methods := #[k1m0, k1m1, k1m2]
  instanceTypes := #[]
  staticTypes := #[]
  resolved := Array.replicate 31 none
  statics := none }

def pool2 : Array CpInfo := pool [(2, .class_ 4), (1, u "java/lang/Object"), (0, u "<init>"), (0, u "()V"), (1, .class_ 10), (1, u "com/example/millrace/millrace/binlog/EventType"), (0, u "PLAIN"), (0, u "[I"), (7, u "QUERY"), (0, u "I"), (2, u "STOP"), (1, u "ROTATE"), (1, u "INTVAR"), (1, u "RAND"), (1, u "USER_VAR"), (1, u "FORMAT_DESCRIPTION"), (1, u "XID"), (1, u "TABLE_MAP"), (1, u "WRITE_ROWS_V1"), (1, u "UPDATE_ROWS_V1"), (1, u "DELETE_ROWS_V1"), (1, u "INCIDENT"), (1, u "HEARTBEAT"), (1, u "WRITE_ROWS_V2"), (1, u "UPDATE_ROWS_V2"), (1, u "DELETE_ROWS_V2"), (1, u "XA_PREPARE"), (1, u "ROWS_QUERY"), (1, u "MYSQL_GTID"), (1, u "ANONYMOUS_GTID"), (1, u "PREVIOUS_GTIDS"), (1, u "TRANSACTION_CONTEXT"), (1, u "VIEW_CHANGE"), (1, u "HEARTBEAT_V2"), (1, u "ANNOTATE_ROWS"), (1, u "BINLOG_CHECKPOINT"), (1, u "GTID"), (1, u "GTID_LIST"), (1, u "QUERY_COMPRESSED"), (1, u "WRITE_ROWS_COMPRESSED_V1"), (1, u "UPDATE_ROWS_COMPRESSED_V1"), (1, u "DELETE_ROWS_COMPRESSED_V1"), (1, u "WRITE_ROWS_COMPRESSED_V2"), (1, u "UPDATE_ROWS_COMPRESSED_V2"), (1, u "DELETE_ROWS_COMPRESSED_V2"), (4, u "carriesNoChange"), (0, u "(I)Z")] 4

def k2m0 : Method := { name := "<init>", desc := "()V", sig := { parameters := [], returnType := none }, accessFlags := 2, code := none }
def k2c1 : Code := { maxStack := 1, maxLocals := 1, code := prog_20_method_4_code, exceptionTable := #[], attributes := #[] }
def k2m1 : Method := { name := "carriesNoChange", desc := "(I)Z", sig := { parameters := [.int], returnType := some .boolean }, accessFlags := 9, code := some k2c1 }
/-- com/example/millrace/millrace/binlog/EventType -/
def k2 : Class := { plain "com/example/millrace/millrace/binlog/EventType" (some 0) with
  accessFlags := 49
  interfaces := #[]
  cf := some (fileOf pool2 8 #[] #[{ accessFlags := 2, nameIndex := 5, descriptorIndex := 6, attributes := #[] }, { accessFlags := 9, nameIndex := 97, descriptorIndex := 98, attributes := #[] }] 49 2 #[] #[{ accessFlags := 25, nameIndex := 20, descriptorIndex := 21, attributes := #[] }, { accessFlags := 25, nameIndex := 24, descriptorIndex := 21, attributes := #[] }, { accessFlags := 25, nameIndex := 26, descriptorIndex := 21, attributes := #[] }, { accessFlags := 25, nameIndex := 28, descriptorIndex := 21, attributes := #[] }, { accessFlags := 25, nameIndex := 30, descriptorIndex := 21, attributes := #[] }, { accessFlags := 25, nameIndex := 32, descriptorIndex := 21, attributes := #[] }, { accessFlags := 25, nameIndex := 34, descriptorIndex := 21, attributes := #[] }, { accessFlags := 25, nameIndex := 36, descriptorIndex := 21, attributes := #[] }, { accessFlags := 25, nameIndex := 38, descriptorIndex := 21, attributes := #[] }, { accessFlags := 25, nameIndex := 40, descriptorIndex := 21, attributes := #[] }, { accessFlags := 25, nameIndex := 42, descriptorIndex := 21, attributes := #[] }, { accessFlags := 25, nameIndex := 44, descriptorIndex := 21, attributes := #[] }, { accessFlags := 25, nameIndex := 46, descriptorIndex := 21, attributes := #[] }, { accessFlags := 25, nameIndex := 48, descriptorIndex := 21, attributes := #[] }, { accessFlags := 25, nameIndex := 50, descriptorIndex := 21, attributes := #[] }, { accessFlags := 25, nameIndex := 52, descriptorIndex := 21, attributes := #[] }, { accessFlags := 25, nameIndex := 54, descriptorIndex := 21, attributes := #[] }, { accessFlags := 25, nameIndex := 56, descriptorIndex := 21, attributes := #[] }, { accessFlags := 25, nameIndex := 58, descriptorIndex := 21, attributes := #[] }, { accessFlags := 25, nameIndex := 60, descriptorIndex := 21, attributes := #[] }, { accessFlags := 25, nameIndex := 62, descriptorIndex := 21, attributes := #[] }, { accessFlags := 25, nameIndex := 64, descriptorIndex := 21, attributes := #[] }, { accessFlags := 25, nameIndex := 66, descriptorIndex := 21, attributes := #[] }, { accessFlags := 25, nameIndex := 68, descriptorIndex := 21, attributes := #[] }, { accessFlags := 25, nameIndex := 70, descriptorIndex := 21, attributes := #[] }, { accessFlags := 25, nameIndex := 72, descriptorIndex := 21, attributes := #[] }, { accessFlags := 25, nameIndex := 74, descriptorIndex := 21, attributes := #[] }, { accessFlags := 25, nameIndex := 76, descriptorIndex := 21, attributes := #[] }, { accessFlags := 25, nameIndex := 78, descriptorIndex := 21, attributes := #[] }, { accessFlags := 25, nameIndex := 80, descriptorIndex := 21, attributes := #[] }, { accessFlags := 25, nameIndex := 82, descriptorIndex := 21, attributes := #[] }, { accessFlags := 25, nameIndex := 84, descriptorIndex := 21, attributes := #[] }, { accessFlags := 25, nameIndex := 86, descriptorIndex := 21, attributes := #[] }, { accessFlags := 25, nameIndex := 88, descriptorIndex := 21, attributes := #[] }, { accessFlags := 25, nameIndex := 90, descriptorIndex := 21, attributes := #[] }, { accessFlags := 25, nameIndex := 92, descriptorIndex := 21, attributes := #[] }, { accessFlags := 26, nameIndex := 11, descriptorIndex := 12, attributes := #[] }])
  fields := #[{ name := "QUERY", type := .int, accessFlags := 25, slot := 0, constantValue := 0 }, { name := "STOP", type := .int, accessFlags := 25, slot := 1, constantValue := 0 }, { name := "ROTATE", type := .int, accessFlags := 25, slot := 2, constantValue := 0 }, { name := "INTVAR", type := .int, accessFlags := 25, slot := 3, constantValue := 0 }, { name := "RAND", type := .int, accessFlags := 25, slot := 4, constantValue := 0 }, { name := "USER_VAR", type := .int, accessFlags := 25, slot := 5, constantValue := 0 }, { name := "FORMAT_DESCRIPTION", type := .int, accessFlags := 25, slot := 6, constantValue := 0 }, { name := "XID", type := .int, accessFlags := 25, slot := 7, constantValue := 0 }, { name := "TABLE_MAP", type := .int, accessFlags := 25, slot := 8, constantValue := 0 }, { name := "WRITE_ROWS_V1", type := .int, accessFlags := 25, slot := 9, constantValue := 0 }, { name := "UPDATE_ROWS_V1", type := .int, accessFlags := 25, slot := 10, constantValue := 0 }, { name := "DELETE_ROWS_V1", type := .int, accessFlags := 25, slot := 11, constantValue := 0 }, { name := "INCIDENT", type := .int, accessFlags := 25, slot := 12, constantValue := 0 }, { name := "HEARTBEAT", type := .int, accessFlags := 25, slot := 13, constantValue := 0 }, { name := "WRITE_ROWS_V2", type := .int, accessFlags := 25, slot := 14, constantValue := 0 }, { name := "UPDATE_ROWS_V2", type := .int, accessFlags := 25, slot := 15, constantValue := 0 }, { name := "DELETE_ROWS_V2", type := .int, accessFlags := 25, slot := 16, constantValue := 0 }, { name := "XA_PREPARE", type := .int, accessFlags := 25, slot := 17, constantValue := 0 }, { name := "ROWS_QUERY", type := .int, accessFlags := 25, slot := 18, constantValue := 0 }, { name := "MYSQL_GTID", type := .int, accessFlags := 25, slot := 19, constantValue := 0 }, { name := "ANONYMOUS_GTID", type := .int, accessFlags := 25, slot := 20, constantValue := 0 }, { name := "PREVIOUS_GTIDS", type := .int, accessFlags := 25, slot := 21, constantValue := 0 }, { name := "TRANSACTION_CONTEXT", type := .int, accessFlags := 25, slot := 22, constantValue := 0 }, { name := "VIEW_CHANGE", type := .int, accessFlags := 25, slot := 23, constantValue := 0 }, { name := "HEARTBEAT_V2", type := .int, accessFlags := 25, slot := 24, constantValue := 0 }, { name := "ANNOTATE_ROWS", type := .int, accessFlags := 25, slot := 25, constantValue := 0 }, { name := "BINLOG_CHECKPOINT", type := .int, accessFlags := 25, slot := 26, constantValue := 0 }, { name := "GTID", type := .int, accessFlags := 25, slot := 27, constantValue := 0 }, { name := "GTID_LIST", type := .int, accessFlags := 25, slot := 28, constantValue := 0 }, { name := "QUERY_COMPRESSED", type := .int, accessFlags := 25, slot := 29, constantValue := 0 }, { name := "WRITE_ROWS_COMPRESSED_V1", type := .int, accessFlags := 25, slot := 30, constantValue := 0 }, { name := "UPDATE_ROWS_COMPRESSED_V1", type := .int, accessFlags := 25, slot := 31, constantValue := 0 }, { name := "DELETE_ROWS_COMPRESSED_V1", type := .int, accessFlags := 25, slot := 32, constantValue := 0 }, { name := "WRITE_ROWS_COMPRESSED_V2", type := .int, accessFlags := 25, slot := 33, constantValue := 0 }, { name := "UPDATE_ROWS_COMPRESSED_V2", type := .int, accessFlags := 25, slot := 34, constantValue := 0 }, { name := "DELETE_ROWS_COMPRESSED_V2", type := .int, accessFlags := 25, slot := 35, constantValue := 0 }, { name := "PLAIN", type := (.array .int), accessFlags := 26, slot := 36, constantValue := 0 }]
  methods := #[k2m0, k2m1]
  instanceTypes := #[]
  staticTypes := #[.int, .int, .int, .int, .int, .int, .int, .int, .int, .int, .int, .int, .int, .int, .int, .int, .int, .int, .int, .int, .int, .int, .int, .int, .int, .int, .int, .int, .int, .int, .int, .int, .int, .int, .int, .int, (.array .int)]
  resolved := Array.replicate 103 none
  statics := none }

def pool3 : Array CpInfo := pool [(1, u "java/lang/Cloneable"), (0, .class_ 1), (0, u "java/lang/Object"), (0, .class_ 3)] 3

/-- java/lang/Cloneable -/
def k3 : Class := { plain "java/lang/Cloneable" (some 0) with
  accessFlags := 1537
  interfaces := #[]
  cf := some (fileOf pool3 2 #[] #[] 1537 4 #[] #[])
  fields := #[]
  methods := #[]
  instanceTypes := #[]
  staticTypes := #[]
  resolved := Array.replicate 8 none
  statics := none }

def pool4 : Array CpInfo := pool [(1, u "java/io/Serializable"), (0, .class_ 1), (0, u "java/lang/Object"), (0, .class_ 3)] 3

/-- java/io/Serializable -/
def k4 : Class := { plain "java/io/Serializable" (some 0) with
  accessFlags := 1537
  interfaces := #[]
  cf := some (fileOf pool4 2 #[] #[] 1537 4 #[] #[])
  fields := #[]
  methods := #[]
  instanceTypes := #[]
  staticTypes := #[]
  resolved := Array.replicate 8 none
  statics := none }

/-- the primitive byte -/
def k5 : Class := { plain "byte" none with kind := .primitive 'B', accessFlags := 0x411 }
/-- [B -/
def k6 : Class := { plain "[B" (some 0) with kind := .array 5 .byte, interfaces := #[3, 4], accessFlags := 1041 }

/-- the primitive int -/
def k7 : Class := { plain "int" none with kind := .primitive 'I', accessFlags := 0x411 }
/-- [I -/
def k8 : Class := { plain "[I" (some 0) with kind := .array 7 .int, interfaces := #[3, 4], accessFlags := 1041 }

def heap : Heap := #[]
def classes : Array Class := #[k0, k1, k2, k3, k4, k5, k6, k7, k8]
def interned : List (Array UInt16 × Addr) := []
def slotsUsed : Nat := 0
def theMethod : MethodId := ⟨1, 2⟩
def args0 : Array Value := #[.int 5, .int 300]
def aboutOver (below : List Frame) : State where
  vm := { classes := classes, interned := interned.toArray }
  heap := heap
  slotsUsed := slotsUsed
  threads := #[{ frames := .invoking theMethod args0 :: below }]
def below0 : List Frame := [.native { method := ⟨0, 0⟩, args := #[] }]
def about1 : State := aboutOver below0
def p0 : Program := .bare "" "" ""
def e0 : Env := launch0.env 0 0 0
theorem w_frames : about1.frames = Frame.invoking theMethod args0 :: below0 := rfl
set_option maxRecDepth 65536 in
theorem w_args : argsFit about1.vm theMethod args0 = true := by decide +kernel
set_option maxRecDepth 65536 in
theorem w_heap : heapFits about1 = true := by decide +kernel
set_option maxRecDepth 65536 in
theorem w_runnable : about1.curStatus? = some .runnable := by decide +kernel
set_option maxRecDepth 65536 in
theorem w_alone : about1.alone = true := by decide +kernel
set_option maxRecDepth 65536 in
theorem w_named : about1.methodNamed? x = some theMethod := by decide +kernel
set_option maxRecDepth 65536 in
theorem w_hears : about1.hears theMethod below0 = true := by decide +kernel
set_option maxRecDepth 65536 in
theorem w_ripe : about1.ripe theMethod args0 below0 = true := by decide +kernel
theorem w_running : about1.status = .running := rfl
set_option maxRecDepth 65536 in
theorem w_room : about1.hasRoom e0.platform room_1 = true :=
  launch0.hasRoom_least _ room_1 (by decide +kernel) (by decide +kernel) (by decide +kernel) (by decide +kernel) (by decide +kernel) (by decide +kernel)
theorem allAtoms_all (ts : List Jvm.Cond) (a : Array Jvm.Value) (st : Jvm.State) : (allAtoms ts).before a st = ts.all (fun c => c.before a st) := by
  induction ts with
  | nil => rfl
  | cons c t ih =>
    show (Jvm.Cond.and c (allAtoms t)).before a st = _
    rw [Jvm.Cond.before_and, ih, List.all_cons]
def words1 : List Jvm.Cond := Jvm.Cond.code x code maxLocals ret :: tables_1
/-- a 'code' word, met by the world's own term for the bytes: nothing is compared byte by byte -/
theorem code_word {y : MethodName} {bytes : ByteArray} {mx : Nat} {rt : Option FieldType} {a : Array Value} {s : State} {m : MethodId} {meth : Method} {c : Code} (h1 : s.methodNamed? y = some m) (h2 : s.vm.method? m = some meth) (h3 : meth.code = some c) (h4 : c.code = bytes)
    (h5 : (c.maxLocals == mx && c.exceptionTable.isEmpty && decide (c.maxStack ≤ mostOperands) && decide (meth.sig.returnType = rt) && !meth.locks && decide (parseMethodDescriptor y.desc = some meth.sig)) = true) : (Jvm.Cond.code y bytes mx rt).before a s = true := by
  simp only [Bool.and_eq_true, beq_iff_eq, Bool.not_eq_true', decide_eq_true_eq] at h5
  obtain ⟨⟨⟨⟨⟨g1, g2⟩, g3⟩, g4⟩, g5⟩, g6⟩ := h5
  simp [Cond.before, Cond.holds, Cond.value, h1, h2, h3, h4, g1, g2, g3, g4, g5, g6]
def isCode : Jvm.Cond → Bool
  | .code _ _ _ _ => true
  | _ => false
theorem all_split {L : List Jvm.Cond} {P : Jvm.Cond → Bool} (h1 : L.all (fun c => isCode c || P c) = true) (h2 : ∀ c ∈ L.filter isCode, P c = true) : L.all P = true := by
  refine List.all_eq_true.mpr fun c hc => ?_
  have h := List.all_eq_true.mp h1 c hc
  rcases Bool.eq_false_or_eq_true (isCode c) with hi | hi
  · exact h2 c (List.mem_filter.mpr ⟨hc, hi⟩)
  · simpa [hi] using h
set_option maxRecDepth 65536 in
theorem w_c0 : (Jvm.Cond.code x code maxLocals ret).before args0 about1 = true := code_word (m := ⟨1, 2⟩) (meth := k1m2) (c := k1c2) (by decide +kernel) rfl rfl rfl (by decide +kernel)
set_option maxRecDepth 65536 in
theorem w_c1 : (Jvm.Cond.code ({ cls := "com/example/millrace/millrace/binlog/EventType", name := "carriesNoChange", desc := "(I)Z" } : Jvm.MethodName) prog_20_method_4_code (1 : Nat) (Option.some Jvm.ClassFile.FieldType.boolean)).before args0 about1 = true := code_word (m := ⟨2, 1⟩) (meth := k2m1) (c := k2c1) (by decide +kernel) rfl rfl rfl (by decide +kernel)
set_option maxRecDepth 65536 in
theorem w_c2 : (Jvm.Cond.code ({ cls := "com/example/millrace/millrace/binlog/EventTypeCarriesNoChangePinLaw", name := "expected", desc := "(I)Z" } : Jvm.MethodName) method_2_code (3 : Nat) (Option.some Jvm.ClassFile.FieldType.boolean)).before args0 about1 = true := code_word (m := ⟨1, 1⟩) (meth := k1m1) (c := k1c1) (by decide +kernel) rfl rfl rfl (by decide +kernel)
def codes1 : List Jvm.Cond := [Jvm.Cond.code x code maxLocals ret, Jvm.Cond.code ({ cls := "com/example/millrace/millrace/binlog/EventType", name := "carriesNoChange", desc := "(I)Z" } : Jvm.MethodName) prog_20_method_4_code (1 : Nat) (Option.some Jvm.ClassFile.FieldType.boolean), Jvm.Cond.code ({ cls := "com/example/millrace/millrace/binlog/EventTypeCarriesNoChangePinLaw", name := "expected", desc := "(I)Z" } : Jvm.MethodName) method_2_code (3 : Nat) (Option.some Jvm.ClassFile.FieldType.boolean)]
set_option maxRecDepth 65536 in
theorem codes_eq : words1.filter isCode = codes1 := rfl
theorem w_codes : ∀ c ∈ words1.filter isCode, c.before args0 about1 = true := by
  rw [codes_eq]
  intro c hc
  simp only [codes1, List.mem_cons, List.not_mem_nil, or_false] at hc
  rcases hc with rfl | rfl | rfl
  · exact w_c0
  · exact w_c1
  · exact w_c2
set_option maxRecDepth 65536 in
theorem w_t1 : words1.all (fun c => isCode c || c.before args0 about1) = true := by decide +kernel
theorem w_tables : (allAtoms (Jvm.Cond.code x code maxLocals ret :: tables_1)).before args0 about1 = true := by
  rw [allAtoms_all]
  show words1.all (fun c => c.before args0 about1) = true
  refine all_split ?_ w_codes
  rw [w_t1]
set_option maxRecDepth 65536 in
theorem w_case : (Jvm.Cond.and given_1 narrow_1).before args0 about1 = true := by decide +kernel
theorem w_applies : (headSpec (Jvm.Cond.code x code maxLocals ret :: tables_1) room_1).applies x e0.platform about1 = true :=
  (Spec.applies_iff w_frames).mpr ⟨w_running, w_runnable, w_alone, w_named, w_hears, w_ripe, w_room, w_tables⟩
theorem atStart : AtStart classFile x code maxLocals ret World_1 tables_1 room_1 Calls_1 rest_1 Pre_1 launch0 p0 e0 about1 theMethod args0 below0 :=
  ⟨lists_1, trivial, launch0.admits_env _ _ _, launch0.least_env, fairChoices_fair.cas, fairChoices_fair.clock, w_frames, w_args, w_heap, w_applies, trivial, trivial, w_case⟩
end start1
theorem witness_1 : WitnessClaimed_1 := ⟨start1.p0, start1.e0, start1.about1, start1.theMethod, start1.args0, start1.below0, start1.atStart⟩
end Jvm.Pilot.@@N@@
