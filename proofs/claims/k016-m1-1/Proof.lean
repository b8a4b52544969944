import JvmDerived
import JvmDerived.Pilot.@@N@@Statement
import JvmDerived.Pilot.@@N@@Code
set_option linter.unusedVariables false
set_option linter.unusedSimpArgs false
namespace Jvm.Pilot.@@N@@
open Jvm Jvm.ClassFile Sem Op Lib Jvm.Free Jvm.Stand Jvm.LawKit Jvm.RoadKit Bundle Jvm.Pilot.@@N@@.Jvm.D
/-! OWN LAYER (the same text in every claim): arrays by a function, and their steps -/
section OwnLayer
variable {p : Program} {l : Launch} {e : Env} {R : Room} {s : State} {m : MethodId} {args : Array Value} {below : List Frame} {meth : Method} {c : Code} {T : State} {locs : List Loc} {cells slots : Nat} {Z : State} {a0 : Array Value} {h h' : Heap} {a b : Addr} {ty : FieldType} {N : Int32} {target : State}
theorem own_retI (X : Stand p l e R s m args below meth c T locs cells slots) (hx : p.tables.exec = Jvm.exec) {pc : Nat} {Ls : Array Slot} {z : Int32} {rest : List Value} (hret : meth.sig.returnType = some .int) (hd : decode c.code pc = .ok (.ireturn, 1)) {fs : List Frame}
    (hl : ∀ (f : JFrame) (acts : List Action), f.method = m → f.locked = none → f.entered = [] → (doReturn e (T.setTop f) acts (some (.int z))).1 = T.setFrames fs) : Steps p.tables e below (T.setTop (mkF m pc Ls (.int z :: rest))) (T.setFrames fs) :=
  retOut X hx hret rfl (Or.inl ⟨rfl, Or.inl rfl, z, rfl⟩) hd hl
theorem own_retJ (X : Stand p l e R s m args below meth c T locs cells slots) (hx : p.tables.exec = Jvm.exec) {pc : Nat} {Ls : Array Slot} {z : Int64} {rest : List Value} (hret : meth.sig.returnType = some .long) (hd : decode c.code pc = .ok (.lreturn, 1)) {fs : List Frame}
    (hl : ∀ (f : JFrame) (acts : List Action), f.method = m → f.locked = none → f.entered = [] → (doReturn e (T.setTop f) acts (some (.long z))).1 = T.setFrames fs) : Steps p.tables e below (T.setTop (mkF m pc Ls (.long z :: rest))) (T.setFrames fs) :=
  retOut X hx hret rfl (Or.inr (Or.inl ⟨rfl, rfl, z, rfl⟩)) hd hl
/-- the written places by a name -/
theorem own_gen {n0 : Nat} (X : Stand p l e R s m args below meth c T locs cells slots) (N : Fr n0 locs) : ∃ L, Stand p l e R s m args below meth c T L cells slots ∧ Fr n0 L := ⟨_, X, N⟩
/-- f with v at the place i -/
def own_up {α : Type} (f : Nat → α) (i : Nat) (v : α) : Nat → α := fun j => if j = i then v else f j
theorem own_up_at {α : Type} (f : Nat → α) (i : Nat) (v : α) : own_up f i v i = v := if_pos rfl
theorem own_up_ne {α : Type} (f : Nat → α) {i j : Nat} (v : α) (q : j ≠ i) : own_up f i v j = f j := if_neg q
/-- an array of N places whose place j holds the int f j -/
def own_AI (Z : State) (h : Heap) (a : Addr) (ty : FieldType) (N : Int32) (f : Nat → Int32) : Prop := ∃ c : Cell, Arr Z h a c ty ∧ c.slots.size = N.toNatClampNeg ∧ ¬ N < 0 ∧ ∀ j, j < N.toNatClampNeg → c.slots[j]? = some (.int (f j))
/-- an array of N places whose place j holds the long f j -/
def own_AJ (Z : State) (h : Heap) (a : Addr) (N : Int32) (f : Nat → Int64) : Prop := ∃ c : Cell, Arr Z h a c .long ∧ c.slots.size = N.toNatClampNeg ∧ ¬ N < 0 ∧ ∀ j, j < N.toNatClampNeg → c.slots[j]? = some (.long (f j))
variable {f : Nat → Int32} {fJ : Nat → Int64}
theorem own_AI.lt (A : own_AI Z h a ty N f) : a < h.size := by obtain ⟨c, A, -⟩ := A; exact A.lt
theorem own_AJ.lt (A : own_AJ Z h a N fJ) : a < h.size := by obtain ⟨c, A, -⟩ := A; exact A.lt
theorem own_AI.ext (A : own_AI Z h a ty N f) (E : Ext h h') : own_AI Z h' a ty N f := by obtain ⟨c, A, r⟩ := A; exact ⟨c, A.ext E, r⟩
theorem own_AJ.ext (A : own_AJ Z h a N fJ) (E : Ext h h') : own_AJ Z h' a N fJ := by obtain ⟨c, A, r⟩ := A; exact ⟨c, A.ext E, r⟩
theorem own_AI.other {sl : Nat} {v : Value} (A : own_AI Z h a ty N f) (W : Wr h h' b sl v) (q : a ≠ b) : own_AI Z h' a ty N f := by obtain ⟨c, A, r⟩ := A; exact ⟨c, A.other W q, r⟩
theorem own_AJ.other {sl : Nat} {v : Value} (A : own_AJ Z h a N fJ) (W : Wr h h' b sl v) (q : a ≠ b) : own_AJ Z h' a N fJ := by obtain ⟨c, A, r⟩ := A; exact ⟨c, A.other W q, r⟩
theorem own_AI.keep {ws : List Addr} (A : own_AI Z h a ty N f) (K : Keep h h' ws) (q : a ∉ ws) : own_AI Z h' a ty N f := by obtain ⟨c, A, r⟩ := A; exact ⟨c, ⟨K.2.1 a c A.1 q, A.2⟩, r⟩
theorem own_AJ.keep {ws : List Addr} (A : own_AJ Z h a N fJ) (K : Keep h h' ws) (q : a ∉ ws) : own_AJ Z h' a N fJ := by obtain ⟨c, A, r⟩ := A; exact ⟨c, ⟨K.2.1 a c A.1 q, A.2⟩, r⟩
theorem own_slots (c : Cell) (i j : Nat) (v : Value) (hj : j < c.slots.size) : (c.setSlot i v).slots[j]? = if j = i then some v else c.slots[j]? := by
  show (c.slots.setIfInBounds i v)[j]? = _
  rw [Array.getElem?_setIfInBounds]
  by_cases q : i = j
  · subst q; simp [hj]
  · simp [q, Ne.symm q]
theorem own_AI.set {i : Nat} {v : Int32} (A : own_AI Z h a ty N f) (W : Wr h h' a i (.int v)) : own_AI Z h' a ty N (own_up f i v) := by
  obtain ⟨c, A, S, M, H⟩ := A
  refine ⟨_, A.same W, by rw [sz_set, S], M, fun j hj => ?_⟩
  rw [own_slots c i j _ (by rw [S]; exact hj)]
  by_cases q : j = i
  · rw [if_pos q, q, own_up_at]
  · rw [if_neg q, own_up_ne _ _ q, H j hj]
theorem own_AJ.set {i : Nat} {v : Int64} (A : own_AJ Z h a N fJ) (W : Wr h h' a i (.long v)) : own_AJ Z h' a N (own_up fJ i v) := by
  obtain ⟨c, A, S, M, H⟩ := A
  refine ⟨_, A.same W, by rw [sz_set, S], M, fun j hj => ?_⟩
  rw [own_slots c i j _ (by rw [S]; exact hj)]
  by_cases q : j = i
  · rw [if_pos q, q, own_up_at]
  · rw [if_neg q, own_up_ne _ _ q, H j hj]
theorem own_AI.fresh {k : ClassId} (A : Arr Z h a (newA k ty N) ty) (hd : defaultValue ty = .int 0) (M : ¬ N < 0) : own_AI Z h a ty N (fun _ => 0) := by
  refine ⟨_, A, sz_new _ _ _, M, fun j hj => ?_⟩
  show (Array.replicate N.toNatClampNeg (defaultValue ty))[j]? = _
  rw [Array.getElem?_replicate, if_pos hj, hd]
theorem own_AJ.fresh {k : ClassId} (A : Arr Z h a (newA k .long N) .long) (M : ¬ N < 0) : own_AJ Z h a N (fun _ => 0) := by
  refine ⟨_, A, sz_new _ _ _, M, fun j hj => ?_⟩
  show (Array.replicate N.toNatClampNeg (defaultValue .long))[j]? = _
  rw [Array.getElem?_replicate, if_pos hj]; rfl
theorem own_AI.congr {f' : Nat → Int32} (A : own_AI Z h a ty N f) (q : ∀ j, j < N.toNatClampNeg → f j = f' j) : own_AI Z h a ty N f' := by
  obtain ⟨c, A, S, M, H⟩ := A
  exact ⟨c, A, S, M, fun j hj => by rw [H j hj, q j hj]⟩
theorem own_AJ.congr {f' : Nat → Int64} (A : own_AJ Z h a N fJ) (q : ∀ j, j < N.toNatClampNeg → fJ j = f' j) : own_AJ Z h a N f' := by
  obtain ⟨c, A, S, M, H⟩ := A
  exact ⟨c, A, S, M, fun j hj => by rw [H j hj, q j hj]⟩
theorem own_lt_nat {j : Int32} (q : ¬ j < 0 ∧ j < N) : j.toNatClampNeg < N.toNatClampNeg := by
  have h1 := nat_of q.1
  have h2 : ¬ N < 0 := by
    intro u; have := q.1; have := q.2
    rw [Int32.lt_iff_toInt_lt] at *; omega
  have h3 := nat_of h2
  have := q.2
  rw [Int32.lt_iff_toInt_lt] at this
  omega
/-- a place in the array, by its number -/
theorem own_ix {j : Int32} (h0 : 0 ≤ j.toInt) (h1 : j.toInt < N.toInt) : ¬ j < 0 ∧ j < N := by
  rw [Int32.lt_iff_toInt_lt, Int32.lt_iff_toInt_lt]
  exact ⟨by show ¬ j.toInt < 0; omega, h1⟩
theorem own_len (X : Stand p l e R s m args below meth c T locs cells slots) (hx : p.tables.exec = Jvm.exec) (hZ : Z.Warmed39 s.vm) (eT : T.heap = h) (A : own_AI Z h a ty N f) {g : JFrame} (hg : g.method = m) {rest : List Value} (hs : g.stack = .ref a :: rest) (hd : decode c.code g.pc = .ok (.arraylength, 1))
    (hr : Steps p.tables e below (T.setTop { g with pc := g.pc + 1, stack := .int N :: rest }) target) : Steps p.tables e below (T.setTop g) target := by
  obtain ⟨cl, A, S, M, -⟩ := A
  refine X.arraylength hx (cell := cl) (by rw [eT]; exact A.1) (State.isArrayOf_alike hZ.alike A.2.1) hg hs hd _ ?_
  rw [len_of S M]; exact hr
theorem own_lenJ (X : Stand p l e R s m args below meth c T locs cells slots) (hx : p.tables.exec = Jvm.exec) (hZ : Z.Warmed39 s.vm) (eT : T.heap = h) (A : own_AJ Z h a N fJ) {g : JFrame} (hg : g.method = m) {rest : List Value} (hs : g.stack = .ref a :: rest) (hd : decode c.code g.pc = .ok (.arraylength, 1))
    (hr : Steps p.tables e below (T.setTop { g with pc := g.pc + 1, stack := .int N :: rest }) target) : Steps p.tables e below (T.setTop g) target := by
  obtain ⟨cl, A, S, M, -⟩ := A
  refine X.arraylength hx (cell := cl) (by rw [eT]; exact A.1) (State.isArrayOf_alike hZ.alike A.2.1) hg hs hd _ ?_
  rw [len_of S M]; exact hr
theorem own_ldI (X : Stand p l e R s m args below meth c T locs cells slots) (hx : p.tables.exec = Jvm.exec) (hZ : Z.Warmed39 s.vm) (eT : T.heap = h) (A : own_AI Z h a .int N f) {j : Int32} (q : ¬ j < 0 ∧ j < N) {g : JFrame} (hg : g.method = m) {rest : List Value} (hs : g.stack = .int j :: .ref a :: rest) (hd : decode c.code g.pc = .ok (.iaload, 1))
    (hr : Steps p.tables e below (T.setTop { g with pc := g.pc + 1, stack := .int (f j.toNatClampNeg) :: rest }) target) : Steps p.tables e below (T.setTop g) target := by
  obtain ⟨cl, A, S, M, H⟩ := A
  exact X.iaload hx (j := j) (by rw [eT]; exact A.1) (State.isArrayOf_alike hZ.alike A.2.1) A.2.2 (inb_of S q) (H _ (own_lt_nat q)) hg hs hd _ hr
theorem own_ldB (X : Stand p l e R s m args below meth c T locs cells slots) (hx : p.tables.exec = Jvm.exec) (hZ : Z.Warmed39 s.vm) (eT : T.heap = h) (A : own_AI Z h a .byte N f) {j : Int32} (q : ¬ j < 0 ∧ j < N) {g : JFrame} (hg : g.method = m) {rest : List Value} (hs : g.stack = .int j :: .ref a :: rest) (hd : decode c.code g.pc = .ok (.baload, 1))
    (hr : Steps p.tables e below (T.setTop { g with pc := g.pc + 1, stack := .int (f j.toNatClampNeg) :: rest }) target) : Steps p.tables e below (T.setTop g) target := by
  obtain ⟨cl, A, S, M, H⟩ := A
  exact X.baloadBytes hx (j := j) (by rw [eT]; exact A.1) (State.isArrayOf_alike hZ.alike A.2.1) A.2.2 (inb_of S q) (H _ (own_lt_nat q)) hg hs hd _ hr
theorem own_ldJ (X : Stand p l e R s m args below meth c T locs cells slots) (hx : p.tables.exec = Jvm.exec) (hZ : Z.Warmed39 s.vm) (eT : T.heap = h) (A : own_AJ Z h a N fJ) {j : Int32} (q : ¬ j < 0 ∧ j < N) {g : JFrame} (hg : g.method = m) {rest : List Value} (hs : g.stack = .int j :: .ref a :: rest) (hd : decode c.code g.pc = .ok (.laload, 1))
    (hr : Steps p.tables e below (T.setTop { g with pc := g.pc + 1, stack := .long (fJ j.toNatClampNeg) :: rest }) target) : Steps p.tables e below (T.setTop g) target := by
  obtain ⟨cl, A, S, M, H⟩ := A
  exact X.laload hx (j := j) (by rw [eT]; exact A.1) (State.isArrayOf_alike hZ.alike A.2.1) A.2.2 (inb_of S q) (H _ (own_lt_nat q)) hg hs hd _ hr
theorem own_stI (X : Stand p l e R s m args below meth c T locs cells slots) (hx : p.tables.exec = Jvm.exec) (hZ : Z.Warmed39 s.vm) (eT : T.heap = h) (A : own_AI Z h a .int N f) {j x : Int32} (q : ¬ j < 0 ∧ j < N) {g : JFrame} (hg : g.method = m) {rest : List Value} (hs : g.stack = .int x :: .int j :: .ref a :: rest) (hd : decode c.code g.pc = .ok (.iastore, 1)) :
    ∃ T' h', Stand p l e R s m args below meth c T' (locs ++ [⟨a, j.toNatClampNeg⟩]) cells slots ∧ T'.heap = h' ∧ Wr h h' a j.toNatClampNeg (.int x) ∧ own_AI Z h' a .int N (own_up f j.toNatClampNeg x) ∧ ∀ target, Steps p.tables e below (T'.setTop { g with pc := g.pc + 1, stack := rest }) target → Steps p.tables e below (T.setTop g) target := by
  have A' := A
  obtain ⟨cl, A, S, M, H⟩ := A
  obtain ⟨T', h', X', e', W', st⟩ := stI X hx hZ eT A (j := j) (inb_of S q) hg hs hd
  exact ⟨T', h', X', e', W', A'.set W', st⟩
theorem own_stB (X : Stand p l e R s m args below meth c T locs cells slots) (hx : p.tables.exec = Jvm.exec) (hZ : Z.Warmed39 s.vm) (eT : T.heap = h) (A : own_AI Z h a .byte N f) {j x : Int32} (q : ¬ j < 0 ∧ j < N) {g : JFrame} (hg : g.method = m) {rest : List Value} (hs : g.stack = .int x :: .int j :: .ref a :: rest) (hd : decode c.code g.pc = .ok (.bastore, 1)) :
    ∃ T' h', Stand p l e R s m args below meth c T' (locs ++ [⟨a, j.toNatClampNeg⟩]) cells slots ∧ T'.heap = h' ∧ Wr h h' a j.toNatClampNeg (.int x.toInt8.toInt32) ∧ own_AI Z h' a .byte N (own_up f j.toNatClampNeg x.toInt8.toInt32) ∧ ∀ target, Steps p.tables e below (T'.setTop { g with pc := g.pc + 1, stack := rest }) target → Steps p.tables e below (T.setTop g) target := by
  have A' := A
  obtain ⟨cl, A, S, M, H⟩ := A
  obtain ⟨T', h', X', e', W', st⟩ := stB X hx hZ eT A (j := j) (inb_of S q) hg hs hd
  exact ⟨T', h', X', e', W', A'.set W', st⟩
theorem own_stJ (X : Stand p l e R s m args below meth c T locs cells slots) (hx : p.tables.exec = Jvm.exec) (hZ : Z.Warmed39 s.vm) (eT : T.heap = h) (A : own_AJ Z h a N fJ) {j : Int32} {x : Int64} (q : ¬ j < 0 ∧ j < N) {g : JFrame} (hg : g.method = m) {rest : List Value} (hs : g.stack = .long x :: .int j :: .ref a :: rest) (hd : decode c.code g.pc = .ok (.lastore, 1)) :
    ∃ T' h', Stand p l e R s m args below meth c T' (locs ++ [⟨a, j.toNatClampNeg⟩]) cells slots ∧ T'.heap = h' ∧ Wr h h' a j.toNatClampNeg (.long x) ∧ own_AJ Z h' a N (own_up fJ j.toNatClampNeg x) ∧ ∀ target, Steps p.tables e below (T'.setTop { g with pc := g.pc + 1, stack := rest }) target → Steps p.tables e below (T.setTop g) target := by
  have A' := A
  obtain ⟨cl, A, S, M, H⟩ := A
  obtain ⟨T', h', X', e', W', st⟩ := stJ X hx hZ eT A (j := j) (inb_of S q) hg hs hd
  exact ⟨T', h', X', e', W', A'.set W', st⟩
theorem own_newI (X : Stand p l e R s m args below meth c T locs cells slots) (hx : p.tables.exec = Jvm.exec) (hZ : Z.Warmed39 s.vm) {aty : ArrayType} (w : (Cond.arrayClass (newarray.typeOf aty)).before a0 Z = true) (hdv : defaultValue (newarray.typeOf aty) = .int 0) (eT : T.heap = h) {g : JFrame} (hg : g.method = m) (hd : decode c.code g.pc = .ok (.newarray aty, 2)) {n : Int32} {rest : List Value} (hs : g.stack = .int n :: rest)
    (hn : ¬ n < 0) {cap : Nat} (hcap : n.toNatClampNeg ≤ cap) (hb : cap * 8 ≤ 536870912) (hc : cells + 1 ≤ R.cells) (hl : slots + cap ≤ R.slots) :
    ∃ T' h', Stand p l e R s m args below meth c T' locs (cells + 1) (slots + cap) ∧ T'.heap = h' ∧ Ext h h' ∧ own_AI Z h' h.size (newarray.typeOf aty) n (fun _ => 0) ∧ ∀ target, Steps p.tables e below (T'.setTop { g with pc := g.pc + 2, stack := .ref h.size :: rest }) target → Steps p.tables e below (T.setTop g) target := by
  obtain ⟨T', h', k, X', e', E', A', st⟩ := newP X hx hZ w eT hg hd hs hn hcap hb hc hl
  exact ⟨T', h', X', e', E', own_AI.fresh A' hdv hn, st⟩
theorem own_newJ (X : Stand p l e R s m args below meth c T locs cells slots) (hx : p.tables.exec = Jvm.exec) (hZ : Z.Warmed39 s.vm) (w : (Cond.arrayClass .long).before a0 Z = true) (eT : T.heap = h) {g : JFrame} (hg : g.method = m) (hd : decode c.code g.pc = .ok (.newarray .long, 2)) {n : Int32} {rest : List Value} (hs : g.stack = .int n :: rest)
    (hn : ¬ n < 0) {cap : Nat} (hcap : n.toNatClampNeg ≤ cap) (hb : cap * 8 ≤ 536870912) (hc : cells + 1 ≤ R.cells) (hl : slots + cap ≤ R.slots) :
    ∃ T' h', Stand p l e R s m args below meth c T' locs (cells + 1) (slots + cap) ∧ T'.heap = h' ∧ Ext h h' ∧ own_AJ Z h' h.size n (fun _ => 0) ∧ ∀ target, Steps p.tables e below (T'.setTop { g with pc := g.pc + 2, stack := .ref h.size :: rest }) target → Steps p.tables e below (T.setTop g) target := by
  obtain ⟨T', h', k, X', e', E', A', st⟩ := newP (aty := .long) X hx hZ w eT hg hd hs hn hcap hb hc hl
  exact ⟨T', h', X', e', E', own_AJ.fresh A' hn, st⟩
theorem own_ne_obj {C : String} {k : Nat} (F : Exa Z h a C) (wi : (Cond.instantiable C k).before a0 Z = true) (A : own_AI Z h b ty N f) : a ≠ b := by obtain ⟨c, A, -⟩ := A; exact ne_arr F wi A
theorem own_ne_objJ {C : String} {k : Nat} (F : Exa Z h a C) (wi : (Cond.instantiable C k).before a0 Z = true) (A : own_AJ Z h b N fJ) : a ≠ b := by obtain ⟨c, A, -⟩ := A; exact ne_arr F wi A
theorem own_selp {s : State} {b0 args : Array Value} {y : MethodName} {n : Nat} (wi : (Cond.instantiable y.cls n).before b0 s = true) (hp : s.PrivateAt y) (hi : (Cond.instanceMethod y).before b0 s = true) (hy : y.cls ≠ "java/lang/invoke/MethodHandle" ∧ y.cls ≠ "java/lang/invoke/VarHandle") : (Cond.selects y.cls y y).before args s = true := by
  obtain ⟨c, k, hc, hk, -, hab, -, -⟩ := Cond.instantiable_spec wi
  have hni : k.isInterface = false := by
    cases q : k.isInterface with
    | false => rfl
    | true => rw [q] at hab; simp at hab
  have r := selects_self_of_private (args := b0) hc hk hni hp hi hy
  exact r
end OwnLayer
/-! OWN LAYER: machine numbers as integers -/
section OwnNums
variable {x y : Int32} {u v : Int64} {a b : Int}
theorem own_i_add (hx : x.toInt = a) (hy : y.toInt = b) (h : -2147483648 ≤ a + b ∧ a + b < 2147483648) : (x + y).toInt = a + b := by
  rw [Jvm.Free.XT.add32 (by rw [hx, hy]; exact h), hx, hy]
theorem own_i_sub (hx : x.toInt = a) (hy : y.toInt = b) (h : -2147483648 ≤ a - b ∧ a - b < 2147483648) : (x - y).toInt = a - b := by
  rw [Jvm.Free.XT.sub32 (by rw [hx, hy]; exact h), hx, hy]
theorem own_i_mul (hx : x.toInt = a) (hy : y.toInt = b) (h : -2147483648 ≤ a * b ∧ a * b < 2147483648) : (x * y).toInt = a * b := by
  rw [Jvm.Free.XT.mul32 (by rw [hx, hy]; exact h), hx, hy]
theorem own_i_div (hx : x.toInt = a) (hy : y.toInt = b) (h : 0 ≤ a ∧ 0 < b) : (x / y).toInt = a / b := by
  rw [(c_idiv x y b hy (fun q => by rw [q] at hy; have : (-1 : Int32).toInt = -1 := rfl; omega)).1 (by omega), hx]
theorem own_i_mod (hx : x.toInt = a) (hy : y.toInt = b) (h : 0 ≤ a ∧ 0 < b) : (x % y).toInt = a % b := by
  rw [(c_irem x y b hy).1 (by omega), hx]
theorem own_l_add (hu : u.toInt = a) (hv : v.toInt = b) (h : -9223372036854775808 ≤ a + b ∧ a + b < 9223372036854775808) : (u + v).toInt = a + b := by
  rw [Jvm.Free.XT.add64 (by rw [hu, hv]; exact h), hu, hv]
theorem own_l_sub (hu : u.toInt = a) (hv : v.toInt = b) (h : -9223372036854775808 ≤ a - b ∧ a - b < 9223372036854775808) : (u - v).toInt = a - b := by
  rw [Jvm.Free.XT.sub64 (by rw [hu, hv]; exact h), hu, hv]
theorem own_l_mul (hu : u.toInt = a) (hv : v.toInt = b) (h : -9223372036854775808 ≤ a * b ∧ a * b < 9223372036854775808) : (u * v).toInt = a * b := by
  rw [Jvm.Free.XT.mul64 (by rw [hu, hv]; exact h), hu, hv]
theorem own_l_div (hu : u.toInt = a) (hv : v.toInt = b) (h : 0 ≤ a ∧ 0 < b) : (u / v).toInt = a / b := by
  rw [(c_ldiv u v b hv (fun q => by rw [q] at hv; have : (-1 : Int64).toInt = -1 := rfl; omega)).1 (by omega), hu]
theorem own_l_divN (hu : u.toInt = a) (hv : v.toInt = b) (h : a < 0 ∧ 0 < b) : (u / v).toInt = -((-a) / b) := by
  rw [(c_ldiv u v b hv (fun q => by rw [q] at hv; have : (-1 : Int64).toInt = -1 := rfl; omega)).2 (by omega), hu]
theorem own_i2l (hx : x.toInt = a) : (x.toInt64).toInt = a := by rw [c_i2l, hx]
theorem own_l2i (hu : u.toInt = a) (h : -2147483648 ≤ a ∧ a < 2147483648) : (u.toInt32).toInt = a := by
  have h1 := c_l2i u; have h2 := rng32 u.toInt32; omega
theorem own_i_mask (m : Int32) (k : Nat) (hk : k ≤ 31) (hm : m.toBitVec.toNat = 2 ^ k - 1) (hx : x.toInt = a) : (x &&& m).toInt = a % (2 ^ k : Nat) := by rw [c_mask x m k hk hm, hx]
theorem own_i_lt (hx : x.toInt = a) (hy : y.toInt = b) : x < y ↔ a < b := by rw [Int32.lt_iff_toInt_lt, hx, hy]
theorem own_l_lt (hu : u.toInt = a) (hv : v.toInt = b) : u < v ↔ a < b := by rw [Int64.lt_iff_toInt_lt, hu, hv]
theorem own_i_eq (hx : x.toInt = a) (hy : y.toInt = b) : x = y ↔ a = b := by rw [← Int32.toInt_inj, hx, hy]
theorem own_l_eq (hu : u.toInt = a) (hv : v.toInt = b) : u = v ↔ a = b := by rw [← Int64.toInt_inj, hu, hv]
theorem own_i_nat (hx : x.toInt = a) (h : 0 ≤ a) : x.toNatClampNeg = a.toNat := by show x.toInt.toNat = a.toNat; rw [hx]
theorem own_i_of (h : x.toInt = y.toInt) : x = y := Int32.toInt_inj.mp h
theorem own_l_of (h : u.toInt = v.toInt) : u = v := Int64.toInt_inj.mp h
end OwnNums
theorem d4_0 : decode jdk_41_method_13_code 0 = .ok (.iload_n 2, 1) := by decide +kernel
theorem d4_1 : decode jdk_41_method_13_code 1 = .ok (.iload_n 0, 1) := by decide +kernel
theorem d4_2 : decode jdk_41_method_13_code 2 = .ok (.ior, 1) := by decide +kernel
theorem d4_3 : decode jdk_41_method_13_code 3 = .ok (.iload_n 1, 1) := by decide +kernel
theorem d4_4 : decode jdk_41_method_13_code 4 = .ok (.ior, 1) := by decide +kernel
theorem d4_5 : decode jdk_41_method_13_code 5 = .ok (.ifCond .lt 10, 3) := by decide +kernel
theorem d4_8 : decode jdk_41_method_13_code 8 = .ok (.iload_n 1, 1) := by decide +kernel
theorem d4_9 : decode jdk_41_method_13_code 9 = .ok (.iload_n 2, 1) := by decide +kernel
theorem d4_10 : decode jdk_41_method_13_code 10 = .ok (.iload_n 0, 1) := by decide +kernel
theorem d4_11 : decode jdk_41_method_13_code 11 = .ok (.isub, 1) := by decide +kernel
theorem d4_12 : decode jdk_41_method_13_code 12 = .ok (.if_icmp .le 11, 3) := by decide +kernel
theorem d4_15 : decode jdk_41_method_13_code 15 = .ok (.aload_n 3, 1) := by decide +kernel
theorem d4_16 : decode jdk_41_method_13_code 16 = .ok (.iload_n 0, 1) := by decide +kernel
theorem d4_17 : decode jdk_41_method_13_code 17 = .ok (.iload_n 1, 1) := by decide +kernel
theorem d4_18 : decode jdk_41_method_13_code 18 = .ok (.iload_n 2, 1) := by decide +kernel
theorem d4_19 : decode jdk_41_method_13_code 19 = .ok (.invokestatic 103, 3) := by decide +kernel
theorem d4_22 : decode jdk_41_method_13_code 22 = .ok (.athrow, 1) := by decide +kernel
theorem d4_23 : decode jdk_41_method_13_code 23 = .ok (.iload_n 0, 1) := by decide +kernel
theorem d4_24 : decode jdk_41_method_13_code 24 = .ok (.ireturn, 1) := by decide +kernel
theorem pn_4 : plainName "jdk/internal/util/Preconditions" = true := by first | (simp [plainName, overriddenIn]; done) | decide +kernel
theorem ef_4 (m : MethodId) (x0 : Int32) (x1 : Int32) (x2 : Int32) : entryFrame m #[(.int x0), (.int x1), (.int x2), .null] 4 = mkF m 0 #[.val (.int x0), .val (.int x1), .val (.int x2), .val .null] [] := by first | (simp [entryFrame, mkF, argsToLocals, Value.category]; done) | rfl
def Q1 (Z : State) (p0 : Int32) (p1 : Int32) (p2 : Int32) (h0 : Heap) (n0 : Nat) (v : Option Value) (h : Heap) (L : List Loc) : Prop := v = some (.int p0) ∧ Fr n0 L ∧ h = h0
set_option maxRecDepth 65536 in
set_option maxHeartbeats 40000000 in
theorem rm1 (l : Launch) (Z : State) (a0 : Array Value) (hw : ∀ d ∈ tables_1, d.before a0 Z = true) (ws : List Jvm.Cond) (p0 : Int32) (p1 : Int32) (p2 : Int32) (h0 : Heap) (n0 : Nat) (Z0 : n0 ≤ h0.size) (hq1 : ¬ ((p2 ||| p0) ||| p1) < (0 : Int32)) (hq2 : ¬ (p2 - p0) < p1) :
    MetFree l (⟨"jdk/internal/util/Preconditions", "checkFromIndexSize", "(IIILjava/util/function/BiFunction;)I"⟩ : MethodName) (head1 (Jvm.Cond.code (⟨"jdk/internal/util/Preconditions", "checkFromIndexSize", "(IIILjava/util/function/BiFunction;)I"⟩ : MethodName) jdk_41_method_13_code 4 (some .int) :: ws) ({ frames := 0, cells := 0, slots := 0, locals := 0 } : Room)) (fun a_ U_ => a_ = #[(.int p0), (.int p1), (.int p2), .null] ∧ Z.Warmed39 U_.vm ∧ U_.heap = h0) (fun _ _ _ _ _ => True) (fun _ U_ o_ U' => ∃ v_ L_, o_ = .returned v_ ∧ (Q1 Z p0 p1 p2 h0 n0 v_ U'.heap L_) ∧ FrameEnd U_ o_ U' L_ ({ frames := 0, cells := 0, slots := 0, locals := 0 } : Room).cells ({ frames := 0, cells := 0, slots := 0, locals := 0 } : Room).slots) := by
  refine MetFree.of_bodySF (plainFor_of_name pn_4) hisR ?_
  intro p e s m args below meth c s₁ Bd hml0 hP hK
  obtain ⟨rfl, hZ, hh⟩ := hP
  have hx := Bd.exec
  have hby := Bd.bytes
  have hml : c.maxLocals = 4 := hml0
  have hown : s.vm.findClass "jdk/internal/util/Preconditions" = some m.cls := findClass_of_methodNamed Bd.named
  have hnm := (name_of_methodNamed Bd.named Bd.method).1
  have X0 : Stand p l e ({ frames := 0, cells := 0, slots := 0, locals := 0 } : Room) s m #[(.int p0), (.int p1), (.int p2), .null] below meth c s₁ [] 0 0 := Stand.of_body Bd
  have e0 : s₁.heap = h0 := by rw [← hh, Bd.state]; rfl
  have N0 := Fr.nil n0
  have pre0 : ∀ t, Steps p.tables e below (s₁.setTop (mkF m 0 #[.val (.int p0), .val (.int p1), .val (.int p2), .val .null] [])) t → Steps p.tables e below (s₁.setTop (entryFrame m #[(.int p0), (.int p1), (.int p2), .null] 4)) t := fun t k => castTop (ef_4 m p0 p1 p2) k
  obtain ⟨fs, hr, hrun, hended, hW, hsame⟩ := X0.leave (v := some (.int p0)) (fun h => by rw [Bd.returns] at h; cases h)
  refine ⟨_, _, pre0 _ ?_, hrun, hended, _, _, rfl, ⟨rfl, N0, e0⟩, ⟨_, rfl⟩, hW, hsame.mono (by decide) (by decide)⟩
  show Steps p.tables e below (s₁.setTop (mkF m 0 #[.val (.int p0), .val (.int p1), .val (.int p2), .val .null] [])) _
  refine XS.iloadN X0.here hx rfl (hb hby d4_0) rfl ?_
  show Steps p.tables e below (s₁.setTop (mkF m 1 #[.val (.int p0), .val (.int p1), .val (.int p2), .val .null] [(.int p2)])) _
  refine XS.iloadN X0.here hx rfl (hb hby d4_1) rfl ?_
  show Steps p.tables e below (s₁.setTop (mkF m 2 #[.val (.int p0), .val (.int p1), .val (.int p2), .val .null] [(.int p0), (.int p2)])) _
  refine XS.ior X0.here hx rfl (hb hby d4_2) rfl ?_
  show Steps p.tables e below (s₁.setTop (mkF m 3 #[.val (.int p0), .val (.int p1), .val (.int p2), .val .null] [(.int (p2 ||| p0))])) _
  refine XS.iloadN X0.here hx rfl (hb hby d4_3) rfl ?_
  show Steps p.tables e below (s₁.setTop (mkF m 4 #[.val (.int p0), .val (.int p1), .val (.int p2), .val .null] [(.int p1), (.int (p2 ||| p0))])) _
  refine XS.ior X0.here hx rfl (hb hby d4_4) rfl ?_
  show Steps p.tables e below (s₁.setTop (mkF m 5 #[.val (.int p0), .val (.int p1), .val (.int p2), .val .null] [(.int ((p2 ||| p0) ||| p1))])) _
  refine XS.ifNo X0.here hx rfl (hb hby d4_5) rfl ((if0 _ _).trans (flt hq1).1) ?_
  show Steps p.tables e below (s₁.setTop (mkF m 8 #[.val (.int p0), .val (.int p1), .val (.int p2), .val .null] [])) _
  refine XS.iloadN X0.here hx rfl (hb hby d4_8) rfl ?_
  show Steps p.tables e below (s₁.setTop (mkF m 9 #[.val (.int p0), .val (.int p1), .val (.int p2), .val .null] [(.int p1)])) _
  refine XS.iloadN X0.here hx rfl (hb hby d4_9) rfl ?_
  show Steps p.tables e below (s₁.setTop (mkF m 10 #[.val (.int p0), .val (.int p1), .val (.int p2), .val .null] [(.int p2), (.int p1)])) _
  refine XS.iloadN X0.here hx rfl (hb hby d4_10) rfl ?_
  show Steps p.tables e below (s₁.setTop (mkF m 11 #[.val (.int p0), .val (.int p1), .val (.int p2), .val .null] [(.int p0), (.int p2), (.int p1)])) _
  refine XS.isub X0.here hx rfl (hb hby d4_11) rfl ?_
  show Steps p.tables e below (s₁.setTop (mkF m 12 #[.val (.int p0), .val (.int p1), .val (.int p2), .val .null] [(.int (p2 - p0)), (.int p1)])) _
  refine XS.icmpYes X0.here hx rfl (pc0 := 12) (pc' := 23) rfl (hb hby d4_12) rfl (flt hq2).2.2.2 (by decide) (by decide) ?_
  show Steps p.tables e below (s₁.setTop (mkF m 23 #[.val (.int p0), .val (.int p1), .val (.int p2), .val .null] [])) _
  refine XS.iloadN X0.here hx rfl (hb hby d4_23) rfl ?_
  show Steps p.tables e below (s₁.setTop (mkF m 24 #[.val (.int p0), .val (.int p1), .val (.int p2), .val .null] [(.int p0)])) _
  exact own_retI X0 hx Bd.returns (hb hby d4_24) hr
theorem d3_0 : decode jdk_31_method_19_code 0 = .ok (.iload_n 0, 1) := by decide +kernel
theorem d3_1 : decode jdk_31_method_19_code 1 = .ok (.iload_n 1, 1) := by decide +kernel
theorem d3_2 : decode jdk_31_method_19_code 2 = .ok (.iload_n 2, 1) := by decide +kernel
theorem d3_3 : decode jdk_31_method_19_code 3 = .ok (.aconst_null, 1) := by decide +kernel
theorem d3_4 : decode jdk_31_method_19_code 4 = .ok (.invokestatic 115, 3) := by decide +kernel
theorem d3_7 : decode jdk_31_method_19_code 7 = .ok (.ireturn, 1) := by decide +kernel
theorem pn_3 : plainName "java/util/Objects" = true := by first | (simp [plainName, overriddenIn]; done) | decide +kernel
theorem ef_3 (m : MethodId) (x0 : Int32) (x1 : Int32) (x2 : Int32) : entryFrame m #[(.int x0), (.int x1), (.int x2)] 3 = mkF m 0 #[.val (.int x0), .val (.int x1), .val (.int x2)] [] := by first | (simp [entryFrame, mkF, argsToLocals, Value.category]; done) | rfl
theorem pd_0 : parseMethodDescriptor "(IIILjava/util/function/BiFunction;)I" = some ⟨[.int, .int, .int, (.object "java/util/function/BiFunction")], some .int⟩ := by decide +kernel
def Q2 (Z : State) (p0 : Int32) (p1 : Int32) (p2 : Int32) (h0 : Heap) (n0 : Nat) (v : Option Value) (h : Heap) (L : List Loc) : Prop := v = some (.int p0) ∧ Fr n0 L ∧ h = h0
set_option maxRecDepth 65536 in
set_option maxHeartbeats 40000000 in
theorem rm2 (l : Launch) (Z : State) (a0 : Array Value) (hw : ∀ d ∈ tables_1, d.before a0 Z = true) (ws : List Jvm.Cond) (p0 : Int32) (p1 : Int32) (p2 : Int32) (h0 : Heap) (n0 : Nat) (Z0 : n0 ≤ h0.size) (hq1 : ¬ ((p2 ||| p0) ||| p1) < (0 : Int32)) (hq2 : ¬ (p2 - p0) < p1) :
    MetFree l (⟨"java/util/Objects", "checkFromIndexSize", "(III)I"⟩ : MethodName) (head1 (Jvm.Cond.code (⟨"java/util/Objects", "checkFromIndexSize", "(III)I"⟩ : MethodName) jdk_31_method_19_code 3 (some .int) :: ws) ({ frames := 1, cells := 0, slots := 0, locals := 15 } : Room)) (fun a_ U_ => a_ = #[(.int p0), (.int p1), (.int p2)] ∧ Z.Warmed39 U_.vm ∧ U_.heap = h0) (fun _ _ _ _ _ => True) (fun _ U_ o_ U' => ∃ v_ L_, o_ = .returned v_ ∧ (Q2 Z p0 p1 p2 h0 n0 v_ U'.heap L_) ∧ FrameEnd U_ o_ U' L_ ({ frames := 1, cells := 0, slots := 0, locals := 15 } : Room).cells ({ frames := 1, cells := 0, slots := 0, locals := 15 } : Room).slots) := by
  refine MetFree.of_bodySF (plainFor_of_name pn_3) hisR ?_
  intro p e s m args below meth c s₁ Bd hml0 hP hK
  obtain ⟨rfl, hZ, hh⟩ := hP
  have hx := Bd.exec
  have hby := Bd.bytes
  have hml : c.maxLocals = 3 := hml0
  have hown : s.vm.findClass "java/util/Objects" = some m.cls := findClass_of_methodNamed Bd.named
  have hnm := (name_of_methodNamed Bd.named Bd.method).1
  have X0 : Stand p l e ({ frames := 1, cells := 0, slots := 0, locals := 15 } : Room) s m #[(.int p0), (.int p1), (.int p2)] below meth c s₁ [] 0 0 := Stand.of_body Bd
  have e0 : s₁.heap = h0 := by rw [← hh, Bd.state]; rfl
  have N0 := Fr.nil n0
  have pre0 : ∀ t, Steps p.tables e below (s₁.setTop (mkF m 0 #[.val (.int p0), .val (.int p1), .val (.int p2)] [])) t → Steps p.tables e below (s₁.setTop (entryFrame m #[(.int p0), (.int p1), (.int p2)] 3)) t := fun t k => castTop (ef_3 m p0 p1 p2) k
  obtain ⟨_, _, ⟨T1, L1, k1, n1⟩, -, X1, ⟨Lc1, hQ1, l1, y1, z1⟩, st1⟩ := Jvm.LawKit.callS X0 hx (y := (⟨"jdk/internal/util/Preconditions", "checkFromIndexSize", "(IIILjava/util/function/BiFunction;)I"⟩ : MethodName)) hown (mvT hZ (hw _ (List.mem_of_getElem? (i := 15) rfl))) (mvT hZ (hw _ (List.mem_of_getElem? (i := 16) rfl))) (mvT hZ (hw _ (List.mem_of_getElem? (i := 17) rfl))) (mvT hZ (hw _ (List.mem_of_getElem? (i := 18) rfl))) (by decide) (backOf (W := 0) (rm1 l Z a0 hw [] p0 p1 p2  h0 n0 Z0 hq1 hq2) hZ (hw _ (List.mem_of_getElem? (i := 18) rfl)) (hw _ (List.mem_of_getElem? (i := 17) rfl)) (by decide) (by decide)) (g := (mkF m 4 #[.val (.int p0), .val (.int p1), .val (.int p2)] [.null, (.int p2), (.int p1), (.int p0)])) rfl (by rw [hml]; rfl) (argsL := [(.int p0), (.int p1), (.int p2), .null]) (rest := []) (lenOf pd_0 rfl) rfl (by show 2 * 0 + _ ≤ _; exact Nat.le_of_eq rfl) (hb hby d3_4) (fun _ _ => ⟨rfl, e0, (by decide : 0 + 0 ≤ _), (by decide : 0 + 0 ≤ _)⟩)
  dsimp only [Pt.U, Pt.locs, Pt.cells, Pt.slots] at X1 l1 y1 z1 st1 hQ1
  subst l1 y1 z1
  obtain ⟨rfl, Nq1, e1⟩ := hQ1
  have N1 := Fr.app N0 Nq1
  obtain ⟨fs, hr, hrun, hended, hW, hsame⟩ := X1.leave (v := some (.int p0)) (fun h => by rw [Bd.returns] at h; cases h)
  refine ⟨_, _, pre0 _ ?_, hrun, hended, _, _, rfl, ⟨rfl, N1, e1⟩, ⟨_, rfl⟩, hW, hsame.mono (by decide) (by decide)⟩
  show Steps p.tables e below (s₁.setTop (mkF m 0 #[.val (.int p0), .val (.int p1), .val (.int p2)] [])) _
  refine XS.iloadN X0.here hx rfl (hb hby d3_0) rfl ?_
  show Steps p.tables e below (s₁.setTop (mkF m 1 #[.val (.int p0), .val (.int p1), .val (.int p2)] [(.int p0)])) _
  refine XS.iloadN X0.here hx rfl (hb hby d3_1) rfl ?_
  show Steps p.tables e below (s₁.setTop (mkF m 2 #[.val (.int p0), .val (.int p1), .val (.int p2)] [(.int p1), (.int p0)])) _
  refine XS.iloadN X0.here hx rfl (hb hby d3_2) rfl ?_
  show Steps p.tables e below (s₁.setTop (mkF m 3 #[.val (.int p0), .val (.int p1), .val (.int p2)] [(.int p2), (.int p1), (.int p0)])) _
  refine XS.aconstNull X0.here hx rfl (hb hby d3_3) ?_
  show Steps p.tables e below (s₁.setTop (mkF m 4 #[.val (.int p0), .val (.int p1), .val (.int p2)] [.null, (.int p2), (.int p1), (.int p0)])) _
  refine st1 _ ?_
  show Steps p.tables e below (T1.setTop (mkF m 7 #[.val (.int p0), .val (.int p1), .val (.int p2)] [(.int p0)])) _
  exact own_retI X1 hx Bd.returns (hb hby d3_7) hr
def own_Br (Z : State) (h : Heap) (a : Addr) (v0 v1 v2 : Value) : Prop := Exa Z h a "com/example/fewbits/fewbits/BitReader" ∧ Fld Z h a "com/example/fewbits/fewbits/BitReader" "m_aData" "[B" v0 ∧ Fld Z h a "com/example/fewbits/fewbits/BitReader" "m_nPosition" "J" v1 ∧ Fld Z h a "com/example/fewbits/fewbits/BitReader" "m_nEnd" "J" v2
theorem own_Br_set_m_aData {Z : State} {a0 : Array Value} (hw : ∀ d ∈ tables_1, d.before a0 Z = true) {h h' : Heap} {a : Addr} {v0 v1 v2 w : Value} (O : own_Br Z h a v0 v1 v2) (W : Wr h h' a (Jvm.RoadKit.slotOf Z "com/example/fewbits/fewbits/BitReader" "m_aData" "[B") w) : own_Br Z h' a w v1 v2 := ⟨O.1.wr W, O.2.1.same W, O.2.2.1.other W (Or.inr (slot_ne (Or.inl (hw _ (List.mem_of_getElem? (i := 23) rfl))) (Or.inr (hw _ (List.mem_of_getElem? (i := 20) rfl))) (by decide) (t := .long) (t' := (.array .byte)) (by decide) (by decide))), O.2.2.2.other W (Or.inr (slot_ne (Or.inr (hw _ (List.mem_of_getElem? (i := 25) rfl))) (Or.inr (hw _ (List.mem_of_getElem? (i := 20) rfl))) (by decide) (t := .long) (t' := (.array .byte)) (by decide) (by decide)))⟩
theorem own_Br_set_m_nPosition {Z : State} {a0 : Array Value} (hw : ∀ d ∈ tables_1, d.before a0 Z = true) {h h' : Heap} {a : Addr} {v0 v1 v2 w : Value} (O : own_Br Z h a v0 v1 v2) (W : Wr h h' a (Jvm.RoadKit.slotOf Z "com/example/fewbits/fewbits/BitReader" "m_nPosition" "J") w) : own_Br Z h' a v0 w v2 := ⟨O.1.wr W, O.2.1.other W (Or.inr (slot_ne (Or.inr (hw _ (List.mem_of_getElem? (i := 20) rfl))) (Or.inl (hw _ (List.mem_of_getElem? (i := 23) rfl))) (by decide) (t := (.array .byte)) (t' := .long) (by decide) (by decide))), O.2.2.1.same W, O.2.2.2.other W (Or.inr (slot_ne (Or.inr (hw _ (List.mem_of_getElem? (i := 25) rfl))) (Or.inl (hw _ (List.mem_of_getElem? (i := 23) rfl))) (by decide) (t := .long) (t' := .long) (by decide) (by decide)))⟩
theorem own_Br_set_m_nEnd {Z : State} {a0 : Array Value} (hw : ∀ d ∈ tables_1, d.before a0 Z = true) {h h' : Heap} {a : Addr} {v0 v1 v2 w : Value} (O : own_Br Z h a v0 v1 v2) (W : Wr h h' a (Jvm.RoadKit.slotOf Z "com/example/fewbits/fewbits/BitReader" "m_nEnd" "J") w) : own_Br Z h' a v0 v1 w := ⟨O.1.wr W, O.2.1.other W (Or.inr (slot_ne (Or.inr (hw _ (List.mem_of_getElem? (i := 20) rfl))) (Or.inr (hw _ (List.mem_of_getElem? (i := 25) rfl))) (by decide) (t := (.array .byte)) (t' := .long) (by decide) (by decide))), O.2.2.1.other W (Or.inr (slot_ne (Or.inl (hw _ (List.mem_of_getElem? (i := 23) rfl))) (Or.inr (hw _ (List.mem_of_getElem? (i := 25) rfl))) (by decide) (t := .long) (t' := .long) (by decide) (by decide))), O.2.2.2.same W⟩
theorem own_Br_other {Z : State} {h h' : Heap} {a b : Addr} {sl : Nat} {v0 v1 v2 w : Value} (O : own_Br Z h a v0 v1 v2) (W : Wr h h' b sl w) (q : a ≠ b) : own_Br Z h' a v0 v1 v2 := ⟨O.1.wr W, O.2.1.other W (Or.inl q), O.2.2.1.other W (Or.inl q), O.2.2.2.other W (Or.inl q)⟩
theorem own_Br_ext {Z : State} {h h' : Heap} {a : Addr} {v0 v1 v2 : Value} (O : own_Br Z h a v0 v1 v2) (E : Ext h h') : own_Br Z h' a v0 v1 v2 := ⟨O.1.ext E, O.2.1.ext E, O.2.2.1.ext E, O.2.2.2.ext E⟩
theorem own_Br_keep {Z : State} {h h' : Heap} {a : Addr} {v0 v1 v2 : Value} {ws : List Addr} (O : own_Br Z h a v0 v1 v2) (K : Keep h h' ws) (q : a ∉ ws) : own_Br Z h' a v0 v1 v2 := ⟨O.1.keep K, O.2.1.keep K q, O.2.2.1.keep K q, O.2.2.2.keep K q⟩
theorem d1_0 : decode prog_2_method_2_code 0 = .ok (.aload_n 0, 1) := by decide +kernel
theorem d1_1 : decode prog_2_method_2_code 1 = .ok (.invokespecial 7, 3) := by decide +kernel
theorem d1_4 : decode prog_2_method_2_code 4 = .ok (.iload_n 2, 1) := by decide +kernel
theorem d1_5 : decode prog_2_method_2_code 5 = .ok (.iload_n 3, 1) := by decide +kernel
theorem d1_6 : decode prog_2_method_2_code 6 = .ok (.aload_n 1, 1) := by decide +kernel
theorem d1_7 : decode prog_2_method_2_code 7 = .ok (.arraylength, 1) := by decide +kernel
theorem d1_8 : decode prog_2_method_2_code 8 = .ok (.invokestatic 12, 3) := by decide +kernel
theorem d1_11 : decode prog_2_method_2_code 11 = .ok (.pop, 1) := by decide +kernel
theorem d1_12 : decode prog_2_method_2_code 12 = .ok (.aload_n 0, 1) := by decide +kernel
theorem d1_13 : decode prog_2_method_2_code 13 = .ok (.aload_n 1, 1) := by decide +kernel
theorem d1_14 : decode prog_2_method_2_code 14 = .ok (.putfield 18, 3) := by decide +kernel
theorem d1_17 : decode prog_2_method_2_code 17 = .ok (.aload_n 0, 1) := by decide +kernel
theorem d1_18 : decode prog_2_method_2_code 18 = .ok (.iload_n 2, 1) := by decide +kernel
theorem d1_19 : decode prog_2_method_2_code 19 = .ok (.i2l, 1) := by decide +kernel
theorem d1_20 : decode prog_2_method_2_code 20 = .ok (.ldc2_w 24, 3) := by decide +kernel
theorem d1_23 : decode prog_2_method_2_code 23 = .ok (.lmul, 1) := by decide +kernel
theorem d1_24 : decode prog_2_method_2_code 24 = .ok (.putfield 26, 3) := by decide +kernel
theorem d1_27 : decode prog_2_method_2_code 27 = .ok (.aload_n 0, 1) := by decide +kernel
theorem d1_28 : decode prog_2_method_2_code 28 = .ok (.iload_n 2, 1) := by decide +kernel
theorem d1_29 : decode prog_2_method_2_code 29 = .ok (.i2l, 1) := by decide +kernel
theorem d1_30 : decode prog_2_method_2_code 30 = .ok (.iload_n 3, 1) := by decide +kernel
theorem d1_31 : decode prog_2_method_2_code 31 = .ok (.i2l, 1) := by decide +kernel
theorem d1_32 : decode prog_2_method_2_code 32 = .ok (.ladd, 1) := by decide +kernel
theorem d1_33 : decode prog_2_method_2_code 33 = .ok (.ldc2_w 24, 3) := by decide +kernel
theorem d1_36 : decode prog_2_method_2_code 36 = .ok (.lmul, 1) := by decide +kernel
theorem d1_37 : decode prog_2_method_2_code 37 = .ok (.putfield 30, 3) := by decide +kernel
theorem d1_40 : decode prog_2_method_2_code 40 = .ok (.return_, 1) := by decide +kernel
theorem pn_1 : plainName "com/example/fewbits/fewbits/BitReader" = true := by first | (simp [plainName, overriddenIn]; done) | decide +kernel
theorem ef_1 (m : MethodId) (x0 : Addr) (x1 : Addr) (x2 : Int32) (x3 : Int32) : entryFrame m #[(.ref x0), (.ref x1), (.int x2), (.int x3)] 4 = mkF m 0 #[.val (.ref x0), .val (.ref x1), .val (.int x2), .val (.int x3)] [] := by first | (simp [entryFrame, mkF, argsToLocals, Value.category]; done) | rfl
theorem pd_1 : parseMethodDescriptor "(III)I" = some ⟨[.int, .int, .int], some .int⟩ := by decide +kernel
def Q3 (Z : State) (a : Addr) (ad : Addr) (po : Int32) (ln : Int32) (f : Nat → Int32) (h0 : Heap) (n0 : Nat) (v : Option Value) (h : Heap) (L : List Loc) : Prop := v = none ∧ Fr n0 L ∧ Keep h0 h [a] ∧ own_Br Z h a (.ref ad) (.long ((po.toInt64) * (8 : Int64))) (.long (((po.toInt64) + (ln.toInt64)) * (8 : Int64)))
set_option maxRecDepth 65536 in
set_option maxHeartbeats 40000000 in
theorem rm3 (l : Launch) (Z : State) (a0 : Array Value) (hw : ∀ d ∈ tables_1, d.before a0 Z = true) (ws : List Jvm.Cond) (a : Addr) (ad : Addr) (po : Int32) (ln : Int32) (f : Nat → Int32) (h0 : Heap) (n0 : Nat) (Z0 : n0 ≤ h0.size) (ga : n0 ≤ a) (O0 : own_Br Z h0 a .null (.long (0 : Int64)) (.long (0 : Int64))) (A0 : own_AI Z h0 ad .byte (4 : Int32) f) (hq1 : ¬ (((4 : Int32) ||| po) ||| ln) < (0 : Int32)) (hq2 : ¬ ((4 : Int32) - po) < ln) :
    MetFree l (⟨"com/example/fewbits/fewbits/BitReader", "<init>", "([BII)V"⟩ : MethodName) (head1 (Jvm.Cond.code (⟨"com/example/fewbits/fewbits/BitReader", "<init>", "([BII)V"⟩ : MethodName) prog_2_method_2_code 4 none :: ws) ({ frames := 2, cells := 0, slots := 0, locals := 40 } : Room)) (fun a_ U_ => a_ = #[(.ref a), (.ref ad), (.int po), (.int ln)] ∧ Z.Warmed39 U_.vm ∧ U_.heap = h0) (fun _ _ _ _ _ => True) (fun _ U_ o_ U' => ∃ v_ L_, o_ = .returned v_ ∧ (Q3 Z a ad po ln f h0 n0 v_ U'.heap L_) ∧ FrameEnd U_ o_ U' L_ ({ frames := 2, cells := 0, slots := 0, locals := 40 } : Room).cells ({ frames := 2, cells := 0, slots := 0, locals := 40 } : Room).slots) := by
  refine MetFree.of_bodySF (plainFor_of_name pn_1) hisR ?_
  intro p e s m args below meth c s₁ Bd hml0 hP hK
  obtain ⟨rfl, hZ, hh⟩ := hP
  have hx := Bd.exec
  have hby := Bd.bytes
  have hml : c.maxLocals = 4 := hml0
  have hown : s.vm.findClass "com/example/fewbits/fewbits/BitReader" = some m.cls := findClass_of_methodNamed Bd.named
  have hnm := (name_of_methodNamed Bd.named Bd.method).1
  have X0 : Stand p l e ({ frames := 2, cells := 0, slots := 0, locals := 40 } : Room) s m #[(.ref a), (.ref ad), (.int po), (.int ln)] below meth c s₁ [] 0 0 := Stand.of_body Bd
  have e0 : s₁.heap = h0 := by rw [← hh, Bd.state]; rfl
  have N0 := Fr.nil n0
  have pre0 : ∀ t, Steps p.tables e below (s₁.setTop (mkF m 0 #[.val (.ref a), .val (.ref ad), .val (.int po), .val (.int ln)] [])) t → Steps p.tables e below (s₁.setTop (entryFrame m #[(.ref a), (.ref ad), (.int po), (.int ln)] 4)) t := fun t k => castTop (ef_1 m a ad po ln) k
  obtain ⟨T1, X1, e1, st1⟩ := initO X0 hx hZ hown (hw _ (List.mem_of_getElem? (i := 8) rfl)) (hw _ (List.mem_of_getElem? (i := 9) rfl)) (hw _ (List.mem_of_getElem? (i := 10) rfl)) e0 (g := (mkF m 1 #[.val (.ref a), .val (.ref ad), .val (.int po), .val (.int ln)] [(.ref a)])) rfl (by rw [hml]; rfl) rfl (hb hby d1_1) (by decide) (W := 0) (by show 2 * 0 + _ ≤ _; exact Nat.le_of_eq rfl) (by decide)
  obtain ⟨_, _, ⟨T2, L2, k2, n2⟩, -, X2, ⟨Lc2, hQ2, l2, y2, z2⟩, st2⟩ := Jvm.LawKit.callS X1 hx (y := (⟨"java/util/Objects", "checkFromIndexSize", "(III)I"⟩ : MethodName)) hown (mvT hZ (hw _ (List.mem_of_getElem? (i := 11) rfl))) (mvT hZ (hw _ (List.mem_of_getElem? (i := 12) rfl))) (mvT hZ (hw _ (List.mem_of_getElem? (i := 13) rfl))) (mvT hZ (hw _ (List.mem_of_getElem? (i := 14) rfl))) (by decide) (backOf (W := 0) (rm2 l Z a0 hw [] po ln (4 : Int32)  h0 n0 Z0 hq1 hq2) hZ (hw _ (List.mem_of_getElem? (i := 14) rfl)) (hw _ (List.mem_of_getElem? (i := 13) rfl)) (by decide) (by decide)) (g := (mkF m 8 #[.val (.ref a), .val (.ref ad), .val (.int po), .val (.int ln)] [(.int (4 : Int32)), (.int ln), (.int po)])) rfl (by rw [hml]; rfl) (argsL := [(.int po), (.int ln), (.int (4 : Int32))]) (rest := []) (lenOf pd_1 rfl) rfl (by show 2 * 0 + _ ≤ _; exact Nat.le_of_eq rfl) (hb hby d1_8) (fun _ _ => ⟨rfl, e1, (by decide : 0 + 0 ≤ _), (by decide : 0 + 0 ≤ _)⟩)
  dsimp only [Pt.U, Pt.locs, Pt.cells, Pt.slots] at X2 l2 y2 z2 st2 hQ2
  subst l2 y2 z2
  obtain ⟨rfl, Nq2, e2⟩ := hQ2
  have N2 := Fr.app N0 Nq2
  obtain ⟨T3, h3, X3, e3, W3, st3⟩ := putF X2 hx hZ hown (host := "") (Or.inl (hw _ (List.mem_of_getElem? (i := 19) rfl))) Via.refl e2 O0.2.1 O0.1 (Or.inr ⟨(hw _ (List.mem_of_getElem? (i := 20) rfl)), rfl, hnm⟩) (hw _ (List.mem_of_getElem? (i := 3) rfl)) (ty := (.array .byte)) (by decide) rfl rfl (g := (mkF m 14 #[.val (.ref a), .val (.ref ad), .val (.int po), .val (.int ln)] [(.ref ad), (.ref a)])) rfl rfl (hb hby d1_14)
  have N3 := Fr.snoc X3 N2 ga
  have K3 : Keep h0 h3 [a] := (Keep.refl h0 [a]).wr W3 (Or.inl (List.mem_of_getElem? (i := 0) rfl))
  have A3_ad := A0.other W3 (own_ne_obj O0.1 (hw _ (List.mem_of_getElem? (i := 3) rfl)) A0).symm
  have O3 := own_Br_set_m_aData hw O0 W3
  have Z3 : n0 ≤ h3.size := Nat.le_trans Z0 (Nat.le_of_eq (W3.size).symm)
  obtain ⟨T4, h4, X4, e4, W4, st4⟩ := putF X3 hx hZ hown (host := "") (Or.inl (hw _ (List.mem_of_getElem? (i := 22) rfl))) Via.refl e3 O3.2.2.1 O3.1 (Or.inl (hw _ (List.mem_of_getElem? (i := 23) rfl))) (hw _ (List.mem_of_getElem? (i := 3) rfl)) (ty := .long) (by decide) rfl rfl (g := (mkF m 24 #[.val (.ref a), .val (.ref ad), .val (.int po), .val (.int ln)] [(.long ((po.toInt64) * (8 : Int64))), (.ref a)])) rfl rfl (hb hby d1_24)
  have N4 := Fr.snoc X4 N3 ga
  have K4 : Keep h0 h4 [a] := K3.wr W4 (Or.inl (List.mem_of_getElem? (i := 0) rfl))
  have A4_ad := A3_ad.other W4 (own_ne_obj O3.1 (hw _ (List.mem_of_getElem? (i := 3) rfl)) A3_ad).symm
  have O4 := own_Br_set_m_nPosition hw O3 W4
  have Z4 : n0 ≤ h4.size := Nat.le_trans Z3 (Nat.le_of_eq (W4.size).symm)
  obtain ⟨T5, h5, X5, e5, W5, st5⟩ := putF X4 hx hZ hown (host := "") (Or.inl (hw _ (List.mem_of_getElem? (i := 24) rfl))) Via.refl e4 O4.2.2.2 O4.1 (Or.inr ⟨(hw _ (List.mem_of_getElem? (i := 25) rfl)), rfl, hnm⟩) (hw _ (List.mem_of_getElem? (i := 3) rfl)) (ty := .long) (by decide) rfl rfl (g := (mkF m 37 #[.val (.ref a), .val (.ref ad), .val (.int po), .val (.int ln)] [(.long (((po.toInt64) + (ln.toInt64)) * (8 : Int64))), (.ref a)])) rfl rfl (hb hby d1_37)
  have N5 := Fr.snoc X5 N4 ga
  have K5 : Keep h0 h5 [a] := K4.wr W5 (Or.inl (List.mem_of_getElem? (i := 0) rfl))
  have A5_ad := A4_ad.other W5 (own_ne_obj O4.1 (hw _ (List.mem_of_getElem? (i := 3) rfl)) A4_ad).symm
  have O5 := own_Br_set_m_nEnd hw O4 W5
  have Z5 : n0 ≤ h5.size := Nat.le_trans Z4 (Nat.le_of_eq (W5.size).symm)
  obtain ⟨fs, hr, hrun, hended, hW, hsame⟩ := X5.leave (v := none) (fun _ => rfl)
  refine ⟨_, _, pre0 _ ?_, hrun, hended, _, _, rfl, ⟨rfl, N5, (by show Keep h0 T5.heap [a]; rw [e5]; exact K5), (by show own_Br Z T5.heap a (.ref ad) (.long ((po.toInt64) * (8 : Int64))) (.long (((po.toInt64) + (ln.toInt64)) * (8 : Int64))); rw [e5]; exact O5)⟩, ⟨_, rfl⟩, hW, hsame.mono (by decide) (by decide)⟩
  show Steps p.tables e below (s₁.setTop (mkF m 0 #[.val (.ref a), .val (.ref ad), .val (.int po), .val (.int ln)] [])) _
  refine XS.aloadN X0.here hx rfl (hb hby d1_0) rfl rfl ?_
  show Steps p.tables e below (s₁.setTop (mkF m 1 #[.val (.ref a), .val (.ref ad), .val (.int po), .val (.int ln)] [(.ref a)])) _
  refine st1 _ ?_
  show Steps p.tables e below (T1.setTop (mkF m 4 #[.val (.ref a), .val (.ref ad), .val (.int po), .val (.int ln)] [])) _
  refine XS.iloadN X1.here hx rfl (hb hby d1_4) rfl ?_
  show Steps p.tables e below (T1.setTop (mkF m 5 #[.val (.ref a), .val (.ref ad), .val (.int po), .val (.int ln)] [(.int po)])) _
  refine XS.iloadN X1.here hx rfl (hb hby d1_5) rfl ?_
  show Steps p.tables e below (T1.setTop (mkF m 6 #[.val (.ref a), .val (.ref ad), .val (.int po), .val (.int ln)] [(.int ln), (.int po)])) _
  refine XS.aloadN X1.here hx rfl (hb hby d1_6) rfl rfl ?_
  show Steps p.tables e below (T1.setTop (mkF m 7 #[.val (.ref a), .val (.ref ad), .val (.int po), .val (.int ln)] [(.ref ad), (.int ln), (.int po)])) _
  refine own_len X1 hx hZ e1 A0 rfl rfl (hb hby d1_7) ?_
  show Steps p.tables e below (T1.setTop (mkF m 8 #[.val (.ref a), .val (.ref ad), .val (.int po), .val (.int ln)] [(.int (4 : Int32)), (.int ln), (.int po)])) _
  refine st2 _ ?_
  show Steps p.tables e below (T2.setTop (mkF m 11 #[.val (.ref a), .val (.ref ad), .val (.int po), .val (.int ln)] [(.int po)])) _
  refine XS.pop X2.here hx rfl (hb hby d1_11) rfl rfl ?_
  show Steps p.tables e below (T2.setTop (mkF m 12 #[.val (.ref a), .val (.ref ad), .val (.int po), .val (.int ln)] [])) _
  refine XS.aloadN X2.here hx rfl (hb hby d1_12) rfl rfl ?_
  show Steps p.tables e below (T2.setTop (mkF m 13 #[.val (.ref a), .val (.ref ad), .val (.int po), .val (.int ln)] [(.ref a)])) _
  refine XS.aloadN X2.here hx rfl (hb hby d1_13) rfl rfl ?_
  show Steps p.tables e below (T2.setTop (mkF m 14 #[.val (.ref a), .val (.ref ad), .val (.int po), .val (.int ln)] [(.ref ad), (.ref a)])) _
  refine st3 _ ?_
  show Steps p.tables e below (T3.setTop (mkF m 17 #[.val (.ref a), .val (.ref ad), .val (.int po), .val (.int ln)] [])) _
  refine XS.aloadN X3.here hx rfl (hb hby d1_17) rfl rfl ?_
  show Steps p.tables e below (T3.setTop (mkF m 18 #[.val (.ref a), .val (.ref ad), .val (.int po), .val (.int ln)] [(.ref a)])) _
  refine XS.iloadN X3.here hx rfl (hb hby d1_18) rfl ?_
  show Steps p.tables e below (T3.setTop (mkF m 19 #[.val (.ref a), .val (.ref ad), .val (.int po), .val (.int ln)] [(.int po), (.ref a)])) _
  refine XS.i2l X3.here hx rfl (hb hby d1_19) rfl ?_
  show Steps p.tables e below (T3.setTop (mkF m 20 #[.val (.ref a), .val (.ref ad), .val (.int po), .val (.int ln)] [(.long (po.toInt64)), (.ref a)])) _
  refine X3.ldc2J hx hown (mvT hZ (hw _ (List.mem_of_getElem? (i := 21) rfl))) rfl (hb hby d1_20) ?_
  show Steps p.tables e below (T3.setTop (mkF m 23 #[.val (.ref a), .val (.ref ad), .val (.int po), .val (.int ln)] [(.long (8 : Int64)), (.long (po.toInt64)), (.ref a)])) _
  refine XS.lmul X3.here hx rfl (hb hby d1_23) rfl ?_
  show Steps p.tables e below (T3.setTop (mkF m 24 #[.val (.ref a), .val (.ref ad), .val (.int po), .val (.int ln)] [(.long ((po.toInt64) * (8 : Int64))), (.ref a)])) _
  refine st4 _ ?_
  show Steps p.tables e below (T4.setTop (mkF m 27 #[.val (.ref a), .val (.ref ad), .val (.int po), .val (.int ln)] [])) _
  refine XS.aloadN X4.here hx rfl (hb hby d1_27) rfl rfl ?_
  show Steps p.tables e below (T4.setTop (mkF m 28 #[.val (.ref a), .val (.ref ad), .val (.int po), .val (.int ln)] [(.ref a)])) _
  refine XS.iloadN X4.here hx rfl (hb hby d1_28) rfl ?_
  show Steps p.tables e below (T4.setTop (mkF m 29 #[.val (.ref a), .val (.ref ad), .val (.int po), .val (.int ln)] [(.int po), (.ref a)])) _
  refine XS.i2l X4.here hx rfl (hb hby d1_29) rfl ?_
  show Steps p.tables e below (T4.setTop (mkF m 30 #[.val (.ref a), .val (.ref ad), .val (.int po), .val (.int ln)] [(.long (po.toInt64)), (.ref a)])) _
  refine XS.iloadN X4.here hx rfl (hb hby d1_30) rfl ?_
  show Steps p.tables e below (T4.setTop (mkF m 31 #[.val (.ref a), .val (.ref ad), .val (.int po), .val (.int ln)] [(.int ln), (.long (po.toInt64)), (.ref a)])) _
  refine XS.i2l X4.here hx rfl (hb hby d1_31) rfl ?_
  show Steps p.tables e below (T4.setTop (mkF m 32 #[.val (.ref a), .val (.ref ad), .val (.int po), .val (.int ln)] [(.long (ln.toInt64)), (.long (po.toInt64)), (.ref a)])) _
  refine XS.ladd X4.here hx rfl (hb hby d1_32) rfl ?_
  show Steps p.tables e below (T4.setTop (mkF m 33 #[.val (.ref a), .val (.ref ad), .val (.int po), .val (.int ln)] [(.long ((po.toInt64) + (ln.toInt64))), (.ref a)])) _
  refine X4.ldc2J hx hown (mvT hZ (hw _ (List.mem_of_getElem? (i := 21) rfl))) rfl (hb hby d1_33) ?_
  show Steps p.tables e below (T4.setTop (mkF m 36 #[.val (.ref a), .val (.ref ad), .val (.int po), .val (.int ln)] [(.long (8 : Int64)), (.long ((po.toInt64) + (ln.toInt64))), (.ref a)])) _
  refine XS.lmul X4.here hx rfl (hb hby d1_36) rfl ?_
  show Steps p.tables e below (T4.setTop (mkF m 37 #[.val (.ref a), .val (.ref ad), .val (.int po), .val (.int ln)] [(.long (((po.toInt64) + (ln.toInt64)) * (8 : Int64))), (.ref a)])) _
  refine st5 _ ?_
  show Steps p.tables e below (T5.setTop (mkF m 40 #[.val (.ref a), .val (.ref ad), .val (.int po), .val (.int ln)] [])) _
  exact X5.returnOut hx Bd.returns (hb hby d1_40) hr
theorem d6_0 : decode prog_4_method_8_code 0 = .ok (.iload_n 0, 1) := by decide +kernel
theorem d6_1 : decode prog_4_method_8_code 1 = .ok (.ifCond .lt 9, 3) := by decide +kernel
theorem d6_4 : decode prog_4_method_8_code 4 = .ok (.iload_n 0, 1) := by decide +kernel
theorem d6_5 : decode prog_4_method_8_code 5 = .ok (.bipush 32, 2) := by decide +kernel
theorem d6_7 : decode prog_4_method_8_code 7 = .ok (.if_icmp .le 17, 3) := by decide +kernel
theorem d6_10 : decode prog_4_method_8_code 10 = .ok (.new 12, 3) := by decide +kernel
theorem d6_13 : decode prog_4_method_8_code 13 = .ok (.dup, 1) := by decide +kernel
theorem d6_14 : decode prog_4_method_8_code 14 = .ok (.iload_n 0, 1) := by decide +kernel
theorem d6_15 : decode prog_4_method_8_code 15 = .ok (.invokedynamic 66, 5) := by decide +kernel
theorem d6_20 : decode prog_4_method_8_code 20 = .ok (.invokespecial 18, 3) := by decide +kernel
theorem d6_23 : decode prog_4_method_8_code 23 = .ok (.athrow, 1) := by decide +kernel
theorem d6_24 : decode prog_4_method_8_code 24 = .ok (.return_, 1) := by decide +kernel
theorem pn_6 : plainName "com/example/fewbits/fewbits/BitWriter" = true := by first | (simp [plainName, overriddenIn]; done) | decide +kernel
theorem ef_6 (m : MethodId) (x0 : Int32) : entryFrame m #[(.int x0)] 1 = mkF m 0 #[.val (.int x0)] [] := by first | (simp [entryFrame, mkF, argsToLocals, Value.category]; done) | rfl
def Q4 (Z : State) (p0 : Int32) (h0 : Heap) (n0 : Nat) (v : Option Value) (h : Heap) (L : List Loc) : Prop := v = none ∧ Fr n0 L ∧ h = h0
set_option maxRecDepth 65536 in
set_option maxHeartbeats 40000000 in
theorem rm4 (l : Launch) (Z : State) (a0 : Array Value) (hw : ∀ d ∈ tables_1, d.before a0 Z = true) (ws : List Jvm.Cond) (p0 : Int32) (h0 : Heap) (n0 : Nat) (Z0 : n0 ≤ h0.size) (hq1 : ¬ p0 < (0 : Int32)) (hq2 : ¬ (32 : Int32) < p0) :
    MetFree l (⟨"com/example/fewbits/fewbits/BitWriter", "checkBitCount", "(I)V"⟩ : MethodName) (head1 (Jvm.Cond.code (⟨"com/example/fewbits/fewbits/BitWriter", "checkBitCount", "(I)V"⟩ : MethodName) prog_4_method_8_code 1 none :: ws) ({ frames := 0, cells := 0, slots := 0, locals := 0 } : Room)) (fun a_ U_ => a_ = #[(.int p0)] ∧ Z.Warmed39 U_.vm ∧ U_.heap = h0) (fun _ _ _ _ _ => True) (fun _ U_ o_ U' => ∃ v_ L_, o_ = .returned v_ ∧ (Q4 Z p0 h0 n0 v_ U'.heap L_) ∧ FrameEnd U_ o_ U' L_ ({ frames := 0, cells := 0, slots := 0, locals := 0 } : Room).cells ({ frames := 0, cells := 0, slots := 0, locals := 0 } : Room).slots) := by
  refine MetFree.of_bodySF (plainFor_of_name pn_6) hisR ?_
  intro p e s m args below meth c s₁ Bd hml0 hP hK
  obtain ⟨rfl, hZ, hh⟩ := hP
  have hx := Bd.exec
  have hby := Bd.bytes
  have hml : c.maxLocals = 1 := hml0
  have hown : s.vm.findClass "com/example/fewbits/fewbits/BitWriter" = some m.cls := findClass_of_methodNamed Bd.named
  have hnm := (name_of_methodNamed Bd.named Bd.method).1
  have X0 : Stand p l e ({ frames := 0, cells := 0, slots := 0, locals := 0 } : Room) s m #[(.int p0)] below meth c s₁ [] 0 0 := Stand.of_body Bd
  have e0 : s₁.heap = h0 := by rw [← hh, Bd.state]; rfl
  have N0 := Fr.nil n0
  have pre0 : ∀ t, Steps p.tables e below (s₁.setTop (mkF m 0 #[.val (.int p0)] [])) t → Steps p.tables e below (s₁.setTop (entryFrame m #[(.int p0)] 1)) t := fun t k => castTop (ef_6 m p0) k
  obtain ⟨fs, hr, hrun, hended, hW, hsame⟩ := X0.leave (v := none) (fun _ => rfl)
  refine ⟨_, _, pre0 _ ?_, hrun, hended, _, _, rfl, ⟨rfl, N0, e0⟩, ⟨_, rfl⟩, hW, hsame.mono (by decide) (by decide)⟩
  show Steps p.tables e below (s₁.setTop (mkF m 0 #[.val (.int p0)] [])) _
  refine XS.iloadN X0.here hx rfl (hb hby d6_0) rfl ?_
  show Steps p.tables e below (s₁.setTop (mkF m 1 #[.val (.int p0)] [(.int p0)])) _
  refine XS.ifNo X0.here hx rfl (hb hby d6_1) rfl ((if0 _ _).trans (flt hq1).1) ?_
  show Steps p.tables e below (s₁.setTop (mkF m 4 #[.val (.int p0)] [])) _
  refine XS.iloadN X0.here hx rfl (hb hby d6_4) rfl ?_
  show Steps p.tables e below (s₁.setTop (mkF m 5 #[.val (.int p0)] [(.int p0)])) _
  refine XS.bipush X0.here hx rfl (hb hby d6_5) ?_
  show Steps p.tables e below (s₁.setTop (mkF m 7 #[.val (.int p0)] [(.int (32 : Int32)), (.int p0)])) _
  refine XS.icmpYes X0.here hx rfl (pc0 := 7) (pc' := 24) rfl (hb hby d6_7) rfl (flt hq2).2.2.2 (by decide) (by decide) ?_
  show Steps p.tables e below (s₁.setTop (mkF m 24 #[.val (.int p0)] [])) _
  exact X0.returnOut hx Bd.returns (hb hby d6_24) hr
theorem d9_0 : decode jdk_29_method_69_code 0 = .ok (.iload_n 0, 1) := by decide +kernel
theorem d9_1 : decode jdk_29_method_69_code 1 = .ok (.iload_n 1, 1) := by decide +kernel
theorem d9_2 : decode jdk_29_method_69_code 2 = .ok (.if_icmp .gt 7, 3) := by decide +kernel
theorem d9_5 : decode jdk_29_method_69_code 5 = .ok (.iload_n 0, 1) := by decide +kernel
theorem d9_6 : decode jdk_29_method_69_code 6 = .ok (.goto 4, 3) := by decide +kernel
theorem d9_9 : decode jdk_29_method_69_code 9 = .ok (.iload_n 1, 1) := by decide +kernel
theorem d9_10 : decode jdk_29_method_69_code 10 = .ok (.ireturn, 1) := by decide +kernel
theorem ef_9 (m : MethodId) (x0 : Int32) (x1 : Int32) : entryFrame m #[(.int x0), (.int x1)] 2 = mkF m 0 #[.val (.int x0), .val (.int x1)] [] := by first | (simp [entryFrame, mkF, argsToLocals, Value.category]; done) | rfl
def own_min (p0 : Int32) (p1 : Int32) : Int32 := (if p1 < p0 then p1 else p0)
def Q5 (Z : State) (p0 : Int32) (p1 : Int32) (h0 : Heap) (n0 : Nat) (v : Option Value) (h : Heap) (L : List Loc) : Prop := v = some (.int (own_min p0 p1)) ∧ Fr n0 L ∧ h = h0
set_option maxRecDepth 65536 in
set_option maxHeartbeats 40000000 in
theorem rm5 (l : Launch) (Z : State) (a0 : Array Value) (hw : ∀ d ∈ tables_1, d.before a0 Z = true) (ws : List Jvm.Cond) (p0 : Int32) (p1 : Int32) (h0 : Heap) (n0 : Nat) (Z0 : n0 ≤ h0.size)  :
    MetFree l (⟨"java/lang/Math", "min", "(II)I"⟩ : MethodName) (head1 (Jvm.Cond.code (⟨"java/lang/Math", "min", "(II)I"⟩ : MethodName) jdk_29_method_69_code 2 (some .int) :: ws) ({ frames := 0, cells := 0, slots := 0, locals := 0 } : Room)) (fun a_ U_ => a_ = #[(.int p0), (.int p1)] ∧ Z.Warmed39 U_.vm ∧ U_.heap = h0) (fun _ _ _ _ _ => True) (fun _ U_ o_ U' => ∃ v_ L_, o_ = .returned v_ ∧ (Q5 Z p0 p1 h0 n0 v_ U'.heap L_) ∧ FrameEnd U_ o_ U' L_ ({ frames := 0, cells := 0, slots := 0, locals := 0 } : Room).cells ({ frames := 0, cells := 0, slots := 0, locals := 0 } : Room).slots) := by
  refine MetFree.of_bodySF (Jvm.Free.JP.mathPlain rfl (by decide +kernel)) hisR ?_
  intro p e s m args below meth c s₁ Bd hml0 hP hK
  obtain ⟨rfl, hZ, hh⟩ := hP
  have hx := Bd.exec
  have hby := Bd.bytes
  have hml : c.maxLocals = 2 := hml0
  have hown : s.vm.findClass "java/lang/Math" = some m.cls := findClass_of_methodNamed Bd.named
  have hnm := (name_of_methodNamed Bd.named Bd.method).1
  have X0 : Stand p l e ({ frames := 0, cells := 0, slots := 0, locals := 0 } : Room) s m #[(.int p0), (.int p1)] below meth c s₁ [] 0 0 := Stand.of_body Bd
  have e0 : s₁.heap = h0 := by rw [← hh, Bd.state]; rfl
  have N0 := Fr.nil n0
  have pre0 : ∀ t, Steps p.tables e below (s₁.setTop (mkF m 0 #[.val (.int p0), .val (.int p1)] [])) t → Steps p.tables e below (s₁.setTop (entryFrame m #[(.int p0), (.int p1)] 2)) t := fun t k => castTop (ef_9 m p0 p1) k
  obtain ⟨fs, hr, hrun, hended, hW, hsame⟩ := X0.leave (v := some (.int (own_min p0 p1))) (fun h => by rw [Bd.returns] at h; cases h)
  refine ⟨_, _, pre0 _ ?_, hrun, hended, _, _, rfl, ⟨rfl, N0, e0⟩, ⟨_, rfl⟩, hW, hsame.mono (by decide) (by decide)⟩
  show Steps p.tables e below (s₁.setTop (mkF m 0 #[.val (.int p0), .val (.int p1)] [])) _
  refine XS.iloadN X0.here hx rfl (hb hby d9_0) rfl ?_
  show Steps p.tables e below (s₁.setTop (mkF m 1 #[.val (.int p0), .val (.int p1)] [(.int p0)])) _
  refine XS.iloadN X0.here hx rfl (hb hby d9_1) rfl ?_
  show Steps p.tables e below (s₁.setTop (mkF m 2 #[.val (.int p0), .val (.int p1)] [(.int p1), (.int p0)])) _
  by_cases hc2 : p1 < p0
  · refine XS.icmpYes X0.here hx rfl (pc0 := 2) (pc' := 9) rfl (hb hby d9_2) rfl (tlt hc2).2.2.1 (by decide) (by decide) ?_
    show Steps p.tables e below (s₁.setTop (mkF m 9 #[.val (.int p0), .val (.int p1)] [])) _
    refine XS.iloadN X0.here hx rfl (hb hby d9_9) rfl ?_
    show Steps p.tables e below (s₁.setTop (mkF m 10 #[.val (.int p0), .val (.int p1)] [(.int p1)])) _
    rw [show (own_min p0 p1) = p1 from by unfold own_min; rw [if_pos hc2]] at hr
    exact own_retI X0 hx Bd.returns (hb hby d9_10) hr
  · refine XS.icmpNo X0.here hx rfl (hb hby d9_2) rfl (flt hc2).2.2.1 ?_
    show Steps p.tables e below (s₁.setTop (mkF m 5 #[.val (.int p0), .val (.int p1)] [])) _
    refine XS.iloadN X0.here hx rfl (hb hby d9_5) rfl ?_
    show Steps p.tables e below (s₁.setTop (mkF m 6 #[.val (.int p0), .val (.int p1)] [(.int p0)])) _
    refine XS.goto X0.here hx rfl (pc0 := 6) (pc' := 10) rfl (hb hby d9_6) (by decide) (by decide) ?_
    show Steps p.tables e below (s₁.setTop (mkF m 10 #[.val (.int p0), .val (.int p1)] [(.int p0)])) _
    rw [show (own_min p0 p1) = p0 from by unfold own_min; rw [if_neg hc2]] at hr
    exact own_retI X0 hx Bd.returns (hb hby d9_10) hr
theorem d5_0 : decode prog_2_method_4_code 0 = .ok (.iload_n 1, 1) := by decide +kernel
theorem d5_1 : decode prog_2_method_4_code 1 = .ok (.invokestatic 42, 3) := by decide +kernel
theorem d5_4 : decode prog_2_method_4_code 4 = .ok (.iload_n 1, 1) := by decide +kernel
theorem d5_5 : decode prog_2_method_4_code 5 = .ok (.i2l, 1) := by decide +kernel
theorem d5_6 : decode prog_2_method_4_code 6 = .ok (.aload_n 0, 1) := by decide +kernel
theorem d5_7 : decode prog_2_method_4_code 7 = .ok (.getfield 30, 3) := by decide +kernel
theorem d5_10 : decode prog_2_method_4_code 10 = .ok (.aload_n 0, 1) := by decide +kernel
theorem d5_11 : decode prog_2_method_4_code 11 = .ok (.getfield 26, 3) := by decide +kernel
theorem d5_14 : decode prog_2_method_4_code 14 = .ok (.lsub, 1) := by decide +kernel
theorem d5_15 : decode prog_2_method_4_code 15 = .ok (.lcmp, 1) := by decide +kernel
theorem d5_16 : decode prog_2_method_4_code 16 = .ok (.ifCond .le 26, 3) := by decide +kernel
theorem d5_19 : decode prog_2_method_4_code 19 = .ok (.new 33, 3) := by decide +kernel
theorem d5_22 : decode prog_2_method_4_code 22 = .ok (.dup, 1) := by decide +kernel
theorem d5_23 : decode prog_2_method_4_code 23 = .ok (.iload_n 1, 1) := by decide +kernel
theorem d5_24 : decode prog_2_method_4_code 24 = .ok (.aload_n 0, 1) := by decide +kernel
theorem d5_25 : decode prog_2_method_4_code 25 = .ok (.getfield 30, 3) := by decide +kernel
theorem d5_28 : decode prog_2_method_4_code 28 = .ok (.aload_n 0, 1) := by decide +kernel
theorem d5_29 : decode prog_2_method_4_code 29 = .ok (.getfield 26, 3) := by decide +kernel
theorem d5_32 : decode prog_2_method_4_code 32 = .ok (.lsub, 1) := by decide +kernel
theorem d5_33 : decode prog_2_method_4_code 33 = .ok (.invokedynamic 48, 5) := by decide +kernel
theorem d5_38 : decode prog_2_method_4_code 38 = .ok (.invokespecial 37, 3) := by decide +kernel
theorem d5_41 : decode prog_2_method_4_code 41 = .ok (.athrow, 1) := by decide +kernel
theorem d5_42 : decode prog_2_method_4_code 42 = .ok (.iconst 0, 1) := by decide +kernel
theorem d5_43 : decode prog_2_method_4_code 43 = .ok (.istore_n 2, 1) := by decide +kernel
theorem d5_44 : decode prog_2_method_4_code 44 = .ok (.iload_n 1, 1) := by decide +kernel
theorem d5_45 : decode prog_2_method_4_code 45 = .ok (.istore_n 3, 1) := by decide +kernel
theorem d5_46 : decode prog_2_method_4_code 46 = .ok (.iload_n 3, 1) := by decide +kernel
theorem d5_47 : decode prog_2_method_4_code 47 = .ok (.ifCond .le 84, 3) := by decide +kernel
theorem d5_50 : decode prog_2_method_4_code 50 = .ok (.aload_n 0, 1) := by decide +kernel
theorem d5_51 : decode prog_2_method_4_code 51 = .ok (.getfield 18, 3) := by decide +kernel
theorem d5_54 : decode prog_2_method_4_code 54 = .ok (.aload_n 0, 1) := by decide +kernel
theorem d5_55 : decode prog_2_method_4_code 55 = .ok (.getfield 26, 3) := by decide +kernel
theorem d5_58 : decode prog_2_method_4_code 58 = .ok (.iconst 3, 1) := by decide +kernel
theorem d5_59 : decode prog_2_method_4_code 59 = .ok (.lushr, 1) := by decide +kernel
theorem d5_60 : decode prog_2_method_4_code 60 = .ok (.l2i, 1) := by decide +kernel
theorem d5_61 : decode prog_2_method_4_code 61 = .ok (.baload, 1) := by decide +kernel
theorem d5_62 : decode prog_2_method_4_code 62 = .ok (.sipush 255, 3) := by decide +kernel
theorem d5_65 : decode prog_2_method_4_code 65 = .ok (.iand, 1) := by decide +kernel
theorem d5_66 : decode prog_2_method_4_code 66 = .ok (.istore 4, 2) := by decide +kernel
theorem d5_68 : decode prog_2_method_4_code 68 = .ok (.bipush 8, 2) := by decide +kernel
theorem d5_70 : decode prog_2_method_4_code 70 = .ok (.aload_n 0, 1) := by decide +kernel
theorem d5_71 : decode prog_2_method_4_code 71 = .ok (.getfield 26, 3) := by decide +kernel
theorem d5_74 : decode prog_2_method_4_code 74 = .ok (.ldc2_w 40, 3) := by decide +kernel
theorem d5_77 : decode prog_2_method_4_code 77 = .ok (.land, 1) := by decide +kernel
theorem d5_78 : decode prog_2_method_4_code 78 = .ok (.l2i, 1) := by decide +kernel
theorem d5_79 : decode prog_2_method_4_code 79 = .ok (.isub, 1) := by decide +kernel
theorem d5_80 : decode prog_2_method_4_code 80 = .ok (.istore 5, 2) := by decide +kernel
theorem d5_82 : decode prog_2_method_4_code 82 = .ok (.iload 5, 2) := by decide +kernel
theorem d5_84 : decode prog_2_method_4_code 84 = .ok (.iload_n 3, 1) := by decide +kernel
theorem d5_85 : decode prog_2_method_4_code 85 = .ok (.invokestatic 52, 3) := by decide +kernel
theorem d5_88 : decode prog_2_method_4_code 88 = .ok (.istore 6, 2) := by decide +kernel
theorem d5_90 : decode prog_2_method_4_code 90 = .ok (.iload_n 2, 1) := by decide +kernel
theorem d5_91 : decode prog_2_method_4_code 91 = .ok (.iload 6, 2) := by decide +kernel
theorem d5_93 : decode prog_2_method_4_code 93 = .ok (.ishl, 1) := by decide +kernel
theorem d5_94 : decode prog_2_method_4_code 94 = .ok (.iload 4, 2) := by decide +kernel
theorem d5_96 : decode prog_2_method_4_code 96 = .ok (.iload 5, 2) := by decide +kernel
theorem d5_98 : decode prog_2_method_4_code 98 = .ok (.iload 6, 2) := by decide +kernel
theorem d5_100 : decode prog_2_method_4_code 100 = .ok (.isub, 1) := by decide +kernel
theorem d5_101 : decode prog_2_method_4_code 101 = .ok (.iushr, 1) := by decide +kernel
theorem d5_102 : decode prog_2_method_4_code 102 = .ok (.iconst 1, 1) := by decide +kernel
theorem d5_103 : decode prog_2_method_4_code 103 = .ok (.iload 6, 2) := by decide +kernel
theorem d5_105 : decode prog_2_method_4_code 105 = .ok (.ishl, 1) := by decide +kernel
theorem d5_106 : decode prog_2_method_4_code 106 = .ok (.iconst 1, 1) := by decide +kernel
theorem d5_107 : decode prog_2_method_4_code 107 = .ok (.isub, 1) := by decide +kernel
theorem d5_108 : decode prog_2_method_4_code 108 = .ok (.iand, 1) := by decide +kernel
theorem d5_109 : decode prog_2_method_4_code 109 = .ok (.ior, 1) := by decide +kernel
theorem d5_110 : decode prog_2_method_4_code 110 = .ok (.istore_n 2, 1) := by decide +kernel
theorem d5_111 : decode prog_2_method_4_code 111 = .ok (.iload_n 3, 1) := by decide +kernel
theorem d5_112 : decode prog_2_method_4_code 112 = .ok (.iload 6, 2) := by decide +kernel
theorem d5_114 : decode prog_2_method_4_code 114 = .ok (.isub, 1) := by decide +kernel
theorem d5_115 : decode prog_2_method_4_code 115 = .ok (.istore_n 3, 1) := by decide +kernel
theorem d5_116 : decode prog_2_method_4_code 116 = .ok (.aload_n 0, 1) := by decide +kernel
theorem d5_117 : decode prog_2_method_4_code 117 = .ok (.dup, 1) := by decide +kernel
theorem d5_118 : decode prog_2_method_4_code 118 = .ok (.getfield 26, 3) := by decide +kernel
theorem d5_121 : decode prog_2_method_4_code 121 = .ok (.iload 6, 2) := by decide +kernel
theorem d5_123 : decode prog_2_method_4_code 123 = .ok (.i2l, 1) := by decide +kernel
theorem d5_124 : decode prog_2_method_4_code 124 = .ok (.ladd, 1) := by decide +kernel
theorem d5_125 : decode prog_2_method_4_code 125 = .ok (.putfield 26, 3) := by decide +kernel
theorem d5_128 : decode prog_2_method_4_code 128 = .ok (.goto (-82), 3) := by decide +kernel
theorem d5_131 : decode prog_2_method_4_code 131 = .ok (.iload_n 2, 1) := by decide +kernel
theorem d5_132 : decode prog_2_method_4_code 132 = .ok (.ireturn, 1) := by decide +kernel
theorem pn_5 : plainName "com/example/fewbits/fewbits/BitReader" = true := by first | (simp [plainName, overriddenIn]; done) | decide +kernel
theorem ef_5 (m : MethodId) (x0 : Addr) (x1 : Int32) : entryFrame m #[(.ref x0), (.int x1)] 7 = mkF m 0 #[.val (.ref x0), .val (.int x1), .unset, .unset, .unset, .unset, .unset] [] := by first | (simp [entryFrame, mkF, argsToLocals, Value.category]; done) | rfl
theorem pd_2 : parseMethodDescriptor "(I)V" = some ⟨[.int], none⟩ := by decide +kernel
theorem pd_3 : parseMethodDescriptor "(II)I" = some ⟨[.int, .int], some .int⟩ := by decide +kernel
set_option maxRecDepth 65536 in
set_option maxHeartbeats 40000000 in
theorem own_turnU {p : Program} {l : Launch} {e : Env} {s : State} {m : MethodId} {args : Array Value} {below : List Frame} {meth : Method} {c : Code} {T0 : State} {locs : List Loc} {Z : State} {a0 : Array Value} {h0 : Heap} (a : Addr) (ad : Addr) (f : Nat → Int32) (ct : Int32) (re : Int32) (lf : Int32) (ps : Int64) (en : Int64) (X0 : Stand p l e ({ frames := 1, cells := 0, slots := 0, locals := 20 } : Room) s m args below meth c T0 locs 0 0) (hx : p.tables.exec = Jvm.exec) (hZ : Z.Warmed39 s.vm) (hw : ∀ d ∈ tables_1, d.before a0 Z = true) (hby : c.code = prog_2_method_4_code) (hml : c.maxLocals = 7) (hown : s.vm.findClass "com/example/fewbits/fewbits/BitReader" = some m.cls) (e0 : T0.heap = h0) (n0 : Nat) (Z0 : n0 ≤ h0.size) (N0 : Fr n0 locs) (ga : n0 ≤ a) (O0 : own_Br Z h0 a (.ref ad) (.long ps) (.long en)) (A0 : own_AI Z h0 ad .byte (4 : Int32) f) (hlf : (0 : Int32) < lf) (hin : ¬ (((ps.toUInt64 >>> ((3 : Int32) &&& 0x3f).toInt64.toUInt64).toInt64).toInt32) < 0 ∧ (((ps.toUInt64 >>> ((3 : Int32) &&& 0x3f).toInt64.toUInt64).toInt64).toInt32) < (4 : Int32)) :
    ∃ (tk rx i4' : Int32) (T' : State) (h' : Heap) (locs' : List Loc), (own_min ((8 : Int32) - ((ps &&& (7 : Int64)).toInt32)) lf) = tk ∧ Stand p l e ({ frames := 1, cells := 0, slots := 0, locals := 20 } : Room) s m args below meth c T' locs' 0 0 ∧ T'.heap = h' ∧ Fr n0 locs' ∧ Keep h0 h' [a] ∧ own_Br Z h' a (.ref ad) (.long (ps + (tk.toInt64))) (.long en) ∧ own_AI Z h' ad .byte (4 : Int32) f ∧ 
      ∀ target, Steps p.tables e below (T'.setTop (mkF m 46 #[.val (.ref a), .val (.int ct), .val (.int rx), .val (.int (lf - tk)), .val (.int i4'), .val (.int ((8 : Int32) - ((ps &&& (7 : Int64)).toInt32))), .val (.int tk)] [])) target → Steps p.tables e below (T0.setTop (mkF m 46 #[.val (.ref a), .val (.int ct), .val (.int re), .val (.int lf), .unset, .unset, .unset] [])) target := by
  obtain ⟨T1, X1, e1, st1⟩ := getF X0 hx hZ hown (host := "") (Or.inl (hw _ (List.mem_of_getElem? (i := 19) rfl))) Via.refl e0 O0.2.1 (g := (mkF m 51 #[.val (.ref a), .val (.int ct), .val (.int re), .val (.int lf), .unset, .unset, .unset] [(.ref a)])) rfl rfl (hb hby d5_51)
  obtain ⟨T2, X2, e2, st2⟩ := getF X1 hx hZ hown (host := "") (Or.inl (hw _ (List.mem_of_getElem? (i := 22) rfl))) Via.refl e1 O0.2.2.1 (g := (mkF m 55 #[.val (.ref a), .val (.int ct), .val (.int re), .val (.int lf), .unset, .unset, .unset] [(.ref a), (.ref ad)])) rfl rfl (hb hby d5_55)
  obtain ⟨T3, X3, e3, st3⟩ := getF X2 hx hZ hown (host := "") (Or.inl (hw _ (List.mem_of_getElem? (i := 22) rfl))) Via.refl e2 O0.2.2.1 (g := (mkF m 71 #[.val (.ref a), .val (.int ct), .val (.int re), .val (.int lf), .val (.int ((f ((((ps.toUInt64 >>> ((3 : Int32) &&& 0x3f).toInt64.toUInt64).toInt64).toInt32)).toNatClampNeg) &&& (255 : Int32))), .unset, .unset] [(.ref a), (.int (8 : Int32))])) rfl rfl (hb hby d5_71)
  obtain ⟨_, _, ⟨T4, L4, k4, n4⟩, -, X4, ⟨Lc4, hQ4, l4, y4, z4⟩, st4⟩ := Jvm.LawKit.callS X3 hx (y := (⟨"java/lang/Math", "min", "(II)I"⟩ : MethodName)) hown (mvT hZ (hw _ (List.mem_of_getElem? (i := 47) rfl))) (mvT hZ (hw _ (List.mem_of_getElem? (i := 48) rfl))) (mvT hZ (hw _ (List.mem_of_getElem? (i := 49) rfl))) (mvT hZ (hw _ (List.mem_of_getElem? (i := 50) rfl))) (by decide) (backOf (W := 0) (rm5 l Z a0 hw [] ((8 : Int32) - ((ps &&& (7 : Int64)).toInt32)) lf  h0 n0 Z0 ) hZ (hw _ (List.mem_of_getElem? (i := 50) rfl)) (hw _ (List.mem_of_getElem? (i := 49) rfl)) (by decide) (by decide)) (g := (mkF m 85 #[.val (.ref a), .val (.int ct), .val (.int re), .val (.int lf), .val (.int ((f ((((ps.toUInt64 >>> ((3 : Int32) &&& 0x3f).toInt64.toUInt64).toInt64).toInt32)).toNatClampNeg) &&& (255 : Int32))), .val (.int ((8 : Int32) - ((ps &&& (7 : Int64)).toInt32))), .unset] [(.int lf), (.int ((8 : Int32) - ((ps &&& (7 : Int64)).toInt32)))])) rfl (by rw [hml]; rfl) (argsL := [(.int ((8 : Int32) - ((ps &&& (7 : Int64)).toInt32))), (.int lf)]) (rest := []) (lenOf pd_3 rfl) rfl (by show 2 * 0 + _ ≤ _; exact Nat.le_of_eq rfl) (hb hby d5_85) (fun _ _ => ⟨rfl, e3, (by decide : 0 + 0 ≤ _), (by decide : 0 + 0 ≤ _)⟩)
  dsimp only [Pt.U, Pt.locs, Pt.cells, Pt.slots] at X4 l4 y4 z4 st4 hQ4
  subst l4 y4 z4
  obtain ⟨rfl, Nq4, e4⟩ := hQ4
  have N4 := Fr.app N0 Nq4
  obtain ⟨tk, h_tk⟩ : ∃ z, (own_min ((8 : Int32) - ((ps &&& (7 : Int64)).toInt32)) lf) = z := ⟨_, rfl⟩
  obtain ⟨rx, h_rx⟩ : ∃ z, ((re <<< (tk &&& 31)) ||| (((((f ((((ps.toUInt64 >>> ((3 : Int32) &&& 0x3f).toInt64.toUInt64).toInt64).toInt32)).toNatClampNeg) &&& (255 : Int32)).toUInt32 >>> ((((8 : Int32) - ((ps &&& (7 : Int64)).toInt32)) - tk) &&& 31).toUInt32).toInt32) &&& (((1 : Int32) <<< (tk &&& 31)) - (1 : Int32)))) = z := ⟨_, rfl⟩
  obtain ⟨T5, X5, e5, st5⟩ := getF X4 hx hZ hown (host := "") (Or.inl (hw _ (List.mem_of_getElem? (i := 22) rfl))) Via.refl e4 O0.2.2.1 (g := (mkF m 118 #[.val (.ref a), .val (.int ct), .val (.int rx), .val (.int (lf - tk)), .val (.int ((f ((((ps.toUInt64 >>> ((3 : Int32) &&& 0x3f).toInt64.toUInt64).toInt64).toInt32)).toNatClampNeg) &&& (255 : Int32))), .val (.int ((8 : Int32) - ((ps &&& (7 : Int64)).toInt32))), .val (.int tk)] [(.ref a), (.ref a)])) rfl rfl (hb hby d5_118)
  obtain ⟨T6, h6, X6, e6, W6, st6⟩ := putF X5 hx hZ hown (host := "") (Or.inl (hw _ (List.mem_of_getElem? (i := 22) rfl))) Via.refl e5 O0.2.2.1 O0.1 (Or.inl (hw _ (List.mem_of_getElem? (i := 23) rfl))) (hw _ (List.mem_of_getElem? (i := 3) rfl)) (ty := .long) (by decide) rfl rfl (g := (mkF m 125 #[.val (.ref a), .val (.int ct), .val (.int rx), .val (.int (lf - tk)), .val (.int ((f ((((ps.toUInt64 >>> ((3 : Int32) &&& 0x3f).toInt64.toUInt64).toInt64).toInt32)).toNatClampNeg) &&& (255 : Int32))), .val (.int ((8 : Int32) - ((ps &&& (7 : Int64)).toInt32))), .val (.int tk)] [(.long (ps + (tk.toInt64))), (.ref a)])) rfl rfl (hb hby d5_125)
  have N6 := Fr.snoc X6 N4 ga
  have K6 : Keep h0 h6 [a] := (Keep.refl h0 [a]).wr W6 (Or.inl (List.mem_of_getElem? (i := 0) rfl))
  have A6_ad := A0.other W6 (own_ne_obj O0.1 (hw _ (List.mem_of_getElem? (i := 3) rfl)) A0).symm
  have O6 := own_Br_set_m_nPosition hw O0 W6
  have Z6 : n0 ≤ h6.size := Nat.le_trans Z0 (Nat.le_of_eq (W6.size).symm)
  refine ⟨tk, rx, ((f ((((ps.toUInt64 >>> ((3 : Int32) &&& 0x3f).toInt64.toUInt64).toInt64).toInt32)).toNatClampNeg) &&& (255 : Int32)), _, _, _, h_tk, X6, e6, N6, K6, O6, A6_ad, fun target kt => ?_⟩
  show Steps p.tables e below (T0.setTop (mkF m 46 #[.val (.ref a), .val (.int ct), .val (.int re), .val (.int lf), .unset, .unset, .unset] [])) _
  refine XS.iloadN X0.here hx rfl (hb hby d5_46) rfl ?_
  show Steps p.tables e below (T0.setTop (mkF m 47 #[.val (.ref a), .val (.int ct), .val (.int re), .val (.int lf), .unset, .unset, .unset] [(.int lf)])) _
  refine XS.ifNo X0.here hx rfl (hb hby d5_47) rfl ((if0 _ _).trans (tlt hlf).2.2.2) ?_
  show Steps p.tables e below (T0.setTop (mkF m 50 #[.val (.ref a), .val (.int ct), .val (.int re), .val (.int lf), .unset, .unset, .unset] [])) _
  refine XS.aloadN X0.here hx rfl (hb hby d5_50) rfl rfl ?_
  show Steps p.tables e below (T0.setTop (mkF m 51 #[.val (.ref a), .val (.int ct), .val (.int re), .val (.int lf), .unset, .unset, .unset] [(.ref a)])) _
  refine st1 _ ?_
  show Steps p.tables e below (T1.setTop (mkF m 54 #[.val (.ref a), .val (.int ct), .val (.int re), .val (.int lf), .unset, .unset, .unset] [(.ref ad)])) _
  refine XS.aloadN X1.here hx rfl (hb hby d5_54) rfl rfl ?_
  show Steps p.tables e below (T1.setTop (mkF m 55 #[.val (.ref a), .val (.int ct), .val (.int re), .val (.int lf), .unset, .unset, .unset] [(.ref a), (.ref ad)])) _
  refine st2 _ ?_
  show Steps p.tables e below (T2.setTop (mkF m 58 #[.val (.ref a), .val (.int ct), .val (.int re), .val (.int lf), .unset, .unset, .unset] [(.long ps), (.ref ad)])) _
  refine XS.iconst X2.here hx rfl (hb hby d5_58) ?_
  show Steps p.tables e below (T2.setTop (mkF m 59 #[.val (.ref a), .val (.int ct), .val (.int re), .val (.int lf), .unset, .unset, .unset] [(.int (3 : Int32)), (.long ps), (.ref ad)])) _
  refine XS.lushr X2.here hx rfl (hb hby d5_59) rfl ?_
  show Steps p.tables e below (T2.setTop (mkF m 60 #[.val (.ref a), .val (.int ct), .val (.int re), .val (.int lf), .unset, .unset, .unset] [(.long ((ps.toUInt64 >>> ((3 : Int32) &&& 0x3f).toInt64.toUInt64).toInt64)), (.ref ad)])) _
  refine XS.l2i X2.here hx rfl (hb hby d5_60) rfl ?_
  show Steps p.tables e below (T2.setTop (mkF m 61 #[.val (.ref a), .val (.int ct), .val (.int re), .val (.int lf), .unset, .unset, .unset] [(.int (((ps.toUInt64 >>> ((3 : Int32) &&& 0x3f).toInt64.toUInt64).toInt64).toInt32)), (.ref ad)])) _
  refine own_ldB X2 hx hZ e2 A0 (j := (((ps.toUInt64 >>> ((3 : Int32) &&& 0x3f).toInt64.toUInt64).toInt64).toInt32)) hin rfl rfl (hb hby d5_61) ?_
  show Steps p.tables e below (T2.setTop (mkF m 62 #[.val (.ref a), .val (.int ct), .val (.int re), .val (.int lf), .unset, .unset, .unset] [(.int (f ((((ps.toUInt64 >>> ((3 : Int32) &&& 0x3f).toInt64.toUInt64).toInt64).toInt32)).toNatClampNeg))])) _
  refine XS.sipush X2.here hx rfl (hb hby d5_62) ?_
  show Steps p.tables e below (T2.setTop (mkF m 65 #[.val (.ref a), .val (.int ct), .val (.int re), .val (.int lf), .unset, .unset, .unset] [(.int (255 : Int32)), (.int (f ((((ps.toUInt64 >>> ((3 : Int32) &&& 0x3f).toInt64.toUInt64).toInt64).toInt32)).toNatClampNeg))])) _
  refine XS.iand X2.here hx rfl (hb hby d5_65) rfl ?_
  show Steps p.tables e below (T2.setTop (mkF m 66 #[.val (.ref a), .val (.int ct), .val (.int re), .val (.int lf), .unset, .unset, .unset] [(.int ((f ((((ps.toUInt64 >>> ((3 : Int32) &&& 0x3f).toInt64.toUInt64).toInt64).toInt32)).toNatClampNeg) &&& (255 : Int32)))])) _
  refine XS.istore X2.here hx rfl (hb hby d5_66) rfl (l' := #[.val (.ref a), .val (.int ct), .val (.int re), .val (.int lf), .val (.int ((f ((((ps.toUInt64 >>> ((3 : Int32) &&& 0x3f).toInt64.toUInt64).toInt64).toInt32)).toNatClampNeg) &&& (255 : Int32))), .unset, .unset]) rfl ?_
  show Steps p.tables e below (T2.setTop (mkF m 68 #[.val (.ref a), .val (.int ct), .val (.int re), .val (.int lf), .val (.int ((f ((((ps.toUInt64 >>> ((3 : Int32) &&& 0x3f).toInt64.toUInt64).toInt64).toInt32)).toNatClampNeg) &&& (255 : Int32))), .unset, .unset] [])) _
  refine XS.bipush X2.here hx rfl (hb hby d5_68) ?_
  show Steps p.tables e below (T2.setTop (mkF m 70 #[.val (.ref a), .val (.int ct), .val (.int re), .val (.int lf), .val (.int ((f ((((ps.toUInt64 >>> ((3 : Int32) &&& 0x3f).toInt64.toUInt64).toInt64).toInt32)).toNatClampNeg) &&& (255 : Int32))), .unset, .unset] [(.int (8 : Int32))])) _
  refine XS.aloadN X2.here hx rfl (hb hby d5_70) rfl rfl ?_
  show Steps p.tables e below (T2.setTop (mkF m 71 #[.val (.ref a), .val (.int ct), .val (.int re), .val (.int lf), .val (.int ((f ((((ps.toUInt64 >>> ((3 : Int32) &&& 0x3f).toInt64.toUInt64).toInt64).toInt32)).toNatClampNeg) &&& (255 : Int32))), .unset, .unset] [(.ref a), (.int (8 : Int32))])) _
  refine st3 _ ?_
  show Steps p.tables e below (T3.setTop (mkF m 74 #[.val (.ref a), .val (.int ct), .val (.int re), .val (.int lf), .val (.int ((f ((((ps.toUInt64 >>> ((3 : Int32) &&& 0x3f).toInt64.toUInt64).toInt64).toInt32)).toNatClampNeg) &&& (255 : Int32))), .unset, .unset] [(.long ps), (.int (8 : Int32))])) _
  refine X3.ldc2J hx hown (mvT hZ (hw _ (List.mem_of_getElem? (i := 46) rfl))) rfl (hb hby d5_74) ?_
  show Steps p.tables e below (T3.setTop (mkF m 77 #[.val (.ref a), .val (.int ct), .val (.int re), .val (.int lf), .val (.int ((f ((((ps.toUInt64 >>> ((3 : Int32) &&& 0x3f).toInt64.toUInt64).toInt64).toInt32)).toNatClampNeg) &&& (255 : Int32))), .unset, .unset] [(.long (7 : Int64)), (.long ps), (.int (8 : Int32))])) _
  refine XS.land X3.here hx rfl (hb hby d5_77) rfl ?_
  show Steps p.tables e below (T3.setTop (mkF m 78 #[.val (.ref a), .val (.int ct), .val (.int re), .val (.int lf), .val (.int ((f ((((ps.toUInt64 >>> ((3 : Int32) &&& 0x3f).toInt64.toUInt64).toInt64).toInt32)).toNatClampNeg) &&& (255 : Int32))), .unset, .unset] [(.long (ps &&& (7 : Int64))), (.int (8 : Int32))])) _
  refine XS.l2i X3.here hx rfl (hb hby d5_78) rfl ?_
  show Steps p.tables e below (T3.setTop (mkF m 79 #[.val (.ref a), .val (.int ct), .val (.int re), .val (.int lf), .val (.int ((f ((((ps.toUInt64 >>> ((3 : Int32) &&& 0x3f).toInt64.toUInt64).toInt64).toInt32)).toNatClampNeg) &&& (255 : Int32))), .unset, .unset] [(.int ((ps &&& (7 : Int64)).toInt32)), (.int (8 : Int32))])) _
  refine XS.isub X3.here hx rfl (hb hby d5_79) rfl ?_
  show Steps p.tables e below (T3.setTop (mkF m 80 #[.val (.ref a), .val (.int ct), .val (.int re), .val (.int lf), .val (.int ((f ((((ps.toUInt64 >>> ((3 : Int32) &&& 0x3f).toInt64.toUInt64).toInt64).toInt32)).toNatClampNeg) &&& (255 : Int32))), .unset, .unset] [(.int ((8 : Int32) - ((ps &&& (7 : Int64)).toInt32)))])) _
  refine XS.istore X3.here hx rfl (hb hby d5_80) rfl (l' := #[.val (.ref a), .val (.int ct), .val (.int re), .val (.int lf), .val (.int ((f ((((ps.toUInt64 >>> ((3 : Int32) &&& 0x3f).toInt64.toUInt64).toInt64).toInt32)).toNatClampNeg) &&& (255 : Int32))), .val (.int ((8 : Int32) - ((ps &&& (7 : Int64)).toInt32))), .unset]) rfl ?_
  show Steps p.tables e below (T3.setTop (mkF m 82 #[.val (.ref a), .val (.int ct), .val (.int re), .val (.int lf), .val (.int ((f ((((ps.toUInt64 >>> ((3 : Int32) &&& 0x3f).toInt64.toUInt64).toInt64).toInt32)).toNatClampNeg) &&& (255 : Int32))), .val (.int ((8 : Int32) - ((ps &&& (7 : Int64)).toInt32))), .unset] [])) _
  refine XS.iload X3.here hx rfl (hb hby d5_82) rfl ?_
  show Steps p.tables e below (T3.setTop (mkF m 84 #[.val (.ref a), .val (.int ct), .val (.int re), .val (.int lf), .val (.int ((f ((((ps.toUInt64 >>> ((3 : Int32) &&& 0x3f).toInt64.toUInt64).toInt64).toInt32)).toNatClampNeg) &&& (255 : Int32))), .val (.int ((8 : Int32) - ((ps &&& (7 : Int64)).toInt32))), .unset] [(.int ((8 : Int32) - ((ps &&& (7 : Int64)).toInt32)))])) _
  refine XS.iloadN X3.here hx rfl (hb hby d5_84) rfl ?_
  show Steps p.tables e below (T3.setTop (mkF m 85 #[.val (.ref a), .val (.int ct), .val (.int re), .val (.int lf), .val (.int ((f ((((ps.toUInt64 >>> ((3 : Int32) &&& 0x3f).toInt64.toUInt64).toInt64).toInt32)).toNatClampNeg) &&& (255 : Int32))), .val (.int ((8 : Int32) - ((ps &&& (7 : Int64)).toInt32))), .unset] [(.int lf), (.int ((8 : Int32) - ((ps &&& (7 : Int64)).toInt32)))])) _
  refine st4 _ ?_
  show Steps p.tables e below (T4.setTop (mkF m 88 #[.val (.ref a), .val (.int ct), .val (.int re), .val (.int lf), .val (.int ((f ((((ps.toUInt64 >>> ((3 : Int32) &&& 0x3f).toInt64.toUInt64).toInt64).toInt32)).toNatClampNeg) &&& (255 : Int32))), .val (.int ((8 : Int32) - ((ps &&& (7 : Int64)).toInt32))), .unset] [(.int (own_min ((8 : Int32) - ((ps &&& (7 : Int64)).toInt32)) lf))])) _
  refine XS.istore X4.here hx rfl (hb hby d5_88) rfl (l' := #[.val (.ref a), .val (.int ct), .val (.int re), .val (.int lf), .val (.int ((f ((((ps.toUInt64 >>> ((3 : Int32) &&& 0x3f).toInt64.toUInt64).toInt64).toInt32)).toNatClampNeg) &&& (255 : Int32))), .val (.int ((8 : Int32) - ((ps &&& (7 : Int64)).toInt32))), .val (.int (own_min ((8 : Int32) - ((ps &&& (7 : Int64)).toInt32)) lf))]) rfl ?_
  rw [h_tk]
  show Steps p.tables e below (T4.setTop (mkF m 90 #[.val (.ref a), .val (.int ct), .val (.int re), .val (.int lf), .val (.int ((f ((((ps.toUInt64 >>> ((3 : Int32) &&& 0x3f).toInt64.toUInt64).toInt64).toInt32)).toNatClampNeg) &&& (255 : Int32))), .val (.int ((8 : Int32) - ((ps &&& (7 : Int64)).toInt32))), .val (.int tk)] [])) _
  refine XS.iloadN X4.here hx rfl (hb hby d5_90) rfl ?_
  show Steps p.tables e below (T4.setTop (mkF m 91 #[.val (.ref a), .val (.int ct), .val (.int re), .val (.int lf), .val (.int ((f ((((ps.toUInt64 >>> ((3 : Int32) &&& 0x3f).toInt64.toUInt64).toInt64).toInt32)).toNatClampNeg) &&& (255 : Int32))), .val (.int ((8 : Int32) - ((ps &&& (7 : Int64)).toInt32))), .val (.int tk)] [(.int re)])) _
  refine XS.iload X4.here hx rfl (hb hby d5_91) rfl ?_
  show Steps p.tables e below (T4.setTop (mkF m 93 #[.val (.ref a), .val (.int ct), .val (.int re), .val (.int lf), .val (.int ((f ((((ps.toUInt64 >>> ((3 : Int32) &&& 0x3f).toInt64.toUInt64).toInt64).toInt32)).toNatClampNeg) &&& (255 : Int32))), .val (.int ((8 : Int32) - ((ps &&& (7 : Int64)).toInt32))), .val (.int tk)] [(.int tk), (.int re)])) _
  refine XS.ishl X4.here hx rfl (hb hby d5_93) rfl ?_
  show Steps p.tables e below (T4.setTop (mkF m 94 #[.val (.ref a), .val (.int ct), .val (.int re), .val (.int lf), .val (.int ((f ((((ps.toUInt64 >>> ((3 : Int32) &&& 0x3f).toInt64.toUInt64).toInt64).toInt32)).toNatClampNeg) &&& (255 : Int32))), .val (.int ((8 : Int32) - ((ps &&& (7 : Int64)).toInt32))), .val (.int tk)] [(.int (re <<< (tk &&& 31)))])) _
  refine XS.iload X4.here hx rfl (hb hby d5_94) rfl ?_
  show Steps p.tables e below (T4.setTop (mkF m 96 #[.val (.ref a), .val (.int ct), .val (.int re), .val (.int lf), .val (.int ((f ((((ps.toUInt64 >>> ((3 : Int32) &&& 0x3f).toInt64.toUInt64).toInt64).toInt32)).toNatClampNeg) &&& (255 : Int32))), .val (.int ((8 : Int32) - ((ps &&& (7 : Int64)).toInt32))), .val (.int tk)] [(.int ((f ((((ps.toUInt64 >>> ((3 : Int32) &&& 0x3f).toInt64.toUInt64).toInt64).toInt32)).toNatClampNeg) &&& (255 : Int32))), (.int (re <<< (tk &&& 31)))])) _
  refine XS.iload X4.here hx rfl (hb hby d5_96) rfl ?_
  show Steps p.tables e below (T4.setTop (mkF m 98 #[.val (.ref a), .val (.int ct), .val (.int re), .val (.int lf), .val (.int ((f ((((ps.toUInt64 >>> ((3 : Int32) &&& 0x3f).toInt64.toUInt64).toInt64).toInt32)).toNatClampNeg) &&& (255 : Int32))), .val (.int ((8 : Int32) - ((ps &&& (7 : Int64)).toInt32))), .val (.int tk)] [(.int ((8 : Int32) - ((ps &&& (7 : Int64)).toInt32))), (.int ((f ((((ps.toUInt64 >>> ((3 : Int32) &&& 0x3f).toInt64.toUInt64).toInt64).toInt32)).toNatClampNeg) &&& (255 : Int32))), (.int (re <<< (tk &&& 31)))])) _
  refine XS.iload X4.here hx rfl (hb hby d5_98) rfl ?_
  show Steps p.tables e below (T4.setTop (mkF m 100 #[.val (.ref a), .val (.int ct), .val (.int re), .val (.int lf), .val (.int ((f ((((ps.toUInt64 >>> ((3 : Int32) &&& 0x3f).toInt64.toUInt64).toInt64).toInt32)).toNatClampNeg) &&& (255 : Int32))), .val (.int ((8 : Int32) - ((ps &&& (7 : Int64)).toInt32))), .val (.int tk)] [(.int tk), (.int ((8 : Int32) - ((ps &&& (7 : Int64)).toInt32))), (.int ((f ((((ps.toUInt64 >>> ((3 : Int32) &&& 0x3f).toInt64.toUInt64).toInt64).toInt32)).toNatClampNeg) &&& (255 : Int32))), (.int (re <<< (tk &&& 31)))])) _
  refine XS.isub X4.here hx rfl (hb hby d5_100) rfl ?_
  show Steps p.tables e below (T4.setTop (mkF m 101 #[.val (.ref a), .val (.int ct), .val (.int re), .val (.int lf), .val (.int ((f ((((ps.toUInt64 >>> ((3 : Int32) &&& 0x3f).toInt64.toUInt64).toInt64).toInt32)).toNatClampNeg) &&& (255 : Int32))), .val (.int ((8 : Int32) - ((ps &&& (7 : Int64)).toInt32))), .val (.int tk)] [(.int (((8 : Int32) - ((ps &&& (7 : Int64)).toInt32)) - tk)), (.int ((f ((((ps.toUInt64 >>> ((3 : Int32) &&& 0x3f).toInt64.toUInt64).toInt64).toInt32)).toNatClampNeg) &&& (255 : Int32))), (.int (re <<< (tk &&& 31)))])) _
  refine XS.iushr X4.here hx rfl (hb hby d5_101) rfl ?_
  show Steps p.tables e below (T4.setTop (mkF m 102 #[.val (.ref a), .val (.int ct), .val (.int re), .val (.int lf), .val (.int ((f ((((ps.toUInt64 >>> ((3 : Int32) &&& 0x3f).toInt64.toUInt64).toInt64).toInt32)).toNatClampNeg) &&& (255 : Int32))), .val (.int ((8 : Int32) - ((ps &&& (7 : Int64)).toInt32))), .val (.int tk)] [(.int ((((f ((((ps.toUInt64 >>> ((3 : Int32) &&& 0x3f).toInt64.toUInt64).toInt64).toInt32)).toNatClampNeg) &&& (255 : Int32)).toUInt32 >>> ((((8 : Int32) - ((ps &&& (7 : Int64)).toInt32)) - tk) &&& 31).toUInt32).toInt32)), (.int (re <<< (tk &&& 31)))])) _
  refine XS.iconst X4.here hx rfl (hb hby d5_102) ?_
  show Steps p.tables e below (T4.setTop (mkF m 103 #[.val (.ref a), .val (.int ct), .val (.int re), .val (.int lf), .val (.int ((f ((((ps.toUInt64 >>> ((3 : Int32) &&& 0x3f).toInt64.toUInt64).toInt64).toInt32)).toNatClampNeg) &&& (255 : Int32))), .val (.int ((8 : Int32) - ((ps &&& (7 : Int64)).toInt32))), .val (.int tk)] [(.int (1 : Int32)), (.int ((((f ((((ps.toUInt64 >>> ((3 : Int32) &&& 0x3f).toInt64.toUInt64).toInt64).toInt32)).toNatClampNeg) &&& (255 : Int32)).toUInt32 >>> ((((8 : Int32) - ((ps &&& (7 : Int64)).toInt32)) - tk) &&& 31).toUInt32).toInt32)), (.int (re <<< (tk &&& 31)))])) _
  refine XS.iload X4.here hx rfl (hb hby d5_103) rfl ?_
  show Steps p.tables e below (T4.setTop (mkF m 105 #[.val (.ref a), .val (.int ct), .val (.int re), .val (.int lf), .val (.int ((f ((((ps.toUInt64 >>> ((3 : Int32) &&& 0x3f).toInt64.toUInt64).toInt64).toInt32)).toNatClampNeg) &&& (255 : Int32))), .val (.int ((8 : Int32) - ((ps &&& (7 : Int64)).toInt32))), .val (.int tk)] [(.int tk), (.int (1 : Int32)), (.int ((((f ((((ps.toUInt64 >>> ((3 : Int32) &&& 0x3f).toInt64.toUInt64).toInt64).toInt32)).toNatClampNeg) &&& (255 : Int32)).toUInt32 >>> ((((8 : Int32) - ((ps &&& (7 : Int64)).toInt32)) - tk) &&& 31).toUInt32).toInt32)), (.int (re <<< (tk &&& 31)))])) _
  refine XS.ishl X4.here hx rfl (hb hby d5_105) rfl ?_
  show Steps p.tables e below (T4.setTop (mkF m 106 #[.val (.ref a), .val (.int ct), .val (.int re), .val (.int lf), .val (.int ((f ((((ps.toUInt64 >>> ((3 : Int32) &&& 0x3f).toInt64.toUInt64).toInt64).toInt32)).toNatClampNeg) &&& (255 : Int32))), .val (.int ((8 : Int32) - ((ps &&& (7 : Int64)).toInt32))), .val (.int tk)] [(.int ((1 : Int32) <<< (tk &&& 31))), (.int ((((f ((((ps.toUInt64 >>> ((3 : Int32) &&& 0x3f).toInt64.toUInt64).toInt64).toInt32)).toNatClampNeg) &&& (255 : Int32)).toUInt32 >>> ((((8 : Int32) - ((ps &&& (7 : Int64)).toInt32)) - tk) &&& 31).toUInt32).toInt32)), (.int (re <<< (tk &&& 31)))])) _
  refine XS.iconst X4.here hx rfl (hb hby d5_106) ?_
  show Steps p.tables e below (T4.setTop (mkF m 107 #[.val (.ref a), .val (.int ct), .val (.int re), .val (.int lf), .val (.int ((f ((((ps.toUInt64 >>> ((3 : Int32) &&& 0x3f).toInt64.toUInt64).toInt64).toInt32)).toNatClampNeg) &&& (255 : Int32))), .val (.int ((8 : Int32) - ((ps &&& (7 : Int64)).toInt32))), .val (.int tk)] [(.int (1 : Int32)), (.int ((1 : Int32) <<< (tk &&& 31))), (.int ((((f ((((ps.toUInt64 >>> ((3 : Int32) &&& 0x3f).toInt64.toUInt64).toInt64).toInt32)).toNatClampNeg) &&& (255 : Int32)).toUInt32 >>> ((((8 : Int32) - ((ps &&& (7 : Int64)).toInt32)) - tk) &&& 31).toUInt32).toInt32)), (.int (re <<< (tk &&& 31)))])) _
  refine XS.isub X4.here hx rfl (hb hby d5_107) rfl ?_
  show Steps p.tables e below (T4.setTop (mkF m 108 #[.val (.ref a), .val (.int ct), .val (.int re), .val (.int lf), .val (.int ((f ((((ps.toUInt64 >>> ((3 : Int32) &&& 0x3f).toInt64.toUInt64).toInt64).toInt32)).toNatClampNeg) &&& (255 : Int32))), .val (.int ((8 : Int32) - ((ps &&& (7 : Int64)).toInt32))), .val (.int tk)] [(.int (((1 : Int32) <<< (tk &&& 31)) - (1 : Int32))), (.int ((((f ((((ps.toUInt64 >>> ((3 : Int32) &&& 0x3f).toInt64.toUInt64).toInt64).toInt32)).toNatClampNeg) &&& (255 : Int32)).toUInt32 >>> ((((8 : Int32) - ((ps &&& (7 : Int64)).toInt32)) - tk) &&& 31).toUInt32).toInt32)), (.int (re <<< (tk &&& 31)))])) _
  refine XS.iand X4.here hx rfl (hb hby d5_108) rfl ?_
  show Steps p.tables e below (T4.setTop (mkF m 109 #[.val (.ref a), .val (.int ct), .val (.int re), .val (.int lf), .val (.int ((f ((((ps.toUInt64 >>> ((3 : Int32) &&& 0x3f).toInt64.toUInt64).toInt64).toInt32)).toNatClampNeg) &&& (255 : Int32))), .val (.int ((8 : Int32) - ((ps &&& (7 : Int64)).toInt32))), .val (.int tk)] [(.int (((((f ((((ps.toUInt64 >>> ((3 : Int32) &&& 0x3f).toInt64.toUInt64).toInt64).toInt32)).toNatClampNeg) &&& (255 : Int32)).toUInt32 >>> ((((8 : Int32) - ((ps &&& (7 : Int64)).toInt32)) - tk) &&& 31).toUInt32).toInt32) &&& (((1 : Int32) <<< (tk &&& 31)) - (1 : Int32)))), (.int (re <<< (tk &&& 31)))])) _
  refine XS.ior X4.here hx rfl (hb hby d5_109) rfl ?_
  show Steps p.tables e below (T4.setTop (mkF m 110 #[.val (.ref a), .val (.int ct), .val (.int re), .val (.int lf), .val (.int ((f ((((ps.toUInt64 >>> ((3 : Int32) &&& 0x3f).toInt64.toUInt64).toInt64).toInt32)).toNatClampNeg) &&& (255 : Int32))), .val (.int ((8 : Int32) - ((ps &&& (7 : Int64)).toInt32))), .val (.int tk)] [(.int ((re <<< (tk &&& 31)) ||| (((((f ((((ps.toUInt64 >>> ((3 : Int32) &&& 0x3f).toInt64.toUInt64).toInt64).toInt32)).toNatClampNeg) &&& (255 : Int32)).toUInt32 >>> ((((8 : Int32) - ((ps &&& (7 : Int64)).toInt32)) - tk) &&& 31).toUInt32).toInt32) &&& (((1 : Int32) <<< (tk &&& 31)) - (1 : Int32)))))])) _
  refine XS.istoreN X4.here hx rfl (hb hby d5_110) rfl (l' := #[.val (.ref a), .val (.int ct), .val (.int ((re <<< (tk &&& 31)) ||| (((((f ((((ps.toUInt64 >>> ((3 : Int32) &&& 0x3f).toInt64.toUInt64).toInt64).toInt32)).toNatClampNeg) &&& (255 : Int32)).toUInt32 >>> ((((8 : Int32) - ((ps &&& (7 : Int64)).toInt32)) - tk) &&& 31).toUInt32).toInt32) &&& (((1 : Int32) <<< (tk &&& 31)) - (1 : Int32))))), .val (.int lf), .val (.int ((f ((((ps.toUInt64 >>> ((3 : Int32) &&& 0x3f).toInt64.toUInt64).toInt64).toInt32)).toNatClampNeg) &&& (255 : Int32))), .val (.int ((8 : Int32) - ((ps &&& (7 : Int64)).toInt32))), .val (.int tk)]) rfl ?_
  rw [h_rx]
  show Steps p.tables e below (T4.setTop (mkF m 111 #[.val (.ref a), .val (.int ct), .val (.int rx), .val (.int lf), .val (.int ((f ((((ps.toUInt64 >>> ((3 : Int32) &&& 0x3f).toInt64.toUInt64).toInt64).toInt32)).toNatClampNeg) &&& (255 : Int32))), .val (.int ((8 : Int32) - ((ps &&& (7 : Int64)).toInt32))), .val (.int tk)] [])) _
  refine XS.iloadN X4.here hx rfl (hb hby d5_111) rfl ?_
  show Steps p.tables e below (T4.setTop (mkF m 112 #[.val (.ref a), .val (.int ct), .val (.int rx), .val (.int lf), .val (.int ((f ((((ps.toUInt64 >>> ((3 : Int32) &&& 0x3f).toInt64.toUInt64).toInt64).toInt32)).toNatClampNeg) &&& (255 : Int32))), .val (.int ((8 : Int32) - ((ps &&& (7 : Int64)).toInt32))), .val (.int tk)] [(.int lf)])) _
  refine XS.iload X4.here hx rfl (hb hby d5_112) rfl ?_
  show Steps p.tables e below (T4.setTop (mkF m 114 #[.val (.ref a), .val (.int ct), .val (.int rx), .val (.int lf), .val (.int ((f ((((ps.toUInt64 >>> ((3 : Int32) &&& 0x3f).toInt64.toUInt64).toInt64).toInt32)).toNatClampNeg) &&& (255 : Int32))), .val (.int ((8 : Int32) - ((ps &&& (7 : Int64)).toInt32))), .val (.int tk)] [(.int tk), (.int lf)])) _
  refine XS.isub X4.here hx rfl (hb hby d5_114) rfl ?_
  show Steps p.tables e below (T4.setTop (mkF m 115 #[.val (.ref a), .val (.int ct), .val (.int rx), .val (.int lf), .val (.int ((f ((((ps.toUInt64 >>> ((3 : Int32) &&& 0x3f).toInt64.toUInt64).toInt64).toInt32)).toNatClampNeg) &&& (255 : Int32))), .val (.int ((8 : Int32) - ((ps &&& (7 : Int64)).toInt32))), .val (.int tk)] [(.int (lf - tk))])) _
  refine XS.istoreN X4.here hx rfl (hb hby d5_115) rfl (l' := #[.val (.ref a), .val (.int ct), .val (.int rx), .val (.int (lf - tk)), .val (.int ((f ((((ps.toUInt64 >>> ((3 : Int32) &&& 0x3f).toInt64.toUInt64).toInt64).toInt32)).toNatClampNeg) &&& (255 : Int32))), .val (.int ((8 : Int32) - ((ps &&& (7 : Int64)).toInt32))), .val (.int tk)]) rfl ?_
  show Steps p.tables e below (T4.setTop (mkF m 116 #[.val (.ref a), .val (.int ct), .val (.int rx), .val (.int (lf - tk)), .val (.int ((f ((((ps.toUInt64 >>> ((3 : Int32) &&& 0x3f).toInt64.toUInt64).toInt64).toInt32)).toNatClampNeg) &&& (255 : Int32))), .val (.int ((8 : Int32) - ((ps &&& (7 : Int64)).toInt32))), .val (.int tk)] [])) _
  refine XS.aloadN X4.here hx rfl (hb hby d5_116) rfl rfl ?_
  show Steps p.tables e below (T4.setTop (mkF m 117 #[.val (.ref a), .val (.int ct), .val (.int rx), .val (.int (lf - tk)), .val (.int ((f ((((ps.toUInt64 >>> ((3 : Int32) &&& 0x3f).toInt64.toUInt64).toInt64).toInt32)).toNatClampNeg) &&& (255 : Int32))), .val (.int ((8 : Int32) - ((ps &&& (7 : Int64)).toInt32))), .val (.int tk)] [(.ref a)])) _
  refine XS.dup X4.here hx rfl (hb hby d5_117) rfl rfl ?_
  show Steps p.tables e below (T4.setTop (mkF m 118 #[.val (.ref a), .val (.int ct), .val (.int rx), .val (.int (lf - tk)), .val (.int ((f ((((ps.toUInt64 >>> ((3 : Int32) &&& 0x3f).toInt64.toUInt64).toInt64).toInt32)).toNatClampNeg) &&& (255 : Int32))), .val (.int ((8 : Int32) - ((ps &&& (7 : Int64)).toInt32))), .val (.int tk)] [(.ref a), (.ref a)])) _
  refine st5 _ ?_
  show Steps p.tables e below (T5.setTop (mkF m 121 #[.val (.ref a), .val (.int ct), .val (.int rx), .val (.int (lf - tk)), .val (.int ((f ((((ps.toUInt64 >>> ((3 : Int32) &&& 0x3f).toInt64.toUInt64).toInt64).toInt32)).toNatClampNeg) &&& (255 : Int32))), .val (.int ((8 : Int32) - ((ps &&& (7 : Int64)).toInt32))), .val (.int tk)] [(.long ps), (.ref a)])) _
  refine XS.iload X5.here hx rfl (hb hby d5_121) rfl ?_
  show Steps p.tables e below (T5.setTop (mkF m 123 #[.val (.ref a), .val (.int ct), .val (.int rx), .val (.int (lf - tk)), .val (.int ((f ((((ps.toUInt64 >>> ((3 : Int32) &&& 0x3f).toInt64.toUInt64).toInt64).toInt32)).toNatClampNeg) &&& (255 : Int32))), .val (.int ((8 : Int32) - ((ps &&& (7 : Int64)).toInt32))), .val (.int tk)] [(.int tk), (.long ps), (.ref a)])) _
  refine XS.i2l X5.here hx rfl (hb hby d5_123) rfl ?_
  show Steps p.tables e below (T5.setTop (mkF m 124 #[.val (.ref a), .val (.int ct), .val (.int rx), .val (.int (lf - tk)), .val (.int ((f ((((ps.toUInt64 >>> ((3 : Int32) &&& 0x3f).toInt64.toUInt64).toInt64).toInt32)).toNatClampNeg) &&& (255 : Int32))), .val (.int ((8 : Int32) - ((ps &&& (7 : Int64)).toInt32))), .val (.int tk)] [(.long (tk.toInt64)), (.long ps), (.ref a)])) _
  refine XS.ladd X5.here hx rfl (hb hby d5_124) rfl ?_
  show Steps p.tables e below (T5.setTop (mkF m 125 #[.val (.ref a), .val (.int ct), .val (.int rx), .val (.int (lf - tk)), .val (.int ((f ((((ps.toUInt64 >>> ((3 : Int32) &&& 0x3f).toInt64.toUInt64).toInt64).toInt32)).toNatClampNeg) &&& (255 : Int32))), .val (.int ((8 : Int32) - ((ps &&& (7 : Int64)).toInt32))), .val (.int tk)] [(.long (ps + (tk.toInt64))), (.ref a)])) _
  refine st6 _ ?_
  show Steps p.tables e below (T6.setTop (mkF m 128 #[.val (.ref a), .val (.int ct), .val (.int rx), .val (.int (lf - tk)), .val (.int ((f ((((ps.toUInt64 >>> ((3 : Int32) &&& 0x3f).toInt64.toUInt64).toInt64).toInt32)).toNatClampNeg) &&& (255 : Int32))), .val (.int ((8 : Int32) - ((ps &&& (7 : Int64)).toInt32))), .val (.int tk)] [])) _
  refine XS.goto X6.here hx rfl (pc0 := 128) (pc' := 46) rfl (hb hby d5_128) (by decide) (by decide) ?_
  show Steps p.tables e below (T6.setTop (mkF m 46 #[.val (.ref a), .val (.int ct), .val (.int rx), .val (.int (lf - tk)), .val (.int ((f ((((ps.toUInt64 >>> ((3 : Int32) &&& 0x3f).toInt64.toUInt64).toInt64).toInt32)).toNatClampNeg) &&& (255 : Int32))), .val (.int ((8 : Int32) - ((ps &&& (7 : Int64)).toInt32))), .val (.int tk)] [])) _
  exact kt
set_option maxRecDepth 65536 in
set_option maxHeartbeats 40000000 in
theorem own_turnI {p : Program} {l : Launch} {e : Env} {s : State} {m : MethodId} {args : Array Value} {below : List Frame} {meth : Method} {c : Code} {T0 : State} {locs : List Loc} {Z : State} {a0 : Array Value} {h0 : Heap} (a : Addr) (ad : Addr) (f : Nat → Int32) (ct : Int32) (re : Int32) (lf : Int32) (ps : Int64) (en : Int64) (i4 : Int32) (i5 : Int32) (i6 : Int32) (X0 : Stand p l e ({ frames := 1, cells := 0, slots := 0, locals := 20 } : Room) s m args below meth c T0 locs 0 0) (hx : p.tables.exec = Jvm.exec) (hZ : Z.Warmed39 s.vm) (hw : ∀ d ∈ tables_1, d.before a0 Z = true) (hby : c.code = prog_2_method_4_code) (hml : c.maxLocals = 7) (hown : s.vm.findClass "com/example/fewbits/fewbits/BitReader" = some m.cls) (e0 : T0.heap = h0) (n0 : Nat) (Z0 : n0 ≤ h0.size) (N0 : Fr n0 locs) (ga : n0 ≤ a) (O0 : own_Br Z h0 a (.ref ad) (.long ps) (.long en)) (A0 : own_AI Z h0 ad .byte (4 : Int32) f) (hlf : (0 : Int32) < lf) (hin : ¬ (((ps.toUInt64 >>> ((3 : Int32) &&& 0x3f).toInt64.toUInt64).toInt64).toInt32) < 0 ∧ (((ps.toUInt64 >>> ((3 : Int32) &&& 0x3f).toInt64.toUInt64).toInt64).toInt32) < (4 : Int32)) :
    ∃ (tk rx i4' : Int32) (T' : State) (h' : Heap) (locs' : List Loc), (own_min ((8 : Int32) - ((ps &&& (7 : Int64)).toInt32)) lf) = tk ∧ Stand p l e ({ frames := 1, cells := 0, slots := 0, locals := 20 } : Room) s m args below meth c T' locs' 0 0 ∧ T'.heap = h' ∧ Fr n0 locs' ∧ Keep h0 h' [a] ∧ own_Br Z h' a (.ref ad) (.long (ps + (tk.toInt64))) (.long en) ∧ own_AI Z h' ad .byte (4 : Int32) f ∧ 
      ∀ target, Steps p.tables e below (T'.setTop (mkF m 46 #[.val (.ref a), .val (.int ct), .val (.int rx), .val (.int (lf - tk)), .val (.int i4'), .val (.int ((8 : Int32) - ((ps &&& (7 : Int64)).toInt32))), .val (.int tk)] [])) target → Steps p.tables e below (T0.setTop (mkF m 46 #[.val (.ref a), .val (.int ct), .val (.int re), .val (.int lf), .val (.int i4), .val (.int i5), .val (.int i6)] [])) target := by
  obtain ⟨T1, X1, e1, st1⟩ := getF X0 hx hZ hown (host := "") (Or.inl (hw _ (List.mem_of_getElem? (i := 19) rfl))) Via.refl e0 O0.2.1 (g := (mkF m 51 #[.val (.ref a), .val (.int ct), .val (.int re), .val (.int lf), .val (.int i4), .val (.int i5), .val (.int i6)] [(.ref a)])) rfl rfl (hb hby d5_51)
  obtain ⟨T2, X2, e2, st2⟩ := getF X1 hx hZ hown (host := "") (Or.inl (hw _ (List.mem_of_getElem? (i := 22) rfl))) Via.refl e1 O0.2.2.1 (g := (mkF m 55 #[.val (.ref a), .val (.int ct), .val (.int re), .val (.int lf), .val (.int i4), .val (.int i5), .val (.int i6)] [(.ref a), (.ref ad)])) rfl rfl (hb hby d5_55)
  obtain ⟨T3, X3, e3, st3⟩ := getF X2 hx hZ hown (host := "") (Or.inl (hw _ (List.mem_of_getElem? (i := 22) rfl))) Via.refl e2 O0.2.2.1 (g := (mkF m 71 #[.val (.ref a), .val (.int ct), .val (.int re), .val (.int lf), .val (.int ((f ((((ps.toUInt64 >>> ((3 : Int32) &&& 0x3f).toInt64.toUInt64).toInt64).toInt32)).toNatClampNeg) &&& (255 : Int32))), .val (.int i5), .val (.int i6)] [(.ref a), (.int (8 : Int32))])) rfl rfl (hb hby d5_71)
  obtain ⟨_, _, ⟨T4, L4, k4, n4⟩, -, X4, ⟨Lc4, hQ4, l4, y4, z4⟩, st4⟩ := Jvm.LawKit.callS X3 hx (y := (⟨"java/lang/Math", "min", "(II)I"⟩ : MethodName)) hown (mvT hZ (hw _ (List.mem_of_getElem? (i := 47) rfl))) (mvT hZ (hw _ (List.mem_of_getElem? (i := 48) rfl))) (mvT hZ (hw _ (List.mem_of_getElem? (i := 49) rfl))) (mvT hZ (hw _ (List.mem_of_getElem? (i := 50) rfl))) (by decide) (backOf (W := 0) (rm5 l Z a0 hw [] ((8 : Int32) - ((ps &&& (7 : Int64)).toInt32)) lf  h0 n0 Z0 ) hZ (hw _ (List.mem_of_getElem? (i := 50) rfl)) (hw _ (List.mem_of_getElem? (i := 49) rfl)) (by decide) (by decide)) (g := (mkF m 85 #[.val (.ref a), .val (.int ct), .val (.int re), .val (.int lf), .val (.int ((f ((((ps.toUInt64 >>> ((3 : Int32) &&& 0x3f).toInt64.toUInt64).toInt64).toInt32)).toNatClampNeg) &&& (255 : Int32))), .val (.int ((8 : Int32) - ((ps &&& (7 : Int64)).toInt32))), .val (.int i6)] [(.int lf), (.int ((8 : Int32) - ((ps &&& (7 : Int64)).toInt32)))])) rfl (by rw [hml]; rfl) (argsL := [(.int ((8 : Int32) - ((ps &&& (7 : Int64)).toInt32))), (.int lf)]) (rest := []) (lenOf pd_3 rfl) rfl (by show 2 * 0 + _ ≤ _; exact Nat.le_of_eq rfl) (hb hby d5_85) (fun _ _ => ⟨rfl, e3, (by decide : 0 + 0 ≤ _), (by decide : 0 + 0 ≤ _)⟩)
  dsimp only [Pt.U, Pt.locs, Pt.cells, Pt.slots] at X4 l4 y4 z4 st4 hQ4
  subst l4 y4 z4
  obtain ⟨rfl, Nq4, e4⟩ := hQ4
  have N4 := Fr.app N0 Nq4
  obtain ⟨tk, h_tk⟩ : ∃ z, (own_min ((8 : Int32) - ((ps &&& (7 : Int64)).toInt32)) lf) = z := ⟨_, rfl⟩
  obtain ⟨rx, h_rx⟩ : ∃ z, ((re <<< (tk &&& 31)) ||| (((((f ((((ps.toUInt64 >>> ((3 : Int32) &&& 0x3f).toInt64.toUInt64).toInt64).toInt32)).toNatClampNeg) &&& (255 : Int32)).toUInt32 >>> ((((8 : Int32) - ((ps &&& (7 : Int64)).toInt32)) - tk) &&& 31).toUInt32).toInt32) &&& (((1 : Int32) <<< (tk &&& 31)) - (1 : Int32)))) = z := ⟨_, rfl⟩
  obtain ⟨T5, X5, e5, st5⟩ := getF X4 hx hZ hown (host := "") (Or.inl (hw _ (List.mem_of_getElem? (i := 22) rfl))) Via.refl e4 O0.2.2.1 (g := (mkF m 118 #[.val (.ref a), .val (.int ct), .val (.int rx), .val (.int (lf - tk)), .val (.int ((f ((((ps.toUInt64 >>> ((3 : Int32) &&& 0x3f).toInt64.toUInt64).toInt64).toInt32)).toNatClampNeg) &&& (255 : Int32))), .val (.int ((8 : Int32) - ((ps &&& (7 : Int64)).toInt32))), .val (.int tk)] [(.ref a), (.ref a)])) rfl rfl (hb hby d5_118)
  obtain ⟨T6, h6, X6, e6, W6, st6⟩ := putF X5 hx hZ hown (host := "") (Or.inl (hw _ (List.mem_of_getElem? (i := 22) rfl))) Via.refl e5 O0.2.2.1 O0.1 (Or.inl (hw _ (List.mem_of_getElem? (i := 23) rfl))) (hw _ (List.mem_of_getElem? (i := 3) rfl)) (ty := .long) (by decide) rfl rfl (g := (mkF m 125 #[.val (.ref a), .val (.int ct), .val (.int rx), .val (.int (lf - tk)), .val (.int ((f ((((ps.toUInt64 >>> ((3 : Int32) &&& 0x3f).toInt64.toUInt64).toInt64).toInt32)).toNatClampNeg) &&& (255 : Int32))), .val (.int ((8 : Int32) - ((ps &&& (7 : Int64)).toInt32))), .val (.int tk)] [(.long (ps + (tk.toInt64))), (.ref a)])) rfl rfl (hb hby d5_125)
  have N6 := Fr.snoc X6 N4 ga
  have K6 : Keep h0 h6 [a] := (Keep.refl h0 [a]).wr W6 (Or.inl (List.mem_of_getElem? (i := 0) rfl))
  have A6_ad := A0.other W6 (own_ne_obj O0.1 (hw _ (List.mem_of_getElem? (i := 3) rfl)) A0).symm
  have O6 := own_Br_set_m_nPosition hw O0 W6
  have Z6 : n0 ≤ h6.size := Nat.le_trans Z0 (Nat.le_of_eq (W6.size).symm)
  refine ⟨tk, rx, ((f ((((ps.toUInt64 >>> ((3 : Int32) &&& 0x3f).toInt64.toUInt64).toInt64).toInt32)).toNatClampNeg) &&& (255 : Int32)), _, _, _, h_tk, X6, e6, N6, K6, O6, A6_ad, fun target kt => ?_⟩
  show Steps p.tables e below (T0.setTop (mkF m 46 #[.val (.ref a), .val (.int ct), .val (.int re), .val (.int lf), .val (.int i4), .val (.int i5), .val (.int i6)] [])) _
  refine XS.iloadN X0.here hx rfl (hb hby d5_46) rfl ?_
  show Steps p.tables e below (T0.setTop (mkF m 47 #[.val (.ref a), .val (.int ct), .val (.int re), .val (.int lf), .val (.int i4), .val (.int i5), .val (.int i6)] [(.int lf)])) _
  refine XS.ifNo X0.here hx rfl (hb hby d5_47) rfl ((if0 _ _).trans (tlt hlf).2.2.2) ?_
  show Steps p.tables e below (T0.setTop (mkF m 50 #[.val (.ref a), .val (.int ct), .val (.int re), .val (.int lf), .val (.int i4), .val (.int i5), .val (.int i6)] [])) _
  refine XS.aloadN X0.here hx rfl (hb hby d5_50) rfl rfl ?_
  show Steps p.tables e below (T0.setTop (mkF m 51 #[.val (.ref a), .val (.int ct), .val (.int re), .val (.int lf), .val (.int i4), .val (.int i5), .val (.int i6)] [(.ref a)])) _
  refine st1 _ ?_
  show Steps p.tables e below (T1.setTop (mkF m 54 #[.val (.ref a), .val (.int ct), .val (.int re), .val (.int lf), .val (.int i4), .val (.int i5), .val (.int i6)] [(.ref ad)])) _
  refine XS.aloadN X1.here hx rfl (hb hby d5_54) rfl rfl ?_
  show Steps p.tables e below (T1.setTop (mkF m 55 #[.val (.ref a), .val (.int ct), .val (.int re), .val (.int lf), .val (.int i4), .val (.int i5), .val (.int i6)] [(.ref a), (.ref ad)])) _
  refine st2 _ ?_
  show Steps p.tables e below (T2.setTop (mkF m 58 #[.val (.ref a), .val (.int ct), .val (.int re), .val (.int lf), .val (.int i4), .val (.int i5), .val (.int i6)] [(.long ps), (.ref ad)])) _
  refine XS.iconst X2.here hx rfl (hb hby d5_58) ?_
  show Steps p.tables e below (T2.setTop (mkF m 59 #[.val (.ref a), .val (.int ct), .val (.int re), .val (.int lf), .val (.int i4), .val (.int i5), .val (.int i6)] [(.int (3 : Int32)), (.long ps), (.ref ad)])) _
  refine XS.lushr X2.here hx rfl (hb hby d5_59) rfl ?_
  show Steps p.tables e below (T2.setTop (mkF m 60 #[.val (.ref a), .val (.int ct), .val (.int re), .val (.int lf), .val (.int i4), .val (.int i5), .val (.int i6)] [(.long ((ps.toUInt64 >>> ((3 : Int32) &&& 0x3f).toInt64.toUInt64).toInt64)), (.ref ad)])) _
  refine XS.l2i X2.here hx rfl (hb hby d5_60) rfl ?_
  show Steps p.tables e below (T2.setTop (mkF m 61 #[.val (.ref a), .val (.int ct), .val (.int re), .val (.int lf), .val (.int i4), .val (.int i5), .val (.int i6)] [(.int (((ps.toUInt64 >>> ((3 : Int32) &&& 0x3f).toInt64.toUInt64).toInt64).toInt32)), (.ref ad)])) _
  refine own_ldB X2 hx hZ e2 A0 (j := (((ps.toUInt64 >>> ((3 : Int32) &&& 0x3f).toInt64.toUInt64).toInt64).toInt32)) hin rfl rfl (hb hby d5_61) ?_
  show Steps p.tables e below (T2.setTop (mkF m 62 #[.val (.ref a), .val (.int ct), .val (.int re), .val (.int lf), .val (.int i4), .val (.int i5), .val (.int i6)] [(.int (f ((((ps.toUInt64 >>> ((3 : Int32) &&& 0x3f).toInt64.toUInt64).toInt64).toInt32)).toNatClampNeg))])) _
  refine XS.sipush X2.here hx rfl (hb hby d5_62) ?_
  show Steps p.tables e below (T2.setTop (mkF m 65 #[.val (.ref a), .val (.int ct), .val (.int re), .val (.int lf), .val (.int i4), .val (.int i5), .val (.int i6)] [(.int (255 : Int32)), (.int (f ((((ps.toUInt64 >>> ((3 : Int32) &&& 0x3f).toInt64.toUInt64).toInt64).toInt32)).toNatClampNeg))])) _
  refine XS.iand X2.here hx rfl (hb hby d5_65) rfl ?_
  show Steps p.tables e below (T2.setTop (mkF m 66 #[.val (.ref a), .val (.int ct), .val (.int re), .val (.int lf), .val (.int i4), .val (.int i5), .val (.int i6)] [(.int ((f ((((ps.toUInt64 >>> ((3 : Int32) &&& 0x3f).toInt64.toUInt64).toInt64).toInt32)).toNatClampNeg) &&& (255 : Int32)))])) _
  refine XS.istore X2.here hx rfl (hb hby d5_66) rfl (l' := #[.val (.ref a), .val (.int ct), .val (.int re), .val (.int lf), .val (.int ((f ((((ps.toUInt64 >>> ((3 : Int32) &&& 0x3f).toInt64.toUInt64).toInt64).toInt32)).toNatClampNeg) &&& (255 : Int32))), .val (.int i5), .val (.int i6)]) rfl ?_
  show Steps p.tables e below (T2.setTop (mkF m 68 #[.val (.ref a), .val (.int ct), .val (.int re), .val (.int lf), .val (.int ((f ((((ps.toUInt64 >>> ((3 : Int32) &&& 0x3f).toInt64.toUInt64).toInt64).toInt32)).toNatClampNeg) &&& (255 : Int32))), .val (.int i5), .val (.int i6)] [])) _
  refine XS.bipush X2.here hx rfl (hb hby d5_68) ?_
  show Steps p.tables e below (T2.setTop (mkF m 70 #[.val (.ref a), .val (.int ct), .val (.int re), .val (.int lf), .val (.int ((f ((((ps.toUInt64 >>> ((3 : Int32) &&& 0x3f).toInt64.toUInt64).toInt64).toInt32)).toNatClampNeg) &&& (255 : Int32))), .val (.int i5), .val (.int i6)] [(.int (8 : Int32))])) _
  refine XS.aloadN X2.here hx rfl (hb hby d5_70) rfl rfl ?_
  show Steps p.tables e below (T2.setTop (mkF m 71 #[.val (.ref a), .val (.int ct), .val (.int re), .val (.int lf), .val (.int ((f ((((ps.toUInt64 >>> ((3 : Int32) &&& 0x3f).toInt64.toUInt64).toInt64).toInt32)).toNatClampNeg) &&& (255 : Int32))), .val (.int i5), .val (.int i6)] [(.ref a), (.int (8 : Int32))])) _
  refine st3 _ ?_
  show Steps p.tables e below (T3.setTop (mkF m 74 #[.val (.ref a), .val (.int ct), .val (.int re), .val (.int lf), .val (.int ((f ((((ps.toUInt64 >>> ((3 : Int32) &&& 0x3f).toInt64.toUInt64).toInt64).toInt32)).toNatClampNeg) &&& (255 : Int32))), .val (.int i5), .val (.int i6)] [(.long ps), (.int (8 : Int32))])) _
  refine X3.ldc2J hx hown (mvT hZ (hw _ (List.mem_of_getElem? (i := 46) rfl))) rfl (hb hby d5_74) ?_
  show Steps p.tables e below (T3.setTop (mkF m 77 #[.val (.ref a), .val (.int ct), .val (.int re), .val (.int lf), .val (.int ((f ((((ps.toUInt64 >>> ((3 : Int32) &&& 0x3f).toInt64.toUInt64).toInt64).toInt32)).toNatClampNeg) &&& (255 : Int32))), .val (.int i5), .val (.int i6)] [(.long (7 : Int64)), (.long ps), (.int (8 : Int32))])) _
  refine XS.land X3.here hx rfl (hb hby d5_77) rfl ?_
  show Steps p.tables e below (T3.setTop (mkF m 78 #[.val (.ref a), .val (.int ct), .val (.int re), .val (.int lf), .val (.int ((f ((((ps.toUInt64 >>> ((3 : Int32) &&& 0x3f).toInt64.toUInt64).toInt64).toInt32)).toNatClampNeg) &&& (255 : Int32))), .val (.int i5), .val (.int i6)] [(.long (ps &&& (7 : Int64))), (.int (8 : Int32))])) _
  refine XS.l2i X3.here hx rfl (hb hby d5_78) rfl ?_
  show Steps p.tables e below (T3.setTop (mkF m 79 #[.val (.ref a), .val (.int ct), .val (.int re), .val (.int lf), .val (.int ((f ((((ps.toUInt64 >>> ((3 : Int32) &&& 0x3f).toInt64.toUInt64).toInt64).toInt32)).toNatClampNeg) &&& (255 : Int32))), .val (.int i5), .val (.int i6)] [(.int ((ps &&& (7 : Int64)).toInt32)), (.int (8 : Int32))])) _
  refine XS.isub X3.here hx rfl (hb hby d5_79) rfl ?_
  show Steps p.tables e below (T3.setTop (mkF m 80 #[.val (.ref a), .val (.int ct), .val (.int re), .val (.int lf), .val (.int ((f ((((ps.toUInt64 >>> ((3 : Int32) &&& 0x3f).toInt64.toUInt64).toInt64).toInt32)).toNatClampNeg) &&& (255 : Int32))), .val (.int i5), .val (.int i6)] [(.int ((8 : Int32) - ((ps &&& (7 : Int64)).toInt32)))])) _
  refine XS.istore X3.here hx rfl (hb hby d5_80) rfl (l' := #[.val (.ref a), .val (.int ct), .val (.int re), .val (.int lf), .val (.int ((f ((((ps.toUInt64 >>> ((3 : Int32) &&& 0x3f).toInt64.toUInt64).toInt64).toInt32)).toNatClampNeg) &&& (255 : Int32))), .val (.int ((8 : Int32) - ((ps &&& (7 : Int64)).toInt32))), .val (.int i6)]) rfl ?_
  show Steps p.tables e below (T3.setTop (mkF m 82 #[.val (.ref a), .val (.int ct), .val (.int re), .val (.int lf), .val (.int ((f ((((ps.toUInt64 >>> ((3 : Int32) &&& 0x3f).toInt64.toUInt64).toInt64).toInt32)).toNatClampNeg) &&& (255 : Int32))), .val (.int ((8 : Int32) - ((ps &&& (7 : Int64)).toInt32))), .val (.int i6)] [])) _
  refine XS.iload X3.here hx rfl (hb hby d5_82) rfl ?_
  show Steps p.tables e below (T3.setTop (mkF m 84 #[.val (.ref a), .val (.int ct), .val (.int re), .val (.int lf), .val (.int ((f ((((ps.toUInt64 >>> ((3 : Int32) &&& 0x3f).toInt64.toUInt64).toInt64).toInt32)).toNatClampNeg) &&& (255 : Int32))), .val (.int ((8 : Int32) - ((ps &&& (7 : Int64)).toInt32))), .val (.int i6)] [(.int ((8 : Int32) - ((ps &&& (7 : Int64)).toInt32)))])) _
  refine XS.iloadN X3.here hx rfl (hb hby d5_84) rfl ?_
  show Steps p.tables e below (T3.setTop (mkF m 85 #[.val (.ref a), .val (.int ct), .val (.int re), .val (.int lf), .val (.int ((f ((((ps.toUInt64 >>> ((3 : Int32) &&& 0x3f).toInt64.toUInt64).toInt64).toInt32)).toNatClampNeg) &&& (255 : Int32))), .val (.int ((8 : Int32) - ((ps &&& (7 : Int64)).toInt32))), .val (.int i6)] [(.int lf), (.int ((8 : Int32) - ((ps &&& (7 : Int64)).toInt32)))])) _
  refine st4 _ ?_
  show Steps p.tables e below (T4.setTop (mkF m 88 #[.val (.ref a), .val (.int ct), .val (.int re), .val (.int lf), .val (.int ((f ((((ps.toUInt64 >>> ((3 : Int32) &&& 0x3f).toInt64.toUInt64).toInt64).toInt32)).toNatClampNeg) &&& (255 : Int32))), .val (.int ((8 : Int32) - ((ps &&& (7 : Int64)).toInt32))), .val (.int i6)] [(.int (own_min ((8 : Int32) - ((ps &&& (7 : Int64)).toInt32)) lf))])) _
  refine XS.istore X4.here hx rfl (hb hby d5_88) rfl (l' := #[.val (.ref a), .val (.int ct), .val (.int re), .val (.int lf), .val (.int ((f ((((ps.toUInt64 >>> ((3 : Int32) &&& 0x3f).toInt64.toUInt64).toInt64).toInt32)).toNatClampNeg) &&& (255 : Int32))), .val (.int ((8 : Int32) - ((ps &&& (7 : Int64)).toInt32))), .val (.int (own_min ((8 : Int32) - ((ps &&& (7 : Int64)).toInt32)) lf))]) rfl ?_
  rw [h_tk]
  show Steps p.tables e below (T4.setTop (mkF m 90 #[.val (.ref a), .val (.int ct), .val (.int re), .val (.int lf), .val (.int ((f ((((ps.toUInt64 >>> ((3 : Int32) &&& 0x3f).toInt64.toUInt64).toInt64).toInt32)).toNatClampNeg) &&& (255 : Int32))), .val (.int ((8 : Int32) - ((ps &&& (7 : Int64)).toInt32))), .val (.int tk)] [])) _
  refine XS.iloadN X4.here hx rfl (hb hby d5_90) rfl ?_
  show Steps p.tables e below (T4.setTop (mkF m 91 #[.val (.ref a), .val (.int ct), .val (.int re), .val (.int lf), .val (.int ((f ((((ps.toUInt64 >>> ((3 : Int32) &&& 0x3f).toInt64.toUInt64).toInt64).toInt32)).toNatClampNeg) &&& (255 : Int32))), .val (.int ((8 : Int32) - ((ps &&& (7 : Int64)).toInt32))), .val (.int tk)] [(.int re)])) _
  refine XS.iload X4.here hx rfl (hb hby d5_91) rfl ?_
  show Steps p.tables e below (T4.setTop (mkF m 93 #[.val (.ref a), .val (.int ct), .val (.int re), .val (.int lf), .val (.int ((f ((((ps.toUInt64 >>> ((3 : Int32) &&& 0x3f).toInt64.toUInt64).toInt64).toInt32)).toNatClampNeg) &&& (255 : Int32))), .val (.int ((8 : Int32) - ((ps &&& (7 : Int64)).toInt32))), .val (.int tk)] [(.int tk), (.int re)])) _
  refine XS.ishl X4.here hx rfl (hb hby d5_93) rfl ?_
  show Steps p.tables e below (T4.setTop (mkF m 94 #[.val (.ref a), .val (.int ct), .val (.int re), .val (.int lf), .val (.int ((f ((((ps.toUInt64 >>> ((3 : Int32) &&& 0x3f).toInt64.toUInt64).toInt64).toInt32)).toNatClampNeg) &&& (255 : Int32))), .val (.int ((8 : Int32) - ((ps &&& (7 : Int64)).toInt32))), .val (.int tk)] [(.int (re <<< (tk &&& 31)))])) _
  refine XS.iload X4.here hx rfl (hb hby d5_94) rfl ?_
  show Steps p.tables e below (T4.setTop (mkF m 96 #[.val (.ref a), .val (.int ct), .val (.int re), .val (.int lf), .val (.int ((f ((((ps.toUInt64 >>> ((3 : Int32) &&& 0x3f).toInt64.toUInt64).toInt64).toInt32)).toNatClampNeg) &&& (255 : Int32))), .val (.int ((8 : Int32) - ((ps &&& (7 : Int64)).toInt32))), .val (.int tk)] [(.int ((f ((((ps.toUInt64 >>> ((3 : Int32) &&& 0x3f).toInt64.toUInt64).toInt64).toInt32)).toNatClampNeg) &&& (255 : Int32))), (.int (re <<< (tk &&& 31)))])) _
  refine XS.iload X4.here hx rfl (hb hby d5_96) rfl ?_
  show Steps p.tables e below (T4.setTop (mkF m 98 #[.val (.ref a), .val (.int ct), .val (.int re), .val (.int lf), .val (.int ((f ((((ps.toUInt64 >>> ((3 : Int32) &&& 0x3f).toInt64.toUInt64).toInt64).toInt32)).toNatClampNeg) &&& (255 : Int32))), .val (.int ((8 : Int32) - ((ps &&& (7 : Int64)).toInt32))), .val (.int tk)] [(.int ((8 : Int32) - ((ps &&& (7 : Int64)).toInt32))), (.int ((f ((((ps.toUInt64 >>> ((3 : Int32) &&& 0x3f).toInt64.toUInt64).toInt64).toInt32)).toNatClampNeg) &&& (255 : Int32))), (.int (re <<< (tk &&& 31)))])) _
  refine XS.iload X4.here hx rfl (hb hby d5_98) rfl ?_
  show Steps p.tables e below (T4.setTop (mkF m 100 #[.val (.ref a), .val (.int ct), .val (.int re), .val (.int lf), .val (.int ((f ((((ps.toUInt64 >>> ((3 : Int32) &&& 0x3f).toInt64.toUInt64).toInt64).toInt32)).toNatClampNeg) &&& (255 : Int32))), .val (.int ((8 : Int32) - ((ps &&& (7 : Int64)).toInt32))), .val (.int tk)] [(.int tk), (.int ((8 : Int32) - ((ps &&& (7 : Int64)).toInt32))), (.int ((f ((((ps.toUInt64 >>> ((3 : Int32) &&& 0x3f).toInt64.toUInt64).toInt64).toInt32)).toNatClampNeg) &&& (255 : Int32))), (.int (re <<< (tk &&& 31)))])) _
  refine XS.isub X4.here hx rfl (hb hby d5_100) rfl ?_
  show Steps p.tables e below (T4.setTop (mkF m 101 #[.val (.ref a), .val (.int ct), .val (.int re), .val (.int lf), .val (.int ((f ((((ps.toUInt64 >>> ((3 : Int32) &&& 0x3f).toInt64.toUInt64).toInt64).toInt32)).toNatClampNeg) &&& (255 : Int32))), .val (.int ((8 : Int32) - ((ps &&& (7 : Int64)).toInt32))), .val (.int tk)] [(.int (((8 : Int32) - ((ps &&& (7 : Int64)).toInt32)) - tk)), (.int ((f ((((ps.toUInt64 >>> ((3 : Int32) &&& 0x3f).toInt64.toUInt64).toInt64).toInt32)).toNatClampNeg) &&& (255 : Int32))), (.int (re <<< (tk &&& 31)))])) _
  refine XS.iushr X4.here hx rfl (hb hby d5_101) rfl ?_
  show Steps p.tables e below (T4.setTop (mkF m 102 #[.val (.ref a), .val (.int ct), .val (.int re), .val (.int lf), .val (.int ((f ((((ps.toUInt64 >>> ((3 : Int32) &&& 0x3f).toInt64.toUInt64).toInt64).toInt32)).toNatClampNeg) &&& (255 : Int32))), .val (.int ((8 : Int32) - ((ps &&& (7 : Int64)).toInt32))), .val (.int tk)] [(.int ((((f ((((ps.toUInt64 >>> ((3 : Int32) &&& 0x3f).toInt64.toUInt64).toInt64).toInt32)).toNatClampNeg) &&& (255 : Int32)).toUInt32 >>> ((((8 : Int32) - ((ps &&& (7 : Int64)).toInt32)) - tk) &&& 31).toUInt32).toInt32)), (.int (re <<< (tk &&& 31)))])) _
  refine XS.iconst X4.here hx rfl (hb hby d5_102) ?_
  show Steps p.tables e below (T4.setTop (mkF m 103 #[.val (.ref a), .val (.int ct), .val (.int re), .val (.int lf), .val (.int ((f ((((ps.toUInt64 >>> ((3 : Int32) &&& 0x3f).toInt64.toUInt64).toInt64).toInt32)).toNatClampNeg) &&& (255 : Int32))), .val (.int ((8 : Int32) - ((ps &&& (7 : Int64)).toInt32))), .val (.int tk)] [(.int (1 : Int32)), (.int ((((f ((((ps.toUInt64 >>> ((3 : Int32) &&& 0x3f).toInt64.toUInt64).toInt64).toInt32)).toNatClampNeg) &&& (255 : Int32)).toUInt32 >>> ((((8 : Int32) - ((ps &&& (7 : Int64)).toInt32)) - tk) &&& 31).toUInt32).toInt32)), (.int (re <<< (tk &&& 31)))])) _
  refine XS.iload X4.here hx rfl (hb hby d5_103) rfl ?_
  show Steps p.tables e below (T4.setTop (mkF m 105 #[.val (.ref a), .val (.int ct), .val (.int re), .val (.int lf), .val (.int ((f ((((ps.toUInt64 >>> ((3 : Int32) &&& 0x3f).toInt64.toUInt64).toInt64).toInt32)).toNatClampNeg) &&& (255 : Int32))), .val (.int ((8 : Int32) - ((ps &&& (7 : Int64)).toInt32))), .val (.int tk)] [(.int tk), (.int (1 : Int32)), (.int ((((f ((((ps.toUInt64 >>> ((3 : Int32) &&& 0x3f).toInt64.toUInt64).toInt64).toInt32)).toNatClampNeg) &&& (255 : Int32)).toUInt32 >>> ((((8 : Int32) - ((ps &&& (7 : Int64)).toInt32)) - tk) &&& 31).toUInt32).toInt32)), (.int (re <<< (tk &&& 31)))])) _
  refine XS.ishl X4.here hx rfl (hb hby d5_105) rfl ?_
  show Steps p.tables e below (T4.setTop (mkF m 106 #[.val (.ref a), .val (.int ct), .val (.int re), .val (.int lf), .val (.int ((f ((((ps.toUInt64 >>> ((3 : Int32) &&& 0x3f).toInt64.toUInt64).toInt64).toInt32)).toNatClampNeg) &&& (255 : Int32))), .val (.int ((8 : Int32) - ((ps &&& (7 : Int64)).toInt32))), .val (.int tk)] [(.int ((1 : Int32) <<< (tk &&& 31))), (.int ((((f ((((ps.toUInt64 >>> ((3 : Int32) &&& 0x3f).toInt64.toUInt64).toInt64).toInt32)).toNatClampNeg) &&& (255 : Int32)).toUInt32 >>> ((((8 : Int32) - ((ps &&& (7 : Int64)).toInt32)) - tk) &&& 31).toUInt32).toInt32)), (.int (re <<< (tk &&& 31)))])) _
  refine XS.iconst X4.here hx rfl (hb hby d5_106) ?_
  show Steps p.tables e below (T4.setTop (mkF m 107 #[.val (.ref a), .val (.int ct), .val (.int re), .val (.int lf), .val (.int ((f ((((ps.toUInt64 >>> ((3 : Int32) &&& 0x3f).toInt64.toUInt64).toInt64).toInt32)).toNatClampNeg) &&& (255 : Int32))), .val (.int ((8 : Int32) - ((ps &&& (7 : Int64)).toInt32))), .val (.int tk)] [(.int (1 : Int32)), (.int ((1 : Int32) <<< (tk &&& 31))), (.int ((((f ((((ps.toUInt64 >>> ((3 : Int32) &&& 0x3f).toInt64.toUInt64).toInt64).toInt32)).toNatClampNeg) &&& (255 : Int32)).toUInt32 >>> ((((8 : Int32) - ((ps &&& (7 : Int64)).toInt32)) - tk) &&& 31).toUInt32).toInt32)), (.int (re <<< (tk &&& 31)))])) _
  refine XS.isub X4.here hx rfl (hb hby d5_107) rfl ?_
  show Steps p.tables e below (T4.setTop (mkF m 108 #[.val (.ref a), .val (.int ct), .val (.int re), .val (.int lf), .val (.int ((f ((((ps.toUInt64 >>> ((3 : Int32) &&& 0x3f).toInt64.toUInt64).toInt64).toInt32)).toNatClampNeg) &&& (255 : Int32))), .val (.int ((8 : Int32) - ((ps &&& (7 : Int64)).toInt32))), .val (.int tk)] [(.int (((1 : Int32) <<< (tk &&& 31)) - (1 : Int32))), (.int ((((f ((((ps.toUInt64 >>> ((3 : Int32) &&& 0x3f).toInt64.toUInt64).toInt64).toInt32)).toNatClampNeg) &&& (255 : Int32)).toUInt32 >>> ((((8 : Int32) - ((ps &&& (7 : Int64)).toInt32)) - tk) &&& 31).toUInt32).toInt32)), (.int (re <<< (tk &&& 31)))])) _
  refine XS.iand X4.here hx rfl (hb hby d5_108) rfl ?_
  show Steps p.tables e below (T4.setTop (mkF m 109 #[.val (.ref a), .val (.int ct), .val (.int re), .val (.int lf), .val (.int ((f ((((ps.toUInt64 >>> ((3 : Int32) &&& 0x3f).toInt64.toUInt64).toInt64).toInt32)).toNatClampNeg) &&& (255 : Int32))), .val (.int ((8 : Int32) - ((ps &&& (7 : Int64)).toInt32))), .val (.int tk)] [(.int (((((f ((((ps.toUInt64 >>> ((3 : Int32) &&& 0x3f).toInt64.toUInt64).toInt64).toInt32)).toNatClampNeg) &&& (255 : Int32)).toUInt32 >>> ((((8 : Int32) - ((ps &&& (7 : Int64)).toInt32)) - tk) &&& 31).toUInt32).toInt32) &&& (((1 : Int32) <<< (tk &&& 31)) - (1 : Int32)))), (.int (re <<< (tk &&& 31)))])) _
  refine XS.ior X4.here hx rfl (hb hby d5_109) rfl ?_
  show Steps p.tables e below (T4.setTop (mkF m 110 #[.val (.ref a), .val (.int ct), .val (.int re), .val (.int lf), .val (.int ((f ((((ps.toUInt64 >>> ((3 : Int32) &&& 0x3f).toInt64.toUInt64).toInt64).toInt32)).toNatClampNeg) &&& (255 : Int32))), .val (.int ((8 : Int32) - ((ps &&& (7 : Int64)).toInt32))), .val (.int tk)] [(.int ((re <<< (tk &&& 31)) ||| (((((f ((((ps.toUInt64 >>> ((3 : Int32) &&& 0x3f).toInt64.toUInt64).toInt64).toInt32)).toNatClampNeg) &&& (255 : Int32)).toUInt32 >>> ((((8 : Int32) - ((ps &&& (7 : Int64)).toInt32)) - tk) &&& 31).toUInt32).toInt32) &&& (((1 : Int32) <<< (tk &&& 31)) - (1 : Int32)))))])) _
  refine XS.istoreN X4.here hx rfl (hb hby d5_110) rfl (l' := #[.val (.ref a), .val (.int ct), .val (.int ((re <<< (tk &&& 31)) ||| (((((f ((((ps.toUInt64 >>> ((3 : Int32) &&& 0x3f).toInt64.toUInt64).toInt64).toInt32)).toNatClampNeg) &&& (255 : Int32)).toUInt32 >>> ((((8 : Int32) - ((ps &&& (7 : Int64)).toInt32)) - tk) &&& 31).toUInt32).toInt32) &&& (((1 : Int32) <<< (tk &&& 31)) - (1 : Int32))))), .val (.int lf), .val (.int ((f ((((ps.toUInt64 >>> ((3 : Int32) &&& 0x3f).toInt64.toUInt64).toInt64).toInt32)).toNatClampNeg) &&& (255 : Int32))), .val (.int ((8 : Int32) - ((ps &&& (7 : Int64)).toInt32))), .val (.int tk)]) rfl ?_
  rw [h_rx]
  show Steps p.tables e below (T4.setTop (mkF m 111 #[.val (.ref a), .val (.int ct), .val (.int rx), .val (.int lf), .val (.int ((f ((((ps.toUInt64 >>> ((3 : Int32) &&& 0x3f).toInt64.toUInt64).toInt64).toInt32)).toNatClampNeg) &&& (255 : Int32))), .val (.int ((8 : Int32) - ((ps &&& (7 : Int64)).toInt32))), .val (.int tk)] [])) _
  refine XS.iloadN X4.here hx rfl (hb hby d5_111) rfl ?_
  show Steps p.tables e below (T4.setTop (mkF m 112 #[.val (.ref a), .val (.int ct), .val (.int rx), .val (.int lf), .val (.int ((f ((((ps.toUInt64 >>> ((3 : Int32) &&& 0x3f).toInt64.toUInt64).toInt64).toInt32)).toNatClampNeg) &&& (255 : Int32))), .val (.int ((8 : Int32) - ((ps &&& (7 : Int64)).toInt32))), .val (.int tk)] [(.int lf)])) _
  refine XS.iload X4.here hx rfl (hb hby d5_112) rfl ?_
  show Steps p.tables e below (T4.setTop (mkF m 114 #[.val (.ref a), .val (.int ct), .val (.int rx), .val (.int lf), .val (.int ((f ((((ps.toUInt64 >>> ((3 : Int32) &&& 0x3f).toInt64.toUInt64).toInt64).toInt32)).toNatClampNeg) &&& (255 : Int32))), .val (.int ((8 : Int32) - ((ps &&& (7 : Int64)).toInt32))), .val (.int tk)] [(.int tk), (.int lf)])) _
  refine XS.isub X4.here hx rfl (hb hby d5_114) rfl ?_
  show Steps p.tables e below (T4.setTop (mkF m 115 #[.val (.ref a), .val (.int ct), .val (.int rx), .val (.int lf), .val (.int ((f ((((ps.toUInt64 >>> ((3 : Int32) &&& 0x3f).toInt64.toUInt64).toInt64).toInt32)).toNatClampNeg) &&& (255 : Int32))), .val (.int ((8 : Int32) - ((ps &&& (7 : Int64)).toInt32))), .val (.int tk)] [(.int (lf - tk))])) _
  refine XS.istoreN X4.here hx rfl (hb hby d5_115) rfl (l' := #[.val (.ref a), .val (.int ct), .val (.int rx), .val (.int (lf - tk)), .val (.int ((f ((((ps.toUInt64 >>> ((3 : Int32) &&& 0x3f).toInt64.toUInt64).toInt64).toInt32)).toNatClampNeg) &&& (255 : Int32))), .val (.int ((8 : Int32) - ((ps &&& (7 : Int64)).toInt32))), .val (.int tk)]) rfl ?_
  show Steps p.tables e below (T4.setTop (mkF m 116 #[.val (.ref a), .val (.int ct), .val (.int rx), .val (.int (lf - tk)), .val (.int ((f ((((ps.toUInt64 >>> ((3 : Int32) &&& 0x3f).toInt64.toUInt64).toInt64).toInt32)).toNatClampNeg) &&& (255 : Int32))), .val (.int ((8 : Int32) - ((ps &&& (7 : Int64)).toInt32))), .val (.int tk)] [])) _
  refine XS.aloadN X4.here hx rfl (hb hby d5_116) rfl rfl ?_
  show Steps p.tables e below (T4.setTop (mkF m 117 #[.val (.ref a), .val (.int ct), .val (.int rx), .val (.int (lf - tk)), .val (.int ((f ((((ps.toUInt64 >>> ((3 : Int32) &&& 0x3f).toInt64.toUInt64).toInt64).toInt32)).toNatClampNeg) &&& (255 : Int32))), .val (.int ((8 : Int32) - ((ps &&& (7 : Int64)).toInt32))), .val (.int tk)] [(.ref a)])) _
  refine XS.dup X4.here hx rfl (hb hby d5_117) rfl rfl ?_
  show Steps p.tables e below (T4.setTop (mkF m 118 #[.val (.ref a), .val (.int ct), .val (.int rx), .val (.int (lf - tk)), .val (.int ((f ((((ps.toUInt64 >>> ((3 : Int32) &&& 0x3f).toInt64.toUInt64).toInt64).toInt32)).toNatClampNeg) &&& (255 : Int32))), .val (.int ((8 : Int32) - ((ps &&& (7 : Int64)).toInt32))), .val (.int tk)] [(.ref a), (.ref a)])) _
  refine st5 _ ?_
  show Steps p.tables e below (T5.setTop (mkF m 121 #[.val (.ref a), .val (.int ct), .val (.int rx), .val (.int (lf - tk)), .val (.int ((f ((((ps.toUInt64 >>> ((3 : Int32) &&& 0x3f).toInt64.toUInt64).toInt64).toInt32)).toNatClampNeg) &&& (255 : Int32))), .val (.int ((8 : Int32) - ((ps &&& (7 : Int64)).toInt32))), .val (.int tk)] [(.long ps), (.ref a)])) _
  refine XS.iload X5.here hx rfl (hb hby d5_121) rfl ?_
  show Steps p.tables e below (T5.setTop (mkF m 123 #[.val (.ref a), .val (.int ct), .val (.int rx), .val (.int (lf - tk)), .val (.int ((f ((((ps.toUInt64 >>> ((3 : Int32) &&& 0x3f).toInt64.toUInt64).toInt64).toInt32)).toNatClampNeg) &&& (255 : Int32))), .val (.int ((8 : Int32) - ((ps &&& (7 : Int64)).toInt32))), .val (.int tk)] [(.int tk), (.long ps), (.ref a)])) _
  refine XS.i2l X5.here hx rfl (hb hby d5_123) rfl ?_
  show Steps p.tables e below (T5.setTop (mkF m 124 #[.val (.ref a), .val (.int ct), .val (.int rx), .val (.int (lf - tk)), .val (.int ((f ((((ps.toUInt64 >>> ((3 : Int32) &&& 0x3f).toInt64.toUInt64).toInt64).toInt32)).toNatClampNeg) &&& (255 : Int32))), .val (.int ((8 : Int32) - ((ps &&& (7 : Int64)).toInt32))), .val (.int tk)] [(.long (tk.toInt64)), (.long ps), (.ref a)])) _
  refine XS.ladd X5.here hx rfl (hb hby d5_124) rfl ?_
  show Steps p.tables e below (T5.setTop (mkF m 125 #[.val (.ref a), .val (.int ct), .val (.int rx), .val (.int (lf - tk)), .val (.int ((f ((((ps.toUInt64 >>> ((3 : Int32) &&& 0x3f).toInt64.toUInt64).toInt64).toInt32)).toNatClampNeg) &&& (255 : Int32))), .val (.int ((8 : Int32) - ((ps &&& (7 : Int64)).toInt32))), .val (.int tk)] [(.long (ps + (tk.toInt64))), (.ref a)])) _
  refine st6 _ ?_
  show Steps p.tables e below (T6.setTop (mkF m 128 #[.val (.ref a), .val (.int ct), .val (.int rx), .val (.int (lf - tk)), .val (.int ((f ((((ps.toUInt64 >>> ((3 : Int32) &&& 0x3f).toInt64.toUInt64).toInt64).toInt32)).toNatClampNeg) &&& (255 : Int32))), .val (.int ((8 : Int32) - ((ps &&& (7 : Int64)).toInt32))), .val (.int tk)] [])) _
  refine XS.goto X6.here hx rfl (pc0 := 128) (pc' := 46) rfl (hb hby d5_128) (by decide) (by decide) ?_
  show Steps p.tables e below (T6.setTop (mkF m 46 #[.val (.ref a), .val (.int ct), .val (.int rx), .val (.int (lf - tk)), .val (.int ((f ((((ps.toUInt64 >>> ((3 : Int32) &&& 0x3f).toInt64.toUInt64).toInt64).toInt32)).toNatClampNeg) &&& (255 : Int32))), .val (.int ((8 : Int32) - ((ps &&& (7 : Int64)).toInt32))), .val (.int tk)] [])) _
  exact kt
/-- the numbers of a turn -/
theorem own_turnN {ps : Int64} {lf tk : Int32} {P Lf : Int} (hp : ps.toInt = P) (hl : lf.toInt = Lf) (h0 : 0 ≤ P) (h1 : P + Lf ≤ 32) (h2 : 0 < Lf) (ht : (own_min ((8 : Int32) - ((ps &&& (7 : Int64)).toInt32)) lf) = tk) :
    ∃ t : Int, 1 ≤ t ∧ t ≤ Lf ∧ tk.toInt = t ∧ (lf - tk).toInt = Lf - t ∧ (ps + (tk.toInt64)).toInt = P + t := by
  have m7 : (ps &&& (7 : Int64)).toInt = P % 8 := by rw [c_maskL ps (7 : Int64) 3 (by decide) (by decide), hp]; rfl
  have m7' := own_l2i m7 (by omega)
  have av := own_i_sub (show (8 : Int32).toInt = 8 from rfl) m7' (by omega)
  obtain ⟨t, et, h3, h4⟩ : ∃ t : Int, tk.toInt = t ∧ 1 ≤ t ∧ t ≤ Lf ∧ t ≤ 8 := by
    rw [← ht]; unfold own_min
    split
    · rename_i q; rw [own_i_lt hl av] at q; exact ⟨Lf, hl, by omega⟩
    · rename_i q; rw [own_i_lt hl av] at q; exact ⟨_, av, by omega⟩
  exact ⟨t, h3, h4.1, et, own_i_sub hl et (by omega), own_l_add hp (own_i2l et) (by omega)⟩
theorem own_turnX {ps : Int64} {P : Int} (hp : ps.toInt = P) (h0 : 0 ≤ P) (h1 : P < 32) : ¬ (((ps.toUInt64 >>> ((3 : Int32) &&& 0x3f).toInt64.toUInt64).toInt64).toInt32) < 0 ∧ (((ps.toUInt64 >>> ((3 : Int32) &&& 0x3f).toInt64.toUInt64).toInt64).toInt32) < (4 : Int32) := by
  have m1 := c_lushr ps (3 : Int32) 3 (by decide) (by decide)
  have m2 : ((((ps.toUInt64 >>> ((3 : Int32) &&& 0x3f).toInt64.toUInt64).toInt64).toInt32)).toInt = P / 8 := own_l2i (by rw [m1, hp]; show P % 18446744073709551616 / (8 : Int) = _; omega) (by omega)
  exact own_ix (by omega) (by rw [m2]; show _ < (4 : Int); omega)
set_option maxHeartbeats 4000000 in
theorem own_loopI {p : Program} {l : Launch} {e : Env} {s : State} {m : MethodId} {args : Array Value} {below : List Frame} {meth : Method} {c : Code} {Z : State} {a0 : Array Value} (a ad : Addr) (f : Nat → Int32) (en : Int64) (ct : Int32) (hx : p.tables.exec = Jvm.exec) (hZ : Z.Warmed39 s.vm) (hw : ∀ d ∈ tables_1, d.before a0 Z = true) (hby : c.code = prog_2_method_4_code) (hml : c.maxLocals = 7) (hown : s.vm.findClass "com/example/fewbits/fewbits/BitReader" = some m.cls) (n0 : Nat) (ga : n0 ≤ a) :
    ∀ (k : Nat) (T0 : State) (locs : List Loc) (h0 : Heap) (ps : Int64) (re lf i4 i5 i6 : Int32) (P Lf : Int), ps.toInt = P → lf.toInt = Lf → 0 ≤ P → 0 ≤ Lf → P + Lf ≤ 32 → Lf ≤ k →
      Stand p l e ({ frames := 1, cells := 0, slots := 0, locals := 20 } : Room) s m args below meth c T0 locs 0 0 → T0.heap = h0 → n0 ≤ h0.size → Fr n0 locs → own_Br Z h0 a (.ref ad) (.long ps) (.long en) → own_AI Z h0 ad .byte (4 : Int32) f →
      ∃ (re' lf' j4 j5 j6 : Int32) (ps' : Int64) (T' : State) (h' : Heap) (locs' : List Loc), ps'.toInt = P + Lf ∧ Stand p l e ({ frames := 1, cells := 0, slots := 0, locals := 20 } : Room) s m args below meth c T' locs' 0 0 ∧ T'.heap = h' ∧ Fr n0 locs' ∧ Keep h0 h' [a] ∧ own_Br Z h' a (.ref ad) (.long ps') (.long en) ∧ own_AI Z h' ad .byte (4 : Int32) f ∧
        ∀ target, Steps p.tables e below (T'.setTop (mkF m 131 #[.val (.ref a), .val (.int ct), .val (.int re'), .val (.int lf'), .val (.int j4), .val (.int j5), .val (.int j6)] [])) target → Steps p.tables e below (T0.setTop (mkF m 46 #[.val (.ref a), .val (.int ct), .val (.int re), .val (.int lf), .val (.int i4), .val (.int i5), .val (.int i6)] [])) target := by
  intro k
  induction k with
  | zero =>
    intro T0 locs h0 ps re lf i4 i5 i6 P Lf hp hl hP hL hs hk X0 e0 Z0 N0 O0 A0
    have q : ¬ (0 : Int32) < lf := by rw [own_i_lt (show (0 : Int32).toInt = 0 from rfl) hl]; omega
    refine ⟨re, lf, i4, i5, i6, ps, T0, h0, locs, by omega, X0, e0, N0, Keep.refl _ _, O0, A0, fun target kt => ?_⟩
    show Steps p.tables e below (T0.setTop (mkF m 46 #[.val (.ref a), .val (.int ct), .val (.int re), .val (.int lf), .val (.int i4), .val (.int i5), .val (.int i6)] [])) _
    refine XS.iloadN X0.here hx rfl (hb hby d5_46) rfl ?_
    refine XS.ifYes X0.here hx rfl (pc0 := 47) (pc' := 131) rfl (hb hby d5_47) rfl ((if0 _ _).trans (flt q).2.2.2) (by decide) (by decide) ?_
    exact kt
  | succ k ih =>
    intro T0 locs h0 ps re lf i4 i5 i6 P Lf hp hl hP hL hs hk X0 e0 Z0 N0 O0 A0
    by_cases q : (0 : Int32) < lf
    · have q' : 0 < Lf := (own_i_lt (show (0 : Int32).toInt = 0 from rfl) hl).mp q
      obtain ⟨tk, rx, i4', T1, h1, L1, htk, X1, e1, N1, K1, O1, A1, st1⟩ := own_turnI a ad f ct re lf ps en i4 i5 i6 X0 hx hZ hw hby hml hown e0 n0 Z0 N0 ga O0 A0 q (own_turnX hp hP (by omega))
      obtain ⟨t, t1, t2, et, el, ep⟩ := own_turnN hp hl hP hs q' htk
      obtain ⟨re', lf', j4, j5, j6, ps', T2, h2, L2, ep2, X2, e2, N2, K2, O2, A2, st2⟩ := ih T1 L1 h1 _ rx _ i4' _ tk (P + t) (Lf - t) ep el (by omega) (by omega) (by omega) (by omega) X1 e1 (Nat.le_trans Z0 K1.1) N1 O1 A1
      exact ⟨re', lf', j4, j5, j6, ps', T2, h2, L2, by omega, X2, e2, N2, K1.trans K2 (fun x hx => Or.inl hx), O2, A2, fun target kt => st1 _ (st2 _ kt)⟩
    · have q' : ¬ 0 < Lf := fun z => q ((own_i_lt (show (0 : Int32).toInt = 0 from rfl) hl).mpr z)
      refine ⟨re, lf, i4, i5, i6, ps, T0, h0, locs, by omega, X0, e0, N0, Keep.refl _ _, O0, A0, fun target kt => ?_⟩
      show Steps p.tables e below (T0.setTop (mkF m 46 #[.val (.ref a), .val (.int ct), .val (.int re), .val (.int lf), .val (.int i4), .val (.int i5), .val (.int i6)] [])) _
      refine XS.iloadN X0.here hx rfl (hb hby d5_46) rfl ?_
      refine XS.ifYes X0.here hx rfl (pc0 := 47) (pc' := 131) rfl (hb hby d5_47) rfl ((if0 _ _).trans (flt q).2.2.2) (by decide) (by decide) ?_
      exact kt
set_option maxHeartbeats 4000000 in
theorem own_loop {p : Program} {l : Launch} {e : Env} {s : State} {m : MethodId} {args : Array Value} {below : List Frame} {meth : Method} {c : Code} {Z : State} {a0 : Array Value} (a ad : Addr) (f : Nat → Int32) (en : Int64) (ct : Int32) (hx : p.tables.exec = Jvm.exec) (hZ : Z.Warmed39 s.vm) (hw : ∀ d ∈ tables_1, d.before a0 Z = true) (hby : c.code = prog_2_method_4_code) (hml : c.maxLocals = 7) (hown : s.vm.findClass "com/example/fewbits/fewbits/BitReader" = some m.cls) (n0 : Nat) (ga : n0 ≤ a)
    (T0 : State) (locs : List Loc) (h0 : Heap) (ps : Int64) (re lf : Int32) (P Lf : Int) (hp : ps.toInt = P) (hl : lf.toInt = Lf) (hP : 0 ≤ P) (hL : 0 ≤ Lf) (hs : P + Lf ≤ 32) (X0 : Stand p l e ({ frames := 1, cells := 0, slots := 0, locals := 20 } : Room) s m args below meth c T0 locs 0 0) (e0 : T0.heap = h0) (Z0 : n0 ≤ h0.size) (N0 : Fr n0 locs) (O0 : own_Br Z h0 a (.ref ad) (.long ps) (.long en)) (A0 : own_AI Z h0 ad .byte (4 : Int32) f) :
      ∃ (re' lf' : Int32) (s4 s5 s6 : Slot) (ps' : Int64) (T' : State) (h' : Heap) (locs' : List Loc), ps'.toInt = P + Lf ∧ Stand p l e ({ frames := 1, cells := 0, slots := 0, locals := 20 } : Room) s m args below meth c T' locs' 0 0 ∧ T'.heap = h' ∧ Fr n0 locs' ∧ Keep h0 h' [a] ∧ own_Br Z h' a (.ref ad) (.long ps') (.long en) ∧ own_AI Z h' ad .byte (4 : Int32) f ∧
        ∀ target, Steps p.tables e below (T'.setTop (mkF m 131 #[.val (.ref a), .val (.int ct), .val (.int re'), .val (.int lf'), s4, s5, s6] [])) target → Steps p.tables e below (T0.setTop (mkF m 46 #[.val (.ref a), .val (.int ct), .val (.int re), .val (.int lf), .unset, .unset, .unset] [])) target := by
  by_cases q : (0 : Int32) < lf
  · have q' : 0 < Lf := (own_i_lt (show (0 : Int32).toInt = 0 from rfl) hl).mp q
    obtain ⟨tk, rx, i4', T1, h1, L1, htk, X1, e1, N1, K1, O1, A1, st1⟩ := own_turnU a ad f ct re lf ps en X0 hx hZ hw hby hml hown e0 n0 Z0 N0 ga O0 A0 q (own_turnX hp hP (by omega))
    obtain ⟨t, t1, t2, et, el, ep⟩ := own_turnN hp hl hP hs q' htk
    obtain ⟨re', lf', j4, j5, j6, ps', T2, h2, L2, ep2, X2, e2, N2, K2, O2, A2, st2⟩ := own_loopI a ad f en ct hx hZ hw hby hml hown n0 ga 32 T1 L1 h1 _ rx _ i4' _ tk (P + t) (Lf - t) ep el (by omega) (by omega) (by omega) (by omega) X1 e1 (Nat.le_trans Z0 K1.1) N1 O1 A1
    exact ⟨re', lf', _, _, _, ps', T2, h2, L2, by omega, X2, e2, N2, K1.trans K2 (fun x hx => Or.inl hx), O2, A2, fun target kt => st1 _ (st2 _ kt)⟩
  · have q' : ¬ 0 < Lf := fun z => q ((own_i_lt (show (0 : Int32).toInt = 0 from rfl) hl).mpr z)
    refine ⟨re, lf, .unset, .unset, .unset, ps, T0, h0, locs, by omega, X0, e0, N0, Keep.refl _ _, O0, A0, fun target kt => ?_⟩
    show Steps p.tables e below (T0.setTop (mkF m 46 #[.val (.ref a), .val (.int ct), .val (.int re), .val (.int lf), .unset, .unset, .unset] [])) _
    refine XS.iloadN X0.here hx rfl (hb hby d5_46) rfl ?_
    refine XS.ifYes X0.here hx rfl (pc0 := 47) (pc' := 131) rfl (hb hby d5_47) rfl ((if0 _ _).trans (flt q).2.2.2) (by decide) (by decide) ?_
    exact kt
def Q6 (Z : State) (a : Addr) (ct : Int32) (ad : Addr) (f : Nat → Int32) (ps : Int64) (en : Int64) (P : Int) (Ct : Int) (h0 : Heap) (n0 : Nat) (v : Option Value) (h : Heap) (L : List Loc) : Prop := (∃ r, v = some (.int r)) ∧ Fr n0 L ∧ Keep h0 h [a] ∧ (∃ ps' : Int64, ps'.toInt = P + Ct ∧ own_Br Z h a (.ref ad) (.long ps') (.long en)) ∧ own_AI Z h ad .byte (4 : Int32) f
set_option maxRecDepth 65536 in
set_option maxHeartbeats 40000000 in
theorem rm6 (l : Launch) (Z : State) (a0 : Array Value) (hw : ∀ d ∈ tables_1, d.before a0 Z = true) (ws : List Jvm.Cond) (a : Addr) (ct : Int32) (ad : Addr) (f : Nat → Int32) (ps : Int64) (en : Int64) (P : Int) (Ct : Int) (h0 : Heap) (n0 : Nat) (Z0 : n0 ≤ h0.size) (ga : n0 ≤ a) (O0 : own_Br Z h0 a (.ref ad) (.long ps) (.long en)) (A0 : own_AI Z h0 ad .byte (4 : Int32) f) (hP : ps.toInt = P) (hCt : ct.toInt = Ct) (hP0 : 0 ≤ P) (hC0 : 0 ≤ Ct) (hPC : P + Ct ≤ 32) (hq1 : ¬ ct < (0 : Int32)) (hq2 : ¬ (32 : Int32) < ct) (hq3 : ¬ (en - ps) < (ct.toInt64)) :
    MetFree l (⟨"com/example/fewbits/fewbits/BitReader", "readBits", "(I)I"⟩ : MethodName) (head1 (Jvm.Cond.code (⟨"com/example/fewbits/fewbits/BitReader", "readBits", "(I)I"⟩ : MethodName) prog_2_method_4_code 7 (some .int) :: ws) ({ frames := 1, cells := 0, slots := 0, locals := 20 } : Room)) (fun a_ U_ => a_ = #[(.ref a), (.int ct)] ∧ Z.Warmed39 U_.vm ∧ U_.heap = h0) (fun _ _ _ _ _ => True) (fun _ U_ o_ U' => ∃ v_ L_, o_ = .returned v_ ∧ (Q6 Z a ct ad f ps en P Ct h0 n0 v_ U'.heap L_) ∧ FrameEnd U_ o_ U' L_ ({ frames := 1, cells := 0, slots := 0, locals := 20 } : Room).cells ({ frames := 1, cells := 0, slots := 0, locals := 20 } : Room).slots) := by
  refine MetFree.of_bodySF (plainFor_of_name pn_5) hisR ?_
  intro p e s m args below meth c s₁ Bd hml0 hP hK
  obtain ⟨rfl, hZ, hh⟩ := hP
  have hx := Bd.exec
  have hby := Bd.bytes
  have hml : c.maxLocals = 7 := hml0
  have hown : s.vm.findClass "com/example/fewbits/fewbits/BitReader" = some m.cls := findClass_of_methodNamed Bd.named
  have hnm := (name_of_methodNamed Bd.named Bd.method).1
  have X0 : Stand p l e ({ frames := 1, cells := 0, slots := 0, locals := 20 } : Room) s m #[(.ref a), (.int ct)] below meth c s₁ [] 0 0 := Stand.of_body Bd
  have e0 : s₁.heap = h0 := by rw [← hh, Bd.state]; rfl
  have N0 := Fr.nil n0
  have pre0 : ∀ t, Steps p.tables e below (s₁.setTop (mkF m 0 #[.val (.ref a), .val (.int ct), .unset, .unset, .unset, .unset, .unset] [])) t → Steps p.tables e below (s₁.setTop (entryFrame m #[(.ref a), (.int ct)] 7)) t := fun t k => castTop (ef_5 m a ct) k
  obtain ⟨_, _, ⟨T1, L1, k1, n1⟩, -, X1, ⟨Lc1, hQ1, l1, y1, z1⟩, st1⟩ := Jvm.LawKit.callS X0 hx (y := (⟨"com/example/fewbits/fewbits/BitWriter", "checkBitCount", "(I)V"⟩ : MethodName)) hown (mvT hZ (hw _ (List.mem_of_getElem? (i := 31) rfl))) (mvT hZ (hw _ (List.mem_of_getElem? (i := 32) rfl))) (mvT hZ (hw _ (List.mem_of_getElem? (i := 33) rfl))) (mvT hZ (hw _ (List.mem_of_getElem? (i := 34) rfl))) (by decide) (backOf (W := 0) (rm4 l Z a0 hw [] ct  h0 n0 Z0 hq1 hq2) hZ (hw _ (List.mem_of_getElem? (i := 34) rfl)) (hw _ (List.mem_of_getElem? (i := 33) rfl)) (by decide) (by decide)) (g := (mkF m 1 #[.val (.ref a), .val (.int ct), .unset, .unset, .unset, .unset, .unset] [(.int ct)])) rfl (by rw [hml]; rfl) (argsL := [(.int ct)]) (rest := []) (lenOf pd_2 rfl) rfl (by show 2 * 0 + _ ≤ _; exact Nat.le_of_eq rfl) (hb hby d5_1) (fun _ _ => ⟨rfl, e0, (by decide : 0 + 0 ≤ _), (by decide : 0 + 0 ≤ _)⟩)
  dsimp only [Pt.U, Pt.locs, Pt.cells, Pt.slots] at X1 l1 y1 z1 st1 hQ1
  subst l1 y1 z1
  obtain ⟨rfl, Nq1, e1⟩ := hQ1
  have N1 := Fr.app N0 Nq1
  obtain ⟨T2, X2, e2, st2⟩ := getF X1 hx hZ hown (host := "") (Or.inl (hw _ (List.mem_of_getElem? (i := 24) rfl))) Via.refl e1 O0.2.2.2 (g := (mkF m 7 #[.val (.ref a), .val (.int ct), .unset, .unset, .unset, .unset, .unset] [(.ref a), (.long (ct.toInt64))])) rfl rfl (hb hby d5_7)
  obtain ⟨T3, X3, e3, st3⟩ := getF X2 hx hZ hown (host := "") (Or.inl (hw _ (List.mem_of_getElem? (i := 22) rfl))) Via.refl e2 O0.2.2.1 (g := (mkF m 11 #[.val (.ref a), .val (.int ct), .unset, .unset, .unset, .unset, .unset] [(.ref a), (.long en), (.long (ct.toInt64))])) rfl rfl (hb hby d5_11)
  obtain ⟨re', lf', s4, s5, s6, ps', TL, hL, LL, epL, XL, eL, NL, KL, OL, AL, stL⟩ := own_loop a ad f en ct hx hZ hw hby hml hown n0 ga T3 _ _ ps _ _ P Ct hP hCt hP0 hC0 hPC X3 e3 Z0 N1 O0 A0
  obtain ⟨fs, hr, hrun, hended, hW, hsame⟩ := XL.leave (v := some (.int re')) (fun h => by rw [Bd.returns] at h; cases h)
  refine ⟨_, _, pre0 _ ?_, hrun, hended, _, _, rfl, ⟨⟨_, rfl⟩, NL, (by show Keep h0 TL.heap [a]; rw [eL]; exact KL), ⟨ps', epL, (by show own_Br Z TL.heap a (.ref ad) (.long ps') (.long en); rw [eL]; exact OL)⟩, (by show own_AI Z TL.heap ad .byte (4 : Int32) f; rw [eL]; exact AL)⟩, ⟨_, rfl⟩, hW, hsame.mono (by decide) (by decide)⟩
  show Steps p.tables e below (s₁.setTop (mkF m 0 #[.val (.ref a), .val (.int ct), .unset, .unset, .unset, .unset, .unset] [])) _
  refine XS.iloadN X0.here hx rfl (hb hby d5_0) rfl ?_
  show Steps p.tables e below (s₁.setTop (mkF m 1 #[.val (.ref a), .val (.int ct), .unset, .unset, .unset, .unset, .unset] [(.int ct)])) _
  refine st1 _ ?_
  show Steps p.tables e below (T1.setTop (mkF m 4 #[.val (.ref a), .val (.int ct), .unset, .unset, .unset, .unset, .unset] [])) _
  refine XS.iloadN X1.here hx rfl (hb hby d5_4) rfl ?_
  show Steps p.tables e below (T1.setTop (mkF m 5 #[.val (.ref a), .val (.int ct), .unset, .unset, .unset, .unset, .unset] [(.int ct)])) _
  refine XS.i2l X1.here hx rfl (hb hby d5_5) rfl ?_
  show Steps p.tables e below (T1.setTop (mkF m 6 #[.val (.ref a), .val (.int ct), .unset, .unset, .unset, .unset, .unset] [(.long (ct.toInt64))])) _
  refine XS.aloadN X1.here hx rfl (hb hby d5_6) rfl rfl ?_
  show Steps p.tables e below (T1.setTop (mkF m 7 #[.val (.ref a), .val (.int ct), .unset, .unset, .unset, .unset, .unset] [(.ref a), (.long (ct.toInt64))])) _
  refine st2 _ ?_
  show Steps p.tables e below (T2.setTop (mkF m 10 #[.val (.ref a), .val (.int ct), .unset, .unset, .unset, .unset, .unset] [(.long en), (.long (ct.toInt64))])) _
  refine XS.aloadN X2.here hx rfl (hb hby d5_10) rfl rfl ?_
  show Steps p.tables e below (T2.setTop (mkF m 11 #[.val (.ref a), .val (.int ct), .unset, .unset, .unset, .unset, .unset] [(.ref a), (.long en), (.long (ct.toInt64))])) _
  refine st3 _ ?_
  show Steps p.tables e below (T3.setTop (mkF m 14 #[.val (.ref a), .val (.int ct), .unset, .unset, .unset, .unset, .unset] [(.long ps), (.long en), (.long (ct.toInt64))])) _
  refine XS.lsub X3.here hx rfl (hb hby d5_14) rfl ?_
  show Steps p.tables e below (T3.setTop (mkF m 15 #[.val (.ref a), .val (.int ct), .unset, .unset, .unset, .unset, .unset] [(.long (en - ps)), (.long (ct.toInt64))])) _
  refine XS.lcmp X3.here hx rfl (hb hby d5_15) rfl ?_
  show Steps p.tables e below (T3.setTop (mkF m 16 #[.val (.ref a), .val (.int ct), .unset, .unset, .unset, .unset, .unset] [(.int (lcmpW (ct.toInt64) (en - ps)))])) _
  refine XS.ifYes X3.here hx rfl (pc0 := 16) (pc' := 42) rfl (hb hby d5_16) rfl ((if0 _ _).trans (flt (fun q => hq3 ((lw_gt (ct.toInt64) (en - ps)).mp q))).2.2.2) (by decide) (by decide) ?_
  show Steps p.tables e below (T3.setTop (mkF m 42 #[.val (.ref a), .val (.int ct), .unset, .unset, .unset, .unset, .unset] [])) _
  refine XS.iconst X3.here hx rfl (hb hby d5_42) ?_
  show Steps p.tables e below (T3.setTop (mkF m 43 #[.val (.ref a), .val (.int ct), .unset, .unset, .unset, .unset, .unset] [(.int (0 : Int32))])) _
  refine XS.istoreN X3.here hx rfl (hb hby d5_43) rfl (l' := #[.val (.ref a), .val (.int ct), .val (.int (0 : Int32)), .unset, .unset, .unset, .unset]) rfl ?_
  show Steps p.tables e below (T3.setTop (mkF m 44 #[.val (.ref a), .val (.int ct), .val (.int (0 : Int32)), .unset, .unset, .unset, .unset] [])) _
  refine XS.iloadN X3.here hx rfl (hb hby d5_44) rfl ?_
  show Steps p.tables e below (T3.setTop (mkF m 45 #[.val (.ref a), .val (.int ct), .val (.int (0 : Int32)), .unset, .unset, .unset, .unset] [(.int ct)])) _
  refine XS.istoreN X3.here hx rfl (hb hby d5_45) rfl (l' := #[.val (.ref a), .val (.int ct), .val (.int (0 : Int32)), .val (.int ct), .unset, .unset, .unset]) rfl ?_
  show Steps p.tables e below (T3.setTop (mkF m 46 #[.val (.ref a), .val (.int ct), .val (.int (0 : Int32)), .val (.int ct), .unset, .unset, .unset] [])) _
  refine stL _ ?_
  show Steps p.tables e below (TL.setTop (mkF m 131 #[.val (.ref a), .val (.int ct), .val (.int re'), .val (.int lf'), s4, s5, s6] [])) _
  refine XS.iloadN XL.here hx rfl (hb hby d5_131) rfl ?_
  show Steps p.tables e below (TL.setTop (mkF m 132 #[.val (.ref a), .val (.int ct), .val (.int re'), .val (.int lf'), s4, s5, s6] [(.int re')])) _
  exact own_retI XL hx Bd.returns (hb hby d5_132) hr
theorem d7_0 : decode prog_2_method_5_code 0 = .ok (.aload_n 0, 1) := by decide +kernel
theorem d7_1 : decode prog_2_method_5_code 1 = .ok (.getfield 30, 3) := by decide +kernel
theorem d7_4 : decode prog_2_method_5_code 4 = .ok (.aload_n 0, 1) := by decide +kernel
theorem d7_5 : decode prog_2_method_5_code 5 = .ok (.getfield 26, 3) := by decide +kernel
theorem d7_8 : decode prog_2_method_5_code 8 = .ok (.lsub, 1) := by decide +kernel
theorem d7_9 : decode prog_2_method_5_code 9 = .ok (.lreturn, 1) := by decide +kernel
theorem pn_7 : plainName "com/example/fewbits/fewbits/BitReader" = true := by first | (simp [plainName, overriddenIn]; done) | decide +kernel
theorem ef_7 (m : MethodId) (x0 : Addr) : entryFrame m #[(.ref x0)] 1 = mkF m 0 #[.val (.ref x0)] [] := by first | (simp [entryFrame, mkF, argsToLocals, Value.category]; done) | rfl
def Q7 (Z : State) (a : Addr) (ad : Addr) (ps : Int64) (en : Int64) (h0 : Heap) (n0 : Nat) (v : Option Value) (h : Heap) (L : List Loc) : Prop := v = some (.long (en - ps)) ∧ Fr n0 L ∧ h = h0
set_option maxRecDepth 65536 in
set_option maxHeartbeats 40000000 in
theorem rm7 (l : Launch) (Z : State) (a0 : Array Value) (hw : ∀ d ∈ tables_1, d.before a0 Z = true) (ws : List Jvm.Cond) (a : Addr) (ad : Addr) (ps : Int64) (en : Int64) (h0 : Heap) (n0 : Nat) (Z0 : n0 ≤ h0.size) (O0 : own_Br Z h0 a (.ref ad) (.long ps) (.long en)) :
    MetFree l (⟨"com/example/fewbits/fewbits/BitReader", "getBitsLeft", "()J"⟩ : MethodName) (head1 (Jvm.Cond.code (⟨"com/example/fewbits/fewbits/BitReader", "getBitsLeft", "()J"⟩ : MethodName) prog_2_method_5_code 1 (some .long) :: ws) ({ frames := 0, cells := 0, slots := 0, locals := 0 } : Room)) (fun a_ U_ => a_ = #[(.ref a)] ∧ Z.Warmed39 U_.vm ∧ U_.heap = h0) (fun _ _ _ _ _ => True) (fun _ U_ o_ U' => ∃ v_ L_, o_ = .returned v_ ∧ (Q7 Z a ad ps en h0 n0 v_ U'.heap L_) ∧ FrameEnd U_ o_ U' L_ ({ frames := 0, cells := 0, slots := 0, locals := 0 } : Room).cells ({ frames := 0, cells := 0, slots := 0, locals := 0 } : Room).slots) := by
  refine MetFree.of_bodySF (plainFor_of_name pn_7) hisR ?_
  intro p e s m args below meth c s₁ Bd hml0 hP hK
  obtain ⟨rfl, hZ, hh⟩ := hP
  have hx := Bd.exec
  have hby := Bd.bytes
  have hml : c.maxLocals = 1 := hml0
  have hown : s.vm.findClass "com/example/fewbits/fewbits/BitReader" = some m.cls := findClass_of_methodNamed Bd.named
  have hnm := (name_of_methodNamed Bd.named Bd.method).1
  have X0 : Stand p l e ({ frames := 0, cells := 0, slots := 0, locals := 0 } : Room) s m #[(.ref a)] below meth c s₁ [] 0 0 := Stand.of_body Bd
  have e0 : s₁.heap = h0 := by rw [← hh, Bd.state]; rfl
  have N0 := Fr.nil n0
  have pre0 : ∀ t, Steps p.tables e below (s₁.setTop (mkF m 0 #[.val (.ref a)] [])) t → Steps p.tables e below (s₁.setTop (entryFrame m #[(.ref a)] 1)) t := fun t k => castTop (ef_7 m a) k
  obtain ⟨T1, X1, e1, st1⟩ := getF X0 hx hZ hown (host := "") (Or.inl (hw _ (List.mem_of_getElem? (i := 24) rfl))) Via.refl e0 O0.2.2.2 (g := (mkF m 1 #[.val (.ref a)] [(.ref a)])) rfl rfl (hb hby d7_1)
  obtain ⟨T2, X2, e2, st2⟩ := getF X1 hx hZ hown (host := "") (Or.inl (hw _ (List.mem_of_getElem? (i := 22) rfl))) Via.refl e1 O0.2.2.1 (g := (mkF m 5 #[.val (.ref a)] [(.ref a), (.long en)])) rfl rfl (hb hby d7_5)
  obtain ⟨fs, hr, hrun, hended, hW, hsame⟩ := X2.leave (v := some (.long (en - ps))) (fun h => by rw [Bd.returns] at h; cases h)
  refine ⟨_, _, pre0 _ ?_, hrun, hended, _, _, rfl, ⟨rfl, N0, e2⟩, ⟨_, rfl⟩, hW, hsame.mono (by decide) (by decide)⟩
  show Steps p.tables e below (s₁.setTop (mkF m 0 #[.val (.ref a)] [])) _
  refine XS.aloadN X0.here hx rfl (hb hby d7_0) rfl rfl ?_
  show Steps p.tables e below (s₁.setTop (mkF m 1 #[.val (.ref a)] [(.ref a)])) _
  refine st1 _ ?_
  show Steps p.tables e below (T1.setTop (mkF m 4 #[.val (.ref a)] [(.long en)])) _
  refine XS.aloadN X1.here hx rfl (hb hby d7_4) rfl rfl ?_
  show Steps p.tables e below (T1.setTop (mkF m 5 #[.val (.ref a)] [(.ref a), (.long en)])) _
  refine st2 _ ?_
  show Steps p.tables e below (T2.setTop (mkF m 8 #[.val (.ref a)] [(.long ps), (.long en)])) _
  refine XS.lsub X2.here hx rfl (hb hby d7_8) rfl ?_
  show Steps p.tables e below (T2.setTop (mkF m 9 #[.val (.ref a)] [(.long (en - ps))])) _
  exact own_retJ X2 hx Bd.returns (hb hby d7_9) hr
theorem d8_0 : decode prog_2_method_6_code 0 = .ok (.aload_n 0, 1) := by decide +kernel
theorem d8_1 : decode prog_2_method_6_code 1 = .ok (.getfield 30, 3) := by decide +kernel
theorem d8_4 : decode prog_2_method_6_code 4 = .ok (.aload_n 0, 1) := by decide +kernel
theorem d8_5 : decode prog_2_method_6_code 5 = .ok (.getfield 26, 3) := by decide +kernel
theorem d8_8 : decode prog_2_method_6_code 8 = .ok (.lsub, 1) := by decide +kernel
theorem d8_9 : decode prog_2_method_6_code 9 = .ok (.lstore_n 1, 1) := by decide +kernel
theorem d8_10 : decode prog_2_method_6_code 10 = .ok (.lload_n 1, 1) := by decide +kernel
theorem d8_11 : decode prog_2_method_6_code 11 = .ok (.lconst 0, 1) := by decide +kernel
theorem d8_12 : decode prog_2_method_6_code 12 = .ok (.lcmp, 1) := by decide +kernel
theorem d8_13 : decode prog_2_method_6_code 13 = .ok (.ifCond .ne 5, 3) := by decide +kernel
theorem d8_16 : decode prog_2_method_6_code 16 = .ok (.iconst 1, 1) := by decide +kernel
theorem d8_17 : decode prog_2_method_6_code 17 = .ok (.ireturn, 1) := by decide +kernel
theorem d8_18 : decode prog_2_method_6_code 18 = .ok (.lload_n 1, 1) := by decide +kernel
theorem d8_19 : decode prog_2_method_6_code 19 = .ok (.ldc2_w 24, 3) := by decide +kernel
theorem d8_22 : decode prog_2_method_6_code 22 = .ok (.lcmp, 1) := by decide +kernel
theorem d8_23 : decode prog_2_method_6_code 23 = .ok (.ifCond .ge 36, 3) := by decide +kernel
theorem d8_26 : decode prog_2_method_6_code 26 = .ok (.aload_n 0, 1) := by decide +kernel
theorem d8_27 : decode prog_2_method_6_code 27 = .ok (.getfield 18, 3) := by decide +kernel
theorem d8_30 : decode prog_2_method_6_code 30 = .ok (.aload_n 0, 1) := by decide +kernel
theorem d8_31 : decode prog_2_method_6_code 31 = .ok (.getfield 26, 3) := by decide +kernel
theorem d8_34 : decode prog_2_method_6_code 34 = .ok (.iconst 3, 1) := by decide +kernel
theorem d8_35 : decode prog_2_method_6_code 35 = .ok (.lushr, 1) := by decide +kernel
theorem d8_36 : decode prog_2_method_6_code 36 = .ok (.l2i, 1) := by decide +kernel
theorem d8_37 : decode prog_2_method_6_code 37 = .ok (.baload, 1) := by decide +kernel
theorem d8_38 : decode prog_2_method_6_code 38 = .ok (.sipush 255, 3) := by decide +kernel
theorem d8_41 : decode prog_2_method_6_code 41 = .ok (.aload_n 0, 1) := by decide +kernel
theorem d8_42 : decode prog_2_method_6_code 42 = .ok (.getfield 26, 3) := by decide +kernel
theorem d8_45 : decode prog_2_method_6_code 45 = .ok (.ldc2_w 40, 3) := by decide +kernel
theorem d8_48 : decode prog_2_method_6_code 48 = .ok (.land, 1) := by decide +kernel
theorem d8_49 : decode prog_2_method_6_code 49 = .ok (.l2i, 1) := by decide +kernel
theorem d8_50 : decode prog_2_method_6_code 50 = .ok (.iushr, 1) := by decide +kernel
theorem d8_51 : decode prog_2_method_6_code 51 = .ok (.iand, 1) := by decide +kernel
theorem d8_52 : decode prog_2_method_6_code 52 = .ok (.ifCond .ne 7, 3) := by decide +kernel
theorem d8_55 : decode prog_2_method_6_code 55 = .ok (.iconst 1, 1) := by decide +kernel
theorem d8_56 : decode prog_2_method_6_code 56 = .ok (.goto 4, 3) := by decide +kernel
theorem d8_59 : decode prog_2_method_6_code 59 = .ok (.iconst 0, 1) := by decide +kernel
theorem d8_60 : decode prog_2_method_6_code 60 = .ok (.ireturn, 1) := by decide +kernel
theorem pn_8 : plainName "com/example/fewbits/fewbits/BitReader" = true := by first | (simp [plainName, overriddenIn]; done) | decide +kernel
theorem ef_8 (m : MethodId) (x0 : Addr) : entryFrame m #[(.ref x0)] 3 = mkF m 0 #[.val (.ref x0), .unset, .unset] [] := by first | (simp [entryFrame, mkF, argsToLocals, Value.category]; done) | rfl
def Q8a (Z : State) (a : Addr) (ad : Addr) (f : Nat → Int32) (ps : Int64) (en : Int64) (h0 : Heap) (n0 : Nat) (v : Option Value) (h : Heap) (L : List Loc) : Prop := v = some (.int (1 : Int32)) ∧ Fr n0 L ∧ h = h0
set_option maxRecDepth 65536 in
set_option maxHeartbeats 40000000 in
theorem rm8a (l : Launch) (Z : State) (a0 : Array Value) (hw : ∀ d ∈ tables_1, d.before a0 Z = true) (ws : List Jvm.Cond) (a : Addr) (ad : Addr) (f : Nat → Int32) (ps : Int64) (en : Int64) (h0 : Heap) (n0 : Nat) (Z0 : n0 ≤ h0.size) (O0 : own_Br Z h0 a (.ref ad) (.long ps) (.long en)) (A0 : own_AI Z h0 ad .byte (4 : Int32) f) (hz : (en - ps) = (0 : Int64)) :
    MetFree l (⟨"com/example/fewbits/fewbits/BitReader", "onlyPaddingLeft", "()Z"⟩ : MethodName) (head1 (Jvm.Cond.code (⟨"com/example/fewbits/fewbits/BitReader", "onlyPaddingLeft", "()Z"⟩ : MethodName) prog_2_method_6_code 3 (some .boolean) :: ws) ({ frames := 0, cells := 0, slots := 0, locals := 0 } : Room)) (fun a_ U_ => a_ = #[(.ref a)] ∧ Z.Warmed39 U_.vm ∧ U_.heap = h0) (fun _ _ _ _ _ => True) (fun _ U_ o_ U' => ∃ v_ L_, o_ = .returned v_ ∧ (Q8a Z a ad f ps en h0 n0 v_ U'.heap L_) ∧ FrameEnd U_ o_ U' L_ ({ frames := 0, cells := 0, slots := 0, locals := 0 } : Room).cells ({ frames := 0, cells := 0, slots := 0, locals := 0 } : Room).slots) := by
  refine MetFree.of_bodySF (plainFor_of_name pn_8) hisR ?_
  intro p e s m args below meth c s₁ Bd hml0 hP hK
  obtain ⟨rfl, hZ, hh⟩ := hP
  have hx := Bd.exec
  have hby := Bd.bytes
  have hml : c.maxLocals = 3 := hml0
  have hown : s.vm.findClass "com/example/fewbits/fewbits/BitReader" = some m.cls := findClass_of_methodNamed Bd.named
  have hnm := (name_of_methodNamed Bd.named Bd.method).1
  have X0 : Stand p l e ({ frames := 0, cells := 0, slots := 0, locals := 0 } : Room) s m #[(.ref a)] below meth c s₁ [] 0 0 := Stand.of_body Bd
  have e0 : s₁.heap = h0 := by rw [← hh, Bd.state]; rfl
  have N0 := Fr.nil n0
  have pre0 : ∀ t, Steps p.tables e below (s₁.setTop (mkF m 0 #[.val (.ref a), .unset, .unset] [])) t → Steps p.tables e below (s₁.setTop (entryFrame m #[(.ref a)] 3)) t := fun t k => castTop (ef_8 m a) k
  obtain ⟨T1, X1, e1, st1⟩ := getF X0 hx hZ hown (host := "") (Or.inl (hw _ (List.mem_of_getElem? (i := 24) rfl))) Via.refl e0 O0.2.2.2 (g := (mkF m 1 #[.val (.ref a), .unset, .unset] [(.ref a)])) rfl rfl (hb hby d8_1)
  obtain ⟨T2, X2, e2, st2⟩ := getF X1 hx hZ hown (host := "") (Or.inl (hw _ (List.mem_of_getElem? (i := 22) rfl))) Via.refl e1 O0.2.2.1 (g := (mkF m 5 #[.val (.ref a), .unset, .unset] [(.ref a), (.long en)])) rfl rfl (hb hby d8_5)
  obtain ⟨fs, hr, hrun, hended, hW, hsame⟩ := X2.leave (v := some (.int (1 : Int32))) (fun h => by rw [Bd.returns] at h; cases h)
  refine ⟨_, _, pre0 _ ?_, hrun, hended, _, _, rfl, ⟨rfl, N0, e2⟩, ⟨_, rfl⟩, hW, hsame.mono (by decide) (by decide)⟩
  show Steps p.tables e below (s₁.setTop (mkF m 0 #[.val (.ref a), .unset, .unset] [])) _
  refine XS.aloadN X0.here hx rfl (hb hby d8_0) rfl rfl ?_
  show Steps p.tables e below (s₁.setTop (mkF m 1 #[.val (.ref a), .unset, .unset] [(.ref a)])) _
  refine st1 _ ?_
  show Steps p.tables e below (T1.setTop (mkF m 4 #[.val (.ref a), .unset, .unset] [(.long en)])) _
  refine XS.aloadN X1.here hx rfl (hb hby d8_4) rfl rfl ?_
  show Steps p.tables e below (T1.setTop (mkF m 5 #[.val (.ref a), .unset, .unset] [(.ref a), (.long en)])) _
  refine st2 _ ?_
  show Steps p.tables e below (T2.setTop (mkF m 8 #[.val (.ref a), .unset, .unset] [(.long ps), (.long en)])) _
  refine XS.lsub X2.here hx rfl (hb hby d8_8) rfl ?_
  show Steps p.tables e below (T2.setTop (mkF m 9 #[.val (.ref a), .unset, .unset] [(.long (en - ps))])) _
  refine XS.lstoreN X2.here hx rfl (hb hby d8_9) rfl (l' := #[.val (.ref a), .val (.long (en - ps)), .second]) rfl ?_
  show Steps p.tables e below (T2.setTop (mkF m 10 #[.val (.ref a), .val (.long (en - ps)), .second] [])) _
  refine XS.lloadN X2.here hx rfl (hb hby d8_10) rfl ?_
  show Steps p.tables e below (T2.setTop (mkF m 11 #[.val (.ref a), .val (.long (en - ps)), .second] [(.long (en - ps))])) _
  refine XS.lconst X2.here hx rfl (hb hby d8_11) ?_
  show Steps p.tables e below (T2.setTop (mkF m 12 #[.val (.ref a), .val (.long (en - ps)), .second] [(.long (0 : Int64)), (.long (en - ps))])) _
  refine XS.lcmp X2.here hx rfl (hb hby d8_12) rfl ?_
  show Steps p.tables e below (T2.setTop (mkF m 13 #[.val (.ref a), .val (.long (en - ps)), .second] [(.int (lcmpW (en - ps) (0 : Int64)))])) _
  refine XS.ifNo X2.here hx rfl (hb hby d8_13) rfl ((if0 _ _).trans (teq ((lw_eq (en - ps) (0 : Int64)).mpr hz)).2) ?_
  show Steps p.tables e below (T2.setTop (mkF m 16 #[.val (.ref a), .val (.long (en - ps)), .second] [])) _
  refine XS.iconst X2.here hx rfl (hb hby d8_16) ?_
  show Steps p.tables e below (T2.setTop (mkF m 17 #[.val (.ref a), .val (.long (en - ps)), .second] [(.int (1 : Int32))])) _
  exact retN X2 hx (t := .boolean) Bd.returns (by simp) (hb hby d8_17) hr
def Q8b (Z : State) (a : Addr) (ad : Addr) (f : Nat → Int32) (ps : Int64) (en : Int64) (h0 : Heap) (n0 : Nat) (v : Option Value) (h : Heap) (L : List Loc) : Prop := v = some (.int (0 : Int32)) ∧ Fr n0 L ∧ h = h0
set_option maxRecDepth 65536 in
set_option maxHeartbeats 40000000 in
theorem rm8b (l : Launch) (Z : State) (a0 : Array Value) (hw : ∀ d ∈ tables_1, d.before a0 Z = true) (ws : List Jvm.Cond) (a : Addr) (ad : Addr) (f : Nat → Int32) (ps : Int64) (en : Int64) (h0 : Heap) (n0 : Nat) (Z0 : n0 ≤ h0.size) (O0 : own_Br Z h0 a (.ref ad) (.long ps) (.long en)) (A0 : own_AI Z h0 ad .byte (4 : Int32) f) (hz : ¬ (en - ps) = (0 : Int64)) (h8 : ¬ (en - ps) < (8 : Int64)) :
    MetFree l (⟨"com/example/fewbits/fewbits/BitReader", "onlyPaddingLeft", "()Z"⟩ : MethodName) (head1 (Jvm.Cond.code (⟨"com/example/fewbits/fewbits/BitReader", "onlyPaddingLeft", "()Z"⟩ : MethodName) prog_2_method_6_code 3 (some .boolean) :: ws) ({ frames := 0, cells := 0, slots := 0, locals := 0 } : Room)) (fun a_ U_ => a_ = #[(.ref a)] ∧ Z.Warmed39 U_.vm ∧ U_.heap = h0) (fun _ _ _ _ _ => True) (fun _ U_ o_ U' => ∃ v_ L_, o_ = .returned v_ ∧ (Q8b Z a ad f ps en h0 n0 v_ U'.heap L_) ∧ FrameEnd U_ o_ U' L_ ({ frames := 0, cells := 0, slots := 0, locals := 0 } : Room).cells ({ frames := 0, cells := 0, slots := 0, locals := 0 } : Room).slots) := by
  refine MetFree.of_bodySF (plainFor_of_name pn_8) hisR ?_
  intro p e s m args below meth c s₁ Bd hml0 hP hK
  obtain ⟨rfl, hZ, hh⟩ := hP
  have hx := Bd.exec
  have hby := Bd.bytes
  have hml : c.maxLocals = 3 := hml0
  have hown : s.vm.findClass "com/example/fewbits/fewbits/BitReader" = some m.cls := findClass_of_methodNamed Bd.named
  have hnm := (name_of_methodNamed Bd.named Bd.method).1
  have X0 : Stand p l e ({ frames := 0, cells := 0, slots := 0, locals := 0 } : Room) s m #[(.ref a)] below meth c s₁ [] 0 0 := Stand.of_body Bd
  have e0 : s₁.heap = h0 := by rw [← hh, Bd.state]; rfl
  have N0 := Fr.nil n0
  have pre0 : ∀ t, Steps p.tables e below (s₁.setTop (mkF m 0 #[.val (.ref a), .unset, .unset] [])) t → Steps p.tables e below (s₁.setTop (entryFrame m #[(.ref a)] 3)) t := fun t k => castTop (ef_8 m a) k
  obtain ⟨T1, X1, e1, st1⟩ := getF X0 hx hZ hown (host := "") (Or.inl (hw _ (List.mem_of_getElem? (i := 24) rfl))) Via.refl e0 O0.2.2.2 (g := (mkF m 1 #[.val (.ref a), .unset, .unset] [(.ref a)])) rfl rfl (hb hby d8_1)
  obtain ⟨T2, X2, e2, st2⟩ := getF X1 hx hZ hown (host := "") (Or.inl (hw _ (List.mem_of_getElem? (i := 22) rfl))) Via.refl e1 O0.2.2.1 (g := (mkF m 5 #[.val (.ref a), .unset, .unset] [(.ref a), (.long en)])) rfl rfl (hb hby d8_5)
  obtain ⟨fs, hr, hrun, hended, hW, hsame⟩ := X2.leave (v := some (.int (0 : Int32))) (fun h => by rw [Bd.returns] at h; cases h)
  refine ⟨_, _, pre0 _ ?_, hrun, hended, _, _, rfl, ⟨rfl, N0, e2⟩, ⟨_, rfl⟩, hW, hsame.mono (by decide) (by decide)⟩
  show Steps p.tables e below (s₁.setTop (mkF m 0 #[.val (.ref a), .unset, .unset] [])) _
  refine XS.aloadN X0.here hx rfl (hb hby d8_0) rfl rfl ?_
  show Steps p.tables e below (s₁.setTop (mkF m 1 #[.val (.ref a), .unset, .unset] [(.ref a)])) _
  refine st1 _ ?_
  show Steps p.tables e below (T1.setTop (mkF m 4 #[.val (.ref a), .unset, .unset] [(.long en)])) _
  refine XS.aloadN X1.here hx rfl (hb hby d8_4) rfl rfl ?_
  show Steps p.tables e below (T1.setTop (mkF m 5 #[.val (.ref a), .unset, .unset] [(.ref a), (.long en)])) _
  refine st2 _ ?_
  show Steps p.tables e below (T2.setTop (mkF m 8 #[.val (.ref a), .unset, .unset] [(.long ps), (.long en)])) _
  refine XS.lsub X2.here hx rfl (hb hby d8_8) rfl ?_
  show Steps p.tables e below (T2.setTop (mkF m 9 #[.val (.ref a), .unset, .unset] [(.long (en - ps))])) _
  refine XS.lstoreN X2.here hx rfl (hb hby d8_9) rfl (l' := #[.val (.ref a), .val (.long (en - ps)), .second]) rfl ?_
  show Steps p.tables e below (T2.setTop (mkF m 10 #[.val (.ref a), .val (.long (en - ps)), .second] [])) _
  refine XS.lloadN X2.here hx rfl (hb hby d8_10) rfl ?_
  show Steps p.tables e below (T2.setTop (mkF m 11 #[.val (.ref a), .val (.long (en - ps)), .second] [(.long (en - ps))])) _
  refine XS.lconst X2.here hx rfl (hb hby d8_11) ?_
  show Steps p.tables e below (T2.setTop (mkF m 12 #[.val (.ref a), .val (.long (en - ps)), .second] [(.long (0 : Int64)), (.long (en - ps))])) _
  refine XS.lcmp X2.here hx rfl (hb hby d8_12) rfl ?_
  show Steps p.tables e below (T2.setTop (mkF m 13 #[.val (.ref a), .val (.long (en - ps)), .second] [(.int (lcmpW (en - ps) (0 : Int64)))])) _
  refine XS.ifYes X2.here hx rfl (pc0 := 13) (pc' := 18) rfl (hb hby d8_13) rfl ((if0 _ _).trans (feq (fun q => hz ((lw_eq (en - ps) (0 : Int64)).mp q))).2) (by decide) (by decide) ?_
  show Steps p.tables e below (T2.setTop (mkF m 18 #[.val (.ref a), .val (.long (en - ps)), .second] [])) _
  refine XS.lloadN X2.here hx rfl (hb hby d8_18) rfl ?_
  show Steps p.tables e below (T2.setTop (mkF m 19 #[.val (.ref a), .val (.long (en - ps)), .second] [(.long (en - ps))])) _
  refine X2.ldc2J hx hown (mvT hZ (hw _ (List.mem_of_getElem? (i := 21) rfl))) rfl (hb hby d8_19) ?_
  show Steps p.tables e below (T2.setTop (mkF m 22 #[.val (.ref a), .val (.long (en - ps)), .second] [(.long (8 : Int64)), (.long (en - ps))])) _
  refine XS.lcmp X2.here hx rfl (hb hby d8_22) rfl ?_
  show Steps p.tables e below (T2.setTop (mkF m 23 #[.val (.ref a), .val (.long (en - ps)), .second] [(.int (lcmpW (en - ps) (8 : Int64)))])) _
  refine XS.ifYes X2.here hx rfl (pc0 := 23) (pc' := 59) rfl (hb hby d8_23) rfl ((if0 _ _).trans (flt (fun q => h8 ((lw_lt (en - ps) (8 : Int64)).mp q))).2.1) (by decide) (by decide) ?_
  show Steps p.tables e below (T2.setTop (mkF m 59 #[.val (.ref a), .val (.long (en - ps)), .second] [])) _
  refine XS.iconst X2.here hx rfl (hb hby d8_59) ?_
  show Steps p.tables e below (T2.setTop (mkF m 60 #[.val (.ref a), .val (.long (en - ps)), .second] [(.int (0 : Int32))])) _
  exact retN X2 hx (t := .boolean) Bd.returns (by simp) (hb hby d8_60) hr
def Q8ct (Z : State) (a : Addr) (ad : Addr) (f : Nat → Int32) (ps : Int64) (en : Int64) (h0 : Heap) (n0 : Nat) (v : Option Value) (h : Heap) (L : List Loc) : Prop := v = some (.int (1 : Int32)) ∧ Fr n0 L ∧ h = h0
set_option maxRecDepth 65536 in
set_option maxHeartbeats 40000000 in
theorem rm8ct (l : Launch) (Z : State) (a0 : Array Value) (hw : ∀ d ∈ tables_1, d.before a0 Z = true) (ws : List Jvm.Cond) (a : Addr) (ad : Addr) (f : Nat → Int32) (ps : Int64) (en : Int64) (h0 : Heap) (n0 : Nat) (Z0 : n0 ≤ h0.size) (O0 : own_Br Z h0 a (.ref ad) (.long ps) (.long en)) (A0 : own_AI Z h0 ad .byte (4 : Int32) f) (hz : ¬ (en - ps) = (0 : Int64)) (h8 : (en - ps) < (8 : Int64)) (hin : ¬ (((ps.toUInt64 >>> ((3 : Int32) &&& 0x3f).toInt64.toUInt64).toInt64).toInt32) < 0 ∧ (((ps.toUInt64 >>> ((3 : Int32) &&& 0x3f).toInt64.toUInt64).toInt64).toInt32) < (4 : Int32)) (hk : ((f ((((ps.toUInt64 >>> ((3 : Int32) &&& 0x3f).toInt64.toUInt64).toInt64).toInt32)).toNatClampNeg) &&& (((255 : Int32).toUInt32 >>> (((ps &&& (7 : Int64)).toInt32) &&& 31).toUInt32).toInt32)) = (0 : Int32)) :
    MetFree l (⟨"com/example/fewbits/fewbits/BitReader", "onlyPaddingLeft", "()Z"⟩ : MethodName) (head1 (Jvm.Cond.code (⟨"com/example/fewbits/fewbits/BitReader", "onlyPaddingLeft", "()Z"⟩ : MethodName) prog_2_method_6_code 3 (some .boolean) :: ws) ({ frames := 0, cells := 0, slots := 0, locals := 0 } : Room)) (fun a_ U_ => a_ = #[(.ref a)] ∧ Z.Warmed39 U_.vm ∧ U_.heap = h0) (fun _ _ _ _ _ => True) (fun _ U_ o_ U' => ∃ v_ L_, o_ = .returned v_ ∧ (Q8ct Z a ad f ps en h0 n0 v_ U'.heap L_) ∧ FrameEnd U_ o_ U' L_ ({ frames := 0, cells := 0, slots := 0, locals := 0 } : Room).cells ({ frames := 0, cells := 0, slots := 0, locals := 0 } : Room).slots) := by
  refine MetFree.of_bodySF (plainFor_of_name pn_8) hisR ?_
  intro p e s m args below meth c s₁ Bd hml0 hP hK
  obtain ⟨rfl, hZ, hh⟩ := hP
  have hx := Bd.exec
  have hby := Bd.bytes
  have hml : c.maxLocals = 3 := hml0
  have hown : s.vm.findClass "com/example/fewbits/fewbits/BitReader" = some m.cls := findClass_of_methodNamed Bd.named
  have hnm := (name_of_methodNamed Bd.named Bd.method).1
  have X0 : Stand p l e ({ frames := 0, cells := 0, slots := 0, locals := 0 } : Room) s m #[(.ref a)] below meth c s₁ [] 0 0 := Stand.of_body Bd
  have e0 : s₁.heap = h0 := by rw [← hh, Bd.state]; rfl
  have N0 := Fr.nil n0
  have pre0 : ∀ t, Steps p.tables e below (s₁.setTop (mkF m 0 #[.val (.ref a), .unset, .unset] [])) t → Steps p.tables e below (s₁.setTop (entryFrame m #[(.ref a)] 3)) t := fun t k => castTop (ef_8 m a) k
  obtain ⟨T1, X1, e1, st1⟩ := getF X0 hx hZ hown (host := "") (Or.inl (hw _ (List.mem_of_getElem? (i := 24) rfl))) Via.refl e0 O0.2.2.2 (g := (mkF m 1 #[.val (.ref a), .unset, .unset] [(.ref a)])) rfl rfl (hb hby d8_1)
  obtain ⟨T2, X2, e2, st2⟩ := getF X1 hx hZ hown (host := "") (Or.inl (hw _ (List.mem_of_getElem? (i := 22) rfl))) Via.refl e1 O0.2.2.1 (g := (mkF m 5 #[.val (.ref a), .unset, .unset] [(.ref a), (.long en)])) rfl rfl (hb hby d8_5)
  obtain ⟨T3, X3, e3, st3⟩ := getF X2 hx hZ hown (host := "") (Or.inl (hw _ (List.mem_of_getElem? (i := 19) rfl))) Via.refl e2 O0.2.1 (g := (mkF m 27 #[.val (.ref a), .val (.long (en - ps)), .second] [(.ref a)])) rfl rfl (hb hby d8_27)
  obtain ⟨T4, X4, e4, st4⟩ := getF X3 hx hZ hown (host := "") (Or.inl (hw _ (List.mem_of_getElem? (i := 22) rfl))) Via.refl e3 O0.2.2.1 (g := (mkF m 31 #[.val (.ref a), .val (.long (en - ps)), .second] [(.ref a), (.ref ad)])) rfl rfl (hb hby d8_31)
  obtain ⟨T5, X5, e5, st5⟩ := getF X4 hx hZ hown (host := "") (Or.inl (hw _ (List.mem_of_getElem? (i := 22) rfl))) Via.refl e4 O0.2.2.1 (g := (mkF m 42 #[.val (.ref a), .val (.long (en - ps)), .second] [(.ref a), (.int (255 : Int32)), (.int (f ((((ps.toUInt64 >>> ((3 : Int32) &&& 0x3f).toInt64.toUInt64).toInt64).toInt32)).toNatClampNeg))])) rfl rfl (hb hby d8_42)
  obtain ⟨fs, hr, hrun, hended, hW, hsame⟩ := X5.leave (v := some (.int (1 : Int32))) (fun h => by rw [Bd.returns] at h; cases h)
  refine ⟨_, _, pre0 _ ?_, hrun, hended, _, _, rfl, ⟨rfl, N0, e5⟩, ⟨_, rfl⟩, hW, hsame.mono (by decide) (by decide)⟩
  show Steps p.tables e below (s₁.setTop (mkF m 0 #[.val (.ref a), .unset, .unset] [])) _
  refine XS.aloadN X0.here hx rfl (hb hby d8_0) rfl rfl ?_
  show Steps p.tables e below (s₁.setTop (mkF m 1 #[.val (.ref a), .unset, .unset] [(.ref a)])) _
  refine st1 _ ?_
  show Steps p.tables e below (T1.setTop (mkF m 4 #[.val (.ref a), .unset, .unset] [(.long en)])) _
  refine XS.aloadN X1.here hx rfl (hb hby d8_4) rfl rfl ?_
  show Steps p.tables e below (T1.setTop (mkF m 5 #[.val (.ref a), .unset, .unset] [(.ref a), (.long en)])) _
  refine st2 _ ?_
  show Steps p.tables e below (T2.setTop (mkF m 8 #[.val (.ref a), .unset, .unset] [(.long ps), (.long en)])) _
  refine XS.lsub X2.here hx rfl (hb hby d8_8) rfl ?_
  show Steps p.tables e below (T2.setTop (mkF m 9 #[.val (.ref a), .unset, .unset] [(.long (en - ps))])) _
  refine XS.lstoreN X2.here hx rfl (hb hby d8_9) rfl (l' := #[.val (.ref a), .val (.long (en - ps)), .second]) rfl ?_
  show Steps p.tables e below (T2.setTop (mkF m 10 #[.val (.ref a), .val (.long (en - ps)), .second] [])) _
  refine XS.lloadN X2.here hx rfl (hb hby d8_10) rfl ?_
  show Steps p.tables e below (T2.setTop (mkF m 11 #[.val (.ref a), .val (.long (en - ps)), .second] [(.long (en - ps))])) _
  refine XS.lconst X2.here hx rfl (hb hby d8_11) ?_
  show Steps p.tables e below (T2.setTop (mkF m 12 #[.val (.ref a), .val (.long (en - ps)), .second] [(.long (0 : Int64)), (.long (en - ps))])) _
  refine XS.lcmp X2.here hx rfl (hb hby d8_12) rfl ?_
  show Steps p.tables e below (T2.setTop (mkF m 13 #[.val (.ref a), .val (.long (en - ps)), .second] [(.int (lcmpW (en - ps) (0 : Int64)))])) _
  refine XS.ifYes X2.here hx rfl (pc0 := 13) (pc' := 18) rfl (hb hby d8_13) rfl ((if0 _ _).trans (feq (fun q => hz ((lw_eq (en - ps) (0 : Int64)).mp q))).2) (by decide) (by decide) ?_
  show Steps p.tables e below (T2.setTop (mkF m 18 #[.val (.ref a), .val (.long (en - ps)), .second] [])) _
  refine XS.lloadN X2.here hx rfl (hb hby d8_18) rfl ?_
  show Steps p.tables e below (T2.setTop (mkF m 19 #[.val (.ref a), .val (.long (en - ps)), .second] [(.long (en - ps))])) _
  refine X2.ldc2J hx hown (mvT hZ (hw _ (List.mem_of_getElem? (i := 21) rfl))) rfl (hb hby d8_19) ?_
  show Steps p.tables e below (T2.setTop (mkF m 22 #[.val (.ref a), .val (.long (en - ps)), .second] [(.long (8 : Int64)), (.long (en - ps))])) _
  refine XS.lcmp X2.here hx rfl (hb hby d8_22) rfl ?_
  show Steps p.tables e below (T2.setTop (mkF m 23 #[.val (.ref a), .val (.long (en - ps)), .second] [(.int (lcmpW (en - ps) (8 : Int64)))])) _
  refine XS.ifNo X2.here hx rfl (hb hby d8_23) rfl ((if0 _ _).trans (tlt ((lw_lt (en - ps) (8 : Int64)).mpr h8)).2.1) ?_
  show Steps p.tables e below (T2.setTop (mkF m 26 #[.val (.ref a), .val (.long (en - ps)), .second] [])) _
  refine XS.aloadN X2.here hx rfl (hb hby d8_26) rfl rfl ?_
  show Steps p.tables e below (T2.setTop (mkF m 27 #[.val (.ref a), .val (.long (en - ps)), .second] [(.ref a)])) _
  refine st3 _ ?_
  show Steps p.tables e below (T3.setTop (mkF m 30 #[.val (.ref a), .val (.long (en - ps)), .second] [(.ref ad)])) _
  refine XS.aloadN X3.here hx rfl (hb hby d8_30) rfl rfl ?_
  show Steps p.tables e below (T3.setTop (mkF m 31 #[.val (.ref a), .val (.long (en - ps)), .second] [(.ref a), (.ref ad)])) _
  refine st4 _ ?_
  show Steps p.tables e below (T4.setTop (mkF m 34 #[.val (.ref a), .val (.long (en - ps)), .second] [(.long ps), (.ref ad)])) _
  refine XS.iconst X4.here hx rfl (hb hby d8_34) ?_
  show Steps p.tables e below (T4.setTop (mkF m 35 #[.val (.ref a), .val (.long (en - ps)), .second] [(.int (3 : Int32)), (.long ps), (.ref ad)])) _
  refine XS.lushr X4.here hx rfl (hb hby d8_35) rfl ?_
  show Steps p.tables e below (T4.setTop (mkF m 36 #[.val (.ref a), .val (.long (en - ps)), .second] [(.long ((ps.toUInt64 >>> ((3 : Int32) &&& 0x3f).toInt64.toUInt64).toInt64)), (.ref ad)])) _
  refine XS.l2i X4.here hx rfl (hb hby d8_36) rfl ?_
  show Steps p.tables e below (T4.setTop (mkF m 37 #[.val (.ref a), .val (.long (en - ps)), .second] [(.int (((ps.toUInt64 >>> ((3 : Int32) &&& 0x3f).toInt64.toUInt64).toInt64).toInt32)), (.ref ad)])) _
  refine own_ldB X4 hx hZ e4 A0 (j := (((ps.toUInt64 >>> ((3 : Int32) &&& 0x3f).toInt64.toUInt64).toInt64).toInt32)) hin rfl rfl (hb hby d8_37) ?_
  show Steps p.tables e below (T4.setTop (mkF m 38 #[.val (.ref a), .val (.long (en - ps)), .second] [(.int (f ((((ps.toUInt64 >>> ((3 : Int32) &&& 0x3f).toInt64.toUInt64).toInt64).toInt32)).toNatClampNeg))])) _
  refine XS.sipush X4.here hx rfl (hb hby d8_38) ?_
  show Steps p.tables e below (T4.setTop (mkF m 41 #[.val (.ref a), .val (.long (en - ps)), .second] [(.int (255 : Int32)), (.int (f ((((ps.toUInt64 >>> ((3 : Int32) &&& 0x3f).toInt64.toUInt64).toInt64).toInt32)).toNatClampNeg))])) _
  refine XS.aloadN X4.here hx rfl (hb hby d8_41) rfl rfl ?_
  show Steps p.tables e below (T4.setTop (mkF m 42 #[.val (.ref a), .val (.long (en - ps)), .second] [(.ref a), (.int (255 : Int32)), (.int (f ((((ps.toUInt64 >>> ((3 : Int32) &&& 0x3f).toInt64.toUInt64).toInt64).toInt32)).toNatClampNeg))])) _
  refine st5 _ ?_
  show Steps p.tables e below (T5.setTop (mkF m 45 #[.val (.ref a), .val (.long (en - ps)), .second] [(.long ps), (.int (255 : Int32)), (.int (f ((((ps.toUInt64 >>> ((3 : Int32) &&& 0x3f).toInt64.toUInt64).toInt64).toInt32)).toNatClampNeg))])) _
  refine X5.ldc2J hx hown (mvT hZ (hw _ (List.mem_of_getElem? (i := 46) rfl))) rfl (hb hby d8_45) ?_
  show Steps p.tables e below (T5.setTop (mkF m 48 #[.val (.ref a), .val (.long (en - ps)), .second] [(.long (7 : Int64)), (.long ps), (.int (255 : Int32)), (.int (f ((((ps.toUInt64 >>> ((3 : Int32) &&& 0x3f).toInt64.toUInt64).toInt64).toInt32)).toNatClampNeg))])) _
  refine XS.land X5.here hx rfl (hb hby d8_48) rfl ?_
  show Steps p.tables e below (T5.setTop (mkF m 49 #[.val (.ref a), .val (.long (en - ps)), .second] [(.long (ps &&& (7 : Int64))), (.int (255 : Int32)), (.int (f ((((ps.toUInt64 >>> ((3 : Int32) &&& 0x3f).toInt64.toUInt64).toInt64).toInt32)).toNatClampNeg))])) _
  refine XS.l2i X5.here hx rfl (hb hby d8_49) rfl ?_
  show Steps p.tables e below (T5.setTop (mkF m 50 #[.val (.ref a), .val (.long (en - ps)), .second] [(.int ((ps &&& (7 : Int64)).toInt32)), (.int (255 : Int32)), (.int (f ((((ps.toUInt64 >>> ((3 : Int32) &&& 0x3f).toInt64.toUInt64).toInt64).toInt32)).toNatClampNeg))])) _
  refine XS.iushr X5.here hx rfl (hb hby d8_50) rfl ?_
  show Steps p.tables e below (T5.setTop (mkF m 51 #[.val (.ref a), .val (.long (en - ps)), .second] [(.int (((255 : Int32).toUInt32 >>> (((ps &&& (7 : Int64)).toInt32) &&& 31).toUInt32).toInt32)), (.int (f ((((ps.toUInt64 >>> ((3 : Int32) &&& 0x3f).toInt64.toUInt64).toInt64).toInt32)).toNatClampNeg))])) _
  refine XS.iand X5.here hx rfl (hb hby d8_51) rfl ?_
  show Steps p.tables e below (T5.setTop (mkF m 52 #[.val (.ref a), .val (.long (en - ps)), .second] [(.int ((f ((((ps.toUInt64 >>> ((3 : Int32) &&& 0x3f).toInt64.toUInt64).toInt64).toInt32)).toNatClampNeg) &&& (((255 : Int32).toUInt32 >>> (((ps &&& (7 : Int64)).toInt32) &&& 31).toUInt32).toInt32)))])) _
  refine XS.ifNo X5.here hx rfl (hb hby d8_52) rfl ((if0 _ _).trans (teq hk).2) ?_
  show Steps p.tables e below (T5.setTop (mkF m 55 #[.val (.ref a), .val (.long (en - ps)), .second] [])) _
  refine XS.iconst X5.here hx rfl (hb hby d8_55) ?_
  show Steps p.tables e below (T5.setTop (mkF m 56 #[.val (.ref a), .val (.long (en - ps)), .second] [(.int (1 : Int32))])) _
  refine XS.goto X5.here hx rfl (pc0 := 56) (pc' := 60) rfl (hb hby d8_56) (by decide) (by decide) ?_
  show Steps p.tables e below (T5.setTop (mkF m 60 #[.val (.ref a), .val (.long (en - ps)), .second] [(.int (1 : Int32))])) _
  exact retN X5 hx (t := .boolean) Bd.returns (by simp) (hb hby d8_60) hr
def Q8cf (Z : State) (a : Addr) (ad : Addr) (f : Nat → Int32) (ps : Int64) (en : Int64) (h0 : Heap) (n0 : Nat) (v : Option Value) (h : Heap) (L : List Loc) : Prop := v = some (.int (0 : Int32)) ∧ Fr n0 L ∧ h = h0
set_option maxRecDepth 65536 in
set_option maxHeartbeats 40000000 in
theorem rm8cf (l : Launch) (Z : State) (a0 : Array Value) (hw : ∀ d ∈ tables_1, d.before a0 Z = true) (ws : List Jvm.Cond) (a : Addr) (ad : Addr) (f : Nat → Int32) (ps : Int64) (en : Int64) (h0 : Heap) (n0 : Nat) (Z0 : n0 ≤ h0.size) (O0 : own_Br Z h0 a (.ref ad) (.long ps) (.long en)) (A0 : own_AI Z h0 ad .byte (4 : Int32) f) (hz : ¬ (en - ps) = (0 : Int64)) (h8 : (en - ps) < (8 : Int64)) (hin : ¬ (((ps.toUInt64 >>> ((3 : Int32) &&& 0x3f).toInt64.toUInt64).toInt64).toInt32) < 0 ∧ (((ps.toUInt64 >>> ((3 : Int32) &&& 0x3f).toInt64.toUInt64).toInt64).toInt32) < (4 : Int32)) (hk : ¬ ((f ((((ps.toUInt64 >>> ((3 : Int32) &&& 0x3f).toInt64.toUInt64).toInt64).toInt32)).toNatClampNeg) &&& (((255 : Int32).toUInt32 >>> (((ps &&& (7 : Int64)).toInt32) &&& 31).toUInt32).toInt32)) = (0 : Int32)) :
    MetFree l (⟨"com/example/fewbits/fewbits/BitReader", "onlyPaddingLeft", "()Z"⟩ : MethodName) (head1 (Jvm.Cond.code (⟨"com/example/fewbits/fewbits/BitReader", "onlyPaddingLeft", "()Z"⟩ : MethodName) prog_2_method_6_code 3 (some .boolean) :: ws) ({ frames := 0, cells := 0, slots := 0, locals := 0 } : Room)) (fun a_ U_ => a_ = #[(.ref a)] ∧ Z.Warmed39 U_.vm ∧ U_.heap = h0) (fun _ _ _ _ _ => True) (fun _ U_ o_ U' => ∃ v_ L_, o_ = .returned v_ ∧ (Q8cf Z a ad f ps en h0 n0 v_ U'.heap L_) ∧ FrameEnd U_ o_ U' L_ ({ frames := 0, cells := 0, slots := 0, locals := 0 } : Room).cells ({ frames := 0, cells := 0, slots := 0, locals := 0 } : Room).slots) := by
  refine MetFree.of_bodySF (plainFor_of_name pn_8) hisR ?_
  intro p e s m args below meth c s₁ Bd hml0 hP hK
  obtain ⟨rfl, hZ, hh⟩ := hP
  have hx := Bd.exec
  have hby := Bd.bytes
  have hml : c.maxLocals = 3 := hml0
  have hown : s.vm.findClass "com/example/fewbits/fewbits/BitReader" = some m.cls := findClass_of_methodNamed Bd.named
  have hnm := (name_of_methodNamed Bd.named Bd.method).1
  have X0 : Stand p l e ({ frames := 0, cells := 0, slots := 0, locals := 0 } : Room) s m #[(.ref a)] below meth c s₁ [] 0 0 := Stand.of_body Bd
  have e0 : s₁.heap = h0 := by rw [← hh, Bd.state]; rfl
  have N0 := Fr.nil n0
  have pre0 : ∀ t, Steps p.tables e below (s₁.setTop (mkF m 0 #[.val (.ref a), .unset, .unset] [])) t → Steps p.tables e below (s₁.setTop (entryFrame m #[(.ref a)] 3)) t := fun t k => castTop (ef_8 m a) k
  obtain ⟨T1, X1, e1, st1⟩ := getF X0 hx hZ hown (host := "") (Or.inl (hw _ (List.mem_of_getElem? (i := 24) rfl))) Via.refl e0 O0.2.2.2 (g := (mkF m 1 #[.val (.ref a), .unset, .unset] [(.ref a)])) rfl rfl (hb hby d8_1)
  obtain ⟨T2, X2, e2, st2⟩ := getF X1 hx hZ hown (host := "") (Or.inl (hw _ (List.mem_of_getElem? (i := 22) rfl))) Via.refl e1 O0.2.2.1 (g := (mkF m 5 #[.val (.ref a), .unset, .unset] [(.ref a), (.long en)])) rfl rfl (hb hby d8_5)
  obtain ⟨T3, X3, e3, st3⟩ := getF X2 hx hZ hown (host := "") (Or.inl (hw _ (List.mem_of_getElem? (i := 19) rfl))) Via.refl e2 O0.2.1 (g := (mkF m 27 #[.val (.ref a), .val (.long (en - ps)), .second] [(.ref a)])) rfl rfl (hb hby d8_27)
  obtain ⟨T4, X4, e4, st4⟩ := getF X3 hx hZ hown (host := "") (Or.inl (hw _ (List.mem_of_getElem? (i := 22) rfl))) Via.refl e3 O0.2.2.1 (g := (mkF m 31 #[.val (.ref a), .val (.long (en - ps)), .second] [(.ref a), (.ref ad)])) rfl rfl (hb hby d8_31)
  obtain ⟨T5, X5, e5, st5⟩ := getF X4 hx hZ hown (host := "") (Or.inl (hw _ (List.mem_of_getElem? (i := 22) rfl))) Via.refl e4 O0.2.2.1 (g := (mkF m 42 #[.val (.ref a), .val (.long (en - ps)), .second] [(.ref a), (.int (255 : Int32)), (.int (f ((((ps.toUInt64 >>> ((3 : Int32) &&& 0x3f).toInt64.toUInt64).toInt64).toInt32)).toNatClampNeg))])) rfl rfl (hb hby d8_42)
  obtain ⟨fs, hr, hrun, hended, hW, hsame⟩ := X5.leave (v := some (.int (0 : Int32))) (fun h => by rw [Bd.returns] at h; cases h)
  refine ⟨_, _, pre0 _ ?_, hrun, hended, _, _, rfl, ⟨rfl, N0, e5⟩, ⟨_, rfl⟩, hW, hsame.mono (by decide) (by decide)⟩
  show Steps p.tables e below (s₁.setTop (mkF m 0 #[.val (.ref a), .unset, .unset] [])) _
  refine XS.aloadN X0.here hx rfl (hb hby d8_0) rfl rfl ?_
  show Steps p.tables e below (s₁.setTop (mkF m 1 #[.val (.ref a), .unset, .unset] [(.ref a)])) _
  refine st1 _ ?_
  show Steps p.tables e below (T1.setTop (mkF m 4 #[.val (.ref a), .unset, .unset] [(.long en)])) _
  refine XS.aloadN X1.here hx rfl (hb hby d8_4) rfl rfl ?_
  show Steps p.tables e below (T1.setTop (mkF m 5 #[.val (.ref a), .unset, .unset] [(.ref a), (.long en)])) _
  refine st2 _ ?_
  show Steps p.tables e below (T2.setTop (mkF m 8 #[.val (.ref a), .unset, .unset] [(.long ps), (.long en)])) _
  refine XS.lsub X2.here hx rfl (hb hby d8_8) rfl ?_
  show Steps p.tables e below (T2.setTop (mkF m 9 #[.val (.ref a), .unset, .unset] [(.long (en - ps))])) _
  refine XS.lstoreN X2.here hx rfl (hb hby d8_9) rfl (l' := #[.val (.ref a), .val (.long (en - ps)), .second]) rfl ?_
  show Steps p.tables e below (T2.setTop (mkF m 10 #[.val (.ref a), .val (.long (en - ps)), .second] [])) _
  refine XS.lloadN X2.here hx rfl (hb hby d8_10) rfl ?_
  show Steps p.tables e below (T2.setTop (mkF m 11 #[.val (.ref a), .val (.long (en - ps)), .second] [(.long (en - ps))])) _
  refine XS.lconst X2.here hx rfl (hb hby d8_11) ?_
  show Steps p.tables e below (T2.setTop (mkF m 12 #[.val (.ref a), .val (.long (en - ps)), .second] [(.long (0 : Int64)), (.long (en - ps))])) _
  refine XS.lcmp X2.here hx rfl (hb hby d8_12) rfl ?_
  show Steps p.tables e below (T2.setTop (mkF m 13 #[.val (.ref a), .val (.long (en - ps)), .second] [(.int (lcmpW (en - ps) (0 : Int64)))])) _
  refine XS.ifYes X2.here hx rfl (pc0 := 13) (pc' := 18) rfl (hb hby d8_13) rfl ((if0 _ _).trans (feq (fun q => hz ((lw_eq (en - ps) (0 : Int64)).mp q))).2) (by decide) (by decide) ?_
  show Steps p.tables e below (T2.setTop (mkF m 18 #[.val (.ref a), .val (.long (en - ps)), .second] [])) _
  refine XS.lloadN X2.here hx rfl (hb hby d8_18) rfl ?_
  show Steps p.tables e below (T2.setTop (mkF m 19 #[.val (.ref a), .val (.long (en - ps)), .second] [(.long (en - ps))])) _
  refine X2.ldc2J hx hown (mvT hZ (hw _ (List.mem_of_getElem? (i := 21) rfl))) rfl (hb hby d8_19) ?_
  show Steps p.tables e below (T2.setTop (mkF m 22 #[.val (.ref a), .val (.long (en - ps)), .second] [(.long (8 : Int64)), (.long (en - ps))])) _
  refine XS.lcmp X2.here hx rfl (hb hby d8_22) rfl ?_
  show Steps p.tables e below (T2.setTop (mkF m 23 #[.val (.ref a), .val (.long (en - ps)), .second] [(.int (lcmpW (en - ps) (8 : Int64)))])) _
  refine XS.ifNo X2.here hx rfl (hb hby d8_23) rfl ((if0 _ _).trans (tlt ((lw_lt (en - ps) (8 : Int64)).mpr h8)).2.1) ?_
  show Steps p.tables e below (T2.setTop (mkF m 26 #[.val (.ref a), .val (.long (en - ps)), .second] [])) _
  refine XS.aloadN X2.here hx rfl (hb hby d8_26) rfl rfl ?_
  show Steps p.tables e below (T2.setTop (mkF m 27 #[.val (.ref a), .val (.long (en - ps)), .second] [(.ref a)])) _
  refine st3 _ ?_
  show Steps p.tables e below (T3.setTop (mkF m 30 #[.val (.ref a), .val (.long (en - ps)), .second] [(.ref ad)])) _
  refine XS.aloadN X3.here hx rfl (hb hby d8_30) rfl rfl ?_
  show Steps p.tables e below (T3.setTop (mkF m 31 #[.val (.ref a), .val (.long (en - ps)), .second] [(.ref a), (.ref ad)])) _
  refine st4 _ ?_
  show Steps p.tables e below (T4.setTop (mkF m 34 #[.val (.ref a), .val (.long (en - ps)), .second] [(.long ps), (.ref ad)])) _
  refine XS.iconst X4.here hx rfl (hb hby d8_34) ?_
  show Steps p.tables e below (T4.setTop (mkF m 35 #[.val (.ref a), .val (.long (en - ps)), .second] [(.int (3 : Int32)), (.long ps), (.ref ad)])) _
  refine XS.lushr X4.here hx rfl (hb hby d8_35) rfl ?_
  show Steps p.tables e below (T4.setTop (mkF m 36 #[.val (.ref a), .val (.long (en - ps)), .second] [(.long ((ps.toUInt64 >>> ((3 : Int32) &&& 0x3f).toInt64.toUInt64).toInt64)), (.ref ad)])) _
  refine XS.l2i X4.here hx rfl (hb hby d8_36) rfl ?_
  show Steps p.tables e below (T4.setTop (mkF m 37 #[.val (.ref a), .val (.long (en - ps)), .second] [(.int (((ps.toUInt64 >>> ((3 : Int32) &&& 0x3f).toInt64.toUInt64).toInt64).toInt32)), (.ref ad)])) _
  refine own_ldB X4 hx hZ e4 A0 (j := (((ps.toUInt64 >>> ((3 : Int32) &&& 0x3f).toInt64.toUInt64).toInt64).toInt32)) hin rfl rfl (hb hby d8_37) ?_
  show Steps p.tables e below (T4.setTop (mkF m 38 #[.val (.ref a), .val (.long (en - ps)), .second] [(.int (f ((((ps.toUInt64 >>> ((3 : Int32) &&& 0x3f).toInt64.toUInt64).toInt64).toInt32)).toNatClampNeg))])) _
  refine XS.sipush X4.here hx rfl (hb hby d8_38) ?_
  show Steps p.tables e below (T4.setTop (mkF m 41 #[.val (.ref a), .val (.long (en - ps)), .second] [(.int (255 : Int32)), (.int (f ((((ps.toUInt64 >>> ((3 : Int32) &&& 0x3f).toInt64.toUInt64).toInt64).toInt32)).toNatClampNeg))])) _
  refine XS.aloadN X4.here hx rfl (hb hby d8_41) rfl rfl ?_
  show Steps p.tables e below (T4.setTop (mkF m 42 #[.val (.ref a), .val (.long (en - ps)), .second] [(.ref a), (.int (255 : Int32)), (.int (f ((((ps.toUInt64 >>> ((3 : Int32) &&& 0x3f).toInt64.toUInt64).toInt64).toInt32)).toNatClampNeg))])) _
  refine st5 _ ?_
  show Steps p.tables e below (T5.setTop (mkF m 45 #[.val (.ref a), .val (.long (en - ps)), .second] [(.long ps), (.int (255 : Int32)), (.int (f ((((ps.toUInt64 >>> ((3 : Int32) &&& 0x3f).toInt64.toUInt64).toInt64).toInt32)).toNatClampNeg))])) _
  refine X5.ldc2J hx hown (mvT hZ (hw _ (List.mem_of_getElem? (i := 46) rfl))) rfl (hb hby d8_45) ?_
  show Steps p.tables e below (T5.setTop (mkF m 48 #[.val (.ref a), .val (.long (en - ps)), .second] [(.long (7 : Int64)), (.long ps), (.int (255 : Int32)), (.int (f ((((ps.toUInt64 >>> ((3 : Int32) &&& 0x3f).toInt64.toUInt64).toInt64).toInt32)).toNatClampNeg))])) _
  refine XS.land X5.here hx rfl (hb hby d8_48) rfl ?_
  show Steps p.tables e below (T5.setTop (mkF m 49 #[.val (.ref a), .val (.long (en - ps)), .second] [(.long (ps &&& (7 : Int64))), (.int (255 : Int32)), (.int (f ((((ps.toUInt64 >>> ((3 : Int32) &&& 0x3f).toInt64.toUInt64).toInt64).toInt32)).toNatClampNeg))])) _
  refine XS.l2i X5.here hx rfl (hb hby d8_49) rfl ?_
  show Steps p.tables e below (T5.setTop (mkF m 50 #[.val (.ref a), .val (.long (en - ps)), .second] [(.int ((ps &&& (7 : Int64)).toInt32)), (.int (255 : Int32)), (.int (f ((((ps.toUInt64 >>> ((3 : Int32) &&& 0x3f).toInt64.toUInt64).toInt64).toInt32)).toNatClampNeg))])) _
  refine XS.iushr X5.here hx rfl (hb hby d8_50) rfl ?_
  show Steps p.tables e below (T5.setTop (mkF m 51 #[.val (.ref a), .val (.long (en - ps)), .second] [(.int (((255 : Int32).toUInt32 >>> (((ps &&& (7 : Int64)).toInt32) &&& 31).toUInt32).toInt32)), (.int (f ((((ps.toUInt64 >>> ((3 : Int32) &&& 0x3f).toInt64.toUInt64).toInt64).toInt32)).toNatClampNeg))])) _
  refine XS.iand X5.here hx rfl (hb hby d8_51) rfl ?_
  show Steps p.tables e below (T5.setTop (mkF m 52 #[.val (.ref a), .val (.long (en - ps)), .second] [(.int ((f ((((ps.toUInt64 >>> ((3 : Int32) &&& 0x3f).toInt64.toUInt64).toInt64).toInt32)).toNatClampNeg) &&& (((255 : Int32).toUInt32 >>> (((ps &&& (7 : Int64)).toInt32) &&& 31).toUInt32).toInt32)))])) _
  refine XS.ifYes X5.here hx rfl (pc0 := 52) (pc' := 59) rfl (hb hby d8_52) rfl ((if0 _ _).trans (feq hk).2) (by decide) (by decide) ?_
  show Steps p.tables e below (T5.setTop (mkF m 59 #[.val (.ref a), .val (.long (en - ps)), .second] [])) _
  refine XS.iconst X5.here hx rfl (hb hby d8_59) ?_
  show Steps p.tables e below (T5.setTop (mkF m 60 #[.val (.ref a), .val (.long (en - ps)), .second] [(.int (0 : Int32))])) _
  exact retN X5 hx (t := .boolean) Bd.returns (by simp) (hb hby d8_60) hr
theorem pn_0 : plainName "com/example/fewbits/fewbits/BitReaderOnlyPaddingLeftPinLaw" = true := by first | (simp [plainName, overriddenIn]; done) | decide +kernel
theorem ef_0 (m : MethodId) (x0 : Int32) (x1 : Int32) (x2 : Int32) (x3 : Int32) : entryFrame m #[(.int x0), (.int x1), (.int x2), (.int x3)] maxLocals = mkF m 0 #[.val (.int x0), .val (.int x1), .val (.int x2), .val (.int x3), .unset, .unset, .unset, .unset, .unset, .unset, .unset, .unset, .unset, .unset, .unset, .unset, .unset, .unset, .unset] [] := by first | (simp [entryFrame, mkF, argsToLocals, Value.category, maxLocals]; done) | rfl
theorem pd_4 : parseMethodDescriptor "([BII)V" = some ⟨[(.array .byte), .int, .int], none⟩ := by decide +kernel
theorem pd_5 : parseMethodDescriptor "(I)I" = some ⟨[.int], some .int⟩ := by decide +kernel
theorem pd_6 : parseMethodDescriptor "()J" = some ⟨[], some .long⟩ := by decide +kernel
theorem pd_7 : parseMethodDescriptor "()Z" = some ⟨[], some .boolean⟩ := by decide +kernel
theorem own_off {p1 of : Int32} (h : ((p1 &&& (2147483647 : Int32)) % (4 : Int32)) = of) : 0 ≤ of.toInt ∧ of.toInt ≤ 3 := by
  have t1 := own_i_mask (2147483647 : Int32) 31 (by decide) (by decide) (rfl : p1.toInt = p1.toInt)
  rw [← h, own_i_mod t1 (show (4 : Int32).toInt = 4 from rfl) (by omega)]; omega
theorem own_d5 {of : Int32} (Qo : 0 ≤ of.toInt ∧ of.toInt ≤ 3) : ((5 : Int32) - of).toInt = 5 - of.toInt := own_i_sub (show (5 : Int32).toInt = 5 from rfl) rfl (by omega)
theorem own_nz1 {of : Int32} (Qo : 0 ≤ of.toInt ∧ of.toInt ≤ 3) : ((5 : Int32) - of) ≠ 0 := fun q => by
  have t := own_d5 Qo; rw [q] at t; have : (0 : Int32).toInt = 0 := rfl; omega
theorem own_ln {p2 of ln : Int32} (Qo : 0 ≤ of.toInt ∧ of.toInt ≤ 3) (h : ((p2 &&& (2147483647 : Int32)) % ((5 : Int32) - of)) = ln) : 0 ≤ ln.toInt ∧ of.toInt + ln.toInt ≤ 4 := by
  have t1 := own_i_mask (2147483647 : Int32) 31 (by decide) (by decide) (rfl : p2.toInt = p2.toInt)
  have t2 := own_i_mod t1 (own_d5 Qo) (by omega)
  rw [← h, t2]
  have g1 := Int.emod_nonneg (p2.toInt % (2 ^ 31 : Nat)) (b := 5 - of.toInt) (by omega)
  have g2 := Int.emod_lt_of_pos (p2.toInt % (2 ^ 31 : Nat)) (b := 5 - of.toInt) (by omega)
  omega
theorem own_d8 {of ln : Int32} (Ql : 0 ≤ ln.toInt ∧ of.toInt + ln.toInt ≤ 4) (Qo : 0 ≤ of.toInt) : (((8 : Int32) * ln) + (1 : Int32)).toInt = 8 * ln.toInt + 1 := own_i_add (own_i_mul (show (8 : Int32).toInt = 8 from rfl) rfl (by omega)) (show (1 : Int32).toInt = 1 from rfl) (by omega)
theorem own_nz2 {of ln : Int32} (Ql : 0 ≤ ln.toInt ∧ of.toInt + ln.toInt ≤ 4) (Qo : 0 ≤ of.toInt) : (((8 : Int32) * ln) + (1 : Int32)) ≠ 0 := fun q => by
  have t := own_d8 Ql Qo; rw [q] at t; have : (0 : Int32).toInt = 0 := rfl; omega
theorem own_kk {p3 of ln kk : Int32} (Ql : 0 ≤ ln.toInt ∧ of.toInt + ln.toInt ≤ 4) (Qo : 0 ≤ of.toInt) (h : ((p3 &&& (2147483647 : Int32)) % (((8 : Int32) * ln) + (1 : Int32))) = kk) : 0 ≤ kk.toInt ∧ kk.toInt ≤ 8 * ln.toInt := by
  have t1 := own_i_mask (2147483647 : Int32) 31 (by decide) (by decide) (rfl : p3.toInt = p3.toInt)
  have t2 := own_i_mod t1 (own_d8 Ql Qo) (by omega)
  rw [← h, t2]
  have g1 := Int.emod_nonneg (p3.toInt % (2 ^ 31 : Nat)) (b := 8 * ln.toInt + 1) (by omega)
  have g2 := Int.emod_lt_of_pos (p3.toInt % (2 ^ 31 : Nat)) (b := 8 * ln.toInt + 1) (by omega)
  omega
theorem own_chk1 {of ln : Int32} (Qo : 0 ≤ of.toInt ∧ of.toInt ≤ 3) (Ql : 0 ≤ ln.toInt ∧ of.toInt + ln.toInt ≤ 4) : ¬ (((4 : Int32) ||| of) ||| ln) < (0 : Int32) := by
  have t := (c_orS ((4 : Int32) ||| of) ln).1 ((c_orS (4 : Int32) of).1 (by decide) Qo.1) Ql.1
  rw [Int32.lt_iff_toInt_lt]; show ¬ _ < (0 : Int); omega
theorem own_chk2 {of ln : Int32} (Qo : 0 ≤ of.toInt ∧ of.toInt ≤ 3) (Ql : 0 ≤ ln.toInt ∧ of.toInt + ln.toInt ≤ 4) : ¬ ((4 : Int32) - of) < ln := by
  rw [own_i_lt (own_i_sub (show (4 : Int32).toInt = 4 from rfl) (rfl : of.toInt = of.toInt) (by omega)) (rfl : ln.toInt = ln.toInt)]; omega
theorem own_pos {of : Int32} {ps : Int64} (Qo : 0 ≤ of.toInt ∧ of.toInt ≤ 3) (h : ((of.toInt64) * (8 : Int64)) = ps) : ps.toInt = of.toInt * 8 := by
  rw [← h]; exact own_l_mul (own_i2l rfl) (show (8 : Int64).toInt = 8 from rfl) (by omega)
theorem own_end {of ln : Int32} {en : Int64} (Qo : 0 ≤ of.toInt ∧ of.toInt ≤ 3) (Ql : 0 ≤ ln.toInt ∧ of.toInt + ln.toInt ≤ 4) (h : (((of.toInt64) + (ln.toInt64)) * (8 : Int64)) = en) : en.toInt = (of.toInt + ln.toInt) * 8 := by
  rw [← h]; exact own_l_mul (own_l_add (own_i2l rfl) (own_i2l rfl) (by omega)) (show (8 : Int64).toInt = 8 from rfl) (by omega)
section Nums
variable {of ln kk : Int32} {ps pt en lft : Int64} (Qo : 0 ≤ of.toInt ∧ of.toInt ≤ 3) (Ql : 0 ≤ ln.toInt ∧ of.toInt + ln.toInt ≤ 4) (Qk : 0 ≤ kk.toInt ∧ kk.toInt ≤ 8 * ln.toInt) (Qp : ps.toInt = of.toInt * 8) (Qe : en.toInt = (of.toInt + ln.toInt) * 8) (Qt : pt.toInt = of.toInt * 8 + kk.toInt)
theorem own_r1 (Qo : 0 ≤ of.toInt ∧ of.toInt ≤ 3) : 0 ≤ of.toInt * 8 := by omega
theorem own_r2 (Ql : 0 ≤ ln.toInt ∧ of.toInt + ln.toInt ≤ 4) (Qk : 0 ≤ kk.toInt ∧ kk.toInt ≤ 8 * ln.toInt) : 0 ≤ kk.toInt := by omega
theorem own_r3 (Qo : 0 ≤ of.toInt ∧ of.toInt ≤ 3) (Ql : 0 ≤ ln.toInt ∧ of.toInt + ln.toInt ≤ 4) (Qk : 0 ≤ kk.toInt ∧ kk.toInt ≤ 8 * ln.toInt) : of.toInt * 8 + kk.toInt ≤ 32 := by omega
theorem own_r4 (Ql : 0 ≤ ln.toInt ∧ of.toInt + ln.toInt ≤ 4) (Qk : 0 ≤ kk.toInt ∧ kk.toInt ≤ 8 * ln.toInt) : ¬ kk < (0 : Int32) := by
  rw [own_i_lt (rfl : kk.toInt = kk.toInt) (show (0 : Int32).toInt = 0 from rfl)]; omega
theorem own_r5 (Qo : 0 ≤ of.toInt ∧ of.toInt ≤ 3) (Ql : 0 ≤ ln.toInt ∧ of.toInt + ln.toInt ≤ 4) (Qk : 0 ≤ kk.toInt ∧ kk.toInt ≤ 8 * ln.toInt) : ¬ (32 : Int32) < kk := by
  rw [own_i_lt (show (32 : Int32).toInt = 32 from rfl) (rfl : kk.toInt = kk.toInt)]; omega
theorem own_r6 (Qo : 0 ≤ of.toInt ∧ of.toInt ≤ 3) (Ql : 0 ≤ ln.toInt ∧ of.toInt + ln.toInt ≤ 4) (Qk : 0 ≤ kk.toInt ∧ kk.toInt ≤ 8 * ln.toInt) (Qp : ps.toInt = of.toInt * 8) (Qe : en.toInt = (of.toInt + ln.toInt) * 8) : ¬ (en - ps) < (kk.toInt64) := by
  rw [own_l_lt (own_l_sub Qe Qp (by omega)) (own_i2l rfl)]; omega
theorem own_left (Qo : 0 ≤ of.toInt ∧ of.toInt ≤ 3) (Ql : 0 ≤ ln.toInt ∧ of.toInt + ln.toInt ≤ 4) (Qk : 0 ≤ kk.toInt ∧ kk.toInt ≤ 8 * ln.toInt) (Qt : pt.toInt = of.toInt * 8 + kk.toInt) (Qe : en.toInt = (of.toInt + ln.toInt) * 8) (h : (((8 : Int64) * (ln.toInt64)) - (kk.toInt64)) = lft) : (en - pt) = lft := by
  rw [← h]
  have t1 := own_l_sub Qe Qt (by omega)
  have t2 := own_l_sub (own_l_mul (show (8 : Int64).toInt = 8 from rfl) (own_i2l (rfl : ln.toInt = ln.toInt)) (by omega)) (own_i2l (rfl : kk.toInt = kk.toInt)) (by omega)
  exact own_l_of (by rw [t1, t2]; omega)
theorem own_lv (Qo : 0 ≤ of.toInt ∧ of.toInt ≤ 3) (Ql : 0 ≤ ln.toInt ∧ of.toInt + ln.toInt ≤ 4) (Qk : 0 ≤ kk.toInt ∧ kk.toInt ≤ 8 * ln.toInt) (hlq : (en - pt) = lft) (Qt : pt.toInt = of.toInt * 8 + kk.toInt) (Qe : en.toInt = (of.toInt + ln.toInt) * 8) : lft.toInt = 8 * ln.toInt - kk.toInt := by
  rw [← hlq, own_l_sub Qe Qt (by omega)]; omega
theorem own_lz (Qo : 0 ≤ of.toInt ∧ of.toInt ≤ 3) (Ql : 0 ≤ ln.toInt ∧ of.toInt + ln.toInt ≤ 4) (Qk : 0 ≤ kk.toInt ∧ kk.toInt ≤ 8 * ln.toInt) (hlq : (en - pt) = lft) (hz : ¬ lft = (0 : Int64)) (Qt : pt.toInt = of.toInt * 8 + kk.toInt) (Qe : en.toInt = (of.toInt + ln.toInt) * 8) : kk.toInt < 8 * ln.toInt := by
  have t := own_lv Qo Ql Qk hlq Qt Qe
  rw [own_l_eq t (show (0 : Int64).toInt = 0 from rfl)] at hz
  omega
theorem own_t1 (Qo : 0 ≤ of.toInt ∧ of.toInt ≤ 3) (Qk : 0 ≤ kk.toInt ∧ kk.toInt ≤ 8 * ln.toInt) : 0 ≤ of.toInt * 8 + kk.toInt := by omega
theorem own_t2 (Qo : 0 ≤ of.toInt ∧ of.toInt ≤ 3) (Ql : 0 ≤ ln.toInt ∧ of.toInt + ln.toInt ≤ 4) (Qk : 0 ≤ kk.toInt ∧ kk.toInt ≤ 8 * ln.toInt) (hlq : (en - pt) = lft) (hz : ¬ lft = (0 : Int64)) (Qt : pt.toInt = of.toInt * 8 + kk.toInt) (Qe : en.toInt = (of.toInt + ln.toInt) * 8) : of.toInt * 8 + kk.toInt < 32 := by
  have := own_lz Qo Ql Qk hlq hz Qt Qe; omega
theorem own_lastv (Qo : 0 ≤ of.toInt ∧ of.toInt ≤ 3) (Ql : 0 ≤ ln.toInt ∧ of.toInt + ln.toInt ≤ 4) : ((of + ln) - (1 : Int32)).toInt = of.toInt + ln.toInt - 1 := own_i_sub (own_i_add rfl rfl (by omega)) (show (1 : Int32).toInt = 1 from rfl) (by omega)
theorem own_last (Qo : 0 ≤ of.toInt ∧ of.toInt ≤ 3) (Ql : 0 ≤ ln.toInt ∧ of.toInt + ln.toInt ≤ 4) (Qk : 0 ≤ kk.toInt ∧ kk.toInt ≤ 8 * ln.toInt) (hlq : (en - pt) = lft) (hz : ¬ lft = (0 : Int64)) (Qt : pt.toInt = of.toInt * 8 + kk.toInt) (Qe : en.toInt = (of.toInt + ln.toInt) * 8) : ¬ ((of + ln) - (1 : Int32)) < 0 ∧ ((of + ln) - (1 : Int32)) < (4 : Int32) := by
  have q := own_lz Qo Ql Qk hlq hz Qt Qe
  have t := own_lastv Qo Ql
  exact own_ix (by omega) (by rw [t]; show _ < (4 : Int); omega)
set_option maxHeartbeats 4000000 in
theorem own_fin {f : Nat → Int32} (Qo : 0 ≤ of.toInt ∧ of.toInt ≤ 3) (Ql : 0 ≤ ln.toInt ∧ of.toInt + ln.toInt ≤ 4) (Qk : 0 ≤ kk.toInt ∧ kk.toInt ≤ 8 * ln.toInt) (hlq : (en - pt) = lft) (h_lft : (((8 : Int64) * (ln.toInt64)) - (kk.toInt64)) = lft) (hz : ¬ lft = (0 : Int64)) (h8 : lft < (8 : Int64)) (Qt : pt.toInt = of.toInt * 8 + kk.toInt) (Qe : en.toInt = (of.toInt + ln.toInt) * 8) :
    ((f ((((pt.toUInt64 >>> ((3 : Int32) &&& 0x3f).toInt64.toUInt64).toInt64).toInt32)).toNatClampNeg) &&& (((255 : Int32).toUInt32 >>> (((pt &&& (7 : Int64)).toInt32) &&& 31).toUInt32).toInt32)) = (0 : Int32) ↔ (((f (((of + ln) - (1 : Int32))).toNatClampNeg) &&& (255 : Int32)) &&& (((1 : Int32) <<< ((lft.toInt32) &&& 31)) - (1 : Int32))) = (0 : Int32) := by
  have q := own_lz Qo Ql Qk hlq hz Qt Qe
  have lv := own_lv Qo Ql Qk hlq Qt Qe
  have h8' : 8 * ln.toInt - kk.toInt < 8 := (own_l_lt lv (show (8 : Int64).toInt = 8 from rfl)).mp h8
  have m1 := c_lushr pt (3 : Int32) 3 (by decide) (by decide)
  have m2 : (((pt.toUInt64 >>> ((3 : Int32) &&& 0x3f).toInt64.toUInt64).toInt64).toInt32).toInt = (of.toInt * 8 + kk.toInt) / 8 := own_l2i (by rw [m1, Qt]; show (of.toInt * 8 + kk.toInt) % 18446744073709551616 / (8 : Int) = _; omega) (by omega)
  have ei : (((pt.toUInt64 >>> ((3 : Int32) &&& 0x3f).toInt64.toUInt64).toInt64).toInt32) = ((of + ln) - (1 : Int32)) := own_i_of (by rw [m2, own_lastv Qo Ql]; omega)
  rw [ei]
  generalize f (((of + ln) - (1 : Int32))).toNatClampNeg = z
  have m7 : (pt &&& (7 : Int64)).toInt = (of.toInt * 8 + kk.toInt) % 8 := by rw [c_maskL pt (7 : Int64) 3 (by decide) (by decide), Qt]; rfl
  have m7' := own_l2i m7 (by omega)
  have l32 := own_l2i lv (by omega)
  have e7 : (of.toInt * 8 + kk.toInt) % 8 = kk.toInt % 8 := by omega
  have e8 : 8 * ln.toInt - kk.toInt = 8 - kk.toInt % 8 := by omega
  have j1 : 1 ≤ kk.toInt % 8 ∧ kk.toInt % 8 ≤ 7 := by omega
  rw [e7] at m7'
  rw [e8] at l32
  clear e7 e8 m7 m1 m2 ei h8' lv q
  generalize kk.toInt % 8 = J at *
  have cs : J = 1 ∨ J = 2 ∨ J = 3 ∨ J = 4 ∨ J = 5 ∨ J = 6 ∨ J = 7 := by omega
  rw [Int32.and_assoc]
  rcases cs with rfl | rfl | rfl | rfl | rfl | rfl | rfl
  · have a1 : (pt &&& (7 : Int64)).toInt32 = (1 : Int32) := own_i_of (by rw [m7']; rfl)
    have a2 : lft.toInt32 = (7 : Int32) := own_i_of (by rw [l32]; rfl)
    rw [a1, a2]
    exact Iff.of_eq (congrArg (fun q => (z &&& q) = (0 : Int32)) (by decide))
  · have a1 : (pt &&& (7 : Int64)).toInt32 = (2 : Int32) := own_i_of (by rw [m7']; rfl)
    have a2 : lft.toInt32 = (6 : Int32) := own_i_of (by rw [l32]; rfl)
    rw [a1, a2]
    exact Iff.of_eq (congrArg (fun q => (z &&& q) = (0 : Int32)) (by decide))
  · have a1 : (pt &&& (7 : Int64)).toInt32 = (3 : Int32) := own_i_of (by rw [m7']; rfl)
    have a2 : lft.toInt32 = (5 : Int32) := own_i_of (by rw [l32]; rfl)
    rw [a1, a2]
    exact Iff.of_eq (congrArg (fun q => (z &&& q) = (0 : Int32)) (by decide))
  · have a1 : (pt &&& (7 : Int64)).toInt32 = (4 : Int32) := own_i_of (by rw [m7']; rfl)
    have a2 : lft.toInt32 = (4 : Int32) := own_i_of (by rw [l32]; rfl)
    rw [a1, a2]
    exact Iff.of_eq (congrArg (fun q => (z &&& q) = (0 : Int32)) (by decide))
  · have a1 : (pt &&& (7 : Int64)).toInt32 = (5 : Int32) := own_i_of (by rw [m7']; rfl)
    have a2 : lft.toInt32 = (3 : Int32) := own_i_of (by rw [l32]; rfl)
    rw [a1, a2]
    exact Iff.of_eq (congrArg (fun q => (z &&& q) = (0 : Int32)) (by decide))
  · have a1 : (pt &&& (7 : Int64)).toInt32 = (6 : Int32) := own_i_of (by rw [m7']; rfl)
    have a2 : lft.toInt32 = (2 : Int32) := own_i_of (by rw [l32]; rfl)
    rw [a1, a2]
    exact Iff.of_eq (congrArg (fun q => (z &&& q) = (0 : Int32)) (by decide))
  · have a1 : (pt &&& (7 : Int64)).toInt32 = (7 : Int32) := own_i_of (by rw [m7']; rfl)
    have a2 : lft.toInt32 = (1 : Int32) := own_i_of (by rw [l32]; rfl)
    rw [a1, a2]
    exact Iff.of_eq (congrArg (fun q => (z &&& q) = (0 : Int32)) (by decide))
end Nums
def Q0a (Z : State) (p0 : Int32) (p1 : Int32) (p2 : Int32) (p3 : Int32) (of : Int32) (ln : Int32) (kk : Int32) (lft : Int64) (f : Nat → Int32) (h0 : Heap) (n0 : Nat) (v : Option Value) (h : Heap) (L : List Loc) : Prop := v = some (.int (1 : Int32)) ∧ Fr n0 L
set_option maxRecDepth 65536 in
set_option maxHeartbeats 40000000 in
theorem rm0a (l : Launch) (Z : State) (a0 : Array Value) (hw : ∀ d ∈ tables_1, d.before a0 Z = true) (ws : List Jvm.Cond) (p0 : Int32) (p1 : Int32) (p2 : Int32) (p3 : Int32) (of : Int32) (ln : Int32) (kk : Int32) (lft : Int64) (f : Nat → Int32) (h0 : Heap) (n0 : Nat) (Z0 : n0 ≤ h0.size) (h_of : ((p1 &&& (2147483647 : Int32)) % (4 : Int32)) = of) (h_ln : ((p2 &&& (2147483647 : Int32)) % ((5 : Int32) - of)) = ln) (h_kk : ((p3 &&& (2147483647 : Int32)) % (((8 : Int32) * ln) + (1 : Int32))) = kk) (h_lft : (((8 : Int64) * (ln.toInt64)) - (kk.toInt64)) = lft) (hf : (own_up (own_up (own_up (own_up (fun _ => 0) 0 ((p0.toInt8.toInt32)).toInt8.toInt32) 1 (((p0 >>> ((8 : Int32) &&& 31)).toInt8.toInt32)).toInt8.toInt32) 2 (((p0 >>> ((16 : Int32) &&& 31)).toInt8.toInt32)).toInt8.toInt32) 3 (((p0 >>> ((24 : Int32) &&& 31)).toInt8.toInt32)).toInt8.toInt32) = f) (hz : lft = (0 : Int64)) :
    MetFree l x (head1 (Jvm.Cond.code x code maxLocals ret :: ws) room_1) (fun a_ U_ => a_ = #[(.int p0), (.int p1), (.int p2), (.int p3)] ∧ Z.Warmed39 U_.vm ∧ U_.heap = h0) (fun _ _ _ _ _ => True) (fun _ U_ o_ U' => ∃ v_ L_, o_ = .returned v_ ∧ (Q0a Z p0 p1 p2 p3 of ln kk lft f h0 n0 v_ U'.heap L_) ∧ FrameEnd U_ o_ U' L_ room_1.cells room_1.slots) := by
  refine MetFree.of_bodySF (plainFor_of_name pn_0) hisR ?_
  intro p e s m args below meth c s₁ Bd hml0 hP hK
  obtain ⟨rfl, hZ, hh⟩ := hP
  have hx := Bd.exec
  have hby := Bd.bytes
  have hml : c.maxLocals = 19 := hml0
  have hown : s.vm.findClass "com/example/fewbits/fewbits/BitReaderOnlyPaddingLeftPinLaw" = some m.cls := findClass_of_methodNamed Bd.named
  have hnm := (name_of_methodNamed Bd.named Bd.method).1
  have X0 : Stand p l e room_1 s m #[(.int p0), (.int p1), (.int p2), (.int p3)] below meth c s₁ [] 0 0 := Stand.of_body Bd
  have e0 : s₁.heap = h0 := by rw [← hh, Bd.state]; rfl
  have N0 := Fr.nil n0
  have pre0 : ∀ t, Steps p.tables e below (s₁.setTop (mkF m 0 #[.val (.int p0), .val (.int p1), .val (.int p2), .val (.int p3), .unset, .unset, .unset, .unset, .unset, .unset, .unset, .unset, .unset, .unset, .unset, .unset, .unset, .unset, .unset] [])) t → Steps p.tables e below (s₁.setTop (entryFrame m #[(.int p0), (.int p1), (.int p2), (.int p3)] maxLocals)) t := fun t k => castTop (ef_0 m p0 p1 p2 p3) k
  obtain ⟨T1, h1, X1, e1, E1, A1, st1⟩ := own_newI X0 hx hZ (hw _ (List.mem_of_getElem? (i := 0) rfl)) rfl e0 (g := (mkF m 1 #[.val (.int p0), .val (.int p1), .val (.int p2), .val (.int p3), .unset, .unset, .unset, .unset, .unset, .unset, .unset, .unset, .unset, .unset, .unset, .unset, .unset, .unset, .unset] [(.int (4 : Int32))])) rfl (hb hby at_1) rfl (by decide) (cap := 4) (by decide) (by decide) (by decide) (by decide)
  obtain ⟨b1, g1⟩ : ∃ z, z = h0.size := ⟨_, rfl⟩
  rw [← g1] at A1 st1
  have f_b1 : n0 ≤ b1 := Nat.le_trans Z0 (Nat.le_of_eq g1.symm)
  have s_b1 : h0.size ≤ b1 := Nat.le_trans (Keep.refl h0 []).1 (Nat.le_of_eq g1.symm)
  have K1 : Keep h0 h1 [] := (Keep.refl h0 []).ext E1
  have Z1 : n0 ≤ h1.size := Nat.le_trans Z0 E1.1
  obtain ⟨T2, h2, X2, e2, W2, A2, st2⟩ := own_stB X1 hx hZ e1 A1 (j := (0 : Int32)) ⟨by decide, by decide⟩ (g := (mkF m 10 #[.val (.int p0), .val (.int p1), .val (.int p2), .val (.int p3), .val (.ref b1), .unset, .unset, .unset, .unset, .unset, .unset, .unset, .unset, .unset, .unset, .unset, .unset, .unset, .unset] [(.int (p0.toInt8.toInt32)), (.int (0 : Int32)), (.ref b1)])) rfl rfl (hb hby at_10)
  have N2 := Fr.snoc X2 N0 f_b1
  have K2 : Keep h0 h2 [] := K1.wr W2 (Or.inr s_b1)
  have Z2 : n0 ≤ h2.size := Nat.le_trans Z1 (Nat.le_of_eq (W2.size).symm)
  obtain ⟨T3, h3, X3, e3, W3, A3, st3⟩ := own_stB X2 hx hZ e2 A2 (j := (1 : Int32)) ⟨by decide, by decide⟩ (g := (mkF m 19 #[.val (.int p0), .val (.int p1), .val (.int p2), .val (.int p3), .val (.ref b1), .unset, .unset, .unset, .unset, .unset, .unset, .unset, .unset, .unset, .unset, .unset, .unset, .unset, .unset] [(.int ((p0 >>> ((8 : Int32) &&& 31)).toInt8.toInt32)), (.int (1 : Int32)), (.ref b1)])) rfl rfl (hb hby at_19)
  have N3 := Fr.snoc X3 N2 f_b1
  have K3 : Keep h0 h3 [] := K2.wr W3 (Or.inr s_b1)
  have Z3 : n0 ≤ h3.size := Nat.le_trans Z2 (Nat.le_of_eq (W3.size).symm)
  obtain ⟨T4, h4, X4, e4, W4, A4, st4⟩ := own_stB X3 hx hZ e3 A3 (j := (2 : Int32)) ⟨by decide, by decide⟩ (g := (mkF m 28 #[.val (.int p0), .val (.int p1), .val (.int p2), .val (.int p3), .val (.ref b1), .unset, .unset, .unset, .unset, .unset, .unset, .unset, .unset, .unset, .unset, .unset, .unset, .unset, .unset] [(.int ((p0 >>> ((16 : Int32) &&& 31)).toInt8.toInt32)), (.int (2 : Int32)), (.ref b1)])) rfl rfl (hb hby at_28)
  have N4 := Fr.snoc X4 N3 f_b1
  have K4 : Keep h0 h4 [] := K3.wr W4 (Or.inr s_b1)
  have Z4 : n0 ≤ h4.size := Nat.le_trans Z3 (Nat.le_of_eq (W4.size).symm)
  obtain ⟨T5, h5, X5, e5, W5, A5, st5⟩ := own_stB X4 hx hZ e4 A4 (j := (3 : Int32)) ⟨by decide, by decide⟩ (g := (mkF m 37 #[.val (.int p0), .val (.int p1), .val (.int p2), .val (.int p3), .val (.ref b1), .unset, .unset, .unset, .unset, .unset, .unset, .unset, .unset, .unset, .unset, .unset, .unset, .unset, .unset] [(.int ((p0 >>> ((24 : Int32) &&& 31)).toInt8.toInt32)), (.int (3 : Int32)), (.ref b1)])) rfl rfl (hb hby at_37)
  have N5 := Fr.snoc X5 N4 f_b1
  have K5 : Keep h0 h5 [] := K4.wr W5 (Or.inr s_b1)
  have Z5 : n0 ≤ h5.size := Nat.le_trans Z4 (Nat.le_of_eq (W5.size).symm)
  have Qo := own_off h_of
  have Ql := own_ln Qo h_ln
  have Qk := own_kk Ql Qo.1 h_kk
  have AF : own_AI Z h5 b1 .byte (4 : Int32) f := hf ▸ A5
  obtain ⟨T6, h6, X6, e6, E6, A6, D6, -, st6⟩ := newO X5 hx hZ hown (hw _ (List.mem_of_getElem? (i := 2) rfl)) (hw _ (List.mem_of_getElem? (i := 3) rfl)) (hw _ (List.mem_of_getElem? (i := 4) rfl)) e5 (g := (mkF m 71 #[.val (.int p0), .val (.int p1), .val (.int p2), .val (.int p3), .val (.ref b1), .val (.int of), .val (.int ln), .val (.int kk), .unset, .unset, .unset, .unset, .unset, .unset, .unset, .unset, .unset, .unset, .unset] [])) rfl (hb hby at_71) (by decide) (by decide)
  obtain ⟨b6, g6⟩ : ∃ z, z = h5.size := ⟨_, rfl⟩
  rw [← g6] at A6 D6 st6
  have f_b6 : n0 ≤ b6 := Nat.le_trans Z5 (Nat.le_of_eq g6.symm)
  have s_b6 : h0.size ≤ b6 := Nat.le_trans K5.1 (Nat.le_of_eq g6.symm)
  have K6 : Keep h0 h6 [] := K5.ext E6
  have A6_b1 := AF.ext E6
  have O6 : own_Br Z h6 b6 .null (.long (0 : Int64)) (.long (0 : Int64)) := ⟨A6, D6 (Or.inr (hw _ (List.mem_of_getElem? (i := 20) rfl))) (ty := (.array .byte)) (by decide), D6 (Or.inl (hw _ (List.mem_of_getElem? (i := 23) rfl))) (ty := .long) (by decide), D6 (Or.inr (hw _ (List.mem_of_getElem? (i := 25) rfl))) (ty := .long) (by decide)⟩
  have Z6 : n0 ≤ h6.size := Nat.le_trans Z5 E6.1
  obtain ⟨Lg7, Xg7, Ng7⟩ := own_gen X6 N5
  obtain ⟨_, _, ⟨T8, L8, k8, n8⟩, -, X8, ⟨Lc8, hQ8, l8, y8, z8⟩, st8⟩ := Xg7.specialBack hx (y := (⟨"com/example/fewbits/fewbits/BitReader", "<init>", "([BII)V"⟩ : MethodName)) rfl hown (mvT hZ (hw _ (List.mem_of_getElem? (i := 5) rfl))) (mvT hZ (hw _ (List.mem_of_getElem? (i := 6) rfl))) (mvT hZ (hw _ (List.mem_of_getElem? (i := 7) rfl))) (by decide) (backOf (W := 1) (rm3 l Z a0 hw [] b6 b1 of ln f h6 n0 Z6 f_b6 O6 A6_b1 (own_chk1 Qo Ql) (own_chk2 Qo Ql)) hZ (hw _ (List.mem_of_getElem? (i := 7) rfl)) (hw _ (List.mem_of_getElem? (i := 4) rfl)) (by decide) (by decide)) (g := (mkF m 81 #[.val (.int p0), .val (.int p1), .val (.int p2), .val (.int p3), .val (.ref b1), .val (.int of), .val (.int ln), .val (.int kk), .unset, .unset, .unset, .unset, .unset, .unset, .unset, .unset, .unset, .unset, .unset] [(.int ln), (.int of), (.ref b1), (.ref b6), (.ref b6)])) rfl (by rw [hml]; rfl) (Steps.refl _) (a := b6) (argsL := [(.ref b1), (.int of), (.int ln)]) (rest := [(.ref b6)]) (lenOf pd_4 rfl) rfl (by show 2 * 0 + _ ≤ _; exact Nat.le_of_eq rfl) (hb hby at_81) (fun _ _ => ⟨rfl, e6, (by decide : 2 + 0 ≤ _), (by decide : 7 + 0 ≤ _)⟩)
  dsimp only [Pt.U, Pt.locs, Pt.cells, Pt.slots] at X8 l8 y8 z8 st8 hQ8
  subst l8 y8 z8
  obtain ⟨rfl, Nq8, Kq8, Oq8⟩ := hQ8
  have N8 := Fr.app Ng7 Nq8
  have Z8 : n0 ≤ T8.heap.size := Nat.le_trans Z6 Kq8.1
  have AA8 := A6_b1.keep Kq8 (ninS (own_ne_obj O6.1 (hw _ (List.mem_of_getElem? (i := 3) rfl)) A6_b1).symm nin0)
  obtain ⟨ps, h_ps⟩ : ∃ z, ((of.toInt64) * (8 : Int64)) = z := ⟨_, rfl⟩
  obtain ⟨en, h_en⟩ : ∃ z, (((of.toInt64) + (ln.toInt64)) * (8 : Int64)) = z := ⟨_, rfl⟩
  rw [h_ps, h_en] at Oq8
  have Qp := own_pos Qo h_ps
  have Qe := own_end Qo Ql h_en
  obtain ⟨Lg9, Xg9, Ng9⟩ := own_gen X8 N8
  obtain ⟨cq10, kq10, qa10, qb10, qc10⟩ := isOf hZ rfl Oq8.1
  obtain ⟨_, _, ⟨T10, L10, k10, n10⟩, -, X10, ⟨Lc10, hQ10, l10, y10, z10⟩, st10⟩ := Xg9.virtualBack hx (y := (⟨"com/example/fewbits/fewbits/BitReader", "readBits", "(I)I"⟩ : MethodName)) (z := (⟨"com/example/fewbits/fewbits/BitReader", "readBits", "(I)I"⟩ : MethodName)) hown (mvT hZ (hw _ (List.mem_of_getElem? (i := 26) rfl))) (mvT hZ (hw _ (List.mem_of_getElem? (i := 27) rfl))) (notFace_of_selects (args := #[]) (mvT hZ (hw _ (List.mem_of_getElem? (i := 29) rfl)))) (mvT hZ (hw _ (List.mem_of_getElem? (i := 29) rfl))) (mvT hZ (hw _ (List.mem_of_getElem? (i := 28) rfl))) (by decide) (backOf (W := 0) (rm6 l Z a0 hw [] b6 kk b1 f ps en _ _ T8.heap n0 Z8 f_b6 Oq8 AA8 Qp rfl (own_r1 Qo) (own_r2 Ql Qk) (own_r3 Qo Ql Qk) (own_r4 Ql Qk) (own_r5 Qo Ql Qk) (own_r6 Qo Ql Qk Qp Qe)) hZ (hw _ (List.mem_of_getElem? (i := 30) rfl)) (hw _ (List.mem_of_getElem? (i := 4) rfl)) (by decide) (by decide)) qa10 qc10 (g := (mkF m 90 #[.val (.int p0), .val (.int p1), .val (.int p2), .val (.int p3), .val (.ref b1), .val (.int of), .val (.int ln), .val (.int kk), .val (.ref b6), .unset, .unset, .unset, .unset, .unset, .unset, .unset, .unset, .unset, .unset] [(.int kk), (.ref b6)])) rfl (by rw [hml]; rfl) (Steps.refl _) (argsL := [(.int kk)]) (rest := []) (lenOf pd_5 rfl) rfl (by show 2 * 0 + _ ≤ _; exact Nat.le_of_eq rfl) (hb hby at_90) (fun _ _ => ⟨rfl, rfl, (by decide : 2 + 0 ≤ _), (by decide : 7 + 0 ≤ _)⟩)
  dsimp only [Pt.U, Pt.locs, Pt.cells, Pt.slots] at X10 l10 y10 z10 st10 hQ10
  subst l10 y10 z10
  obtain ⟨⟨rv, rfl⟩, Nq10, Kq10, ⟨pt, Qt, Oq10⟩, Aq10⟩ := hQ10
  have N10 := Fr.app Ng9 Nq10
  have Z10 : n0 ≤ T10.heap.size := Nat.le_trans Z8 Kq10.1
  have hlq := own_left Qo Ql Qk Qt Qe h_lft
  obtain ⟨Lg11, Xg11, Ng11⟩ := own_gen X10 N10
  obtain ⟨cq12, kq12, qa12, qb12, qc12⟩ := isOf hZ rfl Oq10.1
  obtain ⟨_, _, ⟨T12, L12, k12, n12⟩, -, X12, ⟨Lc12, hQ12, l12, y12, z12⟩, st12⟩ := Xg11.virtualBack hx (y := (⟨"com/example/fewbits/fewbits/BitReader", "getBitsLeft", "()J"⟩ : MethodName)) (z := (⟨"com/example/fewbits/fewbits/BitReader", "getBitsLeft", "()J"⟩ : MethodName)) hown (mvT hZ (hw _ (List.mem_of_getElem? (i := 36) rfl))) (mvT hZ (hw _ (List.mem_of_getElem? (i := 37) rfl))) (notFace_of_selects (args := #[]) (mvT hZ (hw _ (List.mem_of_getElem? (i := 39) rfl)))) (mvT hZ (hw _ (List.mem_of_getElem? (i := 39) rfl))) (mvT hZ (hw _ (List.mem_of_getElem? (i := 38) rfl))) (by decide) (backOf (W := 0) (rm7 l Z a0 hw [] b6 b1 pt en T10.heap n0 Z10 Oq10) hZ (hw _ (List.mem_of_getElem? (i := 40) rfl)) (hw _ (List.mem_of_getElem? (i := 4) rfl)) (by decide) (by decide)) qa12 qc12 (g := (mkF m 109 #[.val (.int p0), .val (.int p1), .val (.int p2), .val (.int p3), .val (.ref b1), .val (.int of), .val (.int ln), .val (.int kk), .val (.ref b6), .val (.long lft), .second, .unset, .unset, .unset, .unset, .unset, .unset, .unset, .unset] [(.ref b6)])) rfl (by rw [hml]; rfl) (Steps.refl _) (argsL := []) (rest := []) (lenOf pd_6 rfl) rfl (by show 2 * 0 + _ ≤ _; exact Nat.le_of_eq rfl) (hb hby at_109) (fun _ _ => ⟨rfl, rfl, (by decide : 2 + 0 ≤ _), (by decide : 7 + 0 ≤ _)⟩)
  dsimp only [Pt.U, Pt.locs, Pt.cells, Pt.slots] at X12 l12 y12 z12 st12 hQ12
  subst l12 y12 z12
  obtain ⟨rfl, Nq12, e12⟩ := hQ12
  have N12 := Fr.app Ng11 Nq12
  obtain ⟨Lg13, Xg13, Ng13⟩ := own_gen X12 N12
  obtain ⟨cq14, kq14, qa14, qb14, qc14⟩ := isOf hZ e12 Oq10.1
  obtain ⟨_, _, ⟨T14, L14, k14, n14⟩, -, X14, ⟨Lc14, hQ14, l14, y14, z14⟩, st14⟩ := Xg13.virtualBack hx (y := (⟨"com/example/fewbits/fewbits/BitReader", "onlyPaddingLeft", "()Z"⟩ : MethodName)) (z := (⟨"com/example/fewbits/fewbits/BitReader", "onlyPaddingLeft", "()Z"⟩ : MethodName)) hown (mvT hZ (hw _ (List.mem_of_getElem? (i := 41) rfl))) (mvT hZ (hw _ (List.mem_of_getElem? (i := 42) rfl))) (notFace_of_selects (args := #[]) (mvT hZ (hw _ (List.mem_of_getElem? (i := 44) rfl)))) (mvT hZ (hw _ (List.mem_of_getElem? (i := 44) rfl))) (mvT hZ (hw _ (List.mem_of_getElem? (i := 43) rfl))) (by decide) (backOf (W := 0) (rm8a l Z a0 hw [] b6 b1 f pt en T10.heap n0 Z10 Oq10 Aq10 (hlq.trans hz)) hZ (hw _ (List.mem_of_getElem? (i := 45) rfl)) (hw _ (List.mem_of_getElem? (i := 4) rfl)) (by decide) (by decide)) qa14 qc14 (g := (mkF m 116 #[.val (.int p0), .val (.int p1), .val (.int p2), .val (.int p3), .val (.ref b1), .val (.int of), .val (.int ln), .val (.int kk), .val (.ref b6), .val (.long lft), .second, .val (.long lft), .second, .unset, .unset, .unset, .unset, .unset, .unset] [(.ref b6)])) rfl (by rw [hml]; rfl) (Steps.refl _) (argsL := []) (rest := []) (lenOf pd_7 rfl) rfl (by show 2 * 0 + _ ≤ _; exact Nat.le_of_eq rfl) (hb hby at_116) (fun _ _ => ⟨rfl, e12, (by decide : 2 + 0 ≤ _), (by decide : 7 + 0 ≤ _)⟩)
  dsimp only [Pt.U, Pt.locs, Pt.cells, Pt.slots] at X14 l14 y14 z14 st14 hQ14
  subst l14 y14 z14
  obtain ⟨rfl, Nq14, e14⟩ := hQ14
  have N14 := Fr.app Ng13 Nq14
  obtain ⟨Lg15, Xg15, Ng15⟩ := own_gen X14 N14
  obtain ⟨cq16, kq16, qa16, qb16, qc16⟩ := isOf hZ e14 Oq10.1
  obtain ⟨_, _, ⟨T16, L16, k16, n16⟩, -, X16, ⟨Lc16, hQ16, l16, y16, z16⟩, st16⟩ := Xg15.virtualBack hx (y := (⟨"com/example/fewbits/fewbits/BitReader", "getBitsLeft", "()J"⟩ : MethodName)) (z := (⟨"com/example/fewbits/fewbits/BitReader", "getBitsLeft", "()J"⟩ : MethodName)) hown (mvT hZ (hw _ (List.mem_of_getElem? (i := 36) rfl))) (mvT hZ (hw _ (List.mem_of_getElem? (i := 37) rfl))) (notFace_of_selects (args := #[]) (mvT hZ (hw _ (List.mem_of_getElem? (i := 39) rfl)))) (mvT hZ (hw _ (List.mem_of_getElem? (i := 39) rfl))) (mvT hZ (hw _ (List.mem_of_getElem? (i := 38) rfl))) (by decide) (backOf (W := 0) (rm7 l Z a0 hw [] b6 b1 pt en T10.heap n0 Z10 Oq10) hZ (hw _ (List.mem_of_getElem? (i := 40) rfl)) (hw _ (List.mem_of_getElem? (i := 4) rfl)) (by decide) (by decide)) qa16 qc16 (g := (mkF m 123 #[.val (.int p0), .val (.int p1), .val (.int p2), .val (.int p3), .val (.ref b1), .val (.int of), .val (.int ln), .val (.int kk), .val (.ref b6), .val (.long lft), .second, .val (.long lft), .second, .val (.int (1 : Int32)), .unset, .unset, .unset, .unset, .unset] [(.ref b6)])) rfl (by rw [hml]; rfl) (Steps.refl _) (argsL := []) (rest := []) (lenOf pd_6 rfl) rfl (by show 2 * 0 + _ ≤ _; exact Nat.le_of_eq rfl) (hb hby at_123) (fun _ _ => ⟨rfl, e14, (by decide : 2 + 0 ≤ _), (by decide : 7 + 0 ≤ _)⟩)
  dsimp only [Pt.U, Pt.locs, Pt.cells, Pt.slots] at X16 l16 y16 z16 st16 hQ16
  subst l16 y16 z16
  obtain ⟨rfl, Nq16, e16⟩ := hQ16
  have N16 := Fr.app Ng15 Nq16
  obtain ⟨fs, hr, hrun, hended, hW, hsame⟩ := X16.leave (v := some (.int (1 : Int32))) (fun h => by rw [Bd.returns] at h; cases h)
  refine ⟨_, _, pre0 _ ?_, hrun, hended, _, _, rfl, ⟨rfl, N16⟩, ⟨_, rfl⟩, hW, hsame.mono (by decide) (by decide)⟩
  show Steps p.tables e below (s₁.setTop (mkF m 0 #[.val (.int p0), .val (.int p1), .val (.int p2), .val (.int p3), .unset, .unset, .unset, .unset, .unset, .unset, .unset, .unset, .unset, .unset, .unset, .unset, .unset, .unset, .unset] [])) _
  refine XS.iconst X0.here hx rfl (hb hby at_0) ?_
  show Steps p.tables e below (s₁.setTop (mkF m 1 #[.val (.int p0), .val (.int p1), .val (.int p2), .val (.int p3), .unset, .unset, .unset, .unset, .unset, .unset, .unset, .unset, .unset, .unset, .unset, .unset, .unset, .unset, .unset] [(.int (4 : Int32))])) _
  refine st1 _ ?_
  show Steps p.tables e below (T1.setTop (mkF m 3 #[.val (.int p0), .val (.int p1), .val (.int p2), .val (.int p3), .unset, .unset, .unset, .unset, .unset, .unset, .unset, .unset, .unset, .unset, .unset, .unset, .unset, .unset, .unset] [(.ref b1)])) _
  refine XS.astore X1.here hx rfl (hb hby at_3) rfl rfl (l' := #[.val (.int p0), .val (.int p1), .val (.int p2), .val (.int p3), .val (.ref b1), .unset, .unset, .unset, .unset, .unset, .unset, .unset, .unset, .unset, .unset, .unset, .unset, .unset, .unset]) rfl ?_
  show Steps p.tables e below (T1.setTop (mkF m 5 #[.val (.int p0), .val (.int p1), .val (.int p2), .val (.int p3), .val (.ref b1), .unset, .unset, .unset, .unset, .unset, .unset, .unset, .unset, .unset, .unset, .unset, .unset, .unset, .unset] [])) _
  refine XS.aload X1.here hx rfl (hb hby at_5) rfl rfl ?_
  show Steps p.tables e below (T1.setTop (mkF m 7 #[.val (.int p0), .val (.int p1), .val (.int p2), .val (.int p3), .val (.ref b1), .unset, .unset, .unset, .unset, .unset, .unset, .unset, .unset, .unset, .unset, .unset, .unset, .unset, .unset] [(.ref b1)])) _
  refine XS.iconst X1.here hx rfl (hb hby at_7) ?_
  show Steps p.tables e below (T1.setTop (mkF m 8 #[.val (.int p0), .val (.int p1), .val (.int p2), .val (.int p3), .val (.ref b1), .unset, .unset, .unset, .unset, .unset, .unset, .unset, .unset, .unset, .unset, .unset, .unset, .unset, .unset] [(.int (0 : Int32)), (.ref b1)])) _
  refine XS.iloadN X1.here hx rfl (hb hby at_8) rfl ?_
  show Steps p.tables e below (T1.setTop (mkF m 9 #[.val (.int p0), .val (.int p1), .val (.int p2), .val (.int p3), .val (.ref b1), .unset, .unset, .unset, .unset, .unset, .unset, .unset, .unset, .unset, .unset, .unset, .unset, .unset, .unset] [(.int p0), (.int (0 : Int32)), (.ref b1)])) _
  refine XS.i2b X1.here hx rfl (hb hby at_9) rfl ?_
  show Steps p.tables e below (T1.setTop (mkF m 10 #[.val (.int p0), .val (.int p1), .val (.int p2), .val (.int p3), .val (.ref b1), .unset, .unset, .unset, .unset, .unset, .unset, .unset, .unset, .unset, .unset, .unset, .unset, .unset, .unset] [(.int (p0.toInt8.toInt32)), (.int (0 : Int32)), (.ref b1)])) _
  refine st2 _ ?_
  show Steps p.tables e below (T2.setTop (mkF m 11 #[.val (.int p0), .val (.int p1), .val (.int p2), .val (.int p3), .val (.ref b1), .unset, .unset, .unset, .unset, .unset, .unset, .unset, .unset, .unset, .unset, .unset, .unset, .unset, .unset] [])) _
  refine XS.aload X2.here hx rfl (hb hby at_11) rfl rfl ?_
  show Steps p.tables e below (T2.setTop (mkF m 13 #[.val (.int p0), .val (.int p1), .val (.int p2), .val (.int p3), .val (.ref b1), .unset, .unset, .unset, .unset, .unset, .unset, .unset, .unset, .unset, .unset, .unset, .unset, .unset, .unset] [(.ref b1)])) _
  refine XS.iconst X2.here hx rfl (hb hby at_13) ?_
  show Steps p.tables e below (T2.setTop (mkF m 14 #[.val (.int p0), .val (.int p1), .val (.int p2), .val (.int p3), .val (.ref b1), .unset, .unset, .unset, .unset, .unset, .unset, .unset, .unset, .unset, .unset, .unset, .unset, .unset, .unset] [(.int (1 : Int32)), (.ref b1)])) _
  refine XS.iloadN X2.here hx rfl (hb hby at_14) rfl ?_
  show Steps p.tables e below (T2.setTop (mkF m 15 #[.val (.int p0), .val (.int p1), .val (.int p2), .val (.int p3), .val (.ref b1), .unset, .unset, .unset, .unset, .unset, .unset, .unset, .unset, .unset, .unset, .unset, .unset, .unset, .unset] [(.int p0), (.int (1 : Int32)), (.ref b1)])) _
  refine XS.bipush X2.here hx rfl (hb hby at_15) ?_
  show Steps p.tables e below (T2.setTop (mkF m 17 #[.val (.int p0), .val (.int p1), .val (.int p2), .val (.int p3), .val (.ref b1), .unset, .unset, .unset, .unset, .unset, .unset, .unset, .unset, .unset, .unset, .unset, .unset, .unset, .unset] [(.int (8 : Int32)), (.int p0), (.int (1 : Int32)), (.ref b1)])) _
  refine XS.ishr X2.here hx rfl (hb hby at_17) rfl ?_
  show Steps p.tables e below (T2.setTop (mkF m 18 #[.val (.int p0), .val (.int p1), .val (.int p2), .val (.int p3), .val (.ref b1), .unset, .unset, .unset, .unset, .unset, .unset, .unset, .unset, .unset, .unset, .unset, .unset, .unset, .unset] [(.int (p0 >>> ((8 : Int32) &&& 31))), (.int (1 : Int32)), (.ref b1)])) _
  refine XS.i2b X2.here hx rfl (hb hby at_18) rfl ?_
  show Steps p.tables e below (T2.setTop (mkF m 19 #[.val (.int p0), .val (.int p1), .val (.int p2), .val (.int p3), .val (.ref b1), .unset, .unset, .unset, .unset, .unset, .unset, .unset, .unset, .unset, .unset, .unset, .unset, .unset, .unset] [(.int ((p0 >>> ((8 : Int32) &&& 31)).toInt8.toInt32)), (.int (1 : Int32)), (.ref b1)])) _
  refine st3 _ ?_
  show Steps p.tables e below (T3.setTop (mkF m 20 #[.val (.int p0), .val (.int p1), .val (.int p2), .val (.int p3), .val (.ref b1), .unset, .unset, .unset, .unset, .unset, .unset, .unset, .unset, .unset, .unset, .unset, .unset, .unset, .unset] [])) _
  refine XS.aload X3.here hx rfl (hb hby at_20) rfl rfl ?_
  show Steps p.tables e below (T3.setTop (mkF m 22 #[.val (.int p0), .val (.int p1), .val (.int p2), .val (.int p3), .val (.ref b1), .unset, .unset, .unset, .unset, .unset, .unset, .unset, .unset, .unset, .unset, .unset, .unset, .unset, .unset] [(.ref b1)])) _
  refine XS.iconst X3.here hx rfl (hb hby at_22) ?_
  show Steps p.tables e below (T3.setTop (mkF m 23 #[.val (.int p0), .val (.int p1), .val (.int p2), .val (.int p3), .val (.ref b1), .unset, .unset, .unset, .unset, .unset, .unset, .unset, .unset, .unset, .unset, .unset, .unset, .unset, .unset] [(.int (2 : Int32)), (.ref b1)])) _
  refine XS.iloadN X3.here hx rfl (hb hby at_23) rfl ?_
  show Steps p.tables e below (T3.setTop (mkF m 24 #[.val (.int p0), .val (.int p1), .val (.int p2), .val (.int p3), .val (.ref b1), .unset, .unset, .unset, .unset, .unset, .unset, .unset, .unset, .unset, .unset, .unset, .unset, .unset, .unset] [(.int p0), (.int (2 : Int32)), (.ref b1)])) _
  refine XS.bipush X3.here hx rfl (hb hby at_24) ?_
  show Steps p.tables e below (T3.setTop (mkF m 26 #[.val (.int p0), .val (.int p1), .val (.int p2), .val (.int p3), .val (.ref b1), .unset, .unset, .unset, .unset, .unset, .unset, .unset, .unset, .unset, .unset, .unset, .unset, .unset, .unset] [(.int (16 : Int32)), (.int p0), (.int (2 : Int32)), (.ref b1)])) _
  refine XS.ishr X3.here hx rfl (hb hby at_26) rfl ?_
  show Steps p.tables e below (T3.setTop (mkF m 27 #[.val (.int p0), .val (.int p1), .val (.int p2), .val (.int p3), .val (.ref b1), .unset, .unset, .unset, .unset, .unset, .unset, .unset, .unset, .unset, .unset, .unset, .unset, .unset, .unset] [(.int (p0 >>> ((16 : Int32) &&& 31))), (.int (2 : Int32)), (.ref b1)])) _
  refine XS.i2b X3.here hx rfl (hb hby at_27) rfl ?_
  show Steps p.tables e below (T3.setTop (mkF m 28 #[.val (.int p0), .val (.int p1), .val (.int p2), .val (.int p3), .val (.ref b1), .unset, .unset, .unset, .unset, .unset, .unset, .unset, .unset, .unset, .unset, .unset, .unset, .unset, .unset] [(.int ((p0 >>> ((16 : Int32) &&& 31)).toInt8.toInt32)), (.int (2 : Int32)), (.ref b1)])) _
  refine st4 _ ?_
  show Steps p.tables e below (T4.setTop (mkF m 29 #[.val (.int p0), .val (.int p1), .val (.int p2), .val (.int p3), .val (.ref b1), .unset, .unset, .unset, .unset, .unset, .unset, .unset, .unset, .unset, .unset, .unset, .unset, .unset, .unset] [])) _
  refine XS.aload X4.here hx rfl (hb hby at_29) rfl rfl ?_
  show Steps p.tables e below (T4.setTop (mkF m 31 #[.val (.int p0), .val (.int p1), .val (.int p2), .val (.int p3), .val (.ref b1), .unset, .unset, .unset, .unset, .unset, .unset, .unset, .unset, .unset, .unset, .unset, .unset, .unset, .unset] [(.ref b1)])) _
  refine XS.iconst X4.here hx rfl (hb hby at_31) ?_
  show Steps p.tables e below (T4.setTop (mkF m 32 #[.val (.int p0), .val (.int p1), .val (.int p2), .val (.int p3), .val (.ref b1), .unset, .unset, .unset, .unset, .unset, .unset, .unset, .unset, .unset, .unset, .unset, .unset, .unset, .unset] [(.int (3 : Int32)), (.ref b1)])) _
  refine XS.iloadN X4.here hx rfl (hb hby at_32) rfl ?_
  show Steps p.tables e below (T4.setTop (mkF m 33 #[.val (.int p0), .val (.int p1), .val (.int p2), .val (.int p3), .val (.ref b1), .unset, .unset, .unset, .unset, .unset, .unset, .unset, .unset, .unset, .unset, .unset, .unset, .unset, .unset] [(.int p0), (.int (3 : Int32)), (.ref b1)])) _
  refine XS.bipush X4.here hx rfl (hb hby at_33) ?_
  show Steps p.tables e below (T4.setTop (mkF m 35 #[.val (.int p0), .val (.int p1), .val (.int p2), .val (.int p3), .val (.ref b1), .unset, .unset, .unset, .unset, .unset, .unset, .unset, .unset, .unset, .unset, .unset, .unset, .unset, .unset] [(.int (24 : Int32)), (.int p0), (.int (3 : Int32)), (.ref b1)])) _
  refine XS.ishr X4.here hx rfl (hb hby at_35) rfl ?_
  show Steps p.tables e below (T4.setTop (mkF m 36 #[.val (.int p0), .val (.int p1), .val (.int p2), .val (.int p3), .val (.ref b1), .unset, .unset, .unset, .unset, .unset, .unset, .unset, .unset, .unset, .unset, .unset, .unset, .unset, .unset] [(.int (p0 >>> ((24 : Int32) &&& 31))), (.int (3 : Int32)), (.ref b1)])) _
  refine XS.i2b X4.here hx rfl (hb hby at_36) rfl ?_
  show Steps p.tables e below (T4.setTop (mkF m 37 #[.val (.int p0), .val (.int p1), .val (.int p2), .val (.int p3), .val (.ref b1), .unset, .unset, .unset, .unset, .unset, .unset, .unset, .unset, .unset, .unset, .unset, .unset, .unset, .unset] [(.int ((p0 >>> ((24 : Int32) &&& 31)).toInt8.toInt32)), (.int (3 : Int32)), (.ref b1)])) _
  refine st5 _ ?_
  show Steps p.tables e below (T5.setTop (mkF m 38 #[.val (.int p0), .val (.int p1), .val (.int p2), .val (.int p3), .val (.ref b1), .unset, .unset, .unset, .unset, .unset, .unset, .unset, .unset, .unset, .unset, .unset, .unset, .unset, .unset] [])) _
  refine XS.iloadN X5.here hx rfl (hb hby at_38) rfl ?_
  show Steps p.tables e below (T5.setTop (mkF m 39 #[.val (.int p0), .val (.int p1), .val (.int p2), .val (.int p3), .val (.ref b1), .unset, .unset, .unset, .unset, .unset, .unset, .unset, .unset, .unset, .unset, .unset, .unset, .unset, .unset] [(.int p1)])) _
  refine X5.ldcI hx hown (mvT hZ (hw _ (List.mem_of_getElem? (i := 1) rfl))) rfl (hb hby at_39) ?_
  show Steps p.tables e below (T5.setTop (mkF m 41 #[.val (.int p0), .val (.int p1), .val (.int p2), .val (.int p3), .val (.ref b1), .unset, .unset, .unset, .unset, .unset, .unset, .unset, .unset, .unset, .unset, .unset, .unset, .unset, .unset] [(.int (2147483647 : Int32)), (.int p1)])) _
  refine XS.iand X5.here hx rfl (hb hby at_41) rfl ?_
  show Steps p.tables e below (T5.setTop (mkF m 42 #[.val (.int p0), .val (.int p1), .val (.int p2), .val (.int p3), .val (.ref b1), .unset, .unset, .unset, .unset, .unset, .unset, .unset, .unset, .unset, .unset, .unset, .unset, .unset, .unset] [(.int (p1 &&& (2147483647 : Int32)))])) _
  refine XS.iconst X5.here hx rfl (hb hby at_42) ?_
  show Steps p.tables e below (T5.setTop (mkF m 43 #[.val (.int p0), .val (.int p1), .val (.int p2), .val (.int p3), .val (.ref b1), .unset, .unset, .unset, .unset, .unset, .unset, .unset, .unset, .unset, .unset, .unset, .unset, .unset, .unset] [(.int (4 : Int32)), (.int (p1 &&& (2147483647 : Int32)))])) _
  refine iremM X5 hx rfl (hb hby at_43) rfl (by decide) ?_
  show Steps p.tables e below (T5.setTop (mkF m 44 #[.val (.int p0), .val (.int p1), .val (.int p2), .val (.int p3), .val (.ref b1), .unset, .unset, .unset, .unset, .unset, .unset, .unset, .unset, .unset, .unset, .unset, .unset, .unset, .unset] [(.int ((p1 &&& (2147483647 : Int32)) % (4 : Int32)))])) _
  refine XS.istore X5.here hx rfl (hb hby at_44) rfl (l' := #[.val (.int p0), .val (.int p1), .val (.int p2), .val (.int p3), .val (.ref b1), .val (.int ((p1 &&& (2147483647 : Int32)) % (4 : Int32))), .unset, .unset, .unset, .unset, .unset, .unset, .unset, .unset, .unset, .unset, .unset, .unset, .unset]) rfl ?_
  show Steps p.tables e below (T5.setTop (mkF m 46 #[.val (.int p0), .val (.int p1), .val (.int p2), .val (.int p3), .val (.ref b1), .val (.int ((p1 &&& (2147483647 : Int32)) % (4 : Int32))), .unset, .unset, .unset, .unset, .unset, .unset, .unset, .unset, .unset, .unset, .unset, .unset, .unset] [])) _
  rw [h_of]
  show Steps p.tables e below (T5.setTop (mkF m 46 #[.val (.int p0), .val (.int p1), .val (.int p2), .val (.int p3), .val (.ref b1), .val (.int of), .unset, .unset, .unset, .unset, .unset, .unset, .unset, .unset, .unset, .unset, .unset, .unset, .unset] [])) _
  refine XS.iloadN X5.here hx rfl (hb hby at_46) rfl ?_
  show Steps p.tables e below (T5.setTop (mkF m 47 #[.val (.int p0), .val (.int p1), .val (.int p2), .val (.int p3), .val (.ref b1), .val (.int of), .unset, .unset, .unset, .unset, .unset, .unset, .unset, .unset, .unset, .unset, .unset, .unset, .unset] [(.int p2)])) _
  refine X5.ldcI hx hown (mvT hZ (hw _ (List.mem_of_getElem? (i := 1) rfl))) rfl (hb hby at_47) ?_
  show Steps p.tables e below (T5.setTop (mkF m 49 #[.val (.int p0), .val (.int p1), .val (.int p2), .val (.int p3), .val (.ref b1), .val (.int of), .unset, .unset, .unset, .unset, .unset, .unset, .unset, .unset, .unset, .unset, .unset, .unset, .unset] [(.int (2147483647 : Int32)), (.int p2)])) _
  refine XS.iand X5.here hx rfl (hb hby at_49) rfl ?_
  show Steps p.tables e below (T5.setTop (mkF m 50 #[.val (.int p0), .val (.int p1), .val (.int p2), .val (.int p3), .val (.ref b1), .val (.int of), .unset, .unset, .unset, .unset, .unset, .unset, .unset, .unset, .unset, .unset, .unset, .unset, .unset] [(.int (p2 &&& (2147483647 : Int32)))])) _
  refine XS.iconst X5.here hx rfl (hb hby at_50) ?_
  show Steps p.tables e below (T5.setTop (mkF m 51 #[.val (.int p0), .val (.int p1), .val (.int p2), .val (.int p3), .val (.ref b1), .val (.int of), .unset, .unset, .unset, .unset, .unset, .unset, .unset, .unset, .unset, .unset, .unset, .unset, .unset] [(.int (5 : Int32)), (.int (p2 &&& (2147483647 : Int32)))])) _
  refine XS.iload X5.here hx rfl (hb hby at_51) rfl ?_
  show Steps p.tables e below (T5.setTop (mkF m 53 #[.val (.int p0), .val (.int p1), .val (.int p2), .val (.int p3), .val (.ref b1), .val (.int of), .unset, .unset, .unset, .unset, .unset, .unset, .unset, .unset, .unset, .unset, .unset, .unset, .unset] [(.int of), (.int (5 : Int32)), (.int (p2 &&& (2147483647 : Int32)))])) _
  refine XS.isub X5.here hx rfl (hb hby at_53) rfl ?_
  show Steps p.tables e below (T5.setTop (mkF m 54 #[.val (.int p0), .val (.int p1), .val (.int p2), .val (.int p3), .val (.ref b1), .val (.int of), .unset, .unset, .unset, .unset, .unset, .unset, .unset, .unset, .unset, .unset, .unset, .unset, .unset] [(.int ((5 : Int32) - of)), (.int (p2 &&& (2147483647 : Int32)))])) _
  refine iremM X5 hx rfl (hb hby at_54) rfl (own_nz1 Qo) ?_
  show Steps p.tables e below (T5.setTop (mkF m 55 #[.val (.int p0), .val (.int p1), .val (.int p2), .val (.int p3), .val (.ref b1), .val (.int of), .unset, .unset, .unset, .unset, .unset, .unset, .unset, .unset, .unset, .unset, .unset, .unset, .unset] [(.int ((p2 &&& (2147483647 : Int32)) % ((5 : Int32) - of)))])) _
  refine XS.istore X5.here hx rfl (hb hby at_55) rfl (l' := #[.val (.int p0), .val (.int p1), .val (.int p2), .val (.int p3), .val (.ref b1), .val (.int of), .val (.int ((p2 &&& (2147483647 : Int32)) % ((5 : Int32) - of))), .unset, .unset, .unset, .unset, .unset, .unset, .unset, .unset, .unset, .unset, .unset, .unset]) rfl ?_
  show Steps p.tables e below (T5.setTop (mkF m 57 #[.val (.int p0), .val (.int p1), .val (.int p2), .val (.int p3), .val (.ref b1), .val (.int of), .val (.int ((p2 &&& (2147483647 : Int32)) % ((5 : Int32) - of))), .unset, .unset, .unset, .unset, .unset, .unset, .unset, .unset, .unset, .unset, .unset, .unset] [])) _
  rw [h_ln]
  show Steps p.tables e below (T5.setTop (mkF m 57 #[.val (.int p0), .val (.int p1), .val (.int p2), .val (.int p3), .val (.ref b1), .val (.int of), .val (.int ln), .unset, .unset, .unset, .unset, .unset, .unset, .unset, .unset, .unset, .unset, .unset, .unset] [])) _
  refine XS.iloadN X5.here hx rfl (hb hby at_57) rfl ?_
  show Steps p.tables e below (T5.setTop (mkF m 58 #[.val (.int p0), .val (.int p1), .val (.int p2), .val (.int p3), .val (.ref b1), .val (.int of), .val (.int ln), .unset, .unset, .unset, .unset, .unset, .unset, .unset, .unset, .unset, .unset, .unset, .unset] [(.int p3)])) _
  refine X5.ldcI hx hown (mvT hZ (hw _ (List.mem_of_getElem? (i := 1) rfl))) rfl (hb hby at_58) ?_
  show Steps p.tables e below (T5.setTop (mkF m 60 #[.val (.int p0), .val (.int p1), .val (.int p2), .val (.int p3), .val (.ref b1), .val (.int of), .val (.int ln), .unset, .unset, .unset, .unset, .unset, .unset, .unset, .unset, .unset, .unset, .unset, .unset] [(.int (2147483647 : Int32)), (.int p3)])) _
  refine XS.iand X5.here hx rfl (hb hby at_60) rfl ?_
  show Steps p.tables e below (T5.setTop (mkF m 61 #[.val (.int p0), .val (.int p1), .val (.int p2), .val (.int p3), .val (.ref b1), .val (.int of), .val (.int ln), .unset, .unset, .unset, .unset, .unset, .unset, .unset, .unset, .unset, .unset, .unset, .unset] [(.int (p3 &&& (2147483647 : Int32)))])) _
  refine XS.bipush X5.here hx rfl (hb hby at_61) ?_
  show Steps p.tables e below (T5.setTop (mkF m 63 #[.val (.int p0), .val (.int p1), .val (.int p2), .val (.int p3), .val (.ref b1), .val (.int of), .val (.int ln), .unset, .unset, .unset, .unset, .unset, .unset, .unset, .unset, .unset, .unset, .unset, .unset] [(.int (8 : Int32)), (.int (p3 &&& (2147483647 : Int32)))])) _
  refine XS.iload X5.here hx rfl (hb hby at_63) rfl ?_
  show Steps p.tables e below (T5.setTop (mkF m 65 #[.val (.int p0), .val (.int p1), .val (.int p2), .val (.int p3), .val (.ref b1), .val (.int of), .val (.int ln), .unset, .unset, .unset, .unset, .unset, .unset, .unset, .unset, .unset, .unset, .unset, .unset] [(.int ln), (.int (8 : Int32)), (.int (p3 &&& (2147483647 : Int32)))])) _
  refine XS.imul X5.here hx rfl (hb hby at_65) rfl ?_
  show Steps p.tables e below (T5.setTop (mkF m 66 #[.val (.int p0), .val (.int p1), .val (.int p2), .val (.int p3), .val (.ref b1), .val (.int of), .val (.int ln), .unset, .unset, .unset, .unset, .unset, .unset, .unset, .unset, .unset, .unset, .unset, .unset] [(.int ((8 : Int32) * ln)), (.int (p3 &&& (2147483647 : Int32)))])) _
  refine XS.iconst X5.here hx rfl (hb hby at_66) ?_
  show Steps p.tables e below (T5.setTop (mkF m 67 #[.val (.int p0), .val (.int p1), .val (.int p2), .val (.int p3), .val (.ref b1), .val (.int of), .val (.int ln), .unset, .unset, .unset, .unset, .unset, .unset, .unset, .unset, .unset, .unset, .unset, .unset] [(.int (1 : Int32)), (.int ((8 : Int32) * ln)), (.int (p3 &&& (2147483647 : Int32)))])) _
  refine XS.iadd X5.here hx rfl (hb hby at_67) rfl ?_
  show Steps p.tables e below (T5.setTop (mkF m 68 #[.val (.int p0), .val (.int p1), .val (.int p2), .val (.int p3), .val (.ref b1), .val (.int of), .val (.int ln), .unset, .unset, .unset, .unset, .unset, .unset, .unset, .unset, .unset, .unset, .unset, .unset] [(.int (((8 : Int32) * ln) + (1 : Int32))), (.int (p3 &&& (2147483647 : Int32)))])) _
  refine iremM X5 hx rfl (hb hby at_68) rfl (own_nz2 Ql Qo.1) ?_
  show Steps p.tables e below (T5.setTop (mkF m 69 #[.val (.int p0), .val (.int p1), .val (.int p2), .val (.int p3), .val (.ref b1), .val (.int of), .val (.int ln), .unset, .unset, .unset, .unset, .unset, .unset, .unset, .unset, .unset, .unset, .unset, .unset] [(.int ((p3 &&& (2147483647 : Int32)) % (((8 : Int32) * ln) + (1 : Int32))))])) _
  refine XS.istore X5.here hx rfl (hb hby at_69) rfl (l' := #[.val (.int p0), .val (.int p1), .val (.int p2), .val (.int p3), .val (.ref b1), .val (.int of), .val (.int ln), .val (.int ((p3 &&& (2147483647 : Int32)) % (((8 : Int32) * ln) + (1 : Int32)))), .unset, .unset, .unset, .unset, .unset, .unset, .unset, .unset, .unset, .unset, .unset]) rfl ?_
  show Steps p.tables e below (T5.setTop (mkF m 71 #[.val (.int p0), .val (.int p1), .val (.int p2), .val (.int p3), .val (.ref b1), .val (.int of), .val (.int ln), .val (.int ((p3 &&& (2147483647 : Int32)) % (((8 : Int32) * ln) + (1 : Int32)))), .unset, .unset, .unset, .unset, .unset, .unset, .unset, .unset, .unset, .unset, .unset] [])) _
  rw [h_kk]
  show Steps p.tables e below (T5.setTop (mkF m 71 #[.val (.int p0), .val (.int p1), .val (.int p2), .val (.int p3), .val (.ref b1), .val (.int of), .val (.int ln), .val (.int kk), .unset, .unset, .unset, .unset, .unset, .unset, .unset, .unset, .unset, .unset, .unset] [])) _
  refine st6 _ ?_
  show Steps p.tables e below (T6.setTop (mkF m 74 #[.val (.int p0), .val (.int p1), .val (.int p2), .val (.int p3), .val (.ref b1), .val (.int of), .val (.int ln), .val (.int kk), .unset, .unset, .unset, .unset, .unset, .unset, .unset, .unset, .unset, .unset, .unset] [(.ref b6)])) _
  refine XS.dup X6.here hx rfl (hb hby at_74) rfl rfl ?_
  show Steps p.tables e below (T6.setTop (mkF m 75 #[.val (.int p0), .val (.int p1), .val (.int p2), .val (.int p3), .val (.ref b1), .val (.int of), .val (.int ln), .val (.int kk), .unset, .unset, .unset, .unset, .unset, .unset, .unset, .unset, .unset, .unset, .unset] [(.ref b6), (.ref b6)])) _
  refine XS.aload X6.here hx rfl (hb hby at_75) rfl rfl ?_
  show Steps p.tables e below (T6.setTop (mkF m 77 #[.val (.int p0), .val (.int p1), .val (.int p2), .val (.int p3), .val (.ref b1), .val (.int of), .val (.int ln), .val (.int kk), .unset, .unset, .unset, .unset, .unset, .unset, .unset, .unset, .unset, .unset, .unset] [(.ref b1), (.ref b6), (.ref b6)])) _
  refine XS.iload X6.here hx rfl (hb hby at_77) rfl ?_
  show Steps p.tables e below (T6.setTop (mkF m 79 #[.val (.int p0), .val (.int p1), .val (.int p2), .val (.int p3), .val (.ref b1), .val (.int of), .val (.int ln), .val (.int kk), .unset, .unset, .unset, .unset, .unset, .unset, .unset, .unset, .unset, .unset, .unset] [(.int of), (.ref b1), (.ref b6), (.ref b6)])) _
  refine XS.iload X6.here hx rfl (hb hby at_79) rfl ?_
  show Steps p.tables e below (T6.setTop (mkF m 81 #[.val (.int p0), .val (.int p1), .val (.int p2), .val (.int p3), .val (.ref b1), .val (.int of), .val (.int ln), .val (.int kk), .unset, .unset, .unset, .unset, .unset, .unset, .unset, .unset, .unset, .unset, .unset] [(.int ln), (.int of), (.ref b1), (.ref b6), (.ref b6)])) _
  refine st8.trans ?_
  show Steps p.tables e below (T8.setTop (mkF m 84 #[.val (.int p0), .val (.int p1), .val (.int p2), .val (.int p3), .val (.ref b1), .val (.int of), .val (.int ln), .val (.int kk), .unset, .unset, .unset, .unset, .unset, .unset, .unset, .unset, .unset, .unset, .unset] [(.ref b6)])) _
  refine XS.astore X8.here hx rfl (hb hby at_84) rfl rfl (l' := #[.val (.int p0), .val (.int p1), .val (.int p2), .val (.int p3), .val (.ref b1), .val (.int of), .val (.int ln), .val (.int kk), .val (.ref b6), .unset, .unset, .unset, .unset, .unset, .unset, .unset, .unset, .unset, .unset]) rfl ?_
  show Steps p.tables e below (T8.setTop (mkF m 86 #[.val (.int p0), .val (.int p1), .val (.int p2), .val (.int p3), .val (.ref b1), .val (.int of), .val (.int ln), .val (.int kk), .val (.ref b6), .unset, .unset, .unset, .unset, .unset, .unset, .unset, .unset, .unset, .unset] [])) _
  refine XS.aload X8.here hx rfl (hb hby at_86) rfl rfl ?_
  show Steps p.tables e below (T8.setTop (mkF m 88 #[.val (.int p0), .val (.int p1), .val (.int p2), .val (.int p3), .val (.ref b1), .val (.int of), .val (.int ln), .val (.int kk), .val (.ref b6), .unset, .unset, .unset, .unset, .unset, .unset, .unset, .unset, .unset, .unset] [(.ref b6)])) _
  refine XS.iload X8.here hx rfl (hb hby at_88) rfl ?_
  show Steps p.tables e below (T8.setTop (mkF m 90 #[.val (.int p0), .val (.int p1), .val (.int p2), .val (.int p3), .val (.ref b1), .val (.int of), .val (.int ln), .val (.int kk), .val (.ref b6), .unset, .unset, .unset, .unset, .unset, .unset, .unset, .unset, .unset, .unset] [(.int kk), (.ref b6)])) _
  refine st10.trans ?_
  show Steps p.tables e below (T10.setTop (mkF m 93 #[.val (.int p0), .val (.int p1), .val (.int p2), .val (.int p3), .val (.ref b1), .val (.int of), .val (.int ln), .val (.int kk), .val (.ref b6), .unset, .unset, .unset, .unset, .unset, .unset, .unset, .unset, .unset, .unset] [(.int rv)])) _
  refine XS.pop X10.here hx rfl (hb hby at_93) rfl rfl ?_
  show Steps p.tables e below (T10.setTop (mkF m 94 #[.val (.int p0), .val (.int p1), .val (.int p2), .val (.int p3), .val (.ref b1), .val (.int of), .val (.int ln), .val (.int kk), .val (.ref b6), .unset, .unset, .unset, .unset, .unset, .unset, .unset, .unset, .unset, .unset] [])) _
  refine X10.ldc2J hx hown (mvT hZ (hw _ (List.mem_of_getElem? (i := 35) rfl))) rfl (hb hby at_94) ?_
  show Steps p.tables e below (T10.setTop (mkF m 97 #[.val (.int p0), .val (.int p1), .val (.int p2), .val (.int p3), .val (.ref b1), .val (.int of), .val (.int ln), .val (.int kk), .val (.ref b6), .unset, .unset, .unset, .unset, .unset, .unset, .unset, .unset, .unset, .unset] [(.long (8 : Int64))])) _
  refine XS.iload X10.here hx rfl (hb hby at_97) rfl ?_
  show Steps p.tables e below (T10.setTop (mkF m 99 #[.val (.int p0), .val (.int p1), .val (.int p2), .val (.int p3), .val (.ref b1), .val (.int of), .val (.int ln), .val (.int kk), .val (.ref b6), .unset, .unset, .unset, .unset, .unset, .unset, .unset, .unset, .unset, .unset] [(.int ln), (.long (8 : Int64))])) _
  refine XS.i2l X10.here hx rfl (hb hby at_99) rfl ?_
  show Steps p.tables e below (T10.setTop (mkF m 100 #[.val (.int p0), .val (.int p1), .val (.int p2), .val (.int p3), .val (.ref b1), .val (.int of), .val (.int ln), .val (.int kk), .val (.ref b6), .unset, .unset, .unset, .unset, .unset, .unset, .unset, .unset, .unset, .unset] [(.long (ln.toInt64)), (.long (8 : Int64))])) _
  refine XS.lmul X10.here hx rfl (hb hby at_100) rfl ?_
  show Steps p.tables e below (T10.setTop (mkF m 101 #[.val (.int p0), .val (.int p1), .val (.int p2), .val (.int p3), .val (.ref b1), .val (.int of), .val (.int ln), .val (.int kk), .val (.ref b6), .unset, .unset, .unset, .unset, .unset, .unset, .unset, .unset, .unset, .unset] [(.long ((8 : Int64) * (ln.toInt64)))])) _
  refine XS.iload X10.here hx rfl (hb hby at_101) rfl ?_
  show Steps p.tables e below (T10.setTop (mkF m 103 #[.val (.int p0), .val (.int p1), .val (.int p2), .val (.int p3), .val (.ref b1), .val (.int of), .val (.int ln), .val (.int kk), .val (.ref b6), .unset, .unset, .unset, .unset, .unset, .unset, .unset, .unset, .unset, .unset] [(.int kk), (.long ((8 : Int64) * (ln.toInt64)))])) _
  refine XS.i2l X10.here hx rfl (hb hby at_103) rfl ?_
  show Steps p.tables e below (T10.setTop (mkF m 104 #[.val (.int p0), .val (.int p1), .val (.int p2), .val (.int p3), .val (.ref b1), .val (.int of), .val (.int ln), .val (.int kk), .val (.ref b6), .unset, .unset, .unset, .unset, .unset, .unset, .unset, .unset, .unset, .unset] [(.long (kk.toInt64)), (.long ((8 : Int64) * (ln.toInt64)))])) _
  refine XS.lsub X10.here hx rfl (hb hby at_104) rfl ?_
  show Steps p.tables e below (T10.setTop (mkF m 105 #[.val (.int p0), .val (.int p1), .val (.int p2), .val (.int p3), .val (.ref b1), .val (.int of), .val (.int ln), .val (.int kk), .val (.ref b6), .unset, .unset, .unset, .unset, .unset, .unset, .unset, .unset, .unset, .unset] [(.long (((8 : Int64) * (ln.toInt64)) - (kk.toInt64)))])) _
  refine XS.lstore X10.here hx rfl (hb hby at_105) rfl (l' := #[.val (.int p0), .val (.int p1), .val (.int p2), .val (.int p3), .val (.ref b1), .val (.int of), .val (.int ln), .val (.int kk), .val (.ref b6), .val (.long (((8 : Int64) * (ln.toInt64)) - (kk.toInt64))), .second, .unset, .unset, .unset, .unset, .unset, .unset, .unset, .unset]) rfl ?_
  show Steps p.tables e below (T10.setTop (mkF m 107 #[.val (.int p0), .val (.int p1), .val (.int p2), .val (.int p3), .val (.ref b1), .val (.int of), .val (.int ln), .val (.int kk), .val (.ref b6), .val (.long (((8 : Int64) * (ln.toInt64)) - (kk.toInt64))), .second, .unset, .unset, .unset, .unset, .unset, .unset, .unset, .unset] [])) _
  rw [h_lft]
  show Steps p.tables e below (T10.setTop (mkF m 107 #[.val (.int p0), .val (.int p1), .val (.int p2), .val (.int p3), .val (.ref b1), .val (.int of), .val (.int ln), .val (.int kk), .val (.ref b6), .val (.long lft), .second, .unset, .unset, .unset, .unset, .unset, .unset, .unset, .unset] [])) _
  refine XS.aload X10.here hx rfl (hb hby at_107) rfl rfl ?_
  show Steps p.tables e below (T10.setTop (mkF m 109 #[.val (.int p0), .val (.int p1), .val (.int p2), .val (.int p3), .val (.ref b1), .val (.int of), .val (.int ln), .val (.int kk), .val (.ref b6), .val (.long lft), .second, .unset, .unset, .unset, .unset, .unset, .unset, .unset, .unset] [(.ref b6)])) _
  refine st12.trans ?_
  show Steps p.tables e below (T12.setTop (mkF m 112 #[.val (.int p0), .val (.int p1), .val (.int p2), .val (.int p3), .val (.ref b1), .val (.int of), .val (.int ln), .val (.int kk), .val (.ref b6), .val (.long lft), .second, .unset, .unset, .unset, .unset, .unset, .unset, .unset, .unset] [(.long (en - pt))])) _
  rw [hlq]
  show Steps p.tables e below (T12.setTop (mkF m 112 #[.val (.int p0), .val (.int p1), .val (.int p2), .val (.int p3), .val (.ref b1), .val (.int of), .val (.int ln), .val (.int kk), .val (.ref b6), .val (.long lft), .second, .unset, .unset, .unset, .unset, .unset, .unset, .unset, .unset] [(.long lft)])) _
  refine XS.lstore X12.here hx rfl (hb hby at_112) rfl (l' := #[.val (.int p0), .val (.int p1), .val (.int p2), .val (.int p3), .val (.ref b1), .val (.int of), .val (.int ln), .val (.int kk), .val (.ref b6), .val (.long lft), .second, .val (.long lft), .second, .unset, .unset, .unset, .unset, .unset, .unset]) rfl ?_
  show Steps p.tables e below (T12.setTop (mkF m 114 #[.val (.int p0), .val (.int p1), .val (.int p2), .val (.int p3), .val (.ref b1), .val (.int of), .val (.int ln), .val (.int kk), .val (.ref b6), .val (.long lft), .second, .val (.long lft), .second, .unset, .unset, .unset, .unset, .unset, .unset] [])) _
  refine XS.aload X12.here hx rfl (hb hby at_114) rfl rfl ?_
  show Steps p.tables e below (T12.setTop (mkF m 116 #[.val (.int p0), .val (.int p1), .val (.int p2), .val (.int p3), .val (.ref b1), .val (.int of), .val (.int ln), .val (.int kk), .val (.ref b6), .val (.long lft), .second, .val (.long lft), .second, .unset, .unset, .unset, .unset, .unset, .unset] [(.ref b6)])) _
  refine st14.trans ?_
  show Steps p.tables e below (T14.setTop (mkF m 119 #[.val (.int p0), .val (.int p1), .val (.int p2), .val (.int p3), .val (.ref b1), .val (.int of), .val (.int ln), .val (.int kk), .val (.ref b6), .val (.long lft), .second, .val (.long lft), .second, .unset, .unset, .unset, .unset, .unset, .unset] [(.int (1 : Int32))])) _
  refine XS.istore X14.here hx rfl (hb hby at_119) rfl (l' := #[.val (.int p0), .val (.int p1), .val (.int p2), .val (.int p3), .val (.ref b1), .val (.int of), .val (.int ln), .val (.int kk), .val (.ref b6), .val (.long lft), .second, .val (.long lft), .second, .val (.int (1 : Int32)), .unset, .unset, .unset, .unset, .unset]) rfl ?_
  show Steps p.tables e below (T14.setTop (mkF m 121 #[.val (.int p0), .val (.int p1), .val (.int p2), .val (.int p3), .val (.ref b1), .val (.int of), .val (.int ln), .val (.int kk), .val (.ref b6), .val (.long lft), .second, .val (.long lft), .second, .val (.int (1 : Int32)), .unset, .unset, .unset, .unset, .unset] [])) _
  refine XS.aload X14.here hx rfl (hb hby at_121) rfl rfl ?_
  show Steps p.tables e below (T14.setTop (mkF m 123 #[.val (.int p0), .val (.int p1), .val (.int p2), .val (.int p3), .val (.ref b1), .val (.int of), .val (.int ln), .val (.int kk), .val (.ref b6), .val (.long lft), .second, .val (.long lft), .second, .val (.int (1 : Int32)), .unset, .unset, .unset, .unset, .unset] [(.ref b6)])) _
  refine st16.trans ?_
  show Steps p.tables e below (T16.setTop (mkF m 126 #[.val (.int p0), .val (.int p1), .val (.int p2), .val (.int p3), .val (.ref b1), .val (.int of), .val (.int ln), .val (.int kk), .val (.ref b6), .val (.long lft), .second, .val (.long lft), .second, .val (.int (1 : Int32)), .unset, .unset, .unset, .unset, .unset] [(.long (en - pt))])) _
  rw [hlq]
  show Steps p.tables e below (T16.setTop (mkF m 126 #[.val (.int p0), .val (.int p1), .val (.int p2), .val (.int p3), .val (.ref b1), .val (.int of), .val (.int ln), .val (.int kk), .val (.ref b6), .val (.long lft), .second, .val (.long lft), .second, .val (.int (1 : Int32)), .unset, .unset, .unset, .unset, .unset] [(.long lft)])) _
  refine XS.lstore X16.here hx rfl (hb hby at_126) rfl (l' := #[.val (.int p0), .val (.int p1), .val (.int p2), .val (.int p3), .val (.ref b1), .val (.int of), .val (.int ln), .val (.int kk), .val (.ref b6), .val (.long lft), .second, .val (.long lft), .second, .val (.int (1 : Int32)), .val (.long lft), .second, .unset, .unset, .unset]) rfl ?_
  show Steps p.tables e below (T16.setTop (mkF m 128 #[.val (.int p0), .val (.int p1), .val (.int p2), .val (.int p3), .val (.ref b1), .val (.int of), .val (.int ln), .val (.int kk), .val (.ref b6), .val (.long lft), .second, .val (.long lft), .second, .val (.int (1 : Int32)), .val (.long lft), .second, .unset, .unset, .unset] [])) _
  refine XS.lload X16.here hx rfl (hb hby at_128) rfl ?_
  show Steps p.tables e below (T16.setTop (mkF m 130 #[.val (.int p0), .val (.int p1), .val (.int p2), .val (.int p3), .val (.ref b1), .val (.int of), .val (.int ln), .val (.int kk), .val (.ref b6), .val (.long lft), .second, .val (.long lft), .second, .val (.int (1 : Int32)), .val (.long lft), .second, .unset, .unset, .unset] [(.long lft)])) _
  refine XS.lconst X16.here hx rfl (hb hby at_130) ?_
  show Steps p.tables e below (T16.setTop (mkF m 131 #[.val (.int p0), .val (.int p1), .val (.int p2), .val (.int p3), .val (.ref b1), .val (.int of), .val (.int ln), .val (.int kk), .val (.ref b6), .val (.long lft), .second, .val (.long lft), .second, .val (.int (1 : Int32)), .val (.long lft), .second, .unset, .unset, .unset] [(.long (0 : Int64)), (.long lft)])) _
  refine XS.lcmp X16.here hx rfl (hb hby at_131) rfl ?_
  show Steps p.tables e below (T16.setTop (mkF m 132 #[.val (.int p0), .val (.int p1), .val (.int p2), .val (.int p3), .val (.ref b1), .val (.int of), .val (.int ln), .val (.int kk), .val (.ref b6), .val (.long lft), .second, .val (.long lft), .second, .val (.int (1 : Int32)), .val (.long lft), .second, .unset, .unset, .unset] [(.int (lcmpW lft (0 : Int64)))])) _
  refine XS.ifNo X16.here hx rfl (hb hby at_132) rfl ((if0 _ _).trans (teq ((lw_eq lft (0 : Int64)).mpr hz)).2) ?_
  show Steps p.tables e below (T16.setTop (mkF m 135 #[.val (.int p0), .val (.int p1), .val (.int p2), .val (.int p3), .val (.ref b1), .val (.int of), .val (.int ln), .val (.int kk), .val (.ref b6), .val (.long lft), .second, .val (.long lft), .second, .val (.int (1 : Int32)), .val (.long lft), .second, .unset, .unset, .unset] [])) _
  refine XS.iconst X16.here hx rfl (hb hby at_135) ?_
  show Steps p.tables e below (T16.setTop (mkF m 136 #[.val (.int p0), .val (.int p1), .val (.int p2), .val (.int p3), .val (.ref b1), .val (.int of), .val (.int ln), .val (.int kk), .val (.ref b6), .val (.long lft), .second, .val (.long lft), .second, .val (.int (1 : Int32)), .val (.long lft), .second, .unset, .unset, .unset] [(.int (1 : Int32))])) _
  refine XS.istore X16.here hx rfl (hb hby at_136) rfl (l' := #[.val (.int p0), .val (.int p1), .val (.int p2), .val (.int p3), .val (.ref b1), .val (.int of), .val (.int ln), .val (.int kk), .val (.ref b6), .val (.long lft), .second, .val (.long lft), .second, .val (.int (1 : Int32)), .val (.long lft), .second, .val (.int (1 : Int32)), .unset, .unset]) rfl ?_
  show Steps p.tables e below (T16.setTop (mkF m 138 #[.val (.int p0), .val (.int p1), .val (.int p2), .val (.int p3), .val (.ref b1), .val (.int of), .val (.int ln), .val (.int kk), .val (.ref b6), .val (.long lft), .second, .val (.long lft), .second, .val (.int (1 : Int32)), .val (.long lft), .second, .val (.int (1 : Int32)), .unset, .unset] [])) _
  refine XS.goto X16.here hx rfl (pc0 := 138) (pc' := 196) rfl (hb hby at_138) (by decide) (by decide) ?_
  show Steps p.tables e below (T16.setTop (mkF m 196 #[.val (.int p0), .val (.int p1), .val (.int p2), .val (.int p3), .val (.ref b1), .val (.int of), .val (.int ln), .val (.int kk), .val (.ref b6), .val (.long lft), .second, .val (.long lft), .second, .val (.int (1 : Int32)), .val (.long lft), .second, .val (.int (1 : Int32)), .unset, .unset] [])) _
  refine XS.lload X16.here hx rfl (hb hby at_196) rfl ?_
  show Steps p.tables e below (T16.setTop (mkF m 198 #[.val (.int p0), .val (.int p1), .val (.int p2), .val (.int p3), .val (.ref b1), .val (.int of), .val (.int ln), .val (.int kk), .val (.ref b6), .val (.long lft), .second, .val (.long lft), .second, .val (.int (1 : Int32)), .val (.long lft), .second, .val (.int (1 : Int32)), .unset, .unset] [(.long lft)])) _
  refine XS.lload X16.here hx rfl (hb hby at_198) rfl ?_
  show Steps p.tables e below (T16.setTop (mkF m 200 #[.val (.int p0), .val (.int p1), .val (.int p2), .val (.int p3), .val (.ref b1), .val (.int of), .val (.int ln), .val (.int kk), .val (.ref b6), .val (.long lft), .second, .val (.long lft), .second, .val (.int (1 : Int32)), .val (.long lft), .second, .val (.int (1 : Int32)), .unset, .unset] [(.long lft), (.long lft)])) _
  refine XS.lcmp X16.here hx rfl (hb hby at_200) rfl ?_
  show Steps p.tables e below (T16.setTop (mkF m 201 #[.val (.int p0), .val (.int p1), .val (.int p2), .val (.int p3), .val (.ref b1), .val (.int of), .val (.int ln), .val (.int kk), .val (.ref b6), .val (.long lft), .second, .val (.long lft), .second, .val (.int (1 : Int32)), .val (.long lft), .second, .val (.int (1 : Int32)), .unset, .unset] [(.int (lcmpW lft lft))])) _
  refine XS.ifNo X16.here hx rfl (hb hby at_201) rfl ((if0 _ _).trans (teq ((lw_eq lft lft).mpr (rfl : lft = lft))).2) ?_
  show Steps p.tables e below (T16.setTop (mkF m 204 #[.val (.int p0), .val (.int p1), .val (.int p2), .val (.int p3), .val (.ref b1), .val (.int of), .val (.int ln), .val (.int kk), .val (.ref b6), .val (.long lft), .second, .val (.long lft), .second, .val (.int (1 : Int32)), .val (.long lft), .second, .val (.int (1 : Int32)), .unset, .unset] [])) _
  refine XS.lload X16.here hx rfl (hb hby at_204) rfl ?_
  show Steps p.tables e below (T16.setTop (mkF m 206 #[.val (.int p0), .val (.int p1), .val (.int p2), .val (.int p3), .val (.ref b1), .val (.int of), .val (.int ln), .val (.int kk), .val (.ref b6), .val (.long lft), .second, .val (.long lft), .second, .val (.int (1 : Int32)), .val (.long lft), .second, .val (.int (1 : Int32)), .unset, .unset] [(.long lft)])) _
  refine XS.lload X16.here hx rfl (hb hby at_206) rfl ?_
  show Steps p.tables e below (T16.setTop (mkF m 208 #[.val (.int p0), .val (.int p1), .val (.int p2), .val (.int p3), .val (.ref b1), .val (.int of), .val (.int ln), .val (.int kk), .val (.ref b6), .val (.long lft), .second, .val (.long lft), .second, .val (.int (1 : Int32)), .val (.long lft), .second, .val (.int (1 : Int32)), .unset, .unset] [(.long lft), (.long lft)])) _
  refine XS.lcmp X16.here hx rfl (hb hby at_208) rfl ?_
  show Steps p.tables e below (T16.setTop (mkF m 209 #[.val (.int p0), .val (.int p1), .val (.int p2), .val (.int p3), .val (.ref b1), .val (.int of), .val (.int ln), .val (.int kk), .val (.ref b6), .val (.long lft), .second, .val (.long lft), .second, .val (.int (1 : Int32)), .val (.long lft), .second, .val (.int (1 : Int32)), .unset, .unset] [(.int (lcmpW lft lft))])) _
  refine XS.ifNo X16.here hx rfl (hb hby at_209) rfl ((if0 _ _).trans (teq ((lw_eq lft lft).mpr (rfl : lft = lft))).2) ?_
  show Steps p.tables e below (T16.setTop (mkF m 212 #[.val (.int p0), .val (.int p1), .val (.int p2), .val (.int p3), .val (.ref b1), .val (.int of), .val (.int ln), .val (.int kk), .val (.ref b6), .val (.long lft), .second, .val (.long lft), .second, .val (.int (1 : Int32)), .val (.long lft), .second, .val (.int (1 : Int32)), .unset, .unset] [])) _
  refine XS.iload X16.here hx rfl (hb hby at_212) rfl ?_
  show Steps p.tables e below (T16.setTop (mkF m 214 #[.val (.int p0), .val (.int p1), .val (.int p2), .val (.int p3), .val (.ref b1), .val (.int of), .val (.int ln), .val (.int kk), .val (.ref b6), .val (.long lft), .second, .val (.long lft), .second, .val (.int (1 : Int32)), .val (.long lft), .second, .val (.int (1 : Int32)), .unset, .unset] [(.int (1 : Int32))])) _
  refine XS.iload X16.here hx rfl (hb hby at_214) rfl ?_
  show Steps p.tables e below (T16.setTop (mkF m 216 #[.val (.int p0), .val (.int p1), .val (.int p2), .val (.int p3), .val (.ref b1), .val (.int of), .val (.int ln), .val (.int kk), .val (.ref b6), .val (.long lft), .second, .val (.long lft), .second, .val (.int (1 : Int32)), .val (.long lft), .second, .val (.int (1 : Int32)), .unset, .unset] [(.int (1 : Int32)), (.int (1 : Int32))])) _
  refine XS.icmpNo X16.here hx rfl (hb hby at_216) rfl (teq (rfl : (1 : Int32) = (1 : Int32))).2 ?_
  show Steps p.tables e below (T16.setTop (mkF m 219 #[.val (.int p0), .val (.int p1), .val (.int p2), .val (.int p3), .val (.ref b1), .val (.int of), .val (.int ln), .val (.int kk), .val (.ref b6), .val (.long lft), .second, .val (.long lft), .second, .val (.int (1 : Int32)), .val (.long lft), .second, .val (.int (1 : Int32)), .unset, .unset] [])) _
  refine XS.iconst X16.here hx rfl (hb hby at_219) ?_
  show Steps p.tables e below (T16.setTop (mkF m 220 #[.val (.int p0), .val (.int p1), .val (.int p2), .val (.int p3), .val (.ref b1), .val (.int of), .val (.int ln), .val (.int kk), .val (.ref b6), .val (.long lft), .second, .val (.long lft), .second, .val (.int (1 : Int32)), .val (.long lft), .second, .val (.int (1 : Int32)), .unset, .unset] [(.int (1 : Int32))])) _
  refine XS.goto X16.here hx rfl (pc0 := 220) (pc' := 224) rfl (hb hby at_220) (by decide) (by decide) ?_
  show Steps p.tables e below (T16.setTop (mkF m 224 #[.val (.int p0), .val (.int p1), .val (.int p2), .val (.int p3), .val (.ref b1), .val (.int of), .val (.int ln), .val (.int kk), .val (.ref b6), .val (.long lft), .second, .val (.long lft), .second, .val (.int (1 : Int32)), .val (.long lft), .second, .val (.int (1 : Int32)), .unset, .unset] [(.int (1 : Int32))])) _
  exact retN X16 hx (t := .boolean) Bd.returns (by simp) (hb hby at_224) hr
def Q0b (Z : State) (p0 : Int32) (p1 : Int32) (p2 : Int32) (p3 : Int32) (of : Int32) (ln : Int32) (kk : Int32) (lft : Int64) (f : Nat → Int32) (h0 : Heap) (n0 : Nat) (v : Option Value) (h : Heap) (L : List Loc) : Prop := v = some (.int (1 : Int32)) ∧ Fr n0 L
set_option maxRecDepth 65536 in
set_option maxHeartbeats 40000000 in
theorem rm0b (l : Launch) (Z : State) (a0 : Array Value) (hw : ∀ d ∈ tables_1, d.before a0 Z = true) (ws : List Jvm.Cond) (p0 : Int32) (p1 : Int32) (p2 : Int32) (p3 : Int32) (of : Int32) (ln : Int32) (kk : Int32) (lft : Int64) (f : Nat → Int32) (h0 : Heap) (n0 : Nat) (Z0 : n0 ≤ h0.size) (h_of : ((p1 &&& (2147483647 : Int32)) % (4 : Int32)) = of) (h_ln : ((p2 &&& (2147483647 : Int32)) % ((5 : Int32) - of)) = ln) (h_kk : ((p3 &&& (2147483647 : Int32)) % (((8 : Int32) * ln) + (1 : Int32))) = kk) (h_lft : (((8 : Int64) * (ln.toInt64)) - (kk.toInt64)) = lft) (hf : (own_up (own_up (own_up (own_up (fun _ => 0) 0 ((p0.toInt8.toInt32)).toInt8.toInt32) 1 (((p0 >>> ((8 : Int32) &&& 31)).toInt8.toInt32)).toInt8.toInt32) 2 (((p0 >>> ((16 : Int32) &&& 31)).toInt8.toInt32)).toInt8.toInt32) 3 (((p0 >>> ((24 : Int32) &&& 31)).toInt8.toInt32)).toInt8.toInt32) = f) (hz : ¬ lft = (0 : Int64)) (h8 : ¬ lft < (8 : Int64)) :
    MetFree l x (head1 (Jvm.Cond.code x code maxLocals ret :: ws) room_1) (fun a_ U_ => a_ = #[(.int p0), (.int p1), (.int p2), (.int p3)] ∧ Z.Warmed39 U_.vm ∧ U_.heap = h0) (fun _ _ _ _ _ => True) (fun _ U_ o_ U' => ∃ v_ L_, o_ = .returned v_ ∧ (Q0b Z p0 p1 p2 p3 of ln kk lft f h0 n0 v_ U'.heap L_) ∧ FrameEnd U_ o_ U' L_ room_1.cells room_1.slots) := by
  refine MetFree.of_bodySF (plainFor_of_name pn_0) hisR ?_
  intro p e s m args below meth c s₁ Bd hml0 hP hK
  obtain ⟨rfl, hZ, hh⟩ := hP
  have hx := Bd.exec
  have hby := Bd.bytes
  have hml : c.maxLocals = 19 := hml0
  have hown : s.vm.findClass "com/example/fewbits/fewbits/BitReaderOnlyPaddingLeftPinLaw" = some m.cls := findClass_of_methodNamed Bd.named
  have hnm := (name_of_methodNamed Bd.named Bd.method).1
  have X0 : Stand p l e room_1 s m #[(.int p0), (.int p1), (.int p2), (.int p3)] below meth c s₁ [] 0 0 := Stand.of_body Bd
  have e0 : s₁.heap = h0 := by rw [← hh, Bd.state]; rfl
  have N0 := Fr.nil n0
  have pre0 : ∀ t, Steps p.tables e below (s₁.setTop (mkF m 0 #[.val (.int p0), .val (.int p1), .val (.int p2), .val (.int p3), .unset, .unset, .unset, .unset, .unset, .unset, .unset, .unset, .unset, .unset, .unset, .unset, .unset, .unset, .unset] [])) t → Steps p.tables e below (s₁.setTop (entryFrame m #[(.int p0), (.int p1), (.int p2), (.int p3)] maxLocals)) t := fun t k => castTop (ef_0 m p0 p1 p2 p3) k
  obtain ⟨T1, h1, X1, e1, E1, A1, st1⟩ := own_newI X0 hx hZ (hw _ (List.mem_of_getElem? (i := 0) rfl)) rfl e0 (g := (mkF m 1 #[.val (.int p0), .val (.int p1), .val (.int p2), .val (.int p3), .unset, .unset, .unset, .unset, .unset, .unset, .unset, .unset, .unset, .unset, .unset, .unset, .unset, .unset, .unset] [(.int (4 : Int32))])) rfl (hb hby at_1) rfl (by decide) (cap := 4) (by decide) (by decide) (by decide) (by decide)
  obtain ⟨b1, g1⟩ : ∃ z, z = h0.size := ⟨_, rfl⟩
  rw [← g1] at A1 st1
  have f_b1 : n0 ≤ b1 := Nat.le_trans Z0 (Nat.le_of_eq g1.symm)
  have s_b1 : h0.size ≤ b1 := Nat.le_trans (Keep.refl h0 []).1 (Nat.le_of_eq g1.symm)
  have K1 : Keep h0 h1 [] := (Keep.refl h0 []).ext E1
  have Z1 : n0 ≤ h1.size := Nat.le_trans Z0 E1.1
  obtain ⟨T2, h2, X2, e2, W2, A2, st2⟩ := own_stB X1 hx hZ e1 A1 (j := (0 : Int32)) ⟨by decide, by decide⟩ (g := (mkF m 10 #[.val (.int p0), .val (.int p1), .val (.int p2), .val (.int p3), .val (.ref b1), .unset, .unset, .unset, .unset, .unset, .unset, .unset, .unset, .unset, .unset, .unset, .unset, .unset, .unset] [(.int (p0.toInt8.toInt32)), (.int (0 : Int32)), (.ref b1)])) rfl rfl (hb hby at_10)
  have N2 := Fr.snoc X2 N0 f_b1
  have K2 : Keep h0 h2 [] := K1.wr W2 (Or.inr s_b1)
  have Z2 : n0 ≤ h2.size := Nat.le_trans Z1 (Nat.le_of_eq (W2.size).symm)
  obtain ⟨T3, h3, X3, e3, W3, A3, st3⟩ := own_stB X2 hx hZ e2 A2 (j := (1 : Int32)) ⟨by decide, by decide⟩ (g := (mkF m 19 #[.val (.int p0), .val (.int p1), .val (.int p2), .val (.int p3), .val (.ref b1), .unset, .unset, .unset, .unset, .unset, .unset, .unset, .unset, .unset, .unset, .unset, .unset, .unset, .unset] [(.int ((p0 >>> ((8 : Int32) &&& 31)).toInt8.toInt32)), (.int (1 : Int32)), (.ref b1)])) rfl rfl (hb hby at_19)
  have N3 := Fr.snoc X3 N2 f_b1
  have K3 : Keep h0 h3 [] := K2.wr W3 (Or.inr s_b1)
  have Z3 : n0 ≤ h3.size := Nat.le_trans Z2 (Nat.le_of_eq (W3.size).symm)
  obtain ⟨T4, h4, X4, e4, W4, A4, st4⟩ := own_stB X3 hx hZ e3 A3 (j := (2 : Int32)) ⟨by decide, by decide⟩ (g := (mkF m 28 #[.val (.int p0), .val (.int p1), .val (.int p2), .val (.int p3), .val (.ref b1), .unset, .unset, .unset, .unset, .unset, .unset, .unset, .unset, .unset, .unset, .unset, .unset, .unset, .unset] [(.int ((p0 >>> ((16 : Int32) &&& 31)).toInt8.toInt32)), (.int (2 : Int32)), (.ref b1)])) rfl rfl (hb hby at_28)
  have N4 := Fr.snoc X4 N3 f_b1
  have K4 : Keep h0 h4 [] := K3.wr W4 (Or.inr s_b1)
  have Z4 : n0 ≤ h4.size := Nat.le_trans Z3 (Nat.le_of_eq (W4.size).symm)
  obtain ⟨T5, h5, X5, e5, W5, A5, st5⟩ := own_stB X4 hx hZ e4 A4 (j := (3 : Int32)) ⟨by decide, by decide⟩ (g := (mkF m 37 #[.val (.int p0), .val (.int p1), .val (.int p2), .val (.int p3), .val (.ref b1), .unset, .unset, .unset, .unset, .unset, .unset, .unset, .unset, .unset, .unset, .unset, .unset, .unset, .unset] [(.int ((p0 >>> ((24 : Int32) &&& 31)).toInt8.toInt32)), (.int (3 : Int32)), (.ref b1)])) rfl rfl (hb hby at_37)
  have N5 := Fr.snoc X5 N4 f_b1
  have K5 : Keep h0 h5 [] := K4.wr W5 (Or.inr s_b1)
  have Z5 : n0 ≤ h5.size := Nat.le_trans Z4 (Nat.le_of_eq (W5.size).symm)
  have Qo := own_off h_of
  have Ql := own_ln Qo h_ln
  have Qk := own_kk Ql Qo.1 h_kk
  have AF : own_AI Z h5 b1 .byte (4 : Int32) f := hf ▸ A5
  obtain ⟨T6, h6, X6, e6, E6, A6, D6, -, st6⟩ := newO X5 hx hZ hown (hw _ (List.mem_of_getElem? (i := 2) rfl)) (hw _ (List.mem_of_getElem? (i := 3) rfl)) (hw _ (List.mem_of_getElem? (i := 4) rfl)) e5 (g := (mkF m 71 #[.val (.int p0), .val (.int p1), .val (.int p2), .val (.int p3), .val (.ref b1), .val (.int of), .val (.int ln), .val (.int kk), .unset, .unset, .unset, .unset, .unset, .unset, .unset, .unset, .unset, .unset, .unset] [])) rfl (hb hby at_71) (by decide) (by decide)
  obtain ⟨b6, g6⟩ : ∃ z, z = h5.size := ⟨_, rfl⟩
  rw [← g6] at A6 D6 st6
  have f_b6 : n0 ≤ b6 := Nat.le_trans Z5 (Nat.le_of_eq g6.symm)
  have s_b6 : h0.size ≤ b6 := Nat.le_trans K5.1 (Nat.le_of_eq g6.symm)
  have K6 : Keep h0 h6 [] := K5.ext E6
  have A6_b1 := AF.ext E6
  have O6 : own_Br Z h6 b6 .null (.long (0 : Int64)) (.long (0 : Int64)) := ⟨A6, D6 (Or.inr (hw _ (List.mem_of_getElem? (i := 20) rfl))) (ty := (.array .byte)) (by decide), D6 (Or.inl (hw _ (List.mem_of_getElem? (i := 23) rfl))) (ty := .long) (by decide), D6 (Or.inr (hw _ (List.mem_of_getElem? (i := 25) rfl))) (ty := .long) (by decide)⟩
  have Z6 : n0 ≤ h6.size := Nat.le_trans Z5 E6.1
  obtain ⟨Lg7, Xg7, Ng7⟩ := own_gen X6 N5
  obtain ⟨_, _, ⟨T8, L8, k8, n8⟩, -, X8, ⟨Lc8, hQ8, l8, y8, z8⟩, st8⟩ := Xg7.specialBack hx (y := (⟨"com/example/fewbits/fewbits/BitReader", "<init>", "([BII)V"⟩ : MethodName)) rfl hown (mvT hZ (hw _ (List.mem_of_getElem? (i := 5) rfl))) (mvT hZ (hw _ (List.mem_of_getElem? (i := 6) rfl))) (mvT hZ (hw _ (List.mem_of_getElem? (i := 7) rfl))) (by decide) (backOf (W := 1) (rm3 l Z a0 hw [] b6 b1 of ln f h6 n0 Z6 f_b6 O6 A6_b1 (own_chk1 Qo Ql) (own_chk2 Qo Ql)) hZ (hw _ (List.mem_of_getElem? (i := 7) rfl)) (hw _ (List.mem_of_getElem? (i := 4) rfl)) (by decide) (by decide)) (g := (mkF m 81 #[.val (.int p0), .val (.int p1), .val (.int p2), .val (.int p3), .val (.ref b1), .val (.int of), .val (.int ln), .val (.int kk), .unset, .unset, .unset, .unset, .unset, .unset, .unset, .unset, .unset, .unset, .unset] [(.int ln), (.int of), (.ref b1), (.ref b6), (.ref b6)])) rfl (by rw [hml]; rfl) (Steps.refl _) (a := b6) (argsL := [(.ref b1), (.int of), (.int ln)]) (rest := [(.ref b6)]) (lenOf pd_4 rfl) rfl (by show 2 * 0 + _ ≤ _; exact Nat.le_of_eq rfl) (hb hby at_81) (fun _ _ => ⟨rfl, e6, (by decide : 2 + 0 ≤ _), (by decide : 7 + 0 ≤ _)⟩)
  dsimp only [Pt.U, Pt.locs, Pt.cells, Pt.slots] at X8 l8 y8 z8 st8 hQ8
  subst l8 y8 z8
  obtain ⟨rfl, Nq8, Kq8, Oq8⟩ := hQ8
  have N8 := Fr.app Ng7 Nq8
  have Z8 : n0 ≤ T8.heap.size := Nat.le_trans Z6 Kq8.1
  have AA8 := A6_b1.keep Kq8 (ninS (own_ne_obj O6.1 (hw _ (List.mem_of_getElem? (i := 3) rfl)) A6_b1).symm nin0)
  obtain ⟨ps, h_ps⟩ : ∃ z, ((of.toInt64) * (8 : Int64)) = z := ⟨_, rfl⟩
  obtain ⟨en, h_en⟩ : ∃ z, (((of.toInt64) + (ln.toInt64)) * (8 : Int64)) = z := ⟨_, rfl⟩
  rw [h_ps, h_en] at Oq8
  have Qp := own_pos Qo h_ps
  have Qe := own_end Qo Ql h_en
  obtain ⟨Lg9, Xg9, Ng9⟩ := own_gen X8 N8
  obtain ⟨cq10, kq10, qa10, qb10, qc10⟩ := isOf hZ rfl Oq8.1
  obtain ⟨_, _, ⟨T10, L10, k10, n10⟩, -, X10, ⟨Lc10, hQ10, l10, y10, z10⟩, st10⟩ := Xg9.virtualBack hx (y := (⟨"com/example/fewbits/fewbits/BitReader", "readBits", "(I)I"⟩ : MethodName)) (z := (⟨"com/example/fewbits/fewbits/BitReader", "readBits", "(I)I"⟩ : MethodName)) hown (mvT hZ (hw _ (List.mem_of_getElem? (i := 26) rfl))) (mvT hZ (hw _ (List.mem_of_getElem? (i := 27) rfl))) (notFace_of_selects (args := #[]) (mvT hZ (hw _ (List.mem_of_getElem? (i := 29) rfl)))) (mvT hZ (hw _ (List.mem_of_getElem? (i := 29) rfl))) (mvT hZ (hw _ (List.mem_of_getElem? (i := 28) rfl))) (by decide) (backOf (W := 0) (rm6 l Z a0 hw [] b6 kk b1 f ps en _ _ T8.heap n0 Z8 f_b6 Oq8 AA8 Qp rfl (own_r1 Qo) (own_r2 Ql Qk) (own_r3 Qo Ql Qk) (own_r4 Ql Qk) (own_r5 Qo Ql Qk) (own_r6 Qo Ql Qk Qp Qe)) hZ (hw _ (List.mem_of_getElem? (i := 30) rfl)) (hw _ (List.mem_of_getElem? (i := 4) rfl)) (by decide) (by decide)) qa10 qc10 (g := (mkF m 90 #[.val (.int p0), .val (.int p1), .val (.int p2), .val (.int p3), .val (.ref b1), .val (.int of), .val (.int ln), .val (.int kk), .val (.ref b6), .unset, .unset, .unset, .unset, .unset, .unset, .unset, .unset, .unset, .unset] [(.int kk), (.ref b6)])) rfl (by rw [hml]; rfl) (Steps.refl _) (argsL := [(.int kk)]) (rest := []) (lenOf pd_5 rfl) rfl (by show 2 * 0 + _ ≤ _; exact Nat.le_of_eq rfl) (hb hby at_90) (fun _ _ => ⟨rfl, rfl, (by decide : 2 + 0 ≤ _), (by decide : 7 + 0 ≤ _)⟩)
  dsimp only [Pt.U, Pt.locs, Pt.cells, Pt.slots] at X10 l10 y10 z10 st10 hQ10
  subst l10 y10 z10
  obtain ⟨⟨rv, rfl⟩, Nq10, Kq10, ⟨pt, Qt, Oq10⟩, Aq10⟩ := hQ10
  have N10 := Fr.app Ng9 Nq10
  have Z10 : n0 ≤ T10.heap.size := Nat.le_trans Z8 Kq10.1
  have hlq := own_left Qo Ql Qk Qt Qe h_lft
  obtain ⟨Lg11, Xg11, Ng11⟩ := own_gen X10 N10
  obtain ⟨cq12, kq12, qa12, qb12, qc12⟩ := isOf hZ rfl Oq10.1
  obtain ⟨_, _, ⟨T12, L12, k12, n12⟩, -, X12, ⟨Lc12, hQ12, l12, y12, z12⟩, st12⟩ := Xg11.virtualBack hx (y := (⟨"com/example/fewbits/fewbits/BitReader", "getBitsLeft", "()J"⟩ : MethodName)) (z := (⟨"com/example/fewbits/fewbits/BitReader", "getBitsLeft", "()J"⟩ : MethodName)) hown (mvT hZ (hw _ (List.mem_of_getElem? (i := 36) rfl))) (mvT hZ (hw _ (List.mem_of_getElem? (i := 37) rfl))) (notFace_of_selects (args := #[]) (mvT hZ (hw _ (List.mem_of_getElem? (i := 39) rfl)))) (mvT hZ (hw _ (List.mem_of_getElem? (i := 39) rfl))) (mvT hZ (hw _ (List.mem_of_getElem? (i := 38) rfl))) (by decide) (backOf (W := 0) (rm7 l Z a0 hw [] b6 b1 pt en T10.heap n0 Z10 Oq10) hZ (hw _ (List.mem_of_getElem? (i := 40) rfl)) (hw _ (List.mem_of_getElem? (i := 4) rfl)) (by decide) (by decide)) qa12 qc12 (g := (mkF m 109 #[.val (.int p0), .val (.int p1), .val (.int p2), .val (.int p3), .val (.ref b1), .val (.int of), .val (.int ln), .val (.int kk), .val (.ref b6), .val (.long lft), .second, .unset, .unset, .unset, .unset, .unset, .unset, .unset, .unset] [(.ref b6)])) rfl (by rw [hml]; rfl) (Steps.refl _) (argsL := []) (rest := []) (lenOf pd_6 rfl) rfl (by show 2 * 0 + _ ≤ _; exact Nat.le_of_eq rfl) (hb hby at_109) (fun _ _ => ⟨rfl, rfl, (by decide : 2 + 0 ≤ _), (by decide : 7 + 0 ≤ _)⟩)
  dsimp only [Pt.U, Pt.locs, Pt.cells, Pt.slots] at X12 l12 y12 z12 st12 hQ12
  subst l12 y12 z12
  obtain ⟨rfl, Nq12, e12⟩ := hQ12
  have N12 := Fr.app Ng11 Nq12
  obtain ⟨Lg13, Xg13, Ng13⟩ := own_gen X12 N12
  obtain ⟨cq14, kq14, qa14, qb14, qc14⟩ := isOf hZ e12 Oq10.1
  obtain ⟨_, _, ⟨T14, L14, k14, n14⟩, -, X14, ⟨Lc14, hQ14, l14, y14, z14⟩, st14⟩ := Xg13.virtualBack hx (y := (⟨"com/example/fewbits/fewbits/BitReader", "onlyPaddingLeft", "()Z"⟩ : MethodName)) (z := (⟨"com/example/fewbits/fewbits/BitReader", "onlyPaddingLeft", "()Z"⟩ : MethodName)) hown (mvT hZ (hw _ (List.mem_of_getElem? (i := 41) rfl))) (mvT hZ (hw _ (List.mem_of_getElem? (i := 42) rfl))) (notFace_of_selects (args := #[]) (mvT hZ (hw _ (List.mem_of_getElem? (i := 44) rfl)))) (mvT hZ (hw _ (List.mem_of_getElem? (i := 44) rfl))) (mvT hZ (hw _ (List.mem_of_getElem? (i := 43) rfl))) (by decide) (backOf (W := 0) (rm8b l Z a0 hw [] b6 b1 f pt en T10.heap n0 Z10 Oq10 Aq10 (fun q => hz (hlq.symm.trans q)) (fun q => h8 (hlq ▸ q))) hZ (hw _ (List.mem_of_getElem? (i := 45) rfl)) (hw _ (List.mem_of_getElem? (i := 4) rfl)) (by decide) (by decide)) qa14 qc14 (g := (mkF m 116 #[.val (.int p0), .val (.int p1), .val (.int p2), .val (.int p3), .val (.ref b1), .val (.int of), .val (.int ln), .val (.int kk), .val (.ref b6), .val (.long lft), .second, .val (.long lft), .second, .unset, .unset, .unset, .unset, .unset, .unset] [(.ref b6)])) rfl (by rw [hml]; rfl) (Steps.refl _) (argsL := []) (rest := []) (lenOf pd_7 rfl) rfl (by show 2 * 0 + _ ≤ _; exact Nat.le_of_eq rfl) (hb hby at_116) (fun _ _ => ⟨rfl, e12, (by decide : 2 + 0 ≤ _), (by decide : 7 + 0 ≤ _)⟩)
  dsimp only [Pt.U, Pt.locs, Pt.cells, Pt.slots] at X14 l14 y14 z14 st14 hQ14
  subst l14 y14 z14
  obtain ⟨rfl, Nq14, e14⟩ := hQ14
  have N14 := Fr.app Ng13 Nq14
  obtain ⟨Lg15, Xg15, Ng15⟩ := own_gen X14 N14
  obtain ⟨cq16, kq16, qa16, qb16, qc16⟩ := isOf hZ e14 Oq10.1
  obtain ⟨_, _, ⟨T16, L16, k16, n16⟩, -, X16, ⟨Lc16, hQ16, l16, y16, z16⟩, st16⟩ := Xg15.virtualBack hx (y := (⟨"com/example/fewbits/fewbits/BitReader", "getBitsLeft", "()J"⟩ : MethodName)) (z := (⟨"com/example/fewbits/fewbits/BitReader", "getBitsLeft", "()J"⟩ : MethodName)) hown (mvT hZ (hw _ (List.mem_of_getElem? (i := 36) rfl))) (mvT hZ (hw _ (List.mem_of_getElem? (i := 37) rfl))) (notFace_of_selects (args := #[]) (mvT hZ (hw _ (List.mem_of_getElem? (i := 39) rfl)))) (mvT hZ (hw _ (List.mem_of_getElem? (i := 39) rfl))) (mvT hZ (hw _ (List.mem_of_getElem? (i := 38) rfl))) (by decide) (backOf (W := 0) (rm7 l Z a0 hw [] b6 b1 pt en T10.heap n0 Z10 Oq10) hZ (hw _ (List.mem_of_getElem? (i := 40) rfl)) (hw _ (List.mem_of_getElem? (i := 4) rfl)) (by decide) (by decide)) qa16 qc16 (g := (mkF m 123 #[.val (.int p0), .val (.int p1), .val (.int p2), .val (.int p3), .val (.ref b1), .val (.int of), .val (.int ln), .val (.int kk), .val (.ref b6), .val (.long lft), .second, .val (.long lft), .second, .val (.int (0 : Int32)), .unset, .unset, .unset, .unset, .unset] [(.ref b6)])) rfl (by rw [hml]; rfl) (Steps.refl _) (argsL := []) (rest := []) (lenOf pd_6 rfl) rfl (by show 2 * 0 + _ ≤ _; exact Nat.le_of_eq rfl) (hb hby at_123) (fun _ _ => ⟨rfl, e14, (by decide : 2 + 0 ≤ _), (by decide : 7 + 0 ≤ _)⟩)
  dsimp only [Pt.U, Pt.locs, Pt.cells, Pt.slots] at X16 l16 y16 z16 st16 hQ16
  subst l16 y16 z16
  obtain ⟨rfl, Nq16, e16⟩ := hQ16
  have N16 := Fr.app Ng15 Nq16
  obtain ⟨fs, hr, hrun, hended, hW, hsame⟩ := X16.leave (v := some (.int (1 : Int32))) (fun h => by rw [Bd.returns] at h; cases h)
  refine ⟨_, _, pre0 _ ?_, hrun, hended, _, _, rfl, ⟨rfl, N16⟩, ⟨_, rfl⟩, hW, hsame.mono (by decide) (by decide)⟩
  show Steps p.tables e below (s₁.setTop (mkF m 0 #[.val (.int p0), .val (.int p1), .val (.int p2), .val (.int p3), .unset, .unset, .unset, .unset, .unset, .unset, .unset, .unset, .unset, .unset, .unset, .unset, .unset, .unset, .unset] [])) _
  refine XS.iconst X0.here hx rfl (hb hby at_0) ?_
  show Steps p.tables e below (s₁.setTop (mkF m 1 #[.val (.int p0), .val (.int p1), .val (.int p2), .val (.int p3), .unset, .unset, .unset, .unset, .unset, .unset, .unset, .unset, .unset, .unset, .unset, .unset, .unset, .unset, .unset] [(.int (4 : Int32))])) _
  refine st1 _ ?_
  show Steps p.tables e below (T1.setTop (mkF m 3 #[.val (.int p0), .val (.int p1), .val (.int p2), .val (.int p3), .unset, .unset, .unset, .unset, .unset, .unset, .unset, .unset, .unset, .unset, .unset, .unset, .unset, .unset, .unset] [(.ref b1)])) _
  refine XS.astore X1.here hx rfl (hb hby at_3) rfl rfl (l' := #[.val (.int p0), .val (.int p1), .val (.int p2), .val (.int p3), .val (.ref b1), .unset, .unset, .unset, .unset, .unset, .unset, .unset, .unset, .unset, .unset, .unset, .unset, .unset, .unset]) rfl ?_
  show Steps p.tables e below (T1.setTop (mkF m 5 #[.val (.int p0), .val (.int p1), .val (.int p2), .val (.int p3), .val (.ref b1), .unset, .unset, .unset, .unset, .unset, .unset, .unset, .unset, .unset, .unset, .unset, .unset, .unset, .unset] [])) _
  refine XS.aload X1.here hx rfl (hb hby at_5) rfl rfl ?_
  show Steps p.tables e below (T1.setTop (mkF m 7 #[.val (.int p0), .val (.int p1), .val (.int p2), .val (.int p3), .val (.ref b1), .unset, .unset, .unset, .unset, .unset, .unset, .unset, .unset, .unset, .unset, .unset, .unset, .unset, .unset] [(.ref b1)])) _
  refine XS.iconst X1.here hx rfl (hb hby at_7) ?_
  show Steps p.tables e below (T1.setTop (mkF m 8 #[.val (.int p0), .val (.int p1), .val (.int p2), .val (.int p3), .val (.ref b1), .unset, .unset, .unset, .unset, .unset, .unset, .unset, .unset, .unset, .unset, .unset, .unset, .unset, .unset] [(.int (0 : Int32)), (.ref b1)])) _
  refine XS.iloadN X1.here hx rfl (hb hby at_8) rfl ?_
  show Steps p.tables e below (T1.setTop (mkF m 9 #[.val (.int p0), .val (.int p1), .val (.int p2), .val (.int p3), .val (.ref b1), .unset, .unset, .unset, .unset, .unset, .unset, .unset, .unset, .unset, .unset, .unset, .unset, .unset, .unset] [(.int p0), (.int (0 : Int32)), (.ref b1)])) _
  refine XS.i2b X1.here hx rfl (hb hby at_9) rfl ?_
  show Steps p.tables e below (T1.setTop (mkF m 10 #[.val (.int p0), .val (.int p1), .val (.int p2), .val (.int p3), .val (.ref b1), .unset, .unset, .unset, .unset, .unset, .unset, .unset, .unset, .unset, .unset, .unset, .unset, .unset, .unset] [(.int (p0.toInt8.toInt32)), (.int (0 : Int32)), (.ref b1)])) _
  refine st2 _ ?_
  show Steps p.tables e below (T2.setTop (mkF m 11 #[.val (.int p0), .val (.int p1), .val (.int p2), .val (.int p3), .val (.ref b1), .unset, .unset, .unset, .unset, .unset, .unset, .unset, .unset, .unset, .unset, .unset, .unset, .unset, .unset] [])) _
  refine XS.aload X2.here hx rfl (hb hby at_11) rfl rfl ?_
  show Steps p.tables e below (T2.setTop (mkF m 13 #[.val (.int p0), .val (.int p1), .val (.int p2), .val (.int p3), .val (.ref b1), .unset, .unset, .unset, .unset, .unset, .unset, .unset, .unset, .unset, .unset, .unset, .unset, .unset, .unset] [(.ref b1)])) _
  refine XS.iconst X2.here hx rfl (hb hby at_13) ?_
  show Steps p.tables e below (T2.setTop (mkF m 14 #[.val (.int p0), .val (.int p1), .val (.int p2), .val (.int p3), .val (.ref b1), .unset, .unset, .unset, .unset, .unset, .unset, .unset, .unset, .unset, .unset, .unset, .unset, .unset, .unset] [(.int (1 : Int32)), (.ref b1)])) _
  refine XS.iloadN X2.here hx rfl (hb hby at_14) rfl ?_
  show Steps p.tables e below (T2.setTop (mkF m 15 #[.val (.int p0), .val (.int p1), .val (.int p2), .val (.int p3), .val (.ref b1), .unset, .unset, .unset, .unset, .unset, .unset, .unset, .unset, .unset, .unset, .unset, .unset, .unset, .unset] [(.int p0), (.int (1 : Int32)), (.ref b1)])) _
  refine XS.bipush X2.here hx rfl (hb hby at_15) ?_
  show Steps p.tables e below (T2.setTop (mkF m 17 #[.val (.int p0), .val (.int p1), .val (.int p2), .val (.int p3), .val (.ref b1), .unset, .unset, .unset, .unset, .unset, .unset, .unset, .unset, .unset, .unset, .unset, .unset, .unset, .unset] [(.int (8 : Int32)), (.int p0), (.int (1 : Int32)), (.ref b1)])) _
  refine XS.ishr X2.here hx rfl (hb hby at_17) rfl ?_
  show Steps p.tables e below (T2.setTop (mkF m 18 #[.val (.int p0), .val (.int p1), .val (.int p2), .val (.int p3), .val (.ref b1), .unset, .unset, .unset, .unset, .unset, .unset, .unset, .unset, .unset, .unset, .unset, .unset, .unset, .unset] [(.int (p0 >>> ((8 : Int32) &&& 31))), (.int (1 : Int32)), (.ref b1)])) _
  refine XS.i2b X2.here hx rfl (hb hby at_18) rfl ?_
  show Steps p.tables e below (T2.setTop (mkF m 19 #[.val (.int p0), .val (.int p1), .val (.int p2), .val (.int p3), .val (.ref b1), .unset, .unset, .unset, .unset, .unset, .unset, .unset, .unset, .unset, .unset, .unset, .unset, .unset, .unset] [(.int ((p0 >>> ((8 : Int32) &&& 31)).toInt8.toInt32)), (.int (1 : Int32)), (.ref b1)])) _
  refine st3 _ ?_
  show Steps p.tables e below (T3.setTop (mkF m 20 #[.val (.int p0), .val (.int p1), .val (.int p2), .val (.int p3), .val (.ref b1), .unset, .unset, .unset, .unset, .unset, .unset, .unset, .unset, .unset, .unset, .unset, .unset, .unset, .unset] [])) _
  refine XS.aload X3.here hx rfl (hb hby at_20) rfl rfl ?_
  show Steps p.tables e below (T3.setTop (mkF m 22 #[.val (.int p0), .val (.int p1), .val (.int p2), .val (.int p3), .val (.ref b1), .unset, .unset, .unset, .unset, .unset, .unset, .unset, .unset, .unset, .unset, .unset, .unset, .unset, .unset] [(.ref b1)])) _
  refine XS.iconst X3.here hx rfl (hb hby at_22) ?_
  show Steps p.tables e below (T3.setTop (mkF m 23 #[.val (.int p0), .val (.int p1), .val (.int p2), .val (.int p3), .val (.ref b1), .unset, .unset, .unset, .unset, .unset, .unset, .unset, .unset, .unset, .unset, .unset, .unset, .unset, .unset] [(.int (2 : Int32)), (.ref b1)])) _
  refine XS.iloadN X3.here hx rfl (hb hby at_23) rfl ?_
  show Steps p.tables e below (T3.setTop (mkF m 24 #[.val (.int p0), .val (.int p1), .val (.int p2), .val (.int p3), .val (.ref b1), .unset, .unset, .unset, .unset, .unset, .unset, .unset, .unset, .unset, .unset, .unset, .unset, .unset, .unset] [(.int p0), (.int (2 : Int32)), (.ref b1)])) _
  refine XS.bipush X3.here hx rfl (hb hby at_24) ?_
  show Steps p.tables e below (T3.setTop (mkF m 26 #[.val (.int p0), .val (.int p1), .val (.int p2), .val (.int p3), .val (.ref b1), .unset, .unset, .unset, .unset, .unset, .unset, .unset, .unset, .unset, .unset, .unset, .unset, .unset, .unset] [(.int (16 : Int32)), (.int p0), (.int (2 : Int32)), (.ref b1)])) _
  refine XS.ishr X3.here hx rfl (hb hby at_26) rfl ?_
  show Steps p.tables e below (T3.setTop (mkF m 27 #[.val (.int p0), .val (.int p1), .val (.int p2), .val (.int p3), .val (.ref b1), .unset, .unset, .unset, .unset, .unset, .unset, .unset, .unset, .unset, .unset, .unset, .unset, .unset, .unset] [(.int (p0 >>> ((16 : Int32) &&& 31))), (.int (2 : Int32)), (.ref b1)])) _
  refine XS.i2b X3.here hx rfl (hb hby at_27) rfl ?_
  show Steps p.tables e below (T3.setTop (mkF m 28 #[.val (.int p0), .val (.int p1), .val (.int p2), .val (.int p3), .val (.ref b1), .unset, .unset, .unset, .unset, .unset, .unset, .unset, .unset, .unset, .unset, .unset, .unset, .unset, .unset] [(.int ((p0 >>> ((16 : Int32) &&& 31)).toInt8.toInt32)), (.int (2 : Int32)), (.ref b1)])) _
  refine st4 _ ?_
  show Steps p.tables e below (T4.setTop (mkF m 29 #[.val (.int p0), .val (.int p1), .val (.int p2), .val (.int p3), .val (.ref b1), .unset, .unset, .unset, .unset, .unset, .unset, .unset, .unset, .unset, .unset, .unset, .unset, .unset, .unset] [])) _
  refine XS.aload X4.here hx rfl (hb hby at_29) rfl rfl ?_
  show Steps p.tables e below (T4.setTop (mkF m 31 #[.val (.int p0), .val (.int p1), .val (.int p2), .val (.int p3), .val (.ref b1), .unset, .unset, .unset, .unset, .unset, .unset, .unset, .unset, .unset, .unset, .unset, .unset, .unset, .unset] [(.ref b1)])) _
  refine XS.iconst X4.here hx rfl (hb hby at_31) ?_
  show Steps p.tables e below (T4.setTop (mkF m 32 #[.val (.int p0), .val (.int p1), .val (.int p2), .val (.int p3), .val (.ref b1), .unset, .unset, .unset, .unset, .unset, .unset, .unset, .unset, .unset, .unset, .unset, .unset, .unset, .unset] [(.int (3 : Int32)), (.ref b1)])) _
  refine XS.iloadN X4.here hx rfl (hb hby at_32) rfl ?_
  show Steps p.tables e below (T4.setTop (mkF m 33 #[.val (.int p0), .val (.int p1), .val (.int p2), .val (.int p3), .val (.ref b1), .unset, .unset, .unset, .unset, .unset, .unset, .unset, .unset, .unset, .unset, .unset, .unset, .unset, .unset] [(.int p0), (.int (3 : Int32)), (.ref b1)])) _
  refine XS.bipush X4.here hx rfl (hb hby at_33) ?_
  show Steps p.tables e below (T4.setTop (mkF m 35 #[.val (.int p0), .val (.int p1), .val (.int p2), .val (.int p3), .val (.ref b1), .unset, .unset, .unset, .unset, .unset, .unset, .unset, .unset, .unset, .unset, .unset, .unset, .unset, .unset] [(.int (24 : Int32)), (.int p0), (.int (3 : Int32)), (.ref b1)])) _
  refine XS.ishr X4.here hx rfl (hb hby at_35) rfl ?_
  show Steps p.tables e below (T4.setTop (mkF m 36 #[.val (.int p0), .val (.int p1), .val (.int p2), .val (.int p3), .val (.ref b1), .unset, .unset, .unset, .unset, .unset, .unset, .unset, .unset, .unset, .unset, .unset, .unset, .unset, .unset] [(.int (p0 >>> ((24 : Int32) &&& 31))), (.int (3 : Int32)), (.ref b1)])) _
  refine XS.i2b X4.here hx rfl (hb hby at_36) rfl ?_
  show Steps p.tables e below (T4.setTop (mkF m 37 #[.val (.int p0), .val (.int p1), .val (.int p2), .val (.int p3), .val (.ref b1), .unset, .unset, .unset, .unset, .unset, .unset, .unset, .unset, .unset, .unset, .unset, .unset, .unset, .unset] [(.int ((p0 >>> ((24 : Int32) &&& 31)).toInt8.toInt32)), (.int (3 : Int32)), (.ref b1)])) _
  refine st5 _ ?_
  show Steps p.tables e below (T5.setTop (mkF m 38 #[.val (.int p0), .val (.int p1), .val (.int p2), .val (.int p3), .val (.ref b1), .unset, .unset, .unset, .unset, .unset, .unset, .unset, .unset, .unset, .unset, .unset, .unset, .unset, .unset] [])) _
  refine XS.iloadN X5.here hx rfl (hb hby at_38) rfl ?_
  show Steps p.tables e below (T5.setTop (mkF m 39 #[.val (.int p0), .val (.int p1), .val (.int p2), .val (.int p3), .val (.ref b1), .unset, .unset, .unset, .unset, .unset, .unset, .unset, .unset, .unset, .unset, .unset, .unset, .unset, .unset] [(.int p1)])) _
  refine X5.ldcI hx hown (mvT hZ (hw _ (List.mem_of_getElem? (i := 1) rfl))) rfl (hb hby at_39) ?_
  show Steps p.tables e below (T5.setTop (mkF m 41 #[.val (.int p0), .val (.int p1), .val (.int p2), .val (.int p3), .val (.ref b1), .unset, .unset, .unset, .unset, .unset, .unset, .unset, .unset, .unset, .unset, .unset, .unset, .unset, .unset] [(.int (2147483647 : Int32)), (.int p1)])) _
  refine XS.iand X5.here hx rfl (hb hby at_41) rfl ?_
  show Steps p.tables e below (T5.setTop (mkF m 42 #[.val (.int p0), .val (.int p1), .val (.int p2), .val (.int p3), .val (.ref b1), .unset, .unset, .unset, .unset, .unset, .unset, .unset, .unset, .unset, .unset, .unset, .unset, .unset, .unset] [(.int (p1 &&& (2147483647 : Int32)))])) _
  refine XS.iconst X5.here hx rfl (hb hby at_42) ?_
  show Steps p.tables e below (T5.setTop (mkF m 43 #[.val (.int p0), .val (.int p1), .val (.int p2), .val (.int p3), .val (.ref b1), .unset, .unset, .unset, .unset, .unset, .unset, .unset, .unset, .unset, .unset, .unset, .unset, .unset, .unset] [(.int (4 : Int32)), (.int (p1 &&& (2147483647 : Int32)))])) _
  refine iremM X5 hx rfl (hb hby at_43) rfl (by decide) ?_
  show Steps p.tables e below (T5.setTop (mkF m 44 #[.val (.int p0), .val (.int p1), .val (.int p2), .val (.int p3), .val (.ref b1), .unset, .unset, .unset, .unset, .unset, .unset, .unset, .unset, .unset, .unset, .unset, .unset, .unset, .unset] [(.int ((p1 &&& (2147483647 : Int32)) % (4 : Int32)))])) _
  refine XS.istore X5.here hx rfl (hb hby at_44) rfl (l' := #[.val (.int p0), .val (.int p1), .val (.int p2), .val (.int p3), .val (.ref b1), .val (.int ((p1 &&& (2147483647 : Int32)) % (4 : Int32))), .unset, .unset, .unset, .unset, .unset, .unset, .unset, .unset, .unset, .unset, .unset, .unset, .unset]) rfl ?_
  show Steps p.tables e below (T5.setTop (mkF m 46 #[.val (.int p0), .val (.int p1), .val (.int p2), .val (.int p3), .val (.ref b1), .val (.int ((p1 &&& (2147483647 : Int32)) % (4 : Int32))), .unset, .unset, .unset, .unset, .unset, .unset, .unset, .unset, .unset, .unset, .unset, .unset, .unset] [])) _
  rw [h_of]
  show Steps p.tables e below (T5.setTop (mkF m 46 #[.val (.int p0), .val (.int p1), .val (.int p2), .val (.int p3), .val (.ref b1), .val (.int of), .unset, .unset, .unset, .unset, .unset, .unset, .unset, .unset, .unset, .unset, .unset, .unset, .unset] [])) _
  refine XS.iloadN X5.here hx rfl (hb hby at_46) rfl ?_
  show Steps p.tables e below (T5.setTop (mkF m 47 #[.val (.int p0), .val (.int p1), .val (.int p2), .val (.int p3), .val (.ref b1), .val (.int of), .unset, .unset, .unset, .unset, .unset, .unset, .unset, .unset, .unset, .unset, .unset, .unset, .unset] [(.int p2)])) _
  refine X5.ldcI hx hown (mvT hZ (hw _ (List.mem_of_getElem? (i := 1) rfl))) rfl (hb hby at_47) ?_
  show Steps p.tables e below (T5.setTop (mkF m 49 #[.val (.int p0), .val (.int p1), .val (.int p2), .val (.int p3), .val (.ref b1), .val (.int of), .unset, .unset, .unset, .unset, .unset, .unset, .unset, .unset, .unset, .unset, .unset, .unset, .unset] [(.int (2147483647 : Int32)), (.int p2)])) _
  refine XS.iand X5.here hx rfl (hb hby at_49) rfl ?_
  show Steps p.tables e below (T5.setTop (mkF m 50 #[.val (.int p0), .val (.int p1), .val (.int p2), .val (.int p3), .val (.ref b1), .val (.int of), .unset, .unset, .unset, .unset, .unset, .unset, .unset, .unset, .unset, .unset, .unset, .unset, .unset] [(.int (p2 &&& (2147483647 : Int32)))])) _
  refine XS.iconst X5.here hx rfl (hb hby at_50) ?_
  show Steps p.tables e below (T5.setTop (mkF m 51 #[.val (.int p0), .val (.int p1), .val (.int p2), .val (.int p3), .val (.ref b1), .val (.int of), .unset, .unset, .unset, .unset, .unset, .unset, .unset, .unset, .unset, .unset, .unset, .unset, .unset] [(.int (5 : Int32)), (.int (p2 &&& (2147483647 : Int32)))])) _
  refine XS.iload X5.here hx rfl (hb hby at_51) rfl ?_
  show Steps p.tables e below (T5.setTop (mkF m 53 #[.val (.int p0), .val (.int p1), .val (.int p2), .val (.int p3), .val (.ref b1), .val (.int of), .unset, .unset, .unset, .unset, .unset, .unset, .unset, .unset, .unset, .unset, .unset, .unset, .unset] [(.int of), (.int (5 : Int32)), (.int (p2 &&& (2147483647 : Int32)))])) _
  refine XS.isub X5.here hx rfl (hb hby at_53) rfl ?_
  show Steps p.tables e below (T5.setTop (mkF m 54 #[.val (.int p0), .val (.int p1), .val (.int p2), .val (.int p3), .val (.ref b1), .val (.int of), .unset, .unset, .unset, .unset, .unset, .unset, .unset, .unset, .unset, .unset, .unset, .unset, .unset] [(.int ((5 : Int32) - of)), (.int (p2 &&& (2147483647 : Int32)))])) _
  refine iremM X5 hx rfl (hb hby at_54) rfl (own_nz1 Qo) ?_
  show Steps p.tables e below (T5.setTop (mkF m 55 #[.val (.int p0), .val (.int p1), .val (.int p2), .val (.int p3), .val (.ref b1), .val (.int of), .unset, .unset, .unset, .unset, .unset, .unset, .unset, .unset, .unset, .unset, .unset, .unset, .unset] [(.int ((p2 &&& (2147483647 : Int32)) % ((5 : Int32) - of)))])) _
  refine XS.istore X5.here hx rfl (hb hby at_55) rfl (l' := #[.val (.int p0), .val (.int p1), .val (.int p2), .val (.int p3), .val (.ref b1), .val (.int of), .val (.int ((p2 &&& (2147483647 : Int32)) % ((5 : Int32) - of))), .unset, .unset, .unset, .unset, .unset, .unset, .unset, .unset, .unset, .unset, .unset, .unset]) rfl ?_
  show Steps p.tables e below (T5.setTop (mkF m 57 #[.val (.int p0), .val (.int p1), .val (.int p2), .val (.int p3), .val (.ref b1), .val (.int of), .val (.int ((p2 &&& (2147483647 : Int32)) % ((5 : Int32) - of))), .unset, .unset, .unset, .unset, .unset, .unset, .unset, .unset, .unset, .unset, .unset, .unset] [])) _
  rw [h_ln]
  show Steps p.tables e below (T5.setTop (mkF m 57 #[.val (.int p0), .val (.int p1), .val (.int p2), .val (.int p3), .val (.ref b1), .val (.int of), .val (.int ln), .unset, .unset, .unset, .unset, .unset, .unset, .unset, .unset, .unset, .unset, .unset, .unset] [])) _
  refine XS.iloadN X5.here hx rfl (hb hby at_57) rfl ?_
  show Steps p.tables e below (T5.setTop (mkF m 58 #[.val (.int p0), .val (.int p1), .val (.int p2), .val (.int p3), .val (.ref b1), .val (.int of), .val (.int ln), .unset, .unset, .unset, .unset, .unset, .unset, .unset, .unset, .unset, .unset, .unset, .unset] [(.int p3)])) _
  refine X5.ldcI hx hown (mvT hZ (hw _ (List.mem_of_getElem? (i := 1) rfl))) rfl (hb hby at_58) ?_
  show Steps p.tables e below (T5.setTop (mkF m 60 #[.val (.int p0), .val (.int p1), .val (.int p2), .val (.int p3), .val (.ref b1), .val (.int of), .val (.int ln), .unset, .unset, .unset, .unset, .unset, .unset, .unset, .unset, .unset, .unset, .unset, .unset] [(.int (2147483647 : Int32)), (.int p3)])) _
  refine XS.iand X5.here hx rfl (hb hby at_60) rfl ?_
  show Steps p.tables e below (T5.setTop (mkF m 61 #[.val (.int p0), .val (.int p1), .val (.int p2), .val (.int p3), .val (.ref b1), .val (.int of), .val (.int ln), .unset, .unset, .unset, .unset, .unset, .unset, .unset, .unset, .unset, .unset, .unset, .unset] [(.int (p3 &&& (2147483647 : Int32)))])) _
  refine XS.bipush X5.here hx rfl (hb hby at_61) ?_
  show Steps p.tables e below (T5.setTop (mkF m 63 #[.val (.int p0), .val (.int p1), .val (.int p2), .val (.int p3), .val (.ref b1), .val (.int of), .val (.int ln), .unset, .unset, .unset, .unset, .unset, .unset, .unset, .unset, .unset, .unset, .unset, .unset] [(.int (8 : Int32)), (.int (p3 &&& (2147483647 : Int32)))])) _
  refine XS.iload X5.here hx rfl (hb hby at_63) rfl ?_
  show Steps p.tables e below (T5.setTop (mkF m 65 #[.val (.int p0), .val (.int p1), .val (.int p2), .val (.int p3), .val (.ref b1), .val (.int of), .val (.int ln), .unset, .unset, .unset, .unset, .unset, .unset, .unset, .unset, .unset, .unset, .unset, .unset] [(.int ln), (.int (8 : Int32)), (.int (p3 &&& (2147483647 : Int32)))])) _
  refine XS.imul X5.here hx rfl (hb hby at_65) rfl ?_
  show Steps p.tables e below (T5.setTop (mkF m 66 #[.val (.int p0), .val (.int p1), .val (.int p2), .val (.int p3), .val (.ref b1), .val (.int of), .val (.int ln), .unset, .unset, .unset, .unset, .unset, .unset, .unset, .unset, .unset, .unset, .unset, .unset] [(.int ((8 : Int32) * ln)), (.int (p3 &&& (2147483647 : Int32)))])) _
  refine XS.iconst X5.here hx rfl (hb hby at_66) ?_
  show Steps p.tables e below (T5.setTop (mkF m 67 #[.val (.int p0), .val (.int p1), .val (.int p2), .val (.int p3), .val (.ref b1), .val (.int of), .val (.int ln), .unset, .unset, .unset, .unset, .unset, .unset, .unset, .unset, .unset, .unset, .unset, .unset] [(.int (1 : Int32)), (.int ((8 : Int32) * ln)), (.int (p3 &&& (2147483647 : Int32)))])) _
  refine XS.iadd X5.here hx rfl (hb hby at_67) rfl ?_
  show Steps p.tables e below (T5.setTop (mkF m 68 #[.val (.int p0), .val (.int p1), .val (.int p2), .val (.int p3), .val (.ref b1), .val (.int of), .val (.int ln), .unset, .unset, .unset, .unset, .unset, .unset, .unset, .unset, .unset, .unset, .unset, .unset] [(.int (((8 : Int32) * ln) + (1 : Int32))), (.int (p3 &&& (2147483647 : Int32)))])) _
  refine iremM X5 hx rfl (hb hby at_68) rfl (own_nz2 Ql Qo.1) ?_
  show Steps p.tables e below (T5.setTop (mkF m 69 #[.val (.int p0), .val (.int p1), .val (.int p2), .val (.int p3), .val (.ref b1), .val (.int of), .val (.int ln), .unset, .unset, .unset, .unset, .unset, .unset, .unset, .unset, .unset, .unset, .unset, .unset] [(.int ((p3 &&& (2147483647 : Int32)) % (((8 : Int32) * ln) + (1 : Int32))))])) _
  refine XS.istore X5.here hx rfl (hb hby at_69) rfl (l' := #[.val (.int p0), .val (.int p1), .val (.int p2), .val (.int p3), .val (.ref b1), .val (.int of), .val (.int ln), .val (.int ((p3 &&& (2147483647 : Int32)) % (((8 : Int32) * ln) + (1 : Int32)))), .unset, .unset, .unset, .unset, .unset, .unset, .unset, .unset, .unset, .unset, .unset]) rfl ?_
  show Steps p.tables e below (T5.setTop (mkF m 71 #[.val (.int p0), .val (.int p1), .val (.int p2), .val (.int p3), .val (.ref b1), .val (.int of), .val (.int ln), .val (.int ((p3 &&& (2147483647 : Int32)) % (((8 : Int32) * ln) + (1 : Int32)))), .unset, .unset, .unset, .unset, .unset, .unset, .unset, .unset, .unset, .unset, .unset] [])) _
  rw [h_kk]
  show Steps p.tables e below (T5.setTop (mkF m 71 #[.val (.int p0), .val (.int p1), .val (.int p2), .val (.int p3), .val (.ref b1), .val (.int of), .val (.int ln), .val (.int kk), .unset, .unset, .unset, .unset, .unset, .unset, .unset, .unset, .unset, .unset, .unset] [])) _
  refine st6 _ ?_
  show Steps p.tables e below (T6.setTop (mkF m 74 #[.val (.int p0), .val (.int p1), .val (.int p2), .val (.int p3), .val (.ref b1), .val (.int of), .val (.int ln), .val (.int kk), .unset, .unset, .unset, .unset, .unset, .unset, .unset, .unset, .unset, .unset, .unset] [(.ref b6)])) _
  refine XS.dup X6.here hx rfl (hb hby at_74) rfl rfl ?_
  show Steps p.tables e below (T6.setTop (mkF m 75 #[.val (.int p0), .val (.int p1), .val (.int p2), .val (.int p3), .val (.ref b1), .val (.int of), .val (.int ln), .val (.int kk), .unset, .unset, .unset, .unset, .unset, .unset, .unset, .unset, .unset, .unset, .unset] [(.ref b6), (.ref b6)])) _
  refine XS.aload X6.here hx rfl (hb hby at_75) rfl rfl ?_
  show Steps p.tables e below (T6.setTop (mkF m 77 #[.val (.int p0), .val (.int p1), .val (.int p2), .val (.int p3), .val (.ref b1), .val (.int of), .val (.int ln), .val (.int kk), .unset, .unset, .unset, .unset, .unset, .unset, .unset, .unset, .unset, .unset, .unset] [(.ref b1), (.ref b6), (.ref b6)])) _
  refine XS.iload X6.here hx rfl (hb hby at_77) rfl ?_
  show Steps p.tables e below (T6.setTop (mkF m 79 #[.val (.int p0), .val (.int p1), .val (.int p2), .val (.int p3), .val (.ref b1), .val (.int of), .val (.int ln), .val (.int kk), .unset, .unset, .unset, .unset, .unset, .unset, .unset, .unset, .unset, .unset, .unset] [(.int of), (.ref b1), (.ref b6), (.ref b6)])) _
  refine XS.iload X6.here hx rfl (hb hby at_79) rfl ?_
  show Steps p.tables e below (T6.setTop (mkF m 81 #[.val (.int p0), .val (.int p1), .val (.int p2), .val (.int p3), .val (.ref b1), .val (.int of), .val (.int ln), .val (.int kk), .unset, .unset, .unset, .unset, .unset, .unset, .unset, .unset, .unset, .unset, .unset] [(.int ln), (.int of), (.ref b1), (.ref b6), (.ref b6)])) _
  refine st8.trans ?_
  show Steps p.tables e below (T8.setTop (mkF m 84 #[.val (.int p0), .val (.int p1), .val (.int p2), .val (.int p3), .val (.ref b1), .val (.int of), .val (.int ln), .val (.int kk), .unset, .unset, .unset, .unset, .unset, .unset, .unset, .unset, .unset, .unset, .unset] [(.ref b6)])) _
  refine XS.astore X8.here hx rfl (hb hby at_84) rfl rfl (l' := #[.val (.int p0), .val (.int p1), .val (.int p2), .val (.int p3), .val (.ref b1), .val (.int of), .val (.int ln), .val (.int kk), .val (.ref b6), .unset, .unset, .unset, .unset, .unset, .unset, .unset, .unset, .unset, .unset]) rfl ?_
  show Steps p.tables e below (T8.setTop (mkF m 86 #[.val (.int p0), .val (.int p1), .val (.int p2), .val (.int p3), .val (.ref b1), .val (.int of), .val (.int ln), .val (.int kk), .val (.ref b6), .unset, .unset, .unset, .unset, .unset, .unset, .unset, .unset, .unset, .unset] [])) _
  refine XS.aload X8.here hx rfl (hb hby at_86) rfl rfl ?_
  show Steps p.tables e below (T8.setTop (mkF m 88 #[.val (.int p0), .val (.int p1), .val (.int p2), .val (.int p3), .val (.ref b1), .val (.int of), .val (.int ln), .val (.int kk), .val (.ref b6), .unset, .unset, .unset, .unset, .unset, .unset, .unset, .unset, .unset, .unset] [(.ref b6)])) _
  refine XS.iload X8.here hx rfl (hb hby at_88) rfl ?_
  show Steps p.tables e below (T8.setTop (mkF m 90 #[.val (.int p0), .val (.int p1), .val (.int p2), .val (.int p3), .val (.ref b1), .val (.int of), .val (.int ln), .val (.int kk), .val (.ref b6), .unset, .unset, .unset, .unset, .unset, .unset, .unset, .unset, .unset, .unset] [(.int kk), (.ref b6)])) _
  refine st10.trans ?_
  show Steps p.tables e below (T10.setTop (mkF m 93 #[.val (.int p0), .val (.int p1), .val (.int p2), .val (.int p3), .val (.ref b1), .val (.int of), .val (.int ln), .val (.int kk), .val (.ref b6), .unset, .unset, .unset, .unset, .unset, .unset, .unset, .unset, .unset, .unset] [(.int rv)])) _
  refine XS.pop X10.here hx rfl (hb hby at_93) rfl rfl ?_
  show Steps p.tables e below (T10.setTop (mkF m 94 #[.val (.int p0), .val (.int p1), .val (.int p2), .val (.int p3), .val (.ref b1), .val (.int of), .val (.int ln), .val (.int kk), .val (.ref b6), .unset, .unset, .unset, .unset, .unset, .unset, .unset, .unset, .unset, .unset] [])) _
  refine X10.ldc2J hx hown (mvT hZ (hw _ (List.mem_of_getElem? (i := 35) rfl))) rfl (hb hby at_94) ?_
  show Steps p.tables e below (T10.setTop (mkF m 97 #[.val (.int p0), .val (.int p1), .val (.int p2), .val (.int p3), .val (.ref b1), .val (.int of), .val (.int ln), .val (.int kk), .val (.ref b6), .unset, .unset, .unset, .unset, .unset, .unset, .unset, .unset, .unset, .unset] [(.long (8 : Int64))])) _
  refine XS.iload X10.here hx rfl (hb hby at_97) rfl ?_
  show Steps p.tables e below (T10.setTop (mkF m 99 #[.val (.int p0), .val (.int p1), .val (.int p2), .val (.int p3), .val (.ref b1), .val (.int of), .val (.int ln), .val (.int kk), .val (.ref b6), .unset, .unset, .unset, .unset, .unset, .unset, .unset, .unset, .unset, .unset] [(.int ln), (.long (8 : Int64))])) _
  refine XS.i2l X10.here hx rfl (hb hby at_99) rfl ?_
  show Steps p.tables e below (T10.setTop (mkF m 100 #[.val (.int p0), .val (.int p1), .val (.int p2), .val (.int p3), .val (.ref b1), .val (.int of), .val (.int ln), .val (.int kk), .val (.ref b6), .unset, .unset, .unset, .unset, .unset, .unset, .unset, .unset, .unset, .unset] [(.long (ln.toInt64)), (.long (8 : Int64))])) _
  refine XS.lmul X10.here hx rfl (hb hby at_100) rfl ?_
  show Steps p.tables e below (T10.setTop (mkF m 101 #[.val (.int p0), .val (.int p1), .val (.int p2), .val (.int p3), .val (.ref b1), .val (.int of), .val (.int ln), .val (.int kk), .val (.ref b6), .unset, .unset, .unset, .unset, .unset, .unset, .unset, .unset, .unset, .unset] [(.long ((8 : Int64) * (ln.toInt64)))])) _
  refine XS.iload X10.here hx rfl (hb hby at_101) rfl ?_
  show Steps p.tables e below (T10.setTop (mkF m 103 #[.val (.int p0), .val (.int p1), .val (.int p2), .val (.int p3), .val (.ref b1), .val (.int of), .val (.int ln), .val (.int kk), .val (.ref b6), .unset, .unset, .unset, .unset, .unset, .unset, .unset, .unset, .unset, .unset] [(.int kk), (.long ((8 : Int64) * (ln.toInt64)))])) _
  refine XS.i2l X10.here hx rfl (hb hby at_103) rfl ?_
  show Steps p.tables e below (T10.setTop (mkF m 104 #[.val (.int p0), .val (.int p1), .val (.int p2), .val (.int p3), .val (.ref b1), .val (.int of), .val (.int ln), .val (.int kk), .val (.ref b6), .unset, .unset, .unset, .unset, .unset, .unset, .unset, .unset, .unset, .unset] [(.long (kk.toInt64)), (.long ((8 : Int64) * (ln.toInt64)))])) _
  refine XS.lsub X10.here hx rfl (hb hby at_104) rfl ?_
  show Steps p.tables e below (T10.setTop (mkF m 105 #[.val (.int p0), .val (.int p1), .val (.int p2), .val (.int p3), .val (.ref b1), .val (.int of), .val (.int ln), .val (.int kk), .val (.ref b6), .unset, .unset, .unset, .unset, .unset, .unset, .unset, .unset, .unset, .unset] [(.long (((8 : Int64) * (ln.toInt64)) - (kk.toInt64)))])) _
  refine XS.lstore X10.here hx rfl (hb hby at_105) rfl (l' := #[.val (.int p0), .val (.int p1), .val (.int p2), .val (.int p3), .val (.ref b1), .val (.int of), .val (.int ln), .val (.int kk), .val (.ref b6), .val (.long (((8 : Int64) * (ln.toInt64)) - (kk.toInt64))), .second, .unset, .unset, .unset, .unset, .unset, .unset, .unset, .unset]) rfl ?_
  show Steps p.tables e below (T10.setTop (mkF m 107 #[.val (.int p0), .val (.int p1), .val (.int p2), .val (.int p3), .val (.ref b1), .val (.int of), .val (.int ln), .val (.int kk), .val (.ref b6), .val (.long (((8 : Int64) * (ln.toInt64)) - (kk.toInt64))), .second, .unset, .unset, .unset, .unset, .unset, .unset, .unset, .unset] [])) _
  rw [h_lft]
  show Steps p.tables e below (T10.setTop (mkF m 107 #[.val (.int p0), .val (.int p1), .val (.int p2), .val (.int p3), .val (.ref b1), .val (.int of), .val (.int ln), .val (.int kk), .val (.ref b6), .val (.long lft), .second, .unset, .unset, .unset, .unset, .unset, .unset, .unset, .unset] [])) _
  refine XS.aload X10.here hx rfl (hb hby at_107) rfl rfl ?_
  show Steps p.tables e below (T10.setTop (mkF m 109 #[.val (.int p0), .val (.int p1), .val (.int p2), .val (.int p3), .val (.ref b1), .val (.int of), .val (.int ln), .val (.int kk), .val (.ref b6), .val (.long lft), .second, .unset, .unset, .unset, .unset, .unset, .unset, .unset, .unset] [(.ref b6)])) _
  refine st12.trans ?_
  show Steps p.tables e below (T12.setTop (mkF m 112 #[.val (.int p0), .val (.int p1), .val (.int p2), .val (.int p3), .val (.ref b1), .val (.int of), .val (.int ln), .val (.int kk), .val (.ref b6), .val (.long lft), .second, .unset, .unset, .unset, .unset, .unset, .unset, .unset, .unset] [(.long (en - pt))])) _
  rw [hlq]
  show Steps p.tables e below (T12.setTop (mkF m 112 #[.val (.int p0), .val (.int p1), .val (.int p2), .val (.int p3), .val (.ref b1), .val (.int of), .val (.int ln), .val (.int kk), .val (.ref b6), .val (.long lft), .second, .unset, .unset, .unset, .unset, .unset, .unset, .unset, .unset] [(.long lft)])) _
  refine XS.lstore X12.here hx rfl (hb hby at_112) rfl (l' := #[.val (.int p0), .val (.int p1), .val (.int p2), .val (.int p3), .val (.ref b1), .val (.int of), .val (.int ln), .val (.int kk), .val (.ref b6), .val (.long lft), .second, .val (.long lft), .second, .unset, .unset, .unset, .unset, .unset, .unset]) rfl ?_
  show Steps p.tables e below (T12.setTop (mkF m 114 #[.val (.int p0), .val (.int p1), .val (.int p2), .val (.int p3), .val (.ref b1), .val (.int of), .val (.int ln), .val (.int kk), .val (.ref b6), .val (.long lft), .second, .val (.long lft), .second, .unset, .unset, .unset, .unset, .unset, .unset] [])) _
  refine XS.aload X12.here hx rfl (hb hby at_114) rfl rfl ?_
  show Steps p.tables e below (T12.setTop (mkF m 116 #[.val (.int p0), .val (.int p1), .val (.int p2), .val (.int p3), .val (.ref b1), .val (.int of), .val (.int ln), .val (.int kk), .val (.ref b6), .val (.long lft), .second, .val (.long lft), .second, .unset, .unset, .unset, .unset, .unset, .unset] [(.ref b6)])) _
  refine st14.trans ?_
  show Steps p.tables e below (T14.setTop (mkF m 119 #[.val (.int p0), .val (.int p1), .val (.int p2), .val (.int p3), .val (.ref b1), .val (.int of), .val (.int ln), .val (.int kk), .val (.ref b6), .val (.long lft), .second, .val (.long lft), .second, .unset, .unset, .unset, .unset, .unset, .unset] [(.int (0 : Int32))])) _
  refine XS.istore X14.here hx rfl (hb hby at_119) rfl (l' := #[.val (.int p0), .val (.int p1), .val (.int p2), .val (.int p3), .val (.ref b1), .val (.int of), .val (.int ln), .val (.int kk), .val (.ref b6), .val (.long lft), .second, .val (.long lft), .second, .val (.int (0 : Int32)), .unset, .unset, .unset, .unset, .unset]) rfl ?_
  show Steps p.tables e below (T14.setTop (mkF m 121 #[.val (.int p0), .val (.int p1), .val (.int p2), .val (.int p3), .val (.ref b1), .val (.int of), .val (.int ln), .val (.int kk), .val (.ref b6), .val (.long lft), .second, .val (.long lft), .second, .val (.int (0 : Int32)), .unset, .unset, .unset, .unset, .unset] [])) _
  refine XS.aload X14.here hx rfl (hb hby at_121) rfl rfl ?_
  show Steps p.tables e below (T14.setTop (mkF m 123 #[.val (.int p0), .val (.int p1), .val (.int p2), .val (.int p3), .val (.ref b1), .val (.int of), .val (.int ln), .val (.int kk), .val (.ref b6), .val (.long lft), .second, .val (.long lft), .second, .val (.int (0 : Int32)), .unset, .unset, .unset, .unset, .unset] [(.ref b6)])) _
  refine st16.trans ?_
  show Steps p.tables e below (T16.setTop (mkF m 126 #[.val (.int p0), .val (.int p1), .val (.int p2), .val (.int p3), .val (.ref b1), .val (.int of), .val (.int ln), .val (.int kk), .val (.ref b6), .val (.long lft), .second, .val (.long lft), .second, .val (.int (0 : Int32)), .unset, .unset, .unset, .unset, .unset] [(.long (en - pt))])) _
  rw [hlq]
  show Steps p.tables e below (T16.setTop (mkF m 126 #[.val (.int p0), .val (.int p1), .val (.int p2), .val (.int p3), .val (.ref b1), .val (.int of), .val (.int ln), .val (.int kk), .val (.ref b6), .val (.long lft), .second, .val (.long lft), .second, .val (.int (0 : Int32)), .unset, .unset, .unset, .unset, .unset] [(.long lft)])) _
  refine XS.lstore X16.here hx rfl (hb hby at_126) rfl (l' := #[.val (.int p0), .val (.int p1), .val (.int p2), .val (.int p3), .val (.ref b1), .val (.int of), .val (.int ln), .val (.int kk), .val (.ref b6), .val (.long lft), .second, .val (.long lft), .second, .val (.int (0 : Int32)), .val (.long lft), .second, .unset, .unset, .unset]) rfl ?_
  show Steps p.tables e below (T16.setTop (mkF m 128 #[.val (.int p0), .val (.int p1), .val (.int p2), .val (.int p3), .val (.ref b1), .val (.int of), .val (.int ln), .val (.int kk), .val (.ref b6), .val (.long lft), .second, .val (.long lft), .second, .val (.int (0 : Int32)), .val (.long lft), .second, .unset, .unset, .unset] [])) _
  refine XS.lload X16.here hx rfl (hb hby at_128) rfl ?_
  show Steps p.tables e below (T16.setTop (mkF m 130 #[.val (.int p0), .val (.int p1), .val (.int p2), .val (.int p3), .val (.ref b1), .val (.int of), .val (.int ln), .val (.int kk), .val (.ref b6), .val (.long lft), .second, .val (.long lft), .second, .val (.int (0 : Int32)), .val (.long lft), .second, .unset, .unset, .unset] [(.long lft)])) _
  refine XS.lconst X16.here hx rfl (hb hby at_130) ?_
  show Steps p.tables e below (T16.setTop (mkF m 131 #[.val (.int p0), .val (.int p1), .val (.int p2), .val (.int p3), .val (.ref b1), .val (.int of), .val (.int ln), .val (.int kk), .val (.ref b6), .val (.long lft), .second, .val (.long lft), .second, .val (.int (0 : Int32)), .val (.long lft), .second, .unset, .unset, .unset] [(.long (0 : Int64)), (.long lft)])) _
  refine XS.lcmp X16.here hx rfl (hb hby at_131) rfl ?_
  show Steps p.tables e below (T16.setTop (mkF m 132 #[.val (.int p0), .val (.int p1), .val (.int p2), .val (.int p3), .val (.ref b1), .val (.int of), .val (.int ln), .val (.int kk), .val (.ref b6), .val (.long lft), .second, .val (.long lft), .second, .val (.int (0 : Int32)), .val (.long lft), .second, .unset, .unset, .unset] [(.int (lcmpW lft (0 : Int64)))])) _
  refine XS.ifYes X16.here hx rfl (pc0 := 132) (pc' := 141) rfl (hb hby at_132) rfl ((if0 _ _).trans (feq (fun q => hz ((lw_eq lft (0 : Int64)).mp q))).2) (by decide) (by decide) ?_
  show Steps p.tables e below (T16.setTop (mkF m 141 #[.val (.int p0), .val (.int p1), .val (.int p2), .val (.int p3), .val (.ref b1), .val (.int of), .val (.int ln), .val (.int kk), .val (.ref b6), .val (.long lft), .second, .val (.long lft), .second, .val (.int (0 : Int32)), .val (.long lft), .second, .unset, .unset, .unset] [])) _
  refine XS.lload X16.here hx rfl (hb hby at_141) rfl ?_
  show Steps p.tables e below (T16.setTop (mkF m 143 #[.val (.int p0), .val (.int p1), .val (.int p2), .val (.int p3), .val (.ref b1), .val (.int of), .val (.int ln), .val (.int kk), .val (.ref b6), .val (.long lft), .second, .val (.long lft), .second, .val (.int (0 : Int32)), .val (.long lft), .second, .unset, .unset, .unset] [(.long lft)])) _
  refine X16.ldc2J hx hown (mvT hZ (hw _ (List.mem_of_getElem? (i := 35) rfl))) rfl (hb hby at_143) ?_
  show Steps p.tables e below (T16.setTop (mkF m 146 #[.val (.int p0), .val (.int p1), .val (.int p2), .val (.int p3), .val (.ref b1), .val (.int of), .val (.int ln), .val (.int kk), .val (.ref b6), .val (.long lft), .second, .val (.long lft), .second, .val (.int (0 : Int32)), .val (.long lft), .second, .unset, .unset, .unset] [(.long (8 : Int64)), (.long lft)])) _
  refine XS.lcmp X16.here hx rfl (hb hby at_146) rfl ?_
  show Steps p.tables e below (T16.setTop (mkF m 147 #[.val (.int p0), .val (.int p1), .val (.int p2), .val (.int p3), .val (.ref b1), .val (.int of), .val (.int ln), .val (.int kk), .val (.ref b6), .val (.long lft), .second, .val (.long lft), .second, .val (.int (0 : Int32)), .val (.long lft), .second, .unset, .unset, .unset] [(.int (lcmpW lft (8 : Int64)))])) _
  refine XS.ifNo X16.here hx rfl (hb hby at_147) rfl ((if0 _ _).trans (flt (fun q => h8 ((lw_lt lft (8 : Int64)).mp q))).1) ?_
  show Steps p.tables e below (T16.setTop (mkF m 150 #[.val (.int p0), .val (.int p1), .val (.int p2), .val (.int p3), .val (.ref b1), .val (.int of), .val (.int ln), .val (.int kk), .val (.ref b6), .val (.long lft), .second, .val (.long lft), .second, .val (.int (0 : Int32)), .val (.long lft), .second, .unset, .unset, .unset] [])) _
  refine XS.iconst X16.here hx rfl (hb hby at_150) ?_
  show Steps p.tables e below (T16.setTop (mkF m 151 #[.val (.int p0), .val (.int p1), .val (.int p2), .val (.int p3), .val (.ref b1), .val (.int of), .val (.int ln), .val (.int kk), .val (.ref b6), .val (.long lft), .second, .val (.long lft), .second, .val (.int (0 : Int32)), .val (.long lft), .second, .unset, .unset, .unset] [(.int (0 : Int32))])) _
  refine XS.istore X16.here hx rfl (hb hby at_151) rfl (l' := #[.val (.int p0), .val (.int p1), .val (.int p2), .val (.int p3), .val (.ref b1), .val (.int of), .val (.int ln), .val (.int kk), .val (.ref b6), .val (.long lft), .second, .val (.long lft), .second, .val (.int (0 : Int32)), .val (.long lft), .second, .val (.int (0 : Int32)), .unset, .unset]) rfl ?_
  show Steps p.tables e below (T16.setTop (mkF m 153 #[.val (.int p0), .val (.int p1), .val (.int p2), .val (.int p3), .val (.ref b1), .val (.int of), .val (.int ln), .val (.int kk), .val (.ref b6), .val (.long lft), .second, .val (.long lft), .second, .val (.int (0 : Int32)), .val (.long lft), .second, .val (.int (0 : Int32)), .unset, .unset] [])) _
  refine XS.goto X16.here hx rfl (pc0 := 153) (pc' := 196) rfl (hb hby at_153) (by decide) (by decide) ?_
  show Steps p.tables e below (T16.setTop (mkF m 196 #[.val (.int p0), .val (.int p1), .val (.int p2), .val (.int p3), .val (.ref b1), .val (.int of), .val (.int ln), .val (.int kk), .val (.ref b6), .val (.long lft), .second, .val (.long lft), .second, .val (.int (0 : Int32)), .val (.long lft), .second, .val (.int (0 : Int32)), .unset, .unset] [])) _
  refine XS.lload X16.here hx rfl (hb hby at_196) rfl ?_
  show Steps p.tables e below (T16.setTop (mkF m 198 #[.val (.int p0), .val (.int p1), .val (.int p2), .val (.int p3), .val (.ref b1), .val (.int of), .val (.int ln), .val (.int kk), .val (.ref b6), .val (.long lft), .second, .val (.long lft), .second, .val (.int (0 : Int32)), .val (.long lft), .second, .val (.int (0 : Int32)), .unset, .unset] [(.long lft)])) _
  refine XS.lload X16.here hx rfl (hb hby at_198) rfl ?_
  show Steps p.tables e below (T16.setTop (mkF m 200 #[.val (.int p0), .val (.int p1), .val (.int p2), .val (.int p3), .val (.ref b1), .val (.int of), .val (.int ln), .val (.int kk), .val (.ref b6), .val (.long lft), .second, .val (.long lft), .second, .val (.int (0 : Int32)), .val (.long lft), .second, .val (.int (0 : Int32)), .unset, .unset] [(.long lft), (.long lft)])) _
  refine XS.lcmp X16.here hx rfl (hb hby at_200) rfl ?_
  show Steps p.tables e below (T16.setTop (mkF m 201 #[.val (.int p0), .val (.int p1), .val (.int p2), .val (.int p3), .val (.ref b1), .val (.int of), .val (.int ln), .val (.int kk), .val (.ref b6), .val (.long lft), .second, .val (.long lft), .second, .val (.int (0 : Int32)), .val (.long lft), .second, .val (.int (0 : Int32)), .unset, .unset] [(.int (lcmpW lft lft))])) _
  refine XS.ifNo X16.here hx rfl (hb hby at_201) rfl ((if0 _ _).trans (teq ((lw_eq lft lft).mpr (rfl : lft = lft))).2) ?_
  show Steps p.tables e below (T16.setTop (mkF m 204 #[.val (.int p0), .val (.int p1), .val (.int p2), .val (.int p3), .val (.ref b1), .val (.int of), .val (.int ln), .val (.int kk), .val (.ref b6), .val (.long lft), .second, .val (.long lft), .second, .val (.int (0 : Int32)), .val (.long lft), .second, .val (.int (0 : Int32)), .unset, .unset] [])) _
  refine XS.lload X16.here hx rfl (hb hby at_204) rfl ?_
  show Steps p.tables e below (T16.setTop (mkF m 206 #[.val (.int p0), .val (.int p1), .val (.int p2), .val (.int p3), .val (.ref b1), .val (.int of), .val (.int ln), .val (.int kk), .val (.ref b6), .val (.long lft), .second, .val (.long lft), .second, .val (.int (0 : Int32)), .val (.long lft), .second, .val (.int (0 : Int32)), .unset, .unset] [(.long lft)])) _
  refine XS.lload X16.here hx rfl (hb hby at_206) rfl ?_
  show Steps p.tables e below (T16.setTop (mkF m 208 #[.val (.int p0), .val (.int p1), .val (.int p2), .val (.int p3), .val (.ref b1), .val (.int of), .val (.int ln), .val (.int kk), .val (.ref b6), .val (.long lft), .second, .val (.long lft), .second, .val (.int (0 : Int32)), .val (.long lft), .second, .val (.int (0 : Int32)), .unset, .unset] [(.long lft), (.long lft)])) _
  refine XS.lcmp X16.here hx rfl (hb hby at_208) rfl ?_
  show Steps p.tables e below (T16.setTop (mkF m 209 #[.val (.int p0), .val (.int p1), .val (.int p2), .val (.int p3), .val (.ref b1), .val (.int of), .val (.int ln), .val (.int kk), .val (.ref b6), .val (.long lft), .second, .val (.long lft), .second, .val (.int (0 : Int32)), .val (.long lft), .second, .val (.int (0 : Int32)), .unset, .unset] [(.int (lcmpW lft lft))])) _
  refine XS.ifNo X16.here hx rfl (hb hby at_209) rfl ((if0 _ _).trans (teq ((lw_eq lft lft).mpr (rfl : lft = lft))).2) ?_
  show Steps p.tables e below (T16.setTop (mkF m 212 #[.val (.int p0), .val (.int p1), .val (.int p2), .val (.int p3), .val (.ref b1), .val (.int of), .val (.int ln), .val (.int kk), .val (.ref b6), .val (.long lft), .second, .val (.long lft), .second, .val (.int (0 : Int32)), .val (.long lft), .second, .val (.int (0 : Int32)), .unset, .unset] [])) _
  refine XS.iload X16.here hx rfl (hb hby at_212) rfl ?_
  show Steps p.tables e below (T16.setTop (mkF m 214 #[.val (.int p0), .val (.int p1), .val (.int p2), .val (.int p3), .val (.ref b1), .val (.int of), .val (.int ln), .val (.int kk), .val (.ref b6), .val (.long lft), .second, .val (.long lft), .second, .val (.int (0 : Int32)), .val (.long lft), .second, .val (.int (0 : Int32)), .unset, .unset] [(.int (0 : Int32))])) _
  refine XS.iload X16.here hx rfl (hb hby at_214) rfl ?_
  show Steps p.tables e below (T16.setTop (mkF m 216 #[.val (.int p0), .val (.int p1), .val (.int p2), .val (.int p3), .val (.ref b1), .val (.int of), .val (.int ln), .val (.int kk), .val (.ref b6), .val (.long lft), .second, .val (.long lft), .second, .val (.int (0 : Int32)), .val (.long lft), .second, .val (.int (0 : Int32)), .unset, .unset] [(.int (0 : Int32)), (.int (0 : Int32))])) _
  refine XS.icmpNo X16.here hx rfl (hb hby at_216) rfl (teq (rfl : (0 : Int32) = (0 : Int32))).2 ?_
  show Steps p.tables e below (T16.setTop (mkF m 219 #[.val (.int p0), .val (.int p1), .val (.int p2), .val (.int p3), .val (.ref b1), .val (.int of), .val (.int ln), .val (.int kk), .val (.ref b6), .val (.long lft), .second, .val (.long lft), .second, .val (.int (0 : Int32)), .val (.long lft), .second, .val (.int (0 : Int32)), .unset, .unset] [])) _
  refine XS.iconst X16.here hx rfl (hb hby at_219) ?_
  show Steps p.tables e below (T16.setTop (mkF m 220 #[.val (.int p0), .val (.int p1), .val (.int p2), .val (.int p3), .val (.ref b1), .val (.int of), .val (.int ln), .val (.int kk), .val (.ref b6), .val (.long lft), .second, .val (.long lft), .second, .val (.int (0 : Int32)), .val (.long lft), .second, .val (.int (0 : Int32)), .unset, .unset] [(.int (1 : Int32))])) _
  refine XS.goto X16.here hx rfl (pc0 := 220) (pc' := 224) rfl (hb hby at_220) (by decide) (by decide) ?_
  show Steps p.tables e below (T16.setTop (mkF m 224 #[.val (.int p0), .val (.int p1), .val (.int p2), .val (.int p3), .val (.ref b1), .val (.int of), .val (.int ln), .val (.int kk), .val (.ref b6), .val (.long lft), .second, .val (.long lft), .second, .val (.int (0 : Int32)), .val (.long lft), .second, .val (.int (0 : Int32)), .unset, .unset] [(.int (1 : Int32))])) _
  exact retN X16 hx (t := .boolean) Bd.returns (by simp) (hb hby at_224) hr
def Q0ct (Z : State) (p0 : Int32) (p1 : Int32) (p2 : Int32) (p3 : Int32) (of : Int32) (ln : Int32) (kk : Int32) (lft : Int64) (f : Nat → Int32) (h0 : Heap) (n0 : Nat) (v : Option Value) (h : Heap) (L : List Loc) : Prop := v = some (.int (1 : Int32)) ∧ Fr n0 L
set_option maxRecDepth 65536 in
set_option maxHeartbeats 40000000 in
theorem rm0ct (l : Launch) (Z : State) (a0 : Array Value) (hw : ∀ d ∈ tables_1, d.before a0 Z = true) (ws : List Jvm.Cond) (p0 : Int32) (p1 : Int32) (p2 : Int32) (p3 : Int32) (of : Int32) (ln : Int32) (kk : Int32) (lft : Int64) (f : Nat → Int32) (h0 : Heap) (n0 : Nat) (Z0 : n0 ≤ h0.size) (h_of : ((p1 &&& (2147483647 : Int32)) % (4 : Int32)) = of) (h_ln : ((p2 &&& (2147483647 : Int32)) % ((5 : Int32) - of)) = ln) (h_kk : ((p3 &&& (2147483647 : Int32)) % (((8 : Int32) * ln) + (1 : Int32))) = kk) (h_lft : (((8 : Int64) * (ln.toInt64)) - (kk.toInt64)) = lft) (hf : (own_up (own_up (own_up (own_up (fun _ => 0) 0 ((p0.toInt8.toInt32)).toInt8.toInt32) 1 (((p0 >>> ((8 : Int32) &&& 31)).toInt8.toInt32)).toInt8.toInt32) 2 (((p0 >>> ((16 : Int32) &&& 31)).toInt8.toInt32)).toInt8.toInt32) 3 (((p0 >>> ((24 : Int32) &&& 31)).toInt8.toInt32)).toInt8.toInt32) = f) (hz : ¬ lft = (0 : Int64)) (h8 : lft < (8 : Int64)) (hm : (((f (((of + ln) - (1 : Int32))).toNatClampNeg) &&& (255 : Int32)) &&& (((1 : Int32) <<< ((lft.toInt32) &&& 31)) - (1 : Int32))) = (0 : Int32)) :
    MetFree l x (head1 (Jvm.Cond.code x code maxLocals ret :: ws) room_1) (fun a_ U_ => a_ = #[(.int p0), (.int p1), (.int p2), (.int p3)] ∧ Z.Warmed39 U_.vm ∧ U_.heap = h0) (fun _ _ _ _ _ => True) (fun _ U_ o_ U' => ∃ v_ L_, o_ = .returned v_ ∧ (Q0ct Z p0 p1 p2 p3 of ln kk lft f h0 n0 v_ U'.heap L_) ∧ FrameEnd U_ o_ U' L_ room_1.cells room_1.slots) := by
  refine MetFree.of_bodySF (plainFor_of_name pn_0) hisR ?_
  intro p e s m args below meth c s₁ Bd hml0 hP hK
  obtain ⟨rfl, hZ, hh⟩ := hP
  have hx := Bd.exec
  have hby := Bd.bytes
  have hml : c.maxLocals = 19 := hml0
  have hown : s.vm.findClass "com/example/fewbits/fewbits/BitReaderOnlyPaddingLeftPinLaw" = some m.cls := findClass_of_methodNamed Bd.named
  have hnm := (name_of_methodNamed Bd.named Bd.method).1
  have X0 : Stand p l e room_1 s m #[(.int p0), (.int p1), (.int p2), (.int p3)] below meth c s₁ [] 0 0 := Stand.of_body Bd
  have e0 : s₁.heap = h0 := by rw [← hh, Bd.state]; rfl
  have N0 := Fr.nil n0
  have pre0 : ∀ t, Steps p.tables e below (s₁.setTop (mkF m 0 #[.val (.int p0), .val (.int p1), .val (.int p2), .val (.int p3), .unset, .unset, .unset, .unset, .unset, .unset, .unset, .unset, .unset, .unset, .unset, .unset, .unset, .unset, .unset] [])) t → Steps p.tables e below (s₁.setTop (entryFrame m #[(.int p0), (.int p1), (.int p2), (.int p3)] maxLocals)) t := fun t k => castTop (ef_0 m p0 p1 p2 p3) k
  obtain ⟨T1, h1, X1, e1, E1, A1, st1⟩ := own_newI X0 hx hZ (hw _ (List.mem_of_getElem? (i := 0) rfl)) rfl e0 (g := (mkF m 1 #[.val (.int p0), .val (.int p1), .val (.int p2), .val (.int p3), .unset, .unset, .unset, .unset, .unset, .unset, .unset, .unset, .unset, .unset, .unset, .unset, .unset, .unset, .unset] [(.int (4 : Int32))])) rfl (hb hby at_1) rfl (by decide) (cap := 4) (by decide) (by decide) (by decide) (by decide)
  obtain ⟨b1, g1⟩ : ∃ z, z = h0.size := ⟨_, rfl⟩
  rw [← g1] at A1 st1
  have f_b1 : n0 ≤ b1 := Nat.le_trans Z0 (Nat.le_of_eq g1.symm)
  have s_b1 : h0.size ≤ b1 := Nat.le_trans (Keep.refl h0 []).1 (Nat.le_of_eq g1.symm)
  have K1 : Keep h0 h1 [] := (Keep.refl h0 []).ext E1
  have Z1 : n0 ≤ h1.size := Nat.le_trans Z0 E1.1
  obtain ⟨T2, h2, X2, e2, W2, A2, st2⟩ := own_stB X1 hx hZ e1 A1 (j := (0 : Int32)) ⟨by decide, by decide⟩ (g := (mkF m 10 #[.val (.int p0), .val (.int p1), .val (.int p2), .val (.int p3), .val (.ref b1), .unset, .unset, .unset, .unset, .unset, .unset, .unset, .unset, .unset, .unset, .unset, .unset, .unset, .unset] [(.int (p0.toInt8.toInt32)), (.int (0 : Int32)), (.ref b1)])) rfl rfl (hb hby at_10)
  have N2 := Fr.snoc X2 N0 f_b1
  have K2 : Keep h0 h2 [] := K1.wr W2 (Or.inr s_b1)
  have Z2 : n0 ≤ h2.size := Nat.le_trans Z1 (Nat.le_of_eq (W2.size).symm)
  obtain ⟨T3, h3, X3, e3, W3, A3, st3⟩ := own_stB X2 hx hZ e2 A2 (j := (1 : Int32)) ⟨by decide, by decide⟩ (g := (mkF m 19 #[.val (.int p0), .val (.int p1), .val (.int p2), .val (.int p3), .val (.ref b1), .unset, .unset, .unset, .unset, .unset, .unset, .unset, .unset, .unset, .unset, .unset, .unset, .unset, .unset] [(.int ((p0 >>> ((8 : Int32) &&& 31)).toInt8.toInt32)), (.int (1 : Int32)), (.ref b1)])) rfl rfl (hb hby at_19)
  have N3 := Fr.snoc X3 N2 f_b1
  have K3 : Keep h0 h3 [] := K2.wr W3 (Or.inr s_b1)
  have Z3 : n0 ≤ h3.size := Nat.le_trans Z2 (Nat.le_of_eq (W3.size).symm)
  obtain ⟨T4, h4, X4, e4, W4, A4, st4⟩ := own_stB X3 hx hZ e3 A3 (j := (2 : Int32)) ⟨by decide, by decide⟩ (g := (mkF m 28 #[.val (.int p0), .val (.int p1), .val (.int p2), .val (.int p3), .val (.ref b1), .unset, .unset, .unset, .unset, .unset, .unset, .unset, .unset, .unset, .unset, .unset, .unset, .unset, .unset] [(.int ((p0 >>> ((16 : Int32) &&& 31)).toInt8.toInt32)), (.int (2 : Int32)), (.ref b1)])) rfl rfl (hb hby at_28)
  have N4 := Fr.snoc X4 N3 f_b1
  have K4 : Keep h0 h4 [] := K3.wr W4 (Or.inr s_b1)
  have Z4 : n0 ≤ h4.size := Nat.le_trans Z3 (Nat.le_of_eq (W4.size).symm)
  obtain ⟨T5, h5, X5, e5, W5, A5, st5⟩ := own_stB X4 hx hZ e4 A4 (j := (3 : Int32)) ⟨by decide, by decide⟩ (g := (mkF m 37 #[.val (.int p0), .val (.int p1), .val (.int p2), .val (.int p3), .val (.ref b1), .unset, .unset, .unset, .unset, .unset, .unset, .unset, .unset, .unset, .unset, .unset, .unset, .unset, .unset] [(.int ((p0 >>> ((24 : Int32) &&& 31)).toInt8.toInt32)), (.int (3 : Int32)), (.ref b1)])) rfl rfl (hb hby at_37)
  have N5 := Fr.snoc X5 N4 f_b1
  have K5 : Keep h0 h5 [] := K4.wr W5 (Or.inr s_b1)
  have Z5 : n0 ≤ h5.size := Nat.le_trans Z4 (Nat.le_of_eq (W5.size).symm)
  have Qo := own_off h_of
  have Ql := own_ln Qo h_ln
  have Qk := own_kk Ql Qo.1 h_kk
  have AF : own_AI Z h5 b1 .byte (4 : Int32) f := hf ▸ A5
  obtain ⟨T6, h6, X6, e6, E6, A6, D6, -, st6⟩ := newO X5 hx hZ hown (hw _ (List.mem_of_getElem? (i := 2) rfl)) (hw _ (List.mem_of_getElem? (i := 3) rfl)) (hw _ (List.mem_of_getElem? (i := 4) rfl)) e5 (g := (mkF m 71 #[.val (.int p0), .val (.int p1), .val (.int p2), .val (.int p3), .val (.ref b1), .val (.int of), .val (.int ln), .val (.int kk), .unset, .unset, .unset, .unset, .unset, .unset, .unset, .unset, .unset, .unset, .unset] [])) rfl (hb hby at_71) (by decide) (by decide)
  obtain ⟨b6, g6⟩ : ∃ z, z = h5.size := ⟨_, rfl⟩
  rw [← g6] at A6 D6 st6
  have f_b6 : n0 ≤ b6 := Nat.le_trans Z5 (Nat.le_of_eq g6.symm)
  have s_b6 : h0.size ≤ b6 := Nat.le_trans K5.1 (Nat.le_of_eq g6.symm)
  have K6 : Keep h0 h6 [] := K5.ext E6
  have A6_b1 := AF.ext E6
  have O6 : own_Br Z h6 b6 .null (.long (0 : Int64)) (.long (0 : Int64)) := ⟨A6, D6 (Or.inr (hw _ (List.mem_of_getElem? (i := 20) rfl))) (ty := (.array .byte)) (by decide), D6 (Or.inl (hw _ (List.mem_of_getElem? (i := 23) rfl))) (ty := .long) (by decide), D6 (Or.inr (hw _ (List.mem_of_getElem? (i := 25) rfl))) (ty := .long) (by decide)⟩
  have Z6 : n0 ≤ h6.size := Nat.le_trans Z5 E6.1
  obtain ⟨Lg7, Xg7, Ng7⟩ := own_gen X6 N5
  obtain ⟨_, _, ⟨T8, L8, k8, n8⟩, -, X8, ⟨Lc8, hQ8, l8, y8, z8⟩, st8⟩ := Xg7.specialBack hx (y := (⟨"com/example/fewbits/fewbits/BitReader", "<init>", "([BII)V"⟩ : MethodName)) rfl hown (mvT hZ (hw _ (List.mem_of_getElem? (i := 5) rfl))) (mvT hZ (hw _ (List.mem_of_getElem? (i := 6) rfl))) (mvT hZ (hw _ (List.mem_of_getElem? (i := 7) rfl))) (by decide) (backOf (W := 1) (rm3 l Z a0 hw [] b6 b1 of ln f h6 n0 Z6 f_b6 O6 A6_b1 (own_chk1 Qo Ql) (own_chk2 Qo Ql)) hZ (hw _ (List.mem_of_getElem? (i := 7) rfl)) (hw _ (List.mem_of_getElem? (i := 4) rfl)) (by decide) (by decide)) (g := (mkF m 81 #[.val (.int p0), .val (.int p1), .val (.int p2), .val (.int p3), .val (.ref b1), .val (.int of), .val (.int ln), .val (.int kk), .unset, .unset, .unset, .unset, .unset, .unset, .unset, .unset, .unset, .unset, .unset] [(.int ln), (.int of), (.ref b1), (.ref b6), (.ref b6)])) rfl (by rw [hml]; rfl) (Steps.refl _) (a := b6) (argsL := [(.ref b1), (.int of), (.int ln)]) (rest := [(.ref b6)]) (lenOf pd_4 rfl) rfl (by show 2 * 0 + _ ≤ _; exact Nat.le_of_eq rfl) (hb hby at_81) (fun _ _ => ⟨rfl, e6, (by decide : 2 + 0 ≤ _), (by decide : 7 + 0 ≤ _)⟩)
  dsimp only [Pt.U, Pt.locs, Pt.cells, Pt.slots] at X8 l8 y8 z8 st8 hQ8
  subst l8 y8 z8
  obtain ⟨rfl, Nq8, Kq8, Oq8⟩ := hQ8
  have N8 := Fr.app Ng7 Nq8
  have Z8 : n0 ≤ T8.heap.size := Nat.le_trans Z6 Kq8.1
  have AA8 := A6_b1.keep Kq8 (ninS (own_ne_obj O6.1 (hw _ (List.mem_of_getElem? (i := 3) rfl)) A6_b1).symm nin0)
  obtain ⟨ps, h_ps⟩ : ∃ z, ((of.toInt64) * (8 : Int64)) = z := ⟨_, rfl⟩
  obtain ⟨en, h_en⟩ : ∃ z, (((of.toInt64) + (ln.toInt64)) * (8 : Int64)) = z := ⟨_, rfl⟩
  rw [h_ps, h_en] at Oq8
  have Qp := own_pos Qo h_ps
  have Qe := own_end Qo Ql h_en
  obtain ⟨Lg9, Xg9, Ng9⟩ := own_gen X8 N8
  obtain ⟨cq10, kq10, qa10, qb10, qc10⟩ := isOf hZ rfl Oq8.1
  obtain ⟨_, _, ⟨T10, L10, k10, n10⟩, -, X10, ⟨Lc10, hQ10, l10, y10, z10⟩, st10⟩ := Xg9.virtualBack hx (y := (⟨"com/example/fewbits/fewbits/BitReader", "readBits", "(I)I"⟩ : MethodName)) (z := (⟨"com/example/fewbits/fewbits/BitReader", "readBits", "(I)I"⟩ : MethodName)) hown (mvT hZ (hw _ (List.mem_of_getElem? (i := 26) rfl))) (mvT hZ (hw _ (List.mem_of_getElem? (i := 27) rfl))) (notFace_of_selects (args := #[]) (mvT hZ (hw _ (List.mem_of_getElem? (i := 29) rfl)))) (mvT hZ (hw _ (List.mem_of_getElem? (i := 29) rfl))) (mvT hZ (hw _ (List.mem_of_getElem? (i := 28) rfl))) (by decide) (backOf (W := 0) (rm6 l Z a0 hw [] b6 kk b1 f ps en _ _ T8.heap n0 Z8 f_b6 Oq8 AA8 Qp rfl (own_r1 Qo) (own_r2 Ql Qk) (own_r3 Qo Ql Qk) (own_r4 Ql Qk) (own_r5 Qo Ql Qk) (own_r6 Qo Ql Qk Qp Qe)) hZ (hw _ (List.mem_of_getElem? (i := 30) rfl)) (hw _ (List.mem_of_getElem? (i := 4) rfl)) (by decide) (by decide)) qa10 qc10 (g := (mkF m 90 #[.val (.int p0), .val (.int p1), .val (.int p2), .val (.int p3), .val (.ref b1), .val (.int of), .val (.int ln), .val (.int kk), .val (.ref b6), .unset, .unset, .unset, .unset, .unset, .unset, .unset, .unset, .unset, .unset] [(.int kk), (.ref b6)])) rfl (by rw [hml]; rfl) (Steps.refl _) (argsL := [(.int kk)]) (rest := []) (lenOf pd_5 rfl) rfl (by show 2 * 0 + _ ≤ _; exact Nat.le_of_eq rfl) (hb hby at_90) (fun _ _ => ⟨rfl, rfl, (by decide : 2 + 0 ≤ _), (by decide : 7 + 0 ≤ _)⟩)
  dsimp only [Pt.U, Pt.locs, Pt.cells, Pt.slots] at X10 l10 y10 z10 st10 hQ10
  subst l10 y10 z10
  obtain ⟨⟨rv, rfl⟩, Nq10, Kq10, ⟨pt, Qt, Oq10⟩, Aq10⟩ := hQ10
  have N10 := Fr.app Ng9 Nq10
  have Z10 : n0 ≤ T10.heap.size := Nat.le_trans Z8 Kq10.1
  have hlq := own_left Qo Ql Qk Qt Qe h_lft
  obtain ⟨Lg11, Xg11, Ng11⟩ := own_gen X10 N10
  obtain ⟨cq12, kq12, qa12, qb12, qc12⟩ := isOf hZ rfl Oq10.1
  obtain ⟨_, _, ⟨T12, L12, k12, n12⟩, -, X12, ⟨Lc12, hQ12, l12, y12, z12⟩, st12⟩ := Xg11.virtualBack hx (y := (⟨"com/example/fewbits/fewbits/BitReader", "getBitsLeft", "()J"⟩ : MethodName)) (z := (⟨"com/example/fewbits/fewbits/BitReader", "getBitsLeft", "()J"⟩ : MethodName)) hown (mvT hZ (hw _ (List.mem_of_getElem? (i := 36) rfl))) (mvT hZ (hw _ (List.mem_of_getElem? (i := 37) rfl))) (notFace_of_selects (args := #[]) (mvT hZ (hw _ (List.mem_of_getElem? (i := 39) rfl)))) (mvT hZ (hw _ (List.mem_of_getElem? (i := 39) rfl))) (mvT hZ (hw _ (List.mem_of_getElem? (i := 38) rfl))) (by decide) (backOf (W := 0) (rm7 l Z a0 hw [] b6 b1 pt en T10.heap n0 Z10 Oq10) hZ (hw _ (List.mem_of_getElem? (i := 40) rfl)) (hw _ (List.mem_of_getElem? (i := 4) rfl)) (by decide) (by decide)) qa12 qc12 (g := (mkF m 109 #[.val (.int p0), .val (.int p1), .val (.int p2), .val (.int p3), .val (.ref b1), .val (.int of), .val (.int ln), .val (.int kk), .val (.ref b6), .val (.long lft), .second, .unset, .unset, .unset, .unset, .unset, .unset, .unset, .unset] [(.ref b6)])) rfl (by rw [hml]; rfl) (Steps.refl _) (argsL := []) (rest := []) (lenOf pd_6 rfl) rfl (by show 2 * 0 + _ ≤ _; exact Nat.le_of_eq rfl) (hb hby at_109) (fun _ _ => ⟨rfl, rfl, (by decide : 2 + 0 ≤ _), (by decide : 7 + 0 ≤ _)⟩)
  dsimp only [Pt.U, Pt.locs, Pt.cells, Pt.slots] at X12 l12 y12 z12 st12 hQ12
  subst l12 y12 z12
  obtain ⟨rfl, Nq12, e12⟩ := hQ12
  have N12 := Fr.app Ng11 Nq12
  have hk := (own_fin (f := f) Qo Ql Qk hlq h_lft hz h8 Qt Qe).mpr hm
  obtain ⟨Lg13, Xg13, Ng13⟩ := own_gen X12 N12
  obtain ⟨cq14, kq14, qa14, qb14, qc14⟩ := isOf hZ e12 Oq10.1
  obtain ⟨_, _, ⟨T14, L14, k14, n14⟩, -, X14, ⟨Lc14, hQ14, l14, y14, z14⟩, st14⟩ := Xg13.virtualBack hx (y := (⟨"com/example/fewbits/fewbits/BitReader", "onlyPaddingLeft", "()Z"⟩ : MethodName)) (z := (⟨"com/example/fewbits/fewbits/BitReader", "onlyPaddingLeft", "()Z"⟩ : MethodName)) hown (mvT hZ (hw _ (List.mem_of_getElem? (i := 41) rfl))) (mvT hZ (hw _ (List.mem_of_getElem? (i := 42) rfl))) (notFace_of_selects (args := #[]) (mvT hZ (hw _ (List.mem_of_getElem? (i := 44) rfl)))) (mvT hZ (hw _ (List.mem_of_getElem? (i := 44) rfl))) (mvT hZ (hw _ (List.mem_of_getElem? (i := 43) rfl))) (by decide) (backOf (W := 0) (rm8ct l Z a0 hw [] b6 b1 f pt en T10.heap n0 Z10 Oq10 Aq10 (fun q => hz (hlq.symm.trans q)) (hlq.symm ▸ h8) (own_turnX Qt (own_t1 Qo Qk) (own_t2 Qo Ql Qk hlq hz Qt Qe)) hk) hZ (hw _ (List.mem_of_getElem? (i := 45) rfl)) (hw _ (List.mem_of_getElem? (i := 4) rfl)) (by decide) (by decide)) qa14 qc14 (g := (mkF m 116 #[.val (.int p0), .val (.int p1), .val (.int p2), .val (.int p3), .val (.ref b1), .val (.int of), .val (.int ln), .val (.int kk), .val (.ref b6), .val (.long lft), .second, .val (.long lft), .second, .unset, .unset, .unset, .unset, .unset, .unset] [(.ref b6)])) rfl (by rw [hml]; rfl) (Steps.refl _) (argsL := []) (rest := []) (lenOf pd_7 rfl) rfl (by show 2 * 0 + _ ≤ _; exact Nat.le_of_eq rfl) (hb hby at_116) (fun _ _ => ⟨rfl, e12, (by decide : 2 + 0 ≤ _), (by decide : 7 + 0 ≤ _)⟩)
  dsimp only [Pt.U, Pt.locs, Pt.cells, Pt.slots] at X14 l14 y14 z14 st14 hQ14
  subst l14 y14 z14
  obtain ⟨rfl, Nq14, e14⟩ := hQ14
  have N14 := Fr.app Ng13 Nq14
  obtain ⟨Lg15, Xg15, Ng15⟩ := own_gen X14 N14
  obtain ⟨cq16, kq16, qa16, qb16, qc16⟩ := isOf hZ e14 Oq10.1
  obtain ⟨_, _, ⟨T16, L16, k16, n16⟩, -, X16, ⟨Lc16, hQ16, l16, y16, z16⟩, st16⟩ := Xg15.virtualBack hx (y := (⟨"com/example/fewbits/fewbits/BitReader", "getBitsLeft", "()J"⟩ : MethodName)) (z := (⟨"com/example/fewbits/fewbits/BitReader", "getBitsLeft", "()J"⟩ : MethodName)) hown (mvT hZ (hw _ (List.mem_of_getElem? (i := 36) rfl))) (mvT hZ (hw _ (List.mem_of_getElem? (i := 37) rfl))) (notFace_of_selects (args := #[]) (mvT hZ (hw _ (List.mem_of_getElem? (i := 39) rfl)))) (mvT hZ (hw _ (List.mem_of_getElem? (i := 39) rfl))) (mvT hZ (hw _ (List.mem_of_getElem? (i := 38) rfl))) (by decide) (backOf (W := 0) (rm7 l Z a0 hw [] b6 b1 pt en T10.heap n0 Z10 Oq10) hZ (hw _ (List.mem_of_getElem? (i := 40) rfl)) (hw _ (List.mem_of_getElem? (i := 4) rfl)) (by decide) (by decide)) qa16 qc16 (g := (mkF m 123 #[.val (.int p0), .val (.int p1), .val (.int p2), .val (.int p3), .val (.ref b1), .val (.int of), .val (.int ln), .val (.int kk), .val (.ref b6), .val (.long lft), .second, .val (.long lft), .second, .val (.int (1 : Int32)), .unset, .unset, .unset, .unset, .unset] [(.ref b6)])) rfl (by rw [hml]; rfl) (Steps.refl _) (argsL := []) (rest := []) (lenOf pd_6 rfl) rfl (by show 2 * 0 + _ ≤ _; exact Nat.le_of_eq rfl) (hb hby at_123) (fun _ _ => ⟨rfl, e14, (by decide : 2 + 0 ≤ _), (by decide : 7 + 0 ≤ _)⟩)
  dsimp only [Pt.U, Pt.locs, Pt.cells, Pt.slots] at X16 l16 y16 z16 st16 hQ16
  subst l16 y16 z16
  obtain ⟨rfl, Nq16, e16⟩ := hQ16
  have N16 := Fr.app Ng15 Nq16
  have hin2 := own_last Qo Ql Qk hlq hz Qt Qe
  obtain ⟨fs, hr, hrun, hended, hW, hsame⟩ := X16.leave (v := some (.int (1 : Int32))) (fun h => by rw [Bd.returns] at h; cases h)
  refine ⟨_, _, pre0 _ ?_, hrun, hended, _, _, rfl, ⟨rfl, N16⟩, ⟨_, rfl⟩, hW, hsame.mono (by decide) (by decide)⟩
  show Steps p.tables e below (s₁.setTop (mkF m 0 #[.val (.int p0), .val (.int p1), .val (.int p2), .val (.int p3), .unset, .unset, .unset, .unset, .unset, .unset, .unset, .unset, .unset, .unset, .unset, .unset, .unset, .unset, .unset] [])) _
  refine XS.iconst X0.here hx rfl (hb hby at_0) ?_
  show Steps p.tables e below (s₁.setTop (mkF m 1 #[.val (.int p0), .val (.int p1), .val (.int p2), .val (.int p3), .unset, .unset, .unset, .unset, .unset, .unset, .unset, .unset, .unset, .unset, .unset, .unset, .unset, .unset, .unset] [(.int (4 : Int32))])) _
  refine st1 _ ?_
  show Steps p.tables e below (T1.setTop (mkF m 3 #[.val (.int p0), .val (.int p1), .val (.int p2), .val (.int p3), .unset, .unset, .unset, .unset, .unset, .unset, .unset, .unset, .unset, .unset, .unset, .unset, .unset, .unset, .unset] [(.ref b1)])) _
  refine XS.astore X1.here hx rfl (hb hby at_3) rfl rfl (l' := #[.val (.int p0), .val (.int p1), .val (.int p2), .val (.int p3), .val (.ref b1), .unset, .unset, .unset, .unset, .unset, .unset, .unset, .unset, .unset, .unset, .unset, .unset, .unset, .unset]) rfl ?_
  show Steps p.tables e below (T1.setTop (mkF m 5 #[.val (.int p0), .val (.int p1), .val (.int p2), .val (.int p3), .val (.ref b1), .unset, .unset, .unset, .unset, .unset, .unset, .unset, .unset, .unset, .unset, .unset, .unset, .unset, .unset] [])) _
  refine XS.aload X1.here hx rfl (hb hby at_5) rfl rfl ?_
  show Steps p.tables e below (T1.setTop (mkF m 7 #[.val (.int p0), .val (.int p1), .val (.int p2), .val (.int p3), .val (.ref b1), .unset, .unset, .unset, .unset, .unset, .unset, .unset, .unset, .unset, .unset, .unset, .unset, .unset, .unset] [(.ref b1)])) _
  refine XS.iconst X1.here hx rfl (hb hby at_7) ?_
  show Steps p.tables e below (T1.setTop (mkF m 8 #[.val (.int p0), .val (.int p1), .val (.int p2), .val (.int p3), .val (.ref b1), .unset, .unset, .unset, .unset, .unset, .unset, .unset, .unset, .unset, .unset, .unset, .unset, .unset, .unset] [(.int (0 : Int32)), (.ref b1)])) _
  refine XS.iloadN X1.here hx rfl (hb hby at_8) rfl ?_
  show Steps p.tables e below (T1.setTop (mkF m 9 #[.val (.int p0), .val (.int p1), .val (.int p2), .val (.int p3), .val (.ref b1), .unset, .unset, .unset, .unset, .unset, .unset, .unset, .unset, .unset, .unset, .unset, .unset, .unset, .unset] [(.int p0), (.int (0 : Int32)), (.ref b1)])) _
  refine XS.i2b X1.here hx rfl (hb hby at_9) rfl ?_
  show Steps p.tables e below (T1.setTop (mkF m 10 #[.val (.int p0), .val (.int p1), .val (.int p2), .val (.int p3), .val (.ref b1), .unset, .unset, .unset, .unset, .unset, .unset, .unset, .unset, .unset, .unset, .unset, .unset, .unset, .unset] [(.int (p0.toInt8.toInt32)), (.int (0 : Int32)), (.ref b1)])) _
  refine st2 _ ?_
  show Steps p.tables e below (T2.setTop (mkF m 11 #[.val (.int p0), .val (.int p1), .val (.int p2), .val (.int p3), .val (.ref b1), .unset, .unset, .unset, .unset, .unset, .unset, .unset, .unset, .unset, .unset, .unset, .unset, .unset, .unset] [])) _
  refine XS.aload X2.here hx rfl (hb hby at_11) rfl rfl ?_
  show Steps p.tables e below (T2.setTop (mkF m 13 #[.val (.int p0), .val (.int p1), .val (.int p2), .val (.int p3), .val (.ref b1), .unset, .unset, .unset, .unset, .unset, .unset, .unset, .unset, .unset, .unset, .unset, .unset, .unset, .unset] [(.ref b1)])) _
  refine XS.iconst X2.here hx rfl (hb hby at_13) ?_
  show Steps p.tables e below (T2.setTop (mkF m 14 #[.val (.int p0), .val (.int p1), .val (.int p2), .val (.int p3), .val (.ref b1), .unset, .unset, .unset, .unset, .unset, .unset, .unset, .unset, .unset, .unset, .unset, .unset, .unset, .unset] [(.int (1 : Int32)), (.ref b1)])) _
  refine XS.iloadN X2.here hx rfl (hb hby at_14) rfl ?_
  show Steps p.tables e below (T2.setTop (mkF m 15 #[.val (.int p0), .val (.int p1), .val (.int p2), .val (.int p3), .val (.ref b1), .unset, .unset, .unset, .unset, .unset, .unset, .unset, .unset, .unset, .unset, .unset, .unset, .unset, .unset] [(.int p0), (.int (1 : Int32)), (.ref b1)])) _
  refine XS.bipush X2.here hx rfl (hb hby at_15) ?_
  show Steps p.tables e below (T2.setTop (mkF m 17 #[.val (.int p0), .val (.int p1), .val (.int p2), .val (.int p3), .val (.ref b1), .unset, .unset, .unset, .unset, .unset, .unset, .unset, .unset, .unset, .unset, .unset, .unset, .unset, .unset] [(.int (8 : Int32)), (.int p0), (.int (1 : Int32)), (.ref b1)])) _
  refine XS.ishr X2.here hx rfl (hb hby at_17) rfl ?_
  show Steps p.tables e below (T2.setTop (mkF m 18 #[.val (.int p0), .val (.int p1), .val (.int p2), .val (.int p3), .val (.ref b1), .unset, .unset, .unset, .unset, .unset, .unset, .unset, .unset, .unset, .unset, .unset, .unset, .unset, .unset] [(.int (p0 >>> ((8 : Int32) &&& 31))), (.int (1 : Int32)), (.ref b1)])) _
  refine XS.i2b X2.here hx rfl (hb hby at_18) rfl ?_
  show Steps p.tables e below (T2.setTop (mkF m 19 #[.val (.int p0), .val (.int p1), .val (.int p2), .val (.int p3), .val (.ref b1), .unset, .unset, .unset, .unset, .unset, .unset, .unset, .unset, .unset, .unset, .unset, .unset, .unset, .unset] [(.int ((p0 >>> ((8 : Int32) &&& 31)).toInt8.toInt32)), (.int (1 : Int32)), (.ref b1)])) _
  refine st3 _ ?_
  show Steps p.tables e below (T3.setTop (mkF m 20 #[.val (.int p0), .val (.int p1), .val (.int p2), .val (.int p3), .val (.ref b1), .unset, .unset, .unset, .unset, .unset, .unset, .unset, .unset, .unset, .unset, .unset, .unset, .unset, .unset] [])) _
  refine XS.aload X3.here hx rfl (hb hby at_20) rfl rfl ?_
  show Steps p.tables e below (T3.setTop (mkF m 22 #[.val (.int p0), .val (.int p1), .val (.int p2), .val (.int p3), .val (.ref b1), .unset, .unset, .unset, .unset, .unset, .unset, .unset, .unset, .unset, .unset, .unset, .unset, .unset, .unset] [(.ref b1)])) _
  refine XS.iconst X3.here hx rfl (hb hby at_22) ?_
  show Steps p.tables e below (T3.setTop (mkF m 23 #[.val (.int p0), .val (.int p1), .val (.int p2), .val (.int p3), .val (.ref b1), .unset, .unset, .unset, .unset, .unset, .unset, .unset, .unset, .unset, .unset, .unset, .unset, .unset, .unset] [(.int (2 : Int32)), (.ref b1)])) _
  refine XS.iloadN X3.here hx rfl (hb hby at_23) rfl ?_
  show Steps p.tables e below (T3.setTop (mkF m 24 #[.val (.int p0), .val (.int p1), .val (.int p2), .val (.int p3), .val (.ref b1), .unset, .unset, .unset, .unset, .unset, .unset, .unset, .unset, .unset, .unset, .unset, .unset, .unset, .unset] [(.int p0), (.int (2 : Int32)), (.ref b1)])) _
  refine XS.bipush X3.here hx rfl (hb hby at_24) ?_
  show Steps p.tables e below (T3.setTop (mkF m 26 #[.val (.int p0), .val (.int p1), .val (.int p2), .val (.int p3), .val (.ref b1), .unset, .unset, .unset, .unset, .unset, .unset, .unset, .unset, .unset, .unset, .unset, .unset, .unset, .unset] [(.int (16 : Int32)), (.int p0), (.int (2 : Int32)), (.ref b1)])) _
  refine XS.ishr X3.here hx rfl (hb hby at_26) rfl ?_
  show Steps p.tables e below (T3.setTop (mkF m 27 #[.val (.int p0), .val (.int p1), .val (.int p2), .val (.int p3), .val (.ref b1), .unset, .unset, .unset, .unset, .unset, .unset, .unset, .unset, .unset, .unset, .unset, .unset, .unset, .unset] [(.int (p0 >>> ((16 : Int32) &&& 31))), (.int (2 : Int32)), (.ref b1)])) _
  refine XS.i2b X3.here hx rfl (hb hby at_27) rfl ?_
  show Steps p.tables e below (T3.setTop (mkF m 28 #[.val (.int p0), .val (.int p1), .val (.int p2), .val (.int p3), .val (.ref b1), .unset, .unset, .unset, .unset, .unset, .unset, .unset, .unset, .unset, .unset, .unset, .unset, .unset, .unset] [(.int ((p0 >>> ((16 : Int32) &&& 31)).toInt8.toInt32)), (.int (2 : Int32)), (.ref b1)])) _
  refine st4 _ ?_
  show Steps p.tables e below (T4.setTop (mkF m 29 #[.val (.int p0), .val (.int p1), .val (.int p2), .val (.int p3), .val (.ref b1), .unset, .unset, .unset, .unset, .unset, .unset, .unset, .unset, .unset, .unset, .unset, .unset, .unset, .unset] [])) _
  refine XS.aload X4.here hx rfl (hb hby at_29) rfl rfl ?_
  show Steps p.tables e below (T4.setTop (mkF m 31 #[.val (.int p0), .val (.int p1), .val (.int p2), .val (.int p3), .val (.ref b1), .unset, .unset, .unset, .unset, .unset, .unset, .unset, .unset, .unset, .unset, .unset, .unset, .unset, .unset] [(.ref b1)])) _
  refine XS.iconst X4.here hx rfl (hb hby at_31) ?_
  show Steps p.tables e below (T4.setTop (mkF m 32 #[.val (.int p0), .val (.int p1), .val (.int p2), .val (.int p3), .val (.ref b1), .unset, .unset, .unset, .unset, .unset, .unset, .unset, .unset, .unset, .unset, .unset, .unset, .unset, .unset] [(.int (3 : Int32)), (.ref b1)])) _
  refine XS.iloadN X4.here hx rfl (hb hby at_32) rfl ?_
  show Steps p.tables e below (T4.setTop (mkF m 33 #[.val (.int p0), .val (.int p1), .val (.int p2), .val (.int p3), .val (.ref b1), .unset, .unset, .unset, .unset, .unset, .unset, .unset, .unset, .unset, .unset, .unset, .unset, .unset, .unset] [(.int p0), (.int (3 : Int32)), (.ref b1)])) _
  refine XS.bipush X4.here hx rfl (hb hby at_33) ?_
  show Steps p.tables e below (T4.setTop (mkF m 35 #[.val (.int p0), .val (.int p1), .val (.int p2), .val (.int p3), .val (.ref b1), .unset, .unset, .unset, .unset, .unset, .unset, .unset, .unset, .unset, .unset, .unset, .unset, .unset, .unset] [(.int (24 : Int32)), (.int p0), (.int (3 : Int32)), (.ref b1)])) _
  refine XS.ishr X4.here hx rfl (hb hby at_35) rfl ?_
  show Steps p.tables e below (T4.setTop (mkF m 36 #[.val (.int p0), .val (.int p1), .val (.int p2), .val (.int p3), .val (.ref b1), .unset, .unset, .unset, .unset, .unset, .unset, .unset, .unset, .unset, .unset, .unset, .unset, .unset, .unset] [(.int (p0 >>> ((24 : Int32) &&& 31))), (.int (3 : Int32)), (.ref b1)])) _
  refine XS.i2b X4.here hx rfl (hb hby at_36) rfl ?_
  show Steps p.tables e below (T4.setTop (mkF m 37 #[.val (.int p0), .val (.int p1), .val (.int p2), .val (.int p3), .val (.ref b1), .unset, .unset, .unset, .unset, .unset, .unset, .unset, .unset, .unset, .unset, .unset, .unset, .unset, .unset] [(.int ((p0 >>> ((24 : Int32) &&& 31)).toInt8.toInt32)), (.int (3 : Int32)), (.ref b1)])) _
  refine st5 _ ?_
  show Steps p.tables e below (T5.setTop (mkF m 38 #[.val (.int p0), .val (.int p1), .val (.int p2), .val (.int p3), .val (.ref b1), .unset, .unset, .unset, .unset, .unset, .unset, .unset, .unset, .unset, .unset, .unset, .unset, .unset, .unset] [])) _
  refine XS.iloadN X5.here hx rfl (hb hby at_38) rfl ?_
  show Steps p.tables e below (T5.setTop (mkF m 39 #[.val (.int p0), .val (.int p1), .val (.int p2), .val (.int p3), .val (.ref b1), .unset, .unset, .unset, .unset, .unset, .unset, .unset, .unset, .unset, .unset, .unset, .unset, .unset, .unset] [(.int p1)])) _
  refine X5.ldcI hx hown (mvT hZ (hw _ (List.mem_of_getElem? (i := 1) rfl))) rfl (hb hby at_39) ?_
  show Steps p.tables e below (T5.setTop (mkF m 41 #[.val (.int p0), .val (.int p1), .val (.int p2), .val (.int p3), .val (.ref b1), .unset, .unset, .unset, .unset, .unset, .unset, .unset, .unset, .unset, .unset, .unset, .unset, .unset, .unset] [(.int (2147483647 : Int32)), (.int p1)])) _
  refine XS.iand X5.here hx rfl (hb hby at_41) rfl ?_
  show Steps p.tables e below (T5.setTop (mkF m 42 #[.val (.int p0), .val (.int p1), .val (.int p2), .val (.int p3), .val (.ref b1), .unset, .unset, .unset, .unset, .unset, .unset, .unset, .unset, .unset, .unset, .unset, .unset, .unset, .unset] [(.int (p1 &&& (2147483647 : Int32)))])) _
  refine XS.iconst X5.here hx rfl (hb hby at_42) ?_
  show Steps p.tables e below (T5.setTop (mkF m 43 #[.val (.int p0), .val (.int p1), .val (.int p2), .val (.int p3), .val (.ref b1), .unset, .unset, .unset, .unset, .unset, .unset, .unset, .unset, .unset, .unset, .unset, .unset, .unset, .unset] [(.int (4 : Int32)), (.int (p1 &&& (2147483647 : Int32)))])) _
  refine iremM X5 hx rfl (hb hby at_43) rfl (by decide) ?_
  show Steps p.tables e below (T5.setTop (mkF m 44 #[.val (.int p0), .val (.int p1), .val (.int p2), .val (.int p3), .val (.ref b1), .unset, .unset, .unset, .unset, .unset, .unset, .unset, .unset, .unset, .unset, .unset, .unset, .unset, .unset] [(.int ((p1 &&& (2147483647 : Int32)) % (4 : Int32)))])) _
  refine XS.istore X5.here hx rfl (hb hby at_44) rfl (l' := #[.val (.int p0), .val (.int p1), .val (.int p2), .val (.int p3), .val (.ref b1), .val (.int ((p1 &&& (2147483647 : Int32)) % (4 : Int32))), .unset, .unset, .unset, .unset, .unset, .unset, .unset, .unset, .unset, .unset, .unset, .unset, .unset]) rfl ?_
  show Steps p.tables e below (T5.setTop (mkF m 46 #[.val (.int p0), .val (.int p1), .val (.int p2), .val (.int p3), .val (.ref b1), .val (.int ((p1 &&& (2147483647 : Int32)) % (4 : Int32))), .unset, .unset, .unset, .unset, .unset, .unset, .unset, .unset, .unset, .unset, .unset, .unset, .unset] [])) _
  rw [h_of]
  show Steps p.tables e below (T5.setTop (mkF m 46 #[.val (.int p0), .val (.int p1), .val (.int p2), .val (.int p3), .val (.ref b1), .val (.int of), .unset, .unset, .unset, .unset, .unset, .unset, .unset, .unset, .unset, .unset, .unset, .unset, .unset] [])) _
  refine XS.iloadN X5.here hx rfl (hb hby at_46) rfl ?_
  show Steps p.tables e below (T5.setTop (mkF m 47 #[.val (.int p0), .val (.int p1), .val (.int p2), .val (.int p3), .val (.ref b1), .val (.int of), .unset, .unset, .unset, .unset, .unset, .unset, .unset, .unset, .unset, .unset, .unset, .unset, .unset] [(.int p2)])) _
  refine X5.ldcI hx hown (mvT hZ (hw _ (List.mem_of_getElem? (i := 1) rfl))) rfl (hb hby at_47) ?_
  show Steps p.tables e below (T5.setTop (mkF m 49 #[.val (.int p0), .val (.int p1), .val (.int p2), .val (.int p3), .val (.ref b1), .val (.int of), .unset, .unset, .unset, .unset, .unset, .unset, .unset, .unset, .unset, .unset, .unset, .unset, .unset] [(.int (2147483647 : Int32)), (.int p2)])) _
  refine XS.iand X5.here hx rfl (hb hby at_49) rfl ?_
  show Steps p.tables e below (T5.setTop (mkF m 50 #[.val (.int p0), .val (.int p1), .val (.int p2), .val (.int p3), .val (.ref b1), .val (.int of), .unset, .unset, .unset, .unset, .unset, .unset, .unset, .unset, .unset, .unset, .unset, .unset, .unset] [(.int (p2 &&& (2147483647 : Int32)))])) _
  refine XS.iconst X5.here hx rfl (hb hby at_50) ?_
  show Steps p.tables e below (T5.setTop (mkF m 51 #[.val (.int p0), .val (.int p1), .val (.int p2), .val (.int p3), .val (.ref b1), .val (.int of), .unset, .unset, .unset, .unset, .unset, .unset, .unset, .unset, .unset, .unset, .unset, .unset, .unset] [(.int (5 : Int32)), (.int (p2 &&& (2147483647 : Int32)))])) _
  refine XS.iload X5.here hx rfl (hb hby at_51) rfl ?_
  show Steps p.tables e below (T5.setTop (mkF m 53 #[.val (.int p0), .val (.int p1), .val (.int p2), .val (.int p3), .val (.ref b1), .val (.int of), .unset, .unset, .unset, .unset, .unset, .unset, .unset, .unset, .unset, .unset, .unset, .unset, .unset] [(.int of), (.int (5 : Int32)), (.int (p2 &&& (2147483647 : Int32)))])) _
  refine XS.isub X5.here hx rfl (hb hby at_53) rfl ?_
  show Steps p.tables e below (T5.setTop (mkF m 54 #[.val (.int p0), .val (.int p1), .val (.int p2), .val (.int p3), .val (.ref b1), .val (.int of), .unset, .unset, .unset, .unset, .unset, .unset, .unset, .unset, .unset, .unset, .unset, .unset, .unset] [(.int ((5 : Int32) - of)), (.int (p2 &&& (2147483647 : Int32)))])) _
  refine iremM X5 hx rfl (hb hby at_54) rfl (own_nz1 Qo) ?_
  show Steps p.tables e below (T5.setTop (mkF m 55 #[.val (.int p0), .val (.int p1), .val (.int p2), .val (.int p3), .val (.ref b1), .val (.int of), .unset, .unset, .unset, .unset, .unset, .unset, .unset, .unset, .unset, .unset, .unset, .unset, .unset] [(.int ((p2 &&& (2147483647 : Int32)) % ((5 : Int32) - of)))])) _
  refine XS.istore X5.here hx rfl (hb hby at_55) rfl (l' := #[.val (.int p0), .val (.int p1), .val (.int p2), .val (.int p3), .val (.ref b1), .val (.int of), .val (.int ((p2 &&& (2147483647 : Int32)) % ((5 : Int32) - of))), .unset, .unset, .unset, .unset, .unset, .unset, .unset, .unset, .unset, .unset, .unset, .unset]) rfl ?_
  show Steps p.tables e below (T5.setTop (mkF m 57 #[.val (.int p0), .val (.int p1), .val (.int p2), .val (.int p3), .val (.ref b1), .val (.int of), .val (.int ((p2 &&& (2147483647 : Int32)) % ((5 : Int32) - of))), .unset, .unset, .unset, .unset, .unset, .unset, .unset, .unset, .unset, .unset, .unset, .unset] [])) _
  rw [h_ln]
  show Steps p.tables e below (T5.setTop (mkF m 57 #[.val (.int p0), .val (.int p1), .val (.int p2), .val (.int p3), .val (.ref b1), .val (.int of), .val (.int ln), .unset, .unset, .unset, .unset, .unset, .unset, .unset, .unset, .unset, .unset, .unset, .unset] [])) _
  refine XS.iloadN X5.here hx rfl (hb hby at_57) rfl ?_
  show Steps p.tables e below (T5.setTop (mkF m 58 #[.val (.int p0), .val (.int p1), .val (.int p2), .val (.int p3), .val (.ref b1), .val (.int of), .val (.int ln), .unset, .unset, .unset, .unset, .unset, .unset, .unset, .unset, .unset, .unset, .unset, .unset] [(.int p3)])) _
  refine X5.ldcI hx hown (mvT hZ (hw _ (List.mem_of_getElem? (i := 1) rfl))) rfl (hb hby at_58) ?_
  show Steps p.tables e below (T5.setTop (mkF m 60 #[.val (.int p0), .val (.int p1), .val (.int p2), .val (.int p3), .val (.ref b1), .val (.int of), .val (.int ln), .unset, .unset, .unset, .unset, .unset, .unset, .unset, .unset, .unset, .unset, .unset, .unset] [(.int (2147483647 : Int32)), (.int p3)])) _
  refine XS.iand X5.here hx rfl (hb hby at_60) rfl ?_
  show Steps p.tables e below (T5.setTop (mkF m 61 #[.val (.int p0), .val (.int p1), .val (.int p2), .val (.int p3), .val (.ref b1), .val (.int of), .val (.int ln), .unset, .unset, .unset, .unset, .unset, .unset, .unset, .unset, .unset, .unset, .unset, .unset] [(.int (p3 &&& (2147483647 : Int32)))])) _
  refine XS.bipush X5.here hx rfl (hb hby at_61) ?_
  show Steps p.tables e below (T5.setTop (mkF m 63 #[.val (.int p0), .val (.int p1), .val (.int p2), .val (.int p3), .val (.ref b1), .val (.int of), .val (.int ln), .unset, .unset, .unset, .unset, .unset, .unset, .unset, .unset, .unset, .unset, .unset, .unset] [(.int (8 : Int32)), (.int (p3 &&& (2147483647 : Int32)))])) _
  refine XS.iload X5.here hx rfl (hb hby at_63) rfl ?_
  show Steps p.tables e below (T5.setTop (mkF m 65 #[.val (.int p0), .val (.int p1), .val (.int p2), .val (.int p3), .val (.ref b1), .val (.int of), .val (.int ln), .unset, .unset, .unset, .unset, .unset, .unset, .unset, .unset, .unset, .unset, .unset, .unset] [(.int ln), (.int (8 : Int32)), (.int (p3 &&& (2147483647 : Int32)))])) _
  refine XS.imul X5.here hx rfl (hb hby at_65) rfl ?_
  show Steps p.tables e below (T5.setTop (mkF m 66 #[.val (.int p0), .val (.int p1), .val (.int p2), .val (.int p3), .val (.ref b1), .val (.int of), .val (.int ln), .unset, .unset, .unset, .unset, .unset, .unset, .unset, .unset, .unset, .unset, .unset, .unset] [(.int ((8 : Int32) * ln)), (.int (p3 &&& (2147483647 : Int32)))])) _
  refine XS.iconst X5.here hx rfl (hb hby at_66) ?_
  show Steps p.tables e below (T5.setTop (mkF m 67 #[.val (.int p0), .val (.int p1), .val (.int p2), .val (.int p3), .val (.ref b1), .val (.int of), .val (.int ln), .unset, .unset, .unset, .unset, .unset, .unset, .unset, .unset, .unset, .unset, .unset, .unset] [(.int (1 : Int32)), (.int ((8 : Int32) * ln)), (.int (p3 &&& (2147483647 : Int32)))])) _
  refine XS.iadd X5.here hx rfl (hb hby at_67) rfl ?_
  show Steps p.tables e below (T5.setTop (mkF m 68 #[.val (.int p0), .val (.int p1), .val (.int p2), .val (.int p3), .val (.ref b1), .val (.int of), .val (.int ln), .unset, .unset, .unset, .unset, .unset, .unset, .unset, .unset, .unset, .unset, .unset, .unset] [(.int (((8 : Int32) * ln) + (1 : Int32))), (.int (p3 &&& (2147483647 : Int32)))])) _
  refine iremM X5 hx rfl (hb hby at_68) rfl (own_nz2 Ql Qo.1) ?_
  show Steps p.tables e below (T5.setTop (mkF m 69 #[.val (.int p0), .val (.int p1), .val (.int p2), .val (.int p3), .val (.ref b1), .val (.int of), .val (.int ln), .unset, .unset, .unset, .unset, .unset, .unset, .unset, .unset, .unset, .unset, .unset, .unset] [(.int ((p3 &&& (2147483647 : Int32)) % (((8 : Int32) * ln) + (1 : Int32))))])) _
  refine XS.istore X5.here hx rfl (hb hby at_69) rfl (l' := #[.val (.int p0), .val (.int p1), .val (.int p2), .val (.int p3), .val (.ref b1), .val (.int of), .val (.int ln), .val (.int ((p3 &&& (2147483647 : Int32)) % (((8 : Int32) * ln) + (1 : Int32)))), .unset, .unset, .unset, .unset, .unset, .unset, .unset, .unset, .unset, .unset, .unset]) rfl ?_
  show Steps p.tables e below (T5.setTop (mkF m 71 #[.val (.int p0), .val (.int p1), .val (.int p2), .val (.int p3), .val (.ref b1), .val (.int of), .val (.int ln), .val (.int ((p3 &&& (2147483647 : Int32)) % (((8 : Int32) * ln) + (1 : Int32)))), .unset, .unset, .unset, .unset, .unset, .unset, .unset, .unset, .unset, .unset, .unset] [])) _
  rw [h_kk]
  show Steps p.tables e below (T5.setTop (mkF m 71 #[.val (.int p0), .val (.int p1), .val (.int p2), .val (.int p3), .val (.ref b1), .val (.int of), .val (.int ln), .val (.int kk), .unset, .unset, .unset, .unset, .unset, .unset, .unset, .unset, .unset, .unset, .unset] [])) _
  refine st6 _ ?_
  show Steps p.tables e below (T6.setTop (mkF m 74 #[.val (.int p0), .val (.int p1), .val (.int p2), .val (.int p3), .val (.ref b1), .val (.int of), .val (.int ln), .val (.int kk), .unset, .unset, .unset, .unset, .unset, .unset, .unset, .unset, .unset, .unset, .unset] [(.ref b6)])) _
  refine XS.dup X6.here hx rfl (hb hby at_74) rfl rfl ?_
  show Steps p.tables e below (T6.setTop (mkF m 75 #[.val (.int p0), .val (.int p1), .val (.int p2), .val (.int p3), .val (.ref b1), .val (.int of), .val (.int ln), .val (.int kk), .unset, .unset, .unset, .unset, .unset, .unset, .unset, .unset, .unset, .unset, .unset] [(.ref b6), (.ref b6)])) _
  refine XS.aload X6.here hx rfl (hb hby at_75) rfl rfl ?_
  show Steps p.tables e below (T6.setTop (mkF m 77 #[.val (.int p0), .val (.int p1), .val (.int p2), .val (.int p3), .val (.ref b1), .val (.int of), .val (.int ln), .val (.int kk), .unset, .unset, .unset, .unset, .unset, .unset, .unset, .unset, .unset, .unset, .unset] [(.ref b1), (.ref b6), (.ref b6)])) _
  refine XS.iload X6.here hx rfl (hb hby at_77) rfl ?_
  show Steps p.tables e below (T6.setTop (mkF m 79 #[.val (.int p0), .val (.int p1), .val (.int p2), .val (.int p3), .val (.ref b1), .val (.int of), .val (.int ln), .val (.int kk), .unset, .unset, .unset, .unset, .unset, .unset, .unset, .unset, .unset, .unset, .unset] [(.int of), (.ref b1), (.ref b6), (.ref b6)])) _
  refine XS.iload X6.here hx rfl (hb hby at_79) rfl ?_
  show Steps p.tables e below (T6.setTop (mkF m 81 #[.val (.int p0), .val (.int p1), .val (.int p2), .val (.int p3), .val (.ref b1), .val (.int of), .val (.int ln), .val (.int kk), .unset, .unset, .unset, .unset, .unset, .unset, .unset, .unset, .unset, .unset, .unset] [(.int ln), (.int of), (.ref b1), (.ref b6), (.ref b6)])) _
  refine st8.trans ?_
  show Steps p.tables e below (T8.setTop (mkF m 84 #[.val (.int p0), .val (.int p1), .val (.int p2), .val (.int p3), .val (.ref b1), .val (.int of), .val (.int ln), .val (.int kk), .unset, .unset, .unset, .unset, .unset, .unset, .unset, .unset, .unset, .unset, .unset] [(.ref b6)])) _
  refine XS.astore X8.here hx rfl (hb hby at_84) rfl rfl (l' := #[.val (.int p0), .val (.int p1), .val (.int p2), .val (.int p3), .val (.ref b1), .val (.int of), .val (.int ln), .val (.int kk), .val (.ref b6), .unset, .unset, .unset, .unset, .unset, .unset, .unset, .unset, .unset, .unset]) rfl ?_
  show Steps p.tables e below (T8.setTop (mkF m 86 #[.val (.int p0), .val (.int p1), .val (.int p2), .val (.int p3), .val (.ref b1), .val (.int of), .val (.int ln), .val (.int kk), .val (.ref b6), .unset, .unset, .unset, .unset, .unset, .unset, .unset, .unset, .unset, .unset] [])) _
  refine XS.aload X8.here hx rfl (hb hby at_86) rfl rfl ?_
  show Steps p.tables e below (T8.setTop (mkF m 88 #[.val (.int p0), .val (.int p1), .val (.int p2), .val (.int p3), .val (.ref b1), .val (.int of), .val (.int ln), .val (.int kk), .val (.ref b6), .unset, .unset, .unset, .unset, .unset, .unset, .unset, .unset, .unset, .unset] [(.ref b6)])) _
  refine XS.iload X8.here hx rfl (hb hby at_88) rfl ?_
  show Steps p.tables e below (T8.setTop (mkF m 90 #[.val (.int p0), .val (.int p1), .val (.int p2), .val (.int p3), .val (.ref b1), .val (.int of), .val (.int ln), .val (.int kk), .val (.ref b6), .unset, .unset, .unset, .unset, .unset, .unset, .unset, .unset, .unset, .unset] [(.int kk), (.ref b6)])) _
  refine st10.trans ?_
  show Steps p.tables e below (T10.setTop (mkF m 93 #[.val (.int p0), .val (.int p1), .val (.int p2), .val (.int p3), .val (.ref b1), .val (.int of), .val (.int ln), .val (.int kk), .val (.ref b6), .unset, .unset, .unset, .unset, .unset, .unset, .unset, .unset, .unset, .unset] [(.int rv)])) _
  refine XS.pop X10.here hx rfl (hb hby at_93) rfl rfl ?_
  show Steps p.tables e below (T10.setTop (mkF m 94 #[.val (.int p0), .val (.int p1), .val (.int p2), .val (.int p3), .val (.ref b1), .val (.int of), .val (.int ln), .val (.int kk), .val (.ref b6), .unset, .unset, .unset, .unset, .unset, .unset, .unset, .unset, .unset, .unset] [])) _
  refine X10.ldc2J hx hown (mvT hZ (hw _ (List.mem_of_getElem? (i := 35) rfl))) rfl (hb hby at_94) ?_
  show Steps p.tables e below (T10.setTop (mkF m 97 #[.val (.int p0), .val (.int p1), .val (.int p2), .val (.int p3), .val (.ref b1), .val (.int of), .val (.int ln), .val (.int kk), .val (.ref b6), .unset, .unset, .unset, .unset, .unset, .unset, .unset, .unset, .unset, .unset] [(.long (8 : Int64))])) _
  refine XS.iload X10.here hx rfl (hb hby at_97) rfl ?_
  show Steps p.tables e below (T10.setTop (mkF m 99 #[.val (.int p0), .val (.int p1), .val (.int p2), .val (.int p3), .val (.ref b1), .val (.int of), .val (.int ln), .val (.int kk), .val (.ref b6), .unset, .unset, .unset, .unset, .unset, .unset, .unset, .unset, .unset, .unset] [(.int ln), (.long (8 : Int64))])) _
  refine XS.i2l X10.here hx rfl (hb hby at_99) rfl ?_
  show Steps p.tables e below (T10.setTop (mkF m 100 #[.val (.int p0), .val (.int p1), .val (.int p2), .val (.int p3), .val (.ref b1), .val (.int of), .val (.int ln), .val (.int kk), .val (.ref b6), .unset, .unset, .unset, .unset, .unset, .unset, .unset, .unset, .unset, .unset] [(.long (ln.toInt64)), (.long (8 : Int64))])) _
  refine XS.lmul X10.here hx rfl (hb hby at_100) rfl ?_
  show Steps p.tables e below (T10.setTop (mkF m 101 #[.val (.int p0), .val (.int p1), .val (.int p2), .val (.int p3), .val (.ref b1), .val (.int of), .val (.int ln), .val (.int kk), .val (.ref b6), .unset, .unset, .unset, .unset, .unset, .unset, .unset, .unset, .unset, .unset] [(.long ((8 : Int64) * (ln.toInt64)))])) _
  refine XS.iload X10.here hx rfl (hb hby at_101) rfl ?_
  show Steps p.tables e below (T10.setTop (mkF m 103 #[.val (.int p0), .val (.int p1), .val (.int p2), .val (.int p3), .val (.ref b1), .val (.int of), .val (.int ln), .val (.int kk), .val (.ref b6), .unset, .unset, .unset, .unset, .unset, .unset, .unset, .unset, .unset, .unset] [(.int kk), (.long ((8 : Int64) * (ln.toInt64)))])) _
  refine XS.i2l X10.here hx rfl (hb hby at_103) rfl ?_
  show Steps p.tables e below (T10.setTop (mkF m 104 #[.val (.int p0), .val (.int p1), .val (.int p2), .val (.int p3), .val (.ref b1), .val (.int of), .val (.int ln), .val (.int kk), .val (.ref b6), .unset, .unset, .unset, .unset, .unset, .unset, .unset, .unset, .unset, .unset] [(.long (kk.toInt64)), (.long ((8 : Int64) * (ln.toInt64)))])) _
  refine XS.lsub X10.here hx rfl (hb hby at_104) rfl ?_
  show Steps p.tables e below (T10.setTop (mkF m 105 #[.val (.int p0), .val (.int p1), .val (.int p2), .val (.int p3), .val (.ref b1), .val (.int of), .val (.int ln), .val (.int kk), .val (.ref b6), .unset, .unset, .unset, .unset, .unset, .unset, .unset, .unset, .unset, .unset] [(.long (((8 : Int64) * (ln.toInt64)) - (kk.toInt64)))])) _
  refine XS.lstore X10.here hx rfl (hb hby at_105) rfl (l' := #[.val (.int p0), .val (.int p1), .val (.int p2), .val (.int p3), .val (.ref b1), .val (.int of), .val (.int ln), .val (.int kk), .val (.ref b6), .val (.long (((8 : Int64) * (ln.toInt64)) - (kk.toInt64))), .second, .unset, .unset, .unset, .unset, .unset, .unset, .unset, .unset]) rfl ?_
  show Steps p.tables e below (T10.setTop (mkF m 107 #[.val (.int p0), .val (.int p1), .val (.int p2), .val (.int p3), .val (.ref b1), .val (.int of), .val (.int ln), .val (.int kk), .val (.ref b6), .val (.long (((8 : Int64) * (ln.toInt64)) - (kk.toInt64))), .second, .unset, .unset, .unset, .unset, .unset, .unset, .unset, .unset] [])) _
  rw [h_lft]
  show Steps p.tables e below (T10.setTop (mkF m 107 #[.val (.int p0), .val (.int p1), .val (.int p2), .val (.int p3), .val (.ref b1), .val (.int of), .val (.int ln), .val (.int kk), .val (.ref b6), .val (.long lft), .second, .unset, .unset, .unset, .unset, .unset, .unset, .unset, .unset] [])) _
  refine XS.aload X10.here hx rfl (hb hby at_107) rfl rfl ?_
  show Steps p.tables e below (T10.setTop (mkF m 109 #[.val (.int p0), .val (.int p1), .val (.int p2), .val (.int p3), .val (.ref b1), .val (.int of), .val (.int ln), .val (.int kk), .val (.ref b6), .val (.long lft), .second, .unset, .unset, .unset, .unset, .unset, .unset, .unset, .unset] [(.ref b6)])) _
  refine st12.trans ?_
  show Steps p.tables e below (T12.setTop (mkF m 112 #[.val (.int p0), .val (.int p1), .val (.int p2), .val (.int p3), .val (.ref b1), .val (.int of), .val (.int ln), .val (.int kk), .val (.ref b6), .val (.long lft), .second, .unset, .unset, .unset, .unset, .unset, .unset, .unset, .unset] [(.long (en - pt))])) _
  rw [hlq]
  show Steps p.tables e below (T12.setTop (mkF m 112 #[.val (.int p0), .val (.int p1), .val (.int p2), .val (.int p3), .val (.ref b1), .val (.int of), .val (.int ln), .val (.int kk), .val (.ref b6), .val (.long lft), .second, .unset, .unset, .unset, .unset, .unset, .unset, .unset, .unset] [(.long lft)])) _
  refine XS.lstore X12.here hx rfl (hb hby at_112) rfl (l' := #[.val (.int p0), .val (.int p1), .val (.int p2), .val (.int p3), .val (.ref b1), .val (.int of), .val (.int ln), .val (.int kk), .val (.ref b6), .val (.long lft), .second, .val (.long lft), .second, .unset, .unset, .unset, .unset, .unset, .unset]) rfl ?_
  show Steps p.tables e below (T12.setTop (mkF m 114 #[.val (.int p0), .val (.int p1), .val (.int p2), .val (.int p3), .val (.ref b1), .val (.int of), .val (.int ln), .val (.int kk), .val (.ref b6), .val (.long lft), .second, .val (.long lft), .second, .unset, .unset, .unset, .unset, .unset, .unset] [])) _
  refine XS.aload X12.here hx rfl (hb hby at_114) rfl rfl ?_
  show Steps p.tables e below (T12.setTop (mkF m 116 #[.val (.int p0), .val (.int p1), .val (.int p2), .val (.int p3), .val (.ref b1), .val (.int of), .val (.int ln), .val (.int kk), .val (.ref b6), .val (.long lft), .second, .val (.long lft), .second, .unset, .unset, .unset, .unset, .unset, .unset] [(.ref b6)])) _
  refine st14.trans ?_
  show Steps p.tables e below (T14.setTop (mkF m 119 #[.val (.int p0), .val (.int p1), .val (.int p2), .val (.int p3), .val (.ref b1), .val (.int of), .val (.int ln), .val (.int kk), .val (.ref b6), .val (.long lft), .second, .val (.long lft), .second, .unset, .unset, .unset, .unset, .unset, .unset] [(.int (1 : Int32))])) _
  refine XS.istore X14.here hx rfl (hb hby at_119) rfl (l' := #[.val (.int p0), .val (.int p1), .val (.int p2), .val (.int p3), .val (.ref b1), .val (.int of), .val (.int ln), .val (.int kk), .val (.ref b6), .val (.long lft), .second, .val (.long lft), .second, .val (.int (1 : Int32)), .unset, .unset, .unset, .unset, .unset]) rfl ?_
  show Steps p.tables e below (T14.setTop (mkF m 121 #[.val (.int p0), .val (.int p1), .val (.int p2), .val (.int p3), .val (.ref b1), .val (.int of), .val (.int ln), .val (.int kk), .val (.ref b6), .val (.long lft), .second, .val (.long lft), .second, .val (.int (1 : Int32)), .unset, .unset, .unset, .unset, .unset] [])) _
  refine XS.aload X14.here hx rfl (hb hby at_121) rfl rfl ?_
  show Steps p.tables e below (T14.setTop (mkF m 123 #[.val (.int p0), .val (.int p1), .val (.int p2), .val (.int p3), .val (.ref b1), .val (.int of), .val (.int ln), .val (.int kk), .val (.ref b6), .val (.long lft), .second, .val (.long lft), .second, .val (.int (1 : Int32)), .unset, .unset, .unset, .unset, .unset] [(.ref b6)])) _
  refine st16.trans ?_
  show Steps p.tables e below (T16.setTop (mkF m 126 #[.val (.int p0), .val (.int p1), .val (.int p2), .val (.int p3), .val (.ref b1), .val (.int of), .val (.int ln), .val (.int kk), .val (.ref b6), .val (.long lft), .second, .val (.long lft), .second, .val (.int (1 : Int32)), .unset, .unset, .unset, .unset, .unset] [(.long (en - pt))])) _
  rw [hlq]
  show Steps p.tables e below (T16.setTop (mkF m 126 #[.val (.int p0), .val (.int p1), .val (.int p2), .val (.int p3), .val (.ref b1), .val (.int of), .val (.int ln), .val (.int kk), .val (.ref b6), .val (.long lft), .second, .val (.long lft), .second, .val (.int (1 : Int32)), .unset, .unset, .unset, .unset, .unset] [(.long lft)])) _
  refine XS.lstore X16.here hx rfl (hb hby at_126) rfl (l' := #[.val (.int p0), .val (.int p1), .val (.int p2), .val (.int p3), .val (.ref b1), .val (.int of), .val (.int ln), .val (.int kk), .val (.ref b6), .val (.long lft), .second, .val (.long lft), .second, .val (.int (1 : Int32)), .val (.long lft), .second, .unset, .unset, .unset]) rfl ?_
  show Steps p.tables e below (T16.setTop (mkF m 128 #[.val (.int p0), .val (.int p1), .val (.int p2), .val (.int p3), .val (.ref b1), .val (.int of), .val (.int ln), .val (.int kk), .val (.ref b6), .val (.long lft), .second, .val (.long lft), .second, .val (.int (1 : Int32)), .val (.long lft), .second, .unset, .unset, .unset] [])) _
  refine XS.lload X16.here hx rfl (hb hby at_128) rfl ?_
  show Steps p.tables e below (T16.setTop (mkF m 130 #[.val (.int p0), .val (.int p1), .val (.int p2), .val (.int p3), .val (.ref b1), .val (.int of), .val (.int ln), .val (.int kk), .val (.ref b6), .val (.long lft), .second, .val (.long lft), .second, .val (.int (1 : Int32)), .val (.long lft), .second, .unset, .unset, .unset] [(.long lft)])) _
  refine XS.lconst X16.here hx rfl (hb hby at_130) ?_
  show Steps p.tables e below (T16.setTop (mkF m 131 #[.val (.int p0), .val (.int p1), .val (.int p2), .val (.int p3), .val (.ref b1), .val (.int of), .val (.int ln), .val (.int kk), .val (.ref b6), .val (.long lft), .second, .val (.long lft), .second, .val (.int (1 : Int32)), .val (.long lft), .second, .unset, .unset, .unset] [(.long (0 : Int64)), (.long lft)])) _
  refine XS.lcmp X16.here hx rfl (hb hby at_131) rfl ?_
  show Steps p.tables e below (T16.setTop (mkF m 132 #[.val (.int p0), .val (.int p1), .val (.int p2), .val (.int p3), .val (.ref b1), .val (.int of), .val (.int ln), .val (.int kk), .val (.ref b6), .val (.long lft), .second, .val (.long lft), .second, .val (.int (1 : Int32)), .val (.long lft), .second, .unset, .unset, .unset] [(.int (lcmpW lft (0 : Int64)))])) _
  refine XS.ifYes X16.here hx rfl (pc0 := 132) (pc' := 141) rfl (hb hby at_132) rfl ((if0 _ _).trans (feq (fun q => hz ((lw_eq lft (0 : Int64)).mp q))).2) (by decide) (by decide) ?_
  show Steps p.tables e below (T16.setTop (mkF m 141 #[.val (.int p0), .val (.int p1), .val (.int p2), .val (.int p3), .val (.ref b1), .val (.int of), .val (.int ln), .val (.int kk), .val (.ref b6), .val (.long lft), .second, .val (.long lft), .second, .val (.int (1 : Int32)), .val (.long lft), .second, .unset, .unset, .unset] [])) _
  refine XS.lload X16.here hx rfl (hb hby at_141) rfl ?_
  show Steps p.tables e below (T16.setTop (mkF m 143 #[.val (.int p0), .val (.int p1), .val (.int p2), .val (.int p3), .val (.ref b1), .val (.int of), .val (.int ln), .val (.int kk), .val (.ref b6), .val (.long lft), .second, .val (.long lft), .second, .val (.int (1 : Int32)), .val (.long lft), .second, .unset, .unset, .unset] [(.long lft)])) _
  refine X16.ldc2J hx hown (mvT hZ (hw _ (List.mem_of_getElem? (i := 35) rfl))) rfl (hb hby at_143) ?_
  show Steps p.tables e below (T16.setTop (mkF m 146 #[.val (.int p0), .val (.int p1), .val (.int p2), .val (.int p3), .val (.ref b1), .val (.int of), .val (.int ln), .val (.int kk), .val (.ref b6), .val (.long lft), .second, .val (.long lft), .second, .val (.int (1 : Int32)), .val (.long lft), .second, .unset, .unset, .unset] [(.long (8 : Int64)), (.long lft)])) _
  refine XS.lcmp X16.here hx rfl (hb hby at_146) rfl ?_
  show Steps p.tables e below (T16.setTop (mkF m 147 #[.val (.int p0), .val (.int p1), .val (.int p2), .val (.int p3), .val (.ref b1), .val (.int of), .val (.int ln), .val (.int kk), .val (.ref b6), .val (.long lft), .second, .val (.long lft), .second, .val (.int (1 : Int32)), .val (.long lft), .second, .unset, .unset, .unset] [(.int (lcmpW lft (8 : Int64)))])) _
  refine XS.ifYes X16.here hx rfl (pc0 := 147) (pc' := 156) rfl (hb hby at_147) rfl ((if0 _ _).trans (tlt ((lw_lt lft (8 : Int64)).mpr h8)).1) (by decide) (by decide) ?_
  show Steps p.tables e below (T16.setTop (mkF m 156 #[.val (.int p0), .val (.int p1), .val (.int p2), .val (.int p3), .val (.ref b1), .val (.int of), .val (.int ln), .val (.int kk), .val (.ref b6), .val (.long lft), .second, .val (.long lft), .second, .val (.int (1 : Int32)), .val (.long lft), .second, .unset, .unset, .unset] [])) _
  refine XS.aload X16.here hx rfl (hb hby at_156) rfl rfl ?_
  show Steps p.tables e below (T16.setTop (mkF m 158 #[.val (.int p0), .val (.int p1), .val (.int p2), .val (.int p3), .val (.ref b1), .val (.int of), .val (.int ln), .val (.int kk), .val (.ref b6), .val (.long lft), .second, .val (.long lft), .second, .val (.int (1 : Int32)), .val (.long lft), .second, .unset, .unset, .unset] [(.ref b1)])) _
  refine XS.iload X16.here hx rfl (hb hby at_158) rfl ?_
  show Steps p.tables e below (T16.setTop (mkF m 160 #[.val (.int p0), .val (.int p1), .val (.int p2), .val (.int p3), .val (.ref b1), .val (.int of), .val (.int ln), .val (.int kk), .val (.ref b6), .val (.long lft), .second, .val (.long lft), .second, .val (.int (1 : Int32)), .val (.long lft), .second, .unset, .unset, .unset] [(.int of), (.ref b1)])) _
  refine XS.iload X16.here hx rfl (hb hby at_160) rfl ?_
  show Steps p.tables e below (T16.setTop (mkF m 162 #[.val (.int p0), .val (.int p1), .val (.int p2), .val (.int p3), .val (.ref b1), .val (.int of), .val (.int ln), .val (.int kk), .val (.ref b6), .val (.long lft), .second, .val (.long lft), .second, .val (.int (1 : Int32)), .val (.long lft), .second, .unset, .unset, .unset] [(.int ln), (.int of), (.ref b1)])) _
  refine XS.iadd X16.here hx rfl (hb hby at_162) rfl ?_
  show Steps p.tables e below (T16.setTop (mkF m 163 #[.val (.int p0), .val (.int p1), .val (.int p2), .val (.int p3), .val (.ref b1), .val (.int of), .val (.int ln), .val (.int kk), .val (.ref b6), .val (.long lft), .second, .val (.long lft), .second, .val (.int (1 : Int32)), .val (.long lft), .second, .unset, .unset, .unset] [(.int (of + ln)), (.ref b1)])) _
  refine XS.iconst X16.here hx rfl (hb hby at_163) ?_
  show Steps p.tables e below (T16.setTop (mkF m 164 #[.val (.int p0), .val (.int p1), .val (.int p2), .val (.int p3), .val (.ref b1), .val (.int of), .val (.int ln), .val (.int kk), .val (.ref b6), .val (.long lft), .second, .val (.long lft), .second, .val (.int (1 : Int32)), .val (.long lft), .second, .unset, .unset, .unset] [(.int (1 : Int32)), (.int (of + ln)), (.ref b1)])) _
  refine XS.isub X16.here hx rfl (hb hby at_164) rfl ?_
  show Steps p.tables e below (T16.setTop (mkF m 165 #[.val (.int p0), .val (.int p1), .val (.int p2), .val (.int p3), .val (.ref b1), .val (.int of), .val (.int ln), .val (.int kk), .val (.ref b6), .val (.long lft), .second, .val (.long lft), .second, .val (.int (1 : Int32)), .val (.long lft), .second, .unset, .unset, .unset] [(.int ((of + ln) - (1 : Int32))), (.ref b1)])) _
  refine own_ldB X16 hx hZ e16 Aq10 (j := ((of + ln) - (1 : Int32))) hin2 rfl rfl (hb hby at_165) ?_
  show Steps p.tables e below (T16.setTop (mkF m 166 #[.val (.int p0), .val (.int p1), .val (.int p2), .val (.int p3), .val (.ref b1), .val (.int of), .val (.int ln), .val (.int kk), .val (.ref b6), .val (.long lft), .second, .val (.long lft), .second, .val (.int (1 : Int32)), .val (.long lft), .second, .unset, .unset, .unset] [(.int (f (((of + ln) - (1 : Int32))).toNatClampNeg))])) _
  refine XS.sipush X16.here hx rfl (hb hby at_166) ?_
  show Steps p.tables e below (T16.setTop (mkF m 169 #[.val (.int p0), .val (.int p1), .val (.int p2), .val (.int p3), .val (.ref b1), .val (.int of), .val (.int ln), .val (.int kk), .val (.ref b6), .val (.long lft), .second, .val (.long lft), .second, .val (.int (1 : Int32)), .val (.long lft), .second, .unset, .unset, .unset] [(.int (255 : Int32)), (.int (f (((of + ln) - (1 : Int32))).toNatClampNeg))])) _
  refine XS.iand X16.here hx rfl (hb hby at_169) rfl ?_
  show Steps p.tables e below (T16.setTop (mkF m 170 #[.val (.int p0), .val (.int p1), .val (.int p2), .val (.int p3), .val (.ref b1), .val (.int of), .val (.int ln), .val (.int kk), .val (.ref b6), .val (.long lft), .second, .val (.long lft), .second, .val (.int (1 : Int32)), .val (.long lft), .second, .unset, .unset, .unset] [(.int ((f (((of + ln) - (1 : Int32))).toNatClampNeg) &&& (255 : Int32)))])) _
  refine XS.istore X16.here hx rfl (hb hby at_170) rfl (l' := #[.val (.int p0), .val (.int p1), .val (.int p2), .val (.int p3), .val (.ref b1), .val (.int of), .val (.int ln), .val (.int kk), .val (.ref b6), .val (.long lft), .second, .val (.long lft), .second, .val (.int (1 : Int32)), .val (.long lft), .second, .unset, .val (.int ((f (((of + ln) - (1 : Int32))).toNatClampNeg) &&& (255 : Int32))), .unset]) rfl ?_
  show Steps p.tables e below (T16.setTop (mkF m 172 #[.val (.int p0), .val (.int p1), .val (.int p2), .val (.int p3), .val (.ref b1), .val (.int of), .val (.int ln), .val (.int kk), .val (.ref b6), .val (.long lft), .second, .val (.long lft), .second, .val (.int (1 : Int32)), .val (.long lft), .second, .unset, .val (.int ((f (((of + ln) - (1 : Int32))).toNatClampNeg) &&& (255 : Int32))), .unset] [])) _
  refine XS.iconst X16.here hx rfl (hb hby at_172) ?_
  show Steps p.tables e below (T16.setTop (mkF m 173 #[.val (.int p0), .val (.int p1), .val (.int p2), .val (.int p3), .val (.ref b1), .val (.int of), .val (.int ln), .val (.int kk), .val (.ref b6), .val (.long lft), .second, .val (.long lft), .second, .val (.int (1 : Int32)), .val (.long lft), .second, .unset, .val (.int ((f (((of + ln) - (1 : Int32))).toNatClampNeg) &&& (255 : Int32))), .unset] [(.int (1 : Int32))])) _
  refine XS.lload X16.here hx rfl (hb hby at_173) rfl ?_
  show Steps p.tables e below (T16.setTop (mkF m 175 #[.val (.int p0), .val (.int p1), .val (.int p2), .val (.int p3), .val (.ref b1), .val (.int of), .val (.int ln), .val (.int kk), .val (.ref b6), .val (.long lft), .second, .val (.long lft), .second, .val (.int (1 : Int32)), .val (.long lft), .second, .unset, .val (.int ((f (((of + ln) - (1 : Int32))).toNatClampNeg) &&& (255 : Int32))), .unset] [(.long lft), (.int (1 : Int32))])) _
  refine XS.l2i X16.here hx rfl (hb hby at_175) rfl ?_
  show Steps p.tables e below (T16.setTop (mkF m 176 #[.val (.int p0), .val (.int p1), .val (.int p2), .val (.int p3), .val (.ref b1), .val (.int of), .val (.int ln), .val (.int kk), .val (.ref b6), .val (.long lft), .second, .val (.long lft), .second, .val (.int (1 : Int32)), .val (.long lft), .second, .unset, .val (.int ((f (((of + ln) - (1 : Int32))).toNatClampNeg) &&& (255 : Int32))), .unset] [(.int (lft.toInt32)), (.int (1 : Int32))])) _
  refine XS.ishl X16.here hx rfl (hb hby at_176) rfl ?_
  show Steps p.tables e below (T16.setTop (mkF m 177 #[.val (.int p0), .val (.int p1), .val (.int p2), .val (.int p3), .val (.ref b1), .val (.int of), .val (.int ln), .val (.int kk), .val (.ref b6), .val (.long lft), .second, .val (.long lft), .second, .val (.int (1 : Int32)), .val (.long lft), .second, .unset, .val (.int ((f (((of + ln) - (1 : Int32))).toNatClampNeg) &&& (255 : Int32))), .unset] [(.int ((1 : Int32) <<< ((lft.toInt32) &&& 31)))])) _
  refine XS.iconst X16.here hx rfl (hb hby at_177) ?_
  show Steps p.tables e below (T16.setTop (mkF m 178 #[.val (.int p0), .val (.int p1), .val (.int p2), .val (.int p3), .val (.ref b1), .val (.int of), .val (.int ln), .val (.int kk), .val (.ref b6), .val (.long lft), .second, .val (.long lft), .second, .val (.int (1 : Int32)), .val (.long lft), .second, .unset, .val (.int ((f (((of + ln) - (1 : Int32))).toNatClampNeg) &&& (255 : Int32))), .unset] [(.int (1 : Int32)), (.int ((1 : Int32) <<< ((lft.toInt32) &&& 31)))])) _
  refine XS.isub X16.here hx rfl (hb hby at_178) rfl ?_
  show Steps p.tables e below (T16.setTop (mkF m 179 #[.val (.int p0), .val (.int p1), .val (.int p2), .val (.int p3), .val (.ref b1), .val (.int of), .val (.int ln), .val (.int kk), .val (.ref b6), .val (.long lft), .second, .val (.long lft), .second, .val (.int (1 : Int32)), .val (.long lft), .second, .unset, .val (.int ((f (((of + ln) - (1 : Int32))).toNatClampNeg) &&& (255 : Int32))), .unset] [(.int (((1 : Int32) <<< ((lft.toInt32) &&& 31)) - (1 : Int32)))])) _
  refine XS.istore X16.here hx rfl (hb hby at_179) rfl (l' := #[.val (.int p0), .val (.int p1), .val (.int p2), .val (.int p3), .val (.ref b1), .val (.int of), .val (.int ln), .val (.int kk), .val (.ref b6), .val (.long lft), .second, .val (.long lft), .second, .val (.int (1 : Int32)), .val (.long lft), .second, .unset, .val (.int ((f (((of + ln) - (1 : Int32))).toNatClampNeg) &&& (255 : Int32))), .val (.int (((1 : Int32) <<< ((lft.toInt32) &&& 31)) - (1 : Int32)))]) rfl ?_
  show Steps p.tables e below (T16.setTop (mkF m 181 #[.val (.int p0), .val (.int p1), .val (.int p2), .val (.int p3), .val (.ref b1), .val (.int of), .val (.int ln), .val (.int kk), .val (.ref b6), .val (.long lft), .second, .val (.long lft), .second, .val (.int (1 : Int32)), .val (.long lft), .second, .unset, .val (.int ((f (((of + ln) - (1 : Int32))).toNatClampNeg) &&& (255 : Int32))), .val (.int (((1 : Int32) <<< ((lft.toInt32) &&& 31)) - (1 : Int32)))] [])) _
  refine XS.iload X16.here hx rfl (hb hby at_181) rfl ?_
  show Steps p.tables e below (T16.setTop (mkF m 183 #[.val (.int p0), .val (.int p1), .val (.int p2), .val (.int p3), .val (.ref b1), .val (.int of), .val (.int ln), .val (.int kk), .val (.ref b6), .val (.long lft), .second, .val (.long lft), .second, .val (.int (1 : Int32)), .val (.long lft), .second, .unset, .val (.int ((f (((of + ln) - (1 : Int32))).toNatClampNeg) &&& (255 : Int32))), .val (.int (((1 : Int32) <<< ((lft.toInt32) &&& 31)) - (1 : Int32)))] [(.int ((f (((of + ln) - (1 : Int32))).toNatClampNeg) &&& (255 : Int32)))])) _
  refine XS.iload X16.here hx rfl (hb hby at_183) rfl ?_
  show Steps p.tables e below (T16.setTop (mkF m 185 #[.val (.int p0), .val (.int p1), .val (.int p2), .val (.int p3), .val (.ref b1), .val (.int of), .val (.int ln), .val (.int kk), .val (.ref b6), .val (.long lft), .second, .val (.long lft), .second, .val (.int (1 : Int32)), .val (.long lft), .second, .unset, .val (.int ((f (((of + ln) - (1 : Int32))).toNatClampNeg) &&& (255 : Int32))), .val (.int (((1 : Int32) <<< ((lft.toInt32) &&& 31)) - (1 : Int32)))] [(.int (((1 : Int32) <<< ((lft.toInt32) &&& 31)) - (1 : Int32))), (.int ((f (((of + ln) - (1 : Int32))).toNatClampNeg) &&& (255 : Int32)))])) _
  refine XS.iand X16.here hx rfl (hb hby at_185) rfl ?_
  show Steps p.tables e below (T16.setTop (mkF m 186 #[.val (.int p0), .val (.int p1), .val (.int p2), .val (.int p3), .val (.ref b1), .val (.int of), .val (.int ln), .val (.int kk), .val (.ref b6), .val (.long lft), .second, .val (.long lft), .second, .val (.int (1 : Int32)), .val (.long lft), .second, .unset, .val (.int ((f (((of + ln) - (1 : Int32))).toNatClampNeg) &&& (255 : Int32))), .val (.int (((1 : Int32) <<< ((lft.toInt32) &&& 31)) - (1 : Int32)))] [(.int (((f (((of + ln) - (1 : Int32))).toNatClampNeg) &&& (255 : Int32)) &&& (((1 : Int32) <<< ((lft.toInt32) &&& 31)) - (1 : Int32))))])) _
  refine XS.ifNo X16.here hx rfl (hb hby at_186) rfl ((if0 _ _).trans (teq hm).2) ?_
  show Steps p.tables e below (T16.setTop (mkF m 189 #[.val (.int p0), .val (.int p1), .val (.int p2), .val (.int p3), .val (.ref b1), .val (.int of), .val (.int ln), .val (.int kk), .val (.ref b6), .val (.long lft), .second, .val (.long lft), .second, .val (.int (1 : Int32)), .val (.long lft), .second, .unset, .val (.int ((f (((of + ln) - (1 : Int32))).toNatClampNeg) &&& (255 : Int32))), .val (.int (((1 : Int32) <<< ((lft.toInt32) &&& 31)) - (1 : Int32)))] [])) _
  refine XS.iconst X16.here hx rfl (hb hby at_189) ?_
  show Steps p.tables e below (T16.setTop (mkF m 190 #[.val (.int p0), .val (.int p1), .val (.int p2), .val (.int p3), .val (.ref b1), .val (.int of), .val (.int ln), .val (.int kk), .val (.ref b6), .val (.long lft), .second, .val (.long lft), .second, .val (.int (1 : Int32)), .val (.long lft), .second, .unset, .val (.int ((f (((of + ln) - (1 : Int32))).toNatClampNeg) &&& (255 : Int32))), .val (.int (((1 : Int32) <<< ((lft.toInt32) &&& 31)) - (1 : Int32)))] [(.int (1 : Int32))])) _
  refine XS.goto X16.here hx rfl (pc0 := 190) (pc' := 194) rfl (hb hby at_190) (by decide) (by decide) ?_
  show Steps p.tables e below (T16.setTop (mkF m 194 #[.val (.int p0), .val (.int p1), .val (.int p2), .val (.int p3), .val (.ref b1), .val (.int of), .val (.int ln), .val (.int kk), .val (.ref b6), .val (.long lft), .second, .val (.long lft), .second, .val (.int (1 : Int32)), .val (.long lft), .second, .unset, .val (.int ((f (((of + ln) - (1 : Int32))).toNatClampNeg) &&& (255 : Int32))), .val (.int (((1 : Int32) <<< ((lft.toInt32) &&& 31)) - (1 : Int32)))] [(.int (1 : Int32))])) _
  refine XS.istore X16.here hx rfl (hb hby at_194) rfl (l' := #[.val (.int p0), .val (.int p1), .val (.int p2), .val (.int p3), .val (.ref b1), .val (.int of), .val (.int ln), .val (.int kk), .val (.ref b6), .val (.long lft), .second, .val (.long lft), .second, .val (.int (1 : Int32)), .val (.long lft), .second, .val (.int (1 : Int32)), .val (.int ((f (((of + ln) - (1 : Int32))).toNatClampNeg) &&& (255 : Int32))), .val (.int (((1 : Int32) <<< ((lft.toInt32) &&& 31)) - (1 : Int32)))]) rfl ?_
  show Steps p.tables e below (T16.setTop (mkF m 196 #[.val (.int p0), .val (.int p1), .val (.int p2), .val (.int p3), .val (.ref b1), .val (.int of), .val (.int ln), .val (.int kk), .val (.ref b6), .val (.long lft), .second, .val (.long lft), .second, .val (.int (1 : Int32)), .val (.long lft), .second, .val (.int (1 : Int32)), .val (.int ((f (((of + ln) - (1 : Int32))).toNatClampNeg) &&& (255 : Int32))), .val (.int (((1 : Int32) <<< ((lft.toInt32) &&& 31)) - (1 : Int32)))] [])) _
  refine XS.lload X16.here hx rfl (hb hby at_196) rfl ?_
  show Steps p.tables e below (T16.setTop (mkF m 198 #[.val (.int p0), .val (.int p1), .val (.int p2), .val (.int p3), .val (.ref b1), .val (.int of), .val (.int ln), .val (.int kk), .val (.ref b6), .val (.long lft), .second, .val (.long lft), .second, .val (.int (1 : Int32)), .val (.long lft), .second, .val (.int (1 : Int32)), .val (.int ((f (((of + ln) - (1 : Int32))).toNatClampNeg) &&& (255 : Int32))), .val (.int (((1 : Int32) <<< ((lft.toInt32) &&& 31)) - (1 : Int32)))] [(.long lft)])) _
  refine XS.lload X16.here hx rfl (hb hby at_198) rfl ?_
  show Steps p.tables e below (T16.setTop (mkF m 200 #[.val (.int p0), .val (.int p1), .val (.int p2), .val (.int p3), .val (.ref b1), .val (.int of), .val (.int ln), .val (.int kk), .val (.ref b6), .val (.long lft), .second, .val (.long lft), .second, .val (.int (1 : Int32)), .val (.long lft), .second, .val (.int (1 : Int32)), .val (.int ((f (((of + ln) - (1 : Int32))).toNatClampNeg) &&& (255 : Int32))), .val (.int (((1 : Int32) <<< ((lft.toInt32) &&& 31)) - (1 : Int32)))] [(.long lft), (.long lft)])) _
  refine XS.lcmp X16.here hx rfl (hb hby at_200) rfl ?_
  show Steps p.tables e below (T16.setTop (mkF m 201 #[.val (.int p0), .val (.int p1), .val (.int p2), .val (.int p3), .val (.ref b1), .val (.int of), .val (.int ln), .val (.int kk), .val (.ref b6), .val (.long lft), .second, .val (.long lft), .second, .val (.int (1 : Int32)), .val (.long lft), .second, .val (.int (1 : Int32)), .val (.int ((f (((of + ln) - (1 : Int32))).toNatClampNeg) &&& (255 : Int32))), .val (.int (((1 : Int32) <<< ((lft.toInt32) &&& 31)) - (1 : Int32)))] [(.int (lcmpW lft lft))])) _
  refine XS.ifNo X16.here hx rfl (hb hby at_201) rfl ((if0 _ _).trans (teq ((lw_eq lft lft).mpr (rfl : lft = lft))).2) ?_
  show Steps p.tables e below (T16.setTop (mkF m 204 #[.val (.int p0), .val (.int p1), .val (.int p2), .val (.int p3), .val (.ref b1), .val (.int of), .val (.int ln), .val (.int kk), .val (.ref b6), .val (.long lft), .second, .val (.long lft), .second, .val (.int (1 : Int32)), .val (.long lft), .second, .val (.int (1 : Int32)), .val (.int ((f (((of + ln) - (1 : Int32))).toNatClampNeg) &&& (255 : Int32))), .val (.int (((1 : Int32) <<< ((lft.toInt32) &&& 31)) - (1 : Int32)))] [])) _
  refine XS.lload X16.here hx rfl (hb hby at_204) rfl ?_
  show Steps p.tables e below (T16.setTop (mkF m 206 #[.val (.int p0), .val (.int p1), .val (.int p2), .val (.int p3), .val (.ref b1), .val (.int of), .val (.int ln), .val (.int kk), .val (.ref b6), .val (.long lft), .second, .val (.long lft), .second, .val (.int (1 : Int32)), .val (.long lft), .second, .val (.int (1 : Int32)), .val (.int ((f (((of + ln) - (1 : Int32))).toNatClampNeg) &&& (255 : Int32))), .val (.int (((1 : Int32) <<< ((lft.toInt32) &&& 31)) - (1 : Int32)))] [(.long lft)])) _
  refine XS.lload X16.here hx rfl (hb hby at_206) rfl ?_
  show Steps p.tables e below (T16.setTop (mkF m 208 #[.val (.int p0), .val (.int p1), .val (.int p2), .val (.int p3), .val (.ref b1), .val (.int of), .val (.int ln), .val (.int kk), .val (.ref b6), .val (.long lft), .second, .val (.long lft), .second, .val (.int (1 : Int32)), .val (.long lft), .second, .val (.int (1 : Int32)), .val (.int ((f (((of + ln) - (1 : Int32))).toNatClampNeg) &&& (255 : Int32))), .val (.int (((1 : Int32) <<< ((lft.toInt32) &&& 31)) - (1 : Int32)))] [(.long lft), (.long lft)])) _
  refine XS.lcmp X16.here hx rfl (hb hby at_208) rfl ?_
  show Steps p.tables e below (T16.setTop (mkF m 209 #[.val (.int p0), .val (.int p1), .val (.int p2), .val (.int p3), .val (.ref b1), .val (.int of), .val (.int ln), .val (.int kk), .val (.ref b6), .val (.long lft), .second, .val (.long lft), .second, .val (.int (1 : Int32)), .val (.long lft), .second, .val (.int (1 : Int32)), .val (.int ((f (((of + ln) - (1 : Int32))).toNatClampNeg) &&& (255 : Int32))), .val (.int (((1 : Int32) <<< ((lft.toInt32) &&& 31)) - (1 : Int32)))] [(.int (lcmpW lft lft))])) _
  refine XS.ifNo X16.here hx rfl (hb hby at_209) rfl ((if0 _ _).trans (teq ((lw_eq lft lft).mpr (rfl : lft = lft))).2) ?_
  show Steps p.tables e below (T16.setTop (mkF m 212 #[.val (.int p0), .val (.int p1), .val (.int p2), .val (.int p3), .val (.ref b1), .val (.int of), .val (.int ln), .val (.int kk), .val (.ref b6), .val (.long lft), .second, .val (.long lft), .second, .val (.int (1 : Int32)), .val (.long lft), .second, .val (.int (1 : Int32)), .val (.int ((f (((of + ln) - (1 : Int32))).toNatClampNeg) &&& (255 : Int32))), .val (.int (((1 : Int32) <<< ((lft.toInt32) &&& 31)) - (1 : Int32)))] [])) _
  refine XS.iload X16.here hx rfl (hb hby at_212) rfl ?_
  show Steps p.tables e below (T16.setTop (mkF m 214 #[.val (.int p0), .val (.int p1), .val (.int p2), .val (.int p3), .val (.ref b1), .val (.int of), .val (.int ln), .val (.int kk), .val (.ref b6), .val (.long lft), .second, .val (.long lft), .second, .val (.int (1 : Int32)), .val (.long lft), .second, .val (.int (1 : Int32)), .val (.int ((f (((of + ln) - (1 : Int32))).toNatClampNeg) &&& (255 : Int32))), .val (.int (((1 : Int32) <<< ((lft.toInt32) &&& 31)) - (1 : Int32)))] [(.int (1 : Int32))])) _
  refine XS.iload X16.here hx rfl (hb hby at_214) rfl ?_
  show Steps p.tables e below (T16.setTop (mkF m 216 #[.val (.int p0), .val (.int p1), .val (.int p2), .val (.int p3), .val (.ref b1), .val (.int of), .val (.int ln), .val (.int kk), .val (.ref b6), .val (.long lft), .second, .val (.long lft), .second, .val (.int (1 : Int32)), .val (.long lft), .second, .val (.int (1 : Int32)), .val (.int ((f (((of + ln) - (1 : Int32))).toNatClampNeg) &&& (255 : Int32))), .val (.int (((1 : Int32) <<< ((lft.toInt32) &&& 31)) - (1 : Int32)))] [(.int (1 : Int32)), (.int (1 : Int32))])) _
  refine XS.icmpNo X16.here hx rfl (hb hby at_216) rfl (teq (rfl : (1 : Int32) = (1 : Int32))).2 ?_
  show Steps p.tables e below (T16.setTop (mkF m 219 #[.val (.int p0), .val (.int p1), .val (.int p2), .val (.int p3), .val (.ref b1), .val (.int of), .val (.int ln), .val (.int kk), .val (.ref b6), .val (.long lft), .second, .val (.long lft), .second, .val (.int (1 : Int32)), .val (.long lft), .second, .val (.int (1 : Int32)), .val (.int ((f (((of + ln) - (1 : Int32))).toNatClampNeg) &&& (255 : Int32))), .val (.int (((1 : Int32) <<< ((lft.toInt32) &&& 31)) - (1 : Int32)))] [])) _
  refine XS.iconst X16.here hx rfl (hb hby at_219) ?_
  show Steps p.tables e below (T16.setTop (mkF m 220 #[.val (.int p0), .val (.int p1), .val (.int p2), .val (.int p3), .val (.ref b1), .val (.int of), .val (.int ln), .val (.int kk), .val (.ref b6), .val (.long lft), .second, .val (.long lft), .second, .val (.int (1 : Int32)), .val (.long lft), .second, .val (.int (1 : Int32)), .val (.int ((f (((of + ln) - (1 : Int32))).toNatClampNeg) &&& (255 : Int32))), .val (.int (((1 : Int32) <<< ((lft.toInt32) &&& 31)) - (1 : Int32)))] [(.int (1 : Int32))])) _
  refine XS.goto X16.here hx rfl (pc0 := 220) (pc' := 224) rfl (hb hby at_220) (by decide) (by decide) ?_
  show Steps p.tables e below (T16.setTop (mkF m 224 #[.val (.int p0), .val (.int p1), .val (.int p2), .val (.int p3), .val (.ref b1), .val (.int of), .val (.int ln), .val (.int kk), .val (.ref b6), .val (.long lft), .second, .val (.long lft), .second, .val (.int (1 : Int32)), .val (.long lft), .second, .val (.int (1 : Int32)), .val (.int ((f (((of + ln) - (1 : Int32))).toNatClampNeg) &&& (255 : Int32))), .val (.int (((1 : Int32) <<< ((lft.toInt32) &&& 31)) - (1 : Int32)))] [(.int (1 : Int32))])) _
  exact retN X16 hx (t := .boolean) Bd.returns (by simp) (hb hby at_224) hr
def Q0cf (Z : State) (p0 : Int32) (p1 : Int32) (p2 : Int32) (p3 : Int32) (of : Int32) (ln : Int32) (kk : Int32) (lft : Int64) (f : Nat → Int32) (h0 : Heap) (n0 : Nat) (v : Option Value) (h : Heap) (L : List Loc) : Prop := v = some (.int (1 : Int32)) ∧ Fr n0 L
set_option maxRecDepth 65536 in
set_option maxHeartbeats 40000000 in
theorem rm0cf (l : Launch) (Z : State) (a0 : Array Value) (hw : ∀ d ∈ tables_1, d.before a0 Z = true) (ws : List Jvm.Cond) (p0 : Int32) (p1 : Int32) (p2 : Int32) (p3 : Int32) (of : Int32) (ln : Int32) (kk : Int32) (lft : Int64) (f : Nat → Int32) (h0 : Heap) (n0 : Nat) (Z0 : n0 ≤ h0.size) (h_of : ((p1 &&& (2147483647 : Int32)) % (4 : Int32)) = of) (h_ln : ((p2 &&& (2147483647 : Int32)) % ((5 : Int32) - of)) = ln) (h_kk : ((p3 &&& (2147483647 : Int32)) % (((8 : Int32) * ln) + (1 : Int32))) = kk) (h_lft : (((8 : Int64) * (ln.toInt64)) - (kk.toInt64)) = lft) (hf : (own_up (own_up (own_up (own_up (fun _ => 0) 0 ((p0.toInt8.toInt32)).toInt8.toInt32) 1 (((p0 >>> ((8 : Int32) &&& 31)).toInt8.toInt32)).toInt8.toInt32) 2 (((p0 >>> ((16 : Int32) &&& 31)).toInt8.toInt32)).toInt8.toInt32) 3 (((p0 >>> ((24 : Int32) &&& 31)).toInt8.toInt32)).toInt8.toInt32) = f) (hz : ¬ lft = (0 : Int64)) (h8 : lft < (8 : Int64)) (hm : ¬ (((f (((of + ln) - (1 : Int32))).toNatClampNeg) &&& (255 : Int32)) &&& (((1 : Int32) <<< ((lft.toInt32) &&& 31)) - (1 : Int32))) = (0 : Int32)) :
    MetFree l x (head1 (Jvm.Cond.code x code maxLocals ret :: ws) room_1) (fun a_ U_ => a_ = #[(.int p0), (.int p1), (.int p2), (.int p3)] ∧ Z.Warmed39 U_.vm ∧ U_.heap = h0) (fun _ _ _ _ _ => True) (fun _ U_ o_ U' => ∃ v_ L_, o_ = .returned v_ ∧ (Q0cf Z p0 p1 p2 p3 of ln kk lft f h0 n0 v_ U'.heap L_) ∧ FrameEnd U_ o_ U' L_ room_1.cells room_1.slots) := by
  refine MetFree.of_bodySF (plainFor_of_name pn_0) hisR ?_
  intro p e s m args below meth c s₁ Bd hml0 hP hK
  obtain ⟨rfl, hZ, hh⟩ := hP
  have hx := Bd.exec
  have hby := Bd.bytes
  have hml : c.maxLocals = 19 := hml0
  have hown : s.vm.findClass "com/example/fewbits/fewbits/BitReaderOnlyPaddingLeftPinLaw" = some m.cls := findClass_of_methodNamed Bd.named
  have hnm := (name_of_methodNamed Bd.named Bd.method).1
  have X0 : Stand p l e room_1 s m #[(.int p0), (.int p1), (.int p2), (.int p3)] below meth c s₁ [] 0 0 := Stand.of_body Bd
  have e0 : s₁.heap = h0 := by rw [← hh, Bd.state]; rfl
  have N0 := Fr.nil n0
  have pre0 : ∀ t, Steps p.tables e below (s₁.setTop (mkF m 0 #[.val (.int p0), .val (.int p1), .val (.int p2), .val (.int p3), .unset, .unset, .unset, .unset, .unset, .unset, .unset, .unset, .unset, .unset, .unset, .unset, .unset, .unset, .unset] [])) t → Steps p.tables e below (s₁.setTop (entryFrame m #[(.int p0), (.int p1), (.int p2), (.int p3)] maxLocals)) t := fun t k => castTop (ef_0 m p0 p1 p2 p3) k
  obtain ⟨T1, h1, X1, e1, E1, A1, st1⟩ := own_newI X0 hx hZ (hw _ (List.mem_of_getElem? (i := 0) rfl)) rfl e0 (g := (mkF m 1 #[.val (.int p0), .val (.int p1), .val (.int p2), .val (.int p3), .unset, .unset, .unset, .unset, .unset, .unset, .unset, .unset, .unset, .unset, .unset, .unset, .unset, .unset, .unset] [(.int (4 : Int32))])) rfl (hb hby at_1) rfl (by decide) (cap := 4) (by decide) (by decide) (by decide) (by decide)
  obtain ⟨b1, g1⟩ : ∃ z, z = h0.size := ⟨_, rfl⟩
  rw [← g1] at A1 st1
  have f_b1 : n0 ≤ b1 := Nat.le_trans Z0 (Nat.le_of_eq g1.symm)
  have s_b1 : h0.size ≤ b1 := Nat.le_trans (Keep.refl h0 []).1 (Nat.le_of_eq g1.symm)
  have K1 : Keep h0 h1 [] := (Keep.refl h0 []).ext E1
  have Z1 : n0 ≤ h1.size := Nat.le_trans Z0 E1.1
  obtain ⟨T2, h2, X2, e2, W2, A2, st2⟩ := own_stB X1 hx hZ e1 A1 (j := (0 : Int32)) ⟨by decide, by decide⟩ (g := (mkF m 10 #[.val (.int p0), .val (.int p1), .val (.int p2), .val (.int p3), .val (.ref b1), .unset, .unset, .unset, .unset, .unset, .unset, .unset, .unset, .unset, .unset, .unset, .unset, .unset, .unset] [(.int (p0.toInt8.toInt32)), (.int (0 : Int32)), (.ref b1)])) rfl rfl (hb hby at_10)
  have N2 := Fr.snoc X2 N0 f_b1
  have K2 : Keep h0 h2 [] := K1.wr W2 (Or.inr s_b1)
  have Z2 : n0 ≤ h2.size := Nat.le_trans Z1 (Nat.le_of_eq (W2.size).symm)
  obtain ⟨T3, h3, X3, e3, W3, A3, st3⟩ := own_stB X2 hx hZ e2 A2 (j := (1 : Int32)) ⟨by decide, by decide⟩ (g := (mkF m 19 #[.val (.int p0), .val (.int p1), .val (.int p2), .val (.int p3), .val (.ref b1), .unset, .unset, .unset, .unset, .unset, .unset, .unset, .unset, .unset, .unset, .unset, .unset, .unset, .unset] [(.int ((p0 >>> ((8 : Int32) &&& 31)).toInt8.toInt32)), (.int (1 : Int32)), (.ref b1)])) rfl rfl (hb hby at_19)
  have N3 := Fr.snoc X3 N2 f_b1
  have K3 : Keep h0 h3 [] := K2.wr W3 (Or.inr s_b1)
  have Z3 : n0 ≤ h3.size := Nat.le_trans Z2 (Nat.le_of_eq (W3.size).symm)
  obtain ⟨T4, h4, X4, e4, W4, A4, st4⟩ := own_stB X3 hx hZ e3 A3 (j := (2 : Int32)) ⟨by decide, by decide⟩ (g := (mkF m 28 #[.val (.int p0), .val (.int p1), .val (.int p2), .val (.int p3), .val (.ref b1), .unset, .unset, .unset, .unset, .unset, .unset, .unset, .unset, .unset, .unset, .unset, .unset, .unset, .unset] [(.int ((p0 >>> ((16 : Int32) &&& 31)).toInt8.toInt32)), (.int (2 : Int32)), (.ref b1)])) rfl rfl (hb hby at_28)
  have N4 := Fr.snoc X4 N3 f_b1
  have K4 : Keep h0 h4 [] := K3.wr W4 (Or.inr s_b1)
  have Z4 : n0 ≤ h4.size := Nat.le_trans Z3 (Nat.le_of_eq (W4.size).symm)
  obtain ⟨T5, h5, X5, e5, W5, A5, st5⟩ := own_stB X4 hx hZ e4 A4 (j := (3 : Int32)) ⟨by decide, by decide⟩ (g := (mkF m 37 #[.val (.int p0), .val (.int p1), .val (.int p2), .val (.int p3), .val (.ref b1), .unset, .unset, .unset, .unset, .unset, .unset, .unset, .unset, .unset, .unset, .unset, .unset, .unset, .unset] [(.int ((p0 >>> ((24 : Int32) &&& 31)).toInt8.toInt32)), (.int (3 : Int32)), (.ref b1)])) rfl rfl (hb hby at_37)
  have N5 := Fr.snoc X5 N4 f_b1
  have K5 : Keep h0 h5 [] := K4.wr W5 (Or.inr s_b1)
  have Z5 : n0 ≤ h5.size := Nat.le_trans Z4 (Nat.le_of_eq (W5.size).symm)
  have Qo := own_off h_of
  have Ql := own_ln Qo h_ln
  have Qk := own_kk Ql Qo.1 h_kk
  have AF : own_AI Z h5 b1 .byte (4 : Int32) f := hf ▸ A5
  obtain ⟨T6, h6, X6, e6, E6, A6, D6, -, st6⟩ := newO X5 hx hZ hown (hw _ (List.mem_of_getElem? (i := 2) rfl)) (hw _ (List.mem_of_getElem? (i := 3) rfl)) (hw _ (List.mem_of_getElem? (i := 4) rfl)) e5 (g := (mkF m 71 #[.val (.int p0), .val (.int p1), .val (.int p2), .val (.int p3), .val (.ref b1), .val (.int of), .val (.int ln), .val (.int kk), .unset, .unset, .unset, .unset, .unset, .unset, .unset, .unset, .unset, .unset, .unset] [])) rfl (hb hby at_71) (by decide) (by decide)
  obtain ⟨b6, g6⟩ : ∃ z, z = h5.size := ⟨_, rfl⟩
  rw [← g6] at A6 D6 st6
  have f_b6 : n0 ≤ b6 := Nat.le_trans Z5 (Nat.le_of_eq g6.symm)
  have s_b6 : h0.size ≤ b6 := Nat.le_trans K5.1 (Nat.le_of_eq g6.symm)
  have K6 : Keep h0 h6 [] := K5.ext E6
  have A6_b1 := AF.ext E6
  have O6 : own_Br Z h6 b6 .null (.long (0 : Int64)) (.long (0 : Int64)) := ⟨A6, D6 (Or.inr (hw _ (List.mem_of_getElem? (i := 20) rfl))) (ty := (.array .byte)) (by decide), D6 (Or.inl (hw _ (List.mem_of_getElem? (i := 23) rfl))) (ty := .long) (by decide), D6 (Or.inr (hw _ (List.mem_of_getElem? (i := 25) rfl))) (ty := .long) (by decide)⟩
  have Z6 : n0 ≤ h6.size := Nat.le_trans Z5 E6.1
  obtain ⟨Lg7, Xg7, Ng7⟩ := own_gen X6 N5
  obtain ⟨_, _, ⟨T8, L8, k8, n8⟩, -, X8, ⟨Lc8, hQ8, l8, y8, z8⟩, st8⟩ := Xg7.specialBack hx (y := (⟨"com/example/fewbits/fewbits/BitReader", "<init>", "([BII)V"⟩ : MethodName)) rfl hown (mvT hZ (hw _ (List.mem_of_getElem? (i := 5) rfl))) (mvT hZ (hw _ (List.mem_of_getElem? (i := 6) rfl))) (mvT hZ (hw _ (List.mem_of_getElem? (i := 7) rfl))) (by decide) (backOf (W := 1) (rm3 l Z a0 hw [] b6 b1 of ln f h6 n0 Z6 f_b6 O6 A6_b1 (own_chk1 Qo Ql) (own_chk2 Qo Ql)) hZ (hw _ (List.mem_of_getElem? (i := 7) rfl)) (hw _ (List.mem_of_getElem? (i := 4) rfl)) (by decide) (by decide)) (g := (mkF m 81 #[.val (.int p0), .val (.int p1), .val (.int p2), .val (.int p3), .val (.ref b1), .val (.int of), .val (.int ln), .val (.int kk), .unset, .unset, .unset, .unset, .unset, .unset, .unset, .unset, .unset, .unset, .unset] [(.int ln), (.int of), (.ref b1), (.ref b6), (.ref b6)])) rfl (by rw [hml]; rfl) (Steps.refl _) (a := b6) (argsL := [(.ref b1), (.int of), (.int ln)]) (rest := [(.ref b6)]) (lenOf pd_4 rfl) rfl (by show 2 * 0 + _ ≤ _; exact Nat.le_of_eq rfl) (hb hby at_81) (fun _ _ => ⟨rfl, e6, (by decide : 2 + 0 ≤ _), (by decide : 7 + 0 ≤ _)⟩)
  dsimp only [Pt.U, Pt.locs, Pt.cells, Pt.slots] at X8 l8 y8 z8 st8 hQ8
  subst l8 y8 z8
  obtain ⟨rfl, Nq8, Kq8, Oq8⟩ := hQ8
  have N8 := Fr.app Ng7 Nq8
  have Z8 : n0 ≤ T8.heap.size := Nat.le_trans Z6 Kq8.1
  have AA8 := A6_b1.keep Kq8 (ninS (own_ne_obj O6.1 (hw _ (List.mem_of_getElem? (i := 3) rfl)) A6_b1).symm nin0)
  obtain ⟨ps, h_ps⟩ : ∃ z, ((of.toInt64) * (8 : Int64)) = z := ⟨_, rfl⟩
  obtain ⟨en, h_en⟩ : ∃ z, (((of.toInt64) + (ln.toInt64)) * (8 : Int64)) = z := ⟨_, rfl⟩
  rw [h_ps, h_en] at Oq8
  have Qp := own_pos Qo h_ps
  have Qe := own_end Qo Ql h_en
  obtain ⟨Lg9, Xg9, Ng9⟩ := own_gen X8 N8
  obtain ⟨cq10, kq10, qa10, qb10, qc10⟩ := isOf hZ rfl Oq8.1
  obtain ⟨_, _, ⟨T10, L10, k10, n10⟩, -, X10, ⟨Lc10, hQ10, l10, y10, z10⟩, st10⟩ := Xg9.virtualBack hx (y := (⟨"com/example/fewbits/fewbits/BitReader", "readBits", "(I)I"⟩ : MethodName)) (z := (⟨"com/example/fewbits/fewbits/BitReader", "readBits", "(I)I"⟩ : MethodName)) hown (mvT hZ (hw _ (List.mem_of_getElem? (i := 26) rfl))) (mvT hZ (hw _ (List.mem_of_getElem? (i := 27) rfl))) (notFace_of_selects (args := #[]) (mvT hZ (hw _ (List.mem_of_getElem? (i := 29) rfl)))) (mvT hZ (hw _ (List.mem_of_getElem? (i := 29) rfl))) (mvT hZ (hw _ (List.mem_of_getElem? (i := 28) rfl))) (by decide) (backOf (W := 0) (rm6 l Z a0 hw [] b6 kk b1 f ps en _ _ T8.heap n0 Z8 f_b6 Oq8 AA8 Qp rfl (own_r1 Qo) (own_r2 Ql Qk) (own_r3 Qo Ql Qk) (own_r4 Ql Qk) (own_r5 Qo Ql Qk) (own_r6 Qo Ql Qk Qp Qe)) hZ (hw _ (List.mem_of_getElem? (i := 30) rfl)) (hw _ (List.mem_of_getElem? (i := 4) rfl)) (by decide) (by decide)) qa10 qc10 (g := (mkF m 90 #[.val (.int p0), .val (.int p1), .val (.int p2), .val (.int p3), .val (.ref b1), .val (.int of), .val (.int ln), .val (.int kk), .val (.ref b6), .unset, .unset, .unset, .unset, .unset, .unset, .unset, .unset, .unset, .unset] [(.int kk), (.ref b6)])) rfl (by rw [hml]; rfl) (Steps.refl _) (argsL := [(.int kk)]) (rest := []) (lenOf pd_5 rfl) rfl (by show 2 * 0 + _ ≤ _; exact Nat.le_of_eq rfl) (hb hby at_90) (fun _ _ => ⟨rfl, rfl, (by decide : 2 + 0 ≤ _), (by decide : 7 + 0 ≤ _)⟩)
  dsimp only [Pt.U, Pt.locs, Pt.cells, Pt.slots] at X10 l10 y10 z10 st10 hQ10
  subst l10 y10 z10
  obtain ⟨⟨rv, rfl⟩, Nq10, Kq10, ⟨pt, Qt, Oq10⟩, Aq10⟩ := hQ10
  have N10 := Fr.app Ng9 Nq10
  have Z10 : n0 ≤ T10.heap.size := Nat.le_trans Z8 Kq10.1
  have hlq := own_left Qo Ql Qk Qt Qe h_lft
  obtain ⟨Lg11, Xg11, Ng11⟩ := own_gen X10 N10
  obtain ⟨cq12, kq12, qa12, qb12, qc12⟩ := isOf hZ rfl Oq10.1
  obtain ⟨_, _, ⟨T12, L12, k12, n12⟩, -, X12, ⟨Lc12, hQ12, l12, y12, z12⟩, st12⟩ := Xg11.virtualBack hx (y := (⟨"com/example/fewbits/fewbits/BitReader", "getBitsLeft", "()J"⟩ : MethodName)) (z := (⟨"com/example/fewbits/fewbits/BitReader", "getBitsLeft", "()J"⟩ : MethodName)) hown (mvT hZ (hw _ (List.mem_of_getElem? (i := 36) rfl))) (mvT hZ (hw _ (List.mem_of_getElem? (i := 37) rfl))) (notFace_of_selects (args := #[]) (mvT hZ (hw _ (List.mem_of_getElem? (i := 39) rfl)))) (mvT hZ (hw _ (List.mem_of_getElem? (i := 39) rfl))) (mvT hZ (hw _ (List.mem_of_getElem? (i := 38) rfl))) (by decide) (backOf (W := 0) (rm7 l Z a0 hw [] b6 b1 pt en T10.heap n0 Z10 Oq10) hZ (hw _ (List.mem_of_getElem? (i := 40) rfl)) (hw _ (List.mem_of_getElem? (i := 4) rfl)) (by decide) (by decide)) qa12 qc12 (g := (mkF m 109 #[.val (.int p0), .val (.int p1), .val (.int p2), .val (.int p3), .val (.ref b1), .val (.int of), .val (.int ln), .val (.int kk), .val (.ref b6), .val (.long lft), .second, .unset, .unset, .unset, .unset, .unset, .unset, .unset, .unset] [(.ref b6)])) rfl (by rw [hml]; rfl) (Steps.refl _) (argsL := []) (rest := []) (lenOf pd_6 rfl) rfl (by show 2 * 0 + _ ≤ _; exact Nat.le_of_eq rfl) (hb hby at_109) (fun _ _ => ⟨rfl, rfl, (by decide : 2 + 0 ≤ _), (by decide : 7 + 0 ≤ _)⟩)
  dsimp only [Pt.U, Pt.locs, Pt.cells, Pt.slots] at X12 l12 y12 z12 st12 hQ12
  subst l12 y12 z12
  obtain ⟨rfl, Nq12, e12⟩ := hQ12
  have N12 := Fr.app Ng11 Nq12
  have hk := fun q => hm ((own_fin (f := f) Qo Ql Qk hlq h_lft hz h8 Qt Qe).mp q)
  obtain ⟨Lg13, Xg13, Ng13⟩ := own_gen X12 N12
  obtain ⟨cq14, kq14, qa14, qb14, qc14⟩ := isOf hZ e12 Oq10.1
  obtain ⟨_, _, ⟨T14, L14, k14, n14⟩, -, X14, ⟨Lc14, hQ14, l14, y14, z14⟩, st14⟩ := Xg13.virtualBack hx (y := (⟨"com/example/fewbits/fewbits/BitReader", "onlyPaddingLeft", "()Z"⟩ : MethodName)) (z := (⟨"com/example/fewbits/fewbits/BitReader", "onlyPaddingLeft", "()Z"⟩ : MethodName)) hown (mvT hZ (hw _ (List.mem_of_getElem? (i := 41) rfl))) (mvT hZ (hw _ (List.mem_of_getElem? (i := 42) rfl))) (notFace_of_selects (args := #[]) (mvT hZ (hw _ (List.mem_of_getElem? (i := 44) rfl)))) (mvT hZ (hw _ (List.mem_of_getElem? (i := 44) rfl))) (mvT hZ (hw _ (List.mem_of_getElem? (i := 43) rfl))) (by decide) (backOf (W := 0) (rm8cf l Z a0 hw [] b6 b1 f pt en T10.heap n0 Z10 Oq10 Aq10 (fun q => hz (hlq.symm.trans q)) (hlq.symm ▸ h8) (own_turnX Qt (own_t1 Qo Qk) (own_t2 Qo Ql Qk hlq hz Qt Qe)) hk) hZ (hw _ (List.mem_of_getElem? (i := 45) rfl)) (hw _ (List.mem_of_getElem? (i := 4) rfl)) (by decide) (by decide)) qa14 qc14 (g := (mkF m 116 #[.val (.int p0), .val (.int p1), .val (.int p2), .val (.int p3), .val (.ref b1), .val (.int of), .val (.int ln), .val (.int kk), .val (.ref b6), .val (.long lft), .second, .val (.long lft), .second, .unset, .unset, .unset, .unset, .unset, .unset] [(.ref b6)])) rfl (by rw [hml]; rfl) (Steps.refl _) (argsL := []) (rest := []) (lenOf pd_7 rfl) rfl (by show 2 * 0 + _ ≤ _; exact Nat.le_of_eq rfl) (hb hby at_116) (fun _ _ => ⟨rfl, e12, (by decide : 2 + 0 ≤ _), (by decide : 7 + 0 ≤ _)⟩)
  dsimp only [Pt.U, Pt.locs, Pt.cells, Pt.slots] at X14 l14 y14 z14 st14 hQ14
  subst l14 y14 z14
  obtain ⟨rfl, Nq14, e14⟩ := hQ14
  have N14 := Fr.app Ng13 Nq14
  obtain ⟨Lg15, Xg15, Ng15⟩ := own_gen X14 N14
  obtain ⟨cq16, kq16, qa16, qb16, qc16⟩ := isOf hZ e14 Oq10.1
  obtain ⟨_, _, ⟨T16, L16, k16, n16⟩, -, X16, ⟨Lc16, hQ16, l16, y16, z16⟩, st16⟩ := Xg15.virtualBack hx (y := (⟨"com/example/fewbits/fewbits/BitReader", "getBitsLeft", "()J"⟩ : MethodName)) (z := (⟨"com/example/fewbits/fewbits/BitReader", "getBitsLeft", "()J"⟩ : MethodName)) hown (mvT hZ (hw _ (List.mem_of_getElem? (i := 36) rfl))) (mvT hZ (hw _ (List.mem_of_getElem? (i := 37) rfl))) (notFace_of_selects (args := #[]) (mvT hZ (hw _ (List.mem_of_getElem? (i := 39) rfl)))) (mvT hZ (hw _ (List.mem_of_getElem? (i := 39) rfl))) (mvT hZ (hw _ (List.mem_of_getElem? (i := 38) rfl))) (by decide) (backOf (W := 0) (rm7 l Z a0 hw [] b6 b1 pt en T10.heap n0 Z10 Oq10) hZ (hw _ (List.mem_of_getElem? (i := 40) rfl)) (hw _ (List.mem_of_getElem? (i := 4) rfl)) (by decide) (by decide)) qa16 qc16 (g := (mkF m 123 #[.val (.int p0), .val (.int p1), .val (.int p2), .val (.int p3), .val (.ref b1), .val (.int of), .val (.int ln), .val (.int kk), .val (.ref b6), .val (.long lft), .second, .val (.long lft), .second, .val (.int (0 : Int32)), .unset, .unset, .unset, .unset, .unset] [(.ref b6)])) rfl (by rw [hml]; rfl) (Steps.refl _) (argsL := []) (rest := []) (lenOf pd_6 rfl) rfl (by show 2 * 0 + _ ≤ _; exact Nat.le_of_eq rfl) (hb hby at_123) (fun _ _ => ⟨rfl, e14, (by decide : 2 + 0 ≤ _), (by decide : 7 + 0 ≤ _)⟩)
  dsimp only [Pt.U, Pt.locs, Pt.cells, Pt.slots] at X16 l16 y16 z16 st16 hQ16
  subst l16 y16 z16
  obtain ⟨rfl, Nq16, e16⟩ := hQ16
  have N16 := Fr.app Ng15 Nq16
  have hin2 := own_last Qo Ql Qk hlq hz Qt Qe
  obtain ⟨fs, hr, hrun, hended, hW, hsame⟩ := X16.leave (v := some (.int (1 : Int32))) (fun h => by rw [Bd.returns] at h; cases h)
  refine ⟨_, _, pre0 _ ?_, hrun, hended, _, _, rfl, ⟨rfl, N16⟩, ⟨_, rfl⟩, hW, hsame.mono (by decide) (by decide)⟩
  show Steps p.tables e below (s₁.setTop (mkF m 0 #[.val (.int p0), .val (.int p1), .val (.int p2), .val (.int p3), .unset, .unset, .unset, .unset, .unset, .unset, .unset, .unset, .unset, .unset, .unset, .unset, .unset, .unset, .unset] [])) _
  refine XS.iconst X0.here hx rfl (hb hby at_0) ?_
  show Steps p.tables e below (s₁.setTop (mkF m 1 #[.val (.int p0), .val (.int p1), .val (.int p2), .val (.int p3), .unset, .unset, .unset, .unset, .unset, .unset, .unset, .unset, .unset, .unset, .unset, .unset, .unset, .unset, .unset] [(.int (4 : Int32))])) _
  refine st1 _ ?_
  show Steps p.tables e below (T1.setTop (mkF m 3 #[.val (.int p0), .val (.int p1), .val (.int p2), .val (.int p3), .unset, .unset, .unset, .unset, .unset, .unset, .unset, .unset, .unset, .unset, .unset, .unset, .unset, .unset, .unset] [(.ref b1)])) _
  refine XS.astore X1.here hx rfl (hb hby at_3) rfl rfl (l' := #[.val (.int p0), .val (.int p1), .val (.int p2), .val (.int p3), .val (.ref b1), .unset, .unset, .unset, .unset, .unset, .unset, .unset, .unset, .unset, .unset, .unset, .unset, .unset, .unset]) rfl ?_
  show Steps p.tables e below (T1.setTop (mkF m 5 #[.val (.int p0), .val (.int p1), .val (.int p2), .val (.int p3), .val (.ref b1), .unset, .unset, .unset, .unset, .unset, .unset, .unset, .unset, .unset, .unset, .unset, .unset, .unset, .unset] [])) _
  refine XS.aload X1.here hx rfl (hb hby at_5) rfl rfl ?_
  show Steps p.tables e below (T1.setTop (mkF m 7 #[.val (.int p0), .val (.int p1), .val (.int p2), .val (.int p3), .val (.ref b1), .unset, .unset, .unset, .unset, .unset, .unset, .unset, .unset, .unset, .unset, .unset, .unset, .unset, .unset] [(.ref b1)])) _
  refine XS.iconst X1.here hx rfl (hb hby at_7) ?_
  show Steps p.tables e below (T1.setTop (mkF m 8 #[.val (.int p0), .val (.int p1), .val (.int p2), .val (.int p3), .val (.ref b1), .unset, .unset, .unset, .unset, .unset, .unset, .unset, .unset, .unset, .unset, .unset, .unset, .unset, .unset] [(.int (0 : Int32)), (.ref b1)])) _
  refine XS.iloadN X1.here hx rfl (hb hby at_8) rfl ?_
  show Steps p.tables e below (T1.setTop (mkF m 9 #[.val (.int p0), .val (.int p1), .val (.int p2), .val (.int p3), .val (.ref b1), .unset, .unset, .unset, .unset, .unset, .unset, .unset, .unset, .unset, .unset, .unset, .unset, .unset, .unset] [(.int p0), (.int (0 : Int32)), (.ref b1)])) _
  refine XS.i2b X1.here hx rfl (hb hby at_9) rfl ?_
  show Steps p.tables e below (T1.setTop (mkF m 10 #[.val (.int p0), .val (.int p1), .val (.int p2), .val (.int p3), .val (.ref b1), .unset, .unset, .unset, .unset, .unset, .unset, .unset, .unset, .unset, .unset, .unset, .unset, .unset, .unset] [(.int (p0.toInt8.toInt32)), (.int (0 : Int32)), (.ref b1)])) _
  refine st2 _ ?_
  show Steps p.tables e below (T2.setTop (mkF m 11 #[.val (.int p0), .val (.int p1), .val (.int p2), .val (.int p3), .val (.ref b1), .unset, .unset, .unset, .unset, .unset, .unset, .unset, .unset, .unset, .unset, .unset, .unset, .unset, .unset] [])) _
  refine XS.aload X2.here hx rfl (hb hby at_11) rfl rfl ?_
  show Steps p.tables e below (T2.setTop (mkF m 13 #[.val (.int p0), .val (.int p1), .val (.int p2), .val (.int p3), .val (.ref b1), .unset, .unset, .unset, .unset, .unset, .unset, .unset, .unset, .unset, .unset, .unset, .unset, .unset, .unset] [(.ref b1)])) _
  refine XS.iconst X2.here hx rfl (hb hby at_13) ?_
  show Steps p.tables e below (T2.setTop (mkF m 14 #[.val (.int p0), .val (.int p1), .val (.int p2), .val (.int p3), .val (.ref b1), .unset, .unset, .unset, .unset, .unset, .unset, .unset, .unset, .unset, .unset, .unset, .unset, .unset, .unset] [(.int (1 : Int32)), (.ref b1)])) _
  refine XS.iloadN X2.here hx rfl (hb hby at_14) rfl ?_
  show Steps p.tables e below (T2.setTop (mkF m 15 #[.val (.int p0), .val (.int p1), .val (.int p2), .val (.int p3), .val (.ref b1), .unset, .unset, .unset, .unset, .unset, .unset, .unset, .unset, .unset, .unset, .unset, .unset, .unset, .unset] [(.int p0), (.int (1 : Int32)), (.ref b1)])) _
  refine XS.bipush X2.here hx rfl (hb hby at_15) ?_
  show Steps p.tables e below (T2.setTop (mkF m 17 #[.val (.int p0), .val (.int p1), .val (.int p2), .val (.int p3), .val (.ref b1), .unset, .unset, .unset, .unset, .unset, .unset, .unset, .unset, .unset, .unset, .unset, .unset, .unset, .unset] [(.int (8 : Int32)), (.int p0), (.int (1 : Int32)), (.ref b1)])) _
  refine XS.ishr X2.here hx rfl (hb hby at_17) rfl ?_
  show Steps p.tables e below (T2.setTop (mkF m 18 #[.val (.int p0), .val (.int p1), .val (.int p2), .val (.int p3), .val (.ref b1), .unset, .unset, .unset, .unset, .unset, .unset, .unset, .unset, .unset, .unset, .unset, .unset, .unset, .unset] [(.int (p0 >>> ((8 : Int32) &&& 31))), (.int (1 : Int32)), (.ref b1)])) _
  refine XS.i2b X2.here hx rfl (hb hby at_18) rfl ?_
  show Steps p.tables e below (T2.setTop (mkF m 19 #[.val (.int p0), .val (.int p1), .val (.int p2), .val (.int p3), .val (.ref b1), .unset, .unset, .unset, .unset, .unset, .unset, .unset, .unset, .unset, .unset, .unset, .unset, .unset, .unset] [(.int ((p0 >>> ((8 : Int32) &&& 31)).toInt8.toInt32)), (.int (1 : Int32)), (.ref b1)])) _
  refine st3 _ ?_
  show Steps p.tables e below (T3.setTop (mkF m 20 #[.val (.int p0), .val (.int p1), .val (.int p2), .val (.int p3), .val (.ref b1), .unset, .unset, .unset, .unset, .unset, .unset, .unset, .unset, .unset, .unset, .unset, .unset, .unset, .unset] [])) _
  refine XS.aload X3.here hx rfl (hb hby at_20) rfl rfl ?_
  show Steps p.tables e below (T3.setTop (mkF m 22 #[.val (.int p0), .val (.int p1), .val (.int p2), .val (.int p3), .val (.ref b1), .unset, .unset, .unset, .unset, .unset, .unset, .unset, .unset, .unset, .unset, .unset, .unset, .unset, .unset] [(.ref b1)])) _
  refine XS.iconst X3.here hx rfl (hb hby at_22) ?_
  show Steps p.tables e below (T3.setTop (mkF m 23 #[.val (.int p0), .val (.int p1), .val (.int p2), .val (.int p3), .val (.ref b1), .unset, .unset, .unset, .unset, .unset, .unset, .unset, .unset, .unset, .unset, .unset, .unset, .unset, .unset] [(.int (2 : Int32)), (.ref b1)])) _
  refine XS.iloadN X3.here hx rfl (hb hby at_23) rfl ?_
  show Steps p.tables e below (T3.setTop (mkF m 24 #[.val (.int p0), .val (.int p1), .val (.int p2), .val (.int p3), .val (.ref b1), .unset, .unset, .unset, .unset, .unset, .unset, .unset, .unset, .unset, .unset, .unset, .unset, .unset, .unset] [(.int p0), (.int (2 : Int32)), (.ref b1)])) _
  refine XS.bipush X3.here hx rfl (hb hby at_24) ?_
  show Steps p.tables e below (T3.setTop (mkF m 26 #[.val (.int p0), .val (.int p1), .val (.int p2), .val (.int p3), .val (.ref b1), .unset, .unset, .unset, .unset, .unset, .unset, .unset, .unset, .unset, .unset, .unset, .unset, .unset, .unset] [(.int (16 : Int32)), (.int p0), (.int (2 : Int32)), (.ref b1)])) _
  refine XS.ishr X3.here hx rfl (hb hby at_26) rfl ?_
  show Steps p.tables e below (T3.setTop (mkF m 27 #[.val (.int p0), .val (.int p1), .val (.int p2), .val (.int p3), .val (.ref b1), .unset, .unset, .unset, .unset, .unset, .unset, .unset, .unset, .unset, .unset, .unset, .unset, .unset, .unset] [(.int (p0 >>> ((16 : Int32) &&& 31))), (.int (2 : Int32)), (.ref b1)])) _
  refine XS.i2b X3.here hx rfl (hb hby at_27) rfl ?_
  show Steps p.tables e below (T3.setTop (mkF m 28 #[.val (.int p0), .val (.int p1), .val (.int p2), .val (.int p3), .val (.ref b1), .unset, .unset, .unset, .unset, .unset, .unset, .unset, .unset, .unset, .unset, .unset, .unset, .unset, .unset] [(.int ((p0 >>> ((16 : Int32) &&& 31)).toInt8.toInt32)), (.int (2 : Int32)), (.ref b1)])) _
  refine st4 _ ?_
  show Steps p.tables e below (T4.setTop (mkF m 29 #[.val (.int p0), .val (.int p1), .val (.int p2), .val (.int p3), .val (.ref b1), .unset, .unset, .unset, .unset, .unset, .unset, .unset, .unset, .unset, .unset, .unset, .unset, .unset, .unset] [])) _
  refine XS.aload X4.here hx rfl (hb hby at_29) rfl rfl ?_
  show Steps p.tables e below (T4.setTop (mkF m 31 #[.val (.int p0), .val (.int p1), .val (.int p2), .val (.int p3), .val (.ref b1), .unset, .unset, .unset, .unset, .unset, .unset, .unset, .unset, .unset, .unset, .unset, .unset, .unset, .unset] [(.ref b1)])) _
  refine XS.iconst X4.here hx rfl (hb hby at_31) ?_
  show Steps p.tables e below (T4.setTop (mkF m 32 #[.val (.int p0), .val (.int p1), .val (.int p2), .val (.int p3), .val (.ref b1), .unset, .unset, .unset, .unset, .unset, .unset, .unset, .unset, .unset, .unset, .unset, .unset, .unset, .unset] [(.int (3 : Int32)), (.ref b1)])) _
  refine XS.iloadN X4.here hx rfl (hb hby at_32) rfl ?_
  show Steps p.tables e below (T4.setTop (mkF m 33 #[.val (.int p0), .val (.int p1), .val (.int p2), .val (.int p3), .val (.ref b1), .unset, .unset, .unset, .unset, .unset, .unset, .unset, .unset, .unset, .unset, .unset, .unset, .unset, .unset] [(.int p0), (.int (3 : Int32)), (.ref b1)])) _
  refine XS.bipush X4.here hx rfl (hb hby at_33) ?_
  show Steps p.tables e below (T4.setTop (mkF m 35 #[.val (.int p0), .val (.int p1), .val (.int p2), .val (.int p3), .val (.ref b1), .unset, .unset, .unset, .unset, .unset, .unset, .unset, .unset, .unset, .unset, .unset, .unset, .unset, .unset] [(.int (24 : Int32)), (.int p0), (.int (3 : Int32)), (.ref b1)])) _
  refine XS.ishr X4.here hx rfl (hb hby at_35) rfl ?_
  show Steps p.tables e below (T4.setTop (mkF m 36 #[.val (.int p0), .val (.int p1), .val (.int p2), .val (.int p3), .val (.ref b1), .unset, .unset, .unset, .unset, .unset, .unset, .unset, .unset, .unset, .unset, .unset, .unset, .unset, .unset] [(.int (p0 >>> ((24 : Int32) &&& 31))), (.int (3 : Int32)), (.ref b1)])) _
  refine XS.i2b X4.here hx rfl (hb hby at_36) rfl ?_
  show Steps p.tables e below (T4.setTop (mkF m 37 #[.val (.int p0), .val (.int p1), .val (.int p2), .val (.int p3), .val (.ref b1), .unset, .unset, .unset, .unset, .unset, .unset, .unset, .unset, .unset, .unset, .unset, .unset, .unset, .unset] [(.int ((p0 >>> ((24 : Int32) &&& 31)).toInt8.toInt32)), (.int (3 : Int32)), (.ref b1)])) _
  refine st5 _ ?_
  show Steps p.tables e below (T5.setTop (mkF m 38 #[.val (.int p0), .val (.int p1), .val (.int p2), .val (.int p3), .val (.ref b1), .unset, .unset, .unset, .unset, .unset, .unset, .unset, .unset, .unset, .unset, .unset, .unset, .unset, .unset] [])) _
  refine XS.iloadN X5.here hx rfl (hb hby at_38) rfl ?_
  show Steps p.tables e below (T5.setTop (mkF m 39 #[.val (.int p0), .val (.int p1), .val (.int p2), .val (.int p3), .val (.ref b1), .unset, .unset, .unset, .unset, .unset, .unset, .unset, .unset, .unset, .unset, .unset, .unset, .unset, .unset] [(.int p1)])) _
  refine X5.ldcI hx hown (mvT hZ (hw _ (List.mem_of_getElem? (i := 1) rfl))) rfl (hb hby at_39) ?_
  show Steps p.tables e below (T5.setTop (mkF m 41 #[.val (.int p0), .val (.int p1), .val (.int p2), .val (.int p3), .val (.ref b1), .unset, .unset, .unset, .unset, .unset, .unset, .unset, .unset, .unset, .unset, .unset, .unset, .unset, .unset] [(.int (2147483647 : Int32)), (.int p1)])) _
  refine XS.iand X5.here hx rfl (hb hby at_41) rfl ?_
  show Steps p.tables e below (T5.setTop (mkF m 42 #[.val (.int p0), .val (.int p1), .val (.int p2), .val (.int p3), .val (.ref b1), .unset, .unset, .unset, .unset, .unset, .unset, .unset, .unset, .unset, .unset, .unset, .unset, .unset, .unset] [(.int (p1 &&& (2147483647 : Int32)))])) _
  refine XS.iconst X5.here hx rfl (hb hby at_42) ?_
  show Steps p.tables e below (T5.setTop (mkF m 43 #[.val (.int p0), .val (.int p1), .val (.int p2), .val (.int p3), .val (.ref b1), .unset, .unset, .unset, .unset, .unset, .unset, .unset, .unset, .unset, .unset, .unset, .unset, .unset, .unset] [(.int (4 : Int32)), (.int (p1 &&& (2147483647 : Int32)))])) _
  refine iremM X5 hx rfl (hb hby at_43) rfl (by decide) ?_
  show Steps p.tables e below (T5.setTop (mkF m 44 #[.val (.int p0), .val (.int p1), .val (.int p2), .val (.int p3), .val (.ref b1), .unset, .unset, .unset, .unset, .unset, .unset, .unset, .unset, .unset, .unset, .unset, .unset, .unset, .unset] [(.int ((p1 &&& (2147483647 : Int32)) % (4 : Int32)))])) _
  refine XS.istore X5.here hx rfl (hb hby at_44) rfl (l' := #[.val (.int p0), .val (.int p1), .val (.int p2), .val (.int p3), .val (.ref b1), .val (.int ((p1 &&& (2147483647 : Int32)) % (4 : Int32))), .unset, .unset, .unset, .unset, .unset, .unset, .unset, .unset, .unset, .unset, .unset, .unset, .unset]) rfl ?_
  show Steps p.tables e below (T5.setTop (mkF m 46 #[.val (.int p0), .val (.int p1), .val (.int p2), .val (.int p3), .val (.ref b1), .val (.int ((p1 &&& (2147483647 : Int32)) % (4 : Int32))), .unset, .unset, .unset, .unset, .unset, .unset, .unset, .unset, .unset, .unset, .unset, .unset, .unset] [])) _
  rw [h_of]
  show Steps p.tables e below (T5.setTop (mkF m 46 #[.val (.int p0), .val (.int p1), .val (.int p2), .val (.int p3), .val (.ref b1), .val (.int of), .unset, .unset, .unset, .unset, .unset, .unset, .unset, .unset, .unset, .unset, .unset, .unset, .unset] [])) _
  refine XS.iloadN X5.here hx rfl (hb hby at_46) rfl ?_
  show Steps p.tables e below (T5.setTop (mkF m 47 #[.val (.int p0), .val (.int p1), .val (.int p2), .val (.int p3), .val (.ref b1), .val (.int of), .unset, .unset, .unset, .unset, .unset, .unset, .unset, .unset, .unset, .unset, .unset, .unset, .unset] [(.int p2)])) _
  refine X5.ldcI hx hown (mvT hZ (hw _ (List.mem_of_getElem? (i := 1) rfl))) rfl (hb hby at_47) ?_
  show Steps p.tables e below (T5.setTop (mkF m 49 #[.val (.int p0), .val (.int p1), .val (.int p2), .val (.int p3), .val (.ref b1), .val (.int of), .unset, .unset, .unset, .unset, .unset, .unset, .unset, .unset, .unset, .unset, .unset, .unset, .unset] [(.int (2147483647 : Int32)), (.int p2)])) _
  refine XS.iand X5.here hx rfl (hb hby at_49) rfl ?_
  show Steps p.tables e below (T5.setTop (mkF m 50 #[.val (.int p0), .val (.int p1), .val (.int p2), .val (.int p3), .val (.ref b1), .val (.int of), .unset, .unset, .unset, .unset, .unset, .unset, .unset, .unset, .unset, .unset, .unset, .unset, .unset] [(.int (p2 &&& (2147483647 : Int32)))])) _
  refine XS.iconst X5.here hx rfl (hb hby at_50) ?_
  show Steps p.tables e below (T5.setTop (mkF m 51 #[.val (.int p0), .val (.int p1), .val (.int p2), .val (.int p3), .val (.ref b1), .val (.int of), .unset, .unset, .unset, .unset, .unset, .unset, .unset, .unset, .unset, .unset, .unset, .unset, .unset] [(.int (5 : Int32)), (.int (p2 &&& (2147483647 : Int32)))])) _
  refine XS.iload X5.here hx rfl (hb hby at_51) rfl ?_
  show Steps p.tables e below (T5.setTop (mkF m 53 #[.val (.int p0), .val (.int p1), .val (.int p2), .val (.int p3), .val (.ref b1), .val (.int of), .unset, .unset, .unset, .unset, .unset, .unset, .unset, .unset, .unset, .unset, .unset, .unset, .unset] [(.int of), (.int (5 : Int32)), (.int (p2 &&& (2147483647 : Int32)))])) _
  refine XS.isub X5.here hx rfl (hb hby at_53) rfl ?_
  show Steps p.tables e below (T5.setTop (mkF m 54 #[.val (.int p0), .val (.int p1), .val (.int p2), .val (.int p3), .val (.ref b1), .val (.int of), .unset, .unset, .unset, .unset, .unset, .unset, .unset, .unset, .unset, .unset, .unset, .unset, .unset] [(.int ((5 : Int32) - of)), (.int (p2 &&& (2147483647 : Int32)))])) _
  refine iremM X5 hx rfl (hb hby at_54) rfl (own_nz1 Qo) ?_
  show Steps p.tables e below (T5.setTop (mkF m 55 #[.val (.int p0), .val (.int p1), .val (.int p2), .val (.int p3), .val (.ref b1), .val (.int of), .unset, .unset, .unset, .unset, .unset, .unset, .unset, .unset, .unset, .unset, .unset, .unset, .unset] [(.int ((p2 &&& (2147483647 : Int32)) % ((5 : Int32) - of)))])) _
  refine XS.istore X5.here hx rfl (hb hby at_55) rfl (l' := #[.val (.int p0), .val (.int p1), .val (.int p2), .val (.int p3), .val (.ref b1), .val (.int of), .val (.int ((p2 &&& (2147483647 : Int32)) % ((5 : Int32) - of))), .unset, .unset, .unset, .unset, .unset, .unset, .unset, .unset, .unset, .unset, .unset, .unset]) rfl ?_
  show Steps p.tables e below (T5.setTop (mkF m 57 #[.val (.int p0), .val (.int p1), .val (.int p2), .val (.int p3), .val (.ref b1), .val (.int of), .val (.int ((p2 &&& (2147483647 : Int32)) % ((5 : Int32) - of))), .unset, .unset, .unset, .unset, .unset, .unset, .unset, .unset, .unset, .unset, .unset, .unset] [])) _
  rw [h_ln]
  show Steps p.tables e below (T5.setTop (mkF m 57 #[.val (.int p0), .val (.int p1), .val (.int p2), .val (.int p3), .val (.ref b1), .val (.int of), .val (.int ln), .unset, .unset, .unset, .unset, .unset, .unset, .unset, .unset, .unset, .unset, .unset, .unset] [])) _
  refine XS.iloadN X5.here hx rfl (hb hby at_57) rfl ?_
  show Steps p.tables e below (T5.setTop (mkF m 58 #[.val (.int p0), .val (.int p1), .val (.int p2), .val (.int p3), .val (.ref b1), .val (.int of), .val (.int ln), .unset, .unset, .unset, .unset, .unset, .unset, .unset, .unset, .unset, .unset, .unset, .unset] [(.int p3)])) _
  refine X5.ldcI hx hown (mvT hZ (hw _ (List.mem_of_getElem? (i := 1) rfl))) rfl (hb hby at_58) ?_
  show Steps p.tables e below (T5.setTop (mkF m 60 #[.val (.int p0), .val (.int p1), .val (.int p2), .val (.int p3), .val (.ref b1), .val (.int of), .val (.int ln), .unset, .unset, .unset, .unset, .unset, .unset, .unset, .unset, .unset, .unset, .unset, .unset] [(.int (2147483647 : Int32)), (.int p3)])) _
  refine XS.iand X5.here hx rfl (hb hby at_60) rfl ?_
  show Steps p.tables e below (T5.setTop (mkF m 61 #[.val (.int p0), .val (.int p1), .val (.int p2), .val (.int p3), .val (.ref b1), .val (.int of), .val (.int ln), .unset, .unset, .unset, .unset, .unset, .unset, .unset, .unset, .unset, .unset, .unset, .unset] [(.int (p3 &&& (2147483647 : Int32)))])) _
  refine XS.bipush X5.here hx rfl (hb hby at_61) ?_
  show Steps p.tables e below (T5.setTop (mkF m 63 #[.val (.int p0), .val (.int p1), .val (.int p2), .val (.int p3), .val (.ref b1), .val (.int of), .val (.int ln), .unset, .unset, .unset, .unset, .unset, .unset, .unset, .unset, .unset, .unset, .unset, .unset] [(.int (8 : Int32)), (.int (p3 &&& (2147483647 : Int32)))])) _
  refine XS.iload X5.here hx rfl (hb hby at_63) rfl ?_
  show Steps p.tables e below (T5.setTop (mkF m 65 #[.val (.int p0), .val (.int p1), .val (.int p2), .val (.int p3), .val (.ref b1), .val (.int of), .val (.int ln), .unset, .unset, .unset, .unset, .unset, .unset, .unset, .unset, .unset, .unset, .unset, .unset] [(.int ln), (.int (8 : Int32)), (.int (p3 &&& (2147483647 : Int32)))])) _
  refine XS.imul X5.here hx rfl (hb hby at_65) rfl ?_
  show Steps p.tables e below (T5.setTop (mkF m 66 #[.val (.int p0), .val (.int p1), .val (.int p2), .val (.int p3), .val (.ref b1), .val (.int of), .val (.int ln), .unset, .unset, .unset, .unset, .unset, .unset, .unset, .unset, .unset, .unset, .unset, .unset] [(.int ((8 : Int32) * ln)), (.int (p3 &&& (2147483647 : Int32)))])) _
  refine XS.iconst X5.here hx rfl (hb hby at_66) ?_
  show Steps p.tables e below (T5.setTop (mkF m 67 #[.val (.int p0), .val (.int p1), .val (.int p2), .val (.int p3), .val (.ref b1), .val (.int of), .val (.int ln), .unset, .unset, .unset, .unset, .unset, .unset, .unset, .unset, .unset, .unset, .unset, .unset] [(.int (1 : Int32)), (.int ((8 : Int32) * ln)), (.int (p3 &&& (2147483647 : Int32)))])) _
  refine XS.iadd X5.here hx rfl (hb hby at_67) rfl ?_
  show Steps p.tables e below (T5.setTop (mkF m 68 #[.val (.int p0), .val (.int p1), .val (.int p2), .val (.int p3), .val (.ref b1), .val (.int of), .val (.int ln), .unset, .unset, .unset, .unset, .unset, .unset, .unset, .unset, .unset, .unset, .unset, .unset] [(.int (((8 : Int32) * ln) + (1 : Int32))), (.int (p3 &&& (2147483647 : Int32)))])) _
  refine iremM X5 hx rfl (hb hby at_68) rfl (own_nz2 Ql Qo.1) ?_
  show Steps p.tables e below (T5.setTop (mkF m 69 #[.val (.int p0), .val (.int p1), .val (.int p2), .val (.int p3), .val (.ref b1), .val (.int of), .val (.int ln), .unset, .unset, .unset, .unset, .unset, .unset, .unset, .unset, .unset, .unset, .unset, .unset] [(.int ((p3 &&& (2147483647 : Int32)) % (((8 : Int32) * ln) + (1 : Int32))))])) _
  refine XS.istore X5.here hx rfl (hb hby at_69) rfl (l' := #[.val (.int p0), .val (.int p1), .val (.int p2), .val (.int p3), .val (.ref b1), .val (.int of), .val (.int ln), .val (.int ((p3 &&& (2147483647 : Int32)) % (((8 : Int32) * ln) + (1 : Int32)))), .unset, .unset, .unset, .unset, .unset, .unset, .unset, .unset, .unset, .unset, .unset]) rfl ?_
  show Steps p.tables e below (T5.setTop (mkF m 71 #[.val (.int p0), .val (.int p1), .val (.int p2), .val (.int p3), .val (.ref b1), .val (.int of), .val (.int ln), .val (.int ((p3 &&& (2147483647 : Int32)) % (((8 : Int32) * ln) + (1 : Int32)))), .unset, .unset, .unset, .unset, .unset, .unset, .unset, .unset, .unset, .unset, .unset] [])) _
  rw [h_kk]
  show Steps p.tables e below (T5.setTop (mkF m 71 #[.val (.int p0), .val (.int p1), .val (.int p2), .val (.int p3), .val (.ref b1), .val (.int of), .val (.int ln), .val (.int kk), .unset, .unset, .unset, .unset, .unset, .unset, .unset, .unset, .unset, .unset, .unset] [])) _
  refine st6 _ ?_
  show Steps p.tables e below (T6.setTop (mkF m 74 #[.val (.int p0), .val (.int p1), .val (.int p2), .val (.int p3), .val (.ref b1), .val (.int of), .val (.int ln), .val (.int kk), .unset, .unset, .unset, .unset, .unset, .unset, .unset, .unset, .unset, .unset, .unset] [(.ref b6)])) _
  refine XS.dup X6.here hx rfl (hb hby at_74) rfl rfl ?_
  show Steps p.tables e below (T6.setTop (mkF m 75 #[.val (.int p0), .val (.int p1), .val (.int p2), .val (.int p3), .val (.ref b1), .val (.int of), .val (.int ln), .val (.int kk), .unset, .unset, .unset, .unset, .unset, .unset, .unset, .unset, .unset, .unset, .unset] [(.ref b6), (.ref b6)])) _
  refine XS.aload X6.here hx rfl (hb hby at_75) rfl rfl ?_
  show Steps p.tables e below (T6.setTop (mkF m 77 #[.val (.int p0), .val (.int p1), .val (.int p2), .val (.int p3), .val (.ref b1), .val (.int of), .val (.int ln), .val (.int kk), .unset, .unset, .unset, .unset, .unset, .unset, .unset, .unset, .unset, .unset, .unset] [(.ref b1), (.ref b6), (.ref b6)])) _
  refine XS.iload X6.here hx rfl (hb hby at_77) rfl ?_
  show Steps p.tables e below (T6.setTop (mkF m 79 #[.val (.int p0), .val (.int p1), .val (.int p2), .val (.int p3), .val (.ref b1), .val (.int of), .val (.int ln), .val (.int kk), .unset, .unset, .unset, .unset, .unset, .unset, .unset, .unset, .unset, .unset, .unset] [(.int of), (.ref b1), (.ref b6), (.ref b6)])) _
  refine XS.iload X6.here hx rfl (hb hby at_79) rfl ?_
  show Steps p.tables e below (T6.setTop (mkF m 81 #[.val (.int p0), .val (.int p1), .val (.int p2), .val (.int p3), .val (.ref b1), .val (.int of), .val (.int ln), .val (.int kk), .unset, .unset, .unset, .unset, .unset, .unset, .unset, .unset, .unset, .unset, .unset] [(.int ln), (.int of), (.ref b1), (.ref b6), (.ref b6)])) _
  refine st8.trans ?_
  show Steps p.tables e below (T8.setTop (mkF m 84 #[.val (.int p0), .val (.int p1), .val (.int p2), .val (.int p3), .val (.ref b1), .val (.int of), .val (.int ln), .val (.int kk), .unset, .unset, .unset, .unset, .unset, .unset, .unset, .unset, .unset, .unset, .unset] [(.ref b6)])) _
  refine XS.astore X8.here hx rfl (hb hby at_84) rfl rfl (l' := #[.val (.int p0), .val (.int p1), .val (.int p2), .val (.int p3), .val (.ref b1), .val (.int of), .val (.int ln), .val (.int kk), .val (.ref b6), .unset, .unset, .unset, .unset, .unset, .unset, .unset, .unset, .unset, .unset]) rfl ?_
  show Steps p.tables e below (T8.setTop (mkF m 86 #[.val (.int p0), .val (.int p1), .val (.int p2), .val (.int p3), .val (.ref b1), .val (.int of), .val (.int ln), .val (.int kk), .val (.ref b6), .unset, .unset, .unset, .unset, .unset, .unset, .unset, .unset, .unset, .unset] [])) _
  refine XS.aload X8.here hx rfl (hb hby at_86) rfl rfl ?_
  show Steps p.tables e below (T8.setTop (mkF m 88 #[.val (.int p0), .val (.int p1), .val (.int p2), .val (.int p3), .val (.ref b1), .val (.int of), .val (.int ln), .val (.int kk), .val (.ref b6), .unset, .unset, .unset, .unset, .unset, .unset, .unset, .unset, .unset, .unset] [(.ref b6)])) _
  refine XS.iload X8.here hx rfl (hb hby at_88) rfl ?_
  show Steps p.tables e below (T8.setTop (mkF m 90 #[.val (.int p0), .val (.int p1), .val (.int p2), .val (.int p3), .val (.ref b1), .val (.int of), .val (.int ln), .val (.int kk), .val (.ref b6), .unset, .unset, .unset, .unset, .unset, .unset, .unset, .unset, .unset, .unset] [(.int kk), (.ref b6)])) _
  refine st10.trans ?_
  show Steps p.tables e below (T10.setTop (mkF m 93 #[.val (.int p0), .val (.int p1), .val (.int p2), .val (.int p3), .val (.ref b1), .val (.int of), .val (.int ln), .val (.int kk), .val (.ref b6), .unset, .unset, .unset, .unset, .unset, .unset, .unset, .unset, .unset, .unset] [(.int rv)])) _
  refine XS.pop X10.here hx rfl (hb hby at_93) rfl rfl ?_
  show Steps p.tables e below (T10.setTop (mkF m 94 #[.val (.int p0), .val (.int p1), .val (.int p2), .val (.int p3), .val (.ref b1), .val (.int of), .val (.int ln), .val (.int kk), .val (.ref b6), .unset, .unset, .unset, .unset, .unset, .unset, .unset, .unset, .unset, .unset] [])) _
  refine X10.ldc2J hx hown (mvT hZ (hw _ (List.mem_of_getElem? (i := 35) rfl))) rfl (hb hby at_94) ?_
  show Steps p.tables e below (T10.setTop (mkF m 97 #[.val (.int p0), .val (.int p1), .val (.int p2), .val (.int p3), .val (.ref b1), .val (.int of), .val (.int ln), .val (.int kk), .val (.ref b6), .unset, .unset, .unset, .unset, .unset, .unset, .unset, .unset, .unset, .unset] [(.long (8 : Int64))])) _
  refine XS.iload X10.here hx rfl (hb hby at_97) rfl ?_
  show Steps p.tables e below (T10.setTop (mkF m 99 #[.val (.int p0), .val (.int p1), .val (.int p2), .val (.int p3), .val (.ref b1), .val (.int of), .val (.int ln), .val (.int kk), .val (.ref b6), .unset, .unset, .unset, .unset, .unset, .unset, .unset, .unset, .unset, .unset] [(.int ln), (.long (8 : Int64))])) _
  refine XS.i2l X10.here hx rfl (hb hby at_99) rfl ?_
  show Steps p.tables e below (T10.setTop (mkF m 100 #[.val (.int p0), .val (.int p1), .val (.int p2), .val (.int p3), .val (.ref b1), .val (.int of), .val (.int ln), .val (.int kk), .val (.ref b6), .unset, .unset, .unset, .unset, .unset, .unset, .unset, .unset, .unset, .unset] [(.long (ln.toInt64)), (.long (8 : Int64))])) _
  refine XS.lmul X10.here hx rfl (hb hby at_100) rfl ?_
  show Steps p.tables e below (T10.setTop (mkF m 101 #[.val (.int p0), .val (.int p1), .val (.int p2), .val (.int p3), .val (.ref b1), .val (.int of), .val (.int ln), .val (.int kk), .val (.ref b6), .unset, .unset, .unset, .unset, .unset, .unset, .unset, .unset, .unset, .unset] [(.long ((8 : Int64) * (ln.toInt64)))])) _
  refine XS.iload X10.here hx rfl (hb hby at_101) rfl ?_
  show Steps p.tables e below (T10.setTop (mkF m 103 #[.val (.int p0), .val (.int p1), .val (.int p2), .val (.int p3), .val (.ref b1), .val (.int of), .val (.int ln), .val (.int kk), .val (.ref b6), .unset, .unset, .unset, .unset, .unset, .unset, .unset, .unset, .unset, .unset] [(.int kk), (.long ((8 : Int64) * (ln.toInt64)))])) _
  refine XS.i2l X10.here hx rfl (hb hby at_103) rfl ?_
  show Steps p.tables e below (T10.setTop (mkF m 104 #[.val (.int p0), .val (.int p1), .val (.int p2), .val (.int p3), .val (.ref b1), .val (.int of), .val (.int ln), .val (.int kk), .val (.ref b6), .unset, .unset, .unset, .unset, .unset, .unset, .unset, .unset, .unset, .unset] [(.long (kk.toInt64)), (.long ((8 : Int64) * (ln.toInt64)))])) _
  refine XS.lsub X10.here hx rfl (hb hby at_104) rfl ?_
  show Steps p.tables e below (T10.setTop (mkF m 105 #[.val (.int p0), .val (.int p1), .val (.int p2), .val (.int p3), .val (.ref b1), .val (.int of), .val (.int ln), .val (.int kk), .val (.ref b6), .unset, .unset, .unset, .unset, .unset, .unset, .unset, .unset, .unset, .unset] [(.long (((8 : Int64) * (ln.toInt64)) - (kk.toInt64)))])) _
  refine XS.lstore X10.here hx rfl (hb hby at_105) rfl (l' := #[.val (.int p0), .val (.int p1), .val (.int p2), .val (.int p3), .val (.ref b1), .val (.int of), .val (.int ln), .val (.int kk), .val (.ref b6), .val (.long (((8 : Int64) * (ln.toInt64)) - (kk.toInt64))), .second, .unset, .unset, .unset, .unset, .unset, .unset, .unset, .unset]) rfl ?_
  show Steps p.tables e below (T10.setTop (mkF m 107 #[.val (.int p0), .val (.int p1), .val (.int p2), .val (.int p3), .val (.ref b1), .val (.int of), .val (.int ln), .val (.int kk), .val (.ref b6), .val (.long (((8 : Int64) * (ln.toInt64)) - (kk.toInt64))), .second, .unset, .unset, .unset, .unset, .unset, .unset, .unset, .unset] [])) _
  rw [h_lft]
  show Steps p.tables e below (T10.setTop (mkF m 107 #[.val (.int p0), .val (.int p1), .val (.int p2), .val (.int p3), .val (.ref b1), .val (.int of), .val (.int ln), .val (.int kk), .val (.ref b6), .val (.long lft), .second, .unset, .unset, .unset, .unset, .unset, .unset, .unset, .unset] [])) _
  refine XS.aload X10.here hx rfl (hb hby at_107) rfl rfl ?_
  show Steps p.tables e below (T10.setTop (mkF m 109 #[.val (.int p0), .val (.int p1), .val (.int p2), .val (.int p3), .val (.ref b1), .val (.int of), .val (.int ln), .val (.int kk), .val (.ref b6), .val (.long lft), .second, .unset, .unset, .unset, .unset, .unset, .unset, .unset, .unset] [(.ref b6)])) _
  refine st12.trans ?_
  show Steps p.tables e below (T12.setTop (mkF m 112 #[.val (.int p0), .val (.int p1), .val (.int p2), .val (.int p3), .val (.ref b1), .val (.int of), .val (.int ln), .val (.int kk), .val (.ref b6), .val (.long lft), .second, .unset, .unset, .unset, .unset, .unset, .unset, .unset, .unset] [(.long (en - pt))])) _
  rw [hlq]
  show Steps p.tables e below (T12.setTop (mkF m 112 #[.val (.int p0), .val (.int p1), .val (.int p2), .val (.int p3), .val (.ref b1), .val (.int of), .val (.int ln), .val (.int kk), .val (.ref b6), .val (.long lft), .second, .unset, .unset, .unset, .unset, .unset, .unset, .unset, .unset] [(.long lft)])) _
  refine XS.lstore X12.here hx rfl (hb hby at_112) rfl (l' := #[.val (.int p0), .val (.int p1), .val (.int p2), .val (.int p3), .val (.ref b1), .val (.int of), .val (.int ln), .val (.int kk), .val (.ref b6), .val (.long lft), .second, .val (.long lft), .second, .unset, .unset, .unset, .unset, .unset, .unset]) rfl ?_
  show Steps p.tables e below (T12.setTop (mkF m 114 #[.val (.int p0), .val (.int p1), .val (.int p2), .val (.int p3), .val (.ref b1), .val (.int of), .val (.int ln), .val (.int kk), .val (.ref b6), .val (.long lft), .second, .val (.long lft), .second, .unset, .unset, .unset, .unset, .unset, .unset] [])) _
  refine XS.aload X12.here hx rfl (hb hby at_114) rfl rfl ?_
  show Steps p.tables e below (T12.setTop (mkF m 116 #[.val (.int p0), .val (.int p1), .val (.int p2), .val (.int p3), .val (.ref b1), .val (.int of), .val (.int ln), .val (.int kk), .val (.ref b6), .val (.long lft), .second, .val (.long lft), .second, .unset, .unset, .unset, .unset, .unset, .unset] [(.ref b6)])) _
  refine st14.trans ?_
  show Steps p.tables e below (T14.setTop (mkF m 119 #[.val (.int p0), .val (.int p1), .val (.int p2), .val (.int p3), .val (.ref b1), .val (.int of), .val (.int ln), .val (.int kk), .val (.ref b6), .val (.long lft), .second, .val (.long lft), .second, .unset, .unset, .unset, .unset, .unset, .unset] [(.int (0 : Int32))])) _
  refine XS.istore X14.here hx rfl (hb hby at_119) rfl (l' := #[.val (.int p0), .val (.int p1), .val (.int p2), .val (.int p3), .val (.ref b1), .val (.int of), .val (.int ln), .val (.int kk), .val (.ref b6), .val (.long lft), .second, .val (.long lft), .second, .val (.int (0 : Int32)), .unset, .unset, .unset, .unset, .unset]) rfl ?_
  show Steps p.tables e below (T14.setTop (mkF m 121 #[.val (.int p0), .val (.int p1), .val (.int p2), .val (.int p3), .val (.ref b1), .val (.int of), .val (.int ln), .val (.int kk), .val (.ref b6), .val (.long lft), .second, .val (.long lft), .second, .val (.int (0 : Int32)), .unset, .unset, .unset, .unset, .unset] [])) _
  refine XS.aload X14.here hx rfl (hb hby at_121) rfl rfl ?_
  show Steps p.tables e below (T14.setTop (mkF m 123 #[.val (.int p0), .val (.int p1), .val (.int p2), .val (.int p3), .val (.ref b1), .val (.int of), .val (.int ln), .val (.int kk), .val (.ref b6), .val (.long lft), .second, .val (.long lft), .second, .val (.int (0 : Int32)), .unset, .unset, .unset, .unset, .unset] [(.ref b6)])) _
  refine st16.trans ?_
  show Steps p.tables e below (T16.setTop (mkF m 126 #[.val (.int p0), .val (.int p1), .val (.int p2), .val (.int p3), .val (.ref b1), .val (.int of), .val (.int ln), .val (.int kk), .val (.ref b6), .val (.long lft), .second, .val (.long lft), .second, .val (.int (0 : Int32)), .unset, .unset, .unset, .unset, .unset] [(.long (en - pt))])) _
  rw [hlq]
  show Steps p.tables e below (T16.setTop (mkF m 126 #[.val (.int p0), .val (.int p1), .val (.int p2), .val (.int p3), .val (.ref b1), .val (.int of), .val (.int ln), .val (.int kk), .val (.ref b6), .val (.long lft), .second, .val (.long lft), .second, .val (.int (0 : Int32)), .unset, .unset, .unset, .unset, .unset] [(.long lft)])) _
  refine XS.lstore X16.here hx rfl (hb hby at_126) rfl (l' := #[.val (.int p0), .val (.int p1), .val (.int p2), .val (.int p3), .val (.ref b1), .val (.int of), .val (.int ln), .val (.int kk), .val (.ref b6), .val (.long lft), .second, .val (.long lft), .second, .val (.int (0 : Int32)), .val (.long lft), .second, .unset, .unset, .unset]) rfl ?_
  show Steps p.tables e below (T16.setTop (mkF m 128 #[.val (.int p0), .val (.int p1), .val (.int p2), .val (.int p3), .val (.ref b1), .val (.int of), .val (.int ln), .val (.int kk), .val (.ref b6), .val (.long lft), .second, .val (.long lft), .second, .val (.int (0 : Int32)), .val (.long lft), .second, .unset, .unset, .unset] [])) _
  refine XS.lload X16.here hx rfl (hb hby at_128) rfl ?_
  show Steps p.tables e below (T16.setTop (mkF m 130 #[.val (.int p0), .val (.int p1), .val (.int p2), .val (.int p3), .val (.ref b1), .val (.int of), .val (.int ln), .val (.int kk), .val (.ref b6), .val (.long lft), .second, .val (.long lft), .second, .val (.int (0 : Int32)), .val (.long lft), .second, .unset, .unset, .unset] [(.long lft)])) _
  refine XS.lconst X16.here hx rfl (hb hby at_130) ?_
  show Steps p.tables e below (T16.setTop (mkF m 131 #[.val (.int p0), .val (.int p1), .val (.int p2), .val (.int p3), .val (.ref b1), .val (.int of), .val (.int ln), .val (.int kk), .val (.ref b6), .val (.long lft), .second, .val (.long lft), .second, .val (.int (0 : Int32)), .val (.long lft), .second, .unset, .unset, .unset] [(.long (0 : Int64)), (.long lft)])) _
  refine XS.lcmp X16.here hx rfl (hb hby at_131) rfl ?_
  show Steps p.tables e below (T16.setTop (mkF m 132 #[.val (.int p0), .val (.int p1), .val (.int p2), .val (.int p3), .val (.ref b1), .val (.int of), .val (.int ln), .val (.int kk), .val (.ref b6), .val (.long lft), .second, .val (.long lft), .second, .val (.int (0 : Int32)), .val (.long lft), .second, .unset, .unset, .unset] [(.int (lcmpW lft (0 : Int64)))])) _
  refine XS.ifYes X16.here hx rfl (pc0 := 132) (pc' := 141) rfl (hb hby at_132) rfl ((if0 _ _).trans (feq (fun q => hz ((lw_eq lft (0 : Int64)).mp q))).2) (by decide) (by decide) ?_
  show Steps p.tables e below (T16.setTop (mkF m 141 #[.val (.int p0), .val (.int p1), .val (.int p2), .val (.int p3), .val (.ref b1), .val (.int of), .val (.int ln), .val (.int kk), .val (.ref b6), .val (.long lft), .second, .val (.long lft), .second, .val (.int (0 : Int32)), .val (.long lft), .second, .unset, .unset, .unset] [])) _
  refine XS.lload X16.here hx rfl (hb hby at_141) rfl ?_
  show Steps p.tables e below (T16.setTop (mkF m 143 #[.val (.int p0), .val (.int p1), .val (.int p2), .val (.int p3), .val (.ref b1), .val (.int of), .val (.int ln), .val (.int kk), .val (.ref b6), .val (.long lft), .second, .val (.long lft), .second, .val (.int (0 : Int32)), .val (.long lft), .second, .unset, .unset, .unset] [(.long lft)])) _
  refine X16.ldc2J hx hown (mvT hZ (hw _ (List.mem_of_getElem? (i := 35) rfl))) rfl (hb hby at_143) ?_
  show Steps p.tables e below (T16.setTop (mkF m 146 #[.val (.int p0), .val (.int p1), .val (.int p2), .val (.int p3), .val (.ref b1), .val (.int of), .val (.int ln), .val (.int kk), .val (.ref b6), .val (.long lft), .second, .val (.long lft), .second, .val (.int (0 : Int32)), .val (.long lft), .second, .unset, .unset, .unset] [(.long (8 : Int64)), (.long lft)])) _
  refine XS.lcmp X16.here hx rfl (hb hby at_146) rfl ?_
  show Steps p.tables e below (T16.setTop (mkF m 147 #[.val (.int p0), .val (.int p1), .val (.int p2), .val (.int p3), .val (.ref b1), .val (.int of), .val (.int ln), .val (.int kk), .val (.ref b6), .val (.long lft), .second, .val (.long lft), .second, .val (.int (0 : Int32)), .val (.long lft), .second, .unset, .unset, .unset] [(.int (lcmpW lft (8 : Int64)))])) _
  refine XS.ifYes X16.here hx rfl (pc0 := 147) (pc' := 156) rfl (hb hby at_147) rfl ((if0 _ _).trans (tlt ((lw_lt lft (8 : Int64)).mpr h8)).1) (by decide) (by decide) ?_
  show Steps p.tables e below (T16.setTop (mkF m 156 #[.val (.int p0), .val (.int p1), .val (.int p2), .val (.int p3), .val (.ref b1), .val (.int of), .val (.int ln), .val (.int kk), .val (.ref b6), .val (.long lft), .second, .val (.long lft), .second, .val (.int (0 : Int32)), .val (.long lft), .second, .unset, .unset, .unset] [])) _
  refine XS.aload X16.here hx rfl (hb hby at_156) rfl rfl ?_
  show Steps p.tables e below (T16.setTop (mkF m 158 #[.val (.int p0), .val (.int p1), .val (.int p2), .val (.int p3), .val (.ref b1), .val (.int of), .val (.int ln), .val (.int kk), .val (.ref b6), .val (.long lft), .second, .val (.long lft), .second, .val (.int (0 : Int32)), .val (.long lft), .second, .unset, .unset, .unset] [(.ref b1)])) _
  refine XS.iload X16.here hx rfl (hb hby at_158) rfl ?_
  show Steps p.tables e below (T16.setTop (mkF m 160 #[.val (.int p0), .val (.int p1), .val (.int p2), .val (.int p3), .val (.ref b1), .val (.int of), .val (.int ln), .val (.int kk), .val (.ref b6), .val (.long lft), .second, .val (.long lft), .second, .val (.int (0 : Int32)), .val (.long lft), .second, .unset, .unset, .unset] [(.int of), (.ref b1)])) _
  refine XS.iload X16.here hx rfl (hb hby at_160) rfl ?_
  show Steps p.tables e below (T16.setTop (mkF m 162 #[.val (.int p0), .val (.int p1), .val (.int p2), .val (.int p3), .val (.ref b1), .val (.int of), .val (.int ln), .val (.int kk), .val (.ref b6), .val (.long lft), .second, .val (.long lft), .second, .val (.int (0 : Int32)), .val (.long lft), .second, .unset, .unset, .unset] [(.int ln), (.int of), (.ref b1)])) _
  refine XS.iadd X16.here hx rfl (hb hby at_162) rfl ?_
  show Steps p.tables e below (T16.setTop (mkF m 163 #[.val (.int p0), .val (.int p1), .val (.int p2), .val (.int p3), .val (.ref b1), .val (.int of), .val (.int ln), .val (.int kk), .val (.ref b6), .val (.long lft), .second, .val (.long lft), .second, .val (.int (0 : Int32)), .val (.long lft), .second, .unset, .unset, .unset] [(.int (of + ln)), (.ref b1)])) _
  refine XS.iconst X16.here hx rfl (hb hby at_163) ?_
  show Steps p.tables e below (T16.setTop (mkF m 164 #[.val (.int p0), .val (.int p1), .val (.int p2), .val (.int p3), .val (.ref b1), .val (.int of), .val (.int ln), .val (.int kk), .val (.ref b6), .val (.long lft), .second, .val (.long lft), .second, .val (.int (0 : Int32)), .val (.long lft), .second, .unset, .unset, .unset] [(.int (1 : Int32)), (.int (of + ln)), (.ref b1)])) _
  refine XS.isub X16.here hx rfl (hb hby at_164) rfl ?_
  show Steps p.tables e below (T16.setTop (mkF m 165 #[.val (.int p0), .val (.int p1), .val (.int p2), .val (.int p3), .val (.ref b1), .val (.int of), .val (.int ln), .val (.int kk), .val (.ref b6), .val (.long lft), .second, .val (.long lft), .second, .val (.int (0 : Int32)), .val (.long lft), .second, .unset, .unset, .unset] [(.int ((of + ln) - (1 : Int32))), (.ref b1)])) _
  refine own_ldB X16 hx hZ e16 Aq10 (j := ((of + ln) - (1 : Int32))) hin2 rfl rfl (hb hby at_165) ?_
  show Steps p.tables e below (T16.setTop (mkF m 166 #[.val (.int p0), .val (.int p1), .val (.int p2), .val (.int p3), .val (.ref b1), .val (.int of), .val (.int ln), .val (.int kk), .val (.ref b6), .val (.long lft), .second, .val (.long lft), .second, .val (.int (0 : Int32)), .val (.long lft), .second, .unset, .unset, .unset] [(.int (f (((of + ln) - (1 : Int32))).toNatClampNeg))])) _
  refine XS.sipush X16.here hx rfl (hb hby at_166) ?_
  show Steps p.tables e below (T16.setTop (mkF m 169 #[.val (.int p0), .val (.int p1), .val (.int p2), .val (.int p3), .val (.ref b1), .val (.int of), .val (.int ln), .val (.int kk), .val (.ref b6), .val (.long lft), .second, .val (.long lft), .second, .val (.int (0 : Int32)), .val (.long lft), .second, .unset, .unset, .unset] [(.int (255 : Int32)), (.int (f (((of + ln) - (1 : Int32))).toNatClampNeg))])) _
  refine XS.iand X16.here hx rfl (hb hby at_169) rfl ?_
  show Steps p.tables e below (T16.setTop (mkF m 170 #[.val (.int p0), .val (.int p1), .val (.int p2), .val (.int p3), .val (.ref b1), .val (.int of), .val (.int ln), .val (.int kk), .val (.ref b6), .val (.long lft), .second, .val (.long lft), .second, .val (.int (0 : Int32)), .val (.long lft), .second, .unset, .unset, .unset] [(.int ((f (((of + ln) - (1 : Int32))).toNatClampNeg) &&& (255 : Int32)))])) _
  refine XS.istore X16.here hx rfl (hb hby at_170) rfl (l' := #[.val (.int p0), .val (.int p1), .val (.int p2), .val (.int p3), .val (.ref b1), .val (.int of), .val (.int ln), .val (.int kk), .val (.ref b6), .val (.long lft), .second, .val (.long lft), .second, .val (.int (0 : Int32)), .val (.long lft), .second, .unset, .val (.int ((f (((of + ln) - (1 : Int32))).toNatClampNeg) &&& (255 : Int32))), .unset]) rfl ?_
  show Steps p.tables e below (T16.setTop (mkF m 172 #[.val (.int p0), .val (.int p1), .val (.int p2), .val (.int p3), .val (.ref b1), .val (.int of), .val (.int ln), .val (.int kk), .val (.ref b6), .val (.long lft), .second, .val (.long lft), .second, .val (.int (0 : Int32)), .val (.long lft), .second, .unset, .val (.int ((f (((of + ln) - (1 : Int32))).toNatClampNeg) &&& (255 : Int32))), .unset] [])) _
  refine XS.iconst X16.here hx rfl (hb hby at_172) ?_
  show Steps p.tables e below (T16.setTop (mkF m 173 #[.val (.int p0), .val (.int p1), .val (.int p2), .val (.int p3), .val (.ref b1), .val (.int of), .val (.int ln), .val (.int kk), .val (.ref b6), .val (.long lft), .second, .val (.long lft), .second, .val (.int (0 : Int32)), .val (.long lft), .second, .unset, .val (.int ((f (((of + ln) - (1 : Int32))).toNatClampNeg) &&& (255 : Int32))), .unset] [(.int (1 : Int32))])) _
  refine XS.lload X16.here hx rfl (hb hby at_173) rfl ?_
  show Steps p.tables e below (T16.setTop (mkF m 175 #[.val (.int p0), .val (.int p1), .val (.int p2), .val (.int p3), .val (.ref b1), .val (.int of), .val (.int ln), .val (.int kk), .val (.ref b6), .val (.long lft), .second, .val (.long lft), .second, .val (.int (0 : Int32)), .val (.long lft), .second, .unset, .val (.int ((f (((of + ln) - (1 : Int32))).toNatClampNeg) &&& (255 : Int32))), .unset] [(.long lft), (.int (1 : Int32))])) _
  refine XS.l2i X16.here hx rfl (hb hby at_175) rfl ?_
  show Steps p.tables e below (T16.setTop (mkF m 176 #[.val (.int p0), .val (.int p1), .val (.int p2), .val (.int p3), .val (.ref b1), .val (.int of), .val (.int ln), .val (.int kk), .val (.ref b6), .val (.long lft), .second, .val (.long lft), .second, .val (.int (0 : Int32)), .val (.long lft), .second, .unset, .val (.int ((f (((of + ln) - (1 : Int32))).toNatClampNeg) &&& (255 : Int32))), .unset] [(.int (lft.toInt32)), (.int (1 : Int32))])) _
  refine XS.ishl X16.here hx rfl (hb hby at_176) rfl ?_
  show Steps p.tables e below (T16.setTop (mkF m 177 #[.val (.int p0), .val (.int p1), .val (.int p2), .val (.int p3), .val (.ref b1), .val (.int of), .val (.int ln), .val (.int kk), .val (.ref b6), .val (.long lft), .second, .val (.long lft), .second, .val (.int (0 : Int32)), .val (.long lft), .second, .unset, .val (.int ((f (((of + ln) - (1 : Int32))).toNatClampNeg) &&& (255 : Int32))), .unset] [(.int ((1 : Int32) <<< ((lft.toInt32) &&& 31)))])) _
  refine XS.iconst X16.here hx rfl (hb hby at_177) ?_
  show Steps p.tables e below (T16.setTop (mkF m 178 #[.val (.int p0), .val (.int p1), .val (.int p2), .val (.int p3), .val (.ref b1), .val (.int of), .val (.int ln), .val (.int kk), .val (.ref b6), .val (.long lft), .second, .val (.long lft), .second, .val (.int (0 : Int32)), .val (.long lft), .second, .unset, .val (.int ((f (((of + ln) - (1 : Int32))).toNatClampNeg) &&& (255 : Int32))), .unset] [(.int (1 : Int32)), (.int ((1 : Int32) <<< ((lft.toInt32) &&& 31)))])) _
  refine XS.isub X16.here hx rfl (hb hby at_178) rfl ?_
  show Steps p.tables e below (T16.setTop (mkF m 179 #[.val (.int p0), .val (.int p1), .val (.int p2), .val (.int p3), .val (.ref b1), .val (.int of), .val (.int ln), .val (.int kk), .val (.ref b6), .val (.long lft), .second, .val (.long lft), .second, .val (.int (0 : Int32)), .val (.long lft), .second, .unset, .val (.int ((f (((of + ln) - (1 : Int32))).toNatClampNeg) &&& (255 : Int32))), .unset] [(.int (((1 : Int32) <<< ((lft.toInt32) &&& 31)) - (1 : Int32)))])) _
  refine XS.istore X16.here hx rfl (hb hby at_179) rfl (l' := #[.val (.int p0), .val (.int p1), .val (.int p2), .val (.int p3), .val (.ref b1), .val (.int of), .val (.int ln), .val (.int kk), .val (.ref b6), .val (.long lft), .second, .val (.long lft), .second, .val (.int (0 : Int32)), .val (.long lft), .second, .unset, .val (.int ((f (((of + ln) - (1 : Int32))).toNatClampNeg) &&& (255 : Int32))), .val (.int (((1 : Int32) <<< ((lft.toInt32) &&& 31)) - (1 : Int32)))]) rfl ?_
  show Steps p.tables e below (T16.setTop (mkF m 181 #[.val (.int p0), .val (.int p1), .val (.int p2), .val (.int p3), .val (.ref b1), .val (.int of), .val (.int ln), .val (.int kk), .val (.ref b6), .val (.long lft), .second, .val (.long lft), .second, .val (.int (0 : Int32)), .val (.long lft), .second, .unset, .val (.int ((f (((of + ln) - (1 : Int32))).toNatClampNeg) &&& (255 : Int32))), .val (.int (((1 : Int32) <<< ((lft.toInt32) &&& 31)) - (1 : Int32)))] [])) _
  refine XS.iload X16.here hx rfl (hb hby at_181) rfl ?_
  show Steps p.tables e below (T16.setTop (mkF m 183 #[.val (.int p0), .val (.int p1), .val (.int p2), .val (.int p3), .val (.ref b1), .val (.int of), .val (.int ln), .val (.int kk), .val (.ref b6), .val (.long lft), .second, .val (.long lft), .second, .val (.int (0 : Int32)), .val (.long lft), .second, .unset, .val (.int ((f (((of + ln) - (1 : Int32))).toNatClampNeg) &&& (255 : Int32))), .val (.int (((1 : Int32) <<< ((lft.toInt32) &&& 31)) - (1 : Int32)))] [(.int ((f (((of + ln) - (1 : Int32))).toNatClampNeg) &&& (255 : Int32)))])) _
  refine XS.iload X16.here hx rfl (hb hby at_183) rfl ?_
  show Steps p.tables e below (T16.setTop (mkF m 185 #[.val (.int p0), .val (.int p1), .val (.int p2), .val (.int p3), .val (.ref b1), .val (.int of), .val (.int ln), .val (.int kk), .val (.ref b6), .val (.long lft), .second, .val (.long lft), .second, .val (.int (0 : Int32)), .val (.long lft), .second, .unset, .val (.int ((f (((of + ln) - (1 : Int32))).toNatClampNeg) &&& (255 : Int32))), .val (.int (((1 : Int32) <<< ((lft.toInt32) &&& 31)) - (1 : Int32)))] [(.int (((1 : Int32) <<< ((lft.toInt32) &&& 31)) - (1 : Int32))), (.int ((f (((of + ln) - (1 : Int32))).toNatClampNeg) &&& (255 : Int32)))])) _
  refine XS.iand X16.here hx rfl (hb hby at_185) rfl ?_
  show Steps p.tables e below (T16.setTop (mkF m 186 #[.val (.int p0), .val (.int p1), .val (.int p2), .val (.int p3), .val (.ref b1), .val (.int of), .val (.int ln), .val (.int kk), .val (.ref b6), .val (.long lft), .second, .val (.long lft), .second, .val (.int (0 : Int32)), .val (.long lft), .second, .unset, .val (.int ((f (((of + ln) - (1 : Int32))).toNatClampNeg) &&& (255 : Int32))), .val (.int (((1 : Int32) <<< ((lft.toInt32) &&& 31)) - (1 : Int32)))] [(.int (((f (((of + ln) - (1 : Int32))).toNatClampNeg) &&& (255 : Int32)) &&& (((1 : Int32) <<< ((lft.toInt32) &&& 31)) - (1 : Int32))))])) _
  refine XS.ifYes X16.here hx rfl (pc0 := 186) (pc' := 193) rfl (hb hby at_186) rfl ((if0 _ _).trans (feq hm).2) (by decide) (by decide) ?_
  show Steps p.tables e below (T16.setTop (mkF m 193 #[.val (.int p0), .val (.int p1), .val (.int p2), .val (.int p3), .val (.ref b1), .val (.int of), .val (.int ln), .val (.int kk), .val (.ref b6), .val (.long lft), .second, .val (.long lft), .second, .val (.int (0 : Int32)), .val (.long lft), .second, .unset, .val (.int ((f (((of + ln) - (1 : Int32))).toNatClampNeg) &&& (255 : Int32))), .val (.int (((1 : Int32) <<< ((lft.toInt32) &&& 31)) - (1 : Int32)))] [])) _
  refine XS.iconst X16.here hx rfl (hb hby at_193) ?_
  show Steps p.tables e below (T16.setTop (mkF m 194 #[.val (.int p0), .val (.int p1), .val (.int p2), .val (.int p3), .val (.ref b1), .val (.int of), .val (.int ln), .val (.int kk), .val (.ref b6), .val (.long lft), .second, .val (.long lft), .second, .val (.int (0 : Int32)), .val (.long lft), .second, .unset, .val (.int ((f (((of + ln) - (1 : Int32))).toNatClampNeg) &&& (255 : Int32))), .val (.int (((1 : Int32) <<< ((lft.toInt32) &&& 31)) - (1 : Int32)))] [(.int (0 : Int32))])) _
  refine XS.istore X16.here hx rfl (hb hby at_194) rfl (l' := #[.val (.int p0), .val (.int p1), .val (.int p2), .val (.int p3), .val (.ref b1), .val (.int of), .val (.int ln), .val (.int kk), .val (.ref b6), .val (.long lft), .second, .val (.long lft), .second, .val (.int (0 : Int32)), .val (.long lft), .second, .val (.int (0 : Int32)), .val (.int ((f (((of + ln) - (1 : Int32))).toNatClampNeg) &&& (255 : Int32))), .val (.int (((1 : Int32) <<< ((lft.toInt32) &&& 31)) - (1 : Int32)))]) rfl ?_
  show Steps p.tables e below (T16.setTop (mkF m 196 #[.val (.int p0), .val (.int p1), .val (.int p2), .val (.int p3), .val (.ref b1), .val (.int of), .val (.int ln), .val (.int kk), .val (.ref b6), .val (.long lft), .second, .val (.long lft), .second, .val (.int (0 : Int32)), .val (.long lft), .second, .val (.int (0 : Int32)), .val (.int ((f (((of + ln) - (1 : Int32))).toNatClampNeg) &&& (255 : Int32))), .val (.int (((1 : Int32) <<< ((lft.toInt32) &&& 31)) - (1 : Int32)))] [])) _
  refine XS.lload X16.here hx rfl (hb hby at_196) rfl ?_
  show Steps p.tables e below (T16.setTop (mkF m 198 #[.val (.int p0), .val (.int p1), .val (.int p2), .val (.int p3), .val (.ref b1), .val (.int of), .val (.int ln), .val (.int kk), .val (.ref b6), .val (.long lft), .second, .val (.long lft), .second, .val (.int (0 : Int32)), .val (.long lft), .second, .val (.int (0 : Int32)), .val (.int ((f (((of + ln) - (1 : Int32))).toNatClampNeg) &&& (255 : Int32))), .val (.int (((1 : Int32) <<< ((lft.toInt32) &&& 31)) - (1 : Int32)))] [(.long lft)])) _
  refine XS.lload X16.here hx rfl (hb hby at_198) rfl ?_
  show Steps p.tables e below (T16.setTop (mkF m 200 #[.val (.int p0), .val (.int p1), .val (.int p2), .val (.int p3), .val (.ref b1), .val (.int of), .val (.int ln), .val (.int kk), .val (.ref b6), .val (.long lft), .second, .val (.long lft), .second, .val (.int (0 : Int32)), .val (.long lft), .second, .val (.int (0 : Int32)), .val (.int ((f (((of + ln) - (1 : Int32))).toNatClampNeg) &&& (255 : Int32))), .val (.int (((1 : Int32) <<< ((lft.toInt32) &&& 31)) - (1 : Int32)))] [(.long lft), (.long lft)])) _
  refine XS.lcmp X16.here hx rfl (hb hby at_200) rfl ?_
  show Steps p.tables e below (T16.setTop (mkF m 201 #[.val (.int p0), .val (.int p1), .val (.int p2), .val (.int p3), .val (.ref b1), .val (.int of), .val (.int ln), .val (.int kk), .val (.ref b6), .val (.long lft), .second, .val (.long lft), .second, .val (.int (0 : Int32)), .val (.long lft), .second, .val (.int (0 : Int32)), .val (.int ((f (((of + ln) - (1 : Int32))).toNatClampNeg) &&& (255 : Int32))), .val (.int (((1 : Int32) <<< ((lft.toInt32) &&& 31)) - (1 : Int32)))] [(.int (lcmpW lft lft))])) _
  refine XS.ifNo X16.here hx rfl (hb hby at_201) rfl ((if0 _ _).trans (teq ((lw_eq lft lft).mpr (rfl : lft = lft))).2) ?_
  show Steps p.tables e below (T16.setTop (mkF m 204 #[.val (.int p0), .val (.int p1), .val (.int p2), .val (.int p3), .val (.ref b1), .val (.int of), .val (.int ln), .val (.int kk), .val (.ref b6), .val (.long lft), .second, .val (.long lft), .second, .val (.int (0 : Int32)), .val (.long lft), .second, .val (.int (0 : Int32)), .val (.int ((f (((of + ln) - (1 : Int32))).toNatClampNeg) &&& (255 : Int32))), .val (.int (((1 : Int32) <<< ((lft.toInt32) &&& 31)) - (1 : Int32)))] [])) _
  refine XS.lload X16.here hx rfl (hb hby at_204) rfl ?_
  show Steps p.tables e below (T16.setTop (mkF m 206 #[.val (.int p0), .val (.int p1), .val (.int p2), .val (.int p3), .val (.ref b1), .val (.int of), .val (.int ln), .val (.int kk), .val (.ref b6), .val (.long lft), .second, .val (.long lft), .second, .val (.int (0 : Int32)), .val (.long lft), .second, .val (.int (0 : Int32)), .val (.int ((f (((of + ln) - (1 : Int32))).toNatClampNeg) &&& (255 : Int32))), .val (.int (((1 : Int32) <<< ((lft.toInt32) &&& 31)) - (1 : Int32)))] [(.long lft)])) _
  refine XS.lload X16.here hx rfl (hb hby at_206) rfl ?_
  show Steps p.tables e below (T16.setTop (mkF m 208 #[.val (.int p0), .val (.int p1), .val (.int p2), .val (.int p3), .val (.ref b1), .val (.int of), .val (.int ln), .val (.int kk), .val (.ref b6), .val (.long lft), .second, .val (.long lft), .second, .val (.int (0 : Int32)), .val (.long lft), .second, .val (.int (0 : Int32)), .val (.int ((f (((of + ln) - (1 : Int32))).toNatClampNeg) &&& (255 : Int32))), .val (.int (((1 : Int32) <<< ((lft.toInt32) &&& 31)) - (1 : Int32)))] [(.long lft), (.long lft)])) _
  refine XS.lcmp X16.here hx rfl (hb hby at_208) rfl ?_
  show Steps p.tables e below (T16.setTop (mkF m 209 #[.val (.int p0), .val (.int p1), .val (.int p2), .val (.int p3), .val (.ref b1), .val (.int of), .val (.int ln), .val (.int kk), .val (.ref b6), .val (.long lft), .second, .val (.long lft), .second, .val (.int (0 : Int32)), .val (.long lft), .second, .val (.int (0 : Int32)), .val (.int ((f (((of + ln) - (1 : Int32))).toNatClampNeg) &&& (255 : Int32))), .val (.int (((1 : Int32) <<< ((lft.toInt32) &&& 31)) - (1 : Int32)))] [(.int (lcmpW lft lft))])) _
  refine XS.ifNo X16.here hx rfl (hb hby at_209) rfl ((if0 _ _).trans (teq ((lw_eq lft lft).mpr (rfl : lft = lft))).2) ?_
  show Steps p.tables e below (T16.setTop (mkF m 212 #[.val (.int p0), .val (.int p1), .val (.int p2), .val (.int p3), .val (.ref b1), .val (.int of), .val (.int ln), .val (.int kk), .val (.ref b6), .val (.long lft), .second, .val (.long lft), .second, .val (.int (0 : Int32)), .val (.long lft), .second, .val (.int (0 : Int32)), .val (.int ((f (((of + ln) - (1 : Int32))).toNatClampNeg) &&& (255 : Int32))), .val (.int (((1 : Int32) <<< ((lft.toInt32) &&& 31)) - (1 : Int32)))] [])) _
  refine XS.iload X16.here hx rfl (hb hby at_212) rfl ?_
  show Steps p.tables e below (T16.setTop (mkF m 214 #[.val (.int p0), .val (.int p1), .val (.int p2), .val (.int p3), .val (.ref b1), .val (.int of), .val (.int ln), .val (.int kk), .val (.ref b6), .val (.long lft), .second, .val (.long lft), .second, .val (.int (0 : Int32)), .val (.long lft), .second, .val (.int (0 : Int32)), .val (.int ((f (((of + ln) - (1 : Int32))).toNatClampNeg) &&& (255 : Int32))), .val (.int (((1 : Int32) <<< ((lft.toInt32) &&& 31)) - (1 : Int32)))] [(.int (0 : Int32))])) _
  refine XS.iload X16.here hx rfl (hb hby at_214) rfl ?_
  show Steps p.tables e below (T16.setTop (mkF m 216 #[.val (.int p0), .val (.int p1), .val (.int p2), .val (.int p3), .val (.ref b1), .val (.int of), .val (.int ln), .val (.int kk), .val (.ref b6), .val (.long lft), .second, .val (.long lft), .second, .val (.int (0 : Int32)), .val (.long lft), .second, .val (.int (0 : Int32)), .val (.int ((f (((of + ln) - (1 : Int32))).toNatClampNeg) &&& (255 : Int32))), .val (.int (((1 : Int32) <<< ((lft.toInt32) &&& 31)) - (1 : Int32)))] [(.int (0 : Int32)), (.int (0 : Int32))])) _
  refine XS.icmpNo X16.here hx rfl (hb hby at_216) rfl (teq (rfl : (0 : Int32) = (0 : Int32))).2 ?_
  show Steps p.tables e below (T16.setTop (mkF m 219 #[.val (.int p0), .val (.int p1), .val (.int p2), .val (.int p3), .val (.ref b1), .val (.int of), .val (.int ln), .val (.int kk), .val (.ref b6), .val (.long lft), .second, .val (.long lft), .second, .val (.int (0 : Int32)), .val (.long lft), .second, .val (.int (0 : Int32)), .val (.int ((f (((of + ln) - (1 : Int32))).toNatClampNeg) &&& (255 : Int32))), .val (.int (((1 : Int32) <<< ((lft.toInt32) &&& 31)) - (1 : Int32)))] [])) _
  refine XS.iconst X16.here hx rfl (hb hby at_219) ?_
  show Steps p.tables e below (T16.setTop (mkF m 220 #[.val (.int p0), .val (.int p1), .val (.int p2), .val (.int p3), .val (.ref b1), .val (.int of), .val (.int ln), .val (.int kk), .val (.ref b6), .val (.long lft), .second, .val (.long lft), .second, .val (.int (0 : Int32)), .val (.long lft), .second, .val (.int (0 : Int32)), .val (.int ((f (((of + ln) - (1 : Int32))).toNatClampNeg) &&& (255 : Int32))), .val (.int (((1 : Int32) <<< ((lft.toInt32) &&& 31)) - (1 : Int32)))] [(.int (1 : Int32))])) _
  refine XS.goto X16.here hx rfl (pc0 := 220) (pc' := 224) rfl (hb hby at_220) (by decide) (by decide) ?_
  show Steps p.tables e below (T16.setTop (mkF m 224 #[.val (.int p0), .val (.int p1), .val (.int p2), .val (.int p3), .val (.ref b1), .val (.int of), .val (.int ln), .val (.int kk), .val (.ref b6), .val (.long lft), .second, .val (.long lft), .second, .val (.int (0 : Int32)), .val (.long lft), .second, .val (.int (0 : Int32)), .val (.int ((f (((of + ln) - (1 : Int32))).toNatClampNeg) &&& (255 : Int32))), .val (.int (((1 : Int32) <<< ((lft.toInt32) &&& 31)) - (1 : Int32)))] [(.int (1 : Int32))])) _
  exact retN X16 hx (t := .boolean) Bd.returns (by simp) (hb hby at_224) hr
def Q0 (Z : State) (p0 : Int32) (p1 : Int32) (p2 : Int32) (p3 : Int32) (h0 : Heap) (n0 : Nat) (v : Option Value) (h : Heap) (L : List Loc) : Prop := v = some (.int (1 : Int32)) ∧ Fr n0 L
set_option maxRecDepth 65536 in
set_option maxHeartbeats 40000000 in
theorem rm0 (l : Launch) (Z : State) (a0 : Array Value) (hw : ∀ d ∈ tables_1, d.before a0 Z = true) (ws : List Jvm.Cond) (p0 : Int32) (p1 : Int32) (p2 : Int32) (p3 : Int32) (h0 : Heap) (n0 : Nat) (Z0 : n0 ≤ h0.size)  :
    MetFree l x (head1 (Jvm.Cond.code x code maxLocals ret :: ws) room_1) (fun a_ U_ => a_ = #[(.int p0), (.int p1), (.int p2), (.int p3)] ∧ Z.Warmed39 U_.vm ∧ U_.heap = h0) (fun _ _ _ _ _ => True) (fun _ U_ o_ U' => ∃ v_ L_, o_ = .returned v_ ∧ (Q0 Z p0 p1 p2 p3 h0 n0 v_ U'.heap L_) ∧ FrameEnd U_ o_ U' L_ room_1.cells room_1.slots) := by
  obtain ⟨of, h_of⟩ : ∃ z, ((p1 &&& (2147483647 : Int32)) % (4 : Int32)) = z := ⟨_, rfl⟩
  obtain ⟨ln, h_ln⟩ : ∃ z, ((p2 &&& (2147483647 : Int32)) % ((5 : Int32) - of)) = z := ⟨_, rfl⟩
  obtain ⟨kk, h_kk⟩ : ∃ z, ((p3 &&& (2147483647 : Int32)) % (((8 : Int32) * ln) + (1 : Int32))) = z := ⟨_, rfl⟩
  obtain ⟨lft, h_lft⟩ : ∃ z, (((8 : Int64) * (ln.toInt64)) - (kk.toInt64)) = z := ⟨_, rfl⟩
  obtain ⟨f, hf⟩ : ∃ z, (own_up (own_up (own_up (own_up (fun _ => 0) 0 ((p0.toInt8.toInt32)).toInt8.toInt32) 1 (((p0 >>> ((8 : Int32) &&& 31)).toInt8.toInt32)).toInt8.toInt32) 2 (((p0 >>> ((16 : Int32) &&& 31)).toInt8.toInt32)).toInt8.toInt32) 3 (((p0 >>> ((24 : Int32) &&& 31)).toInt8.toInt32)).toInt8.toInt32) = z := ⟨_, rfl⟩
  by_cases hz : lft = (0 : Int64)
  · exact rm0a l Z a0 hw ws p0 p1 p2 p3 of ln kk lft f h0 n0 Z0 h_of h_ln h_kk h_lft hf hz
  · by_cases h8 : lft < (8 : Int64)
    · by_cases hm : (((f (((of + ln) - (1 : Int32))).toNatClampNeg) &&& (255 : Int32)) &&& (((1 : Int32) <<< ((lft.toInt32) &&& 31)) - (1 : Int32))) = (0 : Int32)
      · exact rm0ct l Z a0 hw ws p0 p1 p2 p3 of ln kk lft f h0 n0 Z0 h_of h_ln h_kk h_lft hf hz h8 hm
      · exact rm0cf l Z a0 hw ws p0 p1 p2 p3 of ln kk lft f h0 n0 Z0 h_of h_ln h_kk h_lft hf hz h8 hm
    · exact rm0b l Z a0 hw ws p0 p1 p2 p3 of ln kk lft f h0 n0 Z0 h_of h_ln h_kk h_lft hf hz h8
set_option maxRecDepth 65536 in
set_option maxHeartbeats 40000000 in
theorem comes_1 {Post : Tables → Env → Array Value → State → Outcome → State → Prop} (hpost : ∀ tb e args s v u, (limb_1_1.after args s (.returned v) u = true ∧ limb_1_2.after args s (.returned v) u = true ∧ True) → FrameEnd s (.returned v) u (Jvm.fieldLocs frame_1_writes args s ++ Jvm.arrayLocs frame_1_arrays args s ++ Jvm.staticLocs frame_1_statics s) 16 128 → Post tb e args s (.returned v) u) :
    ArmFor flags0 classFile x code maxLocals ret World_1 tables_1 room_1 Calls_1 rest_1 Pre_1 Post := by
  intro l hfl _ _ p e ha hc hk s m args below hf hA hF happ hP
  obtain ⟨hcalls, hrest, hpre⟩ := hP
  obtain ⟨-, -, -, hnamed, -, -, -, hat⟩ := (Spec.applies_iff hf).mp happ
  obtain ⟨hg, hn⟩ := and_e (Cond.before_iff.mp (show (Jvm.Cond.and given_1 narrow_1).before args s = true from hpre))
  obtain ⟨gc, g0⟩ := and_e hg
  obtain ⟨k0, g1⟩ := and_e g0
  obtain ⟨k1, g2⟩ := and_e g1
  obtain ⟨k2, g3⟩ := and_e g2
  obtain ⟨w0, w1, w2, w3, rfl⟩ : ∃ w0 w1 w2 w3 : Value, args = #[w0, w1, w2, w3] := by
    have hs : args.size = 4 := by simpa [Cond.value, given_1] using gc
    obtain ⟨L⟩ := args
    match L, hs with
    | [w0, w1, w2, w3], _ => exact ⟨w0, w1, w2, w3, rfl⟩
  have hw := fun d (hd : d ∈ tables_1) => atoms_spec (ws := Jvm.Cond.code x code maxLocals ret :: tables_1) hat d (List.mem_cons_of_mem _ hd)
  obtain ⟨i0, ei0⟩ := is_v k0
  obtain rfl : w0 = (.int i0) := Option.some.inj ei0
  obtain ⟨i1, ei1⟩ := is_v k1
  obtain rfl : w1 = (.int i1) := Option.some.inj ei1
  obtain ⟨i2, ei2⟩ := is_v k2
  obtain rfl : w2 = (.int i2) := Option.some.inj ei2
  obtain ⟨i3, ei3⟩ := is_v g3
  obtain rfl : w3 = (.int i3) := Option.some.inj ei3
  obtain ⟨n, o, h1, h2, h3, _, L, rfl, ⟨rfl, N⟩, hq⟩ := rm0 l s _ hw tables_1 i0 i1 i2 i3 s.heap s.heap.size (Nat.le_refl _) p e ha hc hk s m _ below hf ((Spec.applies_iff_loose hf).mp happ).1 ⟨rfl, State.Warmed39.refl s, rfl⟩ trivial
  refine ⟨n, _, h1, h2, h3, hpost _ _ _ _ _ _ ⟨Cond.after_iff.mpr rfl, Cond.after_iff.mpr (eq_i res_at (Term.int_eval (1)) rfl), trivial⟩ ⟨hq.1, hq.2.1, (hq.2.2.sift fun y hy => Or.inr (N y hy)).mono (by decide) (by decide)⟩⟩
theorem main_1_1 : Claimed_1_1 := comes_1 fun _ _ _ _ _ _ h hF => ⟨h.1, hF⟩
theorem main_1_2 : Claimed_1_2 := comes_1 fun _ _ _ _ _ _ h hF => ⟨h.2.1, hF⟩
end Jvm.Pilot.@@N@@
namespace Jvm.Pilot.@@N@@
open Jvm Jvm.ClassFile Sem Op Lib Jvm.Free Jvm.Stand Jvm.Pilot.@@N@@.Jvm.D
/-! MADE BY PROGRAM (witnessworld.py) out of the Statement's table words and the real class files: 13 classes; the members and pool entries that the words name. The judged class is class 1, her method 1. -/
namespace start1
open Jvm.ClassFile
def u (s : String) : CpInfo := .utf8 (stringToUtf16 s)
/-- a pool by its gaps: so many unusable entries, then the entry; so many at the end -/
def gap : Nat → List CpInfo → List CpInfo
  | 0, r => r
  | n + 1, r => .unusable :: gap n r
def poolList (es : List (Nat × CpInfo)) (last : Nat) : List CpInfo := es.foldr (fun e r => gap e.1 (e.2 :: r)) (gap last [])
def pool (es : List (Nat × CpInfo)) (last : Nat) : Array CpInfo := ⟨poolList es last⟩
def fileOf (pool : Array CpInfo) (this : Nat) (attrs : Array Attribute := #[]) (ms : Array MethodInfo := #[]) (fl : Nat := 33) (sup : Nat := 0) (ifs : Array Nat := #[]) (fds : Array FieldInfo := #[]) : ClassFile where
  minorVersion := 0
  majorVersion := 65
  constantPool := pool
  accessFlags := fl
  thisClass := this
  superClass := sup
  interfaces := ifs
  fields := fds
  methods := ms
  attributes := attrs
def plain (name : String) (sup : Option ClassId) : Class where
  name := name
  kind := .ordinary
  loader := none
  accessFlags := 33
  super := sup
  interfaces := #[]
  cf := none
  fields := #[]
  methods := #[]
  instanceTypes := #[]
  staticTypes := #[]
  resolved := #[]
  callSites := []
  init := .initialized
  statics := none
  mirror := none

def pool0 : Array CpInfo := pool [(5, u "<init>"), (0, u "()V"), (1, .class_ 10), (1, u "java/lang/Object")] 113

def k0c0 : Code := { maxStack := 0, maxLocals := 1, code := object_method_1_code, exceptionTable := #[], attributes := #[] }
def k0m0 : Method := { name := "<init>", desc := "()V", sig := { parameters := [], returnType := none }, accessFlags := 1, code := some k0c0 }
/-- java/lang/Object -/
def k0 : Class := { plain "java/lang/Object" none with
  accessFlags := 33
  interfaces := #[]
  cf := some (fileOf pool0 8 #[] #[{ accessFlags := 1, nameIndex := 5, descriptorIndex := 6, attributes := #[] }] 33 0 #[] #[])
  fields := #[]
  methods := #[k0m0]
  instanceTypes := #[]
  staticTypes := #[]
  resolved := Array.replicate 124 none
  statics := none }

def pool1 : Array CpInfo := pool [(2, .class_ 4), (1, u "java/lang/Object"), (0, u "<init>"), (0, u "()V"), (0, .integer 2147483647), (0, .class_ 9), (0, u "com/example/fewbits/fewbits/BitReader"), (0, .methodref 8 11), (0, .nameAndType 5 12), (0, u "([BII)V"), (0, .methodref 8 14), (0, .nameAndType 15 16), (0, u "readBits"), (0, u "(I)I"), (0, .long 8), (1, .methodref 8 20), (0, .nameAndType 21 22), (0, u "getBitsLeft"), (0, u "()J"), (0, .methodref 8 24), (0, .nameAndType 25 26), (0, u "onlyPaddingLeft"), (0, u "()Z"), (0, .class_ 28), (0, u "com/example/fewbits/fewbits/BitReaderOnlyPaddingLeftPinLaw"), (2, u "law"), (0, u "(IIII)Z")] 8

def k1m0 : Method := { name := "<init>", desc := "()V", sig := { parameters := [], returnType := none }, accessFlags := 1, code := none }
def k1c1 : Code := { maxStack := 5, maxLocals := 19, code := code, exceptionTable := #[], attributes := #[] }
def k1m1 : Method := { name := "law", desc := "(IIII)Z", sig := { parameters := [.int, .int, .int, .int], returnType := some .boolean }, accessFlags := 9, code := some k1c1 }
/-- com/example/fewbits/fewbits/BitReaderOnlyPaddingLeftPinLaw -/
def k1 : Class := { plain "com/example/fewbits/fewbits/BitReaderOnlyPaddingLeftPinLaw" (some 0) with
  accessFlags := 49
  interfaces := #[]
  cf := some (fileOf pool1 27 #[] #[{ accessFlags := 1, nameIndex := 5, descriptorIndex := 6, attributes := #[] }, { accessFlags := 9, nameIndex := 31, descriptorIndex := 32, attributes := #[] }] 49 2 #[] #[])
  fields := #[]
  methods := #[k1m0, k1m1]
  instanceTypes := #[]
  staticTypes := #[]
  resolved := Array.replicate 41 none
  statics := none }

def pool2 : Array CpInfo := pool [(2, .class_ 4), (1, u "com/example/fewbits/fewbits/BitReader"), (0, u "<init>"), (0, u "([BII)V"), (0, .methodref 8 9), (0, .class_ 10), (0, .nameAndType 5 11), (0, u "java/lang/Object"), (0, u "()V"), (0, .methodref 13 14), (0, .class_ 15), (0, .nameAndType 16 17), (0, u "java/util/Objects"), (0, u "checkFromIndexSize"), (0, u "(III)I"), (0, .fieldref 2 19), (0, .nameAndType 20 21), (0, u "m_aData"), (0, u "[B"), (2, .long 8), (1, .fieldref 2 27), (0, .nameAndType 28 29), (0, u "m_nPosition"), (0, u "J"), (0, .fieldref 2 31), (0, .nameAndType 32 29), (0, u "m_nEnd"), (7, .long 7), (1, .methodref 43 44), (0, .class_ 45), (0, .nameAndType 46 47), (0, u "com/example/fewbits/fewbits/BitWriter"), (0, u "checkBitCount"), (0, u "(I)V"), (4, .methodref 53 54), (0, .class_ 55), (0, .nameAndType 56 57), (0, u "java/lang/Math"), (0, u "min"), (0, u "(II)I"), (7, u "readBits"), (0, u "(I)I"), (0, u "getBitsLeft"), (0, u "()J"), (0, u "onlyPaddingLeft"), (0, u "()Z")] 17

def k2c0 : Code := { maxStack := 5, maxLocals := 4, code := prog_2_method_2_code, exceptionTable := #[], attributes := #[] }
def k2m0 : Method := { name := "<init>", desc := "([BII)V", sig := { parameters := [(.array .byte), .int, .int], returnType := none }, accessFlags := 1, code := some k2c0 }
def k2c1 : Code := { maxStack := 7, maxLocals := 7, code := prog_2_method_4_code, exceptionTable := #[], attributes := #[] }
def k2m1 : Method := { name := "readBits", desc := "(I)I", sig := { parameters := [.int], returnType := some .int }, accessFlags := 1, code := some k2c1 }
def k2c2 : Code := { maxStack := 4, maxLocals := 1, code := prog_2_method_5_code, exceptionTable := #[], attributes := #[] }
def k2m2 : Method := { name := "getBitsLeft", desc := "()J", sig := { parameters := [], returnType := some .long }, accessFlags := 1, code := some k2c2 }
def k2c3 : Code := { maxStack := 6, maxLocals := 3, code := prog_2_method_6_code, exceptionTable := #[], attributes := #[] }
def k2m3 : Method := { name := "onlyPaddingLeft", desc := "()Z", sig := { parameters := [], returnType := some .boolean }, accessFlags := 1, code := some k2c3 }
/-- com/example/fewbits/fewbits/BitReader -/
def k2 : Class := { plain "com/example/fewbits/fewbits/BitReader" (some 0) with
  accessFlags := 49
  interfaces := #[]
  cf := some (fileOf pool2 2 #[] #[{ accessFlags := 1, nameIndex := 5, descriptorIndex := 6, attributes := #[] }, { accessFlags := 1, nameIndex := 65, descriptorIndex := 66, attributes := #[] }, { accessFlags := 1, nameIndex := 67, descriptorIndex := 68, attributes := #[] }, { accessFlags := 1, nameIndex := 69, descriptorIndex := 70, attributes := #[] }] 49 8 #[] #[{ accessFlags := 18, nameIndex := 20, descriptorIndex := 21, attributes := #[] }, { accessFlags := 18, nameIndex := 32, descriptorIndex := 29, attributes := #[] }, { accessFlags := 2, nameIndex := 28, descriptorIndex := 29, attributes := #[] }])
  fields := #[{ name := "m_aData", type := (.array .byte), accessFlags := 18, slot := 0, constantValue := 0 }, { name := "m_nEnd", type := .long, accessFlags := 18, slot := 1, constantValue := 0 }, { name := "m_nPosition", type := .long, accessFlags := 2, slot := 2, constantValue := 0 }]
  methods := #[k2m0, k2m1, k2m2, k2m3]
  instanceTypes := #[(.array .byte), .long, .long]
  staticTypes := #[]
  resolved := Array.replicate 88 none
  statics := none }

def pool3 : Array CpInfo := pool [(2, .class_ 4), (1, u "java/lang/Object"), (0, u "<init>"), (0, u "()V"), (35, .class_ 44), (1, u "java/util/Objects"), (61, .class_ 108), (1, u "jdk/internal/util/Preconditions"), (5, u "(IIILjava/util/function/BiFunction;)I"), (0, .methodref 106 116), (0, .nameAndType 117 114), (0, u "checkFromIndexSize"), (57, u "(III)I")] 8

def k3m0 : Method := { name := "<init>", desc := "()V", sig := { parameters := [], returnType := none }, accessFlags := 2, code := none }
def k3c1 : Code := { maxStack := 4, maxLocals := 3, code := jdk_31_method_19_code, exceptionTable := #[], attributes := #[] }
def k3m1 : Method := { name := "checkFromIndexSize", desc := "(III)I", sig := { parameters := [.int, .int, .int], returnType := some .int }, accessFlags := 9, code := some k3c1 }
/-- java/util/Objects -/
def k3 : Class := { plain "java/util/Objects" (some 0) with
  accessFlags := 49
  interfaces := #[]
  cf := some (fileOf pool3 42 #[] #[{ accessFlags := 2, nameIndex := 5, descriptorIndex := 6, attributes := #[] }, { accessFlags := 9, nameIndex := 117, descriptorIndex := 175, attributes := #[] }] 49 2 #[] #[])
  fields := #[]
  methods := #[k3m0, k3m1]
  instanceTypes := #[]
  staticTypes := #[]
  resolved := Array.replicate 184 none
  statics := none }

def pool4 : Array CpInfo := pool [(2, .class_ 4), (1, u "java/lang/Object"), (0, u "<init>"), (0, u "()V"), (17, .class_ 26), (1, u "jdk/internal/util/Preconditions"), (22, u "checkFromIndexSize"), (5, .class_ 56), (0, u "jdk/internal/util/Preconditions$4"), (57, .class_ 115), (0, u "jdk/internal/util/Preconditions$1"), (7, u "SIOOBE_FORMATTER"), (0, u "Ljava/util/function/BiFunction;"), (0, .class_ 126), (0, u "jdk/internal/util/Preconditions$2"), (3, u "AIOOBE_FORMATTER"), (0, .class_ 132), (0, u "jdk/internal/util/Preconditions$3"), (3, u "IOOBE_FORMATTER"), (46, u "(IIILjava/util/function/BiFunction;)I")] 10

def k4m0 : Method := { name := "<init>", desc := "()V", sig := { parameters := [], returnType := none }, accessFlags := 1, code := none }
def k4c1 : Code := { maxStack := 4, maxLocals := 4, code := jdk_41_method_13_code, exceptionTable := #[], attributes := #[] }
def k4m1 : Method := { name := "checkFromIndexSize", desc := "(IIILjava/util/function/BiFunction;)I", sig := { parameters := [.int, .int, .int, (.object "java/util/function/BiFunction")], returnType := some .int }, accessFlags := 9, code := some k4c1 }
/-- jdk/internal/util/Preconditions -/
def k4 : Class := { plain "jdk/internal/util/Preconditions" (some 0) with
  accessFlags := 33
  interfaces := #[]
  cf := some (fileOf pool4 24 #[.nestMembers #[55, 131, 125, 114]] #[{ accessFlags := 1, nameIndex := 5, descriptorIndex := 6, attributes := #[] }, { accessFlags := 9, nameIndex := 49, descriptorIndex := 183, attributes := #[] }] 33 2 #[] #[{ accessFlags := 25, nameIndex := 123, descriptorIndex := 124, attributes := #[] }, { accessFlags := 25, nameIndex := 130, descriptorIndex := 124, attributes := #[] }, { accessFlags := 25, nameIndex := 136, descriptorIndex := 124, attributes := #[] }])
  fields := #[{ name := "SIOOBE_FORMATTER", type := (.object "java/util/function/BiFunction"), accessFlags := 25, slot := 0, constantValue := 0 }, { name := "AIOOBE_FORMATTER", type := (.object "java/util/function/BiFunction"), accessFlags := 25, slot := 1, constantValue := 0 }, { name := "IOOBE_FORMATTER", type := (.object "java/util/function/BiFunction"), accessFlags := 25, slot := 2, constantValue := 0 }]
  methods := #[k4m0, k4m1]
  instanceTypes := #[]
  staticTypes := #[(.object "java/util/function/BiFunction"), (.object "java/util/function/BiFunction"), (.object "java/util/function/BiFunction")]
  resolved := Array.replicate 194 none
  statics := none }

def pool5 : Array CpInfo := pool [(1, .class_ 2), (0, u "com/example/fewbits/fewbits/BitWriter"), (2, u "<init>"), (0, u "(I)V"), (1, .class_ 10), (1, u "java/lang/Object"), (0, u "()V"), (11, u "m_aBytes"), (0, u "[B"), (3, u "m_nPending"), (0, u "I"), (2, u "m_nPendingBits"), (13, u "m_nSize"), (10, u "checkBitCount"), (17, u "DEFAULT_CAPACITY"), (2, u "GROWTH"), (0, u "Ljava/lang/String;")] 32

def k5m0 : Method := { name := "<init>", desc := "()V", sig := { parameters := [], returnType := none }, accessFlags := 1, code := none }
def k5c1 : Code := { maxStack := 3, maxLocals := 1, code := prog_4_method_8_code, exceptionTable := #[], attributes := #[] }
def k5m1 : Method := { name := "checkBitCount", desc := "(I)V", sig := { parameters := [.int], returnType := none }, accessFlags := 8, code := some k5c1 }
/-- com/example/fewbits/fewbits/BitWriter -/
def k5 : Class := { plain "com/example/fewbits/fewbits/BitWriter" (some 0) with
  accessFlags := 49
  interfaces := #[]
  cf := some (fileOf pool5 1 #[] #[{ accessFlags := 1, nameIndex := 5, descriptorIndex := 11, attributes := #[] }, { accessFlags := 8, nameIndex := 57, descriptorIndex := 6, attributes := #[] }] 49 8 #[] #[{ accessFlags := 26, nameIndex := 75, descriptorIndex := 29, attributes := #[] }, { accessFlags := 26, nameIndex := 78, descriptorIndex := 79, attributes := #[] }, { accessFlags := 2, nameIndex := 23, descriptorIndex := 24, attributes := #[] }, { accessFlags := 2, nameIndex := 46, descriptorIndex := 29, attributes := #[] }, { accessFlags := 2, nameIndex := 28, descriptorIndex := 29, attributes := #[] }, { accessFlags := 2, nameIndex := 32, descriptorIndex := 29, attributes := #[] }])
  fields := #[{ name := "DEFAULT_CAPACITY", type := .int, accessFlags := 26, slot := 0, constantValue := 0 }, { name := "GROWTH", type := (.object "java/lang/String"), accessFlags := 26, slot := 1, constantValue := 0 }, { name := "m_aBytes", type := (.array .byte), accessFlags := 2, slot := 0, constantValue := 0 }, { name := "m_nSize", type := .int, accessFlags := 2, slot := 1, constantValue := 0 }, { name := "m_nPending", type := .int, accessFlags := 2, slot := 2, constantValue := 0 }, { name := "m_nPendingBits", type := .int, accessFlags := 2, slot := 3, constantValue := 0 }]
  methods := #[k5m0, k5m1]
  instanceTypes := #[(.array .byte), .int, .int, .int]
  staticTypes := #[.int, (.object "java/lang/String")]
  resolved := Array.replicate 112 none
  statics := none }

def pool6 : Array CpInfo := pool [(1, .class_ 2), (0, u "java/lang/Math"), (1, .class_ 6), (1, u "java/lang/Object"), (0, u "<init>"), (0, u "()V"), (89, .class_ 100), (1, u "java/lang/Math$RandomNumberGeneratorHolder"), (71, u "negativeZeroFloatBits"), (0, u "J"), (2, u "negativeZeroDoubleBits"), (24, u "min"), (43, u "$assertionsDisabled"), (0, u "Z"), (88, u "(II)I"), (2, u "twoToTheDoubleScaleDown"), (0, u "D"), (4, u "twoToTheDoubleScaleUp"), (9, u "E"), (3, u "PI"), (2, u "TAU"), (2, u "DEGREES_TO_RADIANS"), (0, u "RADIANS_TO_DEGREES")] 94

def k6m0 : Method := { name := "<init>", desc := "()V", sig := { parameters := [], returnType := none }, accessFlags := 2, code := none }
def k6c1 : Code := { maxStack := 2, maxLocals := 2, code := jdk_29_method_69_code, exceptionTable := #[], attributes := #[] }
def k6m1 : Method := { name := "min", desc := "(II)I", sig := { parameters := [.int, .int], returnType := some .int }, accessFlags := 9, code := some k6c1 }
/-- java/lang/Math -/
def k6 : Class := { plain "java/lang/Math" (some 0) with
  accessFlags := 49
  interfaces := #[]
  cf := some (fileOf pool6 1 #[.nestMembers #[98]] #[{ accessFlags := 2, nameIndex := 7, descriptorIndex := 8, attributes := #[] }, { accessFlags := 9, nameIndex := 201, descriptorIndex := 335, attributes := #[] }] 49 4 #[] #[{ accessFlags := 25, nameIndex := 354, descriptorIndex := 339, attributes := #[] }, { accessFlags := 25, nameIndex := 358, descriptorIndex := 339, attributes := #[] }, { accessFlags := 25, nameIndex := 361, descriptorIndex := 339, attributes := #[] }, { accessFlags := 26, nameIndex := 364, descriptorIndex := 339, attributes := #[] }, { accessFlags := 26, nameIndex := 365, descriptorIndex := 339, attributes := #[] }, { accessFlags := 26, nameIndex := 172, descriptorIndex := 173, attributes := #[] }, { accessFlags := 26, nameIndex := 176, descriptorIndex := 173, attributes := #[] }, { accessFlags := 8, nameIndex := 344, descriptorIndex := 339, attributes := #[] }, { accessFlags := 8, nameIndex := 338, descriptorIndex := 339, attributes := #[] }, { accessFlags := 4120, nameIndex := 245, descriptorIndex := 246, attributes := #[] }])
  fields := #[{ name := "E", type := .double, accessFlags := 25, slot := 0, constantValue := 0 }, { name := "PI", type := .double, accessFlags := 25, slot := 1, constantValue := 0 }, { name := "TAU", type := .double, accessFlags := 25, slot := 2, constantValue := 0 }, { name := "DEGREES_TO_RADIANS", type := .double, accessFlags := 26, slot := 3, constantValue := 0 }, { name := "RADIANS_TO_DEGREES", type := .double, accessFlags := 26, slot := 4, constantValue := 0 }, { name := "negativeZeroFloatBits", type := .long, accessFlags := 26, slot := 5, constantValue := 0 }, { name := "negativeZeroDoubleBits", type := .long, accessFlags := 26, slot := 6, constantValue := 0 }, { name := "twoToTheDoubleScaleUp", type := .double, accessFlags := 8, slot := 7, constantValue := 0 }, { name := "twoToTheDoubleScaleDown", type := .double, accessFlags := 8, slot := 8, constantValue := 0 }, { name := "$assertionsDisabled", type := .boolean, accessFlags := 4120, slot := 9, constantValue := 0 }]
  methods := #[k6m0, k6m1]
  instanceTypes := #[]
  staticTypes := #[.double, .double, .double, .double, .double, .long, .long, .double, .double, .boolean]
  resolved := Array.replicate 460 none
  statics := none }

def pool7 : Array CpInfo := pool [(1, u "java/lang/Cloneable"), (0, .class_ 1), (0, u "java/lang/Object"), (0, .class_ 3)] 3

/-- java/lang/Cloneable -/
def k7 : Class := { plain "java/lang/Cloneable" (some 0) with
  accessFlags := 1537
  interfaces := #[]
  cf := some (fileOf pool7 2 #[] #[] 1537 4 #[] #[])
  fields := #[]
  methods := #[]
  instanceTypes := #[]
  staticTypes := #[]
  resolved := Array.replicate 8 none
  statics := none }

def pool8 : Array CpInfo := pool [(1, u "java/io/Serializable"), (0, .class_ 1), (0, u "java/lang/Object"), (0, .class_ 3)] 3

/-- java/io/Serializable -/
def k8 : Class := { plain "java/io/Serializable" (some 0) with
  accessFlags := 1537
  interfaces := #[]
  cf := some (fileOf pool8 2 #[] #[] 1537 4 #[] #[])
  fields := #[]
  methods := #[]
  instanceTypes := #[]
  staticTypes := #[]
  resolved := Array.replicate 8 none
  statics := none }

/-- the primitive byte -/
def k9 : Class := { plain "byte" none with kind := .primitive 'B', accessFlags := 0x411 }
/-- [B -/
def k10 : Class := { plain "[B" (some 0) with kind := .array 9 .byte, interfaces := #[7, 8], accessFlags := 1041 }

/-- the primitive int -/
def k11 : Class := { plain "int" none with kind := .primitive 'I', accessFlags := 0x411 }
/-- [I -/
def k12 : Class := { plain "[I" (some 0) with kind := .array 11 .int, interfaces := #[7, 8], accessFlags := 1041 }

def heap : Heap := #[]
def classes : Array Class := #[k0, k1, k2, k3, k4, k5, k6, k7, k8, k9, k10, k11, k12]
def interned : List (Array UInt16 × Addr) := []
def slotsUsed : Nat := 0
def theMethod : MethodId := ⟨1, 1⟩
def args0 : Array Value := #[.int 5, .int 3, .int 7, .int 1]
def aboutOver (below : List Frame) : State where
  vm := { classes := classes, interned := interned.toArray }
  heap := heap
  slotsUsed := slotsUsed
  threads := #[{ frames := .invoking theMethod args0 :: below }]
def below0 : List Frame := [.native { method := ⟨0, 0⟩, args := #[] }]
def about1 : State := aboutOver below0
def p0 : Program := .bare "" "" ""
def e0 : Env := launch0.env 0 0 0
theorem w_frames : about1.frames = Frame.invoking theMethod args0 :: below0 := rfl
set_option maxRecDepth 65536 in
theorem w_args : argsFit about1.vm theMethod args0 = true := by decide +kernel
set_option maxRecDepth 65536 in
theorem w_heap : heapFits about1 = true := by decide +kernel
set_option maxRecDepth 65536 in
theorem w_runnable : about1.curStatus? = some .runnable := by decide +kernel
set_option maxRecDepth 65536 in
theorem w_alone : about1.alone = true := by decide +kernel
set_option maxRecDepth 65536 in
theorem w_named : about1.methodNamed? x = some theMethod := by decide +kernel
set_option maxRecDepth 65536 in
theorem w_hears : about1.hears theMethod below0 = true := by decide +kernel
set_option maxRecDepth 65536 in
theorem w_ripe : about1.ripe theMethod args0 below0 = true := by decide +kernel
theorem w_running : about1.status = .running := rfl
set_option maxRecDepth 65536 in
theorem w_room : about1.hasRoom e0.platform room_1 = true :=
  launch0.hasRoom_least _ room_1 (by decide +kernel) (by decide +kernel) (by decide +kernel) (by decide +kernel) (by decide +kernel) (by decide +kernel)
theorem allAtoms_all (ts : List Jvm.Cond) (a : Array Jvm.Value) (st : Jvm.State) : (allAtoms ts).before a st = ts.all (fun c => c.before a st) := by
  induction ts with
  | nil => rfl
  | cons c t ih =>
    show (Jvm.Cond.and c (allAtoms t)).before a st = _
    rw [Jvm.Cond.before_and, ih, List.all_cons]
def words1 : List Jvm.Cond := Jvm.Cond.code x code maxLocals ret :: tables_1
/-- a 'code' word, met by the world's own term for the bytes: nothing is compared byte by byte -/
theorem code_word {y : MethodName} {bytes : ByteArray} {mx : Nat} {rt : Option FieldType} {a : Array Value} {s : State} {m : MethodId} {meth : Method} {c : Code} (h1 : s.methodNamed? y = some m) (h2 : s.vm.method? m = some meth) (h3 : meth.code = some c) (h4 : c.code = bytes)
    (h5 : (c.maxLocals == mx && c.exceptionTable.isEmpty && decide (c.maxStack ≤ mostOperands) && decide (meth.sig.returnType = rt) && !meth.locks && decide (parseMethodDescriptor y.desc = some meth.sig)) = true) : (Jvm.Cond.code y bytes mx rt).before a s = true := by
  simp only [Bool.and_eq_true, beq_iff_eq, Bool.not_eq_true', decide_eq_true_eq] at h5
  obtain ⟨⟨⟨⟨⟨g1, g2⟩, g3⟩, g4⟩, g5⟩, g6⟩ := h5
  simp [Cond.before, Cond.holds, Cond.value, h1, h2, h3, h4, g1, g2, g3, g4, g5, g6]
def isCode : Jvm.Cond → Bool
  | .code _ _ _ _ => true
  | _ => false
theorem all_split {L : List Jvm.Cond} {P : Jvm.Cond → Bool} (h1 : L.all (fun c => isCode c || P c) = true) (h2 : ∀ c ∈ L.filter isCode, P c = true) : L.all P = true := by
  refine List.all_eq_true.mpr fun c hc => ?_
  have h := List.all_eq_true.mp h1 c hc
  rcases Bool.eq_false_or_eq_true (isCode c) with hi | hi
  · exact h2 c (List.mem_filter.mpr ⟨hc, hi⟩)
  · simpa [hi] using h
set_option maxRecDepth 65536 in
theorem w_c0 : (Jvm.Cond.code x code maxLocals ret).before args0 about1 = true := code_word (m := ⟨1, 1⟩) (meth := k1m1) (c := k1c1) (by decide +kernel) rfl rfl rfl (by decide +kernel)
set_option maxRecDepth 65536 in
theorem w_c1 : (Jvm.Cond.code ({ cls := "com/example/fewbits/fewbits/BitReader", name := "<init>", desc := "([BII)V" } : Jvm.MethodName) prog_2_method_2_code (4 : Nat) (Option.none : Option Jvm.ClassFile.FieldType)).before args0 about1 = true := code_word (m := ⟨2, 0⟩) (meth := k2m0) (c := k2c0) (by decide +kernel) rfl rfl rfl (by decide +kernel)
set_option maxRecDepth 65536 in
theorem w_c2 : (Jvm.Cond.code ({ cls := "java/lang/Object", name := "<init>", desc := "()V" } : Jvm.MethodName) object_method_1_code (1 : Nat) (Option.none : Option Jvm.ClassFile.FieldType)).before args0 about1 = true := code_word (m := ⟨0, 0⟩) (meth := k0m0) (c := k0c0) (by decide +kernel) rfl rfl rfl (by decide +kernel)
set_option maxRecDepth 65536 in
theorem w_c3 : (Jvm.Cond.code ({ cls := "java/util/Objects", name := "checkFromIndexSize", desc := "(III)I" } : Jvm.MethodName) jdk_31_method_19_code (3 : Nat) (Option.some Jvm.ClassFile.FieldType.int)).before args0 about1 = true := code_word (m := ⟨3, 1⟩) (meth := k3m1) (c := k3c1) (by decide +kernel) rfl rfl rfl (by decide +kernel)
set_option maxRecDepth 65536 in
theorem w_c4 : (Jvm.Cond.code ({ cls := "jdk/internal/util/Preconditions", name := "checkFromIndexSize", desc := "(IIILjava/util/function/BiFunction;)I" } : Jvm.MethodName) jdk_41_method_13_code (4 : Nat) (Option.some Jvm.ClassFile.FieldType.int)).before args0 about1 = true := code_word (m := ⟨4, 1⟩) (meth := k4m1) (c := k4c1) (by decide +kernel) rfl rfl rfl (by decide +kernel)
set_option maxRecDepth 65536 in
theorem w_c5 : (Jvm.Cond.code ({ cls := "com/example/fewbits/fewbits/BitReader", name := "readBits", desc := "(I)I" } : Jvm.MethodName) prog_2_method_4_code (7 : Nat) (Option.some Jvm.ClassFile.FieldType.int)).before args0 about1 = true := code_word (m := ⟨2, 1⟩) (meth := k2m1) (c := k2c1) (by decide +kernel) rfl rfl rfl (by decide +kernel)
set_option maxRecDepth 65536 in
theorem w_c6 : (Jvm.Cond.code ({ cls := "com/example/fewbits/fewbits/BitWriter", name := "checkBitCount", desc := "(I)V" } : Jvm.MethodName) prog_4_method_8_code (1 : Nat) (Option.none : Option Jvm.ClassFile.FieldType)).before args0 about1 = true := code_word (m := ⟨5, 1⟩) (meth := k5m1) (c := k5c1) (by decide +kernel) rfl rfl rfl (by decide +kernel)
set_option maxRecDepth 65536 in
theorem w_c7 : (Jvm.Cond.code ({ cls := "com/example/fewbits/fewbits/BitReader", name := "getBitsLeft", desc := "()J" } : Jvm.MethodName) prog_2_method_5_code (1 : Nat) (Option.some Jvm.ClassFile.FieldType.long)).before args0 about1 = true := code_word (m := ⟨2, 2⟩) (meth := k2m2) (c := k2c2) (by decide +kernel) rfl rfl rfl (by decide +kernel)
set_option maxRecDepth 65536 in
theorem w_c8 : (Jvm.Cond.code ({ cls := "com/example/fewbits/fewbits/BitReader", name := "onlyPaddingLeft", desc := "()Z" } : Jvm.MethodName) prog_2_method_6_code (3 : Nat) (Option.some Jvm.ClassFile.FieldType.boolean)).before args0 about1 = true := code_word (m := ⟨2, 3⟩) (meth := k2m3) (c := k2c3) (by decide +kernel) rfl rfl rfl (by decide +kernel)
set_option maxRecDepth 65536 in
theorem w_c9 : (Jvm.Cond.code ({ cls := "java/lang/Math", name := "min", desc := "(II)I" } : Jvm.MethodName) jdk_29_method_69_code (2 : Nat) (Option.some Jvm.ClassFile.FieldType.int)).before args0 about1 = true := code_word (m := ⟨6, 1⟩) (meth := k6m1) (c := k6c1) (by decide +kernel) rfl rfl rfl (by decide +kernel)
def codes1 : List Jvm.Cond := [Jvm.Cond.code x code maxLocals ret, Jvm.Cond.code ({ cls := "com/example/fewbits/fewbits/BitReader", name := "<init>", desc := "([BII)V" } : Jvm.MethodName) prog_2_method_2_code (4 : Nat) (Option.none : Option Jvm.ClassFile.FieldType), Jvm.Cond.code ({ cls := "java/lang/Object", name := "<init>", desc := "()V" } : Jvm.MethodName) object_method_1_code (1 : Nat) (Option.none : Option Jvm.ClassFile.FieldType), Jvm.Cond.code ({ cls := "java/util/Objects", name := "checkFromIndexSize", desc := "(III)I" } : Jvm.MethodName) jdk_31_method_19_code (3 : Nat) (Option.some Jvm.ClassFile.FieldType.int), Jvm.Cond.code ({ cls := "jdk/internal/util/Preconditions", name := "checkFromIndexSize", desc := "(IIILjava/util/function/BiFunction;)I" } : Jvm.MethodName) jdk_41_method_13_code (4 : Nat) (Option.some Jvm.ClassFile.FieldType.int), Jvm.Cond.code ({ cls := "com/example/fewbits/fewbits/BitReader", name := "readBits", desc := "(I)I" } : Jvm.MethodName) prog_2_method_4_code (7 : Nat) (Option.some Jvm.ClassFile.FieldType.int), Jvm.Cond.code ({ cls := "com/example/fewbits/fewbits/BitWriter", name := "checkBitCount", desc := "(I)V" } : Jvm.MethodName) prog_4_method_8_code (1 : Nat) (Option.none : Option Jvm.ClassFile.FieldType), Jvm.Cond.code ({ cls := "com/example/fewbits/fewbits/BitReader", name := "getBitsLeft", desc := "()J" } : Jvm.MethodName) prog_2_method_5_code (1 : Nat) (Option.some Jvm.ClassFile.FieldType.long), Jvm.Cond.code ({ cls := "com/example/fewbits/fewbits/BitReader", name := "onlyPaddingLeft", desc := "()Z" } : Jvm.MethodName) prog_2_method_6_code (3 : Nat) (Option.some Jvm.ClassFile.FieldType.boolean), Jvm.Cond.code ({ cls := "java/lang/Math", name := "min", desc := "(II)I" } : Jvm.MethodName) jdk_29_method_69_code (2 : Nat) (Option.some Jvm.ClassFile.FieldType.int)]
set_option maxRecDepth 65536 in
theorem codes_eq : words1.filter isCode = codes1 := rfl
theorem w_codes : ∀ c ∈ words1.filter isCode, c.before args0 about1 = true := by
  rw [codes_eq]
  intro c hc
  simp only [codes1, List.mem_cons, List.not_mem_nil, or_false] at hc
  rcases hc with rfl | rfl | rfl | rfl | rfl | rfl | rfl | rfl | rfl | rfl
  · exact w_c0
  · exact w_c1
  · exact w_c2
  · exact w_c3
  · exact w_c4
  · exact w_c5
  · exact w_c6
  · exact w_c7
  · exact w_c8
  · exact w_c9
set_option maxRecDepth 65536 in
theorem w_t1 : (words1.take 24).all (fun c => isCode c || c.before args0 about1) = true := by decide +kernel
set_option maxRecDepth 65536 in
theorem w_t2 : ((words1.drop 24).take 24).all (fun c => isCode c || c.before args0 about1) = true := by decide +kernel
set_option maxRecDepth 65536 in
theorem w_t3 : ((words1.drop 24).drop 24).all (fun c => isCode c || c.before args0 about1) = true := by decide +kernel
theorem w_tables : (allAtoms (Jvm.Cond.code x code maxLocals ret :: tables_1)).before args0 about1 = true := by
  rw [allAtoms_all]
  show words1.all (fun c => c.before args0 about1) = true
  refine all_split ?_ w_codes
  rw [← List.take_append_drop 24 words1, List.all_append, w_t1, ← List.take_append_drop 24 (words1.drop 24), List.all_append, w_t2, w_t3]
  rfl
set_option maxRecDepth 65536 in
theorem w_case : (Jvm.Cond.and given_1 narrow_1).before args0 about1 = true := by decide +kernel
theorem w_applies : (headSpec (Jvm.Cond.code x code maxLocals ret :: tables_1) room_1).applies x e0.platform about1 = true :=
  (Spec.applies_iff w_frames).mpr ⟨w_running, w_runnable, w_alone, w_named, w_hears, w_ripe, w_room, w_tables⟩
theorem atStart : AtStart classFile x code maxLocals ret World_1 tables_1 room_1 Calls_1 rest_1 Pre_1 launch0 p0 e0 about1 theMethod args0 below0 :=
  ⟨lists_1, trivial, launch0.admits_env _ _ _, launch0.least_env, fairChoices_fair.cas, fairChoices_fair.clock, w_frames, w_args, w_heap, w_applies, trivial, trivial, w_case⟩
end start1
theorem witness_1 : WitnessClaimed_1 := ⟨start1.p0, start1.e0, start1.about1, start1.theMethod, start1.args0, start1.below0, start1.atStart⟩
end Jvm.Pilot.@@N@@
