import JvmDerived
import JvmDerived.Pilot.@@N@@Statement
import JvmDerived.Pilot.@@N@@Code
set_option linter.unusedVariables false
set_option linter.unusedSimpArgs false
namespace Jvm.Pilot.@@N@@
open Jvm Jvm.ClassFile Sem Op Lib Jvm.Free Jvm.Stand Jvm.LawKit Jvm.RoadKit Bundle Jvm.Pilot.@@N@@.Jvm.D
/-! OWN LAYER (the same text in every claim): arrays by a function, and their steps -/
section OwnLayer
variable {p : Program} {l : Launch} {e : Env} {R : Room} {s : State} {m : MethodId} {args : Array Value} {below : List Frame} {meth : Method} {c : Code} {T : State} {locs : List Loc} {cells slots : Nat} {Z : State} {a0 : Array Value} {h h' : Heap} {a b : Addr} {ty : FieldType} {N : Int32} {target : State}
theorem own_retI (X : Stand p l e R s m args below meth c T locs cells slots) (hx : p.tables.exec = Jvm.exec) {pc : Nat} {Ls : Array Slot} {z : Int32} {rest : List Value} (hret : meth.sig.returnType = some .int) (hd : decode c.code pc = .ok (.ireturn, 1)) {fs : List Frame}
    (hl : ∀ (f : JFrame) (acts : List Action), f.method = m → f.locked = none → f.entered = [] → (doReturn e (T.setTop f) acts (some (.int z))).1 = T.setFrames fs) : Steps p.tables e below (T.setTop (mkF m pc Ls (.int z :: rest))) (T.setFrames fs) :=
  retOut X hx hret rfl (Or.inl ⟨rfl, Or.inl rfl, z, rfl⟩) hd hl
theorem own_retJ (X : Stand p l e R s m args below meth c T locs cells slots) (hx : p.tables.exec = Jvm.exec) {pc : Nat} {Ls : Array Slot} {z : Int64} {rest : List Value} (hret : meth.sig.returnType = some .long) (hd : decode c.code pc = .ok (.lreturn, 1)) {fs : List Frame}
    (hl : ∀ (f : JFrame) (acts : List Action), f.method = m → f.locked = none → f.entered = [] → (doReturn e (T.setTop f) acts (some (.long z))).1 = T.setFrames fs) : Steps p.tables e below (T.setTop (mkF m pc Ls (.long z :: rest))) (T.setFrames fs) :=
  retOut X hx hret rfl (Or.inr (Or.inl ⟨rfl, rfl, z, rfl⟩)) hd hl
/-- the written places by a name -/
theorem own_gen {n0 : Nat} (X : Stand p l e R s m args below meth c T locs cells slots) (N : Fr n0 locs) : ∃ L, Stand p l e R s m args below meth c T L cells slots ∧ Fr n0 L := ⟨_, X, N⟩
/-- f with v at the place i -/
def own_up {α : Type} (f : Nat → α) (i : Nat) (v : α) : Nat → α := fun j => if j = i then v else f j
theorem own_up_at {α : Type} (f : Nat → α) (i : Nat) (v : α) : own_up f i v i = v := if_pos rfl
theorem own_up_ne {α : Type} (f : Nat → α) {i j : Nat} (v : α) (q : j ≠ i) : own_up f i v j = f j := if_neg q
/-- an array of N places whose place j holds the int f j -/
def own_AI (Z : State) (h : Heap) (a : Addr) (ty : FieldType) (N : Int32) (f : Nat → Int32) : Prop := ∃ c : Cell, Arr Z h a c ty ∧ c.slots.size = N.toNatClampNeg ∧ ¬ N < 0 ∧ ∀ j, j < N.toNatClampNeg → c.slots[j]? = some (.int (f j))
/-- an array of N places whose place j holds the long f j -/
def own_AJ (Z : State) (h : Heap) (a : Addr) (N : Int32) (f : Nat → Int64) : Prop := ∃ c : Cell, Arr Z h a c .long ∧ c.slots.size = N.toNatClampNeg ∧ ¬ N < 0 ∧ ∀ j, j < N.toNatClampNeg → c.slots[j]? = some (.long (f j))
variable {f : Nat → Int32} {fJ : Nat → Int64}
theorem own_AI.lt (A : own_AI Z h a ty N f) : a < h.size := by obtain ⟨c, A, -⟩ := A; exact A.lt
theorem own_AJ.lt (A : own_AJ Z h a N fJ) : a < h.size := by obtain ⟨c, A, -⟩ := A; exact A.lt
theorem own_AI.ext (A : own_AI Z h a ty N f) (E : Ext h h') : own_AI Z h' a ty N f := by obtain ⟨c, A, r⟩ := A; exact ⟨c, A.ext E, r⟩
theorem own_AJ.ext (A : own_AJ Z h a N fJ) (E : Ext h h') : own_AJ Z h' a N fJ := by obtain ⟨c, A, r⟩ := A; exact ⟨c, A.ext E, r⟩
theorem own_AI.other {sl : Nat} {v : Value} (A : own_AI Z h a ty N f) (W : Wr h h' b sl v) (q : a ≠ b) : own_AI Z h' a ty N f := by obtain ⟨c, A, r⟩ := A; exact ⟨c, A.other W q, r⟩
theorem own_AJ.other {sl : Nat} {v : Value} (A : own_AJ Z h a N fJ) (W : Wr h h' b sl v) (q : a ≠ b) : own_AJ Z h' a N fJ := by obtain ⟨c, A, r⟩ := A; exact ⟨c, A.other W q, r⟩
theorem own_AI.keep {ws : List Addr} (A : own_AI Z h a ty N f) (K : Keep h h' ws) (q : a ∉ ws) : own_AI Z h' a ty N f := by obtain ⟨c, A, r⟩ := A; exact ⟨c, ⟨K.2.1 a c A.1 q, A.2⟩, r⟩
theorem own_AJ.keep {ws : List Addr} (A : own_AJ Z h a N fJ) (K : Keep h h' ws) (q : a ∉ ws) : own_AJ Z h' a N fJ := by obtain ⟨c, A, r⟩ := A; exact ⟨c, ⟨K.2.1 a c A.1 q, A.2⟩, r⟩
theorem own_slots (c : Cell) (i j : Nat) (v : Value) (hj : j < c.slots.size) : (c.setSlot i v).slots[j]? = if j = i then some v else c.slots[j]? := by
  show (c.slots.setIfInBounds i v)[j]? = _
  rw [Array.getElem?_setIfInBounds]
  by_cases q : i = j
  · subst q; simp [hj]
  · simp [q, Ne.symm q]
theorem own_AI.set {i : Nat} {v : Int32} (A : own_AI Z h a ty N f) (W : Wr h h' a i (.int v)) : own_AI Z h' a ty N (own_up f i v) := by
  obtain ⟨c, A, S, M, H⟩ := A
  refine ⟨_, A.same W, by rw [sz_set, S], M, fun j hj => ?_⟩
  rw [own_slots c i j _ (by rw [S]; exact hj)]
  by_cases q : j = i
  · rw [if_pos q, q, own_up_at]
  · rw [if_neg q, own_up_ne _ _ q, H j hj]
theorem own_AJ.set {i : Nat} {v : Int64} (A : own_AJ Z h a N fJ) (W : Wr h h' a i (.long v)) : own_AJ Z h' a N (own_up fJ i v) := by
  obtain ⟨c, A, S, M, H⟩ := A
  refine ⟨_, A.same W, by rw [sz_set, S], M, fun j hj => ?_⟩
  rw [own_slots c i j _ (by rw [S]; exact hj)]
  by_cases q : j = i
  · rw [if_pos q, q, own_up_at]
  · rw [if_neg q, own_up_ne _ _ q, H j hj]
theorem own_AI.fresh {k : ClassId} (A : Arr Z h a (newA k ty N) ty) (hd : defaultValue ty = .int 0) (M : ¬ N < 0) : own_AI Z h a ty N (fun _ => 0) := by
  refine ⟨_, A, sz_new _ _ _, M, fun j hj => ?_⟩
  show (Array.replicate N.toNatClampNeg (defaultValue ty))[j]? = _
  rw [Array.getElem?_replicate, if_pos hj, hd]
theorem own_AJ.fresh {k : ClassId} (A : Arr Z h a (newA k .long N) .long) (M : ¬ N < 0) : own_AJ Z h a N (fun _ => 0) := by
  refine ⟨_, A, sz_new _ _ _, M, fun j hj => ?_⟩
  show (Array.replicate N.toNatClampNeg (defaultValue .long))[j]? = _
  rw [Array.getElem?_replicate, if_pos hj]; rfl
theorem own_AI.congr {f' : Nat → Int32} (A : own_AI Z h a ty N f) (q : ∀ j, j < N.toNatClampNeg → f j = f' j) : own_AI Z h a ty N f' := by
  obtain ⟨c, A, S, M, H⟩ := A
  exact ⟨c, A, S, M, fun j hj => by rw [H j hj, q j hj]⟩
theorem own_AJ.congr {f' : Nat → Int64} (A : own_AJ Z h a N fJ) (q : ∀ j, j < N.toNatClampNeg → fJ j = f' j) : own_AJ Z h a N f' := by
  obtain ⟨c, A, S, M, H⟩ := A
  exact ⟨c, A, S, M, fun j hj => by rw [H j hj, q j hj]⟩
theorem own_lt_nat {j : Int32} (q : ¬ j < 0 ∧ j < N) : j.toNatClampNeg < N.toNatClampNeg := by
  have h1 := nat_of q.1
  have h2 : ¬ N < 0 := by
    intro u; have := q.1; have := q.2
    rw [Int32.lt_iff_toInt_lt] at *; omega
  have h3 := nat_of h2
  have := q.2
  rw [Int32.lt_iff_toInt_lt] at this
  omega
/-- a place in the array, by its number -/
theorem own_ix {j : Int32} (h0 : 0 ≤ j.toInt) (h1 : j.toInt < N.toInt) : ¬ j < 0 ∧ j < N := by
  rw [Int32.lt_iff_toInt_lt, Int32.lt_iff_toInt_lt]
  exact ⟨by show ¬ j.toInt < 0; omega, h1⟩
theorem own_len (X : Stand p l e R s m args below meth c T locs cells slots) (hx : p.tables.exec = Jvm.exec) (hZ : Z.Warmed39 s.vm) (eT : T.heap = h) (A : own_AI Z h a ty N f) {g : JFrame} (hg : g.method = m) {rest : List Value} (hs : g.stack = .ref a :: rest) (hd : decode c.code g.pc = .ok (.arraylength, 1))
    (hr : Steps p.tables e below (T.setTop { g with pc := g.pc + 1, stack := .int N :: rest }) target) : Steps p.tables e below (T.setTop g) target := by
  obtain ⟨cl, A, S, M, -⟩ := A
  refine X.arraylength hx (cell := cl) (by rw [eT]; exact A.1) (State.isArrayOf_alike hZ.alike A.2.1) hg hs hd _ ?_
  rw [len_of S M]; exact hr
theorem own_lenJ (X : Stand p l e R s m args below meth c T locs cells slots) (hx : p.tables.exec = Jvm.exec) (hZ : Z.Warmed39 s.vm) (eT : T.heap = h) (A : own_AJ Z h a N fJ) {g : JFrame} (hg : g.method = m) {rest : List Value} (hs : g.stack = .ref a :: rest) (hd : decode c.code g.pc = .ok (.arraylength, 1))
    (hr : Steps p.tables e below (T.setTop { g with pc := g.pc + 1, stack := .int N :: rest }) target) : Steps p.tables e below (T.setTop g) target := by
  obtain ⟨cl, A, S, M, -⟩ := A
  refine X.arraylength hx (cell := cl) (by rw [eT]; exact A.1) (State.isArrayOf_alike hZ.alike A.2.1) hg hs hd _ ?_
  rw [len_of S M]; exact hr
theorem own_ldI (X : Stand p l e R s m args below meth c T locs cells slots) (hx : p.tables.exec = Jvm.exec) (hZ : Z.Warmed39 s.vm) (eT : T.heap = h) (A : own_AI Z h a .int N f) {j : Int32} (q : ¬ j < 0 ∧ j < N) {g : JFrame} (hg : g.method = m) {rest : List Value} (hs : g.stack = .int j :: .ref a :: rest) (hd : decode c.code g.pc = .ok (.iaload, 1))
    (hr : Steps p.tables e below (T.setTop { g with pc := g.pc + 1, stack := .int (f j.toNatClampNeg) :: rest }) target) : Steps p.tables e below (T.setTop g) target := by
  obtain ⟨cl, A, S, M, H⟩ := A
  exact X.iaload hx (j := j) (by rw [eT]; exact A.1) (State.isArrayOf_alike hZ.alike A.2.1) A.2.2 (inb_of S q) (H _ (own_lt_nat q)) hg hs hd _ hr
theorem own_ldB (X : Stand p l e R s m args below meth c T locs cells slots) (hx : p.tables.exec = Jvm.exec) (hZ : Z.Warmed39 s.vm) (eT : T.heap = h) (A : own_AI Z h a .byte N f) {j : Int32} (q : ¬ j < 0 ∧ j < N) {g : JFrame} (hg : g.method = m) {rest : List Value} (hs : g.stack = .int j :: .ref a :: rest) (hd : decode c.code g.pc = .ok (.baload, 1))
    (hr : Steps p.tables e below (T.setTop { g with pc := g.pc + 1, stack := .int (f j.toNatClampNeg) :: rest }) target) : Steps p.tables e below (T.setTop g) target := by
  obtain ⟨cl, A, S, M, H⟩ := A
  exact X.baloadBytes hx (j := j) (by rw [eT]; exact A.1) (State.isArrayOf_alike hZ.alike A.2.1) A.2.2 (inb_of S q) (H _ (own_lt_nat q)) hg hs hd _ hr
theorem own_ldJ (X : Stand p l e R s m args below meth c T locs cells slots) (hx : p.tables.exec = Jvm.exec) (hZ : Z.Warmed39 s.vm) (eT : T.heap = h) (A : own_AJ Z h a N fJ) {j : Int32} (q : ¬ j < 0 ∧ j < N) {g : JFrame} (hg : g.method = m) {rest : List Value} (hs : g.stack = .int j :: .ref a :: rest) (hd : decode c.code g.pc = .ok (.laload, 1))
    (hr : Steps p.tables e below (T.setTop { g with pc := g.pc + 1, stack := .long (fJ j.toNatClampNeg) :: rest }) target) : Steps p.tables e below (T.setTop g) target := by
  obtain ⟨cl, A, S, M, H⟩ := A
  exact X.laload hx (j := j) (by rw [eT]; exact A.1) (State.isArrayOf_alike hZ.alike A.2.1) A.2.2 (inb_of S q) (H _ (own_lt_nat q)) hg hs hd _ hr
theorem own_stI (X : Stand p l e R s m args below meth c T locs cells slots) (hx : p.tables.exec = Jvm.exec) (hZ : Z.Warmed39 s.vm) (eT : T.heap = h) (A : own_AI Z h a .int N f) {j x : Int32} (q : ¬ j < 0 ∧ j < N) {g : JFrame} (hg : g.method = m) {rest : List Value} (hs : g.stack = .int x :: .int j :: .ref a :: rest) (hd : decode c.code g.pc = .ok (.iastore, 1)) :
    ∃ T' h', Stand p l e R s m args below meth c T' (locs ++ [⟨a, j.toNatClampNeg⟩]) cells slots ∧ T'.heap = h' ∧ Wr h h' a j.toNatClampNeg (.int x) ∧ own_AI Z h' a .int N (own_up f j.toNatClampNeg x) ∧ ∀ target, Steps p.tables e below (T'.setTop { g with pc := g.pc + 1, stack := rest }) target → Steps p.tables e below (T.setTop g) target := by
  have A' := A
  obtain ⟨cl, A, S, M, H⟩ := A
  obtain ⟨T', h', X', e', W', st⟩ := stI X hx hZ eT A (j := j) (inb_of S q) hg hs hd
  exact ⟨T', h', X', e', W', A'.set W', st⟩
theorem own_stB (X : Stand p l e R s m args below meth c T locs cells slots) (hx : p.tables.exec = Jvm.exec) (hZ : Z.Warmed39 s.vm) (eT : T.heap = h) (A : own_AI Z h a .byte N f) {j x : Int32} (q : ¬ j < 0 ∧ j < N) {g : JFrame} (hg : g.method = m) {rest : List Value} (hs : g.stack = .int x :: .int j :: .ref a :: rest) (hd : decode c.code g.pc = .ok (.bastore, 1)) :
    ∃ T' h', Stand p l e R s m args below meth c T' (locs ++ [⟨a, j.toNatClampNeg⟩]) cells slots ∧ T'.heap = h' ∧ Wr h h' a j.toNatClampNeg (.int x.toInt8.toInt32) ∧ own_AI Z h' a .byte N (own_up f j.toNatClampNeg x.toInt8.toInt32) ∧ ∀ target, Steps p.tables e below (T'.setTop { g with pc := g.pc + 1, stack := rest }) target → Steps p.tables e below (T.setTop g) target := by
  have A' := A
  obtain ⟨cl, A, S, M, H⟩ := A
  obtain ⟨T', h', X', e', W', st⟩ := stB X hx hZ eT A (j := j) (inb_of S q) hg hs hd
  exact ⟨T', h', X', e', W', A'.set W', st⟩
theorem own_stJ (X : Stand p l e R s m args below meth c T locs cells slots) (hx : p.tables.exec = Jvm.exec) (hZ : Z.Warmed39 s.vm) (eT : T.heap = h) (A : own_AJ Z h a N fJ) {j : Int32} {x : Int64} (q : ¬ j < 0 ∧ j < N) {g : JFrame} (hg : g.method = m) {rest : List Value} (hs : g.stack = .long x :: .int j :: .ref a :: rest) (hd : decode c.code g.pc = .ok (.lastore, 1)) :
    ∃ T' h', Stand p l e R s m args below meth c T' (locs ++ [⟨a, j.toNatClampNeg⟩]) cells slots ∧ T'.heap = h' ∧ Wr h h' a j.toNatClampNeg (.long x) ∧ own_AJ Z h' a N (own_up fJ j.toNatClampNeg x) ∧ ∀ target, Steps p.tables e below (T'.setTop { g with pc := g.pc + 1, stack := rest }) target → Steps p.tables e below (T.setTop g) target := by
  have A' := A
  obtain ⟨cl, A, S, M, H⟩ := A
  obtain ⟨T', h', X', e', W', st⟩ := stJ X hx hZ eT A (j := j) (inb_of S q) hg hs hd
  exact ⟨T', h', X', e', W', A'.set W', st⟩
theorem own_newI (X : Stand p l e R s m args below meth c T locs cells slots) (hx : p.tables.exec = Jvm.exec) (hZ : Z.Warmed39 s.vm) {aty : ArrayType} (w : (Cond.arrayClass (newarray.typeOf aty)).before a0 Z = true) (hdv : defaultValue (newarray.typeOf aty) = .int 0) (eT : T.heap = h) {g : JFrame} (hg : g.method = m) (hd : decode c.code g.pc = .ok (.newarray aty, 2)) {n : Int32} {rest : List Value} (hs : g.stack = .int n :: rest)
    (hn : ¬ n < 0) {cap : Nat} (hcap : n.toNatClampNeg ≤ cap) (hb : cap * 8 ≤ 536870912) (hc : cells + 1 ≤ R.cells) (hl : slots + cap ≤ R.slots) :
    ∃ T' h', Stand p l e R s m args below meth c T' locs (cells + 1) (slots + cap) ∧ T'.heap = h' ∧ Ext h h' ∧ own_AI Z h' h.size (newarray.typeOf aty) n (fun _ => 0) ∧ ∀ target, Steps p.tables e below (T'.setTop { g with pc := g.pc + 2, stack := .ref h.size :: rest }) target → Steps p.tables e below (T.setTop g) target := by
  obtain ⟨T', h', k, X', e', E', A', st⟩ := newP X hx hZ w eT hg hd hs hn hcap hb hc hl
  exact ⟨T', h', X', e', E', own_AI.fresh A' hdv hn, st⟩
theorem own_newJ (X : Stand p l e R s m args below meth c T locs cells slots) (hx : p.tables.exec = Jvm.exec) (hZ : Z.Warmed39 s.vm) (w : (Cond.arrayClass .long).before a0 Z = true) (eT : T.heap = h) {g : JFrame} (hg : g.method = m) (hd : decode c.code g.pc = .ok (.newarray .long, 2)) {n : Int32} {rest : List Value} (hs : g.stack = .int n :: rest)
    (hn : ¬ n < 0) {cap : Nat} (hcap : n.toNatClampNeg ≤ cap) (hb : cap * 8 ≤ 536870912) (hc : cells + 1 ≤ R.cells) (hl : slots + cap ≤ R.slots) :
    ∃ T' h', Stand p l e R s m args below meth c T' locs (cells + 1) (slots + cap) ∧ T'.heap = h' ∧ Ext h h' ∧ own_AJ Z h' h.size n (fun _ => 0) ∧ ∀ target, Steps p.tables e below (T'.setTop { g with pc := g.pc + 2, stack := .ref h.size :: rest }) target → Steps p.tables e below (T.setTop g) target := by
  obtain ⟨T', h', k, X', e', E', A', st⟩ := newP (aty := .long) X hx hZ w eT hg hd hs hn hcap hb hc hl
  exact ⟨T', h', X', e', E', own_AJ.fresh A' hn, st⟩
theorem own_ne_obj {C : String} {k : Nat} (F : Exa Z h a C) (wi : (Cond.instantiable C k).before a0 Z = true) (A : own_AI Z h b ty N f) : a ≠ b := by obtain ⟨c, A, -⟩ := A; exact ne_arr F wi A
theorem own_ne_objJ {C : String} {k : Nat} (F : Exa Z h a C) (wi : (Cond.instantiable C k).before a0 Z = true) (A : own_AJ Z h b N fJ) : a ≠ b := by obtain ⟨c, A, -⟩ := A; exact ne_arr F wi A
theorem own_selp {s : State} {b0 args : Array Value} {y : MethodName} {n : Nat} (wi : (Cond.instantiable y.cls n).before b0 s = true) (hp : s.PrivateAt y) (hi : (Cond.instanceMethod y).before b0 s = true) (hy : y.cls ≠ "java/lang/invoke/MethodHandle" ∧ y.cls ≠ "java/lang/invoke/VarHandle") : (Cond.selects y.cls y y).before args s = true := by
  obtain ⟨c, k, hc, hk, -, hab, -, -⟩ := Cond.instantiable_spec wi
  have hni : k.isInterface = false := by
    cases q : k.isInterface with
    | false => rfl
    | true => rw [q] at hab; simp at hab
  have r := selects_self_of_private (args := b0) hc hk hni hp hi hy
  exact r
end OwnLayer
/-! OWN LAYER: machine numbers as integers -/
section OwnNums
variable {x y : Int32} {u v : Int64} {a b : Int}
theorem own_i_add (hx : x.toInt = a) (hy : y.toInt = b) (h : -2147483648 ≤ a + b ∧ a + b < 2147483648) : (x + y).toInt = a + b := by
  rw [Jvm.Free.XT.add32 (by rw [hx, hy]; exact h), hx, hy]
theorem own_i_sub (hx : x.toInt = a) (hy : y.toInt = b) (h : -2147483648 ≤ a - b ∧ a - b < 2147483648) : (x - y).toInt = a - b := by
  rw [Jvm.Free.XT.sub32 (by rw [hx, hy]; exact h), hx, hy]
theorem own_i_mul (hx : x.toInt = a) (hy : y.toInt = b) (h : -2147483648 ≤ a * b ∧ a * b < 2147483648) : (x * y).toInt = a * b := by
  rw [Jvm.Free.XT.mul32 (by rw [hx, hy]; exact h), hx, hy]
theorem own_i_div (hx : x.toInt = a) (hy : y.toInt = b) (h : 0 ≤ a ∧ 0 < b) : (x / y).toInt = a / b := by
  rw [(c_idiv x y b hy (fun q => by rw [q] at hy; have : (-1 : Int32).toInt = -1 := rfl; omega)).1 (by omega), hx]
theorem own_i_mod (hx : x.toInt = a) (hy : y.toInt = b) (h : 0 ≤ a ∧ 0 < b) : (x % y).toInt = a % b := by
  rw [(c_irem x y b hy).1 (by omega), hx]
theorem own_l_add (hu : u.toInt = a) (hv : v.toInt = b) (h : -9223372036854775808 ≤ a + b ∧ a + b < 9223372036854775808) : (u + v).toInt = a + b := by
  rw [Jvm.Free.XT.add64 (by rw [hu, hv]; exact h), hu, hv]
theorem own_l_sub (hu : u.toInt = a) (hv : v.toInt = b) (h : -9223372036854775808 ≤ a - b ∧ a - b < 9223372036854775808) : (u - v).toInt = a - b := by
  rw [Jvm.Free.XT.sub64 (by rw [hu, hv]; exact h), hu, hv]
theorem own_l_mul (hu : u.toInt = a) (hv : v.toInt = b) (h : -9223372036854775808 ≤ a * b ∧ a * b < 9223372036854775808) : (u * v).toInt = a * b := by
  rw [Jvm.Free.XT.mul64 (by rw [hu, hv]; exact h), hu, hv]
theorem own_l_div (hu : u.toInt = a) (hv : v.toInt = b) (h : 0 ≤ a ∧ 0 < b) : (u / v).toInt = a / b := by
  rw [(c_ldiv u v b hv (fun q => by rw [q] at hv; have : (-1 : Int64).toInt = -1 := rfl; omega)).1 (by omega), hu]
theorem own_l_divN (hu : u.toInt = a) (hv : v.toInt = b) (h : a < 0 ∧ 0 < b) : (u / v).toInt = -((-a) / b) := by
  rw [(c_ldiv u v b hv (fun q => by rw [q] at hv; have : (-1 : Int64).toInt = -1 := rfl; omega)).2 (by omega), hu]
theorem own_i2l (hx : x.toInt = a) : (x.toInt64).toInt = a := by rw [c_i2l, hx]
theorem own_l2i (hu : u.toInt = a) (h : -2147483648 ≤ a ∧ a < 2147483648) : (u.toInt32).toInt = a := by
  have h1 := c_l2i u; have h2 := rng32 u.toInt32; omega
theorem own_i_mask (m : Int32) (k : Nat) (hk : k ≤ 31) (hm : m.toBitVec.toNat = 2 ^ k - 1) (hx : x.toInt = a) : (x &&& m).toInt = a % (2 ^ k : Nat) := by rw [c_mask x m k hk hm, hx]
theorem own_i_lt (hx : x.toInt = a) (hy : y.toInt = b) : x < y ↔ a < b := by rw [Int32.lt_iff_toInt_lt, hx, hy]
theorem own_l_lt (hu : u.toInt = a) (hv : v.toInt = b) : u < v ↔ a < b := by rw [Int64.lt_iff_toInt_lt, hu, hv]
theorem own_i_eq (hx : x.toInt = a) (hy : y.toInt = b) : x = y ↔ a = b := by rw [← Int32.toInt_inj, hx, hy]
theorem own_l_eq (hu : u.toInt = a) (hv : v.toInt = b) : u = v ↔ a = b := by rw [← Int64.toInt_inj, hu, hv]
theorem own_i_nat (hx : x.toInt = a) (h : 0 ≤ a) : x.toNatClampNeg = a.toNat := by show x.toInt.toNat = a.toNat; rw [hx]
theorem own_i_of (h : x.toInt = y.toInt) : x = y := Int32.toInt_inj.mp h
theorem own_l_of (h : u.toInt = v.toInt) : u = v := Int64.toInt_inj.mp h
end OwnNums
theorem d4_0 : decode jdk_41_method_11_code 0 = .ok (.iload_n 0, 1) := by decide +kernel
theorem d4_1 : decode jdk_41_method_11_code 1 = .ok (.ifCond .lt 8, 3) := by decide +kernel
theorem d4_4 : decode jdk_41_method_11_code 4 = .ok (.iload_n 0, 1) := by decide +kernel
theorem d4_5 : decode jdk_41_method_11_code 5 = .ok (.iload_n 1, 1) := by decide +kernel
theorem d4_6 : decode jdk_41_method_11_code 6 = .ok (.if_icmp .lt 10, 3) := by decide +kernel
theorem d4_9 : decode jdk_41_method_11_code 9 = .ok (.aload_n 2, 1) := by decide +kernel
theorem d4_10 : decode jdk_41_method_11_code 10 = .ok (.iload_n 0, 1) := by decide +kernel
theorem d4_11 : decode jdk_41_method_11_code 11 = .ok (.iload_n 1, 1) := by decide +kernel
theorem d4_12 : decode jdk_41_method_11_code 12 = .ok (.invokestatic 95, 3) := by decide +kernel
theorem d4_15 : decode jdk_41_method_11_code 15 = .ok (.athrow, 1) := by decide +kernel
theorem d4_16 : decode jdk_41_method_11_code 16 = .ok (.iload_n 0, 1) := by decide +kernel
theorem d4_17 : decode jdk_41_method_11_code 17 = .ok (.ireturn, 1) := by decide +kernel
theorem pn_4 : plainName "jdk/internal/util/Preconditions" = true := by first | (simp [plainName, overriddenIn]; done) | decide +kernel
theorem ef_4 (m : MethodId) (x0 : Int32) (x1 : Int32) : entryFrame m #[(.int x0), (.int x1), .null] 3 = mkF m 0 #[.val (.int x0), .val (.int x1), .val .null] [] := by first | (simp [entryFrame, mkF, argsToLocals, Value.category]; done) | rfl
def Q1 (Z : State) (p0 : Int32) (p1 : Int32) (h0 : Heap) (n0 : Nat) (v : Option Value) (h : Heap) (L : List Loc) : Prop := v = some (.int p0) ∧ Fr n0 L ∧ h = h0
set_option maxRecDepth 65536 in
set_option maxHeartbeats 40000000 in
theorem rm1 (l : Launch) (Z : State) (a0 : Array Value) (hw : ∀ d ∈ tables_1, d.before a0 Z = true) (ws : List Jvm.Cond) (p0 : Int32) (p1 : Int32) (h0 : Heap) (n0 : Nat) (Z0 : n0 ≤ h0.size) (hq1 : ¬ p0 < (0 : Int32)) (hq2 : p0 < p1) :
    MetFree l (⟨"jdk/internal/util/Preconditions", "checkIndex", "(IILjava/util/function/BiFunction;)I"⟩ : MethodName) (head1 (Jvm.Cond.code (⟨"jdk/internal/util/Preconditions", "checkIndex", "(IILjava/util/function/BiFunction;)I"⟩ : MethodName) jdk_41_method_11_code 3 (some .int) :: ws) ({ frames := 0, cells := 0, slots := 0, locals := 0 } : Room)) (fun a_ U_ => a_ = #[(.int p0), (.int p1), .null] ∧ Z.Warmed39 U_.vm ∧ U_.heap = h0) (fun _ _ _ _ _ => True) (fun _ U_ o_ U' => ∃ v_ L_, o_ = .returned v_ ∧ (Q1 Z p0 p1 h0 n0 v_ U'.heap L_) ∧ FrameEnd U_ o_ U' L_ ({ frames := 0, cells := 0, slots := 0, locals := 0 } : Room).cells ({ frames := 0, cells := 0, slots := 0, locals := 0 } : Room).slots) := by
  refine MetFree.of_bodySF (plainFor_of_name pn_4) hisR ?_
  intro p e s m args below meth c s₁ Bd hml0 hP hK
  obtain ⟨rfl, hZ, hh⟩ := hP
  have hx := Bd.exec
  have hby := Bd.bytes
  have hml : c.maxLocals = 3 := hml0
  have hown : s.vm.findClass "jdk/internal/util/Preconditions" = some m.cls := findClass_of_methodNamed Bd.named
  have hnm := (name_of_methodNamed Bd.named Bd.method).1
  have X0 : Stand p l e ({ frames := 0, cells := 0, slots := 0, locals := 0 } : Room) s m #[(.int p0), (.int p1), .null] below meth c s₁ [] 0 0 := Stand.of_body Bd
  have e0 : s₁.heap = h0 := by rw [← hh, Bd.state]; rfl
  have N0 := Fr.nil n0
  have pre0 : ∀ t, Steps p.tables e below (s₁.setTop (mkF m 0 #[.val (.int p0), .val (.int p1), .val .null] [])) t → Steps p.tables e below (s₁.setTop (entryFrame m #[(.int p0), (.int p1), .null] 3)) t := fun t k => castTop (ef_4 m p0 p1) k
  obtain ⟨fs, hr, hrun, hended, hW, hsame⟩ := X0.leave (v := some (.int p0)) (fun h => by rw [Bd.returns] at h; cases h)
  refine ⟨_, _, pre0 _ ?_, hrun, hended, _, _, rfl, ⟨rfl, N0, e0⟩, ⟨_, rfl⟩, hW, hsame.mono (by decide) (by decide)⟩
  show Steps p.tables e below (s₁.setTop (mkF m 0 #[.val (.int p0), .val (.int p1), .val .null] [])) _
  refine XS.iloadN X0.here hx rfl (hb hby d4_0) rfl ?_
  show Steps p.tables e below (s₁.setTop (mkF m 1 #[.val (.int p0), .val (.int p1), .val .null] [(.int p0)])) _
  refine XS.ifNo X0.here hx rfl (hb hby d4_1) rfl ((if0 _ _).trans (flt hq1).1) ?_
  show Steps p.tables e below (s₁.setTop (mkF m 4 #[.val (.int p0), .val (.int p1), .val .null] [])) _
  refine XS.iloadN X0.here hx rfl (hb hby d4_4) rfl ?_
  show Steps p.tables e below (s₁.setTop (mkF m 5 #[.val (.int p0), .val (.int p1), .val .null] [(.int p0)])) _
  refine XS.iloadN X0.here hx rfl (hb hby d4_5) rfl ?_
  show Steps p.tables e below (s₁.setTop (mkF m 6 #[.val (.int p0), .val (.int p1), .val .null] [(.int p1), (.int p0)])) _
  refine XS.icmpYes X0.here hx rfl (pc0 := 6) (pc' := 16) rfl (hb hby d4_6) rfl (tlt hq2).1 (by decide) (by decide) ?_
  show Steps p.tables e below (s₁.setTop (mkF m 16 #[.val (.int p0), .val (.int p1), .val .null] [])) _
  refine XS.iloadN X0.here hx rfl (hb hby d4_16) rfl ?_
  show Steps p.tables e below (s₁.setTop (mkF m 17 #[.val (.int p0), .val (.int p1), .val .null] [(.int p0)])) _
  exact own_retI X0 hx Bd.returns (hb hby d4_17) hr
theorem d3_0 : decode jdk_31_method_17_code 0 = .ok (.iload_n 0, 1) := by decide +kernel
theorem d3_1 : decode jdk_31_method_17_code 1 = .ok (.iload_n 1, 1) := by decide +kernel
theorem d3_2 : decode jdk_31_method_17_code 2 = .ok (.aconst_null, 1) := by decide +kernel
theorem d3_3 : decode jdk_31_method_17_code 3 = .ok (.invokestatic 105, 3) := by decide +kernel
theorem d3_6 : decode jdk_31_method_17_code 6 = .ok (.ireturn, 1) := by decide +kernel
theorem pn_3 : plainName "java/util/Objects" = true := by first | (simp [plainName, overriddenIn]; done) | decide +kernel
theorem ef_3 (m : MethodId) (x0 : Int32) (x1 : Int32) : entryFrame m #[(.int x0), (.int x1)] 2 = mkF m 0 #[.val (.int x0), .val (.int x1)] [] := by first | (simp [entryFrame, mkF, argsToLocals, Value.category]; done) | rfl
theorem pd_0 : parseMethodDescriptor "(IILjava/util/function/BiFunction;)I" = some ⟨[.int, .int, (.object "java/util/function/BiFunction")], some .int⟩ := by decide +kernel
def Q2 (Z : State) (p0 : Int32) (p1 : Int32) (h0 : Heap) (n0 : Nat) (v : Option Value) (h : Heap) (L : List Loc) : Prop := v = some (.int p0) ∧ Fr n0 L ∧ h = h0
set_option maxRecDepth 65536 in
set_option maxHeartbeats 40000000 in
theorem rm2 (l : Launch) (Z : State) (a0 : Array Value) (hw : ∀ d ∈ tables_1, d.before a0 Z = true) (ws : List Jvm.Cond) (p0 : Int32) (p1 : Int32) (h0 : Heap) (n0 : Nat) (Z0 : n0 ≤ h0.size) (hq1 : ¬ p0 < (0 : Int32)) (hq2 : p0 < p1) :
    MetFree l (⟨"java/util/Objects", "checkIndex", "(II)I"⟩ : MethodName) (head1 (Jvm.Cond.code (⟨"java/util/Objects", "checkIndex", "(II)I"⟩ : MethodName) jdk_31_method_17_code 2 (some .int) :: ws) ({ frames := 1, cells := 0, slots := 0, locals := 14 } : Room)) (fun a_ U_ => a_ = #[(.int p0), (.int p1)] ∧ Z.Warmed39 U_.vm ∧ U_.heap = h0) (fun _ _ _ _ _ => True) (fun _ U_ o_ U' => ∃ v_ L_, o_ = .returned v_ ∧ (Q2 Z p0 p1 h0 n0 v_ U'.heap L_) ∧ FrameEnd U_ o_ U' L_ ({ frames := 1, cells := 0, slots := 0, locals := 14 } : Room).cells ({ frames := 1, cells := 0, slots := 0, locals := 14 } : Room).slots) := by
  refine MetFree.of_bodySF (plainFor_of_name pn_3) hisR ?_
  intro p e s m args below meth c s₁ Bd hml0 hP hK
  obtain ⟨rfl, hZ, hh⟩ := hP
  have hx := Bd.exec
  have hby := Bd.bytes
  have hml : c.maxLocals = 2 := hml0
  have hown : s.vm.findClass "java/util/Objects" = some m.cls := findClass_of_methodNamed Bd.named
  have hnm := (name_of_methodNamed Bd.named Bd.method).1
  have X0 : Stand p l e ({ frames := 1, cells := 0, slots := 0, locals := 14 } : Room) s m #[(.int p0), (.int p1)] below meth c s₁ [] 0 0 := Stand.of_body Bd
  have e0 : s₁.heap = h0 := by rw [← hh, Bd.state]; rfl
  have N0 := Fr.nil n0
  have pre0 : ∀ t, Steps p.tables e below (s₁.setTop (mkF m 0 #[.val (.int p0), .val (.int p1)] [])) t → Steps p.tables e below (s₁.setTop (entryFrame m #[(.int p0), (.int p1)] 2)) t := fun t k => castTop (ef_3 m p0 p1) k
  obtain ⟨_, _, ⟨T1, L1, k1, n1⟩, -, X1, ⟨Lc1, hQ1, l1, y1, z1⟩, st1⟩ := Jvm.LawKit.callS X0 hx (y := (⟨"jdk/internal/util/Preconditions", "checkIndex", "(IILjava/util/function/BiFunction;)I"⟩ : MethodName)) hown (mvT hZ (hw _ (List.mem_of_getElem? (i := 15) rfl))) (mvT hZ (hw _ (List.mem_of_getElem? (i := 16) rfl))) (mvT hZ (hw _ (List.mem_of_getElem? (i := 17) rfl))) (mvT hZ (hw _ (List.mem_of_getElem? (i := 18) rfl))) (by decide) (backOf (W := 0) (rm1 l Z a0 hw [] p0 p1  h0 n0 Z0 hq1 hq2) hZ (hw _ (List.mem_of_getElem? (i := 18) rfl)) (hw _ (List.mem_of_getElem? (i := 17) rfl)) (by decide) (by decide)) (g := (mkF m 3 #[.val (.int p0), .val (.int p1)] [.null, (.int p1), (.int p0)])) rfl (by rw [hml]; rfl) (argsL := [(.int p0), (.int p1), .null]) (rest := []) (lenOf pd_0 rfl) rfl (by show 2 * 0 + _ ≤ _; exact Nat.le_of_eq rfl) (hb hby d3_3) (fun _ _ => ⟨rfl, e0, (by decide : 0 + 0 ≤ _), (by decide : 0 + 0 ≤ _)⟩)
  dsimp only [Pt.U, Pt.locs, Pt.cells, Pt.slots] at X1 l1 y1 z1 st1 hQ1
  subst l1 y1 z1
  obtain ⟨rfl, Nq1, e1⟩ := hQ1
  have N1 := Fr.app N0 Nq1
  obtain ⟨fs, hr, hrun, hended, hW, hsame⟩ := X1.leave (v := some (.int p0)) (fun h => by rw [Bd.returns] at h; cases h)
  refine ⟨_, _, pre0 _ ?_, hrun, hended, _, _, rfl, ⟨rfl, N1, e1⟩, ⟨_, rfl⟩, hW, hsame.mono (by decide) (by decide)⟩
  show Steps p.tables e below (s₁.setTop (mkF m 0 #[.val (.int p0), .val (.int p1)] [])) _
  refine XS.iloadN X0.here hx rfl (hb hby d3_0) rfl ?_
  show Steps p.tables e below (s₁.setTop (mkF m 1 #[.val (.int p0), .val (.int p1)] [(.int p0)])) _
  refine XS.iloadN X0.here hx rfl (hb hby d3_1) rfl ?_
  show Steps p.tables e below (s₁.setTop (mkF m 2 #[.val (.int p0), .val (.int p1)] [(.int p1), (.int p0)])) _
  refine XS.aconstNull X0.here hx rfl (hb hby d3_2) ?_
  show Steps p.tables e below (s₁.setTop (mkF m 3 #[.val (.int p0), .val (.int p1)] [.null, (.int p1), (.int p0)])) _
  refine st1 _ ?_
  show Steps p.tables e below (T1.setTop (mkF m 6 #[.val (.int p0), .val (.int p1)] [(.int p0)])) _
  exact own_retI X1 hx Bd.returns (hb hby d3_6) hr
def own_Db (Z : State) (h : Heap) (a : Addr) (v0 v1 v2 v3 : Value) : Prop := Exa Z h a "com/example/fewbits/fewbits/deflate/DeflateBitReader" ∧ Fld Z h a "com/example/fewbits/fewbits/deflate/DeflateBitReader" "m_aData" "[B" v0 ∧ Fld Z h a "com/example/fewbits/fewbits/deflate/DeflateBitReader" "m_nNext" "I" v1 ∧ Fld Z h a "com/example/fewbits/fewbits/deflate/DeflateBitReader" "m_nBuffer" "J" v2 ∧ Fld Z h a "com/example/fewbits/fewbits/deflate/DeflateBitReader" "m_nBufferBits" "I" v3
theorem own_Db_set_m_aData {Z : State} {a0 : Array Value} (hw : ∀ d ∈ tables_1, d.before a0 Z = true) {h h' : Heap} {a : Addr} {v0 v1 v2 v3 w : Value} (O : own_Db Z h a v0 v1 v2 v3) (W : Wr h h' a (Jvm.RoadKit.slotOf Z "com/example/fewbits/fewbits/deflate/DeflateBitReader" "m_aData" "[B") w) : own_Db Z h' a w v1 v2 v3 := ⟨O.1.wr W, O.2.1.same W, O.2.2.1.other W (Or.inr (slot_ne (Or.inl (hw _ (List.mem_of_getElem? (i := 22) rfl))) (Or.inr (hw _ (List.mem_of_getElem? (i := 20) rfl))) (by decide) (t := .int) (t' := (.array .byte)) (by decide) (by decide))), O.2.2.2.1.other W (Or.inr (slot_ne (Or.inl (hw _ (List.mem_of_getElem? (i := 40) rfl))) (Or.inr (hw _ (List.mem_of_getElem? (i := 20) rfl))) (by decide) (t := .long) (t' := (.array .byte)) (by decide) (by decide))), O.2.2.2.2.other W (Or.inr (slot_ne (Or.inl (hw _ (List.mem_of_getElem? (i := 34) rfl))) (Or.inr (hw _ (List.mem_of_getElem? (i := 20) rfl))) (by decide) (t := .int) (t' := (.array .byte)) (by decide) (by decide)))⟩
theorem own_Db_set_m_nNext {Z : State} {a0 : Array Value} (hw : ∀ d ∈ tables_1, d.before a0 Z = true) {h h' : Heap} {a : Addr} {v0 v1 v2 v3 w : Value} (O : own_Db Z h a v0 v1 v2 v3) (W : Wr h h' a (Jvm.RoadKit.slotOf Z "com/example/fewbits/fewbits/deflate/DeflateBitReader" "m_nNext" "I") w) : own_Db Z h' a v0 w v2 v3 := ⟨O.1.wr W, O.2.1.other W (Or.inr (slot_ne (Or.inr (hw _ (List.mem_of_getElem? (i := 20) rfl))) (Or.inl (hw _ (List.mem_of_getElem? (i := 22) rfl))) (by decide) (t := (.array .byte)) (t' := .int) (by decide) (by decide))), O.2.2.1.same W, O.2.2.2.1.other W (Or.inr (slot_ne (Or.inl (hw _ (List.mem_of_getElem? (i := 40) rfl))) (Or.inl (hw _ (List.mem_of_getElem? (i := 22) rfl))) (by decide) (t := .long) (t' := .int) (by decide) (by decide))), O.2.2.2.2.other W (Or.inr (slot_ne (Or.inl (hw _ (List.mem_of_getElem? (i := 34) rfl))) (Or.inl (hw _ (List.mem_of_getElem? (i := 22) rfl))) (by decide) (t := .int) (t' := .int) (by decide) (by decide)))⟩
theorem own_Db_set_m_nBuffer {Z : State} {a0 : Array Value} (hw : ∀ d ∈ tables_1, d.before a0 Z = true) {h h' : Heap} {a : Addr} {v0 v1 v2 v3 w : Value} (O : own_Db Z h a v0 v1 v2 v3) (W : Wr h h' a (Jvm.RoadKit.slotOf Z "com/example/fewbits/fewbits/deflate/DeflateBitReader" "m_nBuffer" "J") w) : own_Db Z h' a v0 v1 w v3 := ⟨O.1.wr W, O.2.1.other W (Or.inr (slot_ne (Or.inr (hw _ (List.mem_of_getElem? (i := 20) rfl))) (Or.inl (hw _ (List.mem_of_getElem? (i := 40) rfl))) (by decide) (t := (.array .byte)) (t' := .long) (by decide) (by decide))), O.2.2.1.other W (Or.inr (slot_ne (Or.inl (hw _ (List.mem_of_getElem? (i := 22) rfl))) (Or.inl (hw _ (List.mem_of_getElem? (i := 40) rfl))) (by decide) (t := .int) (t' := .long) (by decide) (by decide))), O.2.2.2.1.same W, O.2.2.2.2.other W (Or.inr (slot_ne (Or.inl (hw _ (List.mem_of_getElem? (i := 34) rfl))) (Or.inl (hw _ (List.mem_of_getElem? (i := 40) rfl))) (by decide) (t := .int) (t' := .long) (by decide) (by decide)))⟩
theorem own_Db_set_m_nBufferBits {Z : State} {a0 : Array Value} (hw : ∀ d ∈ tables_1, d.before a0 Z = true) {h h' : Heap} {a : Addr} {v0 v1 v2 v3 w : Value} (O : own_Db Z h a v0 v1 v2 v3) (W : Wr h h' a (Jvm.RoadKit.slotOf Z "com/example/fewbits/fewbits/deflate/DeflateBitReader" "m_nBufferBits" "I") w) : own_Db Z h' a v0 v1 v2 w := ⟨O.1.wr W, O.2.1.other W (Or.inr (slot_ne (Or.inr (hw _ (List.mem_of_getElem? (i := 20) rfl))) (Or.inl (hw _ (List.mem_of_getElem? (i := 34) rfl))) (by decide) (t := (.array .byte)) (t' := .int) (by decide) (by decide))), O.2.2.1.other W (Or.inr (slot_ne (Or.inl (hw _ (List.mem_of_getElem? (i := 22) rfl))) (Or.inl (hw _ (List.mem_of_getElem? (i := 34) rfl))) (by decide) (t := .int) (t' := .int) (by decide) (by decide))), O.2.2.2.1.other W (Or.inr (slot_ne (Or.inl (hw _ (List.mem_of_getElem? (i := 40) rfl))) (Or.inl (hw _ (List.mem_of_getElem? (i := 34) rfl))) (by decide) (t := .long) (t' := .int) (by decide) (by decide))), O.2.2.2.2.same W⟩
theorem own_Db_other {Z : State} {h h' : Heap} {a b : Addr} {sl : Nat} {v0 v1 v2 v3 w : Value} (O : own_Db Z h a v0 v1 v2 v3) (W : Wr h h' b sl w) (q : a ≠ b) : own_Db Z h' a v0 v1 v2 v3 := ⟨O.1.wr W, O.2.1.other W (Or.inl q), O.2.2.1.other W (Or.inl q), O.2.2.2.1.other W (Or.inl q), O.2.2.2.2.other W (Or.inl q)⟩
theorem own_Db_ext {Z : State} {h h' : Heap} {a : Addr} {v0 v1 v2 v3 : Value} (O : own_Db Z h a v0 v1 v2 v3) (E : Ext h h') : own_Db Z h' a v0 v1 v2 v3 := ⟨O.1.ext E, O.2.1.ext E, O.2.2.1.ext E, O.2.2.2.1.ext E, O.2.2.2.2.ext E⟩
theorem own_Db_keep {Z : State} {h h' : Heap} {a : Addr} {v0 v1 v2 v3 : Value} {ws : List Addr} (O : own_Db Z h a v0 v1 v2 v3) (K : Keep h h' ws) (q : a ∉ ws) : own_Db Z h' a v0 v1 v2 v3 := ⟨O.1.keep K, O.2.1.keep K q, O.2.2.1.keep K q, O.2.2.2.1.keep K q, O.2.2.2.2.keep K q⟩
theorem d1_0 : decode prog_31_method_1_code 0 = .ok (.aload_n 0, 1) := by decide +kernel
theorem d1_1 : decode prog_31_method_1_code 1 = .ok (.invokespecial 1, 3) := by decide +kernel
theorem d1_4 : decode prog_31_method_1_code 4 = .ok (.iload_n 2, 1) := by decide +kernel
theorem d1_5 : decode prog_31_method_1_code 5 = .ok (.aload_n 1, 1) := by decide +kernel
theorem d1_6 : decode prog_31_method_1_code 6 = .ok (.arraylength, 1) := by decide +kernel
theorem d1_7 : decode prog_31_method_1_code 7 = .ok (.iconst 1, 1) := by decide +kernel
theorem d1_8 : decode prog_31_method_1_code 8 = .ok (.iadd, 1) := by decide +kernel
theorem d1_9 : decode prog_31_method_1_code 9 = .ok (.invokestatic 7, 3) := by decide +kernel
theorem d1_12 : decode prog_31_method_1_code 12 = .ok (.pop, 1) := by decide +kernel
theorem d1_13 : decode prog_31_method_1_code 13 = .ok (.aload_n 0, 1) := by decide +kernel
theorem d1_14 : decode prog_31_method_1_code 14 = .ok (.aload_n 1, 1) := by decide +kernel
theorem d1_15 : decode prog_31_method_1_code 15 = .ok (.putfield 13, 3) := by decide +kernel
theorem d1_18 : decode prog_31_method_1_code 18 = .ok (.aload_n 0, 1) := by decide +kernel
theorem d1_19 : decode prog_31_method_1_code 19 = .ok (.iload_n 2, 1) := by decide +kernel
theorem d1_20 : decode prog_31_method_1_code 20 = .ok (.putfield 19, 3) := by decide +kernel
theorem d1_23 : decode prog_31_method_1_code 23 = .ok (.return_, 1) := by decide +kernel
theorem pn_1 : plainName "com/example/fewbits/fewbits/deflate/DeflateBitReader" = true := by first | (simp [plainName, overriddenIn]; done) | decide +kernel
theorem ef_1 (m : MethodId) (x0 : Addr) (x1 : Addr) (x2 : Int32) : entryFrame m #[(.ref x0), (.ref x1), (.int x2)] 3 = mkF m 0 #[.val (.ref x0), .val (.ref x1), .val (.int x2)] [] := by first | (simp [entryFrame, mkF, argsToLocals, Value.category]; done) | rfl
theorem pd_1 : parseMethodDescriptor "(II)I" = some ⟨[.int, .int], some .int⟩ := by decide +kernel
def Q3 (Z : State) (a : Addr) (ad : Addr) (po : Int32) (f : Nat → Int32) (h0 : Heap) (n0 : Nat) (v : Option Value) (h : Heap) (L : List Loc) : Prop := v = none ∧ Fr n0 L ∧ Keep h0 h [a] ∧ own_Db Z h a (.ref ad) (.int po) (.long (0 : Int64)) (.int (0 : Int32))
set_option maxRecDepth 65536 in
set_option maxHeartbeats 40000000 in
theorem rm3 (l : Launch) (Z : State) (a0 : Array Value) (hw : ∀ d ∈ tables_1, d.before a0 Z = true) (ws : List Jvm.Cond) (a : Addr) (ad : Addr) (po : Int32) (f : Nat → Int32) (h0 : Heap) (n0 : Nat) (Z0 : n0 ≤ h0.size) (ga : n0 ≤ a) (O0 : own_Db Z h0 a .null (.int (0 : Int32)) (.long (0 : Int64)) (.int (0 : Int32))) (A0 : own_AI Z h0 ad .byte (8 : Int32) f) (hq1 : ¬ po < (0 : Int32)) (hq2 : po < ((8 : Int32) + (1 : Int32))) :
    MetFree l (⟨"com/example/fewbits/fewbits/deflate/DeflateBitReader", "<init>", "([BI)V"⟩ : MethodName) (head1 (Jvm.Cond.code (⟨"com/example/fewbits/fewbits/deflate/DeflateBitReader", "<init>", "([BI)V"⟩ : MethodName) prog_31_method_1_code 3 none :: ws) ({ frames := 2, cells := 0, slots := 0, locals := 40 } : Room)) (fun a_ U_ => a_ = #[(.ref a), (.ref ad), (.int po)] ∧ Z.Warmed39 U_.vm ∧ U_.heap = h0) (fun _ _ _ _ _ => True) (fun _ U_ o_ U' => ∃ v_ L_, o_ = .returned v_ ∧ (Q3 Z a ad po f h0 n0 v_ U'.heap L_) ∧ FrameEnd U_ o_ U' L_ ({ frames := 2, cells := 0, slots := 0, locals := 40 } : Room).cells ({ frames := 2, cells := 0, slots := 0, locals := 40 } : Room).slots) := by
  refine MetFree.of_bodySF (plainFor_of_name pn_1) hisR ?_
  intro p e s m args below meth c s₁ Bd hml0 hP hK
  obtain ⟨rfl, hZ, hh⟩ := hP
  have hx := Bd.exec
  have hby := Bd.bytes
  have hml : c.maxLocals = 3 := hml0
  have hown : s.vm.findClass "com/example/fewbits/fewbits/deflate/DeflateBitReader" = some m.cls := findClass_of_methodNamed Bd.named
  have hnm := (name_of_methodNamed Bd.named Bd.method).1
  have X0 : Stand p l e ({ frames := 2, cells := 0, slots := 0, locals := 40 } : Room) s m #[(.ref a), (.ref ad), (.int po)] below meth c s₁ [] 0 0 := Stand.of_body Bd
  have e0 : s₁.heap = h0 := by rw [← hh, Bd.state]; rfl
  have N0 := Fr.nil n0
  have pre0 : ∀ t, Steps p.tables e below (s₁.setTop (mkF m 0 #[.val (.ref a), .val (.ref ad), .val (.int po)] [])) t → Steps p.tables e below (s₁.setTop (entryFrame m #[(.ref a), (.ref ad), (.int po)] 3)) t := fun t k => castTop (ef_1 m a ad po) k
  obtain ⟨T1, X1, e1, st1⟩ := initO X0 hx hZ hown (hw _ (List.mem_of_getElem? (i := 8) rfl)) (hw _ (List.mem_of_getElem? (i := 9) rfl)) (hw _ (List.mem_of_getElem? (i := 10) rfl)) e0 (g := (mkF m 1 #[.val (.ref a), .val (.ref ad), .val (.int po)] [(.ref a)])) rfl (by rw [hml]; rfl) rfl (hb hby d1_1) (by decide) (W := 0) (by show 2 * 0 + _ ≤ _; exact Nat.le_of_eq rfl) (by decide)
  obtain ⟨_, _, ⟨T2, L2, k2, n2⟩, -, X2, ⟨Lc2, hQ2, l2, y2, z2⟩, st2⟩ := Jvm.LawKit.callS X1 hx (y := (⟨"java/util/Objects", "checkIndex", "(II)I"⟩ : MethodName)) hown (mvT hZ (hw _ (List.mem_of_getElem? (i := 11) rfl))) (mvT hZ (hw _ (List.mem_of_getElem? (i := 12) rfl))) (mvT hZ (hw _ (List.mem_of_getElem? (i := 13) rfl))) (mvT hZ (hw _ (List.mem_of_getElem? (i := 14) rfl))) (by decide) (backOf (W := 0) (rm2 l Z a0 hw [] po ((8 : Int32) + (1 : Int32))  h0 n0 Z0 hq1 hq2) hZ (hw _ (List.mem_of_getElem? (i := 14) rfl)) (hw _ (List.mem_of_getElem? (i := 13) rfl)) (by decide) (by decide)) (g := (mkF m 9 #[.val (.ref a), .val (.ref ad), .val (.int po)] [(.int ((8 : Int32) + (1 : Int32))), (.int po)])) rfl (by rw [hml]; rfl) (argsL := [(.int po), (.int ((8 : Int32) + (1 : Int32)))]) (rest := []) (lenOf pd_1 rfl) rfl (by show 2 * 0 + _ ≤ _; exact Nat.le_of_eq rfl) (hb hby d1_9) (fun _ _ => ⟨rfl, e1, (by decide : 0 + 0 ≤ _), (by decide : 0 + 0 ≤ _)⟩)
  dsimp only [Pt.U, Pt.locs, Pt.cells, Pt.slots] at X2 l2 y2 z2 st2 hQ2
  subst l2 y2 z2
  obtain ⟨rfl, Nq2, e2⟩ := hQ2
  have N2 := Fr.app N0 Nq2
  obtain ⟨T3, h3, X3, e3, W3, st3⟩ := putF X2 hx hZ hown (host := "") (Or.inl (hw _ (List.mem_of_getElem? (i := 19) rfl))) Via.refl e2 O0.2.1 O0.1 (Or.inr ⟨(hw _ (List.mem_of_getElem? (i := 20) rfl)), rfl, hnm⟩) (hw _ (List.mem_of_getElem? (i := 3) rfl)) (ty := (.array .byte)) (by decide) rfl rfl (g := (mkF m 15 #[.val (.ref a), .val (.ref ad), .val (.int po)] [(.ref ad), (.ref a)])) rfl rfl (hb hby d1_15)
  have N3 := Fr.snoc X3 N2 ga
  have K3 : Keep h0 h3 [a] := (Keep.refl h0 [a]).wr W3 (Or.inl (List.mem_of_getElem? (i := 0) rfl))
  have A3_ad := A0.other W3 (own_ne_obj O0.1 (hw _ (List.mem_of_getElem? (i := 3) rfl)) A0).symm
  have O3 := own_Db_set_m_aData hw O0 W3
  have Z3 : n0 ≤ h3.size := Nat.le_trans Z0 (Nat.le_of_eq (W3.size).symm)
  obtain ⟨T4, h4, X4, e4, W4, st4⟩ := putF X3 hx hZ hown (host := "") (Or.inl (hw _ (List.mem_of_getElem? (i := 21) rfl))) Via.refl e3 O3.2.2.1 O3.1 (Or.inl (hw _ (List.mem_of_getElem? (i := 22) rfl))) (hw _ (List.mem_of_getElem? (i := 3) rfl)) (ty := .int) (by decide) rfl rfl (g := (mkF m 20 #[.val (.ref a), .val (.ref ad), .val (.int po)] [(.int po), (.ref a)])) rfl rfl (hb hby d1_20)
  have N4 := Fr.snoc X4 N3 ga
  have K4 : Keep h0 h4 [a] := K3.wr W4 (Or.inl (List.mem_of_getElem? (i := 0) rfl))
  have A4_ad := A3_ad.other W4 (own_ne_obj O3.1 (hw _ (List.mem_of_getElem? (i := 3) rfl)) A3_ad).symm
  have O4 := own_Db_set_m_nNext hw O3 W4
  have Z4 : n0 ≤ h4.size := Nat.le_trans Z3 (Nat.le_of_eq (W4.size).symm)
  obtain ⟨fs, hr, hrun, hended, hW, hsame⟩ := X4.leave (v := none) (fun _ => rfl)
  refine ⟨_, _, pre0 _ ?_, hrun, hended, _, _, rfl, ⟨rfl, N4, (by show Keep h0 T4.heap [a]; rw [e4]; exact K4), (by show own_Db Z T4.heap a (.ref ad) (.int po) (.long (0 : Int64)) (.int (0 : Int32)); rw [e4]; exact O4)⟩, ⟨_, rfl⟩, hW, hsame.mono (by decide) (by decide)⟩
  show Steps p.tables e below (s₁.setTop (mkF m 0 #[.val (.ref a), .val (.ref ad), .val (.int po)] [])) _
  refine XS.aloadN X0.here hx rfl (hb hby d1_0) rfl rfl ?_
  show Steps p.tables e below (s₁.setTop (mkF m 1 #[.val (.ref a), .val (.ref ad), .val (.int po)] [(.ref a)])) _
  refine st1 _ ?_
  show Steps p.tables e below (T1.setTop (mkF m 4 #[.val (.ref a), .val (.ref ad), .val (.int po)] [])) _
  refine XS.iloadN X1.here hx rfl (hb hby d1_4) rfl ?_
  show Steps p.tables e below (T1.setTop (mkF m 5 #[.val (.ref a), .val (.ref ad), .val (.int po)] [(.int po)])) _
  refine XS.aloadN X1.here hx rfl (hb hby d1_5) rfl rfl ?_
  show Steps p.tables e below (T1.setTop (mkF m 6 #[.val (.ref a), .val (.ref ad), .val (.int po)] [(.ref ad), (.int po)])) _
  refine own_len X1 hx hZ e1 A0 rfl rfl (hb hby d1_6) ?_
  show Steps p.tables e below (T1.setTop (mkF m 7 #[.val (.ref a), .val (.ref ad), .val (.int po)] [(.int (8 : Int32)), (.int po)])) _
  refine XS.iconst X1.here hx rfl (hb hby d1_7) ?_
  show Steps p.tables e below (T1.setTop (mkF m 8 #[.val (.ref a), .val (.ref ad), .val (.int po)] [(.int (1 : Int32)), (.int (8 : Int32)), (.int po)])) _
  refine XS.iadd X1.here hx rfl (hb hby d1_8) rfl ?_
  show Steps p.tables e below (T1.setTop (mkF m 9 #[.val (.ref a), .val (.ref ad), .val (.int po)] [(.int ((8 : Int32) + (1 : Int32))), (.int po)])) _
  refine st2 _ ?_
  show Steps p.tables e below (T2.setTop (mkF m 12 #[.val (.ref a), .val (.ref ad), .val (.int po)] [(.int po)])) _
  refine XS.pop X2.here hx rfl (hb hby d1_12) rfl rfl ?_
  show Steps p.tables e below (T2.setTop (mkF m 13 #[.val (.ref a), .val (.ref ad), .val (.int po)] [])) _
  refine XS.aloadN X2.here hx rfl (hb hby d1_13) rfl rfl ?_
  show Steps p.tables e below (T2.setTop (mkF m 14 #[.val (.ref a), .val (.ref ad), .val (.int po)] [(.ref a)])) _
  refine XS.aloadN X2.here hx rfl (hb hby d1_14) rfl rfl ?_
  show Steps p.tables e below (T2.setTop (mkF m 15 #[.val (.ref a), .val (.ref ad), .val (.int po)] [(.ref ad), (.ref a)])) _
  refine st3 _ ?_
  show Steps p.tables e below (T3.setTop (mkF m 18 #[.val (.ref a), .val (.ref ad), .val (.int po)] [])) _
  refine XS.aloadN X3.here hx rfl (hb hby d1_18) rfl rfl ?_
  show Steps p.tables e below (T3.setTop (mkF m 19 #[.val (.ref a), .val (.ref ad), .val (.int po)] [(.ref a)])) _
  refine XS.iloadN X3.here hx rfl (hb hby d1_19) rfl ?_
  show Steps p.tables e below (T3.setTop (mkF m 20 #[.val (.ref a), .val (.ref ad), .val (.int po)] [(.int po), (.ref a)])) _
  refine st4 _ ?_
  show Steps p.tables e below (T4.setTop (mkF m 23 #[.val (.ref a), .val (.ref ad), .val (.int po)] [])) _
  exact X4.returnOut hx Bd.returns (hb hby d1_23) hr
def own_nat (z : Int64) : Nat := z.toBitVec.toNat
def own_b (f : Nat → Int32) (j : Nat) : Nat := ((f j).toInt % 256).toNat
/-- n bytes from the place o on, the first the least -/
def own_dat (f : Nat → Int32) (o : Nat) : Nat → Nat
  | 0 => 0
  | j + 1 => own_dat f o j + own_b f (o + j) * 256 ^ j
theorem own_b_lt (f : Nat → Int32) (j : Nat) : own_b f j < 256 := by unfold own_b; omega
theorem own_dat_lt (f : Nat → Int32) (o : Nat) : ∀ n, own_dat f o n < 256 ^ n
  | 0 => by show 0 < 256 ^ 0; omega
  | n + 1 => by
    have h1 := own_dat_lt f o n
    have h2 := own_b_lt f (o + n)
    show own_dat f o n + own_b f (o + n) * 256 ^ n < 256 ^ (n + 1)
    rw [Nat.pow_succ]
    have h3 : own_b f (o + n) * 256 ^ n ≤ 255 * 256 ^ n := Nat.mul_le_mul_right _ (by omega)
    omega
theorem own_dat_at (f : Nat → Int32) (o m : Nat) : ∀ n, m < n → own_dat f o n / 256 ^ m % 256 = own_b f (o + m)
  | 0, h => by omega
  | n + 1, h => by
    show (own_dat f o n + own_b f (o + n) * 256 ^ n) / 256 ^ m % 256 = _
    have hpos : 0 < 256 ^ m := Nat.pow_pos (by omega)
    by_cases q : m = n
    · subst q
      rw [Nat.add_mul_div_right _ _ hpos, Nat.div_eq_of_lt (own_dat_lt f o m), Nat.zero_add, Nat.mod_eq_of_lt (own_b_lt f _)]
    · have h2 : m < n := by omega
      obtain ⟨d, rfl⟩ : ∃ d, n = m + 1 + d := ⟨n - (m + 1), by omega⟩
      have e : own_b f (o + (m + 1 + d)) * 256 ^ (m + 1 + d) = (own_b f (o + (m + 1 + d)) * 256 ^ d * 256) * 256 ^ m := by
        rw [Nat.pow_add, Nat.pow_add, Nat.pow_one]
        simp only [Nat.mul_assoc, Nat.mul_comm, Nat.mul_left_comm]
      rw [e, Nat.add_mul_div_right _ _ hpos, Nat.add_mul_mod_self_right]
      exact own_dat_at f o m (m + 1 + d) h2
theorem own_p256 (m : Nat) : 256 ^ m = 2 ^ (8 * m) := by rw [Nat.pow_mul]
theorem own_natI (z : Int64) : (own_nat z : Int) = z.toInt % 18446744073709551616 := by
  show (z.toBitVec.toNat : Int) = z.toBitVec.toInt % 18446744073709551616
  rw [BitVec.toInt_eq_toNat_cond]
  have := z.toBitVec.isLt
  split <;> omega
theorem own_sh {q : Int32} {k : Nat} (hq : q.toInt = k) (hk : k < 64) : q.toBitVec.toNat % 64 = k := by
  have h : q.toBitVec.toInt = k := hq
  rw [BitVec.toInt_eq_toNat_cond] at h
  have := q.toBitVec.isLt
  split at h <;> omega
theorem own_ushr (z : Int64) {q : Int32} {k : Nat} (hq : q.toInt = k) (hk : k < 64) : own_nat ((z.toUInt64 >>> (q &&& 0x3f).toInt64.toUInt64).toInt64) = own_nat z / 2 ^ k := by
  have e := (sm64 q k (own_sh hq hk)).1
  show (z.toBitVec >>> ((q &&& 0x3f).toInt64.toBitVec % 64#64)).toNat = z.toBitVec.toNat / 2 ^ k
  rw [e, BitVec.ushiftRight_eq', BitVec.toNat_ushiftRight, Nat.shiftRight_eq_div_pow]
  have : (BitVec.ofNat 64 k % 64#64).toNat = k := by simp; omega
  rw [this]
theorem own_shl {y z : Int64} {q : Int32} {k b : Nat} (hq : q.toInt = (8 * k : Nat)) (hk : k < 8) (hy : own_nat y = b) (hb : b < 256) (hz : own_nat z < 256 ^ k) : own_nat (z ||| (y <<< (q &&& 0x3f).toInt64)) = own_nat z + b * 256 ^ k := by
  have e := (sm64 q (8 * k) (own_sh hq (by omega))).1
  show (z.toBitVec ||| (y.toBitVec <<< ((q &&& 0x3f).toInt64.toBitVec.smod 64))).toNat = _
  rw [e, BitVec.toNat_or, BitVec.shiftLeft_eq', BitVec.toNat_shiftLeft, smod64 (8 * k) (by omega), Nat.shiftLeft_eq]
  have hy' : y.toBitVec.toNat = b := hy
  have hz' : z.toBitVec.toNat < 2 ^ (8 * k) := by rw [← own_p256]; exact hz
  rw [hy', ← own_p256, Nat.mod_eq_of_lt]
  · show z.toBitVec.toNat ||| b * 256 ^ k = z.toBitVec.toNat + b * 256 ^ k
    rw [own_p256, Nat.or_comm, Nat.mul_comm, ← Nat.two_pow_add_eq_or_of_lt hz', Nat.add_comm]
  · have h1 : b * 256 ^ k ≤ 255 * 256 ^ k := Nat.mul_le_mul_right _ (by omega)
    have h2 : 256 ^ k * 256 ≤ 256 ^ 8 := by
      rw [← Nat.pow_succ]; exact Nat.pow_le_pow_right (by omega) (by omega)
    have h3 : 0 < 256 ^ k := Nat.pow_pos (by omega)
    have h4 : (256 : Nat) ^ 8 = 2 ^ 64 := by decide
    omega
theorem own_byte (f : Nat → Int32) (j : Nat) : own_nat (((f j).toInt64) &&& (255 : Int64)) = own_b f j := by
  have h := c_maskL ((f j).toInt64) (255 : Int64) 8 (by decide) (by decide)
  have h2 := own_natI (((f j).toInt64) &&& (255 : Int64))
  rw [h, c_i2l] at h2
  unfold own_b
  omega
theorem d7_0 : decode prog_31_method_8_code 0 = .ok (.aload_n 0, 1) := by decide +kernel
theorem d7_1 : decode prog_31_method_8_code 1 = .ok (.getfield 23, 3) := by decide +kernel
theorem d7_4 : decode prog_31_method_8_code 4 = .ok (.bipush 56, 2) := by decide +kernel
theorem d7_6 : decode prog_31_method_8_code 6 = .ok (.if_icmp .gt 64, 3) := by decide +kernel
theorem d7_9 : decode prog_31_method_8_code 9 = .ok (.aload_n 0, 1) := by decide +kernel
theorem d7_10 : decode prog_31_method_8_code 10 = .ok (.getfield 19, 3) := by decide +kernel
theorem d7_13 : decode prog_31_method_8_code 13 = .ok (.aload_n 0, 1) := by decide +kernel
theorem d7_14 : decode prog_31_method_8_code 14 = .ok (.getfield 13, 3) := by decide +kernel
theorem d7_17 : decode prog_31_method_8_code 17 = .ok (.arraylength, 1) := by decide +kernel
theorem d7_18 : decode prog_31_method_8_code 18 = .ok (.if_icmp .ge 52, 3) := by decide +kernel
theorem d7_21 : decode prog_31_method_8_code 21 = .ok (.aload_n 0, 1) := by decide +kernel
theorem d7_22 : decode prog_31_method_8_code 22 = .ok (.dup, 1) := by decide +kernel
theorem d7_23 : decode prog_31_method_8_code 23 = .ok (.getfield 29, 3) := by decide +kernel
theorem d7_26 : decode prog_31_method_8_code 26 = .ok (.aload_n 0, 1) := by decide +kernel
theorem d7_27 : decode prog_31_method_8_code 27 = .ok (.getfield 13, 3) := by decide +kernel
theorem d7_30 : decode prog_31_method_8_code 30 = .ok (.aload_n 0, 1) := by decide +kernel
theorem d7_31 : decode prog_31_method_8_code 31 = .ok (.dup, 1) := by decide +kernel
theorem d7_32 : decode prog_31_method_8_code 32 = .ok (.getfield 19, 3) := by decide +kernel
theorem d7_35 : decode prog_31_method_8_code 35 = .ok (.dup_x1, 1) := by decide +kernel
theorem d7_36 : decode prog_31_method_8_code 36 = .ok (.iconst 1, 1) := by decide +kernel
theorem d7_37 : decode prog_31_method_8_code 37 = .ok (.iadd, 1) := by decide +kernel
theorem d7_38 : decode prog_31_method_8_code 38 = .ok (.putfield 19, 3) := by decide +kernel
theorem d7_41 : decode prog_31_method_8_code 41 = .ok (.baload, 1) := by decide +kernel
theorem d7_42 : decode prog_31_method_8_code 42 = .ok (.i2l, 1) := by decide +kernel
theorem d7_43 : decode prog_31_method_8_code 43 = .ok (.ldc2_w 65, 3) := by decide +kernel
theorem d7_46 : decode prog_31_method_8_code 46 = .ok (.land, 1) := by decide +kernel
theorem d7_47 : decode prog_31_method_8_code 47 = .ok (.aload_n 0, 1) := by decide +kernel
theorem d7_48 : decode prog_31_method_8_code 48 = .ok (.getfield 23, 3) := by decide +kernel
theorem d7_51 : decode prog_31_method_8_code 51 = .ok (.lshl, 1) := by decide +kernel
theorem d7_52 : decode prog_31_method_8_code 52 = .ok (.lor, 1) := by decide +kernel
theorem d7_53 : decode prog_31_method_8_code 53 = .ok (.putfield 29, 3) := by decide +kernel
theorem d7_56 : decode prog_31_method_8_code 56 = .ok (.aload_n 0, 1) := by decide +kernel
theorem d7_57 : decode prog_31_method_8_code 57 = .ok (.dup, 1) := by decide +kernel
theorem d7_58 : decode prog_31_method_8_code 58 = .ok (.getfield 23, 3) := by decide +kernel
theorem d7_61 : decode prog_31_method_8_code 61 = .ok (.bipush 8, 2) := by decide +kernel
theorem d7_63 : decode prog_31_method_8_code 63 = .ok (.iadd, 1) := by decide +kernel
theorem d7_64 : decode prog_31_method_8_code 64 = .ok (.putfield 23, 3) := by decide +kernel
theorem d7_67 : decode prog_31_method_8_code 67 = .ok (.goto (-67), 3) := by decide +kernel
theorem d7_70 : decode prog_31_method_8_code 70 = .ok (.return_, 1) := by decide +kernel
theorem pn_7 : plainName "com/example/fewbits/fewbits/deflate/DeflateBitReader" = true := by first | (simp [plainName, overriddenIn]; done) | decide +kernel
theorem ef_7 (m : MethodId) (x0 : Addr) : entryFrame m #[(.ref x0)] 1 = mkF m 0 #[.val (.ref x0)] [] := by first | (simp [entryFrame, mkF, argsToLocals, Value.category]; done) | rfl
set_option maxRecDepth 65536 in
set_option maxHeartbeats 40000000 in
theorem own_turn {p : Program} {l : Launch} {e : Env} {s : State} {m : MethodId} {args : Array Value} {below : List Frame} {meth : Method} {c : Code} {T0 : State} {locs : List Loc} {Z : State} {a0 : Array Value} {h0 : Heap} (a : Addr) (ad : Addr) (f : Nat → Int32) (nx : Int32) (bf : Int64) (nb : Int32) (X0 : Stand p l e ({ frames := 0, cells := 0, slots := 0, locals := 0 } : Room) s m args below meth c T0 locs 0 0) (hx : p.tables.exec = Jvm.exec) (hZ : Z.Warmed39 s.vm) (hw : ∀ d ∈ tables_1, d.before a0 Z = true) (hby : c.code = prog_31_method_8_code) (hml : c.maxLocals = 1) (hown : s.vm.findClass "com/example/fewbits/fewbits/deflate/DeflateBitReader" = some m.cls) (e0 : T0.heap = h0) (n0 : Nat) (Z0 : n0 ≤ h0.size) (N0 : Fr n0 locs) (ga : n0 ≤ a) (O0 : own_Db Z h0 a (.ref ad) (.int nx) (.long bf) (.int nb)) (A0 : own_AI Z h0 ad .byte (8 : Int32) f) (h56 : ¬ (56 : Int32) < nb) (h8 : nx < (8 : Int32)) (hin : ¬ nx < 0 ∧ nx < (8 : Int32)) :
    ∃ (T' : State) (h' : Heap) (locs' : List Loc), Stand p l e ({ frames := 0, cells := 0, slots := 0, locals := 0 } : Room) s m args below meth c T' locs' 0 0 ∧ T'.heap = h' ∧ Fr n0 locs' ∧ Keep h0 h' [a] ∧ own_Db Z h' a (.ref ad) (.int (nx + (1 : Int32))) (.long (bf ||| ((((f (nx).toNatClampNeg).toInt64) &&& (255 : Int64)) <<< (nb &&& 0x3f).toInt64))) (.int (nb + (8 : Int32))) ∧ own_AI Z h' ad .byte (8 : Int32) f ∧ 
      ∀ target, Steps p.tables e below (T'.setTop (mkF m 0 #[.val (.ref a)] [])) target → Steps p.tables e below (T0.setTop (mkF m 0 #[.val (.ref a)] [])) target := by
  obtain ⟨T1, X1, e1, st1⟩ := getF X0 hx hZ hown (host := "") (Or.inl (hw _ (List.mem_of_getElem? (i := 33) rfl))) Via.refl e0 O0.2.2.2.2 (g := (mkF m 1 #[.val (.ref a)] [(.ref a)])) rfl rfl (hb hby d7_1)
  obtain ⟨T2, X2, e2, st2⟩ := getF X1 hx hZ hown (host := "") (Or.inl (hw _ (List.mem_of_getElem? (i := 21) rfl))) Via.refl e1 O0.2.2.1 (g := (mkF m 10 #[.val (.ref a)] [(.ref a)])) rfl rfl (hb hby d7_10)
  obtain ⟨T3, X3, e3, st3⟩ := getF X2 hx hZ hown (host := "") (Or.inl (hw _ (List.mem_of_getElem? (i := 19) rfl))) Via.refl e2 O0.2.1 (g := (mkF m 14 #[.val (.ref a)] [(.ref a), (.int nx)])) rfl rfl (hb hby d7_14)
  obtain ⟨T4, X4, e4, st4⟩ := getF X3 hx hZ hown (host := "") (Or.inl (hw _ (List.mem_of_getElem? (i := 39) rfl))) Via.refl e3 O0.2.2.2.1 (g := (mkF m 23 #[.val (.ref a)] [(.ref a), (.ref a)])) rfl rfl (hb hby d7_23)
  obtain ⟨T5, X5, e5, st5⟩ := getF X4 hx hZ hown (host := "") (Or.inl (hw _ (List.mem_of_getElem? (i := 19) rfl))) Via.refl e4 O0.2.1 (g := (mkF m 27 #[.val (.ref a)] [(.ref a), (.long bf), (.ref a)])) rfl rfl (hb hby d7_27)
  obtain ⟨T6, X6, e6, st6⟩ := getF X5 hx hZ hown (host := "") (Or.inl (hw _ (List.mem_of_getElem? (i := 21) rfl))) Via.refl e5 O0.2.2.1 (g := (mkF m 32 #[.val (.ref a)] [(.ref a), (.ref a), (.ref ad), (.long bf), (.ref a)])) rfl rfl (hb hby d7_32)
  obtain ⟨T7, h7, X7, e7, W7, st7⟩ := putF X6 hx hZ hown (host := "") (Or.inl (hw _ (List.mem_of_getElem? (i := 21) rfl))) Via.refl e6 O0.2.2.1 O0.1 (Or.inl (hw _ (List.mem_of_getElem? (i := 22) rfl))) (hw _ (List.mem_of_getElem? (i := 3) rfl)) (ty := .int) (by decide) rfl rfl (g := (mkF m 38 #[.val (.ref a)] [(.int (nx + (1 : Int32))), (.ref a), (.int nx), (.ref ad), (.long bf), (.ref a)])) rfl rfl (hb hby d7_38)
  have N7 := Fr.snoc X7 N0 ga
  have K7 : Keep h0 h7 [a] := (Keep.refl h0 [a]).wr W7 (Or.inl (List.mem_of_getElem? (i := 0) rfl))
  have A7_ad := A0.other W7 (own_ne_obj O0.1 (hw _ (List.mem_of_getElem? (i := 3) rfl)) A0).symm
  have O7 := own_Db_set_m_nNext hw O0 W7
  have Z7 : n0 ≤ h7.size := Nat.le_trans Z0 (Nat.le_of_eq (W7.size).symm)
  obtain ⟨T8, X8, e8, st8⟩ := getF X7 hx hZ hown (host := "") (Or.inl (hw _ (List.mem_of_getElem? (i := 33) rfl))) Via.refl e7 O7.2.2.2.2 (g := (mkF m 48 #[.val (.ref a)] [(.ref a), (.long (((f (nx).toNatClampNeg).toInt64) &&& (255 : Int64))), (.long bf), (.ref a)])) rfl rfl (hb hby d7_48)
  obtain ⟨T9, h9, X9, e9, W9, st9⟩ := putF X8 hx hZ hown (host := "") (Or.inl (hw _ (List.mem_of_getElem? (i := 39) rfl))) Via.refl e8 O7.2.2.2.1 O7.1 (Or.inl (hw _ (List.mem_of_getElem? (i := 40) rfl))) (hw _ (List.mem_of_getElem? (i := 3) rfl)) (ty := .long) (by decide) rfl rfl (g := (mkF m 53 #[.val (.ref a)] [(.long (bf ||| ((((f (nx).toNatClampNeg).toInt64) &&& (255 : Int64)) <<< (nb &&& 0x3f).toInt64))), (.ref a)])) rfl rfl (hb hby d7_53)
  have N9 := Fr.snoc X9 N7 ga
  have K9 : Keep h0 h9 [a] := K7.wr W9 (Or.inl (List.mem_of_getElem? (i := 0) rfl))
  have A9_ad := A7_ad.other W9 (own_ne_obj O7.1 (hw _ (List.mem_of_getElem? (i := 3) rfl)) A7_ad).symm
  have O9 := own_Db_set_m_nBuffer hw O7 W9
  have Z9 : n0 ≤ h9.size := Nat.le_trans Z7 (Nat.le_of_eq (W9.size).symm)
  obtain ⟨T10, X10, e10, st10⟩ := getF X9 hx hZ hown (host := "") (Or.inl (hw _ (List.mem_of_getElem? (i := 33) rfl))) Via.refl e9 O9.2.2.2.2 (g := (mkF m 58 #[.val (.ref a)] [(.ref a), (.ref a)])) rfl rfl (hb hby d7_58)
  obtain ⟨T11, h11, X11, e11, W11, st11⟩ := putF X10 hx hZ hown (host := "") (Or.inl (hw _ (List.mem_of_getElem? (i := 33) rfl))) Via.refl e10 O9.2.2.2.2 O9.1 (Or.inl (hw _ (List.mem_of_getElem? (i := 34) rfl))) (hw _ (List.mem_of_getElem? (i := 3) rfl)) (ty := .int) (by decide) rfl rfl (g := (mkF m 64 #[.val (.ref a)] [(.int (nb + (8 : Int32))), (.ref a)])) rfl rfl (hb hby d7_64)
  have N11 := Fr.snoc X11 N9 ga
  have K11 : Keep h0 h11 [a] := K9.wr W11 (Or.inl (List.mem_of_getElem? (i := 0) rfl))
  have A11_ad := A9_ad.other W11 (own_ne_obj O9.1 (hw _ (List.mem_of_getElem? (i := 3) rfl)) A9_ad).symm
  have O11 := own_Db_set_m_nBufferBits hw O9 W11
  have Z11 : n0 ≤ h11.size := Nat.le_trans Z9 (Nat.le_of_eq (W11.size).symm)
  refine ⟨_, _, _, X11, e11, N11, K11, O11, A11_ad, fun target kt => ?_⟩
  show Steps p.tables e below (T0.setTop (mkF m 0 #[.val (.ref a)] [])) _
  refine XS.aloadN X0.here hx rfl (hb hby d7_0) rfl rfl ?_
  show Steps p.tables e below (T0.setTop (mkF m 1 #[.val (.ref a)] [(.ref a)])) _
  refine st1 _ ?_
  show Steps p.tables e below (T1.setTop (mkF m 4 #[.val (.ref a)] [(.int nb)])) _
  refine XS.bipush X1.here hx rfl (hb hby d7_4) ?_
  show Steps p.tables e below (T1.setTop (mkF m 6 #[.val (.ref a)] [(.int (56 : Int32)), (.int nb)])) _
  refine XS.icmpNo X1.here hx rfl (hb hby d7_6) rfl (flt h56).2.2.1 ?_
  show Steps p.tables e below (T1.setTop (mkF m 9 #[.val (.ref a)] [])) _
  refine XS.aloadN X1.here hx rfl (hb hby d7_9) rfl rfl ?_
  show Steps p.tables e below (T1.setTop (mkF m 10 #[.val (.ref a)] [(.ref a)])) _
  refine st2 _ ?_
  show Steps p.tables e below (T2.setTop (mkF m 13 #[.val (.ref a)] [(.int nx)])) _
  refine XS.aloadN X2.here hx rfl (hb hby d7_13) rfl rfl ?_
  show Steps p.tables e below (T2.setTop (mkF m 14 #[.val (.ref a)] [(.ref a), (.int nx)])) _
  refine st3 _ ?_
  show Steps p.tables e below (T3.setTop (mkF m 17 #[.val (.ref a)] [(.ref ad), (.int nx)])) _
  refine own_len X3 hx hZ e3 A0 rfl rfl (hb hby d7_17) ?_
  show Steps p.tables e below (T3.setTop (mkF m 18 #[.val (.ref a)] [(.int (8 : Int32)), (.int nx)])) _
  refine XS.icmpNo X3.here hx rfl (hb hby d7_18) rfl (tlt h8).2.1 ?_
  show Steps p.tables e below (T3.setTop (mkF m 21 #[.val (.ref a)] [])) _
  refine XS.aloadN X3.here hx rfl (hb hby d7_21) rfl rfl ?_
  show Steps p.tables e below (T3.setTop (mkF m 22 #[.val (.ref a)] [(.ref a)])) _
  refine XS.dup X3.here hx rfl (hb hby d7_22) rfl rfl ?_
  show Steps p.tables e below (T3.setTop (mkF m 23 #[.val (.ref a)] [(.ref a), (.ref a)])) _
  refine st4 _ ?_
  show Steps p.tables e below (T4.setTop (mkF m 26 #[.val (.ref a)] [(.long bf), (.ref a)])) _
  refine XS.aloadN X4.here hx rfl (hb hby d7_26) rfl rfl ?_
  show Steps p.tables e below (T4.setTop (mkF m 27 #[.val (.ref a)] [(.ref a), (.long bf), (.ref a)])) _
  refine st5 _ ?_
  show Steps p.tables e below (T5.setTop (mkF m 30 #[.val (.ref a)] [(.ref ad), (.long bf), (.ref a)])) _
  refine XS.aloadN X5.here hx rfl (hb hby d7_30) rfl rfl ?_
  show Steps p.tables e below (T5.setTop (mkF m 31 #[.val (.ref a)] [(.ref a), (.ref ad), (.long bf), (.ref a)])) _
  refine XS.dup X5.here hx rfl (hb hby d7_31) rfl rfl ?_
  show Steps p.tables e below (T5.setTop (mkF m 32 #[.val (.ref a)] [(.ref a), (.ref a), (.ref ad), (.long bf), (.ref a)])) _
  refine st6 _ ?_
  show Steps p.tables e below (T6.setTop (mkF m 35 #[.val (.ref a)] [(.int nx), (.ref a), (.ref ad), (.long bf), (.ref a)])) _
  refine XS.dupX1 X6.here hx rfl (hb hby d7_35) rfl rfl rfl ?_
  show Steps p.tables e below (T6.setTop (mkF m 36 #[.val (.ref a)] [(.int nx), (.ref a), (.int nx), (.ref ad), (.long bf), (.ref a)])) _
  refine XS.iconst X6.here hx rfl (hb hby d7_36) ?_
  show Steps p.tables e below (T6.setTop (mkF m 37 #[.val (.ref a)] [(.int (1 : Int32)), (.int nx), (.ref a), (.int nx), (.ref ad), (.long bf), (.ref a)])) _
  refine XS.iadd X6.here hx rfl (hb hby d7_37) rfl ?_
  show Steps p.tables e below (T6.setTop (mkF m 38 #[.val (.ref a)] [(.int (nx + (1 : Int32))), (.ref a), (.int nx), (.ref ad), (.long bf), (.ref a)])) _
  refine st7 _ ?_
  show Steps p.tables e below (T7.setTop (mkF m 41 #[.val (.ref a)] [(.int nx), (.ref ad), (.long bf), (.ref a)])) _
  refine own_ldB X7 hx hZ e7 A7_ad (j := nx) hin rfl rfl (hb hby d7_41) ?_
  show Steps p.tables e below (T7.setTop (mkF m 42 #[.val (.ref a)] [(.int (f (nx).toNatClampNeg)), (.long bf), (.ref a)])) _
  refine XS.i2l X7.here hx rfl (hb hby d7_42) rfl ?_
  show Steps p.tables e below (T7.setTop (mkF m 43 #[.val (.ref a)] [(.long ((f (nx).toNatClampNeg).toInt64)), (.long bf), (.ref a)])) _
  refine X7.ldc2J hx hown (mvT hZ (hw _ (List.mem_of_getElem? (i := 41) rfl))) rfl (hb hby d7_43) ?_
  show Steps p.tables e below (T7.setTop (mkF m 46 #[.val (.ref a)] [(.long (255 : Int64)), (.long ((f (nx).toNatClampNeg).toInt64)), (.long bf), (.ref a)])) _
  refine XS.land X7.here hx rfl (hb hby d7_46) rfl ?_
  show Steps p.tables e below (T7.setTop (mkF m 47 #[.val (.ref a)] [(.long (((f (nx).toNatClampNeg).toInt64) &&& (255 : Int64))), (.long bf), (.ref a)])) _
  refine XS.aloadN X7.here hx rfl (hb hby d7_47) rfl rfl ?_
  show Steps p.tables e below (T7.setTop (mkF m 48 #[.val (.ref a)] [(.ref a), (.long (((f (nx).toNatClampNeg).toInt64) &&& (255 : Int64))), (.long bf), (.ref a)])) _
  refine st8 _ ?_
  show Steps p.tables e below (T8.setTop (mkF m 51 #[.val (.ref a)] [(.int nb), (.long (((f (nx).toNatClampNeg).toInt64) &&& (255 : Int64))), (.long bf), (.ref a)])) _
  refine XS.lshl X8.here hx rfl (hb hby d7_51) rfl ?_
  show Steps p.tables e below (T8.setTop (mkF m 52 #[.val (.ref a)] [(.long ((((f (nx).toNatClampNeg).toInt64) &&& (255 : Int64)) <<< (nb &&& 0x3f).toInt64)), (.long bf), (.ref a)])) _
  refine XS.lor X8.here hx rfl (hb hby d7_52) rfl ?_
  show Steps p.tables e below (T8.setTop (mkF m 53 #[.val (.ref a)] [(.long (bf ||| ((((f (nx).toNatClampNeg).toInt64) &&& (255 : Int64)) <<< (nb &&& 0x3f).toInt64))), (.ref a)])) _
  refine st9 _ ?_
  show Steps p.tables e below (T9.setTop (mkF m 56 #[.val (.ref a)] [])) _
  refine XS.aloadN X9.here hx rfl (hb hby d7_56) rfl rfl ?_
  show Steps p.tables e below (T9.setTop (mkF m 57 #[.val (.ref a)] [(.ref a)])) _
  refine XS.dup X9.here hx rfl (hb hby d7_57) rfl rfl ?_
  show Steps p.tables e below (T9.setTop (mkF m 58 #[.val (.ref a)] [(.ref a), (.ref a)])) _
  refine st10 _ ?_
  show Steps p.tables e below (T10.setTop (mkF m 61 #[.val (.ref a)] [(.int nb), (.ref a)])) _
  refine XS.bipush X10.here hx rfl (hb hby d7_61) ?_
  show Steps p.tables e below (T10.setTop (mkF m 63 #[.val (.ref a)] [(.int (8 : Int32)), (.int nb), (.ref a)])) _
  refine XS.iadd X10.here hx rfl (hb hby d7_63) rfl ?_
  show Steps p.tables e below (T10.setTop (mkF m 64 #[.val (.ref a)] [(.int (nb + (8 : Int32))), (.ref a)])) _
  refine st11 _ ?_
  show Steps p.tables e below (T11.setTop (mkF m 67 #[.val (.ref a)] [])) _
  refine XS.goto X11.here hx rfl (pc0 := 67) (pc' := 0) rfl (hb hby d7_67) (by decide) (by decide) ?_
  show Steps p.tables e below (T11.setTop (mkF m 0 #[.val (.ref a)] [])) _
  exact kt
set_option maxRecDepth 65536 in
set_option maxHeartbeats 40000000 in
theorem own_outA {p : Program} {l : Launch} {e : Env} {s : State} {m : MethodId} {args : Array Value} {below : List Frame} {meth : Method} {c : Code} {T0 : State} {locs : List Loc} {Z : State} {a0 : Array Value} {h0 : Heap} (a : Addr) (ad : Addr) (f : Nat → Int32) (nx : Int32) (bf : Int64) (nb : Int32) (X0 : Stand p l e ({ frames := 0, cells := 0, slots := 0, locals := 0 } : Room) s m args below meth c T0 locs 0 0) (hx : p.tables.exec = Jvm.exec) (hZ : Z.Warmed39 s.vm) (hw : ∀ d ∈ tables_1, d.before a0 Z = true) (hby : c.code = prog_31_method_8_code) (hml : c.maxLocals = 1) (hown : s.vm.findClass "com/example/fewbits/fewbits/deflate/DeflateBitReader" = some m.cls) (e0 : T0.heap = h0) (n0 : Nat) (Z0 : n0 ≤ h0.size) (N0 : Fr n0 locs) (ga : n0 ≤ a) (O0 : own_Db Z h0 a (.ref ad) (.int nx) (.long bf) (.int nb)) (A0 : own_AI Z h0 ad .byte (8 : Int32) f) (h56 : (56 : Int32) < nb) :
    ∃ (T' : State) (h' : Heap) (locs' : List Loc), Stand p l e ({ frames := 0, cells := 0, slots := 0, locals := 0 } : Room) s m args below meth c T' locs' 0 0 ∧ T'.heap = h' ∧ Fr n0 locs' ∧ Keep h0 h' [a] ∧ own_Db Z h' a (.ref ad) (.int nx) (.long bf) (.int nb) ∧ own_AI Z h' ad .byte (8 : Int32) f ∧ 
      ∀ target, Steps p.tables e below (T'.setTop (mkF m 70 #[.val (.ref a)] [])) target → Steps p.tables e below (T0.setTop (mkF m 0 #[.val (.ref a)] [])) target := by
  obtain ⟨T1, X1, e1, st1⟩ := getF X0 hx hZ hown (host := "") (Or.inl (hw _ (List.mem_of_getElem? (i := 33) rfl))) Via.refl e0 O0.2.2.2.2 (g := (mkF m 1 #[.val (.ref a)] [(.ref a)])) rfl rfl (hb hby d7_1)
  refine ⟨_, _, _, X1, e1, N0, (Keep.refl h0 [a]), O0, A0, fun target kt => ?_⟩
  show Steps p.tables e below (T0.setTop (mkF m 0 #[.val (.ref a)] [])) _
  refine XS.aloadN X0.here hx rfl (hb hby d7_0) rfl rfl ?_
  show Steps p.tables e below (T0.setTop (mkF m 1 #[.val (.ref a)] [(.ref a)])) _
  refine st1 _ ?_
  show Steps p.tables e below (T1.setTop (mkF m 4 #[.val (.ref a)] [(.int nb)])) _
  refine XS.bipush X1.here hx rfl (hb hby d7_4) ?_
  show Steps p.tables e below (T1.setTop (mkF m 6 #[.val (.ref a)] [(.int (56 : Int32)), (.int nb)])) _
  refine XS.icmpYes X1.here hx rfl (pc0 := 6) (pc' := 70) rfl (hb hby d7_6) rfl (tlt h56).2.2.1 (by decide) (by decide) ?_
  show Steps p.tables e below (T1.setTop (mkF m 70 #[.val (.ref a)] [])) _
  exact kt
set_option maxRecDepth 65536 in
set_option maxHeartbeats 40000000 in
theorem own_outB {p : Program} {l : Launch} {e : Env} {s : State} {m : MethodId} {args : Array Value} {below : List Frame} {meth : Method} {c : Code} {T0 : State} {locs : List Loc} {Z : State} {a0 : Array Value} {h0 : Heap} (a : Addr) (ad : Addr) (f : Nat → Int32) (nx : Int32) (bf : Int64) (nb : Int32) (X0 : Stand p l e ({ frames := 0, cells := 0, slots := 0, locals := 0 } : Room) s m args below meth c T0 locs 0 0) (hx : p.tables.exec = Jvm.exec) (hZ : Z.Warmed39 s.vm) (hw : ∀ d ∈ tables_1, d.before a0 Z = true) (hby : c.code = prog_31_method_8_code) (hml : c.maxLocals = 1) (hown : s.vm.findClass "com/example/fewbits/fewbits/deflate/DeflateBitReader" = some m.cls) (e0 : T0.heap = h0) (n0 : Nat) (Z0 : n0 ≤ h0.size) (N0 : Fr n0 locs) (ga : n0 ≤ a) (O0 : own_Db Z h0 a (.ref ad) (.int nx) (.long bf) (.int nb)) (A0 : own_AI Z h0 ad .byte (8 : Int32) f) (h56 : ¬ (56 : Int32) < nb) (h8 : ¬ nx < (8 : Int32)) :
    ∃ (T' : State) (h' : Heap) (locs' : List Loc), Stand p l e ({ frames := 0, cells := 0, slots := 0, locals := 0 } : Room) s m args below meth c T' locs' 0 0 ∧ T'.heap = h' ∧ Fr n0 locs' ∧ Keep h0 h' [a] ∧ own_Db Z h' a (.ref ad) (.int nx) (.long bf) (.int nb) ∧ own_AI Z h' ad .byte (8 : Int32) f ∧ 
      ∀ target, Steps p.tables e below (T'.setTop (mkF m 70 #[.val (.ref a)] [])) target → Steps p.tables e below (T0.setTop (mkF m 0 #[.val (.ref a)] [])) target := by
  obtain ⟨T1, X1, e1, st1⟩ := getF X0 hx hZ hown (host := "") (Or.inl (hw _ (List.mem_of_getElem? (i := 33) rfl))) Via.refl e0 O0.2.2.2.2 (g := (mkF m 1 #[.val (.ref a)] [(.ref a)])) rfl rfl (hb hby d7_1)
  obtain ⟨T2, X2, e2, st2⟩ := getF X1 hx hZ hown (host := "") (Or.inl (hw _ (List.mem_of_getElem? (i := 21) rfl))) Via.refl e1 O0.2.2.1 (g := (mkF m 10 #[.val (.ref a)] [(.ref a)])) rfl rfl (hb hby d7_10)
  obtain ⟨T3, X3, e3, st3⟩ := getF X2 hx hZ hown (host := "") (Or.inl (hw _ (List.mem_of_getElem? (i := 19) rfl))) Via.refl e2 O0.2.1 (g := (mkF m 14 #[.val (.ref a)] [(.ref a), (.int nx)])) rfl rfl (hb hby d7_14)
  refine ⟨_, _, _, X3, e3, N0, (Keep.refl h0 [a]), O0, A0, fun target kt => ?_⟩
  show Steps p.tables e below (T0.setTop (mkF m 0 #[.val (.ref a)] [])) _
  refine XS.aloadN X0.here hx rfl (hb hby d7_0) rfl rfl ?_
  show Steps p.tables e below (T0.setTop (mkF m 1 #[.val (.ref a)] [(.ref a)])) _
  refine st1 _ ?_
  show Steps p.tables e below (T1.setTop (mkF m 4 #[.val (.ref a)] [(.int nb)])) _
  refine XS.bipush X1.here hx rfl (hb hby d7_4) ?_
  show Steps p.tables e below (T1.setTop (mkF m 6 #[.val (.ref a)] [(.int (56 : Int32)), (.int nb)])) _
  refine XS.icmpNo X1.here hx rfl (hb hby d7_6) rfl (flt h56).2.2.1 ?_
  show Steps p.tables e below (T1.setTop (mkF m 9 #[.val (.ref a)] [])) _
  refine XS.aloadN X1.here hx rfl (hb hby d7_9) rfl rfl ?_
  show Steps p.tables e below (T1.setTop (mkF m 10 #[.val (.ref a)] [(.ref a)])) _
  refine st2 _ ?_
  show Steps p.tables e below (T2.setTop (mkF m 13 #[.val (.ref a)] [(.int nx)])) _
  refine XS.aloadN X2.here hx rfl (hb hby d7_13) rfl rfl ?_
  show Steps p.tables e below (T2.setTop (mkF m 14 #[.val (.ref a)] [(.ref a), (.int nx)])) _
  refine st3 _ ?_
  show Steps p.tables e below (T3.setTop (mkF m 17 #[.val (.ref a)] [(.ref ad), (.int nx)])) _
  refine own_len X3 hx hZ e3 A0 rfl rfl (hb hby d7_17) ?_
  show Steps p.tables e below (T3.setTop (mkF m 18 #[.val (.ref a)] [(.int (8 : Int32)), (.int nx)])) _
  refine XS.icmpYes X3.here hx rfl (pc0 := 18) (pc' := 70) rfl (hb hby d7_18) rfl (flt h8).2.1 (by decide) (by decide) ?_
  show Steps p.tables e below (T3.setTop (mkF m 70 #[.val (.ref a)] [])) _
  exact kt
theorem own_turnN {f : Nat → Int32} {nx nb : Int32} {bf : Int64} {o j : Nat} (h1 : nx.toInt = (o + j : Nat)) (h2 : nb.toInt = (8 * j : Nat)) (h3 : own_nat bf = own_dat f o j) (hj : o + j < 8) :
    ((nx + (1 : Int32))).toInt = (o + (j + 1) : Nat) ∧ ((nb + (8 : Int32))).toInt = (8 * (j + 1) : Nat) ∧ own_nat (bf ||| ((((f (nx).toNatClampNeg).toInt64) &&& (255 : Int64)) <<< (nb &&& 0x3f).toInt64)) = own_dat f o (j + 1) := by
  refine ⟨?_, ?_, ?_⟩
  · rw [own_i_add h1 (show (1 : Int32).toInt = 1 from rfl) (by omega)]; omega
  · rw [own_i_add h2 (show (8 : Int32).toInt = 8 from rfl) (by omega)]; omega
  · have e : nx.toNatClampNeg = o + j := by rw [own_i_nat h1 (by omega)]; omega
    rw [e, own_shl h2 (by omega) (own_byte f (o + j)) (own_b_lt f _) (by rw [h3]; exact own_dat_lt f o j), h3]
    rfl
set_option maxHeartbeats 4000000 in
theorem own_loop {p : Program} {l : Launch} {e : Env} {s : State} {m : MethodId} {args : Array Value} {below : List Frame} {meth : Method} {c : Code} {Z : State} {a0 : Array Value} (a ad : Addr) (f : Nat → Int32) (hx : p.tables.exec = Jvm.exec) (hZ : Z.Warmed39 s.vm) (hw : ∀ d ∈ tables_1, d.before a0 Z = true) (hby : c.code = prog_31_method_8_code) (hml : c.maxLocals = 1) (hown : s.vm.findClass "com/example/fewbits/fewbits/deflate/DeflateBitReader" = some m.cls) (n0 : Nat) (ga : n0 ≤ a) (o : Nat) :
    ∀ (k j : Nat) (T0 : State) (locs : List Loc) (h0 : Heap) (nx nb : Int32) (bf : Int64), o + j + k = 8 → nx.toInt = (o + j : Nat) → nb.toInt = (8 * j : Nat) → own_nat bf = own_dat f o j →
      Stand p l e ({ frames := 0, cells := 0, slots := 0, locals := 0 } : Room) s m args below meth c T0 locs 0 0 → T0.heap = h0 → n0 ≤ h0.size → Fr n0 locs → own_Db Z h0 a (.ref ad) (.int nx) (.long bf) (.int nb) → own_AI Z h0 ad .byte (8 : Int32) f →
      ∃ (nx' nb' : Int32) (bf' : Int64) (T' : State) (h' : Heap) (locs' : List Loc), nx'.toInt = 8 ∧ nb'.toInt = (8 * (8 - o) : Nat) ∧ own_nat bf' = own_dat f o (8 - o) ∧ Stand p l e ({ frames := 0, cells := 0, slots := 0, locals := 0 } : Room) s m args below meth c T' locs' 0 0 ∧ T'.heap = h' ∧ Fr n0 locs' ∧ Keep h0 h' [a] ∧ own_Db Z h' a (.ref ad) (.int nx') (.long bf') (.int nb') ∧ own_AI Z h' ad .byte (8 : Int32) f ∧
        ∀ target, Steps p.tables e below (T'.setTop (mkF m 70 #[.val (.ref a)] [])) target → Steps p.tables e below (T0.setTop (mkF m 0 #[.val (.ref a)] [])) target := by
  intro k
  induction k with
  | zero =>
    intro j T0 locs h0 nx nb bf hk h1 h2 h3 X0 e0 Z0 N0 O0 A0
    have ej : j = 8 - o := by omega
    by_cases q : (56 : Int32) < nb
    · obtain ⟨T1, h1', L1, X1, e1, N1, K1, O1, A1, st1⟩ := own_outA a ad f nx bf nb X0 hx hZ hw hby hml hown e0 n0 Z0 N0 ga O0 A0 q
      exact ⟨nx, nb, bf, T1, h1', L1, by omega, by rw [h2, ej], by rw [h3, ej], X1, e1, N1, K1, O1, A1, st1⟩
    · have q2 : ¬ nx < (8 : Int32) := by rw [own_i_lt h1 (show (8 : Int32).toInt = 8 from rfl)]; omega
      obtain ⟨T1, h1', L1, X1, e1, N1, K1, O1, A1, st1⟩ := own_outB a ad f nx bf nb X0 hx hZ hw hby hml hown e0 n0 Z0 N0 ga O0 A0 q q2
      exact ⟨nx, nb, bf, T1, h1', L1, by omega, by rw [h2, ej], by rw [h3, ej], X1, e1, N1, K1, O1, A1, st1⟩
  | succ k ih =>
    intro j T0 locs h0 nx nb bf hk h1 h2 h3 X0 e0 Z0 N0 O0 A0
    have q1 : ¬ (56 : Int32) < nb := by rw [own_i_lt (show (56 : Int32).toInt = 56 from rfl) h2]; omega
    have q2 : nx < (8 : Int32) := by rw [own_i_lt h1 (show (8 : Int32).toInt = 8 from rfl)]; omega
    have q3 : ¬ nx < 0 ∧ nx < (8 : Int32) := ⟨by rw [own_i_lt h1 (show (0 : Int32).toInt = 0 from rfl)]; omega, q2⟩
    obtain ⟨T1, h1', L1, X1, e1, N1, K1, O1, A1, st1⟩ := own_turn a ad f nx bf nb X0 hx hZ hw hby hml hown e0 n0 Z0 N0 ga O0 A0 q1 q2 q3
    obtain ⟨g1, g2, g3⟩ := own_turnN h1 h2 h3 (by omega)
    obtain ⟨nx', nb', bf', T2, h2', L2, r1, r2, r3, X2, e2, N2, K2, O2, A2, st2⟩ := ih (j + 1) T1 L1 h1' _ _ _ (by omega) g1 g2 g3 X1 e1 (Nat.le_trans Z0 K1.1) N1 O1 A1
    exact ⟨nx', nb', bf', T2, h2', L2, r1, r2, r3, X2, e2, N2, K1.trans K2 (fun x hx => Or.inl hx), O2, A2, fun target kt => st1 _ (st2 _ kt)⟩
def Q4 (Z : State) (a : Addr) (ad : Addr) (f : Nat → Int32) (nx : Int32) (bf : Int64) (nb : Int32) (o : Nat) (h0 : Heap) (n0 : Nat) (v : Option Value) (h : Heap) (L : List Loc) : Prop := v = none ∧ Fr n0 L ∧ Keep h0 h [a] ∧ (∃ (nx' nb' : Int32) (bf' : Int64), nx'.toInt = 8 ∧ nb'.toInt = (8 * (8 - o) : Nat) ∧ own_nat bf' = own_dat f o (8 - o) ∧ own_Db Z h a (.ref ad) (.int nx') (.long bf') (.int nb')) ∧ own_AI Z h ad .byte (8 : Int32) f
set_option maxRecDepth 65536 in
set_option maxHeartbeats 40000000 in
theorem rm4 (l : Launch) (Z : State) (a0 : Array Value) (hw : ∀ d ∈ tables_1, d.before a0 Z = true) (ws : List Jvm.Cond) (a : Addr) (ad : Addr) (f : Nat → Int32) (nx : Int32) (bf : Int64) (nb : Int32) (o : Nat) (h0 : Heap) (n0 : Nat) (Z0 : n0 ≤ h0.size) (ga : n0 ≤ a) (O0 : own_Db Z h0 a (.ref ad) (.int nx) (.long bf) (.int nb)) (A0 : own_AI Z h0 ad .byte (8 : Int32) f) (ho : o ≤ 4) (hn : nx.toInt = (o : Nat)) (hb0 : nb.toInt = (0 : Nat)) (hbf : own_nat bf = 0) :
    MetFree l (⟨"com/example/fewbits/fewbits/deflate/DeflateBitReader", "refill", "()V"⟩ : MethodName) (head1 (Jvm.Cond.code (⟨"com/example/fewbits/fewbits/deflate/DeflateBitReader", "refill", "()V"⟩ : MethodName) prog_31_method_8_code 1 none :: ws) ({ frames := 0, cells := 0, slots := 0, locals := 0 } : Room)) (fun a_ U_ => a_ = #[(.ref a)] ∧ Z.Warmed39 U_.vm ∧ U_.heap = h0) (fun _ _ _ _ _ => True) (fun _ U_ o_ U' => ∃ v_ L_, o_ = .returned v_ ∧ (Q4 Z a ad f nx bf nb o h0 n0 v_ U'.heap L_) ∧ FrameEnd U_ o_ U' L_ ({ frames := 0, cells := 0, slots := 0, locals := 0 } : Room).cells ({ frames := 0, cells := 0, slots := 0, locals := 0 } : Room).slots) := by
  refine MetFree.of_bodySF (plainFor_of_name pn_7) hisR ?_
  intro p e s m args below meth c s₁ Bd hml0 hP hK
  obtain ⟨rfl, hZ, hh⟩ := hP
  have hx := Bd.exec
  have hby := Bd.bytes
  have hml : c.maxLocals = 1 := hml0
  have hown : s.vm.findClass "com/example/fewbits/fewbits/deflate/DeflateBitReader" = some m.cls := findClass_of_methodNamed Bd.named
  have hnm := (name_of_methodNamed Bd.named Bd.method).1
  have X0 : Stand p l e ({ frames := 0, cells := 0, slots := 0, locals := 0 } : Room) s m #[(.ref a)] below meth c s₁ [] 0 0 := Stand.of_body Bd
  have e0 : s₁.heap = h0 := by rw [← hh, Bd.state]; rfl
  have N0 := Fr.nil n0
  have pre0 : ∀ t, Steps p.tables e below (s₁.setTop (mkF m 0 #[.val (.ref a)] [])) t → Steps p.tables e below (s₁.setTop (entryFrame m #[(.ref a)] 1)) t := fun t k => castTop (ef_7 m a) k
  obtain ⟨nx', nb', bf', TL, hL, LL, r1, r2, r3, XL, eL, NL, KL, OL, AL, stL⟩ := own_loop a ad f hx hZ hw hby hml hown n0 ga o (8 - o) 0 s₁ [] h0 nx nb bf (by omega) (by rw [hn]; rfl) hb0 hbf X0 e0 Z0 N0 O0 A0
  obtain ⟨fs, hr, hrun, hended, hW, hsame⟩ := XL.leave (v := none) (fun _ => rfl)
  refine ⟨_, _, pre0 _ ?_, hrun, hended, _, _, rfl, ⟨rfl, NL, (by show Keep h0 TL.heap [a]; rw [eL]; exact KL), ⟨nx', nb', bf', r1, r2, r3, (by show own_Db Z TL.heap a (.ref ad) (.int nx') (.long bf') (.int nb'); rw [eL]; exact OL)⟩, (by show own_AI Z TL.heap ad .byte (8 : Int32) f; rw [eL]; exact AL)⟩, ⟨_, rfl⟩, hW, hsame.mono (by decide) (by decide)⟩
  show Steps p.tables e below (s₁.setTop (mkF m 0 #[.val (.ref a)] [])) _
  refine stL _ ?_
  show Steps p.tables e below (TL.setTop (mkF m 70 #[.val (.ref a)] [])) _
  exact XL.returnOut hx Bd.returns (hb hby d7_70) hr
theorem d6_0 : decode prog_31_method_2_code 0 = .ok (.aload_n 0, 1) := by decide +kernel
theorem d6_1 : decode prog_31_method_2_code 1 = .ok (.getfield 23, 3) := by decide +kernel
theorem d6_4 : decode prog_31_method_2_code 4 = .ok (.iload_n 1, 1) := by decide +kernel
theorem d6_5 : decode prog_31_method_2_code 5 = .ok (.if_icmp .ge 7, 3) := by decide +kernel
theorem d6_8 : decode prog_31_method_2_code 8 = .ok (.aload_n 0, 1) := by decide +kernel
theorem d6_9 : decode prog_31_method_2_code 9 = .ok (.invokevirtual 26, 3) := by decide +kernel
theorem d6_12 : decode prog_31_method_2_code 12 = .ok (.aload_n 0, 1) := by decide +kernel
theorem d6_13 : decode prog_31_method_2_code 13 = .ok (.getfield 29, 3) := by decide +kernel
theorem d6_16 : decode prog_31_method_2_code 16 = .ok (.l2i, 1) := by decide +kernel
theorem d6_17 : decode prog_31_method_2_code 17 = .ok (.iconst 1, 1) := by decide +kernel
theorem d6_18 : decode prog_31_method_2_code 18 = .ok (.iload_n 1, 1) := by decide +kernel
theorem d6_19 : decode prog_31_method_2_code 19 = .ok (.ishl, 1) := by decide +kernel
theorem d6_20 : decode prog_31_method_2_code 20 = .ok (.iconst 1, 1) := by decide +kernel
theorem d6_21 : decode prog_31_method_2_code 21 = .ok (.isub, 1) := by decide +kernel
theorem d6_22 : decode prog_31_method_2_code 22 = .ok (.iand, 1) := by decide +kernel
theorem d6_23 : decode prog_31_method_2_code 23 = .ok (.ireturn, 1) := by decide +kernel
theorem pn_6 : plainName "com/example/fewbits/fewbits/deflate/DeflateBitReader" = true := by first | (simp [plainName, overriddenIn]; done) | decide +kernel
theorem ef_6 (m : MethodId) (x0 : Addr) (x1 : Int32) : entryFrame m #[(.ref x0), (.int x1)] 2 = mkF m 0 #[.val (.ref x0), .val (.int x1)] [] := by first | (simp [entryFrame, mkF, argsToLocals, Value.category]; done) | rfl
theorem pd_2 : parseMethodDescriptor "()V" = some ⟨[], none⟩ := by decide +kernel
def Q5a (Z : State) (a : Addr) (ct : Int32) (ad : Addr) (f : Nat → Int32) (nx : Int32) (bf : Int64) (nb : Int32) (h0 : Heap) (n0 : Nat) (v : Option Value) (h : Heap) (L : List Loc) : Prop := v = some (.int ((bf.toInt32) &&& (((1 : Int32) <<< (ct &&& 31)) - (1 : Int32)))) ∧ Fr n0 L ∧ h = h0
set_option maxRecDepth 65536 in
set_option maxHeartbeats 40000000 in
theorem rm5a (l : Launch) (Z : State) (a0 : Array Value) (hw : ∀ d ∈ tables_1, d.before a0 Z = true) (ws : List Jvm.Cond) (a : Addr) (ct : Int32) (ad : Addr) (f : Nat → Int32) (nx : Int32) (bf : Int64) (nb : Int32) (h0 : Heap) (n0 : Nat) (Z0 : n0 ≤ h0.size) (ga : n0 ≤ a) (O0 : own_Db Z h0 a (.ref ad) (.int nx) (.long bf) (.int nb)) (A0 : own_AI Z h0 ad .byte (8 : Int32) f) (hq : ¬ nb < ct) :
    MetFree l (⟨"com/example/fewbits/fewbits/deflate/DeflateBitReader", "peekBits", "(I)I"⟩ : MethodName) (head1 (Jvm.Cond.code (⟨"com/example/fewbits/fewbits/deflate/DeflateBitReader", "peekBits", "(I)I"⟩ : MethodName) prog_31_method_2_code 2 (some .int) :: ws) ({ frames := 0, cells := 0, slots := 0, locals := 0 } : Room)) (fun a_ U_ => a_ = #[(.ref a), (.int ct)] ∧ Z.Warmed39 U_.vm ∧ U_.heap = h0) (fun _ _ _ _ _ => True) (fun _ U_ o_ U' => ∃ v_ L_, o_ = .returned v_ ∧ (Q5a Z a ct ad f nx bf nb h0 n0 v_ U'.heap L_) ∧ FrameEnd U_ o_ U' L_ ({ frames := 0, cells := 0, slots := 0, locals := 0 } : Room).cells ({ frames := 0, cells := 0, slots := 0, locals := 0 } : Room).slots) := by
  refine MetFree.of_bodySF (plainFor_of_name pn_6) hisR ?_
  intro p e s m args below meth c s₁ Bd hml0 hP hK
  obtain ⟨rfl, hZ, hh⟩ := hP
  have hx := Bd.exec
  have hby := Bd.bytes
  have hml : c.maxLocals = 2 := hml0
  have hown : s.vm.findClass "com/example/fewbits/fewbits/deflate/DeflateBitReader" = some m.cls := findClass_of_methodNamed Bd.named
  have hnm := (name_of_methodNamed Bd.named Bd.method).1
  have X0 : Stand p l e ({ frames := 0, cells := 0, slots := 0, locals := 0 } : Room) s m #[(.ref a), (.int ct)] below meth c s₁ [] 0 0 := Stand.of_body Bd
  have e0 : s₁.heap = h0 := by rw [← hh, Bd.state]; rfl
  have N0 := Fr.nil n0
  have pre0 : ∀ t, Steps p.tables e below (s₁.setTop (mkF m 0 #[.val (.ref a), .val (.int ct)] [])) t → Steps p.tables e below (s₁.setTop (entryFrame m #[(.ref a), (.int ct)] 2)) t := fun t k => castTop (ef_6 m a ct) k
  obtain ⟨T1, X1, e1, st1⟩ := getF X0 hx hZ hown (host := "") (Or.inl (hw _ (List.mem_of_getElem? (i := 33) rfl))) Via.refl e0 O0.2.2.2.2 (g := (mkF m 1 #[.val (.ref a), .val (.int ct)] [(.ref a)])) rfl rfl (hb hby d6_1)
  obtain ⟨T2, X2, e2, st2⟩ := getF X1 hx hZ hown (host := "") (Or.inl (hw _ (List.mem_of_getElem? (i := 39) rfl))) Via.refl e1 O0.2.2.2.1 (g := (mkF m 13 #[.val (.ref a), .val (.int ct)] [(.ref a)])) rfl rfl (hb hby d6_13)
  obtain ⟨fs, hr, hrun, hended, hW, hsame⟩ := X2.leave (v := some (.int ((bf.toInt32) &&& (((1 : Int32) <<< (ct &&& 31)) - (1 : Int32))))) (fun h => by rw [Bd.returns] at h; cases h)
  refine ⟨_, _, pre0 _ ?_, hrun, hended, _, _, rfl, ⟨rfl, N0, e2⟩, ⟨_, rfl⟩, hW, hsame.mono (by decide) (by decide)⟩
  show Steps p.tables e below (s₁.setTop (mkF m 0 #[.val (.ref a), .val (.int ct)] [])) _
  refine XS.aloadN X0.here hx rfl (hb hby d6_0) rfl rfl ?_
  show Steps p.tables e below (s₁.setTop (mkF m 1 #[.val (.ref a), .val (.int ct)] [(.ref a)])) _
  refine st1 _ ?_
  show Steps p.tables e below (T1.setTop (mkF m 4 #[.val (.ref a), .val (.int ct)] [(.int nb)])) _
  refine XS.iloadN X1.here hx rfl (hb hby d6_4) rfl ?_
  show Steps p.tables e below (T1.setTop (mkF m 5 #[.val (.ref a), .val (.int ct)] [(.int ct), (.int nb)])) _
  refine XS.icmpYes X1.here hx rfl (pc0 := 5) (pc' := 12) rfl (hb hby d6_5) rfl (flt hq).2.1 (by decide) (by decide) ?_
  show Steps p.tables e below (T1.setTop (mkF m 12 #[.val (.ref a), .val (.int ct)] [])) _
  refine XS.aloadN X1.here hx rfl (hb hby d6_12) rfl rfl ?_
  show Steps p.tables e below (T1.setTop (mkF m 13 #[.val (.ref a), .val (.int ct)] [(.ref a)])) _
  refine st2 _ ?_
  show Steps p.tables e below (T2.setTop (mkF m 16 #[.val (.ref a), .val (.int ct)] [(.long bf)])) _
  refine XS.l2i X2.here hx rfl (hb hby d6_16) rfl ?_
  show Steps p.tables e below (T2.setTop (mkF m 17 #[.val (.ref a), .val (.int ct)] [(.int (bf.toInt32))])) _
  refine XS.iconst X2.here hx rfl (hb hby d6_17) ?_
  show Steps p.tables e below (T2.setTop (mkF m 18 #[.val (.ref a), .val (.int ct)] [(.int (1 : Int32)), (.int (bf.toInt32))])) _
  refine XS.iloadN X2.here hx rfl (hb hby d6_18) rfl ?_
  show Steps p.tables e below (T2.setTop (mkF m 19 #[.val (.ref a), .val (.int ct)] [(.int ct), (.int (1 : Int32)), (.int (bf.toInt32))])) _
  refine XS.ishl X2.here hx rfl (hb hby d6_19) rfl ?_
  show Steps p.tables e below (T2.setTop (mkF m 20 #[.val (.ref a), .val (.int ct)] [(.int ((1 : Int32) <<< (ct &&& 31))), (.int (bf.toInt32))])) _
  refine XS.iconst X2.here hx rfl (hb hby d6_20) ?_
  show Steps p.tables e below (T2.setTop (mkF m 21 #[.val (.ref a), .val (.int ct)] [(.int (1 : Int32)), (.int ((1 : Int32) <<< (ct &&& 31))), (.int (bf.toInt32))])) _
  refine XS.isub X2.here hx rfl (hb hby d6_21) rfl ?_
  show Steps p.tables e below (T2.setTop (mkF m 22 #[.val (.ref a), .val (.int ct)] [(.int (((1 : Int32) <<< (ct &&& 31)) - (1 : Int32))), (.int (bf.toInt32))])) _
  refine XS.iand X2.here hx rfl (hb hby d6_22) rfl ?_
  show Steps p.tables e below (T2.setTop (mkF m 23 #[.val (.ref a), .val (.int ct)] [(.int ((bf.toInt32) &&& (((1 : Int32) <<< (ct &&& 31)) - (1 : Int32))))])) _
  exact own_retI X2 hx Bd.returns (hb hby d6_23) hr
def Q5b (Z : State) (a : Addr) (ct : Int32) (ad : Addr) (f : Nat → Int32) (nx : Int32) (bf : Int64) (nb : Int32) (o : Nat) (h0 : Heap) (n0 : Nat) (v : Option Value) (h : Heap) (L : List Loc) : Prop := (∃ (nx' nb' : Int32) (bf' : Int64), v = some (.int ((bf'.toInt32) &&& (((1 : Int32) <<< (ct &&& 31)) - (1 : Int32)))) ∧ nx'.toInt = 8 ∧ nb'.toInt = (8 * (8 - o) : Nat) ∧ own_nat bf' = own_dat f o (8 - o) ∧ own_Db Z h a (.ref ad) (.int nx') (.long bf') (.int nb')) ∧ Fr n0 L ∧ Keep h0 h [a] ∧ own_AI Z h ad .byte (8 : Int32) f
set_option maxRecDepth 65536 in
set_option maxHeartbeats 40000000 in
theorem rm5b (l : Launch) (Z : State) (a0 : Array Value) (hw : ∀ d ∈ tables_1, d.before a0 Z = true) (ws : List Jvm.Cond) (a : Addr) (ct : Int32) (ad : Addr) (f : Nat → Int32) (nx : Int32) (bf : Int64) (nb : Int32) (o : Nat) (h0 : Heap) (n0 : Nat) (Z0 : n0 ≤ h0.size) (ga : n0 ≤ a) (O0 : own_Db Z h0 a (.ref ad) (.int nx) (.long bf) (.int nb)) (A0 : own_AI Z h0 ad .byte (8 : Int32) f) (ho : o ≤ 4) (hn : nx.toInt = (o : Nat)) (hb0 : nb.toInt = (0 : Nat)) (hbf : own_nat bf = 0) (hq : nb < ct) :
    MetFree l (⟨"com/example/fewbits/fewbits/deflate/DeflateBitReader", "peekBits", "(I)I"⟩ : MethodName) (head1 (Jvm.Cond.code (⟨"com/example/fewbits/fewbits/deflate/DeflateBitReader", "peekBits", "(I)I"⟩ : MethodName) prog_31_method_2_code 2 (some .int) :: ws) ({ frames := 1, cells := 0, slots := 0, locals := 12 } : Room)) (fun a_ U_ => a_ = #[(.ref a), (.int ct)] ∧ Z.Warmed39 U_.vm ∧ U_.heap = h0) (fun _ _ _ _ _ => True) (fun _ U_ o_ U' => ∃ v_ L_, o_ = .returned v_ ∧ (Q5b Z a ct ad f nx bf nb o h0 n0 v_ U'.heap L_) ∧ FrameEnd U_ o_ U' L_ ({ frames := 1, cells := 0, slots := 0, locals := 12 } : Room).cells ({ frames := 1, cells := 0, slots := 0, locals := 12 } : Room).slots) := by
  refine MetFree.of_bodySF (plainFor_of_name pn_6) hisR ?_
  intro p e s m args below meth c s₁ Bd hml0 hP hK
  obtain ⟨rfl, hZ, hh⟩ := hP
  have hx := Bd.exec
  have hby := Bd.bytes
  have hml : c.maxLocals = 2 := hml0
  have hown : s.vm.findClass "com/example/fewbits/fewbits/deflate/DeflateBitReader" = some m.cls := findClass_of_methodNamed Bd.named
  have hnm := (name_of_methodNamed Bd.named Bd.method).1
  have X0 : Stand p l e ({ frames := 1, cells := 0, slots := 0, locals := 12 } : Room) s m #[(.ref a), (.int ct)] below meth c s₁ [] 0 0 := Stand.of_body Bd
  have e0 : s₁.heap = h0 := by rw [← hh, Bd.state]; rfl
  have N0 := Fr.nil n0
  have pre0 : ∀ t, Steps p.tables e below (s₁.setTop (mkF m 0 #[.val (.ref a), .val (.int ct)] [])) t → Steps p.tables e below (s₁.setTop (entryFrame m #[(.ref a), (.int ct)] 2)) t := fun t k => castTop (ef_6 m a ct) k
  obtain ⟨T1, X1, e1, st1⟩ := getF X0 hx hZ hown (host := "") (Or.inl (hw _ (List.mem_of_getElem? (i := 33) rfl))) Via.refl e0 O0.2.2.2.2 (g := (mkF m 1 #[.val (.ref a), .val (.int ct)] [(.ref a)])) rfl rfl (hb hby d6_1)
  obtain ⟨cq2, qa2, qb2⟩ := Exa.cell O0.1
  obtain ⟨_, _, ⟨T2, L2, k2, n2⟩, -, X2, ⟨Lc2, hQ2, l2, y2, z2⟩, st2⟩ := X1.privateBack hx (y := (⟨"com/example/fewbits/fewbits/deflate/DeflateBitReader", "refill", "()V"⟩ : MethodName)) hown (mvT hZ (hw _ (List.mem_of_getElem? (i := 35) rfl))) (mvT hZ (hw _ (List.mem_of_getElem? (i := 36) rfl))) (own_selp (mvT (args := #[]) hZ (hw _ (List.mem_of_getElem? (i := 3) rfl))) (Cond.privateMethod_at (mvP hZ (hw _ (List.mem_of_getElem? (i := 37) rfl)) (args := #[]))) (mvT (args := #[]) hZ (hw _ (List.mem_of_getElem? (i := 36) rfl))) (by decide)) (Cond.privateMethod_at (mvP hZ (hw _ (List.mem_of_getElem? (i := 37) rfl)) (args := #[]))) (mvT hZ (hw _ (List.mem_of_getElem? (i := 38) rfl))) (by decide) (backOf (W := 0) (rm4 l Z a0 hw [] a ad f nx bf nb o h0 n0 Z0 ga O0 A0 ho hn hb0 hbf) hZ (hw _ (List.mem_of_getElem? (i := 38) rfl)) (hw _ (List.mem_of_getElem? (i := 4) rfl)) (by decide) (by decide)) (g := (mkF m 9 #[.val (.ref a), .val (.int ct)] [(.ref a)])) rfl (by rw [hml]; rfl) (Steps.refl _) (a := a) (by rw [e1]; exact qa2) qb2 (argsL := []) (rest := []) (lenOf pd_2 rfl) rfl (by show 2 * 0 + _ ≤ _; exact Nat.le_of_eq rfl) (hb hby d6_9) (fun _ _ => ⟨rfl, e1, (by decide : 0 + 0 ≤ _), (by decide : 0 + 0 ≤ _)⟩)
  dsimp only [Pt.U, Pt.locs, Pt.cells, Pt.slots] at X2 l2 y2 z2 st2 hQ2
  subst l2 y2 z2
  obtain ⟨rfl, Nq2, Kq2, ⟨nx', nb', bf', r1, r2, r3, Oq2⟩, Aq2⟩ := hQ2
  have N2 := Fr.app N0 Nq2
  have Z2 : n0 ≤ T2.heap.size := Nat.le_trans Z0 Kq2.1
  obtain ⟨T3, X3, e3, st3⟩ := getF X2 hx hZ hown (host := "") (Or.inl (hw _ (List.mem_of_getElem? (i := 39) rfl))) Via.refl rfl Oq2.2.2.2.1 (g := (mkF m 13 #[.val (.ref a), .val (.int ct)] [(.ref a)])) rfl rfl (hb hby d6_13)
  obtain ⟨fs, hr, hrun, hended, hW, hsame⟩ := X3.leave (v := some (.int ((bf'.toInt32) &&& (((1 : Int32) <<< (ct &&& 31)) - (1 : Int32))))) (fun h => by rw [Bd.returns] at h; cases h)
  refine ⟨_, _, pre0 _ ?_, hrun, hended, _, _, rfl, ⟨⟨nx', nb', bf', rfl, r1, r2, r3, (by show own_Db Z T3.heap a (.ref ad) (.int nx') (.long bf') (.int nb'); rw [e3]; exact Oq2)⟩, N2, (by show Keep h0 T3.heap [a]; rw [e3]; exact Kq2), (by show own_AI Z T3.heap ad .byte (8 : Int32) f; rw [e3]; exact Aq2)⟩, ⟨_, rfl⟩, hW, hsame.mono (by decide) (by decide)⟩
  show Steps p.tables e below (s₁.setTop (mkF m 0 #[.val (.ref a), .val (.int ct)] [])) _
  refine XS.aloadN X0.here hx rfl (hb hby d6_0) rfl rfl ?_
  show Steps p.tables e below (s₁.setTop (mkF m 1 #[.val (.ref a), .val (.int ct)] [(.ref a)])) _
  refine st1 _ ?_
  show Steps p.tables e below (T1.setTop (mkF m 4 #[.val (.ref a), .val (.int ct)] [(.int nb)])) _
  refine XS.iloadN X1.here hx rfl (hb hby d6_4) rfl ?_
  show Steps p.tables e below (T1.setTop (mkF m 5 #[.val (.ref a), .val (.int ct)] [(.int ct), (.int nb)])) _
  refine XS.icmpNo X1.here hx rfl (hb hby d6_5) rfl (tlt hq).2.1 ?_
  show Steps p.tables e below (T1.setTop (mkF m 8 #[.val (.ref a), .val (.int ct)] [])) _
  refine XS.aloadN X1.here hx rfl (hb hby d6_8) rfl rfl ?_
  show Steps p.tables e below (T1.setTop (mkF m 9 #[.val (.ref a), .val (.int ct)] [(.ref a)])) _
  refine st2.trans ?_
  show Steps p.tables e below (T2.setTop (mkF m 12 #[.val (.ref a), .val (.int ct)] [])) _
  refine XS.aloadN X2.here hx rfl (hb hby d6_12) rfl rfl ?_
  show Steps p.tables e below (T2.setTop (mkF m 13 #[.val (.ref a), .val (.int ct)] [(.ref a)])) _
  refine st3 _ ?_
  show Steps p.tables e below (T3.setTop (mkF m 16 #[.val (.ref a), .val (.int ct)] [(.long bf')])) _
  refine XS.l2i X3.here hx rfl (hb hby d6_16) rfl ?_
  show Steps p.tables e below (T3.setTop (mkF m 17 #[.val (.ref a), .val (.int ct)] [(.int (bf'.toInt32))])) _
  refine XS.iconst X3.here hx rfl (hb hby d6_17) ?_
  show Steps p.tables e below (T3.setTop (mkF m 18 #[.val (.ref a), .val (.int ct)] [(.int (1 : Int32)), (.int (bf'.toInt32))])) _
  refine XS.iloadN X3.here hx rfl (hb hby d6_18) rfl ?_
  show Steps p.tables e below (T3.setTop (mkF m 19 #[.val (.ref a), .val (.int ct)] [(.int ct), (.int (1 : Int32)), (.int (bf'.toInt32))])) _
  refine XS.ishl X3.here hx rfl (hb hby d6_19) rfl ?_
  show Steps p.tables e below (T3.setTop (mkF m 20 #[.val (.ref a), .val (.int ct)] [(.int ((1 : Int32) <<< (ct &&& 31))), (.int (bf'.toInt32))])) _
  refine XS.iconst X3.here hx rfl (hb hby d6_20) ?_
  show Steps p.tables e below (T3.setTop (mkF m 21 #[.val (.ref a), .val (.int ct)] [(.int (1 : Int32)), (.int ((1 : Int32) <<< (ct &&& 31))), (.int (bf'.toInt32))])) _
  refine XS.isub X3.here hx rfl (hb hby d6_21) rfl ?_
  show Steps p.tables e below (T3.setTop (mkF m 22 #[.val (.ref a), .val (.int ct)] [(.int (((1 : Int32) <<< (ct &&& 31)) - (1 : Int32))), (.int (bf'.toInt32))])) _
  refine XS.iand X3.here hx rfl (hb hby d6_22) rfl ?_
  show Steps p.tables e below (T3.setTop (mkF m 23 #[.val (.ref a), .val (.int ct)] [(.int ((bf'.toInt32) &&& (((1 : Int32) <<< (ct &&& 31)) - (1 : Int32))))])) _
  exact own_retI X3 hx Bd.returns (hb hby d6_23) hr
theorem d8_0 : decode prog_31_method_3_code 0 = .ok (.aload_n 0, 1) := by decide +kernel
theorem d8_1 : decode prog_31_method_3_code 1 = .ok (.getfield 23, 3) := by decide +kernel
theorem d8_4 : decode prog_31_method_3_code 4 = .ok (.iload_n 1, 1) := by decide +kernel
theorem d8_5 : decode prog_31_method_3_code 5 = .ok (.if_icmp .ge 33, 3) := by decide +kernel
theorem d8_8 : decode prog_31_method_3_code 8 = .ok (.aload_n 0, 1) := by decide +kernel
theorem d8_9 : decode prog_31_method_3_code 9 = .ok (.invokevirtual 26, 3) := by decide +kernel
theorem d8_12 : decode prog_31_method_3_code 12 = .ok (.aload_n 0, 1) := by decide +kernel
theorem d8_13 : decode prog_31_method_3_code 13 = .ok (.getfield 23, 3) := by decide +kernel
theorem d8_16 : decode prog_31_method_3_code 16 = .ok (.iload_n 1, 1) := by decide +kernel
theorem d8_17 : decode prog_31_method_3_code 17 = .ok (.if_icmp .ge 21, 3) := by decide +kernel
theorem d8_20 : decode prog_31_method_3_code 20 = .ok (.new 33, 3) := by decide +kernel
theorem d8_23 : decode prog_31_method_3_code 23 = .ok (.dup, 1) := by decide +kernel
theorem d8_24 : decode prog_31_method_3_code 24 = .ok (.iload_n 1, 1) := by decide +kernel
theorem d8_25 : decode prog_31_method_3_code 25 = .ok (.aload_n 0, 1) := by decide +kernel
theorem d8_26 : decode prog_31_method_3_code 26 = .ok (.getfield 23, 3) := by decide +kernel
theorem d8_29 : decode prog_31_method_3_code 29 = .ok (.invokedynamic 35, 5) := by decide +kernel
theorem d8_34 : decode prog_31_method_3_code 34 = .ok (.invokespecial 39, 3) := by decide +kernel
theorem d8_37 : decode prog_31_method_3_code 37 = .ok (.athrow, 1) := by decide +kernel
theorem d8_38 : decode prog_31_method_3_code 38 = .ok (.aload_n 0, 1) := by decide +kernel
theorem d8_39 : decode prog_31_method_3_code 39 = .ok (.dup, 1) := by decide +kernel
theorem d8_40 : decode prog_31_method_3_code 40 = .ok (.getfield 29, 3) := by decide +kernel
theorem d8_43 : decode prog_31_method_3_code 43 = .ok (.iload_n 1, 1) := by decide +kernel
theorem d8_44 : decode prog_31_method_3_code 44 = .ok (.lushr, 1) := by decide +kernel
theorem d8_45 : decode prog_31_method_3_code 45 = .ok (.putfield 29, 3) := by decide +kernel
theorem d8_48 : decode prog_31_method_3_code 48 = .ok (.aload_n 0, 1) := by decide +kernel
theorem d8_49 : decode prog_31_method_3_code 49 = .ok (.dup, 1) := by decide +kernel
theorem d8_50 : decode prog_31_method_3_code 50 = .ok (.getfield 23, 3) := by decide +kernel
theorem d8_53 : decode prog_31_method_3_code 53 = .ok (.iload_n 1, 1) := by decide +kernel
theorem d8_54 : decode prog_31_method_3_code 54 = .ok (.isub, 1) := by decide +kernel
theorem d8_55 : decode prog_31_method_3_code 55 = .ok (.putfield 23, 3) := by decide +kernel
theorem d8_58 : decode prog_31_method_3_code 58 = .ok (.return_, 1) := by decide +kernel
theorem pn_8 : plainName "com/example/fewbits/fewbits/deflate/DeflateBitReader" = true := by first | (simp [plainName, overriddenIn]; done) | decide +kernel
theorem ef_8 (m : MethodId) (x0 : Addr) (x1 : Int32) : entryFrame m #[(.ref x0), (.int x1)] 2 = mkF m 0 #[.val (.ref x0), .val (.int x1)] [] := by first | (simp [entryFrame, mkF, argsToLocals, Value.category]; done) | rfl
def Q6 (Z : State) (a : Addr) (ct : Int32) (ad : Addr) (f : Nat → Int32) (nx : Int32) (bf : Int64) (nb : Int32) (h0 : Heap) (n0 : Nat) (v : Option Value) (h : Heap) (L : List Loc) : Prop := v = none ∧ Fr n0 L ∧ Keep h0 h [a] ∧ own_Db Z h a (.ref ad) (.int nx) (.long ((bf.toUInt64 >>> (ct &&& 0x3f).toInt64.toUInt64).toInt64)) (.int (nb - ct)) ∧ own_AI Z h ad .byte (8 : Int32) f
set_option maxRecDepth 65536 in
set_option maxHeartbeats 40000000 in
theorem rm6 (l : Launch) (Z : State) (a0 : Array Value) (hw : ∀ d ∈ tables_1, d.before a0 Z = true) (ws : List Jvm.Cond) (a : Addr) (ct : Int32) (ad : Addr) (f : Nat → Int32) (nx : Int32) (bf : Int64) (nb : Int32) (h0 : Heap) (n0 : Nat) (Z0 : n0 ≤ h0.size) (ga : n0 ≤ a) (O0 : own_Db Z h0 a (.ref ad) (.int nx) (.long bf) (.int nb)) (A0 : own_AI Z h0 ad .byte (8 : Int32) f) (hq : ¬ nb < ct) :
    MetFree l (⟨"com/example/fewbits/fewbits/deflate/DeflateBitReader", "skipBits", "(I)V"⟩ : MethodName) (head1 (Jvm.Cond.code (⟨"com/example/fewbits/fewbits/deflate/DeflateBitReader", "skipBits", "(I)V"⟩ : MethodName) prog_31_method_3_code 2 none :: ws) ({ frames := 0, cells := 0, slots := 0, locals := 0 } : Room)) (fun a_ U_ => a_ = #[(.ref a), (.int ct)] ∧ Z.Warmed39 U_.vm ∧ U_.heap = h0) (fun _ _ _ _ _ => True) (fun _ U_ o_ U' => ∃ v_ L_, o_ = .returned v_ ∧ (Q6 Z a ct ad f nx bf nb h0 n0 v_ U'.heap L_) ∧ FrameEnd U_ o_ U' L_ ({ frames := 0, cells := 0, slots := 0, locals := 0 } : Room).cells ({ frames := 0, cells := 0, slots := 0, locals := 0 } : Room).slots) := by
  refine MetFree.of_bodySF (plainFor_of_name pn_8) hisR ?_
  intro p e s m args below meth c s₁ Bd hml0 hP hK
  obtain ⟨rfl, hZ, hh⟩ := hP
  have hx := Bd.exec
  have hby := Bd.bytes
  have hml : c.maxLocals = 2 := hml0
  have hown : s.vm.findClass "com/example/fewbits/fewbits/deflate/DeflateBitReader" = some m.cls := findClass_of_methodNamed Bd.named
  have hnm := (name_of_methodNamed Bd.named Bd.method).1
  have X0 : Stand p l e ({ frames := 0, cells := 0, slots := 0, locals := 0 } : Room) s m #[(.ref a), (.int ct)] below meth c s₁ [] 0 0 := Stand.of_body Bd
  have e0 : s₁.heap = h0 := by rw [← hh, Bd.state]; rfl
  have N0 := Fr.nil n0
  have pre0 : ∀ t, Steps p.tables e below (s₁.setTop (mkF m 0 #[.val (.ref a), .val (.int ct)] [])) t → Steps p.tables e below (s₁.setTop (entryFrame m #[(.ref a), (.int ct)] 2)) t := fun t k => castTop (ef_8 m a ct) k
  obtain ⟨T1, X1, e1, st1⟩ := getF X0 hx hZ hown (host := "") (Or.inl (hw _ (List.mem_of_getElem? (i := 33) rfl))) Via.refl e0 O0.2.2.2.2 (g := (mkF m 1 #[.val (.ref a), .val (.int ct)] [(.ref a)])) rfl rfl (hb hby d8_1)
  obtain ⟨T2, X2, e2, st2⟩ := getF X1 hx hZ hown (host := "") (Or.inl (hw _ (List.mem_of_getElem? (i := 39) rfl))) Via.refl e1 O0.2.2.2.1 (g := (mkF m 40 #[.val (.ref a), .val (.int ct)] [(.ref a), (.ref a)])) rfl rfl (hb hby d8_40)
  obtain ⟨T3, h3, X3, e3, W3, st3⟩ := putF X2 hx hZ hown (host := "") (Or.inl (hw _ (List.mem_of_getElem? (i := 39) rfl))) Via.refl e2 O0.2.2.2.1 O0.1 (Or.inl (hw _ (List.mem_of_getElem? (i := 40) rfl))) (hw _ (List.mem_of_getElem? (i := 3) rfl)) (ty := .long) (by decide) rfl rfl (g := (mkF m 45 #[.val (.ref a), .val (.int ct)] [(.long ((bf.toUInt64 >>> (ct &&& 0x3f).toInt64.toUInt64).toInt64)), (.ref a)])) rfl rfl (hb hby d8_45)
  have N3 := Fr.snoc X3 N0 ga
  have K3 : Keep h0 h3 [a] := (Keep.refl h0 [a]).wr W3 (Or.inl (List.mem_of_getElem? (i := 0) rfl))
  have A3_ad := A0.other W3 (own_ne_obj O0.1 (hw _ (List.mem_of_getElem? (i := 3) rfl)) A0).symm
  have O3 := own_Db_set_m_nBuffer hw O0 W3
  have Z3 : n0 ≤ h3.size := Nat.le_trans Z0 (Nat.le_of_eq (W3.size).symm)
  obtain ⟨T4, X4, e4, st4⟩ := getF X3 hx hZ hown (host := "") (Or.inl (hw _ (List.mem_of_getElem? (i := 33) rfl))) Via.refl e3 O3.2.2.2.2 (g := (mkF m 50 #[.val (.ref a), .val (.int ct)] [(.ref a), (.ref a)])) rfl rfl (hb hby d8_50)
  obtain ⟨T5, h5, X5, e5, W5, st5⟩ := putF X4 hx hZ hown (host := "") (Or.inl (hw _ (List.mem_of_getElem? (i := 33) rfl))) Via.refl e4 O3.2.2.2.2 O3.1 (Or.inl (hw _ (List.mem_of_getElem? (i := 34) rfl))) (hw _ (List.mem_of_getElem? (i := 3) rfl)) (ty := .int) (by decide) rfl rfl (g := (mkF m 55 #[.val (.ref a), .val (.int ct)] [(.int (nb - ct)), (.ref a)])) rfl rfl (hb hby d8_55)
  have N5 := Fr.snoc X5 N3 ga
  have K5 : Keep h0 h5 [a] := K3.wr W5 (Or.inl (List.mem_of_getElem? (i := 0) rfl))
  have A5_ad := A3_ad.other W5 (own_ne_obj O3.1 (hw _ (List.mem_of_getElem? (i := 3) rfl)) A3_ad).symm
  have O5 := own_Db_set_m_nBufferBits hw O3 W5
  have Z5 : n0 ≤ h5.size := Nat.le_trans Z3 (Nat.le_of_eq (W5.size).symm)
  obtain ⟨fs, hr, hrun, hended, hW, hsame⟩ := X5.leave (v := none) (fun _ => rfl)
  refine ⟨_, _, pre0 _ ?_, hrun, hended, _, _, rfl, ⟨rfl, N5, (by show Keep h0 T5.heap [a]; rw [e5]; exact K5), (by show own_Db Z T5.heap a (.ref ad) (.int nx) (.long ((bf.toUInt64 >>> (ct &&& 0x3f).toInt64.toUInt64).toInt64)) (.int (nb - ct)); rw [e5]; exact O5), (by show own_AI Z T5.heap ad .byte (8 : Int32) f; rw [e5]; exact A5_ad)⟩, ⟨_, rfl⟩, hW, hsame.mono (by decide) (by decide)⟩
  show Steps p.tables e below (s₁.setTop (mkF m 0 #[.val (.ref a), .val (.int ct)] [])) _
  refine XS.aloadN X0.here hx rfl (hb hby d8_0) rfl rfl ?_
  show Steps p.tables e below (s₁.setTop (mkF m 1 #[.val (.ref a), .val (.int ct)] [(.ref a)])) _
  refine st1 _ ?_
  show Steps p.tables e below (T1.setTop (mkF m 4 #[.val (.ref a), .val (.int ct)] [(.int nb)])) _
  refine XS.iloadN X1.here hx rfl (hb hby d8_4) rfl ?_
  show Steps p.tables e below (T1.setTop (mkF m 5 #[.val (.ref a), .val (.int ct)] [(.int ct), (.int nb)])) _
  refine XS.icmpYes X1.here hx rfl (pc0 := 5) (pc' := 38) rfl (hb hby d8_5) rfl (flt hq).2.1 (by decide) (by decide) ?_
  show Steps p.tables e below (T1.setTop (mkF m 38 #[.val (.ref a), .val (.int ct)] [])) _
  refine XS.aloadN X1.here hx rfl (hb hby d8_38) rfl rfl ?_
  show Steps p.tables e below (T1.setTop (mkF m 39 #[.val (.ref a), .val (.int ct)] [(.ref a)])) _
  refine XS.dup X1.here hx rfl (hb hby d8_39) rfl rfl ?_
  show Steps p.tables e below (T1.setTop (mkF m 40 #[.val (.ref a), .val (.int ct)] [(.ref a), (.ref a)])) _
  refine st2 _ ?_
  show Steps p.tables e below (T2.setTop (mkF m 43 #[.val (.ref a), .val (.int ct)] [(.long bf), (.ref a)])) _
  refine XS.iloadN X2.here hx rfl (hb hby d8_43) rfl ?_
  show Steps p.tables e below (T2.setTop (mkF m 44 #[.val (.ref a), .val (.int ct)] [(.int ct), (.long bf), (.ref a)])) _
  refine XS.lushr X2.here hx rfl (hb hby d8_44) rfl ?_
  show Steps p.tables e below (T2.setTop (mkF m 45 #[.val (.ref a), .val (.int ct)] [(.long ((bf.toUInt64 >>> (ct &&& 0x3f).toInt64.toUInt64).toInt64)), (.ref a)])) _
  refine st3 _ ?_
  show Steps p.tables e below (T3.setTop (mkF m 48 #[.val (.ref a), .val (.int ct)] [])) _
  refine XS.aloadN X3.here hx rfl (hb hby d8_48) rfl rfl ?_
  show Steps p.tables e below (T3.setTop (mkF m 49 #[.val (.ref a), .val (.int ct)] [(.ref a)])) _
  refine XS.dup X3.here hx rfl (hb hby d8_49) rfl rfl ?_
  show Steps p.tables e below (T3.setTop (mkF m 50 #[.val (.ref a), .val (.int ct)] [(.ref a), (.ref a)])) _
  refine st4 _ ?_
  show Steps p.tables e below (T4.setTop (mkF m 53 #[.val (.ref a), .val (.int ct)] [(.int nb), (.ref a)])) _
  refine XS.iloadN X4.here hx rfl (hb hby d8_53) rfl ?_
  show Steps p.tables e below (T4.setTop (mkF m 54 #[.val (.ref a), .val (.int ct)] [(.int ct), (.int nb), (.ref a)])) _
  refine XS.isub X4.here hx rfl (hb hby d8_54) rfl ?_
  show Steps p.tables e below (T4.setTop (mkF m 55 #[.val (.ref a), .val (.int ct)] [(.int (nb - ct)), (.ref a)])) _
  refine st5 _ ?_
  show Steps p.tables e below (T5.setTop (mkF m 58 #[.val (.ref a), .val (.int ct)] [])) _
  exact X5.returnOut hx Bd.returns (hb hby d8_58) hr
/-- what the reader holds when n bits have been read from the place o -/
def own_Is (f : Nat → Int32) (o n : Nat) (nx nb : Int32) (bf : Int64) : Prop := (n = 0 ∧ nx.toInt = (o : Nat) ∧ nb.toInt = (0 : Nat) ∧ own_nat bf = 0) ∨ (nx.toInt = 8 ∧ nb.toInt = (8 * (8 - o) - n : Nat) ∧ own_nat bf = own_dat f o (8 - o) / 2 ^ n)
def own_R (Z : State) (h : Heap) (a ad : Addr) (f : Nat → Int32) (o n : Nat) : Prop := ∃ (nx nb : Int32) (bf : Int64), own_Db Z h a (.ref ad) (.int nx) (.long bf) (.int nb) ∧ own_Is f o n nx nb bf
theorem own_R_exa {Z : State} {h : Heap} {a ad : Addr} {f : Nat → Int32} {o n : Nat} (r : own_R Z h a ad f o n) : Exa Z h a "com/example/fewbits/fewbits/deflate/DeflateBitReader" := by obtain ⟨nx, nb, bf, O, -⟩ := r; exact O.1
theorem own_Is_skip {f : Nat → Int32} {o n k : Nat} {nx nb ct : Int32} {bf : Int64} (hI : own_Is f o n nx nb bf) (hk : ct.toInt = (k : Nat)) (h16 : k ≤ 16) (ho : o ≤ 4) (hn : n + k ≤ 8 * (8 - o)) (hq : ¬ nb < ct) : own_Is f o (n + k) nx (nb - ct) ((bf.toUInt64 >>> (ct &&& 0x3f).toInt64.toUInt64).toInt64) := by
  rcases hI with ⟨rfl, h1, h2, h3⟩ | ⟨h1, h2, h3⟩
  · rw [own_i_lt h2 hk] at hq
    obtain rfl : k = 0 := by omega
    refine Or.inl ⟨rfl, h1, ?_, ?_⟩
    · rw [own_i_sub h2 hk (by omega)]; omega
    · rw [own_ushr bf hk (by omega), h3, Nat.zero_div]
  · refine Or.inr ⟨h1, ?_, ?_⟩
    · rw [own_i_sub h2 hk (by omega)]; omega
    · rw [own_ushr bf hk (by omega), h3, Nat.div_div_eq_div_mul, ← Nat.pow_add]
theorem own_peek8 (bf : Int64) {ct : Int32} (hk : ct.toInt = 8) : ((bf.toInt32) &&& (((1 : Int32) <<< (ct &&& 31)) - (1 : Int32))).toInt = (own_nat bf % 256 : Nat) := by
  obtain rfl : ct = (8 : Int32) := own_i_of hk
  have e : (((1 : Int32) <<< ((8 : Int32) &&& 31)) - (1 : Int32)) = (255 : Int32) := by decide
  rw [e, c_mask (bf.toInt32) (255 : Int32) 8 (by decide) (by decide)]
  have h1 := c_l2i bf
  have h2 := own_natI bf
  show bf.toInt32.toInt % 256 = _
  omega
theorem d5_0 : decode prog_31_method_4_code 0 = .ok (.aload_n 0, 1) := by decide +kernel
theorem d5_1 : decode prog_31_method_4_code 1 = .ok (.iload_n 1, 1) := by decide +kernel
theorem d5_2 : decode prog_31_method_4_code 2 = .ok (.invokevirtual 42, 3) := by decide +kernel
theorem d5_5 : decode prog_31_method_4_code 5 = .ok (.istore_n 2, 1) := by decide +kernel
theorem d5_6 : decode prog_31_method_4_code 6 = .ok (.aload_n 0, 1) := by decide +kernel
theorem d5_7 : decode prog_31_method_4_code 7 = .ok (.iload_n 1, 1) := by decide +kernel
theorem d5_8 : decode prog_31_method_4_code 8 = .ok (.invokevirtual 46, 3) := by decide +kernel
theorem d5_11 : decode prog_31_method_4_code 11 = .ok (.iload_n 2, 1) := by decide +kernel
theorem d5_12 : decode prog_31_method_4_code 12 = .ok (.ireturn, 1) := by decide +kernel
theorem pn_5 : plainName "com/example/fewbits/fewbits/deflate/DeflateBitReader" = true := by first | (simp [plainName, overriddenIn]; done) | decide +kernel
theorem ef_5 (m : MethodId) (x0 : Addr) (x1 : Int32) : entryFrame m #[(.ref x0), (.int x1)] 3 = mkF m 0 #[.val (.ref x0), .val (.int x1), .unset] [] := by first | (simp [entryFrame, mkF, argsToLocals, Value.category]; done) | rfl
theorem pd_3 : parseMethodDescriptor "(I)I" = some ⟨[.int], some .int⟩ := by decide +kernel
theorem pd_4 : parseMethodDescriptor "(I)V" = some ⟨[.int], none⟩ := by decide +kernel
def Q7a (Z : State) (a : Addr) (ct : Int32) (ad : Addr) (f : Nat → Int32) (nx : Int32) (bf : Int64) (nb : Int32) (o : Nat) (n : Nat) (k : Nat) (h0 : Heap) (n0 : Nat) (v : Option Value) (h : Heap) (L : List Loc) : Prop := (∃ r : Int32, v = some (.int r) ∧ (ct.toInt = 8 → r.toInt = (own_dat f o (8 - o) / 2 ^ n % 256 : Nat))) ∧ Fr n0 L ∧ Keep h0 h [a] ∧ own_R Z h a ad f o (n + k) ∧ own_AI Z h ad .byte (8 : Int32) f
theorem own_val {f : Nat → Int32} {o n k : Nat} {nx nb ct : Int32} {bf : Int64} (hI : own_Is f o n nx nb bf) (hk : ct.toInt = (k : Nat)) (ho : o ≤ 4) (hn : n + k ≤ 8 * (8 - o)) (hq : ¬ nb < ct) (h8 : ct.toInt = 8) : ((bf.toInt32) &&& (((1 : Int32) <<< (ct &&& 31)) - (1 : Int32))).toInt = (own_dat f o (8 - o) / 2 ^ n % 256 : Nat) := by
  rw [own_peek8 bf h8]
  rcases hI with ⟨rfl, h1, h2, h3⟩ | ⟨h1, h2, h3⟩
  · exfalso; rw [own_i_lt h2 h8] at hq; omega
  · rw [h3]
set_option maxRecDepth 65536 in
set_option maxHeartbeats 40000000 in
theorem rm7a (l : Launch) (Z : State) (a0 : Array Value) (hw : ∀ d ∈ tables_1, d.before a0 Z = true) (ws : List Jvm.Cond) (a : Addr) (ct : Int32) (ad : Addr) (f : Nat → Int32) (nx : Int32) (bf : Int64) (nb : Int32) (o : Nat) (n : Nat) (k : Nat) (h0 : Heap) (n0 : Nat) (Z0 : n0 ≤ h0.size) (ga : n0 ≤ a) (O0 : own_Db Z h0 a (.ref ad) (.int nx) (.long bf) (.int nb)) (A0 : own_AI Z h0 ad .byte (8 : Int32) f) (ho : o ≤ 4) (hk : ct.toInt = (k : Nat)) (h16 : k ≤ 16) (hn : n + k ≤ 8 * (8 - o)) (hI : own_Is f o n nx nb bf) (hq : ¬ nb < ct) :
    MetFree l (⟨"com/example/fewbits/fewbits/deflate/DeflateBitReader", "readBits", "(I)I"⟩ : MethodName) (head1 (Jvm.Cond.code (⟨"com/example/fewbits/fewbits/deflate/DeflateBitReader", "readBits", "(I)I"⟩ : MethodName) prog_31_method_4_code 3 (some .int) :: ws) ({ frames := 2, cells := 0, slots := 0, locals := 40 } : Room)) (fun a_ U_ => a_ = #[(.ref a), (.int ct)] ∧ Z.Warmed39 U_.vm ∧ U_.heap = h0) (fun _ _ _ _ _ => True) (fun _ U_ o_ U' => ∃ v_ L_, o_ = .returned v_ ∧ (Q7a Z a ct ad f nx bf nb o n k h0 n0 v_ U'.heap L_) ∧ FrameEnd U_ o_ U' L_ ({ frames := 2, cells := 0, slots := 0, locals := 40 } : Room).cells ({ frames := 2, cells := 0, slots := 0, locals := 40 } : Room).slots) := by
  refine MetFree.of_bodySF (plainFor_of_name pn_5) hisR ?_
  intro p e s m args below meth c s₁ Bd hml0 hP hK
  obtain ⟨rfl, hZ, hh⟩ := hP
  have hx := Bd.exec
  have hby := Bd.bytes
  have hml : c.maxLocals = 3 := hml0
  have hown : s.vm.findClass "com/example/fewbits/fewbits/deflate/DeflateBitReader" = some m.cls := findClass_of_methodNamed Bd.named
  have hnm := (name_of_methodNamed Bd.named Bd.method).1
  have X0 : Stand p l e ({ frames := 2, cells := 0, slots := 0, locals := 40 } : Room) s m #[(.ref a), (.int ct)] below meth c s₁ [] 0 0 := Stand.of_body Bd
  have e0 : s₁.heap = h0 := by rw [← hh, Bd.state]; rfl
  have N0 := Fr.nil n0
  have pre0 : ∀ t, Steps p.tables e below (s₁.setTop (mkF m 0 #[.val (.ref a), .val (.int ct), .unset] [])) t → Steps p.tables e below (s₁.setTop (entryFrame m #[(.ref a), (.int ct)] 3)) t := fun t k => castTop (ef_5 m a ct) k
  obtain ⟨cq1, kq1, qa1, qb1, qc1⟩ := isOf hZ e0 O0.1
  obtain ⟨_, _, ⟨T1, L1, k1, n1⟩, -, X1, ⟨Lc1, hQ1, l1, y1, z1⟩, st1⟩ := X0.virtualBack hx (y := (⟨"com/example/fewbits/fewbits/deflate/DeflateBitReader", "peekBits", "(I)I"⟩ : MethodName)) (z := (⟨"com/example/fewbits/fewbits/deflate/DeflateBitReader", "peekBits", "(I)I"⟩ : MethodName)) hown (mvT hZ (hw _ (List.mem_of_getElem? (i := 28) rfl))) (mvT hZ (hw _ (List.mem_of_getElem? (i := 29) rfl))) (notFace_of_selects (args := #[]) (mvT hZ (hw _ (List.mem_of_getElem? (i := 31) rfl)))) (mvT hZ (hw _ (List.mem_of_getElem? (i := 31) rfl))) (mvT hZ (hw _ (List.mem_of_getElem? (i := 30) rfl))) (by decide) (backOf (W := 0) (rm5a l Z a0 hw [] a ct ad f nx bf nb h0 n0 Z0 ga O0 A0 hq) hZ (hw _ (List.mem_of_getElem? (i := 32) rfl)) (hw _ (List.mem_of_getElem? (i := 4) rfl)) (by decide) (by decide)) qa1 qc1 (g := (mkF m 2 #[.val (.ref a), .val (.int ct), .unset] [(.int ct), (.ref a)])) rfl (by rw [hml]; rfl) (Steps.refl _) (argsL := [(.int ct)]) (rest := []) (lenOf pd_3 rfl) rfl (by show 2 * 0 + _ ≤ _; exact Nat.le_of_eq rfl) (hb hby d5_2) (fun _ _ => ⟨rfl, e0, (by decide : 0 + 0 ≤ _), (by decide : 0 + 0 ≤ _)⟩)
  dsimp only [Pt.U, Pt.locs, Pt.cells, Pt.slots] at X1 l1 y1 z1 st1 hQ1
  subst l1 y1 z1
  obtain ⟨rfl, Nq1, e1⟩ := hQ1
  have N1 := Fr.app N0 Nq1
  obtain ⟨Lg2, Xg2, Ng2⟩ := own_gen X1 N1
  obtain ⟨cq3, kq3, qa3, qb3, qc3⟩ := isOf hZ e1 O0.1
  obtain ⟨_, _, ⟨T3, L3, k3, n3⟩, -, X3, ⟨Lc3, hQ3, l3, y3, z3⟩, st3⟩ := Xg2.virtualBack hx (y := (⟨"com/example/fewbits/fewbits/deflate/DeflateBitReader", "skipBits", "(I)V"⟩ : MethodName)) (z := (⟨"com/example/fewbits/fewbits/deflate/DeflateBitReader", "skipBits", "(I)V"⟩ : MethodName)) hown (mvT hZ (hw _ (List.mem_of_getElem? (i := 42) rfl))) (mvT hZ (hw _ (List.mem_of_getElem? (i := 43) rfl))) (notFace_of_selects (args := #[]) (mvT hZ (hw _ (List.mem_of_getElem? (i := 45) rfl)))) (mvT hZ (hw _ (List.mem_of_getElem? (i := 45) rfl))) (mvT hZ (hw _ (List.mem_of_getElem? (i := 44) rfl))) (by decide) (backOf (W := 0) (rm6 l Z a0 hw [] a ct ad f nx bf nb h0 n0 Z0 ga O0 A0 hq) hZ (hw _ (List.mem_of_getElem? (i := 46) rfl)) (hw _ (List.mem_of_getElem? (i := 4) rfl)) (by decide) (by decide)) qa3 qc3 (g := (mkF m 8 #[.val (.ref a), .val (.int ct), .val (.int ((bf.toInt32) &&& (((1 : Int32) <<< (ct &&& 31)) - (1 : Int32))))] [(.int ct), (.ref a)])) rfl (by rw [hml]; rfl) (Steps.refl _) (argsL := [(.int ct)]) (rest := []) (lenOf pd_4 rfl) rfl (by show 2 * 0 + _ ≤ _; exact Nat.le_of_eq rfl) (hb hby d5_8) (fun _ _ => ⟨rfl, e1, (by decide : 0 + 0 ≤ _), (by decide : 0 + 0 ≤ _)⟩)
  dsimp only [Pt.U, Pt.locs, Pt.cells, Pt.slots] at X3 l3 y3 z3 st3 hQ3
  subst l3 y3 z3
  obtain ⟨rfl, Nq3, Kq3, Oq3, Aq3⟩ := hQ3
  have N3 := Fr.app Ng2 Nq3
  have Z3 : n0 ≤ T3.heap.size := Nat.le_trans Z0 Kq3.1
  have KK3 : Keep h0 T3.heap [a] := Keep.trans (Keep.refl h0 [a]) Kq3 (fun x hx => Or.inl hx)
  obtain ⟨fs, hr, hrun, hended, hW, hsame⟩ := X3.leave (v := some (.int ((bf.toInt32) &&& (((1 : Int32) <<< (ct &&& 31)) - (1 : Int32))))) (fun h => by rw [Bd.returns] at h; cases h)
  refine ⟨_, _, pre0 _ ?_, hrun, hended, _, _, rfl, ⟨⟨_, rfl, fun h8 => own_val hI hk ho hn hq h8⟩, N3, KK3, ⟨_, _, _, Oq3, own_Is_skip hI hk h16 ho hn hq⟩, Aq3⟩, ⟨_, rfl⟩, hW, hsame.mono (by decide) (by decide)⟩
  show Steps p.tables e below (s₁.setTop (mkF m 0 #[.val (.ref a), .val (.int ct), .unset] [])) _
  refine XS.aloadN X0.here hx rfl (hb hby d5_0) rfl rfl ?_
  show Steps p.tables e below (s₁.setTop (mkF m 1 #[.val (.ref a), .val (.int ct), .unset] [(.ref a)])) _
  refine XS.iloadN X0.here hx rfl (hb hby d5_1) rfl ?_
  show Steps p.tables e below (s₁.setTop (mkF m 2 #[.val (.ref a), .val (.int ct), .unset] [(.int ct), (.ref a)])) _
  refine st1.trans ?_
  show Steps p.tables e below (T1.setTop (mkF m 5 #[.val (.ref a), .val (.int ct), .unset] [(.int ((bf.toInt32) &&& (((1 : Int32) <<< (ct &&& 31)) - (1 : Int32))))])) _
  refine XS.istoreN X1.here hx rfl (hb hby d5_5) rfl (l' := #[.val (.ref a), .val (.int ct), .val (.int ((bf.toInt32) &&& (((1 : Int32) <<< (ct &&& 31)) - (1 : Int32))))]) rfl ?_
  show Steps p.tables e below (T1.setTop (mkF m 6 #[.val (.ref a), .val (.int ct), .val (.int ((bf.toInt32) &&& (((1 : Int32) <<< (ct &&& 31)) - (1 : Int32))))] [])) _
  refine XS.aloadN X1.here hx rfl (hb hby d5_6) rfl rfl ?_
  show Steps p.tables e below (T1.setTop (mkF m 7 #[.val (.ref a), .val (.int ct), .val (.int ((bf.toInt32) &&& (((1 : Int32) <<< (ct &&& 31)) - (1 : Int32))))] [(.ref a)])) _
  refine XS.iloadN X1.here hx rfl (hb hby d5_7) rfl ?_
  show Steps p.tables e below (T1.setTop (mkF m 8 #[.val (.ref a), .val (.int ct), .val (.int ((bf.toInt32) &&& (((1 : Int32) <<< (ct &&& 31)) - (1 : Int32))))] [(.int ct), (.ref a)])) _
  refine st3.trans ?_
  show Steps p.tables e below (T3.setTop (mkF m 11 #[.val (.ref a), .val (.int ct), .val (.int ((bf.toInt32) &&& (((1 : Int32) <<< (ct &&& 31)) - (1 : Int32))))] [])) _
  refine XS.iloadN X3.here hx rfl (hb hby d5_11) rfl ?_
  show Steps p.tables e below (T3.setTop (mkF m 12 #[.val (.ref a), .val (.int ct), .val (.int ((bf.toInt32) &&& (((1 : Int32) <<< (ct &&& 31)) - (1 : Int32))))] [(.int ((bf.toInt32) &&& (((1 : Int32) <<< (ct &&& 31)) - (1 : Int32))))])) _
  exact own_retI X3 hx Bd.returns (hb hby d5_12) hr
def Q7b (Z : State) (a : Addr) (ct : Int32) (ad : Addr) (f : Nat → Int32) (nx : Int32) (bf : Int64) (nb : Int32) (o : Nat) (k : Nat) (h0 : Heap) (n0 : Nat) (v : Option Value) (h : Heap) (L : List Loc) : Prop := (∃ r : Int32, v = some (.int r) ∧ (ct.toInt = 8 → r.toInt = (own_dat f o (8 - o) / 2 ^ 0 % 256 : Nat))) ∧ Fr n0 L ∧ Keep h0 h [a] ∧ own_R Z h a ad f o (0 + k) ∧ own_AI Z h ad .byte (8 : Int32) f
set_option maxRecDepth 65536 in
set_option maxHeartbeats 40000000 in
theorem rm7b (l : Launch) (Z : State) (a0 : Array Value) (hw : ∀ d ∈ tables_1, d.before a0 Z = true) (ws : List Jvm.Cond) (a : Addr) (ct : Int32) (ad : Addr) (f : Nat → Int32) (nx : Int32) (bf : Int64) (nb : Int32) (o : Nat) (k : Nat) (h0 : Heap) (n0 : Nat) (Z0 : n0 ≤ h0.size) (ga : n0 ≤ a) (O0 : own_Db Z h0 a (.ref ad) (.int nx) (.long bf) (.int nb)) (A0 : own_AI Z h0 ad .byte (8 : Int32) f) (ho : o ≤ 4) (hk : ct.toInt = (k : Nat)) (h16 : k ≤ 16) (hn : 0 + k ≤ 8 * (8 - o)) (hn1 : nx.toInt = (o : Nat)) (hb0 : nb.toInt = (0 : Nat)) (hbf : own_nat bf = 0) (hq : nb < ct) :
    MetFree l (⟨"com/example/fewbits/fewbits/deflate/DeflateBitReader", "readBits", "(I)I"⟩ : MethodName) (head1 (Jvm.Cond.code (⟨"com/example/fewbits/fewbits/deflate/DeflateBitReader", "readBits", "(I)I"⟩ : MethodName) prog_31_method_4_code 3 (some .int) :: ws) ({ frames := 2, cells := 0, slots := 0, locals := 40 } : Room)) (fun a_ U_ => a_ = #[(.ref a), (.int ct)] ∧ Z.Warmed39 U_.vm ∧ U_.heap = h0) (fun _ _ _ _ _ => True) (fun _ U_ o_ U' => ∃ v_ L_, o_ = .returned v_ ∧ (Q7b Z a ct ad f nx bf nb o k h0 n0 v_ U'.heap L_) ∧ FrameEnd U_ o_ U' L_ ({ frames := 2, cells := 0, slots := 0, locals := 40 } : Room).cells ({ frames := 2, cells := 0, slots := 0, locals := 40 } : Room).slots) := by
  refine MetFree.of_bodySF (plainFor_of_name pn_5) hisR ?_
  intro p e s m args below meth c s₁ Bd hml0 hP hK
  obtain ⟨rfl, hZ, hh⟩ := hP
  have hx := Bd.exec
  have hby := Bd.bytes
  have hml : c.maxLocals = 3 := hml0
  have hown : s.vm.findClass "com/example/fewbits/fewbits/deflate/DeflateBitReader" = some m.cls := findClass_of_methodNamed Bd.named
  have hnm := (name_of_methodNamed Bd.named Bd.method).1
  have X0 : Stand p l e ({ frames := 2, cells := 0, slots := 0, locals := 40 } : Room) s m #[(.ref a), (.int ct)] below meth c s₁ [] 0 0 := Stand.of_body Bd
  have e0 : s₁.heap = h0 := by rw [← hh, Bd.state]; rfl
  have N0 := Fr.nil n0
  have pre0 : ∀ t, Steps p.tables e below (s₁.setTop (mkF m 0 #[.val (.ref a), .val (.int ct), .unset] [])) t → Steps p.tables e below (s₁.setTop (entryFrame m #[(.ref a), (.int ct)] 3)) t := fun t k => castTop (ef_5 m a ct) k
  obtain ⟨cq1, kq1, qa1, qb1, qc1⟩ := isOf hZ e0 O0.1
  obtain ⟨_, _, ⟨T1, L1, k1, n1⟩, -, X1, ⟨Lc1, hQ1, l1, y1, z1⟩, st1⟩ := X0.virtualBack hx (y := (⟨"com/example/fewbits/fewbits/deflate/DeflateBitReader", "peekBits", "(I)I"⟩ : MethodName)) (z := (⟨"com/example/fewbits/fewbits/deflate/DeflateBitReader", "peekBits", "(I)I"⟩ : MethodName)) hown (mvT hZ (hw _ (List.mem_of_getElem? (i := 28) rfl))) (mvT hZ (hw _ (List.mem_of_getElem? (i := 29) rfl))) (notFace_of_selects (args := #[]) (mvT hZ (hw _ (List.mem_of_getElem? (i := 31) rfl)))) (mvT hZ (hw _ (List.mem_of_getElem? (i := 31) rfl))) (mvT hZ (hw _ (List.mem_of_getElem? (i := 30) rfl))) (by decide) (backOf (W := 0) (rm5b l Z a0 hw [] a ct ad f nx bf nb o h0 n0 Z0 ga O0 A0 ho hn1 hb0 hbf hq) hZ (hw _ (List.mem_of_getElem? (i := 32) rfl)) (hw _ (List.mem_of_getElem? (i := 4) rfl)) (by decide) (by decide)) qa1 qc1 (g := (mkF m 2 #[.val (.ref a), .val (.int ct), .unset] [(.int ct), (.ref a)])) rfl (by rw [hml]; rfl) (Steps.refl _) (argsL := [(.int ct)]) (rest := []) (lenOf pd_3 rfl) rfl (by show 2 * 0 + _ ≤ _; exact Nat.le_of_eq rfl) (hb hby d5_2) (fun _ _ => ⟨rfl, e0, (by decide : 0 + 0 ≤ _), (by decide : 0 + 0 ≤ _)⟩)
  dsimp only [Pt.U, Pt.locs, Pt.cells, Pt.slots] at X1 l1 y1 z1 st1 hQ1
  subst l1 y1 z1
  obtain ⟨⟨nx', nb', bf', rfl, r1, r2, r3, Oq1⟩, Nq1, Kq1, Aq1⟩ := hQ1
  have N1 := Fr.app N0 Nq1
  have Z1 : n0 ≤ T1.heap.size := Nat.le_trans Z0 Kq1.1
  have hq' : ¬ nb' < ct := by rw [own_i_lt r2 hk]; omega
  have hI' : own_Is f o 0 nx' nb' bf' := Or.inr ⟨r1, r2, by rw [r3, Nat.pow_zero, Nat.div_one]⟩
  obtain ⟨Lg2, Xg2, Ng2⟩ := own_gen X1 N1
  obtain ⟨cq3, kq3, qa3, qb3, qc3⟩ := isOf hZ rfl Oq1.1
  obtain ⟨_, _, ⟨T3, L3, k3, n3⟩, -, X3, ⟨Lc3, hQ3, l3, y3, z3⟩, st3⟩ := Xg2.virtualBack hx (y := (⟨"com/example/fewbits/fewbits/deflate/DeflateBitReader", "skipBits", "(I)V"⟩ : MethodName)) (z := (⟨"com/example/fewbits/fewbits/deflate/DeflateBitReader", "skipBits", "(I)V"⟩ : MethodName)) hown (mvT hZ (hw _ (List.mem_of_getElem? (i := 42) rfl))) (mvT hZ (hw _ (List.mem_of_getElem? (i := 43) rfl))) (notFace_of_selects (args := #[]) (mvT hZ (hw _ (List.mem_of_getElem? (i := 45) rfl)))) (mvT hZ (hw _ (List.mem_of_getElem? (i := 45) rfl))) (mvT hZ (hw _ (List.mem_of_getElem? (i := 44) rfl))) (by decide) (backOf (W := 0) (rm6 l Z a0 hw [] a ct ad f nx' bf' nb' T1.heap n0 Z1 ga Oq1 Aq1 hq') hZ (hw _ (List.mem_of_getElem? (i := 46) rfl)) (hw _ (List.mem_of_getElem? (i := 4) rfl)) (by decide) (by decide)) qa3 qc3 (g := (mkF m 8 #[.val (.ref a), .val (.int ct), .val (.int ((bf'.toInt32) &&& (((1 : Int32) <<< (ct &&& 31)) - (1 : Int32))))] [(.int ct), (.ref a)])) rfl (by rw [hml]; rfl) (Steps.refl _) (argsL := [(.int ct)]) (rest := []) (lenOf pd_4 rfl) rfl (by show 2 * 0 + _ ≤ _; exact Nat.le_of_eq rfl) (hb hby d5_8) (fun _ _ => ⟨rfl, rfl, (by decide : 0 + 0 ≤ _), (by decide : 0 + 0 ≤ _)⟩)
  dsimp only [Pt.U, Pt.locs, Pt.cells, Pt.slots] at X3 l3 y3 z3 st3 hQ3
  subst l3 y3 z3
  obtain ⟨rfl, Nq3, Kq3, Oq3, Aq3⟩ := hQ3
  have N3 := Fr.app Ng2 Nq3
  have Z3 : n0 ≤ T3.heap.size := Nat.le_trans Z1 Kq3.1
  have KK3 : Keep h0 T3.heap [a] := Keep.trans Kq1 Kq3 (fun x hx => Or.inl hx)
  obtain ⟨fs, hr, hrun, hended, hW, hsame⟩ := X3.leave (v := some (.int ((bf'.toInt32) &&& (((1 : Int32) <<< (ct &&& 31)) - (1 : Int32))))) (fun h => by rw [Bd.returns] at h; cases h)
  refine ⟨_, _, pre0 _ ?_, hrun, hended, _, _, rfl, ⟨⟨_, rfl, fun h8 => own_val hI' hk ho hn hq' h8⟩, N3, KK3, ⟨_, _, _, Oq3, own_Is_skip hI' hk h16 ho hn hq'⟩, Aq3⟩, ⟨_, rfl⟩, hW, hsame.mono (by decide) (by decide)⟩
  show Steps p.tables e below (s₁.setTop (mkF m 0 #[.val (.ref a), .val (.int ct), .unset] [])) _
  refine XS.aloadN X0.here hx rfl (hb hby d5_0) rfl rfl ?_
  show Steps p.tables e below (s₁.setTop (mkF m 1 #[.val (.ref a), .val (.int ct), .unset] [(.ref a)])) _
  refine XS.iloadN X0.here hx rfl (hb hby d5_1) rfl ?_
  show Steps p.tables e below (s₁.setTop (mkF m 2 #[.val (.ref a), .val (.int ct), .unset] [(.int ct), (.ref a)])) _
  refine st1.trans ?_
  show Steps p.tables e below (T1.setTop (mkF m 5 #[.val (.ref a), .val (.int ct), .unset] [(.int ((bf'.toInt32) &&& (((1 : Int32) <<< (ct &&& 31)) - (1 : Int32))))])) _
  refine XS.istoreN X1.here hx rfl (hb hby d5_5) rfl (l' := #[.val (.ref a), .val (.int ct), .val (.int ((bf'.toInt32) &&& (((1 : Int32) <<< (ct &&& 31)) - (1 : Int32))))]) rfl ?_
  show Steps p.tables e below (T1.setTop (mkF m 6 #[.val (.ref a), .val (.int ct), .val (.int ((bf'.toInt32) &&& (((1 : Int32) <<< (ct &&& 31)) - (1 : Int32))))] [])) _
  refine XS.aloadN X1.here hx rfl (hb hby d5_6) rfl rfl ?_
  show Steps p.tables e below (T1.setTop (mkF m 7 #[.val (.ref a), .val (.int ct), .val (.int ((bf'.toInt32) &&& (((1 : Int32) <<< (ct &&& 31)) - (1 : Int32))))] [(.ref a)])) _
  refine XS.iloadN X1.here hx rfl (hb hby d5_7) rfl ?_
  show Steps p.tables e below (T1.setTop (mkF m 8 #[.val (.ref a), .val (.int ct), .val (.int ((bf'.toInt32) &&& (((1 : Int32) <<< (ct &&& 31)) - (1 : Int32))))] [(.int ct), (.ref a)])) _
  refine st3.trans ?_
  show Steps p.tables e below (T3.setTop (mkF m 11 #[.val (.ref a), .val (.int ct), .val (.int ((bf'.toInt32) &&& (((1 : Int32) <<< (ct &&& 31)) - (1 : Int32))))] [])) _
  refine XS.iloadN X3.here hx rfl (hb hby d5_11) rfl ?_
  show Steps p.tables e below (T3.setTop (mkF m 12 #[.val (.ref a), .val (.int ct), .val (.int ((bf'.toInt32) &&& (((1 : Int32) <<< (ct &&& 31)) - (1 : Int32))))] [(.int ((bf'.toInt32) &&& (((1 : Int32) <<< (ct &&& 31)) - (1 : Int32))))])) _
  exact own_retI X3 hx Bd.returns (hb hby d5_12) hr
def Q7 (Z : State) (a : Addr) (ct : Int32) (ad : Addr) (f : Nat → Int32) (o : Nat) (n : Nat) (k : Nat) (h0 : Heap) (n0 : Nat) (v : Option Value) (h : Heap) (L : List Loc) : Prop := (∃ r : Int32, v = some (.int r) ∧ (ct.toInt = 8 → r.toInt = (own_dat f o (8 - o) / 2 ^ n % 256 : Nat))) ∧ Fr n0 L ∧ Keep h0 h [a] ∧ own_R Z h a ad f o (n + k) ∧ own_AI Z h ad .byte (8 : Int32) f
set_option maxRecDepth 65536 in
set_option maxHeartbeats 40000000 in
theorem rm7 (l : Launch) (Z : State) (a0 : Array Value) (hw : ∀ d ∈ tables_1, d.before a0 Z = true) (ws : List Jvm.Cond) (a : Addr) (ct : Int32) (ad : Addr) (f : Nat → Int32) (o : Nat) (n : Nat) (k : Nat) (h0 : Heap) (n0 : Nat) (Z0 : n0 ≤ h0.size) (ga : n0 ≤ a) (Rr : own_R Z h0 a ad f o n) (A0 : own_AI Z h0 ad .byte (8 : Int32) f) (ho : o ≤ 4) (hk : ct.toInt = (k : Nat)) (h16 : k ≤ 16) (hn : n + k ≤ 8 * (8 - o)) :
    MetFree l (⟨"com/example/fewbits/fewbits/deflate/DeflateBitReader", "readBits", "(I)I"⟩ : MethodName) (head1 (Jvm.Cond.code (⟨"com/example/fewbits/fewbits/deflate/DeflateBitReader", "readBits", "(I)I"⟩ : MethodName) prog_31_method_4_code 3 (some .int) :: ws) ({ frames := 2, cells := 0, slots := 0, locals := 40 } : Room)) (fun a_ U_ => a_ = #[(.ref a), (.int ct)] ∧ Z.Warmed39 U_.vm ∧ U_.heap = h0) (fun _ _ _ _ _ => True) (fun _ U_ o_ U' => ∃ v_ L_, o_ = .returned v_ ∧ (Q7 Z a ct ad f o n k h0 n0 v_ U'.heap L_) ∧ FrameEnd U_ o_ U' L_ ({ frames := 2, cells := 0, slots := 0, locals := 40 } : Room).cells ({ frames := 2, cells := 0, slots := 0, locals := 40 } : Room).slots) := by
  obtain ⟨nx, nb, bf, O0, hI⟩ := Rr
  by_cases hq : nb < ct
  · rcases hI with ⟨rfl, h1, h2, h3⟩ | ⟨h1, h2, h3⟩
    · exact rm7b l Z a0 hw ws a ct ad f nx bf nb o k h0 n0 Z0 ga O0 A0 ho hk h16 hn h1 h2 h3 hq
    · exfalso; rw [own_i_lt h2 hk] at hq; omega
  · exact rm7a l Z a0 hw ws a ct ad f nx bf nb o n k h0 n0 Z0 ga O0 A0 ho hk h16 hn hI hq
theorem d9_0 : decode prog_31_method_5_code 0 = .ok (.aload_n 0, 1) := by decide +kernel
theorem d9_1 : decode prog_31_method_5_code 1 = .ok (.getfield 23, 3) := by decide +kernel
theorem d9_4 : decode prog_31_method_5_code 4 = .ok (.bipush 7, 2) := by decide +kernel
theorem d9_6 : decode prog_31_method_5_code 6 = .ok (.iand, 1) := by decide +kernel
theorem d9_7 : decode prog_31_method_5_code 7 = .ok (.istore_n 1, 1) := by decide +kernel
theorem d9_8 : decode prog_31_method_5_code 8 = .ok (.aload_n 0, 1) := by decide +kernel
theorem d9_9 : decode prog_31_method_5_code 9 = .ok (.dup, 1) := by decide +kernel
theorem d9_10 : decode prog_31_method_5_code 10 = .ok (.getfield 29, 3) := by decide +kernel
theorem d9_13 : decode prog_31_method_5_code 13 = .ok (.iload_n 1, 1) := by decide +kernel
theorem d9_14 : decode prog_31_method_5_code 14 = .ok (.lushr, 1) := by decide +kernel
theorem d9_15 : decode prog_31_method_5_code 15 = .ok (.putfield 29, 3) := by decide +kernel
theorem d9_18 : decode prog_31_method_5_code 18 = .ok (.aload_n 0, 1) := by decide +kernel
theorem d9_19 : decode prog_31_method_5_code 19 = .ok (.dup, 1) := by decide +kernel
theorem d9_20 : decode prog_31_method_5_code 20 = .ok (.getfield 23, 3) := by decide +kernel
theorem d9_23 : decode prog_31_method_5_code 23 = .ok (.iload_n 1, 1) := by decide +kernel
theorem d9_24 : decode prog_31_method_5_code 24 = .ok (.isub, 1) := by decide +kernel
theorem d9_25 : decode prog_31_method_5_code 25 = .ok (.putfield 23, 3) := by decide +kernel
theorem d9_28 : decode prog_31_method_5_code 28 = .ok (.return_, 1) := by decide +kernel
theorem pn_9 : plainName "com/example/fewbits/fewbits/deflate/DeflateBitReader" = true := by first | (simp [plainName, overriddenIn]; done) | decide +kernel
theorem ef_9 (m : MethodId) (x0 : Addr) : entryFrame m #[(.ref x0)] 2 = mkF m 0 #[.val (.ref x0), .unset] [] := by first | (simp [entryFrame, mkF, argsToLocals, Value.category]; done) | rfl
theorem own_Is_al {f : Nat → Int32} {o n : Nat} {nx nb : Int32} {bf : Int64} (hI : own_Is f o n nx nb bf) (ho : o ≤ 4) (hn : n ≤ 8 * (8 - o)) : own_Is f o (n + (8 * (8 - o) - n) % 8) nx (nb - (nb &&& (7 : Int32))) ((bf.toUInt64 >>> ((nb &&& (7 : Int32)) &&& 0x3f).toInt64.toUInt64).toInt64) := by
  have hm : (nb &&& (7 : Int32)).toInt = nb.toInt % 8 := by rw [c_mask nb (7 : Int32) 3 (by decide) (by decide)]; rfl
  rcases hI with ⟨rfl, h1, h2, h3⟩ | ⟨h1, h2, h3⟩
  · have h7 : (nb &&& (7 : Int32)).toInt = ((0 : Nat) : Int) := by rw [hm, h2]; rfl
    refine Or.inl ⟨by omega, h1, ?_, ?_⟩
    · rw [own_i_sub h2 h7 (by omega)]; omega
    · rw [own_ushr bf h7 (by omega), h3, Nat.zero_div]
  · have h7 : (nb &&& (7 : Int32)).toInt = (((8 * (8 - o) - n) % 8 : Nat) : Int) := by rw [hm, h2]; omega
    refine Or.inr ⟨h1, ?_, ?_⟩
    · rw [own_i_sub h2 h7 (by omega)]; omega
    · rw [own_ushr bf h7 (by omega), h3, Nat.div_div_eq_div_mul, ← Nat.pow_add]
def Q8x (Z : State) (a : Addr) (ad : Addr) (f : Nat → Int32) (nx : Int32) (bf : Int64) (nb : Int32) (o : Nat) (n : Nat) (h0 : Heap) (n0 : Nat) (v : Option Value) (h : Heap) (L : List Loc) : Prop := v = none ∧ Fr n0 L ∧ Keep h0 h [a] ∧ own_R Z h a ad f o (n + (8 * (8 - o) - n) % 8) ∧ own_AI Z h ad .byte (8 : Int32) f
set_option maxRecDepth 65536 in
set_option maxHeartbeats 40000000 in
theorem rm8x (l : Launch) (Z : State) (a0 : Array Value) (hw : ∀ d ∈ tables_1, d.before a0 Z = true) (ws : List Jvm.Cond) (a : Addr) (ad : Addr) (f : Nat → Int32) (nx : Int32) (bf : Int64) (nb : Int32) (o : Nat) (n : Nat) (h0 : Heap) (n0 : Nat) (Z0 : n0 ≤ h0.size) (ga : n0 ≤ a) (O0 : own_Db Z h0 a (.ref ad) (.int nx) (.long bf) (.int nb)) (A0 : own_AI Z h0 ad .byte (8 : Int32) f) (ho : o ≤ 4) (hn : n ≤ 8 * (8 - o)) (hI : own_Is f o n nx nb bf) :
    MetFree l (⟨"com/example/fewbits/fewbits/deflate/DeflateBitReader", "alignToByte", "()V"⟩ : MethodName) (head1 (Jvm.Cond.code (⟨"com/example/fewbits/fewbits/deflate/DeflateBitReader", "alignToByte", "()V"⟩ : MethodName) prog_31_method_5_code 2 none :: ws) ({ frames := 0, cells := 0, slots := 0, locals := 0 } : Room)) (fun a_ U_ => a_ = #[(.ref a)] ∧ Z.Warmed39 U_.vm ∧ U_.heap = h0) (fun _ _ _ _ _ => True) (fun _ U_ o_ U' => ∃ v_ L_, o_ = .returned v_ ∧ (Q8x Z a ad f nx bf nb o n h0 n0 v_ U'.heap L_) ∧ FrameEnd U_ o_ U' L_ ({ frames := 0, cells := 0, slots := 0, locals := 0 } : Room).cells ({ frames := 0, cells := 0, slots := 0, locals := 0 } : Room).slots) := by
  refine MetFree.of_bodySF (plainFor_of_name pn_9) hisR ?_
  intro p e s m args below meth c s₁ Bd hml0 hP hK
  obtain ⟨rfl, hZ, hh⟩ := hP
  have hx := Bd.exec
  have hby := Bd.bytes
  have hml : c.maxLocals = 2 := hml0
  have hown : s.vm.findClass "com/example/fewbits/fewbits/deflate/DeflateBitReader" = some m.cls := findClass_of_methodNamed Bd.named
  have hnm := (name_of_methodNamed Bd.named Bd.method).1
  have X0 : Stand p l e ({ frames := 0, cells := 0, slots := 0, locals := 0 } : Room) s m #[(.ref a)] below meth c s₁ [] 0 0 := Stand.of_body Bd
  have e0 : s₁.heap = h0 := by rw [← hh, Bd.state]; rfl
  have N0 := Fr.nil n0
  have pre0 : ∀ t, Steps p.tables e below (s₁.setTop (mkF m 0 #[.val (.ref a), .unset] [])) t → Steps p.tables e below (s₁.setTop (entryFrame m #[(.ref a)] 2)) t := fun t k => castTop (ef_9 m a) k
  obtain ⟨T1, X1, e1, st1⟩ := getF X0 hx hZ hown (host := "") (Or.inl (hw _ (List.mem_of_getElem? (i := 33) rfl))) Via.refl e0 O0.2.2.2.2 (g := (mkF m 1 #[.val (.ref a), .unset] [(.ref a)])) rfl rfl (hb hby d9_1)
  obtain ⟨T2, X2, e2, st2⟩ := getF X1 hx hZ hown (host := "") (Or.inl (hw _ (List.mem_of_getElem? (i := 39) rfl))) Via.refl e1 O0.2.2.2.1 (g := (mkF m 10 #[.val (.ref a), .val (.int (nb &&& (7 : Int32)))] [(.ref a), (.ref a)])) rfl rfl (hb hby d9_10)
  obtain ⟨T3, h3, X3, e3, W3, st3⟩ := putF X2 hx hZ hown (host := "") (Or.inl (hw _ (List.mem_of_getElem? (i := 39) rfl))) Via.refl e2 O0.2.2.2.1 O0.1 (Or.inl (hw _ (List.mem_of_getElem? (i := 40) rfl))) (hw _ (List.mem_of_getElem? (i := 3) rfl)) (ty := .long) (by decide) rfl rfl (g := (mkF m 15 #[.val (.ref a), .val (.int (nb &&& (7 : Int32)))] [(.long ((bf.toUInt64 >>> ((nb &&& (7 : Int32)) &&& 0x3f).toInt64.toUInt64).toInt64)), (.ref a)])) rfl rfl (hb hby d9_15)
  have N3 := Fr.snoc X3 N0 ga
  have K3 : Keep h0 h3 [a] := (Keep.refl h0 [a]).wr W3 (Or.inl (List.mem_of_getElem? (i := 0) rfl))
  have A3_ad := A0.other W3 (own_ne_obj O0.1 (hw _ (List.mem_of_getElem? (i := 3) rfl)) A0).symm
  have O3 := own_Db_set_m_nBuffer hw O0 W3
  have Z3 : n0 ≤ h3.size := Nat.le_trans Z0 (Nat.le_of_eq (W3.size).symm)
  obtain ⟨T4, X4, e4, st4⟩ := getF X3 hx hZ hown (host := "") (Or.inl (hw _ (List.mem_of_getElem? (i := 33) rfl))) Via.refl e3 O3.2.2.2.2 (g := (mkF m 20 #[.val (.ref a), .val (.int (nb &&& (7 : Int32)))] [(.ref a), (.ref a)])) rfl rfl (hb hby d9_20)
  obtain ⟨T5, h5, X5, e5, W5, st5⟩ := putF X4 hx hZ hown (host := "") (Or.inl (hw _ (List.mem_of_getElem? (i := 33) rfl))) Via.refl e4 O3.2.2.2.2 O3.1 (Or.inl (hw _ (List.mem_of_getElem? (i := 34) rfl))) (hw _ (List.mem_of_getElem? (i := 3) rfl)) (ty := .int) (by decide) rfl rfl (g := (mkF m 25 #[.val (.ref a), .val (.int (nb &&& (7 : Int32)))] [(.int (nb - (nb &&& (7 : Int32)))), (.ref a)])) rfl rfl (hb hby d9_25)
  have N5 := Fr.snoc X5 N3 ga
  have K5 : Keep h0 h5 [a] := K3.wr W5 (Or.inl (List.mem_of_getElem? (i := 0) rfl))
  have A5_ad := A3_ad.other W5 (own_ne_obj O3.1 (hw _ (List.mem_of_getElem? (i := 3) rfl)) A3_ad).symm
  have O5 := own_Db_set_m_nBufferBits hw O3 W5
  have Z5 : n0 ≤ h5.size := Nat.le_trans Z3 (Nat.le_of_eq (W5.size).symm)
  obtain ⟨fs, hr, hrun, hended, hW, hsame⟩ := X5.leave (v := none) (fun _ => rfl)
  refine ⟨_, _, pre0 _ ?_, hrun, hended, _, _, rfl, ⟨rfl, N5, (by show Keep h0 T5.heap [a]; rw [e5]; exact K5), ⟨_, _, _, (by show own_Db Z T5.heap a (.ref ad) (.int nx) (.long ((bf.toUInt64 >>> ((nb &&& (7 : Int32)) &&& 0x3f).toInt64.toUInt64).toInt64)) (.int (nb - (nb &&& (7 : Int32)))); rw [e5]; exact O5), own_Is_al hI ho hn⟩, (by show own_AI Z T5.heap ad .byte (8 : Int32) f; rw [e5]; exact A5_ad)⟩, ⟨_, rfl⟩, hW, hsame.mono (by decide) (by decide)⟩
  show Steps p.tables e below (s₁.setTop (mkF m 0 #[.val (.ref a), .unset] [])) _
  refine XS.aloadN X0.here hx rfl (hb hby d9_0) rfl rfl ?_
  show Steps p.tables e below (s₁.setTop (mkF m 1 #[.val (.ref a), .unset] [(.ref a)])) _
  refine st1 _ ?_
  show Steps p.tables e below (T1.setTop (mkF m 4 #[.val (.ref a), .unset] [(.int nb)])) _
  refine XS.bipush X1.here hx rfl (hb hby d9_4) ?_
  show Steps p.tables e below (T1.setTop (mkF m 6 #[.val (.ref a), .unset] [(.int (7 : Int32)), (.int nb)])) _
  refine XS.iand X1.here hx rfl (hb hby d9_6) rfl ?_
  show Steps p.tables e below (T1.setTop (mkF m 7 #[.val (.ref a), .unset] [(.int (nb &&& (7 : Int32)))])) _
  refine XS.istoreN X1.here hx rfl (hb hby d9_7) rfl (l' := #[.val (.ref a), .val (.int (nb &&& (7 : Int32)))]) rfl ?_
  show Steps p.tables e below (T1.setTop (mkF m 8 #[.val (.ref a), .val (.int (nb &&& (7 : Int32)))] [])) _
  refine XS.aloadN X1.here hx rfl (hb hby d9_8) rfl rfl ?_
  show Steps p.tables e below (T1.setTop (mkF m 9 #[.val (.ref a), .val (.int (nb &&& (7 : Int32)))] [(.ref a)])) _
  refine XS.dup X1.here hx rfl (hb hby d9_9) rfl rfl ?_
  show Steps p.tables e below (T1.setTop (mkF m 10 #[.val (.ref a), .val (.int (nb &&& (7 : Int32)))] [(.ref a), (.ref a)])) _
  refine st2 _ ?_
  show Steps p.tables e below (T2.setTop (mkF m 13 #[.val (.ref a), .val (.int (nb &&& (7 : Int32)))] [(.long bf), (.ref a)])) _
  refine XS.iloadN X2.here hx rfl (hb hby d9_13) rfl ?_
  show Steps p.tables e below (T2.setTop (mkF m 14 #[.val (.ref a), .val (.int (nb &&& (7 : Int32)))] [(.int (nb &&& (7 : Int32))), (.long bf), (.ref a)])) _
  refine XS.lushr X2.here hx rfl (hb hby d9_14) rfl ?_
  show Steps p.tables e below (T2.setTop (mkF m 15 #[.val (.ref a), .val (.int (nb &&& (7 : Int32)))] [(.long ((bf.toUInt64 >>> ((nb &&& (7 : Int32)) &&& 0x3f).toInt64.toUInt64).toInt64)), (.ref a)])) _
  refine st3 _ ?_
  show Steps p.tables e below (T3.setTop (mkF m 18 #[.val (.ref a), .val (.int (nb &&& (7 : Int32)))] [])) _
  refine XS.aloadN X3.here hx rfl (hb hby d9_18) rfl rfl ?_
  show Steps p.tables e below (T3.setTop (mkF m 19 #[.val (.ref a), .val (.int (nb &&& (7 : Int32)))] [(.ref a)])) _
  refine XS.dup X3.here hx rfl (hb hby d9_19) rfl rfl ?_
  show Steps p.tables e below (T3.setTop (mkF m 20 #[.val (.ref a), .val (.int (nb &&& (7 : Int32)))] [(.ref a), (.ref a)])) _
  refine st4 _ ?_
  show Steps p.tables e below (T4.setTop (mkF m 23 #[.val (.ref a), .val (.int (nb &&& (7 : Int32)))] [(.int nb), (.ref a)])) _
  refine XS.iloadN X4.here hx rfl (hb hby d9_23) rfl ?_
  show Steps p.tables e below (T4.setTop (mkF m 24 #[.val (.ref a), .val (.int (nb &&& (7 : Int32)))] [(.int (nb &&& (7 : Int32))), (.int nb), (.ref a)])) _
  refine XS.isub X4.here hx rfl (hb hby d9_24) rfl ?_
  show Steps p.tables e below (T4.setTop (mkF m 25 #[.val (.ref a), .val (.int (nb &&& (7 : Int32)))] [(.int (nb - (nb &&& (7 : Int32)))), (.ref a)])) _
  refine st5 _ ?_
  show Steps p.tables e below (T5.setTop (mkF m 28 #[.val (.ref a), .val (.int (nb &&& (7 : Int32)))] [])) _
  exact X5.returnOut hx Bd.returns (hb hby d9_28) hr
def Q8 (Z : State) (a : Addr) (ad : Addr) (f : Nat → Int32) (o : Nat) (n : Nat) (h0 : Heap) (n0 : Nat) (v : Option Value) (h : Heap) (L : List Loc) : Prop := v = none ∧ Fr n0 L ∧ Keep h0 h [a] ∧ own_R Z h a ad f o (n + (8 * (8 - o) - n) % 8) ∧ own_AI Z h ad .byte (8 : Int32) f
set_option maxRecDepth 65536 in
set_option maxHeartbeats 40000000 in
theorem rm8 (l : Launch) (Z : State) (a0 : Array Value) (hw : ∀ d ∈ tables_1, d.before a0 Z = true) (ws : List Jvm.Cond) (a : Addr) (ad : Addr) (f : Nat → Int32) (o : Nat) (n : Nat) (h0 : Heap) (n0 : Nat) (Z0 : n0 ≤ h0.size) (ga : n0 ≤ a) (Rr : own_R Z h0 a ad f o n) (A0 : own_AI Z h0 ad .byte (8 : Int32) f) (ho : o ≤ 4) (hn : n ≤ 8 * (8 - o)) :
    MetFree l (⟨"com/example/fewbits/fewbits/deflate/DeflateBitReader", "alignToByte", "()V"⟩ : MethodName) (head1 (Jvm.Cond.code (⟨"com/example/fewbits/fewbits/deflate/DeflateBitReader", "alignToByte", "()V"⟩ : MethodName) prog_31_method_5_code 2 none :: ws) ({ frames := 0, cells := 0, slots := 0, locals := 0 } : Room)) (fun a_ U_ => a_ = #[(.ref a)] ∧ Z.Warmed39 U_.vm ∧ U_.heap = h0) (fun _ _ _ _ _ => True) (fun _ U_ o_ U' => ∃ v_ L_, o_ = .returned v_ ∧ (Q8 Z a ad f o n h0 n0 v_ U'.heap L_) ∧ FrameEnd U_ o_ U' L_ ({ frames := 0, cells := 0, slots := 0, locals := 0 } : Room).cells ({ frames := 0, cells := 0, slots := 0, locals := 0 } : Room).slots) := by
  obtain ⟨nx, nb, bf, O0, hI⟩ := Rr
  exact rm8x l Z a0 hw ws a ad f nx bf nb o n h0 n0 Z0 ga O0 A0 ho hn hI
theorem d10_0 : decode prog_31_method_6_code 0 = .ok (.aload_n 0, 1) := by decide +kernel
theorem d10_1 : decode prog_31_method_6_code 1 = .ok (.getfield 19, 3) := by decide +kernel
theorem d10_4 : decode prog_31_method_6_code 4 = .ok (.aload_n 0, 1) := by decide +kernel
theorem d10_5 : decode prog_31_method_6_code 5 = .ok (.getfield 23, 3) := by decide +kernel
theorem d10_8 : decode prog_31_method_6_code 8 = .ok (.bipush 8, 2) := by decide +kernel
theorem d10_10 : decode prog_31_method_6_code 10 = .ok (.idiv, 1) := by decide +kernel
theorem d10_11 : decode prog_31_method_6_code 11 = .ok (.isub, 1) := by decide +kernel
theorem d10_12 : decode prog_31_method_6_code 12 = .ok (.ireturn, 1) := by decide +kernel
theorem pn_10 : plainName "com/example/fewbits/fewbits/deflate/DeflateBitReader" = true := by first | (simp [plainName, overriddenIn]; done) | decide +kernel
theorem ef_10 (m : MethodId) (x0 : Addr) : entryFrame m #[(.ref x0)] 1 = mkF m 0 #[.val (.ref x0)] [] := by first | (simp [entryFrame, mkF, argsToLocals, Value.category]; done) | rfl
theorem own_Is_bp {f : Nat → Int32} {o n : Nat} {nx nb : Int32} {bf : Int64} (hI : own_Is f o n nx nb bf) (ho : o ≤ 4) (hn : n ≤ 8 * (8 - o)) (h8 : n % 8 = 0) : (nx - (nb / (8 : Int32))).toInt = (o + n / 8 : Nat) := by
  rcases hI with ⟨rfl, h1, h2, h3⟩ | ⟨h1, h2, h3⟩
  · have t := own_i_div h2 (show (8 : Int32).toInt = 8 from rfl) (by omega)
    rw [own_i_sub h1 t (by omega)]; omega
  · have t := own_i_div h2 (show (8 : Int32).toInt = 8 from rfl) (by omega)
    rw [own_i_sub h1 t (by omega)]; omega
def Q9x (Z : State) (a : Addr) (ad : Addr) (f : Nat → Int32) (nx : Int32) (bf : Int64) (nb : Int32) (o : Nat) (n : Nat) (h0 : Heap) (n0 : Nat) (v : Option Value) (h : Heap) (L : List Loc) : Prop := (∃ r : Int32, v = some (.int r) ∧ r.toInt = (o + n / 8 : Nat)) ∧ Fr n0 L ∧ h = h0
set_option maxRecDepth 65536 in
set_option maxHeartbeats 40000000 in
theorem rm9x (l : Launch) (Z : State) (a0 : Array Value) (hw : ∀ d ∈ tables_1, d.before a0 Z = true) (ws : List Jvm.Cond) (a : Addr) (ad : Addr) (f : Nat → Int32) (nx : Int32) (bf : Int64) (nb : Int32) (o : Nat) (n : Nat) (h0 : Heap) (n0 : Nat) (Z0 : n0 ≤ h0.size) (ga : n0 ≤ a) (O0 : own_Db Z h0 a (.ref ad) (.int nx) (.long bf) (.int nb)) (A0 : own_AI Z h0 ad .byte (8 : Int32) f) (ho : o ≤ 4) (hn : n ≤ 8 * (8 - o)) (h8 : n % 8 = 0) (hI : own_Is f o n nx nb bf) :
    MetFree l (⟨"com/example/fewbits/fewbits/deflate/DeflateBitReader", "getBytePosition", "()I"⟩ : MethodName) (head1 (Jvm.Cond.code (⟨"com/example/fewbits/fewbits/deflate/DeflateBitReader", "getBytePosition", "()I"⟩ : MethodName) prog_31_method_6_code 1 (some .int) :: ws) ({ frames := 0, cells := 0, slots := 0, locals := 0 } : Room)) (fun a_ U_ => a_ = #[(.ref a)] ∧ Z.Warmed39 U_.vm ∧ U_.heap = h0) (fun _ _ _ _ _ => True) (fun _ U_ o_ U' => ∃ v_ L_, o_ = .returned v_ ∧ (Q9x Z a ad f nx bf nb o n h0 n0 v_ U'.heap L_) ∧ FrameEnd U_ o_ U' L_ ({ frames := 0, cells := 0, slots := 0, locals := 0 } : Room).cells ({ frames := 0, cells := 0, slots := 0, locals := 0 } : Room).slots) := by
  refine MetFree.of_bodySF (plainFor_of_name pn_10) hisR ?_
  intro p e s m args below meth c s₁ Bd hml0 hP hK
  obtain ⟨rfl, hZ, hh⟩ := hP
  have hx := Bd.exec
  have hby := Bd.bytes
  have hml : c.maxLocals = 1 := hml0
  have hown : s.vm.findClass "com/example/fewbits/fewbits/deflate/DeflateBitReader" = some m.cls := findClass_of_methodNamed Bd.named
  have hnm := (name_of_methodNamed Bd.named Bd.method).1
  have X0 : Stand p l e ({ frames := 0, cells := 0, slots := 0, locals := 0 } : Room) s m #[(.ref a)] below meth c s₁ [] 0 0 := Stand.of_body Bd
  have e0 : s₁.heap = h0 := by rw [← hh, Bd.state]; rfl
  have N0 := Fr.nil n0
  have pre0 : ∀ t, Steps p.tables e below (s₁.setTop (mkF m 0 #[.val (.ref a)] [])) t → Steps p.tables e below (s₁.setTop (entryFrame m #[(.ref a)] 1)) t := fun t k => castTop (ef_10 m a) k
  obtain ⟨T1, X1, e1, st1⟩ := getF X0 hx hZ hown (host := "") (Or.inl (hw _ (List.mem_of_getElem? (i := 21) rfl))) Via.refl e0 O0.2.2.1 (g := (mkF m 1 #[.val (.ref a)] [(.ref a)])) rfl rfl (hb hby d10_1)
  obtain ⟨T2, X2, e2, st2⟩ := getF X1 hx hZ hown (host := "") (Or.inl (hw _ (List.mem_of_getElem? (i := 33) rfl))) Via.refl e1 O0.2.2.2.2 (g := (mkF m 5 #[.val (.ref a)] [(.ref a), (.int nx)])) rfl rfl (hb hby d10_5)
  obtain ⟨fs, hr, hrun, hended, hW, hsame⟩ := X2.leave (v := some (.int (nx - (nb / (8 : Int32))))) (fun h => by rw [Bd.returns] at h; cases h)
  refine ⟨_, _, pre0 _ ?_, hrun, hended, _, _, rfl, ⟨⟨_, rfl, own_Is_bp hI ho hn h8⟩, N0, e2⟩, ⟨_, rfl⟩, hW, hsame.mono (by decide) (by decide)⟩
  show Steps p.tables e below (s₁.setTop (mkF m 0 #[.val (.ref a)] [])) _
  refine XS.aloadN X0.here hx rfl (hb hby d10_0) rfl rfl ?_
  show Steps p.tables e below (s₁.setTop (mkF m 1 #[.val (.ref a)] [(.ref a)])) _
  refine st1 _ ?_
  show Steps p.tables e below (T1.setTop (mkF m 4 #[.val (.ref a)] [(.int nx)])) _
  refine XS.aloadN X1.here hx rfl (hb hby d10_4) rfl rfl ?_
  show Steps p.tables e below (T1.setTop (mkF m 5 #[.val (.ref a)] [(.ref a), (.int nx)])) _
  refine st2 _ ?_
  show Steps p.tables e below (T2.setTop (mkF m 8 #[.val (.ref a)] [(.int nb), (.int nx)])) _
  refine XS.bipush X2.here hx rfl (hb hby d10_8) ?_
  show Steps p.tables e below (T2.setTop (mkF m 10 #[.val (.ref a)] [(.int (8 : Int32)), (.int nb), (.int nx)])) _
  refine XS.idiv X2.here hx rfl (hb hby d10_10) rfl (by decide) ?_
  show Steps p.tables e below (T2.setTop (mkF m 11 #[.val (.ref a)] [(.int (nb / (8 : Int32))), (.int nx)])) _
  refine XS.isub X2.here hx rfl (hb hby d10_11) rfl ?_
  show Steps p.tables e below (T2.setTop (mkF m 12 #[.val (.ref a)] [(.int (nx - (nb / (8 : Int32))))])) _
  exact own_retI X2 hx Bd.returns (hb hby d10_12) hr
def Q9 (Z : State) (a : Addr) (ad : Addr) (f : Nat → Int32) (o : Nat) (n : Nat) (h0 : Heap) (n0 : Nat) (v : Option Value) (h : Heap) (L : List Loc) : Prop := (∃ r : Int32, v = some (.int r) ∧ r.toInt = (o + n / 8 : Nat)) ∧ Fr n0 L ∧ h = h0
set_option maxRecDepth 65536 in
set_option maxHeartbeats 40000000 in
theorem rm9 (l : Launch) (Z : State) (a0 : Array Value) (hw : ∀ d ∈ tables_1, d.before a0 Z = true) (ws : List Jvm.Cond) (a : Addr) (ad : Addr) (f : Nat → Int32) (o : Nat) (n : Nat) (h0 : Heap) (n0 : Nat) (Z0 : n0 ≤ h0.size) (ga : n0 ≤ a) (Rr : own_R Z h0 a ad f o n) (A0 : own_AI Z h0 ad .byte (8 : Int32) f) (ho : o ≤ 4) (hn : n ≤ 8 * (8 - o)) (h8 : n % 8 = 0) :
    MetFree l (⟨"com/example/fewbits/fewbits/deflate/DeflateBitReader", "getBytePosition", "()I"⟩ : MethodName) (head1 (Jvm.Cond.code (⟨"com/example/fewbits/fewbits/deflate/DeflateBitReader", "getBytePosition", "()I"⟩ : MethodName) prog_31_method_6_code 1 (some .int) :: ws) ({ frames := 0, cells := 0, slots := 0, locals := 0 } : Room)) (fun a_ U_ => a_ = #[(.ref a)] ∧ Z.Warmed39 U_.vm ∧ U_.heap = h0) (fun _ _ _ _ _ => True) (fun _ U_ o_ U' => ∃ v_ L_, o_ = .returned v_ ∧ (Q9 Z a ad f o n h0 n0 v_ U'.heap L_) ∧ FrameEnd U_ o_ U' L_ ({ frames := 0, cells := 0, slots := 0, locals := 0 } : Room).cells ({ frames := 0, cells := 0, slots := 0, locals := 0 } : Room).slots) := by
  obtain ⟨nx, nb, bf, O0, hI⟩ := Rr
  exact rm9x l Z a0 hw ws a ad f nx bf nb o n h0 n0 Z0 ga O0 A0 ho hn h8 hI
theorem pn_0 : plainName "com/example/fewbits/fewbits/deflate/DeflateBitReaderAlignToBytePinLaw" = true := by first | (simp [plainName, overriddenIn]; done) | decide +kernel
theorem ef_0 (m : MethodId) (x0 : Int32) (x1 : Int32) (x2 : Int32) (x3 : Int32) (x4 : Int32) (x5 : Int32) : entryFrame m #[(.int x0), (.int x1), (.int x2), (.int x3), (.int x4), (.int x5)] maxLocals = mkF m 0 #[.val (.int x0), .val (.int x1), .val (.int x2), .val (.int x3), .val (.int x4), .val (.int x5), .unset, .unset, .unset, .unset, .unset, .unset] [] := by first | (simp [entryFrame, mkF, argsToLocals, Value.category, maxLocals]; done) | rfl
theorem pd_5 : parseMethodDescriptor "([BI)V" = some ⟨[(.array .byte), .int], none⟩ := by decide +kernel
theorem pd_6 : parseMethodDescriptor "()I" = some ⟨[], some .int⟩ := by decide +kernel
theorem own_o {p2 of : Int32} (h : ((p2 &&& (2147483647 : Int32)) % (5 : Int32)) = of) : ∃ o : Nat, o ≤ 4 ∧ of.toInt = (o : Nat) := by
  have t1 := own_i_mask (2147483647 : Int32) 31 (by decide) (by decide) (rfl : p2.toInt = p2.toInt)
  have t2 := own_i_mod t1 (show (5 : Int32).toInt = 5 from rfl) (by omega)
  rw [h] at t2
  exact ⟨of.toInt.toNat, by omega, by omega⟩
theorem own_k {q kk : Int32} (h : ((q &&& (2147483647 : Int32)) % (17 : Int32)) = kk) : ∃ u : Nat, u ≤ 16 ∧ kk.toInt = (u : Nat) := by
  have t1 := own_i_mask (2147483647 : Int32) 31 (by decide) (by decide) (rfl : q.toInt = q.toInt)
  have t2 := own_i_mod t1 (show (17 : Int32).toInt = 17 from rfl) (by omega)
  rw [h] at t2
  exact ⟨kk.toInt.toNat, by omega, by omega⟩
theorem own_c1 {of : Int32} {o : Nat} (h4 : o ≤ 4) (e : of.toInt = (o : Nat)) : ¬ of < (0 : Int32) := by rw [own_i_lt e (show (0 : Int32).toInt = 0 from rfl)]; omega
theorem own_c2 {of : Int32} {o : Nat} (h4 : o ≤ 4) (e : of.toInt = (o : Nat)) : of < ((8 : Int32) + (1 : Int32)) := by rw [own_i_lt e (show ((8 : Int32) + (1 : Int32)).toInt = 9 from rfl)]; omega
theorem own_ps {of k1 k2 ps : Int32} {o u1 u2 : Nat} (h4 : o ≤ 4) (eo : of.toInt = (o : Nat)) (hu1 : u1 ≤ 16) (e1 : k1.toInt = (u1 : Nat)) (hu2 : u2 ≤ 16) (e2 : k2.toInt = (u2 : Nat)) (h : (of + (((k1 + k2) + (7 : Int32)) / (8 : Int32))) = ps) : ps.toInt = ((o + (u1 + u2 + 7) / 8 : Nat) : Int) := by
  have t1 := own_i_add (own_i_add e1 e2 (by omega)) (show (7 : Int32).toInt = 7 from rfl) (by omega)
  have t2 := own_i_div t1 (show (8 : Int32).toInt = 8 from rfl) (by omega)
  rw [← h, own_i_add eo t2 (by omega)]
  omega
theorem own_fin {f : Nat → Int32} {ps rc : Int32} {o u1 u2 w : Nat} (h4 : o ≤ 4) (eps : ps.toInt = ((o + (u1 + u2 + 7) / 8 : Nat) : Int)) (hl : o + w / 8 < 8) (hw2 : w = 8 * ((u1 + u2 + 7) / 8) ∧ w ≤ 8 * (8 - o)) (hr : rc.toInt = (own_dat f o (8 - o) / 2 ^ w % 256 : Nat)) : rc = ((f (ps).toNatClampNeg) &&& (255 : Int32)) := by
  have e : ps.toNatClampNeg = o + (u1 + u2 + 7) / 8 := by rw [own_i_nat eps (by omega)]; omega
  apply own_i_of
  rw [e, c_mask _ (255 : Int32) 8 (by decide) (by decide), hr, hw2.1, ← own_p256, own_dat_at f o _ (8 - o) (by omega)]
  unfold own_b
  show _ = (f (o + (u1 + u2 + 7) / 8)).toInt % 256
  omega
def Q000 (Z : State) (p0 : Int32) (p1 : Int32) (p2 : Int32) (p3 : Int32) (p4 : Int32) (p5 : Int32) (of : Int32) (k1 : Int32) (k2 : Int32) (ps : Int32) (f : Nat → Int32) (h0 : Heap) (n0 : Nat) (v : Option Value) (h : Heap) (L : List Loc) : Prop := v = some (.int (1 : Int32)) ∧ Fr n0 L
set_option maxRecDepth 65536 in
set_option maxHeartbeats 40000000 in
theorem rm000 (l : Launch) (Z : State) (a0 : Array Value) (hw : ∀ d ∈ tables_1, d.before a0 Z = true) (ws : List Jvm.Cond) (p0 : Int32) (p1 : Int32) (p2 : Int32) (p3 : Int32) (p4 : Int32) (p5 : Int32) (of : Int32) (k1 : Int32) (k2 : Int32) (ps : Int32) (f : Nat → Int32) (h0 : Heap) (n0 : Nat) (Z0 : n0 ≤ h0.size) (h_of : ((p2 &&& (2147483647 : Int32)) % (5 : Int32)) = of) (h_k1 : ((p3 &&& (2147483647 : Int32)) % (17 : Int32)) = k1) (h_k2 : ((p4 &&& (2147483647 : Int32)) % (17 : Int32)) = k2) (h_ps : (of + (((k1 + k2) + (7 : Int32)) / (8 : Int32))) = ps) (hf : (own_up (own_up (own_up (own_up (own_up (own_up (own_up (own_up (fun _ => 0) 0 ((p0.toInt8.toInt32)).toInt8.toInt32) 1 ((((p0.toUInt32 >>> ((8 : Int32) &&& 31).toUInt32).toInt32).toInt8.toInt32)).toInt8.toInt32) 2 ((((p0.toUInt32 >>> ((16 : Int32) &&& 31).toUInt32).toInt32).toInt8.toInt32)).toInt8.toInt32) 3 ((((p0.toUInt32 >>> ((24 : Int32) &&& 31).toUInt32).toInt32).toInt8.toInt32)).toInt8.toInt32) 4 ((p1.toInt8.toInt32)).toInt8.toInt32) 5 ((((p1.toUInt32 >>> ((8 : Int32) &&& 31).toUInt32).toInt32).toInt8.toInt32)).toInt8.toInt32) 6 ((((p1.toUInt32 >>> ((16 : Int32) &&& 31).toUInt32).toInt32).toInt8.toInt32)).toInt8.toInt32) 7 ((((p1.toUInt32 >>> ((24 : Int32) &&& 31).toUInt32).toInt32).toInt8.toInt32)).toInt8.toInt32) = f) (hs : (p5 &&& (1 : Int32)) = (0 : Int32)) (hfar : ps < (8 : Int32)) :
    MetFree l x (head1 (Jvm.Cond.code x code maxLocals ret :: ws) room_1) (fun a_ U_ => a_ = #[(.int p0), (.int p1), (.int p2), (.int p3), (.int p4), (.int p5)] ∧ Z.Warmed39 U_.vm ∧ U_.heap = h0) (fun _ _ _ _ _ => True) (fun _ U_ o_ U' => ∃ v_ L_, o_ = .returned v_ ∧ (Q000 Z p0 p1 p2 p3 p4 p5 of k1 k2 ps f h0 n0 v_ U'.heap L_) ∧ FrameEnd U_ o_ U' L_ room_1.cells room_1.slots) := by
  refine MetFree.of_bodySF (plainFor_of_name pn_0) hisR ?_
  intro p e s m args below meth c s₁ Bd hml0 hP hK
  obtain ⟨rfl, hZ, hh⟩ := hP
  have hx := Bd.exec
  have hby := Bd.bytes
  have hml : c.maxLocals = 12 := hml0
  have hown : s.vm.findClass "com/example/fewbits/fewbits/deflate/DeflateBitReaderAlignToBytePinLaw" = some m.cls := findClass_of_methodNamed Bd.named
  have hnm := (name_of_methodNamed Bd.named Bd.method).1
  have X0 : Stand p l e room_1 s m #[(.int p0), (.int p1), (.int p2), (.int p3), (.int p4), (.int p5)] below meth c s₁ [] 0 0 := Stand.of_body Bd
  have e0 : s₁.heap = h0 := by rw [← hh, Bd.state]; rfl
  have N0 := Fr.nil n0
  have pre0 : ∀ t, Steps p.tables e below (s₁.setTop (mkF m 0 #[.val (.int p0), .val (.int p1), .val (.int p2), .val (.int p3), .val (.int p4), .val (.int p5), .unset, .unset, .unset, .unset, .unset, .unset] [])) t → Steps p.tables e below (s₁.setTop (entryFrame m #[(.int p0), (.int p1), (.int p2), (.int p3), (.int p4), (.int p5)] maxLocals)) t := fun t k => castTop (ef_0 m p0 p1 p2 p3 p4 p5) k
  obtain ⟨T1, h1, X1, e1, E1, A1, st1⟩ := own_newI X0 hx hZ (hw _ (List.mem_of_getElem? (i := 0) rfl)) rfl e0 (g := (mkF m 2 #[.val (.int p0), .val (.int p1), .val (.int p2), .val (.int p3), .val (.int p4), .val (.int p5), .unset, .unset, .unset, .unset, .unset, .unset] [(.int (8 : Int32))])) rfl (hb hby at_2) rfl (by decide) (cap := 8) (by decide) (by decide) (by decide) (by decide)
  obtain ⟨b1, g1⟩ : ∃ z, z = h0.size := ⟨_, rfl⟩
  rw [← g1] at A1 st1
  have f_b1 : n0 ≤ b1 := Nat.le_trans Z0 (Nat.le_of_eq g1.symm)
  have s_b1 : h0.size ≤ b1 := Nat.le_trans (Keep.refl h0 []).1 (Nat.le_of_eq g1.symm)
  have K1 : Keep h0 h1 [] := (Keep.refl h0 []).ext E1
  have Z1 : n0 ≤ h1.size := Nat.le_trans Z0 E1.1
  obtain ⟨T2, h2, X2, e2, W2, A2, st2⟩ := own_stB X1 hx hZ e1 A1 (j := (0 : Int32)) ⟨by decide, by decide⟩ (g := (mkF m 11 #[.val (.int p0), .val (.int p1), .val (.int p2), .val (.int p3), .val (.int p4), .val (.int p5), .val (.ref b1), .unset, .unset, .unset, .unset, .unset] [(.int (p0.toInt8.toInt32)), (.int (0 : Int32)), (.ref b1)])) rfl rfl (hb hby at_11)
  have N2 := Fr.snoc X2 N0 f_b1
  have K2 : Keep h0 h2 [] := K1.wr W2 (Or.inr s_b1)
  have Z2 : n0 ≤ h2.size := Nat.le_trans Z1 (Nat.le_of_eq (W2.size).symm)
  obtain ⟨T3, h3, X3, e3, W3, A3, st3⟩ := own_stB X2 hx hZ e2 A2 (j := (1 : Int32)) ⟨by decide, by decide⟩ (g := (mkF m 20 #[.val (.int p0), .val (.int p1), .val (.int p2), .val (.int p3), .val (.int p4), .val (.int p5), .val (.ref b1), .unset, .unset, .unset, .unset, .unset] [(.int (((p0.toUInt32 >>> ((8 : Int32) &&& 31).toUInt32).toInt32).toInt8.toInt32)), (.int (1 : Int32)), (.ref b1)])) rfl rfl (hb hby at_20)
  have N3 := Fr.snoc X3 N2 f_b1
  have K3 : Keep h0 h3 [] := K2.wr W3 (Or.inr s_b1)
  have Z3 : n0 ≤ h3.size := Nat.le_trans Z2 (Nat.le_of_eq (W3.size).symm)
  obtain ⟨T4, h4, X4, e4, W4, A4, st4⟩ := own_stB X3 hx hZ e3 A3 (j := (2 : Int32)) ⟨by decide, by decide⟩ (g := (mkF m 29 #[.val (.int p0), .val (.int p1), .val (.int p2), .val (.int p3), .val (.int p4), .val (.int p5), .val (.ref b1), .unset, .unset, .unset, .unset, .unset] [(.int (((p0.toUInt32 >>> ((16 : Int32) &&& 31).toUInt32).toInt32).toInt8.toInt32)), (.int (2 : Int32)), (.ref b1)])) rfl rfl (hb hby at_29)
  have N4 := Fr.snoc X4 N3 f_b1
  have K4 : Keep h0 h4 [] := K3.wr W4 (Or.inr s_b1)
  have Z4 : n0 ≤ h4.size := Nat.le_trans Z3 (Nat.le_of_eq (W4.size).symm)
  obtain ⟨T5, h5, X5, e5, W5, A5, st5⟩ := own_stB X4 hx hZ e4 A4 (j := (3 : Int32)) ⟨by decide, by decide⟩ (g := (mkF m 38 #[.val (.int p0), .val (.int p1), .val (.int p2), .val (.int p3), .val (.int p4), .val (.int p5), .val (.ref b1), .unset, .unset, .unset, .unset, .unset] [(.int (((p0.toUInt32 >>> ((24 : Int32) &&& 31).toUInt32).toInt32).toInt8.toInt32)), (.int (3 : Int32)), (.ref b1)])) rfl rfl (hb hby at_38)
  have N5 := Fr.snoc X5 N4 f_b1
  have K5 : Keep h0 h5 [] := K4.wr W5 (Or.inr s_b1)
  have Z5 : n0 ≤ h5.size := Nat.le_trans Z4 (Nat.le_of_eq (W5.size).symm)
  obtain ⟨T6, h6, X6, e6, W6, A6, st6⟩ := own_stB X5 hx hZ e5 A5 (j := (4 : Int32)) ⟨by decide, by decide⟩ (g := (mkF m 44 #[.val (.int p0), .val (.int p1), .val (.int p2), .val (.int p3), .val (.int p4), .val (.int p5), .val (.ref b1), .unset, .unset, .unset, .unset, .unset] [(.int (p1.toInt8.toInt32)), (.int (4 : Int32)), (.ref b1)])) rfl rfl (hb hby at_44)
  have N6 := Fr.snoc X6 N5 f_b1
  have K6 : Keep h0 h6 [] := K5.wr W6 (Or.inr s_b1)
  have Z6 : n0 ≤ h6.size := Nat.le_trans Z5 (Nat.le_of_eq (W6.size).symm)
  obtain ⟨T7, h7, X7, e7, W7, A7, st7⟩ := own_stB X6 hx hZ e6 A6 (j := (5 : Int32)) ⟨by decide, by decide⟩ (g := (mkF m 53 #[.val (.int p0), .val (.int p1), .val (.int p2), .val (.int p3), .val (.int p4), .val (.int p5), .val (.ref b1), .unset, .unset, .unset, .unset, .unset] [(.int (((p1.toUInt32 >>> ((8 : Int32) &&& 31).toUInt32).toInt32).toInt8.toInt32)), (.int (5 : Int32)), (.ref b1)])) rfl rfl (hb hby at_53)
  have N7 := Fr.snoc X7 N6 f_b1
  have K7 : Keep h0 h7 [] := K6.wr W7 (Or.inr s_b1)
  have Z7 : n0 ≤ h7.size := Nat.le_trans Z6 (Nat.le_of_eq (W7.size).symm)
  obtain ⟨T8, h8, X8, e8, W8, A8, st8⟩ := own_stB X7 hx hZ e7 A7 (j := (6 : Int32)) ⟨by decide, by decide⟩ (g := (mkF m 63 #[.val (.int p0), .val (.int p1), .val (.int p2), .val (.int p3), .val (.int p4), .val (.int p5), .val (.ref b1), .unset, .unset, .unset, .unset, .unset] [(.int (((p1.toUInt32 >>> ((16 : Int32) &&& 31).toUInt32).toInt32).toInt8.toInt32)), (.int (6 : Int32)), (.ref b1)])) rfl rfl (hb hby at_63)
  have N8 := Fr.snoc X8 N7 f_b1
  have K8 : Keep h0 h8 [] := K7.wr W8 (Or.inr s_b1)
  have Z8 : n0 ≤ h8.size := Nat.le_trans Z7 (Nat.le_of_eq (W8.size).symm)
  obtain ⟨T9, h9, X9, e9, W9, A9, st9⟩ := own_stB X8 hx hZ e8 A8 (j := (7 : Int32)) ⟨by decide, by decide⟩ (g := (mkF m 73 #[.val (.int p0), .val (.int p1), .val (.int p2), .val (.int p3), .val (.int p4), .val (.int p5), .val (.ref b1), .unset, .unset, .unset, .unset, .unset] [(.int (((p1.toUInt32 >>> ((24 : Int32) &&& 31).toUInt32).toInt32).toInt8.toInt32)), (.int (7 : Int32)), (.ref b1)])) rfl rfl (hb hby at_73)
  have N9 := Fr.snoc X9 N8 f_b1
  have K9 : Keep h0 h9 [] := K8.wr W9 (Or.inr s_b1)
  have Z9 : n0 ≤ h9.size := Nat.le_trans Z8 (Nat.le_of_eq (W9.size).symm)
  have AF : own_AI Z h9 b1 .byte (8 : Int32) f := hf ▸ A9
  obtain ⟨o, ho4, eo⟩ := own_o h_of
  obtain ⟨u1, hu1, eu1⟩ := own_k h_k1
  obtain ⟨u2, hu2, eu2⟩ := own_k h_k2
  obtain ⟨T10, h10, X10, e10, E10, A10, D10, -, st10⟩ := newO X9 hx hZ hown (hw _ (List.mem_of_getElem? (i := 2) rfl)) (hw _ (List.mem_of_getElem? (i := 3) rfl)) (hw _ (List.mem_of_getElem? (i := 4) rfl)) e9 (g := (mkF m 101 #[.val (.int p0), .val (.int p1), .val (.int p2), .val (.int p3), .val (.int p4), .val (.int p5), .val (.ref b1), .val (.int of), .val (.int k1), .val (.int k2), .unset, .unset] [])) rfl (hb hby at_101) (by decide) (by decide)
  obtain ⟨b10, g10⟩ : ∃ z, z = h9.size := ⟨_, rfl⟩
  rw [← g10] at A10 D10 st10
  have f_b10 : n0 ≤ b10 := Nat.le_trans Z9 (Nat.le_of_eq g10.symm)
  have s_b10 : h0.size ≤ b10 := Nat.le_trans K9.1 (Nat.le_of_eq g10.symm)
  have K10 : Keep h0 h10 [] := K9.ext E10
  have A10_b1 := AF.ext E10
  have O10 : own_Db Z h10 b10 .null (.int (0 : Int32)) (.long (0 : Int64)) (.int (0 : Int32)) := ⟨A10, D10 (Or.inr (hw _ (List.mem_of_getElem? (i := 20) rfl))) (ty := (.array .byte)) (by decide), D10 (Or.inl (hw _ (List.mem_of_getElem? (i := 22) rfl))) (ty := .int) (by decide), D10 (Or.inl (hw _ (List.mem_of_getElem? (i := 40) rfl))) (ty := .long) (by decide), D10 (Or.inl (hw _ (List.mem_of_getElem? (i := 34) rfl))) (ty := .int) (by decide)⟩
  have Z10 : n0 ≤ h10.size := Nat.le_trans Z9 E10.1
  obtain ⟨Lg11, Xg11, Ng11⟩ := own_gen X10 N9
  obtain ⟨_, _, ⟨T12, L12, k12, n12⟩, -, X12, ⟨Lc12, hQ12, l12, y12, z12⟩, st12⟩ := Xg11.specialBack hx (y := (⟨"com/example/fewbits/fewbits/deflate/DeflateBitReader", "<init>", "([BI)V"⟩ : MethodName)) rfl hown (mvT hZ (hw _ (List.mem_of_getElem? (i := 5) rfl))) (mvT hZ (hw _ (List.mem_of_getElem? (i := 6) rfl))) (mvT hZ (hw _ (List.mem_of_getElem? (i := 7) rfl))) (by decide) (backOf (W := 1) (rm3 l Z a0 hw [] b10 b1 of f h10 n0 Z10 f_b10 O10 A10_b1 (own_c1 ho4 eo) (own_c2 ho4 eo)) hZ (hw _ (List.mem_of_getElem? (i := 7) rfl)) (hw _ (List.mem_of_getElem? (i := 4) rfl)) (by decide) (by decide)) (g := (mkF m 109 #[.val (.int p0), .val (.int p1), .val (.int p2), .val (.int p3), .val (.int p4), .val (.int p5), .val (.ref b1), .val (.int of), .val (.int k1), .val (.int k2), .unset, .unset] [(.int of), (.ref b1), (.ref b10), (.ref b10)])) rfl (by rw [hml]; rfl) (Steps.refl _) (a := b10) (argsL := [(.ref b1), (.int of)]) (rest := [(.ref b10)]) (lenOf pd_5 rfl) rfl (by show 2 * 0 + _ ≤ _; exact Nat.le_of_eq rfl) (hb hby at_109) (fun _ _ => ⟨rfl, e10, (by decide : 2 + 0 ≤ _), (by decide : 12 + 0 ≤ _)⟩)
  dsimp only [Pt.U, Pt.locs, Pt.cells, Pt.slots] at X12 l12 y12 z12 st12 hQ12
  subst l12 y12 z12
  obtain ⟨rfl, Nq12, Kq12, Oq12⟩ := hQ12
  have N12 := Fr.app Ng11 Nq12
  have Z12 : n0 ≤ T12.heap.size := Nat.le_trans Z10 Kq12.1
  have AA12 := A10_b1.keep Kq12 (ninS (own_ne_obj O10.1 (hw _ (List.mem_of_getElem? (i := 3) rfl)) A10_b1).symm nin0)
  have R12 : own_R Z T12.heap b10 b1 f o 0 := ⟨_, _, _, Oq12, Or.inl ⟨rfl, eo, rfl, rfl⟩⟩
  obtain ⟨Lg13, Xg13, Ng13⟩ := own_gen X12 N12
  obtain ⟨cq14, kq14, qa14, qb14, qc14⟩ := isOf hZ rfl (own_R_exa R12)
  obtain ⟨_, _, ⟨T14, L14, k14, n14⟩, -, X14, ⟨Lc14, hQ14, l14, y14, z14⟩, st14⟩ := Xg13.virtualBack hx (y := (⟨"com/example/fewbits/fewbits/deflate/DeflateBitReader", "readBits", "(I)I"⟩ : MethodName)) (z := (⟨"com/example/fewbits/fewbits/deflate/DeflateBitReader", "readBits", "(I)I"⟩ : MethodName)) hown (mvT hZ (hw _ (List.mem_of_getElem? (i := 23) rfl))) (mvT hZ (hw _ (List.mem_of_getElem? (i := 24) rfl))) (notFace_of_selects (args := #[]) (mvT hZ (hw _ (List.mem_of_getElem? (i := 26) rfl)))) (mvT hZ (hw _ (List.mem_of_getElem? (i := 26) rfl))) (mvT hZ (hw _ (List.mem_of_getElem? (i := 25) rfl))) (by decide) (backOf (W := 0) (rm7 l Z a0 hw [] b10 k1 b1 f o (0) u1 T12.heap n0 Z12 f_b10 R12 AA12 ho4 eu1 hu1 (by omega)) hZ (hw _ (List.mem_of_getElem? (i := 27) rfl)) (hw _ (List.mem_of_getElem? (i := 4) rfl)) (by decide) (by decide)) qa14 qc14 (g := (mkF m 118 #[.val (.int p0), .val (.int p1), .val (.int p2), .val (.int p3), .val (.int p4), .val (.int p5), .val (.ref b1), .val (.int of), .val (.int k1), .val (.int k2), .val (.ref b10), .unset] [(.int k1), (.ref b10)])) rfl (by rw [hml]; rfl) (Steps.refl _) (argsL := [(.int k1)]) (rest := []) (lenOf pd_3 rfl) rfl (by show 2 * 0 + _ ≤ _; exact Nat.le_of_eq rfl) (hb hby at_118) (fun _ _ => ⟨rfl, rfl, (by decide : 2 + 0 ≤ _), (by decide : 12 + 0 ≤ _)⟩)
  dsimp only [Pt.U, Pt.locs, Pt.cells, Pt.slots] at X14 l14 y14 z14 st14 hQ14
  subst l14 y14 z14
  obtain ⟨⟨ra, rfl, ra8⟩, Nq14, Kq14, Rq14, Aq14⟩ := hQ14
  have N14 := Fr.app Ng13 Nq14
  have Z14 : n0 ≤ T14.heap.size := Nat.le_trans Z12 Kq14.1
  obtain ⟨Lg15, Xg15, Ng15⟩ := own_gen X14 N14
  obtain ⟨cq16, kq16, qa16, qb16, qc16⟩ := isOf hZ rfl (own_R_exa Rq14)
  obtain ⟨_, _, ⟨T16, L16, k16, n16⟩, -, X16, ⟨Lc16, hQ16, l16, y16, z16⟩, st16⟩ := Xg15.virtualBack hx (y := (⟨"com/example/fewbits/fewbits/deflate/DeflateBitReader", "readBits", "(I)I"⟩ : MethodName)) (z := (⟨"com/example/fewbits/fewbits/deflate/DeflateBitReader", "readBits", "(I)I"⟩ : MethodName)) hown (mvT hZ (hw _ (List.mem_of_getElem? (i := 23) rfl))) (mvT hZ (hw _ (List.mem_of_getElem? (i := 24) rfl))) (notFace_of_selects (args := #[]) (mvT hZ (hw _ (List.mem_of_getElem? (i := 26) rfl)))) (mvT hZ (hw _ (List.mem_of_getElem? (i := 26) rfl))) (mvT hZ (hw _ (List.mem_of_getElem? (i := 25) rfl))) (by decide) (backOf (W := 0) (rm7 l Z a0 hw [] b10 k2 b1 f o (0 + u1) u2 T14.heap n0 Z14 f_b10 Rq14 Aq14 ho4 eu2 hu2 (by omega)) hZ (hw _ (List.mem_of_getElem? (i := 27) rfl)) (hw _ (List.mem_of_getElem? (i := 4) rfl)) (by decide) (by decide)) qa16 qc16 (g := (mkF m 126 #[.val (.int p0), .val (.int p1), .val (.int p2), .val (.int p3), .val (.int p4), .val (.int p5), .val (.ref b1), .val (.int of), .val (.int k1), .val (.int k2), .val (.ref b10), .unset] [(.int k2), (.ref b10)])) rfl (by rw [hml]; rfl) (Steps.refl _) (argsL := [(.int k2)]) (rest := []) (lenOf pd_3 rfl) rfl (by show 2 * 0 + _ ≤ _; exact Nat.le_of_eq rfl) (hb hby at_126) (fun _ _ => ⟨rfl, rfl, (by decide : 2 + 0 ≤ _), (by decide : 12 + 0 ≤ _)⟩)
  dsimp only [Pt.U, Pt.locs, Pt.cells, Pt.slots] at X16 l16 y16 z16 st16 hQ16
  subst l16 y16 z16
  obtain ⟨⟨rb, rfl, rb8⟩, Nq16, Kq16, Rq16, Aq16⟩ := hQ16
  have N16 := Fr.app Ng15 Nq16
  have Z16 : n0 ≤ T16.heap.size := Nat.le_trans Z14 Kq16.1
  obtain ⟨Lg17, Xg17, Ng17⟩ := own_gen X16 N16
  obtain ⟨cq18, kq18, qa18, qb18, qc18⟩ := isOf hZ rfl (own_R_exa Rq16)
  obtain ⟨_, _, ⟨T18, L18, k18, n18⟩, -, X18, ⟨Lc18, hQ18, l18, y18, z18⟩, st18⟩ := Xg17.virtualBack hx (y := (⟨"com/example/fewbits/fewbits/deflate/DeflateBitReader", "alignToByte", "()V"⟩ : MethodName)) (z := (⟨"com/example/fewbits/fewbits/deflate/DeflateBitReader", "alignToByte", "()V"⟩ : MethodName)) hown (mvT hZ (hw _ (List.mem_of_getElem? (i := 47) rfl))) (mvT hZ (hw _ (List.mem_of_getElem? (i := 48) rfl))) (notFace_of_selects (args := #[]) (mvT hZ (hw _ (List.mem_of_getElem? (i := 50) rfl)))) (mvT hZ (hw _ (List.mem_of_getElem? (i := 50) rfl))) (mvT hZ (hw _ (List.mem_of_getElem? (i := 49) rfl))) (by decide) (backOf (W := 0) (rm8 l Z a0 hw [] b10 b1 f o (0 + u1 + u2) T16.heap n0 Z16 f_b10 Rq16 Aq16 ho4 (by omega)) hZ (hw _ (List.mem_of_getElem? (i := 51) rfl)) (hw _ (List.mem_of_getElem? (i := 4) rfl)) (by decide) (by decide)) qa18 qc18 (g := (mkF m 132 #[.val (.int p0), .val (.int p1), .val (.int p2), .val (.int p3), .val (.int p4), .val (.int p5), .val (.ref b1), .val (.int of), .val (.int k1), .val (.int k2), .val (.ref b10), .unset] [(.ref b10)])) rfl (by rw [hml]; rfl) (Steps.refl _) (argsL := []) (rest := []) (lenOf pd_2 rfl) rfl (by show 2 * 0 + _ ≤ _; exact Nat.le_of_eq rfl) (hb hby at_132) (fun _ _ => ⟨rfl, rfl, (by decide : 2 + 0 ≤ _), (by decide : 12 + 0 ≤ _)⟩)
  dsimp only [Pt.U, Pt.locs, Pt.cells, Pt.slots] at X18 l18 y18 z18 st18 hQ18
  subst l18 y18 z18
  obtain ⟨rfl, Nq18, Kq18, Rq18, Aq18⟩ := hQ18
  have N18 := Fr.app Ng17 Nq18
  have Z18 : n0 ≤ T18.heap.size := Nat.le_trans Z16 Kq18.1
  obtain ⟨w, hw8, hw1, hw2⟩ : ∃ w : Nat, 0 + u1 + u2 + (8 * (8 - o) - (0 + u1 + u2)) % 8 = w ∧ w % 8 = 0 ∧ (w = 8 * ((u1 + u2 + 7) / 8) ∧ w ≤ 8 * (8 - o)) := ⟨_, rfl, by omega, by omega⟩
  rw [hw8] at Rq18
  have eps := own_ps ho4 eo hu1 eu1 hu2 eu2 h_ps
  obtain ⟨Lg19, Xg19, Ng19⟩ := own_gen X18 N18
  obtain ⟨cq20, kq20, qa20, qb20, qc20⟩ := isOf hZ rfl (own_R_exa Rq18)
  obtain ⟨_, _, ⟨T20, L20, k20, n20⟩, -, X20, ⟨Lc20, hQ20, l20, y20, z20⟩, st20⟩ := Xg19.virtualBack hx (y := (⟨"com/example/fewbits/fewbits/deflate/DeflateBitReader", "getBytePosition", "()I"⟩ : MethodName)) (z := (⟨"com/example/fewbits/fewbits/deflate/DeflateBitReader", "getBytePosition", "()I"⟩ : MethodName)) hown (mvT hZ (hw _ (List.mem_of_getElem? (i := 52) rfl))) (mvT hZ (hw _ (List.mem_of_getElem? (i := 53) rfl))) (notFace_of_selects (args := #[]) (mvT hZ (hw _ (List.mem_of_getElem? (i := 55) rfl)))) (mvT hZ (hw _ (List.mem_of_getElem? (i := 55) rfl))) (mvT hZ (hw _ (List.mem_of_getElem? (i := 54) rfl))) (by decide) (backOf (W := 0) (rm9 l Z a0 hw [] b10 b1 f o w T18.heap n0 Z18 f_b10 Rq18 Aq18 ho4 hw2.2 hw1) hZ (hw _ (List.mem_of_getElem? (i := 56) rfl)) (hw _ (List.mem_of_getElem? (i := 4) rfl)) (by decide) (by decide)) qa20 qc20 (g := (mkF m 165 #[.val (.int p0), .val (.int p1), .val (.int p2), .val (.int p3), .val (.int p4), .val (.int p5), .val (.ref b1), .val (.int of), .val (.int k1), .val (.int k2), .val (.ref b10), .val (.int ps)] [(.ref b10)])) rfl (by rw [hml]; rfl) (Steps.refl _) (argsL := []) (rest := []) (lenOf pd_6 rfl) rfl (by show 2 * 0 + _ ≤ _; exact Nat.le_of_eq rfl) (hb hby at_165) (fun _ _ => ⟨rfl, rfl, (by decide : 2 + 0 ≤ _), (by decide : 12 + 0 ≤ _)⟩)
  dsimp only [Pt.U, Pt.locs, Pt.cells, Pt.slots] at X20 l20 y20 z20 st20 hQ20
  subst l20 y20 z20
  obtain ⟨⟨bp, rfl, ebp⟩, Nq20, e20⟩ := hQ20
  have N20 := Fr.app Ng19 Nq20
  have hbp : bp = ps := own_i_of (by rw [ebp, eps]; omega)
  have hfar2 : o + w / 8 < 8 := by rw [own_i_lt (show ps.toInt = ((o + (u1 + u2 + 7) / 8 : Nat) : Int) from eps) (show (8 : Int32).toInt = 8 from rfl)] at hfar; omega
  obtain ⟨Lg21, Xg21, Ng21⟩ := own_gen X20 N20
  obtain ⟨cq22, kq22, qa22, qb22, qc22⟩ := isOf hZ e20 (own_R_exa Rq18)
  obtain ⟨_, _, ⟨T22, L22, k22, n22⟩, -, X22, ⟨Lc22, hQ22, l22, y22, z22⟩, st22⟩ := Xg21.virtualBack hx (y := (⟨"com/example/fewbits/fewbits/deflate/DeflateBitReader", "readBits", "(I)I"⟩ : MethodName)) (z := (⟨"com/example/fewbits/fewbits/deflate/DeflateBitReader", "readBits", "(I)I"⟩ : MethodName)) hown (mvT hZ (hw _ (List.mem_of_getElem? (i := 23) rfl))) (mvT hZ (hw _ (List.mem_of_getElem? (i := 24) rfl))) (notFace_of_selects (args := #[]) (mvT hZ (hw _ (List.mem_of_getElem? (i := 26) rfl)))) (mvT hZ (hw _ (List.mem_of_getElem? (i := 26) rfl))) (mvT hZ (hw _ (List.mem_of_getElem? (i := 25) rfl))) (by decide) (backOf (W := 0) (rm7 l Z a0 hw [] b10 (8 : Int32) b1 f o (w) 8 T18.heap n0 Z18 f_b10 Rq18 Aq18 ho4 (rfl : (8 : Int32).toInt = ((8 : Nat) : Int)) (by omega) (by omega)) hZ (hw _ (List.mem_of_getElem? (i := 27) rfl)) (hw _ (List.mem_of_getElem? (i := 4) rfl)) (by decide) (by decide)) qa22 qc22 (g := (mkF m 188 #[.val (.int p0), .val (.int p1), .val (.int p2), .val (.int p3), .val (.int p4), .val (.int p5), .val (.ref b1), .val (.int of), .val (.int k1), .val (.int k2), .val (.ref b10), .val (.int ps)] [(.int (8 : Int32)), (.ref b10)])) rfl (by rw [hml]; rfl) (Steps.refl _) (argsL := [(.int (8 : Int32))]) (rest := []) (lenOf pd_3 rfl) rfl (by show 2 * 0 + _ ≤ _; exact Nat.le_of_eq rfl) (hb hby at_188) (fun _ _ => ⟨rfl, e20, (by decide : 2 + 0 ≤ _), (by decide : 12 + 0 ≤ _)⟩)
  dsimp only [Pt.U, Pt.locs, Pt.cells, Pt.slots] at X22 l22 y22 z22 st22 hQ22
  subst l22 y22 z22
  obtain ⟨⟨rc, rfl, rc8⟩, Nq22, Kq22, Rq22, Aq22⟩ := hQ22
  have N22 := Fr.app Ng21 Nq22
  have Z22 : n0 ≤ T22.heap.size := Nat.le_trans Z18 Kq22.1
  have hin : ¬ ps < 0 ∧ ps < (8 : Int32) := own_ix (by omega) (by rw [eps]; show _ < (8 : Int); omega)
  have hfin : rc = ((f (ps).toNatClampNeg) &&& (255 : Int32)) := own_fin (f := f) ho4 eps (by omega) hw2 (rc8 rfl)
  obtain ⟨fs, hr, hrun, hended, hW, hsame⟩ := X22.leave (v := some (.int (1 : Int32))) (fun h => by rw [Bd.returns] at h; cases h)
  refine ⟨_, _, pre0 _ ?_, hrun, hended, _, _, rfl, ⟨rfl, N22⟩, ⟨_, rfl⟩, hW, hsame.mono (by decide) (by decide)⟩
  show Steps p.tables e below (s₁.setTop (mkF m 0 #[.val (.int p0), .val (.int p1), .val (.int p2), .val (.int p3), .val (.int p4), .val (.int p5), .unset, .unset, .unset, .unset, .unset, .unset] [])) _
  refine XS.bipush X0.here hx rfl (hb hby at_0) ?_
  show Steps p.tables e below (s₁.setTop (mkF m 2 #[.val (.int p0), .val (.int p1), .val (.int p2), .val (.int p3), .val (.int p4), .val (.int p5), .unset, .unset, .unset, .unset, .unset, .unset] [(.int (8 : Int32))])) _
  refine st1 _ ?_
  show Steps p.tables e below (T1.setTop (mkF m 4 #[.val (.int p0), .val (.int p1), .val (.int p2), .val (.int p3), .val (.int p4), .val (.int p5), .unset, .unset, .unset, .unset, .unset, .unset] [(.ref b1)])) _
  refine XS.astore X1.here hx rfl (hb hby at_4) rfl rfl (l' := #[.val (.int p0), .val (.int p1), .val (.int p2), .val (.int p3), .val (.int p4), .val (.int p5), .val (.ref b1), .unset, .unset, .unset, .unset, .unset]) rfl ?_
  show Steps p.tables e below (T1.setTop (mkF m 6 #[.val (.int p0), .val (.int p1), .val (.int p2), .val (.int p3), .val (.int p4), .val (.int p5), .val (.ref b1), .unset, .unset, .unset, .unset, .unset] [])) _
  refine XS.aload X1.here hx rfl (hb hby at_6) rfl rfl ?_
  show Steps p.tables e below (T1.setTop (mkF m 8 #[.val (.int p0), .val (.int p1), .val (.int p2), .val (.int p3), .val (.int p4), .val (.int p5), .val (.ref b1), .unset, .unset, .unset, .unset, .unset] [(.ref b1)])) _
  refine XS.iconst X1.here hx rfl (hb hby at_8) ?_
  show Steps p.tables e below (T1.setTop (mkF m 9 #[.val (.int p0), .val (.int p1), .val (.int p2), .val (.int p3), .val (.int p4), .val (.int p5), .val (.ref b1), .unset, .unset, .unset, .unset, .unset] [(.int (0 : Int32)), (.ref b1)])) _
  refine XS.iloadN X1.here hx rfl (hb hby at_9) rfl ?_
  show Steps p.tables e below (T1.setTop (mkF m 10 #[.val (.int p0), .val (.int p1), .val (.int p2), .val (.int p3), .val (.int p4), .val (.int p5), .val (.ref b1), .unset, .unset, .unset, .unset, .unset] [(.int p0), (.int (0 : Int32)), (.ref b1)])) _
  refine XS.i2b X1.here hx rfl (hb hby at_10) rfl ?_
  show Steps p.tables e below (T1.setTop (mkF m 11 #[.val (.int p0), .val (.int p1), .val (.int p2), .val (.int p3), .val (.int p4), .val (.int p5), .val (.ref b1), .unset, .unset, .unset, .unset, .unset] [(.int (p0.toInt8.toInt32)), (.int (0 : Int32)), (.ref b1)])) _
  refine st2 _ ?_
  show Steps p.tables e below (T2.setTop (mkF m 12 #[.val (.int p0), .val (.int p1), .val (.int p2), .val (.int p3), .val (.int p4), .val (.int p5), .val (.ref b1), .unset, .unset, .unset, .unset, .unset] [])) _
  refine XS.aload X2.here hx rfl (hb hby at_12) rfl rfl ?_
  show Steps p.tables e below (T2.setTop (mkF m 14 #[.val (.int p0), .val (.int p1), .val (.int p2), .val (.int p3), .val (.int p4), .val (.int p5), .val (.ref b1), .unset, .unset, .unset, .unset, .unset] [(.ref b1)])) _
  refine XS.iconst X2.here hx rfl (hb hby at_14) ?_
  show Steps p.tables e below (T2.setTop (mkF m 15 #[.val (.int p0), .val (.int p1), .val (.int p2), .val (.int p3), .val (.int p4), .val (.int p5), .val (.ref b1), .unset, .unset, .unset, .unset, .unset] [(.int (1 : Int32)), (.ref b1)])) _
  refine XS.iloadN X2.here hx rfl (hb hby at_15) rfl ?_
  show Steps p.tables e below (T2.setTop (mkF m 16 #[.val (.int p0), .val (.int p1), .val (.int p2), .val (.int p3), .val (.int p4), .val (.int p5), .val (.ref b1), .unset, .unset, .unset, .unset, .unset] [(.int p0), (.int (1 : Int32)), (.ref b1)])) _
  refine XS.bipush X2.here hx rfl (hb hby at_16) ?_
  show Steps p.tables e below (T2.setTop (mkF m 18 #[.val (.int p0), .val (.int p1), .val (.int p2), .val (.int p3), .val (.int p4), .val (.int p5), .val (.ref b1), .unset, .unset, .unset, .unset, .unset] [(.int (8 : Int32)), (.int p0), (.int (1 : Int32)), (.ref b1)])) _
  refine XS.iushr X2.here hx rfl (hb hby at_18) rfl ?_
  show Steps p.tables e below (T2.setTop (mkF m 19 #[.val (.int p0), .val (.int p1), .val (.int p2), .val (.int p3), .val (.int p4), .val (.int p5), .val (.ref b1), .unset, .unset, .unset, .unset, .unset] [(.int ((p0.toUInt32 >>> ((8 : Int32) &&& 31).toUInt32).toInt32)), (.int (1 : Int32)), (.ref b1)])) _
  refine XS.i2b X2.here hx rfl (hb hby at_19) rfl ?_
  show Steps p.tables e below (T2.setTop (mkF m 20 #[.val (.int p0), .val (.int p1), .val (.int p2), .val (.int p3), .val (.int p4), .val (.int p5), .val (.ref b1), .unset, .unset, .unset, .unset, .unset] [(.int (((p0.toUInt32 >>> ((8 : Int32) &&& 31).toUInt32).toInt32).toInt8.toInt32)), (.int (1 : Int32)), (.ref b1)])) _
  refine st3 _ ?_
  show Steps p.tables e below (T3.setTop (mkF m 21 #[.val (.int p0), .val (.int p1), .val (.int p2), .val (.int p3), .val (.int p4), .val (.int p5), .val (.ref b1), .unset, .unset, .unset, .unset, .unset] [])) _
  refine XS.aload X3.here hx rfl (hb hby at_21) rfl rfl ?_
  show Steps p.tables e below (T3.setTop (mkF m 23 #[.val (.int p0), .val (.int p1), .val (.int p2), .val (.int p3), .val (.int p4), .val (.int p5), .val (.ref b1), .unset, .unset, .unset, .unset, .unset] [(.ref b1)])) _
  refine XS.iconst X3.here hx rfl (hb hby at_23) ?_
  show Steps p.tables e below (T3.setTop (mkF m 24 #[.val (.int p0), .val (.int p1), .val (.int p2), .val (.int p3), .val (.int p4), .val (.int p5), .val (.ref b1), .unset, .unset, .unset, .unset, .unset] [(.int (2 : Int32)), (.ref b1)])) _
  refine XS.iloadN X3.here hx rfl (hb hby at_24) rfl ?_
  show Steps p.tables e below (T3.setTop (mkF m 25 #[.val (.int p0), .val (.int p1), .val (.int p2), .val (.int p3), .val (.int p4), .val (.int p5), .val (.ref b1), .unset, .unset, .unset, .unset, .unset] [(.int p0), (.int (2 : Int32)), (.ref b1)])) _
  refine XS.bipush X3.here hx rfl (hb hby at_25) ?_
  show Steps p.tables e below (T3.setTop (mkF m 27 #[.val (.int p0), .val (.int p1), .val (.int p2), .val (.int p3), .val (.int p4), .val (.int p5), .val (.ref b1), .unset, .unset, .unset, .unset, .unset] [(.int (16 : Int32)), (.int p0), (.int (2 : Int32)), (.ref b1)])) _
  refine XS.iushr X3.here hx rfl (hb hby at_27) rfl ?_
  show Steps p.tables e below (T3.setTop (mkF m 28 #[.val (.int p0), .val (.int p1), .val (.int p2), .val (.int p3), .val (.int p4), .val (.int p5), .val (.ref b1), .unset, .unset, .unset, .unset, .unset] [(.int ((p0.toUInt32 >>> ((16 : Int32) &&& 31).toUInt32).toInt32)), (.int (2 : Int32)), (.ref b1)])) _
  refine XS.i2b X3.here hx rfl (hb hby at_28) rfl ?_
  show Steps p.tables e below (T3.setTop (mkF m 29 #[.val (.int p0), .val (.int p1), .val (.int p2), .val (.int p3), .val (.int p4), .val (.int p5), .val (.ref b1), .unset, .unset, .unset, .unset, .unset] [(.int (((p0.toUInt32 >>> ((16 : Int32) &&& 31).toUInt32).toInt32).toInt8.toInt32)), (.int (2 : Int32)), (.ref b1)])) _
  refine st4 _ ?_
  show Steps p.tables e below (T4.setTop (mkF m 30 #[.val (.int p0), .val (.int p1), .val (.int p2), .val (.int p3), .val (.int p4), .val (.int p5), .val (.ref b1), .unset, .unset, .unset, .unset, .unset] [])) _
  refine XS.aload X4.here hx rfl (hb hby at_30) rfl rfl ?_
  show Steps p.tables e below (T4.setTop (mkF m 32 #[.val (.int p0), .val (.int p1), .val (.int p2), .val (.int p3), .val (.int p4), .val (.int p5), .val (.ref b1), .unset, .unset, .unset, .unset, .unset] [(.ref b1)])) _
  refine XS.iconst X4.here hx rfl (hb hby at_32) ?_
  show Steps p.tables e below (T4.setTop (mkF m 33 #[.val (.int p0), .val (.int p1), .val (.int p2), .val (.int p3), .val (.int p4), .val (.int p5), .val (.ref b1), .unset, .unset, .unset, .unset, .unset] [(.int (3 : Int32)), (.ref b1)])) _
  refine XS.iloadN X4.here hx rfl (hb hby at_33) rfl ?_
  show Steps p.tables e below (T4.setTop (mkF m 34 #[.val (.int p0), .val (.int p1), .val (.int p2), .val (.int p3), .val (.int p4), .val (.int p5), .val (.ref b1), .unset, .unset, .unset, .unset, .unset] [(.int p0), (.int (3 : Int32)), (.ref b1)])) _
  refine XS.bipush X4.here hx rfl (hb hby at_34) ?_
  show Steps p.tables e below (T4.setTop (mkF m 36 #[.val (.int p0), .val (.int p1), .val (.int p2), .val (.int p3), .val (.int p4), .val (.int p5), .val (.ref b1), .unset, .unset, .unset, .unset, .unset] [(.int (24 : Int32)), (.int p0), (.int (3 : Int32)), (.ref b1)])) _
  refine XS.iushr X4.here hx rfl (hb hby at_36) rfl ?_
  show Steps p.tables e below (T4.setTop (mkF m 37 #[.val (.int p0), .val (.int p1), .val (.int p2), .val (.int p3), .val (.int p4), .val (.int p5), .val (.ref b1), .unset, .unset, .unset, .unset, .unset] [(.int ((p0.toUInt32 >>> ((24 : Int32) &&& 31).toUInt32).toInt32)), (.int (3 : Int32)), (.ref b1)])) _
  refine XS.i2b X4.here hx rfl (hb hby at_37) rfl ?_
  show Steps p.tables e below (T4.setTop (mkF m 38 #[.val (.int p0), .val (.int p1), .val (.int p2), .val (.int p3), .val (.int p4), .val (.int p5), .val (.ref b1), .unset, .unset, .unset, .unset, .unset] [(.int (((p0.toUInt32 >>> ((24 : Int32) &&& 31).toUInt32).toInt32).toInt8.toInt32)), (.int (3 : Int32)), (.ref b1)])) _
  refine st5 _ ?_
  show Steps p.tables e below (T5.setTop (mkF m 39 #[.val (.int p0), .val (.int p1), .val (.int p2), .val (.int p3), .val (.int p4), .val (.int p5), .val (.ref b1), .unset, .unset, .unset, .unset, .unset] [])) _
  refine XS.aload X5.here hx rfl (hb hby at_39) rfl rfl ?_
  show Steps p.tables e below (T5.setTop (mkF m 41 #[.val (.int p0), .val (.int p1), .val (.int p2), .val (.int p3), .val (.int p4), .val (.int p5), .val (.ref b1), .unset, .unset, .unset, .unset, .unset] [(.ref b1)])) _
  refine XS.iconst X5.here hx rfl (hb hby at_41) ?_
  show Steps p.tables e below (T5.setTop (mkF m 42 #[.val (.int p0), .val (.int p1), .val (.int p2), .val (.int p3), .val (.int p4), .val (.int p5), .val (.ref b1), .unset, .unset, .unset, .unset, .unset] [(.int (4 : Int32)), (.ref b1)])) _
  refine XS.iloadN X5.here hx rfl (hb hby at_42) rfl ?_
  show Steps p.tables e below (T5.setTop (mkF m 43 #[.val (.int p0), .val (.int p1), .val (.int p2), .val (.int p3), .val (.int p4), .val (.int p5), .val (.ref b1), .unset, .unset, .unset, .unset, .unset] [(.int p1), (.int (4 : Int32)), (.ref b1)])) _
  refine XS.i2b X5.here hx rfl (hb hby at_43) rfl ?_
  show Steps p.tables e below (T5.setTop (mkF m 44 #[.val (.int p0), .val (.int p1), .val (.int p2), .val (.int p3), .val (.int p4), .val (.int p5), .val (.ref b1), .unset, .unset, .unset, .unset, .unset] [(.int (p1.toInt8.toInt32)), (.int (4 : Int32)), (.ref b1)])) _
  refine st6 _ ?_
  show Steps p.tables e below (T6.setTop (mkF m 45 #[.val (.int p0), .val (.int p1), .val (.int p2), .val (.int p3), .val (.int p4), .val (.int p5), .val (.ref b1), .unset, .unset, .unset, .unset, .unset] [])) _
  refine XS.aload X6.here hx rfl (hb hby at_45) rfl rfl ?_
  show Steps p.tables e below (T6.setTop (mkF m 47 #[.val (.int p0), .val (.int p1), .val (.int p2), .val (.int p3), .val (.int p4), .val (.int p5), .val (.ref b1), .unset, .unset, .unset, .unset, .unset] [(.ref b1)])) _
  refine XS.iconst X6.here hx rfl (hb hby at_47) ?_
  show Steps p.tables e below (T6.setTop (mkF m 48 #[.val (.int p0), .val (.int p1), .val (.int p2), .val (.int p3), .val (.int p4), .val (.int p5), .val (.ref b1), .unset, .unset, .unset, .unset, .unset] [(.int (5 : Int32)), (.ref b1)])) _
  refine XS.iloadN X6.here hx rfl (hb hby at_48) rfl ?_
  show Steps p.tables e below (T6.setTop (mkF m 49 #[.val (.int p0), .val (.int p1), .val (.int p2), .val (.int p3), .val (.int p4), .val (.int p5), .val (.ref b1), .unset, .unset, .unset, .unset, .unset] [(.int p1), (.int (5 : Int32)), (.ref b1)])) _
  refine XS.bipush X6.here hx rfl (hb hby at_49) ?_
  show Steps p.tables e below (T6.setTop (mkF m 51 #[.val (.int p0), .val (.int p1), .val (.int p2), .val (.int p3), .val (.int p4), .val (.int p5), .val (.ref b1), .unset, .unset, .unset, .unset, .unset] [(.int (8 : Int32)), (.int p1), (.int (5 : Int32)), (.ref b1)])) _
  refine XS.iushr X6.here hx rfl (hb hby at_51) rfl ?_
  show Steps p.tables e below (T6.setTop (mkF m 52 #[.val (.int p0), .val (.int p1), .val (.int p2), .val (.int p3), .val (.int p4), .val (.int p5), .val (.ref b1), .unset, .unset, .unset, .unset, .unset] [(.int ((p1.toUInt32 >>> ((8 : Int32) &&& 31).toUInt32).toInt32)), (.int (5 : Int32)), (.ref b1)])) _
  refine XS.i2b X6.here hx rfl (hb hby at_52) rfl ?_
  show Steps p.tables e below (T6.setTop (mkF m 53 #[.val (.int p0), .val (.int p1), .val (.int p2), .val (.int p3), .val (.int p4), .val (.int p5), .val (.ref b1), .unset, .unset, .unset, .unset, .unset] [(.int (((p1.toUInt32 >>> ((8 : Int32) &&& 31).toUInt32).toInt32).toInt8.toInt32)), (.int (5 : Int32)), (.ref b1)])) _
  refine st7 _ ?_
  show Steps p.tables e below (T7.setTop (mkF m 54 #[.val (.int p0), .val (.int p1), .val (.int p2), .val (.int p3), .val (.int p4), .val (.int p5), .val (.ref b1), .unset, .unset, .unset, .unset, .unset] [])) _
  refine XS.aload X7.here hx rfl (hb hby at_54) rfl rfl ?_
  show Steps p.tables e below (T7.setTop (mkF m 56 #[.val (.int p0), .val (.int p1), .val (.int p2), .val (.int p3), .val (.int p4), .val (.int p5), .val (.ref b1), .unset, .unset, .unset, .unset, .unset] [(.ref b1)])) _
  refine XS.bipush X7.here hx rfl (hb hby at_56) ?_
  show Steps p.tables e below (T7.setTop (mkF m 58 #[.val (.int p0), .val (.int p1), .val (.int p2), .val (.int p3), .val (.int p4), .val (.int p5), .val (.ref b1), .unset, .unset, .unset, .unset, .unset] [(.int (6 : Int32)), (.ref b1)])) _
  refine XS.iloadN X7.here hx rfl (hb hby at_58) rfl ?_
  show Steps p.tables e below (T7.setTop (mkF m 59 #[.val (.int p0), .val (.int p1), .val (.int p2), .val (.int p3), .val (.int p4), .val (.int p5), .val (.ref b1), .unset, .unset, .unset, .unset, .unset] [(.int p1), (.int (6 : Int32)), (.ref b1)])) _
  refine XS.bipush X7.here hx rfl (hb hby at_59) ?_
  show Steps p.tables e below (T7.setTop (mkF m 61 #[.val (.int p0), .val (.int p1), .val (.int p2), .val (.int p3), .val (.int p4), .val (.int p5), .val (.ref b1), .unset, .unset, .unset, .unset, .unset] [(.int (16 : Int32)), (.int p1), (.int (6 : Int32)), (.ref b1)])) _
  refine XS.iushr X7.here hx rfl (hb hby at_61) rfl ?_
  show Steps p.tables e below (T7.setTop (mkF m 62 #[.val (.int p0), .val (.int p1), .val (.int p2), .val (.int p3), .val (.int p4), .val (.int p5), .val (.ref b1), .unset, .unset, .unset, .unset, .unset] [(.int ((p1.toUInt32 >>> ((16 : Int32) &&& 31).toUInt32).toInt32)), (.int (6 : Int32)), (.ref b1)])) _
  refine XS.i2b X7.here hx rfl (hb hby at_62) rfl ?_
  show Steps p.tables e below (T7.setTop (mkF m 63 #[.val (.int p0), .val (.int p1), .val (.int p2), .val (.int p3), .val (.int p4), .val (.int p5), .val (.ref b1), .unset, .unset, .unset, .unset, .unset] [(.int (((p1.toUInt32 >>> ((16 : Int32) &&& 31).toUInt32).toInt32).toInt8.toInt32)), (.int (6 : Int32)), (.ref b1)])) _
  refine st8 _ ?_
  show Steps p.tables e below (T8.setTop (mkF m 64 #[.val (.int p0), .val (.int p1), .val (.int p2), .val (.int p3), .val (.int p4), .val (.int p5), .val (.ref b1), .unset, .unset, .unset, .unset, .unset] [])) _
  refine XS.aload X8.here hx rfl (hb hby at_64) rfl rfl ?_
  show Steps p.tables e below (T8.setTop (mkF m 66 #[.val (.int p0), .val (.int p1), .val (.int p2), .val (.int p3), .val (.int p4), .val (.int p5), .val (.ref b1), .unset, .unset, .unset, .unset, .unset] [(.ref b1)])) _
  refine XS.bipush X8.here hx rfl (hb hby at_66) ?_
  show Steps p.tables e below (T8.setTop (mkF m 68 #[.val (.int p0), .val (.int p1), .val (.int p2), .val (.int p3), .val (.int p4), .val (.int p5), .val (.ref b1), .unset, .unset, .unset, .unset, .unset] [(.int (7 : Int32)), (.ref b1)])) _
  refine XS.iloadN X8.here hx rfl (hb hby at_68) rfl ?_
  show Steps p.tables e below (T8.setTop (mkF m 69 #[.val (.int p0), .val (.int p1), .val (.int p2), .val (.int p3), .val (.int p4), .val (.int p5), .val (.ref b1), .unset, .unset, .unset, .unset, .unset] [(.int p1), (.int (7 : Int32)), (.ref b1)])) _
  refine XS.bipush X8.here hx rfl (hb hby at_69) ?_
  show Steps p.tables e below (T8.setTop (mkF m 71 #[.val (.int p0), .val (.int p1), .val (.int p2), .val (.int p3), .val (.int p4), .val (.int p5), .val (.ref b1), .unset, .unset, .unset, .unset, .unset] [(.int (24 : Int32)), (.int p1), (.int (7 : Int32)), (.ref b1)])) _
  refine XS.iushr X8.here hx rfl (hb hby at_71) rfl ?_
  show Steps p.tables e below (T8.setTop (mkF m 72 #[.val (.int p0), .val (.int p1), .val (.int p2), .val (.int p3), .val (.int p4), .val (.int p5), .val (.ref b1), .unset, .unset, .unset, .unset, .unset] [(.int ((p1.toUInt32 >>> ((24 : Int32) &&& 31).toUInt32).toInt32)), (.int (7 : Int32)), (.ref b1)])) _
  refine XS.i2b X8.here hx rfl (hb hby at_72) rfl ?_
  show Steps p.tables e below (T8.setTop (mkF m 73 #[.val (.int p0), .val (.int p1), .val (.int p2), .val (.int p3), .val (.int p4), .val (.int p5), .val (.ref b1), .unset, .unset, .unset, .unset, .unset] [(.int (((p1.toUInt32 >>> ((24 : Int32) &&& 31).toUInt32).toInt32).toInt8.toInt32)), (.int (7 : Int32)), (.ref b1)])) _
  refine st9 _ ?_
  show Steps p.tables e below (T9.setTop (mkF m 74 #[.val (.int p0), .val (.int p1), .val (.int p2), .val (.int p3), .val (.int p4), .val (.int p5), .val (.ref b1), .unset, .unset, .unset, .unset, .unset] [])) _
  refine XS.iloadN X9.here hx rfl (hb hby at_74) rfl ?_
  show Steps p.tables e below (T9.setTop (mkF m 75 #[.val (.int p0), .val (.int p1), .val (.int p2), .val (.int p3), .val (.int p4), .val (.int p5), .val (.ref b1), .unset, .unset, .unset, .unset, .unset] [(.int p2)])) _
  refine X9.ldcI hx hown (mvT hZ (hw _ (List.mem_of_getElem? (i := 1) rfl))) rfl (hb hby at_75) ?_
  show Steps p.tables e below (T9.setTop (mkF m 77 #[.val (.int p0), .val (.int p1), .val (.int p2), .val (.int p3), .val (.int p4), .val (.int p5), .val (.ref b1), .unset, .unset, .unset, .unset, .unset] [(.int (2147483647 : Int32)), (.int p2)])) _
  refine XS.iand X9.here hx rfl (hb hby at_77) rfl ?_
  show Steps p.tables e below (T9.setTop (mkF m 78 #[.val (.int p0), .val (.int p1), .val (.int p2), .val (.int p3), .val (.int p4), .val (.int p5), .val (.ref b1), .unset, .unset, .unset, .unset, .unset] [(.int (p2 &&& (2147483647 : Int32)))])) _
  refine XS.iconst X9.here hx rfl (hb hby at_78) ?_
  show Steps p.tables e below (T9.setTop (mkF m 79 #[.val (.int p0), .val (.int p1), .val (.int p2), .val (.int p3), .val (.int p4), .val (.int p5), .val (.ref b1), .unset, .unset, .unset, .unset, .unset] [(.int (5 : Int32)), (.int (p2 &&& (2147483647 : Int32)))])) _
  refine iremM X9 hx rfl (hb hby at_79) rfl (by decide) ?_
  show Steps p.tables e below (T9.setTop (mkF m 80 #[.val (.int p0), .val (.int p1), .val (.int p2), .val (.int p3), .val (.int p4), .val (.int p5), .val (.ref b1), .unset, .unset, .unset, .unset, .unset] [(.int ((p2 &&& (2147483647 : Int32)) % (5 : Int32)))])) _
  refine XS.istore X9.here hx rfl (hb hby at_80) rfl (l' := #[.val (.int p0), .val (.int p1), .val (.int p2), .val (.int p3), .val (.int p4), .val (.int p5), .val (.ref b1), .val (.int ((p2 &&& (2147483647 : Int32)) % (5 : Int32))), .unset, .unset, .unset, .unset]) rfl ?_
  show Steps p.tables e below (T9.setTop (mkF m 82 #[.val (.int p0), .val (.int p1), .val (.int p2), .val (.int p3), .val (.int p4), .val (.int p5), .val (.ref b1), .val (.int ((p2 &&& (2147483647 : Int32)) % (5 : Int32))), .unset, .unset, .unset, .unset] [])) _
  rw [h_of]
  show Steps p.tables e below (T9.setTop (mkF m 82 #[.val (.int p0), .val (.int p1), .val (.int p2), .val (.int p3), .val (.int p4), .val (.int p5), .val (.ref b1), .val (.int of), .unset, .unset, .unset, .unset] [])) _
  refine XS.iloadN X9.here hx rfl (hb hby at_82) rfl ?_
  show Steps p.tables e below (T9.setTop (mkF m 83 #[.val (.int p0), .val (.int p1), .val (.int p2), .val (.int p3), .val (.int p4), .val (.int p5), .val (.ref b1), .val (.int of), .unset, .unset, .unset, .unset] [(.int p3)])) _
  refine X9.ldcI hx hown (mvT hZ (hw _ (List.mem_of_getElem? (i := 1) rfl))) rfl (hb hby at_83) ?_
  show Steps p.tables e below (T9.setTop (mkF m 85 #[.val (.int p0), .val (.int p1), .val (.int p2), .val (.int p3), .val (.int p4), .val (.int p5), .val (.ref b1), .val (.int of), .unset, .unset, .unset, .unset] [(.int (2147483647 : Int32)), (.int p3)])) _
  refine XS.iand X9.here hx rfl (hb hby at_85) rfl ?_
  show Steps p.tables e below (T9.setTop (mkF m 86 #[.val (.int p0), .val (.int p1), .val (.int p2), .val (.int p3), .val (.int p4), .val (.int p5), .val (.ref b1), .val (.int of), .unset, .unset, .unset, .unset] [(.int (p3 &&& (2147483647 : Int32)))])) _
  refine XS.bipush X9.here hx rfl (hb hby at_86) ?_
  show Steps p.tables e below (T9.setTop (mkF m 88 #[.val (.int p0), .val (.int p1), .val (.int p2), .val (.int p3), .val (.int p4), .val (.int p5), .val (.ref b1), .val (.int of), .unset, .unset, .unset, .unset] [(.int (17 : Int32)), (.int (p3 &&& (2147483647 : Int32)))])) _
  refine iremM X9 hx rfl (hb hby at_88) rfl (by decide) ?_
  show Steps p.tables e below (T9.setTop (mkF m 89 #[.val (.int p0), .val (.int p1), .val (.int p2), .val (.int p3), .val (.int p4), .val (.int p5), .val (.ref b1), .val (.int of), .unset, .unset, .unset, .unset] [(.int ((p3 &&& (2147483647 : Int32)) % (17 : Int32)))])) _
  refine XS.istore X9.here hx rfl (hb hby at_89) rfl (l' := #[.val (.int p0), .val (.int p1), .val (.int p2), .val (.int p3), .val (.int p4), .val (.int p5), .val (.ref b1), .val (.int of), .val (.int ((p3 &&& (2147483647 : Int32)) % (17 : Int32))), .unset, .unset, .unset]) rfl ?_
  show Steps p.tables e below (T9.setTop (mkF m 91 #[.val (.int p0), .val (.int p1), .val (.int p2), .val (.int p3), .val (.int p4), .val (.int p5), .val (.ref b1), .val (.int of), .val (.int ((p3 &&& (2147483647 : Int32)) % (17 : Int32))), .unset, .unset, .unset] [])) _
  rw [h_k1]
  show Steps p.tables e below (T9.setTop (mkF m 91 #[.val (.int p0), .val (.int p1), .val (.int p2), .val (.int p3), .val (.int p4), .val (.int p5), .val (.ref b1), .val (.int of), .val (.int k1), .unset, .unset, .unset] [])) _
  refine XS.iload X9.here hx rfl (hb hby at_91) rfl ?_
  show Steps p.tables e below (T9.setTop (mkF m 93 #[.val (.int p0), .val (.int p1), .val (.int p2), .val (.int p3), .val (.int p4), .val (.int p5), .val (.ref b1), .val (.int of), .val (.int k1), .unset, .unset, .unset] [(.int p4)])) _
  refine X9.ldcI hx hown (mvT hZ (hw _ (List.mem_of_getElem? (i := 1) rfl))) rfl (hb hby at_93) ?_
  show Steps p.tables e below (T9.setTop (mkF m 95 #[.val (.int p0), .val (.int p1), .val (.int p2), .val (.int p3), .val (.int p4), .val (.int p5), .val (.ref b1), .val (.int of), .val (.int k1), .unset, .unset, .unset] [(.int (2147483647 : Int32)), (.int p4)])) _
  refine XS.iand X9.here hx rfl (hb hby at_95) rfl ?_
  show Steps p.tables e below (T9.setTop (mkF m 96 #[.val (.int p0), .val (.int p1), .val (.int p2), .val (.int p3), .val (.int p4), .val (.int p5), .val (.ref b1), .val (.int of), .val (.int k1), .unset, .unset, .unset] [(.int (p4 &&& (2147483647 : Int32)))])) _
  refine XS.bipush X9.here hx rfl (hb hby at_96) ?_
  show Steps p.tables e below (T9.setTop (mkF m 98 #[.val (.int p0), .val (.int p1), .val (.int p2), .val (.int p3), .val (.int p4), .val (.int p5), .val (.ref b1), .val (.int of), .val (.int k1), .unset, .unset, .unset] [(.int (17 : Int32)), (.int (p4 &&& (2147483647 : Int32)))])) _
  refine iremM X9 hx rfl (hb hby at_98) rfl (by decide) ?_
  show Steps p.tables e below (T9.setTop (mkF m 99 #[.val (.int p0), .val (.int p1), .val (.int p2), .val (.int p3), .val (.int p4), .val (.int p5), .val (.ref b1), .val (.int of), .val (.int k1), .unset, .unset, .unset] [(.int ((p4 &&& (2147483647 : Int32)) % (17 : Int32)))])) _
  refine XS.istore X9.here hx rfl (hb hby at_99) rfl (l' := #[.val (.int p0), .val (.int p1), .val (.int p2), .val (.int p3), .val (.int p4), .val (.int p5), .val (.ref b1), .val (.int of), .val (.int k1), .val (.int ((p4 &&& (2147483647 : Int32)) % (17 : Int32))), .unset, .unset]) rfl ?_
  show Steps p.tables e below (T9.setTop (mkF m 101 #[.val (.int p0), .val (.int p1), .val (.int p2), .val (.int p3), .val (.int p4), .val (.int p5), .val (.ref b1), .val (.int of), .val (.int k1), .val (.int ((p4 &&& (2147483647 : Int32)) % (17 : Int32))), .unset, .unset] [])) _
  rw [h_k2]
  show Steps p.tables e below (T9.setTop (mkF m 101 #[.val (.int p0), .val (.int p1), .val (.int p2), .val (.int p3), .val (.int p4), .val (.int p5), .val (.ref b1), .val (.int of), .val (.int k1), .val (.int k2), .unset, .unset] [])) _
  refine st10 _ ?_
  show Steps p.tables e below (T10.setTop (mkF m 104 #[.val (.int p0), .val (.int p1), .val (.int p2), .val (.int p3), .val (.int p4), .val (.int p5), .val (.ref b1), .val (.int of), .val (.int k1), .val (.int k2), .unset, .unset] [(.ref b10)])) _
  refine XS.dup X10.here hx rfl (hb hby at_104) rfl rfl ?_
  show Steps p.tables e below (T10.setTop (mkF m 105 #[.val (.int p0), .val (.int p1), .val (.int p2), .val (.int p3), .val (.int p4), .val (.int p5), .val (.ref b1), .val (.int of), .val (.int k1), .val (.int k2), .unset, .unset] [(.ref b10), (.ref b10)])) _
  refine XS.aload X10.here hx rfl (hb hby at_105) rfl rfl ?_
  show Steps p.tables e below (T10.setTop (mkF m 107 #[.val (.int p0), .val (.int p1), .val (.int p2), .val (.int p3), .val (.int p4), .val (.int p5), .val (.ref b1), .val (.int of), .val (.int k1), .val (.int k2), .unset, .unset] [(.ref b1), (.ref b10), (.ref b10)])) _
  refine XS.iload X10.here hx rfl (hb hby at_107) rfl ?_
  show Steps p.tables e below (T10.setTop (mkF m 109 #[.val (.int p0), .val (.int p1), .val (.int p2), .val (.int p3), .val (.int p4), .val (.int p5), .val (.ref b1), .val (.int of), .val (.int k1), .val (.int k2), .unset, .unset] [(.int of), (.ref b1), (.ref b10), (.ref b10)])) _
  refine st12.trans ?_
  show Steps p.tables e below (T12.setTop (mkF m 112 #[.val (.int p0), .val (.int p1), .val (.int p2), .val (.int p3), .val (.int p4), .val (.int p5), .val (.ref b1), .val (.int of), .val (.int k1), .val (.int k2), .unset, .unset] [(.ref b10)])) _
  refine XS.astore X12.here hx rfl (hb hby at_112) rfl rfl (l' := #[.val (.int p0), .val (.int p1), .val (.int p2), .val (.int p3), .val (.int p4), .val (.int p5), .val (.ref b1), .val (.int of), .val (.int k1), .val (.int k2), .val (.ref b10), .unset]) rfl ?_
  show Steps p.tables e below (T12.setTop (mkF m 114 #[.val (.int p0), .val (.int p1), .val (.int p2), .val (.int p3), .val (.int p4), .val (.int p5), .val (.ref b1), .val (.int of), .val (.int k1), .val (.int k2), .val (.ref b10), .unset] [])) _
  refine XS.aload X12.here hx rfl (hb hby at_114) rfl rfl ?_
  show Steps p.tables e below (T12.setTop (mkF m 116 #[.val (.int p0), .val (.int p1), .val (.int p2), .val (.int p3), .val (.int p4), .val (.int p5), .val (.ref b1), .val (.int of), .val (.int k1), .val (.int k2), .val (.ref b10), .unset] [(.ref b10)])) _
  refine XS.iload X12.here hx rfl (hb hby at_116) rfl ?_
  show Steps p.tables e below (T12.setTop (mkF m 118 #[.val (.int p0), .val (.int p1), .val (.int p2), .val (.int p3), .val (.int p4), .val (.int p5), .val (.ref b1), .val (.int of), .val (.int k1), .val (.int k2), .val (.ref b10), .unset] [(.int k1), (.ref b10)])) _
  refine st14.trans ?_
  show Steps p.tables e below (T14.setTop (mkF m 121 #[.val (.int p0), .val (.int p1), .val (.int p2), .val (.int p3), .val (.int p4), .val (.int p5), .val (.ref b1), .val (.int of), .val (.int k1), .val (.int k2), .val (.ref b10), .unset] [(.int ra)])) _
  refine XS.pop X14.here hx rfl (hb hby at_121) rfl rfl ?_
  show Steps p.tables e below (T14.setTop (mkF m 122 #[.val (.int p0), .val (.int p1), .val (.int p2), .val (.int p3), .val (.int p4), .val (.int p5), .val (.ref b1), .val (.int of), .val (.int k1), .val (.int k2), .val (.ref b10), .unset] [])) _
  refine XS.aload X14.here hx rfl (hb hby at_122) rfl rfl ?_
  show Steps p.tables e below (T14.setTop (mkF m 124 #[.val (.int p0), .val (.int p1), .val (.int p2), .val (.int p3), .val (.int p4), .val (.int p5), .val (.ref b1), .val (.int of), .val (.int k1), .val (.int k2), .val (.ref b10), .unset] [(.ref b10)])) _
  refine XS.iload X14.here hx rfl (hb hby at_124) rfl ?_
  show Steps p.tables e below (T14.setTop (mkF m 126 #[.val (.int p0), .val (.int p1), .val (.int p2), .val (.int p3), .val (.int p4), .val (.int p5), .val (.ref b1), .val (.int of), .val (.int k1), .val (.int k2), .val (.ref b10), .unset] [(.int k2), (.ref b10)])) _
  refine st16.trans ?_
  show Steps p.tables e below (T16.setTop (mkF m 129 #[.val (.int p0), .val (.int p1), .val (.int p2), .val (.int p3), .val (.int p4), .val (.int p5), .val (.ref b1), .val (.int of), .val (.int k1), .val (.int k2), .val (.ref b10), .unset] [(.int rb)])) _
  refine XS.pop X16.here hx rfl (hb hby at_129) rfl rfl ?_
  show Steps p.tables e below (T16.setTop (mkF m 130 #[.val (.int p0), .val (.int p1), .val (.int p2), .val (.int p3), .val (.int p4), .val (.int p5), .val (.ref b1), .val (.int of), .val (.int k1), .val (.int k2), .val (.ref b10), .unset] [])) _
  refine XS.aload X16.here hx rfl (hb hby at_130) rfl rfl ?_
  show Steps p.tables e below (T16.setTop (mkF m 132 #[.val (.int p0), .val (.int p1), .val (.int p2), .val (.int p3), .val (.int p4), .val (.int p5), .val (.ref b1), .val (.int of), .val (.int k1), .val (.int k2), .val (.ref b10), .unset] [(.ref b10)])) _
  refine st18.trans ?_
  show Steps p.tables e below (T18.setTop (mkF m 135 #[.val (.int p0), .val (.int p1), .val (.int p2), .val (.int p3), .val (.int p4), .val (.int p5), .val (.ref b1), .val (.int of), .val (.int k1), .val (.int k2), .val (.ref b10), .unset] [])) _
  refine XS.iload X18.here hx rfl (hb hby at_135) rfl ?_
  show Steps p.tables e below (T18.setTop (mkF m 137 #[.val (.int p0), .val (.int p1), .val (.int p2), .val (.int p3), .val (.int p4), .val (.int p5), .val (.ref b1), .val (.int of), .val (.int k1), .val (.int k2), .val (.ref b10), .unset] [(.int p5)])) _
  refine XS.iconst X18.here hx rfl (hb hby at_137) ?_
  show Steps p.tables e below (T18.setTop (mkF m 138 #[.val (.int p0), .val (.int p1), .val (.int p2), .val (.int p3), .val (.int p4), .val (.int p5), .val (.ref b1), .val (.int of), .val (.int k1), .val (.int k2), .val (.ref b10), .unset] [(.int (1 : Int32)), (.int p5)])) _
  refine XS.iand X18.here hx rfl (hb hby at_138) rfl ?_
  show Steps p.tables e below (T18.setTop (mkF m 139 #[.val (.int p0), .val (.int p1), .val (.int p2), .val (.int p3), .val (.int p4), .val (.int p5), .val (.ref b1), .val (.int of), .val (.int k1), .val (.int k2), .val (.ref b10), .unset] [(.int (p5 &&& (1 : Int32)))])) _
  refine XS.ifYes X18.here hx rfl (pc0 := 139) (pc' := 147) rfl (hb hby at_139) rfl ((if0 _ _).trans (teq hs).1) (by decide) (by decide) ?_
  show Steps p.tables e below (T18.setTop (mkF m 147 #[.val (.int p0), .val (.int p1), .val (.int p2), .val (.int p3), .val (.int p4), .val (.int p5), .val (.ref b1), .val (.int of), .val (.int k1), .val (.int k2), .val (.ref b10), .unset] [])) _
  refine XS.iload X18.here hx rfl (hb hby at_147) rfl ?_
  show Steps p.tables e below (T18.setTop (mkF m 149 #[.val (.int p0), .val (.int p1), .val (.int p2), .val (.int p3), .val (.int p4), .val (.int p5), .val (.ref b1), .val (.int of), .val (.int k1), .val (.int k2), .val (.ref b10), .unset] [(.int of)])) _
  refine XS.iload X18.here hx rfl (hb hby at_149) rfl ?_
  show Steps p.tables e below (T18.setTop (mkF m 151 #[.val (.int p0), .val (.int p1), .val (.int p2), .val (.int p3), .val (.int p4), .val (.int p5), .val (.ref b1), .val (.int of), .val (.int k1), .val (.int k2), .val (.ref b10), .unset] [(.int k1), (.int of)])) _
  refine XS.iload X18.here hx rfl (hb hby at_151) rfl ?_
  show Steps p.tables e below (T18.setTop (mkF m 153 #[.val (.int p0), .val (.int p1), .val (.int p2), .val (.int p3), .val (.int p4), .val (.int p5), .val (.ref b1), .val (.int of), .val (.int k1), .val (.int k2), .val (.ref b10), .unset] [(.int k2), (.int k1), (.int of)])) _
  refine XS.iadd X18.here hx rfl (hb hby at_153) rfl ?_
  show Steps p.tables e below (T18.setTop (mkF m 154 #[.val (.int p0), .val (.int p1), .val (.int p2), .val (.int p3), .val (.int p4), .val (.int p5), .val (.ref b1), .val (.int of), .val (.int k1), .val (.int k2), .val (.ref b10), .unset] [(.int (k1 + k2)), (.int of)])) _
  refine XS.bipush X18.here hx rfl (hb hby at_154) ?_
  show Steps p.tables e below (T18.setTop (mkF m 156 #[.val (.int p0), .val (.int p1), .val (.int p2), .val (.int p3), .val (.int p4), .val (.int p5), .val (.ref b1), .val (.int of), .val (.int k1), .val (.int k2), .val (.ref b10), .unset] [(.int (7 : Int32)), (.int (k1 + k2)), (.int of)])) _
  refine XS.iadd X18.here hx rfl (hb hby at_156) rfl ?_
  show Steps p.tables e below (T18.setTop (mkF m 157 #[.val (.int p0), .val (.int p1), .val (.int p2), .val (.int p3), .val (.int p4), .val (.int p5), .val (.ref b1), .val (.int of), .val (.int k1), .val (.int k2), .val (.ref b10), .unset] [(.int ((k1 + k2) + (7 : Int32))), (.int of)])) _
  refine XS.bipush X18.here hx rfl (hb hby at_157) ?_
  show Steps p.tables e below (T18.setTop (mkF m 159 #[.val (.int p0), .val (.int p1), .val (.int p2), .val (.int p3), .val (.int p4), .val (.int p5), .val (.ref b1), .val (.int of), .val (.int k1), .val (.int k2), .val (.ref b10), .unset] [(.int (8 : Int32)), (.int ((k1 + k2) + (7 : Int32))), (.int of)])) _
  refine XS.idiv X18.here hx rfl (hb hby at_159) rfl (by decide) ?_
  show Steps p.tables e below (T18.setTop (mkF m 160 #[.val (.int p0), .val (.int p1), .val (.int p2), .val (.int p3), .val (.int p4), .val (.int p5), .val (.ref b1), .val (.int of), .val (.int k1), .val (.int k2), .val (.ref b10), .unset] [(.int (((k1 + k2) + (7 : Int32)) / (8 : Int32))), (.int of)])) _
  refine XS.iadd X18.here hx rfl (hb hby at_160) rfl ?_
  show Steps p.tables e below (T18.setTop (mkF m 161 #[.val (.int p0), .val (.int p1), .val (.int p2), .val (.int p3), .val (.int p4), .val (.int p5), .val (.ref b1), .val (.int of), .val (.int k1), .val (.int k2), .val (.ref b10), .unset] [(.int (of + (((k1 + k2) + (7 : Int32)) / (8 : Int32))))])) _
  refine XS.istore X18.here hx rfl (hb hby at_161) rfl (l' := #[.val (.int p0), .val (.int p1), .val (.int p2), .val (.int p3), .val (.int p4), .val (.int p5), .val (.ref b1), .val (.int of), .val (.int k1), .val (.int k2), .val (.ref b10), .val (.int (of + (((k1 + k2) + (7 : Int32)) / (8 : Int32))))]) rfl ?_
  show Steps p.tables e below (T18.setTop (mkF m 163 #[.val (.int p0), .val (.int p1), .val (.int p2), .val (.int p3), .val (.int p4), .val (.int p5), .val (.ref b1), .val (.int of), .val (.int k1), .val (.int k2), .val (.ref b10), .val (.int (of + (((k1 + k2) + (7 : Int32)) / (8 : Int32))))] [])) _
  rw [h_ps]
  show Steps p.tables e below (T18.setTop (mkF m 163 #[.val (.int p0), .val (.int p1), .val (.int p2), .val (.int p3), .val (.int p4), .val (.int p5), .val (.ref b1), .val (.int of), .val (.int k1), .val (.int k2), .val (.ref b10), .val (.int ps)] [])) _
  refine XS.aload X18.here hx rfl (hb hby at_163) rfl rfl ?_
  show Steps p.tables e below (T18.setTop (mkF m 165 #[.val (.int p0), .val (.int p1), .val (.int p2), .val (.int p3), .val (.int p4), .val (.int p5), .val (.ref b1), .val (.int of), .val (.int k1), .val (.int k2), .val (.ref b10), .val (.int ps)] [(.ref b10)])) _
  refine st20.trans ?_
  show Steps p.tables e below (T20.setTop (mkF m 168 #[.val (.int p0), .val (.int p1), .val (.int p2), .val (.int p3), .val (.int p4), .val (.int p5), .val (.ref b1), .val (.int of), .val (.int k1), .val (.int k2), .val (.ref b10), .val (.int ps)] [(.int bp)])) _
  refine XS.iload X20.here hx rfl (hb hby at_168) rfl ?_
  show Steps p.tables e below (T20.setTop (mkF m 170 #[.val (.int p0), .val (.int p1), .val (.int p2), .val (.int p3), .val (.int p4), .val (.int p5), .val (.ref b1), .val (.int of), .val (.int k1), .val (.int k2), .val (.ref b10), .val (.int ps)] [(.int ps), (.int bp)])) _
  refine XS.icmpYes X20.here hx rfl (pc0 := 170) (pc' := 175) rfl (hb hby at_170) rfl (teq hbp).1 (by decide) (by decide) ?_
  show Steps p.tables e below (T20.setTop (mkF m 175 #[.val (.int p0), .val (.int p1), .val (.int p2), .val (.int p3), .val (.int p4), .val (.int p5), .val (.ref b1), .val (.int of), .val (.int k1), .val (.int k2), .val (.ref b10), .val (.int ps)] [])) _
  refine XS.iload X20.here hx rfl (hb hby at_175) rfl ?_
  show Steps p.tables e below (T20.setTop (mkF m 177 #[.val (.int p0), .val (.int p1), .val (.int p2), .val (.int p3), .val (.int p4), .val (.int p5), .val (.ref b1), .val (.int of), .val (.int k1), .val (.int k2), .val (.ref b10), .val (.int ps)] [(.int ps)])) _
  refine XS.bipush X20.here hx rfl (hb hby at_177) ?_
  show Steps p.tables e below (T20.setTop (mkF m 179 #[.val (.int p0), .val (.int p1), .val (.int p2), .val (.int p3), .val (.int p4), .val (.int p5), .val (.ref b1), .val (.int of), .val (.int k1), .val (.int k2), .val (.ref b10), .val (.int ps)] [(.int (8 : Int32)), (.int ps)])) _
  refine XS.icmpYes X20.here hx rfl (pc0 := 179) (pc' := 184) rfl (hb hby at_179) rfl (tlt hfar).1 (by decide) (by decide) ?_
  show Steps p.tables e below (T20.setTop (mkF m 184 #[.val (.int p0), .val (.int p1), .val (.int p2), .val (.int p3), .val (.int p4), .val (.int p5), .val (.ref b1), .val (.int of), .val (.int k1), .val (.int k2), .val (.ref b10), .val (.int ps)] [])) _
  refine XS.aload X20.here hx rfl (hb hby at_184) rfl rfl ?_
  show Steps p.tables e below (T20.setTop (mkF m 186 #[.val (.int p0), .val (.int p1), .val (.int p2), .val (.int p3), .val (.int p4), .val (.int p5), .val (.ref b1), .val (.int of), .val (.int k1), .val (.int k2), .val (.ref b10), .val (.int ps)] [(.ref b10)])) _
  refine XS.bipush X20.here hx rfl (hb hby at_186) ?_
  show Steps p.tables e below (T20.setTop (mkF m 188 #[.val (.int p0), .val (.int p1), .val (.int p2), .val (.int p3), .val (.int p4), .val (.int p5), .val (.ref b1), .val (.int of), .val (.int k1), .val (.int k2), .val (.ref b10), .val (.int ps)] [(.int (8 : Int32)), (.ref b10)])) _
  refine st22.trans ?_
  show Steps p.tables e below (T22.setTop (mkF m 191 #[.val (.int p0), .val (.int p1), .val (.int p2), .val (.int p3), .val (.int p4), .val (.int p5), .val (.ref b1), .val (.int of), .val (.int k1), .val (.int k2), .val (.ref b10), .val (.int ps)] [(.int rc)])) _
  refine XS.aload X22.here hx rfl (hb hby at_191) rfl rfl ?_
  show Steps p.tables e below (T22.setTop (mkF m 193 #[.val (.int p0), .val (.int p1), .val (.int p2), .val (.int p3), .val (.int p4), .val (.int p5), .val (.ref b1), .val (.int of), .val (.int k1), .val (.int k2), .val (.ref b10), .val (.int ps)] [(.ref b1), (.int rc)])) _
  refine XS.iload X22.here hx rfl (hb hby at_193) rfl ?_
  show Steps p.tables e below (T22.setTop (mkF m 195 #[.val (.int p0), .val (.int p1), .val (.int p2), .val (.int p3), .val (.int p4), .val (.int p5), .val (.ref b1), .val (.int of), .val (.int k1), .val (.int k2), .val (.ref b10), .val (.int ps)] [(.int ps), (.ref b1), (.int rc)])) _
  refine own_ldB X22 hx hZ rfl Aq22 (j := ps) hin rfl rfl (hb hby at_195) ?_
  show Steps p.tables e below (T22.setTop (mkF m 196 #[.val (.int p0), .val (.int p1), .val (.int p2), .val (.int p3), .val (.int p4), .val (.int p5), .val (.ref b1), .val (.int of), .val (.int k1), .val (.int k2), .val (.ref b10), .val (.int ps)] [(.int (f (ps).toNatClampNeg)), (.int rc)])) _
  refine XS.sipush X22.here hx rfl (hb hby at_196) ?_
  show Steps p.tables e below (T22.setTop (mkF m 199 #[.val (.int p0), .val (.int p1), .val (.int p2), .val (.int p3), .val (.int p4), .val (.int p5), .val (.ref b1), .val (.int of), .val (.int k1), .val (.int k2), .val (.ref b10), .val (.int ps)] [(.int (255 : Int32)), (.int (f (ps).toNatClampNeg)), (.int rc)])) _
  refine XS.iand X22.here hx rfl (hb hby at_199) rfl ?_
  show Steps p.tables e below (T22.setTop (mkF m 200 #[.val (.int p0), .val (.int p1), .val (.int p2), .val (.int p3), .val (.int p4), .val (.int p5), .val (.ref b1), .val (.int of), .val (.int k1), .val (.int k2), .val (.ref b10), .val (.int ps)] [(.int ((f (ps).toNatClampNeg) &&& (255 : Int32))), (.int rc)])) _
  refine XS.icmpNo X22.here hx rfl (hb hby at_200) rfl (teq hfin).2 ?_
  show Steps p.tables e below (T22.setTop (mkF m 203 #[.val (.int p0), .val (.int p1), .val (.int p2), .val (.int p3), .val (.int p4), .val (.int p5), .val (.ref b1), .val (.int of), .val (.int k1), .val (.int k2), .val (.ref b10), .val (.int ps)] [])) _
  refine XS.iconst X22.here hx rfl (hb hby at_203) ?_
  show Steps p.tables e below (T22.setTop (mkF m 204 #[.val (.int p0), .val (.int p1), .val (.int p2), .val (.int p3), .val (.int p4), .val (.int p5), .val (.ref b1), .val (.int of), .val (.int k1), .val (.int k2), .val (.ref b10), .val (.int ps)] [(.int (1 : Int32))])) _
  refine XS.goto X22.here hx rfl (pc0 := 204) (pc' := 208) rfl (hb hby at_204) (by decide) (by decide) ?_
  show Steps p.tables e below (T22.setTop (mkF m 208 #[.val (.int p0), .val (.int p1), .val (.int p2), .val (.int p3), .val (.int p4), .val (.int p5), .val (.ref b1), .val (.int of), .val (.int k1), .val (.int k2), .val (.ref b10), .val (.int ps)] [(.int (1 : Int32))])) _
  exact retN X22 hx (t := .boolean) Bd.returns (by simp) (hb hby at_208) hr
def Q001 (Z : State) (p0 : Int32) (p1 : Int32) (p2 : Int32) (p3 : Int32) (p4 : Int32) (p5 : Int32) (of : Int32) (k1 : Int32) (k2 : Int32) (ps : Int32) (f : Nat → Int32) (h0 : Heap) (n0 : Nat) (v : Option Value) (h : Heap) (L : List Loc) : Prop := v = some (.int (1 : Int32)) ∧ Fr n0 L
set_option maxRecDepth 65536 in
set_option maxHeartbeats 40000000 in
theorem rm001 (l : Launch) (Z : State) (a0 : Array Value) (hw : ∀ d ∈ tables_1, d.before a0 Z = true) (ws : List Jvm.Cond) (p0 : Int32) (p1 : Int32) (p2 : Int32) (p3 : Int32) (p4 : Int32) (p5 : Int32) (of : Int32) (k1 : Int32) (k2 : Int32) (ps : Int32) (f : Nat → Int32) (h0 : Heap) (n0 : Nat) (Z0 : n0 ≤ h0.size) (h_of : ((p2 &&& (2147483647 : Int32)) % (5 : Int32)) = of) (h_k1 : ((p3 &&& (2147483647 : Int32)) % (17 : Int32)) = k1) (h_k2 : ((p4 &&& (2147483647 : Int32)) % (17 : Int32)) = k2) (h_ps : (of + (((k1 + k2) + (7 : Int32)) / (8 : Int32))) = ps) (hf : (own_up (own_up (own_up (own_up (own_up (own_up (own_up (own_up (fun _ => 0) 0 ((p0.toInt8.toInt32)).toInt8.toInt32) 1 ((((p0.toUInt32 >>> ((8 : Int32) &&& 31).toUInt32).toInt32).toInt8.toInt32)).toInt8.toInt32) 2 ((((p0.toUInt32 >>> ((16 : Int32) &&& 31).toUInt32).toInt32).toInt8.toInt32)).toInt8.toInt32) 3 ((((p0.toUInt32 >>> ((24 : Int32) &&& 31).toUInt32).toInt32).toInt8.toInt32)).toInt8.toInt32) 4 ((p1.toInt8.toInt32)).toInt8.toInt32) 5 ((((p1.toUInt32 >>> ((8 : Int32) &&& 31).toUInt32).toInt32).toInt8.toInt32)).toInt8.toInt32) 6 ((((p1.toUInt32 >>> ((16 : Int32) &&& 31).toUInt32).toInt32).toInt8.toInt32)).toInt8.toInt32) 7 ((((p1.toUInt32 >>> ((24 : Int32) &&& 31).toUInt32).toInt32).toInt8.toInt32)).toInt8.toInt32) = f) (hs : (p5 &&& (1 : Int32)) = (0 : Int32)) (hfar : ¬ ps < (8 : Int32)) :
    MetFree l x (head1 (Jvm.Cond.code x code maxLocals ret :: ws) room_1) (fun a_ U_ => a_ = #[(.int p0), (.int p1), (.int p2), (.int p3), (.int p4), (.int p5)] ∧ Z.Warmed39 U_.vm ∧ U_.heap = h0) (fun _ _ _ _ _ => True) (fun _ U_ o_ U' => ∃ v_ L_, o_ = .returned v_ ∧ (Q001 Z p0 p1 p2 p3 p4 p5 of k1 k2 ps f h0 n0 v_ U'.heap L_) ∧ FrameEnd U_ o_ U' L_ room_1.cells room_1.slots) := by
  refine MetFree.of_bodySF (plainFor_of_name pn_0) hisR ?_
  intro p e s m args below meth c s₁ Bd hml0 hP hK
  obtain ⟨rfl, hZ, hh⟩ := hP
  have hx := Bd.exec
  have hby := Bd.bytes
  have hml : c.maxLocals = 12 := hml0
  have hown : s.vm.findClass "com/example/fewbits/fewbits/deflate/DeflateBitReaderAlignToBytePinLaw" = some m.cls := findClass_of_methodNamed Bd.named
  have hnm := (name_of_methodNamed Bd.named Bd.method).1
  have X0 : Stand p l e room_1 s m #[(.int p0), (.int p1), (.int p2), (.int p3), (.int p4), (.int p5)] below meth c s₁ [] 0 0 := Stand.of_body Bd
  have e0 : s₁.heap = h0 := by rw [← hh, Bd.state]; rfl
  have N0 := Fr.nil n0
  have pre0 : ∀ t, Steps p.tables e below (s₁.setTop (mkF m 0 #[.val (.int p0), .val (.int p1), .val (.int p2), .val (.int p3), .val (.int p4), .val (.int p5), .unset, .unset, .unset, .unset, .unset, .unset] [])) t → Steps p.tables e below (s₁.setTop (entryFrame m #[(.int p0), (.int p1), (.int p2), (.int p3), (.int p4), (.int p5)] maxLocals)) t := fun t k => castTop (ef_0 m p0 p1 p2 p3 p4 p5) k
  obtain ⟨T1, h1, X1, e1, E1, A1, st1⟩ := own_newI X0 hx hZ (hw _ (List.mem_of_getElem? (i := 0) rfl)) rfl e0 (g := (mkF m 2 #[.val (.int p0), .val (.int p1), .val (.int p2), .val (.int p3), .val (.int p4), .val (.int p5), .unset, .unset, .unset, .unset, .unset, .unset] [(.int (8 : Int32))])) rfl (hb hby at_2) rfl (by decide) (cap := 8) (by decide) (by decide) (by decide) (by decide)
  obtain ⟨b1, g1⟩ : ∃ z, z = h0.size := ⟨_, rfl⟩
  rw [← g1] at A1 st1
  have f_b1 : n0 ≤ b1 := Nat.le_trans Z0 (Nat.le_of_eq g1.symm)
  have s_b1 : h0.size ≤ b1 := Nat.le_trans (Keep.refl h0 []).1 (Nat.le_of_eq g1.symm)
  have K1 : Keep h0 h1 [] := (Keep.refl h0 []).ext E1
  have Z1 : n0 ≤ h1.size := Nat.le_trans Z0 E1.1
  obtain ⟨T2, h2, X2, e2, W2, A2, st2⟩ := own_stB X1 hx hZ e1 A1 (j := (0 : Int32)) ⟨by decide, by decide⟩ (g := (mkF m 11 #[.val (.int p0), .val (.int p1), .val (.int p2), .val (.int p3), .val (.int p4), .val (.int p5), .val (.ref b1), .unset, .unset, .unset, .unset, .unset] [(.int (p0.toInt8.toInt32)), (.int (0 : Int32)), (.ref b1)])) rfl rfl (hb hby at_11)
  have N2 := Fr.snoc X2 N0 f_b1
  have K2 : Keep h0 h2 [] := K1.wr W2 (Or.inr s_b1)
  have Z2 : n0 ≤ h2.size := Nat.le_trans Z1 (Nat.le_of_eq (W2.size).symm)
  obtain ⟨T3, h3, X3, e3, W3, A3, st3⟩ := own_stB X2 hx hZ e2 A2 (j := (1 : Int32)) ⟨by decide, by decide⟩ (g := (mkF m 20 #[.val (.int p0), .val (.int p1), .val (.int p2), .val (.int p3), .val (.int p4), .val (.int p5), .val (.ref b1), .unset, .unset, .unset, .unset, .unset] [(.int (((p0.toUInt32 >>> ((8 : Int32) &&& 31).toUInt32).toInt32).toInt8.toInt32)), (.int (1 : Int32)), (.ref b1)])) rfl rfl (hb hby at_20)
  have N3 := Fr.snoc X3 N2 f_b1
  have K3 : Keep h0 h3 [] := K2.wr W3 (Or.inr s_b1)
  have Z3 : n0 ≤ h3.size := Nat.le_trans Z2 (Nat.le_of_eq (W3.size).symm)
  obtain ⟨T4, h4, X4, e4, W4, A4, st4⟩ := own_stB X3 hx hZ e3 A3 (j := (2 : Int32)) ⟨by decide, by decide⟩ (g := (mkF m 29 #[.val (.int p0), .val (.int p1), .val (.int p2), .val (.int p3), .val (.int p4), .val (.int p5), .val (.ref b1), .unset, .unset, .unset, .unset, .unset] [(.int (((p0.toUInt32 >>> ((16 : Int32) &&& 31).toUInt32).toInt32).toInt8.toInt32)), (.int (2 : Int32)), (.ref b1)])) rfl rfl (hb hby at_29)
  have N4 := Fr.snoc X4 N3 f_b1
  have K4 : Keep h0 h4 [] := K3.wr W4 (Or.inr s_b1)
  have Z4 : n0 ≤ h4.size := Nat.le_trans Z3 (Nat.le_of_eq (W4.size).symm)
  obtain ⟨T5, h5, X5, e5, W5, A5, st5⟩ := own_stB X4 hx hZ e4 A4 (j := (3 : Int32)) ⟨by decide, by decide⟩ (g := (mkF m 38 #[.val (.int p0), .val (.int p1), .val (.int p2), .val (.int p3), .val (.int p4), .val (.int p5), .val (.ref b1), .unset, .unset, .unset, .unset, .unset] [(.int (((p0.toUInt32 >>> ((24 : Int32) &&& 31).toUInt32).toInt32).toInt8.toInt32)), (.int (3 : Int32)), (.ref b1)])) rfl rfl (hb hby at_38)
  have N5 := Fr.snoc X5 N4 f_b1
  have K5 : Keep h0 h5 [] := K4.wr W5 (Or.inr s_b1)
  have Z5 : n0 ≤ h5.size := Nat.le_trans Z4 (Nat.le_of_eq (W5.size).symm)
  obtain ⟨T6, h6, X6, e6, W6, A6, st6⟩ := own_stB X5 hx hZ e5 A5 (j := (4 : Int32)) ⟨by decide, by decide⟩ (g := (mkF m 44 #[.val (.int p0), .val (.int p1), .val (.int p2), .val (.int p3), .val (.int p4), .val (.int p5), .val (.ref b1), .unset, .unset, .unset, .unset, .unset] [(.int (p1.toInt8.toInt32)), (.int (4 : Int32)), (.ref b1)])) rfl rfl (hb hby at_44)
  have N6 := Fr.snoc X6 N5 f_b1
  have K6 : Keep h0 h6 [] := K5.wr W6 (Or.inr s_b1)
  have Z6 : n0 ≤ h6.size := Nat.le_trans Z5 (Nat.le_of_eq (W6.size).symm)
  obtain ⟨T7, h7, X7, e7, W7, A7, st7⟩ := own_stB X6 hx hZ e6 A6 (j := (5 : Int32)) ⟨by decide, by decide⟩ (g := (mkF m 53 #[.val (.int p0), .val (.int p1), .val (.int p2), .val (.int p3), .val (.int p4), .val (.int p5), .val (.ref b1), .unset, .unset, .unset, .unset, .unset] [(.int (((p1.toUInt32 >>> ((8 : Int32) &&& 31).toUInt32).toInt32).toInt8.toInt32)), (.int (5 : Int32)), (.ref b1)])) rfl rfl (hb hby at_53)
  have N7 := Fr.snoc X7 N6 f_b1
  have K7 : Keep h0 h7 [] := K6.wr W7 (Or.inr s_b1)
  have Z7 : n0 ≤ h7.size := Nat.le_trans Z6 (Nat.le_of_eq (W7.size).symm)
  obtain ⟨T8, h8, X8, e8, W8, A8, st8⟩ := own_stB X7 hx hZ e7 A7 (j := (6 : Int32)) ⟨by decide, by decide⟩ (g := (mkF m 63 #[.val (.int p0), .val (.int p1), .val (.int p2), .val (.int p3), .val (.int p4), .val (.int p5), .val (.ref b1), .unset, .unset, .unset, .unset, .unset] [(.int (((p1.toUInt32 >>> ((16 : Int32) &&& 31).toUInt32).toInt32).toInt8.toInt32)), (.int (6 : Int32)), (.ref b1)])) rfl rfl (hb hby at_63)
  have N8 := Fr.snoc X8 N7 f_b1
  have K8 : Keep h0 h8 [] := K7.wr W8 (Or.inr s_b1)
  have Z8 : n0 ≤ h8.size := Nat.le_trans Z7 (Nat.le_of_eq (W8.size).symm)
  obtain ⟨T9, h9, X9, e9, W9, A9, st9⟩ := own_stB X8 hx hZ e8 A8 (j := (7 : Int32)) ⟨by decide, by decide⟩ (g := (mkF m 73 #[.val (.int p0), .val (.int p1), .val (.int p2), .val (.int p3), .val (.int p4), .val (.int p5), .val (.ref b1), .unset, .unset, .unset, .unset, .unset] [(.int (((p1.toUInt32 >>> ((24 : Int32) &&& 31).toUInt32).toInt32).toInt8.toInt32)), (.int (7 : Int32)), (.ref b1)])) rfl rfl (hb hby at_73)
  have N9 := Fr.snoc X9 N8 f_b1
  have K9 : Keep h0 h9 [] := K8.wr W9 (Or.inr s_b1)
  have Z9 : n0 ≤ h9.size := Nat.le_trans Z8 (Nat.le_of_eq (W9.size).symm)
  have AF : own_AI Z h9 b1 .byte (8 : Int32) f := hf ▸ A9
  obtain ⟨o, ho4, eo⟩ := own_o h_of
  obtain ⟨u1, hu1, eu1⟩ := own_k h_k1
  obtain ⟨u2, hu2, eu2⟩ := own_k h_k2
  obtain ⟨T10, h10, X10, e10, E10, A10, D10, -, st10⟩ := newO X9 hx hZ hown (hw _ (List.mem_of_getElem? (i := 2) rfl)) (hw _ (List.mem_of_getElem? (i := 3) rfl)) (hw _ (List.mem_of_getElem? (i := 4) rfl)) e9 (g := (mkF m 101 #[.val (.int p0), .val (.int p1), .val (.int p2), .val (.int p3), .val (.int p4), .val (.int p5), .val (.ref b1), .val (.int of), .val (.int k1), .val (.int k2), .unset, .unset] [])) rfl (hb hby at_101) (by decide) (by decide)
  obtain ⟨b10, g10⟩ : ∃ z, z = h9.size := ⟨_, rfl⟩
  rw [← g10] at A10 D10 st10
  have f_b10 : n0 ≤ b10 := Nat.le_trans Z9 (Nat.le_of_eq g10.symm)
  have s_b10 : h0.size ≤ b10 := Nat.le_trans K9.1 (Nat.le_of_eq g10.symm)
  have K10 : Keep h0 h10 [] := K9.ext E10
  have A10_b1 := AF.ext E10
  have O10 : own_Db Z h10 b10 .null (.int (0 : Int32)) (.long (0 : Int64)) (.int (0 : Int32)) := ⟨A10, D10 (Or.inr (hw _ (List.mem_of_getElem? (i := 20) rfl))) (ty := (.array .byte)) (by decide), D10 (Or.inl (hw _ (List.mem_of_getElem? (i := 22) rfl))) (ty := .int) (by decide), D10 (Or.inl (hw _ (List.mem_of_getElem? (i := 40) rfl))) (ty := .long) (by decide), D10 (Or.inl (hw _ (List.mem_of_getElem? (i := 34) rfl))) (ty := .int) (by decide)⟩
  have Z10 : n0 ≤ h10.size := Nat.le_trans Z9 E10.1
  obtain ⟨Lg11, Xg11, Ng11⟩ := own_gen X10 N9
  obtain ⟨_, _, ⟨T12, L12, k12, n12⟩, -, X12, ⟨Lc12, hQ12, l12, y12, z12⟩, st12⟩ := Xg11.specialBack hx (y := (⟨"com/example/fewbits/fewbits/deflate/DeflateBitReader", "<init>", "([BI)V"⟩ : MethodName)) rfl hown (mvT hZ (hw _ (List.mem_of_getElem? (i := 5) rfl))) (mvT hZ (hw _ (List.mem_of_getElem? (i := 6) rfl))) (mvT hZ (hw _ (List.mem_of_getElem? (i := 7) rfl))) (by decide) (backOf (W := 1) (rm3 l Z a0 hw [] b10 b1 of f h10 n0 Z10 f_b10 O10 A10_b1 (own_c1 ho4 eo) (own_c2 ho4 eo)) hZ (hw _ (List.mem_of_getElem? (i := 7) rfl)) (hw _ (List.mem_of_getElem? (i := 4) rfl)) (by decide) (by decide)) (g := (mkF m 109 #[.val (.int p0), .val (.int p1), .val (.int p2), .val (.int p3), .val (.int p4), .val (.int p5), .val (.ref b1), .val (.int of), .val (.int k1), .val (.int k2), .unset, .unset] [(.int of), (.ref b1), (.ref b10), (.ref b10)])) rfl (by rw [hml]; rfl) (Steps.refl _) (a := b10) (argsL := [(.ref b1), (.int of)]) (rest := [(.ref b10)]) (lenOf pd_5 rfl) rfl (by show 2 * 0 + _ ≤ _; exact Nat.le_of_eq rfl) (hb hby at_109) (fun _ _ => ⟨rfl, e10, (by decide : 2 + 0 ≤ _), (by decide : 12 + 0 ≤ _)⟩)
  dsimp only [Pt.U, Pt.locs, Pt.cells, Pt.slots] at X12 l12 y12 z12 st12 hQ12
  subst l12 y12 z12
  obtain ⟨rfl, Nq12, Kq12, Oq12⟩ := hQ12
  have N12 := Fr.app Ng11 Nq12
  have Z12 : n0 ≤ T12.heap.size := Nat.le_trans Z10 Kq12.1
  have AA12 := A10_b1.keep Kq12 (ninS (own_ne_obj O10.1 (hw _ (List.mem_of_getElem? (i := 3) rfl)) A10_b1).symm nin0)
  have R12 : own_R Z T12.heap b10 b1 f o 0 := ⟨_, _, _, Oq12, Or.inl ⟨rfl, eo, rfl, rfl⟩⟩
  obtain ⟨Lg13, Xg13, Ng13⟩ := own_gen X12 N12
  obtain ⟨cq14, kq14, qa14, qb14, qc14⟩ := isOf hZ rfl (own_R_exa R12)
  obtain ⟨_, _, ⟨T14, L14, k14, n14⟩, -, X14, ⟨Lc14, hQ14, l14, y14, z14⟩, st14⟩ := Xg13.virtualBack hx (y := (⟨"com/example/fewbits/fewbits/deflate/DeflateBitReader", "readBits", "(I)I"⟩ : MethodName)) (z := (⟨"com/example/fewbits/fewbits/deflate/DeflateBitReader", "readBits", "(I)I"⟩ : MethodName)) hown (mvT hZ (hw _ (List.mem_of_getElem? (i := 23) rfl))) (mvT hZ (hw _ (List.mem_of_getElem? (i := 24) rfl))) (notFace_of_selects (args := #[]) (mvT hZ (hw _ (List.mem_of_getElem? (i := 26) rfl)))) (mvT hZ (hw _ (List.mem_of_getElem? (i := 26) rfl))) (mvT hZ (hw _ (List.mem_of_getElem? (i := 25) rfl))) (by decide) (backOf (W := 0) (rm7 l Z a0 hw [] b10 k1 b1 f o (0) u1 T12.heap n0 Z12 f_b10 R12 AA12 ho4 eu1 hu1 (by omega)) hZ (hw _ (List.mem_of_getElem? (i := 27) rfl)) (hw _ (List.mem_of_getElem? (i := 4) rfl)) (by decide) (by decide)) qa14 qc14 (g := (mkF m 118 #[.val (.int p0), .val (.int p1), .val (.int p2), .val (.int p3), .val (.int p4), .val (.int p5), .val (.ref b1), .val (.int of), .val (.int k1), .val (.int k2), .val (.ref b10), .unset] [(.int k1), (.ref b10)])) rfl (by rw [hml]; rfl) (Steps.refl _) (argsL := [(.int k1)]) (rest := []) (lenOf pd_3 rfl) rfl (by show 2 * 0 + _ ≤ _; exact Nat.le_of_eq rfl) (hb hby at_118) (fun _ _ => ⟨rfl, rfl, (by decide : 2 + 0 ≤ _), (by decide : 12 + 0 ≤ _)⟩)
  dsimp only [Pt.U, Pt.locs, Pt.cells, Pt.slots] at X14 l14 y14 z14 st14 hQ14
  subst l14 y14 z14
  obtain ⟨⟨ra, rfl, ra8⟩, Nq14, Kq14, Rq14, Aq14⟩ := hQ14
  have N14 := Fr.app Ng13 Nq14
  have Z14 : n0 ≤ T14.heap.size := Nat.le_trans Z12 Kq14.1
  obtain ⟨Lg15, Xg15, Ng15⟩ := own_gen X14 N14
  obtain ⟨cq16, kq16, qa16, qb16, qc16⟩ := isOf hZ rfl (own_R_exa Rq14)
  obtain ⟨_, _, ⟨T16, L16, k16, n16⟩, -, X16, ⟨Lc16, hQ16, l16, y16, z16⟩, st16⟩ := Xg15.virtualBack hx (y := (⟨"com/example/fewbits/fewbits/deflate/DeflateBitReader", "readBits", "(I)I"⟩ : MethodName)) (z := (⟨"com/example/fewbits/fewbits/deflate/DeflateBitReader", "readBits", "(I)I"⟩ : MethodName)) hown (mvT hZ (hw _ (List.mem_of_getElem? (i := 23) rfl))) (mvT hZ (hw _ (List.mem_of_getElem? (i := 24) rfl))) (notFace_of_selects (args := #[]) (mvT hZ (hw _ (List.mem_of_getElem? (i := 26) rfl)))) (mvT hZ (hw _ (List.mem_of_getElem? (i := 26) rfl))) (mvT hZ (hw _ (List.mem_of_getElem? (i := 25) rfl))) (by decide) (backOf (W := 0) (rm7 l Z a0 hw [] b10 k2 b1 f o (0 + u1) u2 T14.heap n0 Z14 f_b10 Rq14 Aq14 ho4 eu2 hu2 (by omega)) hZ (hw _ (List.mem_of_getElem? (i := 27) rfl)) (hw _ (List.mem_of_getElem? (i := 4) rfl)) (by decide) (by decide)) qa16 qc16 (g := (mkF m 126 #[.val (.int p0), .val (.int p1), .val (.int p2), .val (.int p3), .val (.int p4), .val (.int p5), .val (.ref b1), .val (.int of), .val (.int k1), .val (.int k2), .val (.ref b10), .unset] [(.int k2), (.ref b10)])) rfl (by rw [hml]; rfl) (Steps.refl _) (argsL := [(.int k2)]) (rest := []) (lenOf pd_3 rfl) rfl (by show 2 * 0 + _ ≤ _; exact Nat.le_of_eq rfl) (hb hby at_126) (fun _ _ => ⟨rfl, rfl, (by decide : 2 + 0 ≤ _), (by decide : 12 + 0 ≤ _)⟩)
  dsimp only [Pt.U, Pt.locs, Pt.cells, Pt.slots] at X16 l16 y16 z16 st16 hQ16
  subst l16 y16 z16
  obtain ⟨⟨rb, rfl, rb8⟩, Nq16, Kq16, Rq16, Aq16⟩ := hQ16
  have N16 := Fr.app Ng15 Nq16
  have Z16 : n0 ≤ T16.heap.size := Nat.le_trans Z14 Kq16.1
  obtain ⟨Lg17, Xg17, Ng17⟩ := own_gen X16 N16
  obtain ⟨cq18, kq18, qa18, qb18, qc18⟩ := isOf hZ rfl (own_R_exa Rq16)
  obtain ⟨_, _, ⟨T18, L18, k18, n18⟩, -, X18, ⟨Lc18, hQ18, l18, y18, z18⟩, st18⟩ := Xg17.virtualBack hx (y := (⟨"com/example/fewbits/fewbits/deflate/DeflateBitReader", "alignToByte", "()V"⟩ : MethodName)) (z := (⟨"com/example/fewbits/fewbits/deflate/DeflateBitReader", "alignToByte", "()V"⟩ : MethodName)) hown (mvT hZ (hw _ (List.mem_of_getElem? (i := 47) rfl))) (mvT hZ (hw _ (List.mem_of_getElem? (i := 48) rfl))) (notFace_of_selects (args := #[]) (mvT hZ (hw _ (List.mem_of_getElem? (i := 50) rfl)))) (mvT hZ (hw _ (List.mem_of_getElem? (i := 50) rfl))) (mvT hZ (hw _ (List.mem_of_getElem? (i := 49) rfl))) (by decide) (backOf (W := 0) (rm8 l Z a0 hw [] b10 b1 f o (0 + u1 + u2) T16.heap n0 Z16 f_b10 Rq16 Aq16 ho4 (by omega)) hZ (hw _ (List.mem_of_getElem? (i := 51) rfl)) (hw _ (List.mem_of_getElem? (i := 4) rfl)) (by decide) (by decide)) qa18 qc18 (g := (mkF m 132 #[.val (.int p0), .val (.int p1), .val (.int p2), .val (.int p3), .val (.int p4), .val (.int p5), .val (.ref b1), .val (.int of), .val (.int k1), .val (.int k2), .val (.ref b10), .unset] [(.ref b10)])) rfl (by rw [hml]; rfl) (Steps.refl _) (argsL := []) (rest := []) (lenOf pd_2 rfl) rfl (by show 2 * 0 + _ ≤ _; exact Nat.le_of_eq rfl) (hb hby at_132) (fun _ _ => ⟨rfl, rfl, (by decide : 2 + 0 ≤ _), (by decide : 12 + 0 ≤ _)⟩)
  dsimp only [Pt.U, Pt.locs, Pt.cells, Pt.slots] at X18 l18 y18 z18 st18 hQ18
  subst l18 y18 z18
  obtain ⟨rfl, Nq18, Kq18, Rq18, Aq18⟩ := hQ18
  have N18 := Fr.app Ng17 Nq18
  have Z18 : n0 ≤ T18.heap.size := Nat.le_trans Z16 Kq18.1
  obtain ⟨w, hw8, hw1, hw2⟩ : ∃ w : Nat, 0 + u1 + u2 + (8 * (8 - o) - (0 + u1 + u2)) % 8 = w ∧ w % 8 = 0 ∧ (w = 8 * ((u1 + u2 + 7) / 8) ∧ w ≤ 8 * (8 - o)) := ⟨_, rfl, by omega, by omega⟩
  rw [hw8] at Rq18
  have eps := own_ps ho4 eo hu1 eu1 hu2 eu2 h_ps
  obtain ⟨Lg19, Xg19, Ng19⟩ := own_gen X18 N18
  obtain ⟨cq20, kq20, qa20, qb20, qc20⟩ := isOf hZ rfl (own_R_exa Rq18)
  obtain ⟨_, _, ⟨T20, L20, k20, n20⟩, -, X20, ⟨Lc20, hQ20, l20, y20, z20⟩, st20⟩ := Xg19.virtualBack hx (y := (⟨"com/example/fewbits/fewbits/deflate/DeflateBitReader", "getBytePosition", "()I"⟩ : MethodName)) (z := (⟨"com/example/fewbits/fewbits/deflate/DeflateBitReader", "getBytePosition", "()I"⟩ : MethodName)) hown (mvT hZ (hw _ (List.mem_of_getElem? (i := 52) rfl))) (mvT hZ (hw _ (List.mem_of_getElem? (i := 53) rfl))) (notFace_of_selects (args := #[]) (mvT hZ (hw _ (List.mem_of_getElem? (i := 55) rfl)))) (mvT hZ (hw _ (List.mem_of_getElem? (i := 55) rfl))) (mvT hZ (hw _ (List.mem_of_getElem? (i := 54) rfl))) (by decide) (backOf (W := 0) (rm9 l Z a0 hw [] b10 b1 f o w T18.heap n0 Z18 f_b10 Rq18 Aq18 ho4 hw2.2 hw1) hZ (hw _ (List.mem_of_getElem? (i := 56) rfl)) (hw _ (List.mem_of_getElem? (i := 4) rfl)) (by decide) (by decide)) qa20 qc20 (g := (mkF m 165 #[.val (.int p0), .val (.int p1), .val (.int p2), .val (.int p3), .val (.int p4), .val (.int p5), .val (.ref b1), .val (.int of), .val (.int k1), .val (.int k2), .val (.ref b10), .val (.int ps)] [(.ref b10)])) rfl (by rw [hml]; rfl) (Steps.refl _) (argsL := []) (rest := []) (lenOf pd_6 rfl) rfl (by show 2 * 0 + _ ≤ _; exact Nat.le_of_eq rfl) (hb hby at_165) (fun _ _ => ⟨rfl, rfl, (by decide : 2 + 0 ≤ _), (by decide : 12 + 0 ≤ _)⟩)
  dsimp only [Pt.U, Pt.locs, Pt.cells, Pt.slots] at X20 l20 y20 z20 st20 hQ20
  subst l20 y20 z20
  obtain ⟨⟨bp, rfl, ebp⟩, Nq20, e20⟩ := hQ20
  have N20 := Fr.app Ng19 Nq20
  have hbp : bp = ps := own_i_of (by rw [ebp, eps]; omega)
  obtain ⟨fs, hr, hrun, hended, hW, hsame⟩ := X20.leave (v := some (.int (1 : Int32))) (fun h => by rw [Bd.returns] at h; cases h)
  refine ⟨_, _, pre0 _ ?_, hrun, hended, _, _, rfl, ⟨rfl, N20⟩, ⟨_, rfl⟩, hW, hsame.mono (by decide) (by decide)⟩
  show Steps p.tables e below (s₁.setTop (mkF m 0 #[.val (.int p0), .val (.int p1), .val (.int p2), .val (.int p3), .val (.int p4), .val (.int p5), .unset, .unset, .unset, .unset, .unset, .unset] [])) _
  refine XS.bipush X0.here hx rfl (hb hby at_0) ?_
  show Steps p.tables e below (s₁.setTop (mkF m 2 #[.val (.int p0), .val (.int p1), .val (.int p2), .val (.int p3), .val (.int p4), .val (.int p5), .unset, .unset, .unset, .unset, .unset, .unset] [(.int (8 : Int32))])) _
  refine st1 _ ?_
  show Steps p.tables e below (T1.setTop (mkF m 4 #[.val (.int p0), .val (.int p1), .val (.int p2), .val (.int p3), .val (.int p4), .val (.int p5), .unset, .unset, .unset, .unset, .unset, .unset] [(.ref b1)])) _
  refine XS.astore X1.here hx rfl (hb hby at_4) rfl rfl (l' := #[.val (.int p0), .val (.int p1), .val (.int p2), .val (.int p3), .val (.int p4), .val (.int p5), .val (.ref b1), .unset, .unset, .unset, .unset, .unset]) rfl ?_
  show Steps p.tables e below (T1.setTop (mkF m 6 #[.val (.int p0), .val (.int p1), .val (.int p2), .val (.int p3), .val (.int p4), .val (.int p5), .val (.ref b1), .unset, .unset, .unset, .unset, .unset] [])) _
  refine XS.aload X1.here hx rfl (hb hby at_6) rfl rfl ?_
  show Steps p.tables e below (T1.setTop (mkF m 8 #[.val (.int p0), .val (.int p1), .val (.int p2), .val (.int p3), .val (.int p4), .val (.int p5), .val (.ref b1), .unset, .unset, .unset, .unset, .unset] [(.ref b1)])) _
  refine XS.iconst X1.here hx rfl (hb hby at_8) ?_
  show Steps p.tables e below (T1.setTop (mkF m 9 #[.val (.int p0), .val (.int p1), .val (.int p2), .val (.int p3), .val (.int p4), .val (.int p5), .val (.ref b1), .unset, .unset, .unset, .unset, .unset] [(.int (0 : Int32)), (.ref b1)])) _
  refine XS.iloadN X1.here hx rfl (hb hby at_9) rfl ?_
  show Steps p.tables e below (T1.setTop (mkF m 10 #[.val (.int p0), .val (.int p1), .val (.int p2), .val (.int p3), .val (.int p4), .val (.int p5), .val (.ref b1), .unset, .unset, .unset, .unset, .unset] [(.int p0), (.int (0 : Int32)), (.ref b1)])) _
  refine XS.i2b X1.here hx rfl (hb hby at_10) rfl ?_
  show Steps p.tables e below (T1.setTop (mkF m 11 #[.val (.int p0), .val (.int p1), .val (.int p2), .val (.int p3), .val (.int p4), .val (.int p5), .val (.ref b1), .unset, .unset, .unset, .unset, .unset] [(.int (p0.toInt8.toInt32)), (.int (0 : Int32)), (.ref b1)])) _
  refine st2 _ ?_
  show Steps p.tables e below (T2.setTop (mkF m 12 #[.val (.int p0), .val (.int p1), .val (.int p2), .val (.int p3), .val (.int p4), .val (.int p5), .val (.ref b1), .unset, .unset, .unset, .unset, .unset] [])) _
  refine XS.aload X2.here hx rfl (hb hby at_12) rfl rfl ?_
  show Steps p.tables e below (T2.setTop (mkF m 14 #[.val (.int p0), .val (.int p1), .val (.int p2), .val (.int p3), .val (.int p4), .val (.int p5), .val (.ref b1), .unset, .unset, .unset, .unset, .unset] [(.ref b1)])) _
  refine XS.iconst X2.here hx rfl (hb hby at_14) ?_
  show Steps p.tables e below (T2.setTop (mkF m 15 #[.val (.int p0), .val (.int p1), .val (.int p2), .val (.int p3), .val (.int p4), .val (.int p5), .val (.ref b1), .unset, .unset, .unset, .unset, .unset] [(.int (1 : Int32)), (.ref b1)])) _
  refine XS.iloadN X2.here hx rfl (hb hby at_15) rfl ?_
  show Steps p.tables e below (T2.setTop (mkF m 16 #[.val (.int p0), .val (.int p1), .val (.int p2), .val (.int p3), .val (.int p4), .val (.int p5), .val (.ref b1), .unset, .unset, .unset, .unset, .unset] [(.int p0), (.int (1 : Int32)), (.ref b1)])) _
  refine XS.bipush X2.here hx rfl (hb hby at_16) ?_
  show Steps p.tables e below (T2.setTop (mkF m 18 #[.val (.int p0), .val (.int p1), .val (.int p2), .val (.int p3), .val (.int p4), .val (.int p5), .val (.ref b1), .unset, .unset, .unset, .unset, .unset] [(.int (8 : Int32)), (.int p0), (.int (1 : Int32)), (.ref b1)])) _
  refine XS.iushr X2.here hx rfl (hb hby at_18) rfl ?_
  show Steps p.tables e below (T2.setTop (mkF m 19 #[.val (.int p0), .val (.int p1), .val (.int p2), .val (.int p3), .val (.int p4), .val (.int p5), .val (.ref b1), .unset, .unset, .unset, .unset, .unset] [(.int ((p0.toUInt32 >>> ((8 : Int32) &&& 31).toUInt32).toInt32)), (.int (1 : Int32)), (.ref b1)])) _
  refine XS.i2b X2.here hx rfl (hb hby at_19) rfl ?_
  show Steps p.tables e below (T2.setTop (mkF m 20 #[.val (.int p0), .val (.int p1), .val (.int p2), .val (.int p3), .val (.int p4), .val (.int p5), .val (.ref b1), .unset, .unset, .unset, .unset, .unset] [(.int (((p0.toUInt32 >>> ((8 : Int32) &&& 31).toUInt32).toInt32).toInt8.toInt32)), (.int (1 : Int32)), (.ref b1)])) _
  refine st3 _ ?_
  show Steps p.tables e below (T3.setTop (mkF m 21 #[.val (.int p0), .val (.int p1), .val (.int p2), .val (.int p3), .val (.int p4), .val (.int p5), .val (.ref b1), .unset, .unset, .unset, .unset, .unset] [])) _
  refine XS.aload X3.here hx rfl (hb hby at_21) rfl rfl ?_
  show Steps p.tables e below (T3.setTop (mkF m 23 #[.val (.int p0), .val (.int p1), .val (.int p2), .val (.int p3), .val (.int p4), .val (.int p5), .val (.ref b1), .unset, .unset, .unset, .unset, .unset] [(.ref b1)])) _
  refine XS.iconst X3.here hx rfl (hb hby at_23) ?_
  show Steps p.tables e below (T3.setTop (mkF m 24 #[.val (.int p0), .val (.int p1), .val (.int p2), .val (.int p3), .val (.int p4), .val (.int p5), .val (.ref b1), .unset, .unset, .unset, .unset, .unset] [(.int (2 : Int32)), (.ref b1)])) _
  refine XS.iloadN X3.here hx rfl (hb hby at_24) rfl ?_
  show Steps p.tables e below (T3.setTop (mkF m 25 #[.val (.int p0), .val (.int p1), .val (.int p2), .val (.int p3), .val (.int p4), .val (.int p5), .val (.ref b1), .unset, .unset, .unset, .unset, .unset] [(.int p0), (.int (2 : Int32)), (.ref b1)])) _
  refine XS.bipush X3.here hx rfl (hb hby at_25) ?_
  show Steps p.tables e below (T3.setTop (mkF m 27 #[.val (.int p0), .val (.int p1), .val (.int p2), .val (.int p3), .val (.int p4), .val (.int p5), .val (.ref b1), .unset, .unset, .unset, .unset, .unset] [(.int (16 : Int32)), (.int p0), (.int (2 : Int32)), (.ref b1)])) _
  refine XS.iushr X3.here hx rfl (hb hby at_27) rfl ?_
  show Steps p.tables e below (T3.setTop (mkF m 28 #[.val (.int p0), .val (.int p1), .val (.int p2), .val (.int p3), .val (.int p4), .val (.int p5), .val (.ref b1), .unset, .unset, .unset, .unset, .unset] [(.int ((p0.toUInt32 >>> ((16 : Int32) &&& 31).toUInt32).toInt32)), (.int (2 : Int32)), (.ref b1)])) _
  refine XS.i2b X3.here hx rfl (hb hby at_28) rfl ?_
  show Steps p.tables e below (T3.setTop (mkF m 29 #[.val (.int p0), .val (.int p1), .val (.int p2), .val (.int p3), .val (.int p4), .val (.int p5), .val (.ref b1), .unset, .unset, .unset, .unset, .unset] [(.int (((p0.toUInt32 >>> ((16 : Int32) &&& 31).toUInt32).toInt32).toInt8.toInt32)), (.int (2 : Int32)), (.ref b1)])) _
  refine st4 _ ?_
  show Steps p.tables e below (T4.setTop (mkF m 30 #[.val (.int p0), .val (.int p1), .val (.int p2), .val (.int p3), .val (.int p4), .val (.int p5), .val (.ref b1), .unset, .unset, .unset, .unset, .unset] [])) _
  refine XS.aload X4.here hx rfl (hb hby at_30) rfl rfl ?_
  show Steps p.tables e below (T4.setTop (mkF m 32 #[.val (.int p0), .val (.int p1), .val (.int p2), .val (.int p3), .val (.int p4), .val (.int p5), .val (.ref b1), .unset, .unset, .unset, .unset, .unset] [(.ref b1)])) _
  refine XS.iconst X4.here hx rfl (hb hby at_32) ?_
  show Steps p.tables e below (T4.setTop (mkF m 33 #[.val (.int p0), .val (.int p1), .val (.int p2), .val (.int p3), .val (.int p4), .val (.int p5), .val (.ref b1), .unset, .unset, .unset, .unset, .unset] [(.int (3 : Int32)), (.ref b1)])) _
  refine XS.iloadN X4.here hx rfl (hb hby at_33) rfl ?_
  show Steps p.tables e below (T4.setTop (mkF m 34 #[.val (.int p0), .val (.int p1), .val (.int p2), .val (.int p3), .val (.int p4), .val (.int p5), .val (.ref b1), .unset, .unset, .unset, .unset, .unset] [(.int p0), (.int (3 : Int32)), (.ref b1)])) _
  refine XS.bipush X4.here hx rfl (hb hby at_34) ?_
  show Steps p.tables e below (T4.setTop (mkF m 36 #[.val (.int p0), .val (.int p1), .val (.int p2), .val (.int p3), .val (.int p4), .val (.int p5), .val (.ref b1), .unset, .unset, .unset, .unset, .unset] [(.int (24 : Int32)), (.int p0), (.int (3 : Int32)), (.ref b1)])) _
  refine XS.iushr X4.here hx rfl (hb hby at_36) rfl ?_
  show Steps p.tables e below (T4.setTop (mkF m 37 #[.val (.int p0), .val (.int p1), .val (.int p2), .val (.int p3), .val (.int p4), .val (.int p5), .val (.ref b1), .unset, .unset, .unset, .unset, .unset] [(.int ((p0.toUInt32 >>> ((24 : Int32) &&& 31).toUInt32).toInt32)), (.int (3 : Int32)), (.ref b1)])) _
  refine XS.i2b X4.here hx rfl (hb hby at_37) rfl ?_
  show Steps p.tables e below (T4.setTop (mkF m 38 #[.val (.int p0), .val (.int p1), .val (.int p2), .val (.int p3), .val (.int p4), .val (.int p5), .val (.ref b1), .unset, .unset, .unset, .unset, .unset] [(.int (((p0.toUInt32 >>> ((24 : Int32) &&& 31).toUInt32).toInt32).toInt8.toInt32)), (.int (3 : Int32)), (.ref b1)])) _
  refine st5 _ ?_
  show Steps p.tables e below (T5.setTop (mkF m 39 #[.val (.int p0), .val (.int p1), .val (.int p2), .val (.int p3), .val (.int p4), .val (.int p5), .val (.ref b1), .unset, .unset, .unset, .unset, .unset] [])) _
  refine XS.aload X5.here hx rfl (hb hby at_39) rfl rfl ?_
  show Steps p.tables e below (T5.setTop (mkF m 41 #[.val (.int p0), .val (.int p1), .val (.int p2), .val (.int p3), .val (.int p4), .val (.int p5), .val (.ref b1), .unset, .unset, .unset, .unset, .unset] [(.ref b1)])) _
  refine XS.iconst X5.here hx rfl (hb hby at_41) ?_
  show Steps p.tables e below (T5.setTop (mkF m 42 #[.val (.int p0), .val (.int p1), .val (.int p2), .val (.int p3), .val (.int p4), .val (.int p5), .val (.ref b1), .unset, .unset, .unset, .unset, .unset] [(.int (4 : Int32)), (.ref b1)])) _
  refine XS.iloadN X5.here hx rfl (hb hby at_42) rfl ?_
  show Steps p.tables e below (T5.setTop (mkF m 43 #[.val (.int p0), .val (.int p1), .val (.int p2), .val (.int p3), .val (.int p4), .val (.int p5), .val (.ref b1), .unset, .unset, .unset, .unset, .unset] [(.int p1), (.int (4 : Int32)), (.ref b1)])) _
  refine XS.i2b X5.here hx rfl (hb hby at_43) rfl ?_
  show Steps p.tables e below (T5.setTop (mkF m 44 #[.val (.int p0), .val (.int p1), .val (.int p2), .val (.int p3), .val (.int p4), .val (.int p5), .val (.ref b1), .unset, .unset, .unset, .unset, .unset] [(.int (p1.toInt8.toInt32)), (.int (4 : Int32)), (.ref b1)])) _
  refine st6 _ ?_
  show Steps p.tables e below (T6.setTop (mkF m 45 #[.val (.int p0), .val (.int p1), .val (.int p2), .val (.int p3), .val (.int p4), .val (.int p5), .val (.ref b1), .unset, .unset, .unset, .unset, .unset] [])) _
  refine XS.aload X6.here hx rfl (hb hby at_45) rfl rfl ?_
  show Steps p.tables e below (T6.setTop (mkF m 47 #[.val (.int p0), .val (.int p1), .val (.int p2), .val (.int p3), .val (.int p4), .val (.int p5), .val (.ref b1), .unset, .unset, .unset, .unset, .unset] [(.ref b1)])) _
  refine XS.iconst X6.here hx rfl (hb hby at_47) ?_
  show Steps p.tables e below (T6.setTop (mkF m 48 #[.val (.int p0), .val (.int p1), .val (.int p2), .val (.int p3), .val (.int p4), .val (.int p5), .val (.ref b1), .unset, .unset, .unset, .unset, .unset] [(.int (5 : Int32)), (.ref b1)])) _
  refine XS.iloadN X6.here hx rfl (hb hby at_48) rfl ?_
  show Steps p.tables e below (T6.setTop (mkF m 49 #[.val (.int p0), .val (.int p1), .val (.int p2), .val (.int p3), .val (.int p4), .val (.int p5), .val (.ref b1), .unset, .unset, .unset, .unset, .unset] [(.int p1), (.int (5 : Int32)), (.ref b1)])) _
  refine XS.bipush X6.here hx rfl (hb hby at_49) ?_
  show Steps p.tables e below (T6.setTop (mkF m 51 #[.val (.int p0), .val (.int p1), .val (.int p2), .val (.int p3), .val (.int p4), .val (.int p5), .val (.ref b1), .unset, .unset, .unset, .unset, .unset] [(.int (8 : Int32)), (.int p1), (.int (5 : Int32)), (.ref b1)])) _
  refine XS.iushr X6.here hx rfl (hb hby at_51) rfl ?_
  show Steps p.tables e below (T6.setTop (mkF m 52 #[.val (.int p0), .val (.int p1), .val (.int p2), .val (.int p3), .val (.int p4), .val (.int p5), .val (.ref b1), .unset, .unset, .unset, .unset, .unset] [(.int ((p1.toUInt32 >>> ((8 : Int32) &&& 31).toUInt32).toInt32)), (.int (5 : Int32)), (.ref b1)])) _
  refine XS.i2b X6.here hx rfl (hb hby at_52) rfl ?_
  show Steps p.tables e below (T6.setTop (mkF m 53 #[.val (.int p0), .val (.int p1), .val (.int p2), .val (.int p3), .val (.int p4), .val (.int p5), .val (.ref b1), .unset, .unset, .unset, .unset, .unset] [(.int (((p1.toUInt32 >>> ((8 : Int32) &&& 31).toUInt32).toInt32).toInt8.toInt32)), (.int (5 : Int32)), (.ref b1)])) _
  refine st7 _ ?_
  show Steps p.tables e below (T7.setTop (mkF m 54 #[.val (.int p0), .val (.int p1), .val (.int p2), .val (.int p3), .val (.int p4), .val (.int p5), .val (.ref b1), .unset, .unset, .unset, .unset, .unset] [])) _
  refine XS.aload X7.here hx rfl (hb hby at_54) rfl rfl ?_
  show Steps p.tables e below (T7.setTop (mkF m 56 #[.val (.int p0), .val (.int p1), .val (.int p2), .val (.int p3), .val (.int p4), .val (.int p5), .val (.ref b1), .unset, .unset, .unset, .unset, .unset] [(.ref b1)])) _
  refine XS.bipush X7.here hx rfl (hb hby at_56) ?_
  show Steps p.tables e below (T7.setTop (mkF m 58 #[.val (.int p0), .val (.int p1), .val (.int p2), .val (.int p3), .val (.int p4), .val (.int p5), .val (.ref b1), .unset, .unset, .unset, .unset, .unset] [(.int (6 : Int32)), (.ref b1)])) _
  refine XS.iloadN X7.here hx rfl (hb hby at_58) rfl ?_
  show Steps p.tables e below (T7.setTop (mkF m 59 #[.val (.int p0), .val (.int p1), .val (.int p2), .val (.int p3), .val (.int p4), .val (.int p5), .val (.ref b1), .unset, .unset, .unset, .unset, .unset] [(.int p1), (.int (6 : Int32)), (.ref b1)])) _
  refine XS.bipush X7.here hx rfl (hb hby at_59) ?_
  show Steps p.tables e below (T7.setTop (mkF m 61 #[.val (.int p0), .val (.int p1), .val (.int p2), .val (.int p3), .val (.int p4), .val (.int p5), .val (.ref b1), .unset, .unset, .unset, .unset, .unset] [(.int (16 : Int32)), (.int p1), (.int (6 : Int32)), (.ref b1)])) _
  refine XS.iushr X7.here hx rfl (hb hby at_61) rfl ?_
  show Steps p.tables e below (T7.setTop (mkF m 62 #[.val (.int p0), .val (.int p1), .val (.int p2), .val (.int p3), .val (.int p4), .val (.int p5), .val (.ref b1), .unset, .unset, .unset, .unset, .unset] [(.int ((p1.toUInt32 >>> ((16 : Int32) &&& 31).toUInt32).toInt32)), (.int (6 : Int32)), (.ref b1)])) _
  refine XS.i2b X7.here hx rfl (hb hby at_62) rfl ?_
  show Steps p.tables e below (T7.setTop (mkF m 63 #[.val (.int p0), .val (.int p1), .val (.int p2), .val (.int p3), .val (.int p4), .val (.int p5), .val (.ref b1), .unset, .unset, .unset, .unset, .unset] [(.int (((p1.toUInt32 >>> ((16 : Int32) &&& 31).toUInt32).toInt32).toInt8.toInt32)), (.int (6 : Int32)), (.ref b1)])) _
  refine st8 _ ?_
  show Steps p.tables e below (T8.setTop (mkF m 64 #[.val (.int p0), .val (.int p1), .val (.int p2), .val (.int p3), .val (.int p4), .val (.int p5), .val (.ref b1), .unset, .unset, .unset, .unset, .unset] [])) _
  refine XS.aload X8.here hx rfl (hb hby at_64) rfl rfl ?_
  show Steps p.tables e below (T8.setTop (mkF m 66 #[.val (.int p0), .val (.int p1), .val (.int p2), .val (.int p3), .val (.int p4), .val (.int p5), .val (.ref b1), .unset, .unset, .unset, .unset, .unset] [(.ref b1)])) _
  refine XS.bipush X8.here hx rfl (hb hby at_66) ?_
  show Steps p.tables e below (T8.setTop (mkF m 68 #[.val (.int p0), .val (.int p1), .val (.int p2), .val (.int p3), .val (.int p4), .val (.int p5), .val (.ref b1), .unset, .unset, .unset, .unset, .unset] [(.int (7 : Int32)), (.ref b1)])) _
  refine XS.iloadN X8.here hx rfl (hb hby at_68) rfl ?_
  show Steps p.tables e below (T8.setTop (mkF m 69 #[.val (.int p0), .val (.int p1), .val (.int p2), .val (.int p3), .val (.int p4), .val (.int p5), .val (.ref b1), .unset, .unset, .unset, .unset, .unset] [(.int p1), (.int (7 : Int32)), (.ref b1)])) _
  refine XS.bipush X8.here hx rfl (hb hby at_69) ?_
  show Steps p.tables e below (T8.setTop (mkF m 71 #[.val (.int p0), .val (.int p1), .val (.int p2), .val (.int p3), .val (.int p4), .val (.int p5), .val (.ref b1), .unset, .unset, .unset, .unset, .unset] [(.int (24 : Int32)), (.int p1), (.int (7 : Int32)), (.ref b1)])) _
  refine XS.iushr X8.here hx rfl (hb hby at_71) rfl ?_
  show Steps p.tables e below (T8.setTop (mkF m 72 #[.val (.int p0), .val (.int p1), .val (.int p2), .val (.int p3), .val (.int p4), .val (.int p5), .val (.ref b1), .unset, .unset, .unset, .unset, .unset] [(.int ((p1.toUInt32 >>> ((24 : Int32) &&& 31).toUInt32).toInt32)), (.int (7 : Int32)), (.ref b1)])) _
  refine XS.i2b X8.here hx rfl (hb hby at_72) rfl ?_
  show Steps p.tables e below (T8.setTop (mkF m 73 #[.val (.int p0), .val (.int p1), .val (.int p2), .val (.int p3), .val (.int p4), .val (.int p5), .val (.ref b1), .unset, .unset, .unset, .unset, .unset] [(.int (((p1.toUInt32 >>> ((24 : Int32) &&& 31).toUInt32).toInt32).toInt8.toInt32)), (.int (7 : Int32)), (.ref b1)])) _
  refine st9 _ ?_
  show Steps p.tables e below (T9.setTop (mkF m 74 #[.val (.int p0), .val (.int p1), .val (.int p2), .val (.int p3), .val (.int p4), .val (.int p5), .val (.ref b1), .unset, .unset, .unset, .unset, .unset] [])) _
  refine XS.iloadN X9.here hx rfl (hb hby at_74) rfl ?_
  show Steps p.tables e below (T9.setTop (mkF m 75 #[.val (.int p0), .val (.int p1), .val (.int p2), .val (.int p3), .val (.int p4), .val (.int p5), .val (.ref b1), .unset, .unset, .unset, .unset, .unset] [(.int p2)])) _
  refine X9.ldcI hx hown (mvT hZ (hw _ (List.mem_of_getElem? (i := 1) rfl))) rfl (hb hby at_75) ?_
  show Steps p.tables e below (T9.setTop (mkF m 77 #[.val (.int p0), .val (.int p1), .val (.int p2), .val (.int p3), .val (.int p4), .val (.int p5), .val (.ref b1), .unset, .unset, .unset, .unset, .unset] [(.int (2147483647 : Int32)), (.int p2)])) _
  refine XS.iand X9.here hx rfl (hb hby at_77) rfl ?_
  show Steps p.tables e below (T9.setTop (mkF m 78 #[.val (.int p0), .val (.int p1), .val (.int p2), .val (.int p3), .val (.int p4), .val (.int p5), .val (.ref b1), .unset, .unset, .unset, .unset, .unset] [(.int (p2 &&& (2147483647 : Int32)))])) _
  refine XS.iconst X9.here hx rfl (hb hby at_78) ?_
  show Steps p.tables e below (T9.setTop (mkF m 79 #[.val (.int p0), .val (.int p1), .val (.int p2), .val (.int p3), .val (.int p4), .val (.int p5), .val (.ref b1), .unset, .unset, .unset, .unset, .unset] [(.int (5 : Int32)), (.int (p2 &&& (2147483647 : Int32)))])) _
  refine iremM X9 hx rfl (hb hby at_79) rfl (by decide) ?_
  show Steps p.tables e below (T9.setTop (mkF m 80 #[.val (.int p0), .val (.int p1), .val (.int p2), .val (.int p3), .val (.int p4), .val (.int p5), .val (.ref b1), .unset, .unset, .unset, .unset, .unset] [(.int ((p2 &&& (2147483647 : Int32)) % (5 : Int32)))])) _
  refine XS.istore X9.here hx rfl (hb hby at_80) rfl (l' := #[.val (.int p0), .val (.int p1), .val (.int p2), .val (.int p3), .val (.int p4), .val (.int p5), .val (.ref b1), .val (.int ((p2 &&& (2147483647 : Int32)) % (5 : Int32))), .unset, .unset, .unset, .unset]) rfl ?_
  show Steps p.tables e below (T9.setTop (mkF m 82 #[.val (.int p0), .val (.int p1), .val (.int p2), .val (.int p3), .val (.int p4), .val (.int p5), .val (.ref b1), .val (.int ((p2 &&& (2147483647 : Int32)) % (5 : Int32))), .unset, .unset, .unset, .unset] [])) _
  rw [h_of]
  show Steps p.tables e below (T9.setTop (mkF m 82 #[.val (.int p0), .val (.int p1), .val (.int p2), .val (.int p3), .val (.int p4), .val (.int p5), .val (.ref b1), .val (.int of), .unset, .unset, .unset, .unset] [])) _
  refine XS.iloadN X9.here hx rfl (hb hby at_82) rfl ?_
  show Steps p.tables e below (T9.setTop (mkF m 83 #[.val (.int p0), .val (.int p1), .val (.int p2), .val (.int p3), .val (.int p4), .val (.int p5), .val (.ref b1), .val (.int of), .unset, .unset, .unset, .unset] [(.int p3)])) _
  refine X9.ldcI hx hown (mvT hZ (hw _ (List.mem_of_getElem? (i := 1) rfl))) rfl (hb hby at_83) ?_
  show Steps p.tables e below (T9.setTop (mkF m 85 #[.val (.int p0), .val (.int p1), .val (.int p2), .val (.int p3), .val (.int p4), .val (.int p5), .val (.ref b1), .val (.int of), .unset, .unset, .unset, .unset] [(.int (2147483647 : Int32)), (.int p3)])) _
  refine XS.iand X9.here hx rfl (hb hby at_85) rfl ?_
  show Steps p.tables e below (T9.setTop (mkF m 86 #[.val (.int p0), .val (.int p1), .val (.int p2), .val (.int p3), .val (.int p4), .val (.int p5), .val (.ref b1), .val (.int of), .unset, .unset, .unset, .unset] [(.int (p3 &&& (2147483647 : Int32)))])) _
  refine XS.bipush X9.here hx rfl (hb hby at_86) ?_
  show Steps p.tables e below (T9.setTop (mkF m 88 #[.val (.int p0), .val (.int p1), .val (.int p2), .val (.int p3), .val (.int p4), .val (.int p5), .val (.ref b1), .val (.int of), .unset, .unset, .unset, .unset] [(.int (17 : Int32)), (.int (p3 &&& (2147483647 : Int32)))])) _
  refine iremM X9 hx rfl (hb hby at_88) rfl (by decide) ?_
  show Steps p.tables e below (T9.setTop (mkF m 89 #[.val (.int p0), .val (.int p1), .val (.int p2), .val (.int p3), .val (.int p4), .val (.int p5), .val (.ref b1), .val (.int of), .unset, .unset, .unset, .unset] [(.int ((p3 &&& (2147483647 : Int32)) % (17 : Int32)))])) _
  refine XS.istore X9.here hx rfl (hb hby at_89) rfl (l' := #[.val (.int p0), .val (.int p1), .val (.int p2), .val (.int p3), .val (.int p4), .val (.int p5), .val (.ref b1), .val (.int of), .val (.int ((p3 &&& (2147483647 : Int32)) % (17 : Int32))), .unset, .unset, .unset]) rfl ?_
  show Steps p.tables e below (T9.setTop (mkF m 91 #[.val (.int p0), .val (.int p1), .val (.int p2), .val (.int p3), .val (.int p4), .val (.int p5), .val (.ref b1), .val (.int of), .val (.int ((p3 &&& (2147483647 : Int32)) % (17 : Int32))), .unset, .unset, .unset] [])) _
  rw [h_k1]
  show Steps p.tables e below (T9.setTop (mkF m 91 #[.val (.int p0), .val (.int p1), .val (.int p2), .val (.int p3), .val (.int p4), .val (.int p5), .val (.ref b1), .val (.int of), .val (.int k1), .unset, .unset, .unset] [])) _
  refine XS.iload X9.here hx rfl (hb hby at_91) rfl ?_
  show Steps p.tables e below (T9.setTop (mkF m 93 #[.val (.int p0), .val (.int p1), .val (.int p2), .val (.int p3), .val (.int p4), .val (.int p5), .val (.ref b1), .val (.int of), .val (.int k1), .unset, .unset, .unset] [(.int p4)])) _
  refine X9.ldcI hx hown (mvT hZ (hw _ (List.mem_of_getElem? (i := 1) rfl))) rfl (hb hby at_93) ?_
  show Steps p.tables e below (T9.setTop (mkF m 95 #[.val (.int p0), .val (.int p1), .val (.int p2), .val (.int p3), .val (.int p4), .val (.int p5), .val (.ref b1), .val (.int of), .val (.int k1), .unset, .unset, .unset] [(.int (2147483647 : Int32)), (.int p4)])) _
  refine XS.iand X9.here hx rfl (hb hby at_95) rfl ?_
  show Steps p.tables e below (T9.setTop (mkF m 96 #[.val (.int p0), .val (.int p1), .val (.int p2), .val (.int p3), .val (.int p4), .val (.int p5), .val (.ref b1), .val (.int of), .val (.int k1), .unset, .unset, .unset] [(.int (p4 &&& (2147483647 : Int32)))])) _
  refine XS.bipush X9.here hx rfl (hb hby at_96) ?_
  show Steps p.tables e below (T9.setTop (mkF m 98 #[.val (.int p0), .val (.int p1), .val (.int p2), .val (.int p3), .val (.int p4), .val (.int p5), .val (.ref b1), .val (.int of), .val (.int k1), .unset, .unset, .unset] [(.int (17 : Int32)), (.int (p4 &&& (2147483647 : Int32)))])) _
  refine iremM X9 hx rfl (hb hby at_98) rfl (by decide) ?_
  show Steps p.tables e below (T9.setTop (mkF m 99 #[.val (.int p0), .val (.int p1), .val (.int p2), .val (.int p3), .val (.int p4), .val (.int p5), .val (.ref b1), .val (.int of), .val (.int k1), .unset, .unset, .unset] [(.int ((p4 &&& (2147483647 : Int32)) % (17 : Int32)))])) _
  refine XS.istore X9.here hx rfl (hb hby at_99) rfl (l' := #[.val (.int p0), .val (.int p1), .val (.int p2), .val (.int p3), .val (.int p4), .val (.int p5), .val (.ref b1), .val (.int of), .val (.int k1), .val (.int ((p4 &&& (2147483647 : Int32)) % (17 : Int32))), .unset, .unset]) rfl ?_
  show Steps p.tables e below (T9.setTop (mkF m 101 #[.val (.int p0), .val (.int p1), .val (.int p2), .val (.int p3), .val (.int p4), .val (.int p5), .val (.ref b1), .val (.int of), .val (.int k1), .val (.int ((p4 &&& (2147483647 : Int32)) % (17 : Int32))), .unset, .unset] [])) _
  rw [h_k2]
  show Steps p.tables e below (T9.setTop (mkF m 101 #[.val (.int p0), .val (.int p1), .val (.int p2), .val (.int p3), .val (.int p4), .val (.int p5), .val (.ref b1), .val (.int of), .val (.int k1), .val (.int k2), .unset, .unset] [])) _
  refine st10 _ ?_
  show Steps p.tables e below (T10.setTop (mkF m 104 #[.val (.int p0), .val (.int p1), .val (.int p2), .val (.int p3), .val (.int p4), .val (.int p5), .val (.ref b1), .val (.int of), .val (.int k1), .val (.int k2), .unset, .unset] [(.ref b10)])) _
  refine XS.dup X10.here hx rfl (hb hby at_104) rfl rfl ?_
  show Steps p.tables e below (T10.setTop (mkF m 105 #[.val (.int p0), .val (.int p1), .val (.int p2), .val (.int p3), .val (.int p4), .val (.int p5), .val (.ref b1), .val (.int of), .val (.int k1), .val (.int k2), .unset, .unset] [(.ref b10), (.ref b10)])) _
  refine XS.aload X10.here hx rfl (hb hby at_105) rfl rfl ?_
  show Steps p.tables e below (T10.setTop (mkF m 107 #[.val (.int p0), .val (.int p1), .val (.int p2), .val (.int p3), .val (.int p4), .val (.int p5), .val (.ref b1), .val (.int of), .val (.int k1), .val (.int k2), .unset, .unset] [(.ref b1), (.ref b10), (.ref b10)])) _
  refine XS.iload X10.here hx rfl (hb hby at_107) rfl ?_
  show Steps p.tables e below (T10.setTop (mkF m 109 #[.val (.int p0), .val (.int p1), .val (.int p2), .val (.int p3), .val (.int p4), .val (.int p5), .val (.ref b1), .val (.int of), .val (.int k1), .val (.int k2), .unset, .unset] [(.int of), (.ref b1), (.ref b10), (.ref b10)])) _
  refine st12.trans ?_
  show Steps p.tables e below (T12.setTop (mkF m 112 #[.val (.int p0), .val (.int p1), .val (.int p2), .val (.int p3), .val (.int p4), .val (.int p5), .val (.ref b1), .val (.int of), .val (.int k1), .val (.int k2), .unset, .unset] [(.ref b10)])) _
  refine XS.astore X12.here hx rfl (hb hby at_112) rfl rfl (l' := #[.val (.int p0), .val (.int p1), .val (.int p2), .val (.int p3), .val (.int p4), .val (.int p5), .val (.ref b1), .val (.int of), .val (.int k1), .val (.int k2), .val (.ref b10), .unset]) rfl ?_
  show Steps p.tables e below (T12.setTop (mkF m 114 #[.val (.int p0), .val (.int p1), .val (.int p2), .val (.int p3), .val (.int p4), .val (.int p5), .val (.ref b1), .val (.int of), .val (.int k1), .val (.int k2), .val (.ref b10), .unset] [])) _
  refine XS.aload X12.here hx rfl (hb hby at_114) rfl rfl ?_
  show Steps p.tables e below (T12.setTop (mkF m 116 #[.val (.int p0), .val (.int p1), .val (.int p2), .val (.int p3), .val (.int p4), .val (.int p5), .val (.ref b1), .val (.int of), .val (.int k1), .val (.int k2), .val (.ref b10), .unset] [(.ref b10)])) _
  refine XS.iload X12.here hx rfl (hb hby at_116) rfl ?_
  show Steps p.tables e below (T12.setTop (mkF m 118 #[.val (.int p0), .val (.int p1), .val (.int p2), .val (.int p3), .val (.int p4), .val (.int p5), .val (.ref b1), .val (.int of), .val (.int k1), .val (.int k2), .val (.ref b10), .unset] [(.int k1), (.ref b10)])) _
  refine st14.trans ?_
  show Steps p.tables e below (T14.setTop (mkF m 121 #[.val (.int p0), .val (.int p1), .val (.int p2), .val (.int p3), .val (.int p4), .val (.int p5), .val (.ref b1), .val (.int of), .val (.int k1), .val (.int k2), .val (.ref b10), .unset] [(.int ra)])) _
  refine XS.pop X14.here hx rfl (hb hby at_121) rfl rfl ?_
  show Steps p.tables e below (T14.setTop (mkF m 122 #[.val (.int p0), .val (.int p1), .val (.int p2), .val (.int p3), .val (.int p4), .val (.int p5), .val (.ref b1), .val (.int of), .val (.int k1), .val (.int k2), .val (.ref b10), .unset] [])) _
  refine XS.aload X14.here hx rfl (hb hby at_122) rfl rfl ?_
  show Steps p.tables e below (T14.setTop (mkF m 124 #[.val (.int p0), .val (.int p1), .val (.int p2), .val (.int p3), .val (.int p4), .val (.int p5), .val (.ref b1), .val (.int of), .val (.int k1), .val (.int k2), .val (.ref b10), .unset] [(.ref b10)])) _
  refine XS.iload X14.here hx rfl (hb hby at_124) rfl ?_
  show Steps p.tables e below (T14.setTop (mkF m 126 #[.val (.int p0), .val (.int p1), .val (.int p2), .val (.int p3), .val (.int p4), .val (.int p5), .val (.ref b1), .val (.int of), .val (.int k1), .val (.int k2), .val (.ref b10), .unset] [(.int k2), (.ref b10)])) _
  refine st16.trans ?_
  show Steps p.tables e below (T16.setTop (mkF m 129 #[.val (.int p0), .val (.int p1), .val (.int p2), .val (.int p3), .val (.int p4), .val (.int p5), .val (.ref b1), .val (.int of), .val (.int k1), .val (.int k2), .val (.ref b10), .unset] [(.int rb)])) _
  refine XS.pop X16.here hx rfl (hb hby at_129) rfl rfl ?_
  show Steps p.tables e below (T16.setTop (mkF m 130 #[.val (.int p0), .val (.int p1), .val (.int p2), .val (.int p3), .val (.int p4), .val (.int p5), .val (.ref b1), .val (.int of), .val (.int k1), .val (.int k2), .val (.ref b10), .unset] [])) _
  refine XS.aload X16.here hx rfl (hb hby at_130) rfl rfl ?_
  show Steps p.tables e below (T16.setTop (mkF m 132 #[.val (.int p0), .val (.int p1), .val (.int p2), .val (.int p3), .val (.int p4), .val (.int p5), .val (.ref b1), .val (.int of), .val (.int k1), .val (.int k2), .val (.ref b10), .unset] [(.ref b10)])) _
  refine st18.trans ?_
  show Steps p.tables e below (T18.setTop (mkF m 135 #[.val (.int p0), .val (.int p1), .val (.int p2), .val (.int p3), .val (.int p4), .val (.int p5), .val (.ref b1), .val (.int of), .val (.int k1), .val (.int k2), .val (.ref b10), .unset] [])) _
  refine XS.iload X18.here hx rfl (hb hby at_135) rfl ?_
  show Steps p.tables e below (T18.setTop (mkF m 137 #[.val (.int p0), .val (.int p1), .val (.int p2), .val (.int p3), .val (.int p4), .val (.int p5), .val (.ref b1), .val (.int of), .val (.int k1), .val (.int k2), .val (.ref b10), .unset] [(.int p5)])) _
  refine XS.iconst X18.here hx rfl (hb hby at_137) ?_
  show Steps p.tables e below (T18.setTop (mkF m 138 #[.val (.int p0), .val (.int p1), .val (.int p2), .val (.int p3), .val (.int p4), .val (.int p5), .val (.ref b1), .val (.int of), .val (.int k1), .val (.int k2), .val (.ref b10), .unset] [(.int (1 : Int32)), (.int p5)])) _
  refine XS.iand X18.here hx rfl (hb hby at_138) rfl ?_
  show Steps p.tables e below (T18.setTop (mkF m 139 #[.val (.int p0), .val (.int p1), .val (.int p2), .val (.int p3), .val (.int p4), .val (.int p5), .val (.ref b1), .val (.int of), .val (.int k1), .val (.int k2), .val (.ref b10), .unset] [(.int (p5 &&& (1 : Int32)))])) _
  refine XS.ifYes X18.here hx rfl (pc0 := 139) (pc' := 147) rfl (hb hby at_139) rfl ((if0 _ _).trans (teq hs).1) (by decide) (by decide) ?_
  show Steps p.tables e below (T18.setTop (mkF m 147 #[.val (.int p0), .val (.int p1), .val (.int p2), .val (.int p3), .val (.int p4), .val (.int p5), .val (.ref b1), .val (.int of), .val (.int k1), .val (.int k2), .val (.ref b10), .unset] [])) _
  refine XS.iload X18.here hx rfl (hb hby at_147) rfl ?_
  show Steps p.tables e below (T18.setTop (mkF m 149 #[.val (.int p0), .val (.int p1), .val (.int p2), .val (.int p3), .val (.int p4), .val (.int p5), .val (.ref b1), .val (.int of), .val (.int k1), .val (.int k2), .val (.ref b10), .unset] [(.int of)])) _
  refine XS.iload X18.here hx rfl (hb hby at_149) rfl ?_
  show Steps p.tables e below (T18.setTop (mkF m 151 #[.val (.int p0), .val (.int p1), .val (.int p2), .val (.int p3), .val (.int p4), .val (.int p5), .val (.ref b1), .val (.int of), .val (.int k1), .val (.int k2), .val (.ref b10), .unset] [(.int k1), (.int of)])) _
  refine XS.iload X18.here hx rfl (hb hby at_151) rfl ?_
  show Steps p.tables e below (T18.setTop (mkF m 153 #[.val (.int p0), .val (.int p1), .val (.int p2), .val (.int p3), .val (.int p4), .val (.int p5), .val (.ref b1), .val (.int of), .val (.int k1), .val (.int k2), .val (.ref b10), .unset] [(.int k2), (.int k1), (.int of)])) _
  refine XS.iadd X18.here hx rfl (hb hby at_153) rfl ?_
  show Steps p.tables e below (T18.setTop (mkF m 154 #[.val (.int p0), .val (.int p1), .val (.int p2), .val (.int p3), .val (.int p4), .val (.int p5), .val (.ref b1), .val (.int of), .val (.int k1), .val (.int k2), .val (.ref b10), .unset] [(.int (k1 + k2)), (.int of)])) _
  refine XS.bipush X18.here hx rfl (hb hby at_154) ?_
  show Steps p.tables e below (T18.setTop (mkF m 156 #[.val (.int p0), .val (.int p1), .val (.int p2), .val (.int p3), .val (.int p4), .val (.int p5), .val (.ref b1), .val (.int of), .val (.int k1), .val (.int k2), .val (.ref b10), .unset] [(.int (7 : Int32)), (.int (k1 + k2)), (.int of)])) _
  refine XS.iadd X18.here hx rfl (hb hby at_156) rfl ?_
  show Steps p.tables e below (T18.setTop (mkF m 157 #[.val (.int p0), .val (.int p1), .val (.int p2), .val (.int p3), .val (.int p4), .val (.int p5), .val (.ref b1), .val (.int of), .val (.int k1), .val (.int k2), .val (.ref b10), .unset] [(.int ((k1 + k2) + (7 : Int32))), (.int of)])) _
  refine XS.bipush X18.here hx rfl (hb hby at_157) ?_
  show Steps p.tables e below (T18.setTop (mkF m 159 #[.val (.int p0), .val (.int p1), .val (.int p2), .val (.int p3), .val (.int p4), .val (.int p5), .val (.ref b1), .val (.int of), .val (.int k1), .val (.int k2), .val (.ref b10), .unset] [(.int (8 : Int32)), (.int ((k1 + k2) + (7 : Int32))), (.int of)])) _
  refine XS.idiv X18.here hx rfl (hb hby at_159) rfl (by decide) ?_
  show Steps p.tables e below (T18.setTop (mkF m 160 #[.val (.int p0), .val (.int p1), .val (.int p2), .val (.int p3), .val (.int p4), .val (.int p5), .val (.ref b1), .val (.int of), .val (.int k1), .val (.int k2), .val (.ref b10), .unset] [(.int (((k1 + k2) + (7 : Int32)) / (8 : Int32))), (.int of)])) _
  refine XS.iadd X18.here hx rfl (hb hby at_160) rfl ?_
  show Steps p.tables e below (T18.setTop (mkF m 161 #[.val (.int p0), .val (.int p1), .val (.int p2), .val (.int p3), .val (.int p4), .val (.int p5), .val (.ref b1), .val (.int of), .val (.int k1), .val (.int k2), .val (.ref b10), .unset] [(.int (of + (((k1 + k2) + (7 : Int32)) / (8 : Int32))))])) _
  refine XS.istore X18.here hx rfl (hb hby at_161) rfl (l' := #[.val (.int p0), .val (.int p1), .val (.int p2), .val (.int p3), .val (.int p4), .val (.int p5), .val (.ref b1), .val (.int of), .val (.int k1), .val (.int k2), .val (.ref b10), .val (.int (of + (((k1 + k2) + (7 : Int32)) / (8 : Int32))))]) rfl ?_
  show Steps p.tables e below (T18.setTop (mkF m 163 #[.val (.int p0), .val (.int p1), .val (.int p2), .val (.int p3), .val (.int p4), .val (.int p5), .val (.ref b1), .val (.int of), .val (.int k1), .val (.int k2), .val (.ref b10), .val (.int (of + (((k1 + k2) + (7 : Int32)) / (8 : Int32))))] [])) _
  rw [h_ps]
  show Steps p.tables e below (T18.setTop (mkF m 163 #[.val (.int p0), .val (.int p1), .val (.int p2), .val (.int p3), .val (.int p4), .val (.int p5), .val (.ref b1), .val (.int of), .val (.int k1), .val (.int k2), .val (.ref b10), .val (.int ps)] [])) _
  refine XS.aload X18.here hx rfl (hb hby at_163) rfl rfl ?_
  show Steps p.tables e below (T18.setTop (mkF m 165 #[.val (.int p0), .val (.int p1), .val (.int p2), .val (.int p3), .val (.int p4), .val (.int p5), .val (.ref b1), .val (.int of), .val (.int k1), .val (.int k2), .val (.ref b10), .val (.int ps)] [(.ref b10)])) _
  refine st20.trans ?_
  show Steps p.tables e below (T20.setTop (mkF m 168 #[.val (.int p0), .val (.int p1), .val (.int p2), .val (.int p3), .val (.int p4), .val (.int p5), .val (.ref b1), .val (.int of), .val (.int k1), .val (.int k2), .val (.ref b10), .val (.int ps)] [(.int bp)])) _
  refine XS.iload X20.here hx rfl (hb hby at_168) rfl ?_
  show Steps p.tables e below (T20.setTop (mkF m 170 #[.val (.int p0), .val (.int p1), .val (.int p2), .val (.int p3), .val (.int p4), .val (.int p5), .val (.ref b1), .val (.int of), .val (.int k1), .val (.int k2), .val (.ref b10), .val (.int ps)] [(.int ps), (.int bp)])) _
  refine XS.icmpYes X20.here hx rfl (pc0 := 170) (pc' := 175) rfl (hb hby at_170) rfl (teq hbp).1 (by decide) (by decide) ?_
  show Steps p.tables e below (T20.setTop (mkF m 175 #[.val (.int p0), .val (.int p1), .val (.int p2), .val (.int p3), .val (.int p4), .val (.int p5), .val (.ref b1), .val (.int of), .val (.int k1), .val (.int k2), .val (.ref b10), .val (.int ps)] [])) _
  refine XS.iload X20.here hx rfl (hb hby at_175) rfl ?_
  show Steps p.tables e below (T20.setTop (mkF m 177 #[.val (.int p0), .val (.int p1), .val (.int p2), .val (.int p3), .val (.int p4), .val (.int p5), .val (.ref b1), .val (.int of), .val (.int k1), .val (.int k2), .val (.ref b10), .val (.int ps)] [(.int ps)])) _
  refine XS.bipush X20.here hx rfl (hb hby at_177) ?_
  show Steps p.tables e below (T20.setTop (mkF m 179 #[.val (.int p0), .val (.int p1), .val (.int p2), .val (.int p3), .val (.int p4), .val (.int p5), .val (.ref b1), .val (.int of), .val (.int k1), .val (.int k2), .val (.ref b10), .val (.int ps)] [(.int (8 : Int32)), (.int ps)])) _
  refine XS.icmpNo X20.here hx rfl (hb hby at_179) rfl (flt hfar).1 ?_
  show Steps p.tables e below (T20.setTop (mkF m 182 #[.val (.int p0), .val (.int p1), .val (.int p2), .val (.int p3), .val (.int p4), .val (.int p5), .val (.ref b1), .val (.int of), .val (.int k1), .val (.int k2), .val (.ref b10), .val (.int ps)] [])) _
  refine XS.iconst X20.here hx rfl (hb hby at_182) ?_
  show Steps p.tables e below (T20.setTop (mkF m 183 #[.val (.int p0), .val (.int p1), .val (.int p2), .val (.int p3), .val (.int p4), .val (.int p5), .val (.ref b1), .val (.int of), .val (.int k1), .val (.int k2), .val (.ref b10), .val (.int ps)] [(.int (1 : Int32))])) _
  exact retN X20 hx (t := .boolean) Bd.returns (by simp) (hb hby at_183) hr
def Q010 (Z : State) (p0 : Int32) (p1 : Int32) (p2 : Int32) (p3 : Int32) (p4 : Int32) (p5 : Int32) (of : Int32) (k1 : Int32) (k2 : Int32) (ps : Int32) (f : Nat → Int32) (h0 : Heap) (n0 : Nat) (v : Option Value) (h : Heap) (L : List Loc) : Prop := v = some (.int (1 : Int32)) ∧ Fr n0 L
set_option maxRecDepth 65536 in
set_option maxHeartbeats 40000000 in
theorem rm010 (l : Launch) (Z : State) (a0 : Array Value) (hw : ∀ d ∈ tables_1, d.before a0 Z = true) (ws : List Jvm.Cond) (p0 : Int32) (p1 : Int32) (p2 : Int32) (p3 : Int32) (p4 : Int32) (p5 : Int32) (of : Int32) (k1 : Int32) (k2 : Int32) (ps : Int32) (f : Nat → Int32) (h0 : Heap) (n0 : Nat) (Z0 : n0 ≤ h0.size) (h_of : ((p2 &&& (2147483647 : Int32)) % (5 : Int32)) = of) (h_k1 : ((p3 &&& (2147483647 : Int32)) % (17 : Int32)) = k1) (h_k2 : ((p4 &&& (2147483647 : Int32)) % (17 : Int32)) = k2) (h_ps : (of + (((k1 + k2) + (7 : Int32)) / (8 : Int32))) = ps) (hf : (own_up (own_up (own_up (own_up (own_up (own_up (own_up (own_up (fun _ => 0) 0 ((p0.toInt8.toInt32)).toInt8.toInt32) 1 ((((p0.toUInt32 >>> ((8 : Int32) &&& 31).toUInt32).toInt32).toInt8.toInt32)).toInt8.toInt32) 2 ((((p0.toUInt32 >>> ((16 : Int32) &&& 31).toUInt32).toInt32).toInt8.toInt32)).toInt8.toInt32) 3 ((((p0.toUInt32 >>> ((24 : Int32) &&& 31).toUInt32).toInt32).toInt8.toInt32)).toInt8.toInt32) 4 ((p1.toInt8.toInt32)).toInt8.toInt32) 5 ((((p1.toUInt32 >>> ((8 : Int32) &&& 31).toUInt32).toInt32).toInt8.toInt32)).toInt8.toInt32) 6 ((((p1.toUInt32 >>> ((16 : Int32) &&& 31).toUInt32).toInt32).toInt8.toInt32)).toInt8.toInt32) 7 ((((p1.toUInt32 >>> ((24 : Int32) &&& 31).toUInt32).toInt32).toInt8.toInt32)).toInt8.toInt32) = f) (hs : ¬ (p5 &&& (1 : Int32)) = (0 : Int32)) (hfar : ps < (8 : Int32)) :
    MetFree l x (head1 (Jvm.Cond.code x code maxLocals ret :: ws) room_1) (fun a_ U_ => a_ = #[(.int p0), (.int p1), (.int p2), (.int p3), (.int p4), (.int p5)] ∧ Z.Warmed39 U_.vm ∧ U_.heap = h0) (fun _ _ _ _ _ => True) (fun _ U_ o_ U' => ∃ v_ L_, o_ = .returned v_ ∧ (Q010 Z p0 p1 p2 p3 p4 p5 of k1 k2 ps f h0 n0 v_ U'.heap L_) ∧ FrameEnd U_ o_ U' L_ room_1.cells room_1.slots) := by
  refine MetFree.of_bodySF (plainFor_of_name pn_0) hisR ?_
  intro p e s m args below meth c s₁ Bd hml0 hP hK
  obtain ⟨rfl, hZ, hh⟩ := hP
  have hx := Bd.exec
  have hby := Bd.bytes
  have hml : c.maxLocals = 12 := hml0
  have hown : s.vm.findClass "com/example/fewbits/fewbits/deflate/DeflateBitReaderAlignToBytePinLaw" = some m.cls := findClass_of_methodNamed Bd.named
  have hnm := (name_of_methodNamed Bd.named Bd.method).1
  have X0 : Stand p l e room_1 s m #[(.int p0), (.int p1), (.int p2), (.int p3), (.int p4), (.int p5)] below meth c s₁ [] 0 0 := Stand.of_body Bd
  have e0 : s₁.heap = h0 := by rw [← hh, Bd.state]; rfl
  have N0 := Fr.nil n0
  have pre0 : ∀ t, Steps p.tables e below (s₁.setTop (mkF m 0 #[.val (.int p0), .val (.int p1), .val (.int p2), .val (.int p3), .val (.int p4), .val (.int p5), .unset, .unset, .unset, .unset, .unset, .unset] [])) t → Steps p.tables e below (s₁.setTop (entryFrame m #[(.int p0), (.int p1), (.int p2), (.int p3), (.int p4), (.int p5)] maxLocals)) t := fun t k => castTop (ef_0 m p0 p1 p2 p3 p4 p5) k
  obtain ⟨T1, h1, X1, e1, E1, A1, st1⟩ := own_newI X0 hx hZ (hw _ (List.mem_of_getElem? (i := 0) rfl)) rfl e0 (g := (mkF m 2 #[.val (.int p0), .val (.int p1), .val (.int p2), .val (.int p3), .val (.int p4), .val (.int p5), .unset, .unset, .unset, .unset, .unset, .unset] [(.int (8 : Int32))])) rfl (hb hby at_2) rfl (by decide) (cap := 8) (by decide) (by decide) (by decide) (by decide)
  obtain ⟨b1, g1⟩ : ∃ z, z = h0.size := ⟨_, rfl⟩
  rw [← g1] at A1 st1
  have f_b1 : n0 ≤ b1 := Nat.le_trans Z0 (Nat.le_of_eq g1.symm)
  have s_b1 : h0.size ≤ b1 := Nat.le_trans (Keep.refl h0 []).1 (Nat.le_of_eq g1.symm)
  have K1 : Keep h0 h1 [] := (Keep.refl h0 []).ext E1
  have Z1 : n0 ≤ h1.size := Nat.le_trans Z0 E1.1
  obtain ⟨T2, h2, X2, e2, W2, A2, st2⟩ := own_stB X1 hx hZ e1 A1 (j := (0 : Int32)) ⟨by decide, by decide⟩ (g := (mkF m 11 #[.val (.int p0), .val (.int p1), .val (.int p2), .val (.int p3), .val (.int p4), .val (.int p5), .val (.ref b1), .unset, .unset, .unset, .unset, .unset] [(.int (p0.toInt8.toInt32)), (.int (0 : Int32)), (.ref b1)])) rfl rfl (hb hby at_11)
  have N2 := Fr.snoc X2 N0 f_b1
  have K2 : Keep h0 h2 [] := K1.wr W2 (Or.inr s_b1)
  have Z2 : n0 ≤ h2.size := Nat.le_trans Z1 (Nat.le_of_eq (W2.size).symm)
  obtain ⟨T3, h3, X3, e3, W3, A3, st3⟩ := own_stB X2 hx hZ e2 A2 (j := (1 : Int32)) ⟨by decide, by decide⟩ (g := (mkF m 20 #[.val (.int p0), .val (.int p1), .val (.int p2), .val (.int p3), .val (.int p4), .val (.int p5), .val (.ref b1), .unset, .unset, .unset, .unset, .unset] [(.int (((p0.toUInt32 >>> ((8 : Int32) &&& 31).toUInt32).toInt32).toInt8.toInt32)), (.int (1 : Int32)), (.ref b1)])) rfl rfl (hb hby at_20)
  have N3 := Fr.snoc X3 N2 f_b1
  have K3 : Keep h0 h3 [] := K2.wr W3 (Or.inr s_b1)
  have Z3 : n0 ≤ h3.size := Nat.le_trans Z2 (Nat.le_of_eq (W3.size).symm)
  obtain ⟨T4, h4, X4, e4, W4, A4, st4⟩ := own_stB X3 hx hZ e3 A3 (j := (2 : Int32)) ⟨by decide, by decide⟩ (g := (mkF m 29 #[.val (.int p0), .val (.int p1), .val (.int p2), .val (.int p3), .val (.int p4), .val (.int p5), .val (.ref b1), .unset, .unset, .unset, .unset, .unset] [(.int (((p0.toUInt32 >>> ((16 : Int32) &&& 31).toUInt32).toInt32).toInt8.toInt32)), (.int (2 : Int32)), (.ref b1)])) rfl rfl (hb hby at_29)
  have N4 := Fr.snoc X4 N3 f_b1
  have K4 : Keep h0 h4 [] := K3.wr W4 (Or.inr s_b1)
  have Z4 : n0 ≤ h4.size := Nat.le_trans Z3 (Nat.le_of_eq (W4.size).symm)
  obtain ⟨T5, h5, X5, e5, W5, A5, st5⟩ := own_stB X4 hx hZ e4 A4 (j := (3 : Int32)) ⟨by decide, by decide⟩ (g := (mkF m 38 #[.val (.int p0), .val (.int p1), .val (.int p2), .val (.int p3), .val (.int p4), .val (.int p5), .val (.ref b1), .unset, .unset, .unset, .unset, .unset] [(.int (((p0.toUInt32 >>> ((24 : Int32) &&& 31).toUInt32).toInt32).toInt8.toInt32)), (.int (3 : Int32)), (.ref b1)])) rfl rfl (hb hby at_38)
  have N5 := Fr.snoc X5 N4 f_b1
  have K5 : Keep h0 h5 [] := K4.wr W5 (Or.inr s_b1)
  have Z5 : n0 ≤ h5.size := Nat.le_trans Z4 (Nat.le_of_eq (W5.size).symm)
  obtain ⟨T6, h6, X6, e6, W6, A6, st6⟩ := own_stB X5 hx hZ e5 A5 (j := (4 : Int32)) ⟨by decide, by decide⟩ (g := (mkF m 44 #[.val (.int p0), .val (.int p1), .val (.int p2), .val (.int p3), .val (.int p4), .val (.int p5), .val (.ref b1), .unset, .unset, .unset, .unset, .unset] [(.int (p1.toInt8.toInt32)), (.int (4 : Int32)), (.ref b1)])) rfl rfl (hb hby at_44)
  have N6 := Fr.snoc X6 N5 f_b1
  have K6 : Keep h0 h6 [] := K5.wr W6 (Or.inr s_b1)
  have Z6 : n0 ≤ h6.size := Nat.le_trans Z5 (Nat.le_of_eq (W6.size).symm)
  obtain ⟨T7, h7, X7, e7, W7, A7, st7⟩ := own_stB X6 hx hZ e6 A6 (j := (5 : Int32)) ⟨by decide, by decide⟩ (g := (mkF m 53 #[.val (.int p0), .val (.int p1), .val (.int p2), .val (.int p3), .val (.int p4), .val (.int p5), .val (.ref b1), .unset, .unset, .unset, .unset, .unset] [(.int (((p1.toUInt32 >>> ((8 : Int32) &&& 31).toUInt32).toInt32).toInt8.toInt32)), (.int (5 : Int32)), (.ref b1)])) rfl rfl (hb hby at_53)
  have N7 := Fr.snoc X7 N6 f_b1
  have K7 : Keep h0 h7 [] := K6.wr W7 (Or.inr s_b1)
  have Z7 : n0 ≤ h7.size := Nat.le_trans Z6 (Nat.le_of_eq (W7.size).symm)
  obtain ⟨T8, h8, X8, e8, W8, A8, st8⟩ := own_stB X7 hx hZ e7 A7 (j := (6 : Int32)) ⟨by decide, by decide⟩ (g := (mkF m 63 #[.val (.int p0), .val (.int p1), .val (.int p2), .val (.int p3), .val (.int p4), .val (.int p5), .val (.ref b1), .unset, .unset, .unset, .unset, .unset] [(.int (((p1.toUInt32 >>> ((16 : Int32) &&& 31).toUInt32).toInt32).toInt8.toInt32)), (.int (6 : Int32)), (.ref b1)])) rfl rfl (hb hby at_63)
  have N8 := Fr.snoc X8 N7 f_b1
  have K8 : Keep h0 h8 [] := K7.wr W8 (Or.inr s_b1)
  have Z8 : n0 ≤ h8.size := Nat.le_trans Z7 (Nat.le_of_eq (W8.size).symm)
  obtain ⟨T9, h9, X9, e9, W9, A9, st9⟩ := own_stB X8 hx hZ e8 A8 (j := (7 : Int32)) ⟨by decide, by decide⟩ (g := (mkF m 73 #[.val (.int p0), .val (.int p1), .val (.int p2), .val (.int p3), .val (.int p4), .val (.int p5), .val (.ref b1), .unset, .unset, .unset, .unset, .unset] [(.int (((p1.toUInt32 >>> ((24 : Int32) &&& 31).toUInt32).toInt32).toInt8.toInt32)), (.int (7 : Int32)), (.ref b1)])) rfl rfl (hb hby at_73)
  have N9 := Fr.snoc X9 N8 f_b1
  have K9 : Keep h0 h9 [] := K8.wr W9 (Or.inr s_b1)
  have Z9 : n0 ≤ h9.size := Nat.le_trans Z8 (Nat.le_of_eq (W9.size).symm)
  have AF : own_AI Z h9 b1 .byte (8 : Int32) f := hf ▸ A9
  obtain ⟨o, ho4, eo⟩ := own_o h_of
  obtain ⟨u1, hu1, eu1⟩ := own_k h_k1
  obtain ⟨u2, hu2, eu2⟩ := own_k h_k2
  obtain ⟨T10, h10, X10, e10, E10, A10, D10, -, st10⟩ := newO X9 hx hZ hown (hw _ (List.mem_of_getElem? (i := 2) rfl)) (hw _ (List.mem_of_getElem? (i := 3) rfl)) (hw _ (List.mem_of_getElem? (i := 4) rfl)) e9 (g := (mkF m 101 #[.val (.int p0), .val (.int p1), .val (.int p2), .val (.int p3), .val (.int p4), .val (.int p5), .val (.ref b1), .val (.int of), .val (.int k1), .val (.int k2), .unset, .unset] [])) rfl (hb hby at_101) (by decide) (by decide)
  obtain ⟨b10, g10⟩ : ∃ z, z = h9.size := ⟨_, rfl⟩
  rw [← g10] at A10 D10 st10
  have f_b10 : n0 ≤ b10 := Nat.le_trans Z9 (Nat.le_of_eq g10.symm)
  have s_b10 : h0.size ≤ b10 := Nat.le_trans K9.1 (Nat.le_of_eq g10.symm)
  have K10 : Keep h0 h10 [] := K9.ext E10
  have A10_b1 := AF.ext E10
  have O10 : own_Db Z h10 b10 .null (.int (0 : Int32)) (.long (0 : Int64)) (.int (0 : Int32)) := ⟨A10, D10 (Or.inr (hw _ (List.mem_of_getElem? (i := 20) rfl))) (ty := (.array .byte)) (by decide), D10 (Or.inl (hw _ (List.mem_of_getElem? (i := 22) rfl))) (ty := .int) (by decide), D10 (Or.inl (hw _ (List.mem_of_getElem? (i := 40) rfl))) (ty := .long) (by decide), D10 (Or.inl (hw _ (List.mem_of_getElem? (i := 34) rfl))) (ty := .int) (by decide)⟩
  have Z10 : n0 ≤ h10.size := Nat.le_trans Z9 E10.1
  obtain ⟨Lg11, Xg11, Ng11⟩ := own_gen X10 N9
  obtain ⟨_, _, ⟨T12, L12, k12, n12⟩, -, X12, ⟨Lc12, hQ12, l12, y12, z12⟩, st12⟩ := Xg11.specialBack hx (y := (⟨"com/example/fewbits/fewbits/deflate/DeflateBitReader", "<init>", "([BI)V"⟩ : MethodName)) rfl hown (mvT hZ (hw _ (List.mem_of_getElem? (i := 5) rfl))) (mvT hZ (hw _ (List.mem_of_getElem? (i := 6) rfl))) (mvT hZ (hw _ (List.mem_of_getElem? (i := 7) rfl))) (by decide) (backOf (W := 1) (rm3 l Z a0 hw [] b10 b1 of f h10 n0 Z10 f_b10 O10 A10_b1 (own_c1 ho4 eo) (own_c2 ho4 eo)) hZ (hw _ (List.mem_of_getElem? (i := 7) rfl)) (hw _ (List.mem_of_getElem? (i := 4) rfl)) (by decide) (by decide)) (g := (mkF m 109 #[.val (.int p0), .val (.int p1), .val (.int p2), .val (.int p3), .val (.int p4), .val (.int p5), .val (.ref b1), .val (.int of), .val (.int k1), .val (.int k2), .unset, .unset] [(.int of), (.ref b1), (.ref b10), (.ref b10)])) rfl (by rw [hml]; rfl) (Steps.refl _) (a := b10) (argsL := [(.ref b1), (.int of)]) (rest := [(.ref b10)]) (lenOf pd_5 rfl) rfl (by show 2 * 0 + _ ≤ _; exact Nat.le_of_eq rfl) (hb hby at_109) (fun _ _ => ⟨rfl, e10, (by decide : 2 + 0 ≤ _), (by decide : 12 + 0 ≤ _)⟩)
  dsimp only [Pt.U, Pt.locs, Pt.cells, Pt.slots] at X12 l12 y12 z12 st12 hQ12
  subst l12 y12 z12
  obtain ⟨rfl, Nq12, Kq12, Oq12⟩ := hQ12
  have N12 := Fr.app Ng11 Nq12
  have Z12 : n0 ≤ T12.heap.size := Nat.le_trans Z10 Kq12.1
  have AA12 := A10_b1.keep Kq12 (ninS (own_ne_obj O10.1 (hw _ (List.mem_of_getElem? (i := 3) rfl)) A10_b1).symm nin0)
  have R12 : own_R Z T12.heap b10 b1 f o 0 := ⟨_, _, _, Oq12, Or.inl ⟨rfl, eo, rfl, rfl⟩⟩
  obtain ⟨Lg13, Xg13, Ng13⟩ := own_gen X12 N12
  obtain ⟨cq14, kq14, qa14, qb14, qc14⟩ := isOf hZ rfl (own_R_exa R12)
  obtain ⟨_, _, ⟨T14, L14, k14, n14⟩, -, X14, ⟨Lc14, hQ14, l14, y14, z14⟩, st14⟩ := Xg13.virtualBack hx (y := (⟨"com/example/fewbits/fewbits/deflate/DeflateBitReader", "readBits", "(I)I"⟩ : MethodName)) (z := (⟨"com/example/fewbits/fewbits/deflate/DeflateBitReader", "readBits", "(I)I"⟩ : MethodName)) hown (mvT hZ (hw _ (List.mem_of_getElem? (i := 23) rfl))) (mvT hZ (hw _ (List.mem_of_getElem? (i := 24) rfl))) (notFace_of_selects (args := #[]) (mvT hZ (hw _ (List.mem_of_getElem? (i := 26) rfl)))) (mvT hZ (hw _ (List.mem_of_getElem? (i := 26) rfl))) (mvT hZ (hw _ (List.mem_of_getElem? (i := 25) rfl))) (by decide) (backOf (W := 0) (rm7 l Z a0 hw [] b10 k1 b1 f o (0) u1 T12.heap n0 Z12 f_b10 R12 AA12 ho4 eu1 hu1 (by omega)) hZ (hw _ (List.mem_of_getElem? (i := 27) rfl)) (hw _ (List.mem_of_getElem? (i := 4) rfl)) (by decide) (by decide)) qa14 qc14 (g := (mkF m 118 #[.val (.int p0), .val (.int p1), .val (.int p2), .val (.int p3), .val (.int p4), .val (.int p5), .val (.ref b1), .val (.int of), .val (.int k1), .val (.int k2), .val (.ref b10), .unset] [(.int k1), (.ref b10)])) rfl (by rw [hml]; rfl) (Steps.refl _) (argsL := [(.int k1)]) (rest := []) (lenOf pd_3 rfl) rfl (by show 2 * 0 + _ ≤ _; exact Nat.le_of_eq rfl) (hb hby at_118) (fun _ _ => ⟨rfl, rfl, (by decide : 2 + 0 ≤ _), (by decide : 12 + 0 ≤ _)⟩)
  dsimp only [Pt.U, Pt.locs, Pt.cells, Pt.slots] at X14 l14 y14 z14 st14 hQ14
  subst l14 y14 z14
  obtain ⟨⟨ra, rfl, ra8⟩, Nq14, Kq14, Rq14, Aq14⟩ := hQ14
  have N14 := Fr.app Ng13 Nq14
  have Z14 : n0 ≤ T14.heap.size := Nat.le_trans Z12 Kq14.1
  obtain ⟨Lg15, Xg15, Ng15⟩ := own_gen X14 N14
  obtain ⟨cq16, kq16, qa16, qb16, qc16⟩ := isOf hZ rfl (own_R_exa Rq14)
  obtain ⟨_, _, ⟨T16, L16, k16, n16⟩, -, X16, ⟨Lc16, hQ16, l16, y16, z16⟩, st16⟩ := Xg15.virtualBack hx (y := (⟨"com/example/fewbits/fewbits/deflate/DeflateBitReader", "readBits", "(I)I"⟩ : MethodName)) (z := (⟨"com/example/fewbits/fewbits/deflate/DeflateBitReader", "readBits", "(I)I"⟩ : MethodName)) hown (mvT hZ (hw _ (List.mem_of_getElem? (i := 23) rfl))) (mvT hZ (hw _ (List.mem_of_getElem? (i := 24) rfl))) (notFace_of_selects (args := #[]) (mvT hZ (hw _ (List.mem_of_getElem? (i := 26) rfl)))) (mvT hZ (hw _ (List.mem_of_getElem? (i := 26) rfl))) (mvT hZ (hw _ (List.mem_of_getElem? (i := 25) rfl))) (by decide) (backOf (W := 0) (rm7 l Z a0 hw [] b10 k2 b1 f o (0 + u1) u2 T14.heap n0 Z14 f_b10 Rq14 Aq14 ho4 eu2 hu2 (by omega)) hZ (hw _ (List.mem_of_getElem? (i := 27) rfl)) (hw _ (List.mem_of_getElem? (i := 4) rfl)) (by decide) (by decide)) qa16 qc16 (g := (mkF m 126 #[.val (.int p0), .val (.int p1), .val (.int p2), .val (.int p3), .val (.int p4), .val (.int p5), .val (.ref b1), .val (.int of), .val (.int k1), .val (.int k2), .val (.ref b10), .unset] [(.int k2), (.ref b10)])) rfl (by rw [hml]; rfl) (Steps.refl _) (argsL := [(.int k2)]) (rest := []) (lenOf pd_3 rfl) rfl (by show 2 * 0 + _ ≤ _; exact Nat.le_of_eq rfl) (hb hby at_126) (fun _ _ => ⟨rfl, rfl, (by decide : 2 + 0 ≤ _), (by decide : 12 + 0 ≤ _)⟩)
  dsimp only [Pt.U, Pt.locs, Pt.cells, Pt.slots] at X16 l16 y16 z16 st16 hQ16
  subst l16 y16 z16
  obtain ⟨⟨rb, rfl, rb8⟩, Nq16, Kq16, Rq16, Aq16⟩ := hQ16
  have N16 := Fr.app Ng15 Nq16
  have Z16 : n0 ≤ T16.heap.size := Nat.le_trans Z14 Kq16.1
  obtain ⟨Lg17, Xg17, Ng17⟩ := own_gen X16 N16
  obtain ⟨cq18, kq18, qa18, qb18, qc18⟩ := isOf hZ rfl (own_R_exa Rq16)
  obtain ⟨_, _, ⟨T18, L18, k18, n18⟩, -, X18, ⟨Lc18, hQ18, l18, y18, z18⟩, st18⟩ := Xg17.virtualBack hx (y := (⟨"com/example/fewbits/fewbits/deflate/DeflateBitReader", "alignToByte", "()V"⟩ : MethodName)) (z := (⟨"com/example/fewbits/fewbits/deflate/DeflateBitReader", "alignToByte", "()V"⟩ : MethodName)) hown (mvT hZ (hw _ (List.mem_of_getElem? (i := 47) rfl))) (mvT hZ (hw _ (List.mem_of_getElem? (i := 48) rfl))) (notFace_of_selects (args := #[]) (mvT hZ (hw _ (List.mem_of_getElem? (i := 50) rfl)))) (mvT hZ (hw _ (List.mem_of_getElem? (i := 50) rfl))) (mvT hZ (hw _ (List.mem_of_getElem? (i := 49) rfl))) (by decide) (backOf (W := 0) (rm8 l Z a0 hw [] b10 b1 f o (0 + u1 + u2) T16.heap n0 Z16 f_b10 Rq16 Aq16 ho4 (by omega)) hZ (hw _ (List.mem_of_getElem? (i := 51) rfl)) (hw _ (List.mem_of_getElem? (i := 4) rfl)) (by decide) (by decide)) qa18 qc18 (g := (mkF m 132 #[.val (.int p0), .val (.int p1), .val (.int p2), .val (.int p3), .val (.int p4), .val (.int p5), .val (.ref b1), .val (.int of), .val (.int k1), .val (.int k2), .val (.ref b10), .unset] [(.ref b10)])) rfl (by rw [hml]; rfl) (Steps.refl _) (argsL := []) (rest := []) (lenOf pd_2 rfl) rfl (by show 2 * 0 + _ ≤ _; exact Nat.le_of_eq rfl) (hb hby at_132) (fun _ _ => ⟨rfl, rfl, (by decide : 2 + 0 ≤ _), (by decide : 12 + 0 ≤ _)⟩)
  dsimp only [Pt.U, Pt.locs, Pt.cells, Pt.slots] at X18 l18 y18 z18 st18 hQ18
  subst l18 y18 z18
  obtain ⟨rfl, Nq18, Kq18, Rq18, Aq18⟩ := hQ18
  have N18 := Fr.app Ng17 Nq18
  have Z18 : n0 ≤ T18.heap.size := Nat.le_trans Z16 Kq18.1
  obtain ⟨w, hw8, hw1, hw2⟩ : ∃ w : Nat, 0 + u1 + u2 + (8 * (8 - o) - (0 + u1 + u2)) % 8 = w ∧ w % 8 = 0 ∧ (w = 8 * ((u1 + u2 + 7) / 8) ∧ w ≤ 8 * (8 - o)) := ⟨_, rfl, by omega, by omega⟩
  rw [hw8] at Rq18
  obtain ⟨Lg19, Xg19, Ng19⟩ := own_gen X18 N18
  obtain ⟨cq20, kq20, qa20, qb20, qc20⟩ := isOf hZ rfl (own_R_exa Rq18)
  obtain ⟨_, _, ⟨T20, L20, k20, n20⟩, -, X20, ⟨Lc20, hQ20, l20, y20, z20⟩, st20⟩ := Xg19.virtualBack hx (y := (⟨"com/example/fewbits/fewbits/deflate/DeflateBitReader", "alignToByte", "()V"⟩ : MethodName)) (z := (⟨"com/example/fewbits/fewbits/deflate/DeflateBitReader", "alignToByte", "()V"⟩ : MethodName)) hown (mvT hZ (hw _ (List.mem_of_getElem? (i := 47) rfl))) (mvT hZ (hw _ (List.mem_of_getElem? (i := 48) rfl))) (notFace_of_selects (args := #[]) (mvT hZ (hw _ (List.mem_of_getElem? (i := 50) rfl)))) (mvT hZ (hw _ (List.mem_of_getElem? (i := 50) rfl))) (mvT hZ (hw _ (List.mem_of_getElem? (i := 49) rfl))) (by decide) (backOf (W := 0) (rm8 l Z a0 hw [] b10 b1 f o (w) T18.heap n0 Z18 f_b10 Rq18 Aq18 ho4 (by omega)) hZ (hw _ (List.mem_of_getElem? (i := 51) rfl)) (hw _ (List.mem_of_getElem? (i := 4) rfl)) (by decide) (by decide)) qa20 qc20 (g := (mkF m 144 #[.val (.int p0), .val (.int p1), .val (.int p2), .val (.int p3), .val (.int p4), .val (.int p5), .val (.ref b1), .val (.int of), .val (.int k1), .val (.int k2), .val (.ref b10), .unset] [(.ref b10)])) rfl (by rw [hml]; rfl) (Steps.refl _) (argsL := []) (rest := []) (lenOf pd_2 rfl) rfl (by show 2 * 0 + _ ≤ _; exact Nat.le_of_eq rfl) (hb hby at_144) (fun _ _ => ⟨rfl, rfl, (by decide : 2 + 0 ≤ _), (by decide : 12 + 0 ≤ _)⟩)
  dsimp only [Pt.U, Pt.locs, Pt.cells, Pt.slots] at X20 l20 y20 z20 st20 hQ20
  subst l20 y20 z20
  obtain ⟨rfl, Nq20, Kq20, Rq20, Aq20⟩ := hQ20
  have N20 := Fr.app Ng19 Nq20
  have Z20 : n0 ≤ T20.heap.size := Nat.le_trans Z18 Kq20.1
  have hww : w + (8 * (8 - o) - w) % 8 = w := by omega
  rw [hww] at Rq20
  have eps := own_ps ho4 eo hu1 eu1 hu2 eu2 h_ps
  obtain ⟨Lg21, Xg21, Ng21⟩ := own_gen X20 N20
  obtain ⟨cq22, kq22, qa22, qb22, qc22⟩ := isOf hZ rfl (own_R_exa Rq20)
  obtain ⟨_, _, ⟨T22, L22, k22, n22⟩, -, X22, ⟨Lc22, hQ22, l22, y22, z22⟩, st22⟩ := Xg21.virtualBack hx (y := (⟨"com/example/fewbits/fewbits/deflate/DeflateBitReader", "getBytePosition", "()I"⟩ : MethodName)) (z := (⟨"com/example/fewbits/fewbits/deflate/DeflateBitReader", "getBytePosition", "()I"⟩ : MethodName)) hown (mvT hZ (hw _ (List.mem_of_getElem? (i := 52) rfl))) (mvT hZ (hw _ (List.mem_of_getElem? (i := 53) rfl))) (notFace_of_selects (args := #[]) (mvT hZ (hw _ (List.mem_of_getElem? (i := 55) rfl)))) (mvT hZ (hw _ (List.mem_of_getElem? (i := 55) rfl))) (mvT hZ (hw _ (List.mem_of_getElem? (i := 54) rfl))) (by decide) (backOf (W := 0) (rm9 l Z a0 hw [] b10 b1 f o w T20.heap n0 Z20 f_b10 Rq20 Aq20 ho4 hw2.2 hw1) hZ (hw _ (List.mem_of_getElem? (i := 56) rfl)) (hw _ (List.mem_of_getElem? (i := 4) rfl)) (by decide) (by decide)) qa22 qc22 (g := (mkF m 165 #[.val (.int p0), .val (.int p1), .val (.int p2), .val (.int p3), .val (.int p4), .val (.int p5), .val (.ref b1), .val (.int of), .val (.int k1), .val (.int k2), .val (.ref b10), .val (.int ps)] [(.ref b10)])) rfl (by rw [hml]; rfl) (Steps.refl _) (argsL := []) (rest := []) (lenOf pd_6 rfl) rfl (by show 2 * 0 + _ ≤ _; exact Nat.le_of_eq rfl) (hb hby at_165) (fun _ _ => ⟨rfl, rfl, (by decide : 2 + 0 ≤ _), (by decide : 12 + 0 ≤ _)⟩)
  dsimp only [Pt.U, Pt.locs, Pt.cells, Pt.slots] at X22 l22 y22 z22 st22 hQ22
  subst l22 y22 z22
  obtain ⟨⟨bp, rfl, ebp⟩, Nq22, e22⟩ := hQ22
  have N22 := Fr.app Ng21 Nq22
  have hbp : bp = ps := own_i_of (by rw [ebp, eps]; omega)
  have hfar2 : o + w / 8 < 8 := by rw [own_i_lt (show ps.toInt = ((o + (u1 + u2 + 7) / 8 : Nat) : Int) from eps) (show (8 : Int32).toInt = 8 from rfl)] at hfar; omega
  obtain ⟨Lg23, Xg23, Ng23⟩ := own_gen X22 N22
  obtain ⟨cq24, kq24, qa24, qb24, qc24⟩ := isOf hZ e22 (own_R_exa Rq20)
  obtain ⟨_, _, ⟨T24, L24, k24, n24⟩, -, X24, ⟨Lc24, hQ24, l24, y24, z24⟩, st24⟩ := Xg23.virtualBack hx (y := (⟨"com/example/fewbits/fewbits/deflate/DeflateBitReader", "readBits", "(I)I"⟩ : MethodName)) (z := (⟨"com/example/fewbits/fewbits/deflate/DeflateBitReader", "readBits", "(I)I"⟩ : MethodName)) hown (mvT hZ (hw _ (List.mem_of_getElem? (i := 23) rfl))) (mvT hZ (hw _ (List.mem_of_getElem? (i := 24) rfl))) (notFace_of_selects (args := #[]) (mvT hZ (hw _ (List.mem_of_getElem? (i := 26) rfl)))) (mvT hZ (hw _ (List.mem_of_getElem? (i := 26) rfl))) (mvT hZ (hw _ (List.mem_of_getElem? (i := 25) rfl))) (by decide) (backOf (W := 0) (rm7 l Z a0 hw [] b10 (8 : Int32) b1 f o (w) 8 T20.heap n0 Z20 f_b10 Rq20 Aq20 ho4 (rfl : (8 : Int32).toInt = ((8 : Nat) : Int)) (by omega) (by omega)) hZ (hw _ (List.mem_of_getElem? (i := 27) rfl)) (hw _ (List.mem_of_getElem? (i := 4) rfl)) (by decide) (by decide)) qa24 qc24 (g := (mkF m 188 #[.val (.int p0), .val (.int p1), .val (.int p2), .val (.int p3), .val (.int p4), .val (.int p5), .val (.ref b1), .val (.int of), .val (.int k1), .val (.int k2), .val (.ref b10), .val (.int ps)] [(.int (8 : Int32)), (.ref b10)])) rfl (by rw [hml]; rfl) (Steps.refl _) (argsL := [(.int (8 : Int32))]) (rest := []) (lenOf pd_3 rfl) rfl (by show 2 * 0 + _ ≤ _; exact Nat.le_of_eq rfl) (hb hby at_188) (fun _ _ => ⟨rfl, e22, (by decide : 2 + 0 ≤ _), (by decide : 12 + 0 ≤ _)⟩)
  dsimp only [Pt.U, Pt.locs, Pt.cells, Pt.slots] at X24 l24 y24 z24 st24 hQ24
  subst l24 y24 z24
  obtain ⟨⟨rc, rfl, rc8⟩, Nq24, Kq24, Rq24, Aq24⟩ := hQ24
  have N24 := Fr.app Ng23 Nq24
  have Z24 : n0 ≤ T24.heap.size := Nat.le_trans Z20 Kq24.1
  have hin : ¬ ps < 0 ∧ ps < (8 : Int32) := own_ix (by omega) (by rw [eps]; show _ < (8 : Int); omega)
  have hfin : rc = ((f (ps).toNatClampNeg) &&& (255 : Int32)) := own_fin (f := f) ho4 eps (by omega) hw2 (rc8 rfl)
  obtain ⟨fs, hr, hrun, hended, hW, hsame⟩ := X24.leave (v := some (.int (1 : Int32))) (fun h => by rw [Bd.returns] at h; cases h)
  refine ⟨_, _, pre0 _ ?_, hrun, hended, _, _, rfl, ⟨rfl, N24⟩, ⟨_, rfl⟩, hW, hsame.mono (by decide) (by decide)⟩
  show Steps p.tables e below (s₁.setTop (mkF m 0 #[.val (.int p0), .val (.int p1), .val (.int p2), .val (.int p3), .val (.int p4), .val (.int p5), .unset, .unset, .unset, .unset, .unset, .unset] [])) _
  refine XS.bipush X0.here hx rfl (hb hby at_0) ?_
  show Steps p.tables e below (s₁.setTop (mkF m 2 #[.val (.int p0), .val (.int p1), .val (.int p2), .val (.int p3), .val (.int p4), .val (.int p5), .unset, .unset, .unset, .unset, .unset, .unset] [(.int (8 : Int32))])) _
  refine st1 _ ?_
  show Steps p.tables e below (T1.setTop (mkF m 4 #[.val (.int p0), .val (.int p1), .val (.int p2), .val (.int p3), .val (.int p4), .val (.int p5), .unset, .unset, .unset, .unset, .unset, .unset] [(.ref b1)])) _
  refine XS.astore X1.here hx rfl (hb hby at_4) rfl rfl (l' := #[.val (.int p0), .val (.int p1), .val (.int p2), .val (.int p3), .val (.int p4), .val (.int p5), .val (.ref b1), .unset, .unset, .unset, .unset, .unset]) rfl ?_
  show Steps p.tables e below (T1.setTop (mkF m 6 #[.val (.int p0), .val (.int p1), .val (.int p2), .val (.int p3), .val (.int p4), .val (.int p5), .val (.ref b1), .unset, .unset, .unset, .unset, .unset] [])) _
  refine XS.aload X1.here hx rfl (hb hby at_6) rfl rfl ?_
  show Steps p.tables e below (T1.setTop (mkF m 8 #[.val (.int p0), .val (.int p1), .val (.int p2), .val (.int p3), .val (.int p4), .val (.int p5), .val (.ref b1), .unset, .unset, .unset, .unset, .unset] [(.ref b1)])) _
  refine XS.iconst X1.here hx rfl (hb hby at_8) ?_
  show Steps p.tables e below (T1.setTop (mkF m 9 #[.val (.int p0), .val (.int p1), .val (.int p2), .val (.int p3), .val (.int p4), .val (.int p5), .val (.ref b1), .unset, .unset, .unset, .unset, .unset] [(.int (0 : Int32)), (.ref b1)])) _
  refine XS.iloadN X1.here hx rfl (hb hby at_9) rfl ?_
  show Steps p.tables e below (T1.setTop (mkF m 10 #[.val (.int p0), .val (.int p1), .val (.int p2), .val (.int p3), .val (.int p4), .val (.int p5), .val (.ref b1), .unset, .unset, .unset, .unset, .unset] [(.int p0), (.int (0 : Int32)), (.ref b1)])) _
  refine XS.i2b X1.here hx rfl (hb hby at_10) rfl ?_
  show Steps p.tables e below (T1.setTop (mkF m 11 #[.val (.int p0), .val (.int p1), .val (.int p2), .val (.int p3), .val (.int p4), .val (.int p5), .val (.ref b1), .unset, .unset, .unset, .unset, .unset] [(.int (p0.toInt8.toInt32)), (.int (0 : Int32)), (.ref b1)])) _
  refine st2 _ ?_
  show Steps p.tables e below (T2.setTop (mkF m 12 #[.val (.int p0), .val (.int p1), .val (.int p2), .val (.int p3), .val (.int p4), .val (.int p5), .val (.ref b1), .unset, .unset, .unset, .unset, .unset] [])) _
  refine XS.aload X2.here hx rfl (hb hby at_12) rfl rfl ?_
  show Steps p.tables e below (T2.setTop (mkF m 14 #[.val (.int p0), .val (.int p1), .val (.int p2), .val (.int p3), .val (.int p4), .val (.int p5), .val (.ref b1), .unset, .unset, .unset, .unset, .unset] [(.ref b1)])) _
  refine XS.iconst X2.here hx rfl (hb hby at_14) ?_
  show Steps p.tables e below (T2.setTop (mkF m 15 #[.val (.int p0), .val (.int p1), .val (.int p2), .val (.int p3), .val (.int p4), .val (.int p5), .val (.ref b1), .unset, .unset, .unset, .unset, .unset] [(.int (1 : Int32)), (.ref b1)])) _
  refine XS.iloadN X2.here hx rfl (hb hby at_15) rfl ?_
  show Steps p.tables e below (T2.setTop (mkF m 16 #[.val (.int p0), .val (.int p1), .val (.int p2), .val (.int p3), .val (.int p4), .val (.int p5), .val (.ref b1), .unset, .unset, .unset, .unset, .unset] [(.int p0), (.int (1 : Int32)), (.ref b1)])) _
  refine XS.bipush X2.here hx rfl (hb hby at_16) ?_
  show Steps p.tables e below (T2.setTop (mkF m 18 #[.val (.int p0), .val (.int p1), .val (.int p2), .val (.int p3), .val (.int p4), .val (.int p5), .val (.ref b1), .unset, .unset, .unset, .unset, .unset] [(.int (8 : Int32)), (.int p0), (.int (1 : Int32)), (.ref b1)])) _
  refine XS.iushr X2.here hx rfl (hb hby at_18) rfl ?_
  show Steps p.tables e below (T2.setTop (mkF m 19 #[.val (.int p0), .val (.int p1), .val (.int p2), .val (.int p3), .val (.int p4), .val (.int p5), .val (.ref b1), .unset, .unset, .unset, .unset, .unset] [(.int ((p0.toUInt32 >>> ((8 : Int32) &&& 31).toUInt32).toInt32)), (.int (1 : Int32)), (.ref b1)])) _
  refine XS.i2b X2.here hx rfl (hb hby at_19) rfl ?_
  show Steps p.tables e below (T2.setTop (mkF m 20 #[.val (.int p0), .val (.int p1), .val (.int p2), .val (.int p3), .val (.int p4), .val (.int p5), .val (.ref b1), .unset, .unset, .unset, .unset, .unset] [(.int (((p0.toUInt32 >>> ((8 : Int32) &&& 31).toUInt32).toInt32).toInt8.toInt32)), (.int (1 : Int32)), (.ref b1)])) _
  refine st3 _ ?_
  show Steps p.tables e below (T3.setTop (mkF m 21 #[.val (.int p0), .val (.int p1), .val (.int p2), .val (.int p3), .val (.int p4), .val (.int p5), .val (.ref b1), .unset, .unset, .unset, .unset, .unset] [])) _
  refine XS.aload X3.here hx rfl (hb hby at_21) rfl rfl ?_
  show Steps p.tables e below (T3.setTop (mkF m 23 #[.val (.int p0), .val (.int p1), .val (.int p2), .val (.int p3), .val (.int p4), .val (.int p5), .val (.ref b1), .unset, .unset, .unset, .unset, .unset] [(.ref b1)])) _
  refine XS.iconst X3.here hx rfl (hb hby at_23) ?_
  show Steps p.tables e below (T3.setTop (mkF m 24 #[.val (.int p0), .val (.int p1), .val (.int p2), .val (.int p3), .val (.int p4), .val (.int p5), .val (.ref b1), .unset, .unset, .unset, .unset, .unset] [(.int (2 : Int32)), (.ref b1)])) _
  refine XS.iloadN X3.here hx rfl (hb hby at_24) rfl ?_
  show Steps p.tables e below (T3.setTop (mkF m 25 #[.val (.int p0), .val (.int p1), .val (.int p2), .val (.int p3), .val (.int p4), .val (.int p5), .val (.ref b1), .unset, .unset, .unset, .unset, .unset] [(.int p0), (.int (2 : Int32)), (.ref b1)])) _
  refine XS.bipush X3.here hx rfl (hb hby at_25) ?_
  show Steps p.tables e below (T3.setTop (mkF m 27 #[.val (.int p0), .val (.int p1), .val (.int p2), .val (.int p3), .val (.int p4), .val (.int p5), .val (.ref b1), .unset, .unset, .unset, .unset, .unset] [(.int (16 : Int32)), (.int p0), (.int (2 : Int32)), (.ref b1)])) _
  refine XS.iushr X3.here hx rfl (hb hby at_27) rfl ?_
  show Steps p.tables e below (T3.setTop (mkF m 28 #[.val (.int p0), .val (.int p1), .val (.int p2), .val (.int p3), .val (.int p4), .val (.int p5), .val (.ref b1), .unset, .unset, .unset, .unset, .unset] [(.int ((p0.toUInt32 >>> ((16 : Int32) &&& 31).toUInt32).toInt32)), (.int (2 : Int32)), (.ref b1)])) _
  refine XS.i2b X3.here hx rfl (hb hby at_28) rfl ?_
  show Steps p.tables e below (T3.setTop (mkF m 29 #[.val (.int p0), .val (.int p1), .val (.int p2), .val (.int p3), .val (.int p4), .val (.int p5), .val (.ref b1), .unset, .unset, .unset, .unset, .unset] [(.int (((p0.toUInt32 >>> ((16 : Int32) &&& 31).toUInt32).toInt32).toInt8.toInt32)), (.int (2 : Int32)), (.ref b1)])) _
  refine st4 _ ?_
  show Steps p.tables e below (T4.setTop (mkF m 30 #[.val (.int p0), .val (.int p1), .val (.int p2), .val (.int p3), .val (.int p4), .val (.int p5), .val (.ref b1), .unset, .unset, .unset, .unset, .unset] [])) _
  refine XS.aload X4.here hx rfl (hb hby at_30) rfl rfl ?_
  show Steps p.tables e below (T4.setTop (mkF m 32 #[.val (.int p0), .val (.int p1), .val (.int p2), .val (.int p3), .val (.int p4), .val (.int p5), .val (.ref b1), .unset, .unset, .unset, .unset, .unset] [(.ref b1)])) _
  refine XS.iconst X4.here hx rfl (hb hby at_32) ?_
  show Steps p.tables e below (T4.setTop (mkF m 33 #[.val (.int p0), .val (.int p1), .val (.int p2), .val (.int p3), .val (.int p4), .val (.int p5), .val (.ref b1), .unset, .unset, .unset, .unset, .unset] [(.int (3 : Int32)), (.ref b1)])) _
  refine XS.iloadN X4.here hx rfl (hb hby at_33) rfl ?_
  show Steps p.tables e below (T4.setTop (mkF m 34 #[.val (.int p0), .val (.int p1), .val (.int p2), .val (.int p3), .val (.int p4), .val (.int p5), .val (.ref b1), .unset, .unset, .unset, .unset, .unset] [(.int p0), (.int (3 : Int32)), (.ref b1)])) _
  refine XS.bipush X4.here hx rfl (hb hby at_34) ?_
  show Steps p.tables e below (T4.setTop (mkF m 36 #[.val (.int p0), .val (.int p1), .val (.int p2), .val (.int p3), .val (.int p4), .val (.int p5), .val (.ref b1), .unset, .unset, .unset, .unset, .unset] [(.int (24 : Int32)), (.int p0), (.int (3 : Int32)), (.ref b1)])) _
  refine XS.iushr X4.here hx rfl (hb hby at_36) rfl ?_
  show Steps p.tables e below (T4.setTop (mkF m 37 #[.val (.int p0), .val (.int p1), .val (.int p2), .val (.int p3), .val (.int p4), .val (.int p5), .val (.ref b1), .unset, .unset, .unset, .unset, .unset] [(.int ((p0.toUInt32 >>> ((24 : Int32) &&& 31).toUInt32).toInt32)), (.int (3 : Int32)), (.ref b1)])) _
  refine XS.i2b X4.here hx rfl (hb hby at_37) rfl ?_
  show Steps p.tables e below (T4.setTop (mkF m 38 #[.val (.int p0), .val (.int p1), .val (.int p2), .val (.int p3), .val (.int p4), .val (.int p5), .val (.ref b1), .unset, .unset, .unset, .unset, .unset] [(.int (((p0.toUInt32 >>> ((24 : Int32) &&& 31).toUInt32).toInt32).toInt8.toInt32)), (.int (3 : Int32)), (.ref b1)])) _
  refine st5 _ ?_
  show Steps p.tables e below (T5.setTop (mkF m 39 #[.val (.int p0), .val (.int p1), .val (.int p2), .val (.int p3), .val (.int p4), .val (.int p5), .val (.ref b1), .unset, .unset, .unset, .unset, .unset] [])) _
  refine XS.aload X5.here hx rfl (hb hby at_39) rfl rfl ?_
  show Steps p.tables e below (T5.setTop (mkF m 41 #[.val (.int p0), .val (.int p1), .val (.int p2), .val (.int p3), .val (.int p4), .val (.int p5), .val (.ref b1), .unset, .unset, .unset, .unset, .unset] [(.ref b1)])) _
  refine XS.iconst X5.here hx rfl (hb hby at_41) ?_
  show Steps p.tables e below (T5.setTop (mkF m 42 #[.val (.int p0), .val (.int p1), .val (.int p2), .val (.int p3), .val (.int p4), .val (.int p5), .val (.ref b1), .unset, .unset, .unset, .unset, .unset] [(.int (4 : Int32)), (.ref b1)])) _
  refine XS.iloadN X5.here hx rfl (hb hby at_42) rfl ?_
  show Steps p.tables e below (T5.setTop (mkF m 43 #[.val (.int p0), .val (.int p1), .val (.int p2), .val (.int p3), .val (.int p4), .val (.int p5), .val (.ref b1), .unset, .unset, .unset, .unset, .unset] [(.int p1), (.int (4 : Int32)), (.ref b1)])) _
  refine XS.i2b X5.here hx rfl (hb hby at_43) rfl ?_
  show Steps p.tables e below (T5.setTop (mkF m 44 #[.val (.int p0), .val (.int p1), .val (.int p2), .val (.int p3), .val (.int p4), .val (.int p5), .val (.ref b1), .unset, .unset, .unset, .unset, .unset] [(.int (p1.toInt8.toInt32)), (.int (4 : Int32)), (.ref b1)])) _
  refine st6 _ ?_
  show Steps p.tables e below (T6.setTop (mkF m 45 #[.val (.int p0), .val (.int p1), .val (.int p2), .val (.int p3), .val (.int p4), .val (.int p5), .val (.ref b1), .unset, .unset, .unset, .unset, .unset] [])) _
  refine XS.aload X6.here hx rfl (hb hby at_45) rfl rfl ?_
  show Steps p.tables e below (T6.setTop (mkF m 47 #[.val (.int p0), .val (.int p1), .val (.int p2), .val (.int p3), .val (.int p4), .val (.int p5), .val (.ref b1), .unset, .unset, .unset, .unset, .unset] [(.ref b1)])) _
  refine XS.iconst X6.here hx rfl (hb hby at_47) ?_
  show Steps p.tables e below (T6.setTop (mkF m 48 #[.val (.int p0), .val (.int p1), .val (.int p2), .val (.int p3), .val (.int p4), .val (.int p5), .val (.ref b1), .unset, .unset, .unset, .unset, .unset] [(.int (5 : Int32)), (.ref b1)])) _
  refine XS.iloadN X6.here hx rfl (hb hby at_48) rfl ?_
  show Steps p.tables e below (T6.setTop (mkF m 49 #[.val (.int p0), .val (.int p1), .val (.int p2), .val (.int p3), .val (.int p4), .val (.int p5), .val (.ref b1), .unset, .unset, .unset, .unset, .unset] [(.int p1), (.int (5 : Int32)), (.ref b1)])) _
  refine XS.bipush X6.here hx rfl (hb hby at_49) ?_
  show Steps p.tables e below (T6.setTop (mkF m 51 #[.val (.int p0), .val (.int p1), .val (.int p2), .val (.int p3), .val (.int p4), .val (.int p5), .val (.ref b1), .unset, .unset, .unset, .unset, .unset] [(.int (8 : Int32)), (.int p1), (.int (5 : Int32)), (.ref b1)])) _
  refine XS.iushr X6.here hx rfl (hb hby at_51) rfl ?_
  show Steps p.tables e below (T6.setTop (mkF m 52 #[.val (.int p0), .val (.int p1), .val (.int p2), .val (.int p3), .val (.int p4), .val (.int p5), .val (.ref b1), .unset, .unset, .unset, .unset, .unset] [(.int ((p1.toUInt32 >>> ((8 : Int32) &&& 31).toUInt32).toInt32)), (.int (5 : Int32)), (.ref b1)])) _
  refine XS.i2b X6.here hx rfl (hb hby at_52) rfl ?_
  show Steps p.tables e below (T6.setTop (mkF m 53 #[.val (.int p0), .val (.int p1), .val (.int p2), .val (.int p3), .val (.int p4), .val (.int p5), .val (.ref b1), .unset, .unset, .unset, .unset, .unset] [(.int (((p1.toUInt32 >>> ((8 : Int32) &&& 31).toUInt32).toInt32).toInt8.toInt32)), (.int (5 : Int32)), (.ref b1)])) _
  refine st7 _ ?_
  show Steps p.tables e below (T7.setTop (mkF m 54 #[.val (.int p0), .val (.int p1), .val (.int p2), .val (.int p3), .val (.int p4), .val (.int p5), .val (.ref b1), .unset, .unset, .unset, .unset, .unset] [])) _
  refine XS.aload X7.here hx rfl (hb hby at_54) rfl rfl ?_
  show Steps p.tables e below (T7.setTop (mkF m 56 #[.val (.int p0), .val (.int p1), .val (.int p2), .val (.int p3), .val (.int p4), .val (.int p5), .val (.ref b1), .unset, .unset, .unset, .unset, .unset] [(.ref b1)])) _
  refine XS.bipush X7.here hx rfl (hb hby at_56) ?_
  show Steps p.tables e below (T7.setTop (mkF m 58 #[.val (.int p0), .val (.int p1), .val (.int p2), .val (.int p3), .val (.int p4), .val (.int p5), .val (.ref b1), .unset, .unset, .unset, .unset, .unset] [(.int (6 : Int32)), (.ref b1)])) _
  refine XS.iloadN X7.here hx rfl (hb hby at_58) rfl ?_
  show Steps p.tables e below (T7.setTop (mkF m 59 #[.val (.int p0), .val (.int p1), .val (.int p2), .val (.int p3), .val (.int p4), .val (.int p5), .val (.ref b1), .unset, .unset, .unset, .unset, .unset] [(.int p1), (.int (6 : Int32)), (.ref b1)])) _
  refine XS.bipush X7.here hx rfl (hb hby at_59) ?_
  show Steps p.tables e below (T7.setTop (mkF m 61 #[.val (.int p0), .val (.int p1), .val (.int p2), .val (.int p3), .val (.int p4), .val (.int p5), .val (.ref b1), .unset, .unset, .unset, .unset, .unset] [(.int (16 : Int32)), (.int p1), (.int (6 : Int32)), (.ref b1)])) _
  refine XS.iushr X7.here hx rfl (hb hby at_61) rfl ?_
  show Steps p.tables e below (T7.setTop (mkF m 62 #[.val (.int p0), .val (.int p1), .val (.int p2), .val (.int p3), .val (.int p4), .val (.int p5), .val (.ref b1), .unset, .unset, .unset, .unset, .unset] [(.int ((p1.toUInt32 >>> ((16 : Int32) &&& 31).toUInt32).toInt32)), (.int (6 : Int32)), (.ref b1)])) _
  refine XS.i2b X7.here hx rfl (hb hby at_62) rfl ?_
  show Steps p.tables e below (T7.setTop (mkF m 63 #[.val (.int p0), .val (.int p1), .val (.int p2), .val (.int p3), .val (.int p4), .val (.int p5), .val (.ref b1), .unset, .unset, .unset, .unset, .unset] [(.int (((p1.toUInt32 >>> ((16 : Int32) &&& 31).toUInt32).toInt32).toInt8.toInt32)), (.int (6 : Int32)), (.ref b1)])) _
  refine st8 _ ?_
  show Steps p.tables e below (T8.setTop (mkF m 64 #[.val (.int p0), .val (.int p1), .val (.int p2), .val (.int p3), .val (.int p4), .val (.int p5), .val (.ref b1), .unset, .unset, .unset, .unset, .unset] [])) _
  refine XS.aload X8.here hx rfl (hb hby at_64) rfl rfl ?_
  show Steps p.tables e below (T8.setTop (mkF m 66 #[.val (.int p0), .val (.int p1), .val (.int p2), .val (.int p3), .val (.int p4), .val (.int p5), .val (.ref b1), .unset, .unset, .unset, .unset, .unset] [(.ref b1)])) _
  refine XS.bipush X8.here hx rfl (hb hby at_66) ?_
  show Steps p.tables e below (T8.setTop (mkF m 68 #[.val (.int p0), .val (.int p1), .val (.int p2), .val (.int p3), .val (.int p4), .val (.int p5), .val (.ref b1), .unset, .unset, .unset, .unset, .unset] [(.int (7 : Int32)), (.ref b1)])) _
  refine XS.iloadN X8.here hx rfl (hb hby at_68) rfl ?_
  show Steps p.tables e below (T8.setTop (mkF m 69 #[.val (.int p0), .val (.int p1), .val (.int p2), .val (.int p3), .val (.int p4), .val (.int p5), .val (.ref b1), .unset, .unset, .unset, .unset, .unset] [(.int p1), (.int (7 : Int32)), (.ref b1)])) _
  refine XS.bipush X8.here hx rfl (hb hby at_69) ?_
  show Steps p.tables e below (T8.setTop (mkF m 71 #[.val (.int p0), .val (.int p1), .val (.int p2), .val (.int p3), .val (.int p4), .val (.int p5), .val (.ref b1), .unset, .unset, .unset, .unset, .unset] [(.int (24 : Int32)), (.int p1), (.int (7 : Int32)), (.ref b1)])) _
  refine XS.iushr X8.here hx rfl (hb hby at_71) rfl ?_
  show Steps p.tables e below (T8.setTop (mkF m 72 #[.val (.int p0), .val (.int p1), .val (.int p2), .val (.int p3), .val (.int p4), .val (.int p5), .val (.ref b1), .unset, .unset, .unset, .unset, .unset] [(.int ((p1.toUInt32 >>> ((24 : Int32) &&& 31).toUInt32).toInt32)), (.int (7 : Int32)), (.ref b1)])) _
  refine XS.i2b X8.here hx rfl (hb hby at_72) rfl ?_
  show Steps p.tables e below (T8.setTop (mkF m 73 #[.val (.int p0), .val (.int p1), .val (.int p2), .val (.int p3), .val (.int p4), .val (.int p5), .val (.ref b1), .unset, .unset, .unset, .unset, .unset] [(.int (((p1.toUInt32 >>> ((24 : Int32) &&& 31).toUInt32).toInt32).toInt8.toInt32)), (.int (7 : Int32)), (.ref b1)])) _
  refine st9 _ ?_
  show Steps p.tables e below (T9.setTop (mkF m 74 #[.val (.int p0), .val (.int p1), .val (.int p2), .val (.int p3), .val (.int p4), .val (.int p5), .val (.ref b1), .unset, .unset, .unset, .unset, .unset] [])) _
  refine XS.iloadN X9.here hx rfl (hb hby at_74) rfl ?_
  show Steps p.tables e below (T9.setTop (mkF m 75 #[.val (.int p0), .val (.int p1), .val (.int p2), .val (.int p3), .val (.int p4), .val (.int p5), .val (.ref b1), .unset, .unset, .unset, .unset, .unset] [(.int p2)])) _
  refine X9.ldcI hx hown (mvT hZ (hw _ (List.mem_of_getElem? (i := 1) rfl))) rfl (hb hby at_75) ?_
  show Steps p.tables e below (T9.setTop (mkF m 77 #[.val (.int p0), .val (.int p1), .val (.int p2), .val (.int p3), .val (.int p4), .val (.int p5), .val (.ref b1), .unset, .unset, .unset, .unset, .unset] [(.int (2147483647 : Int32)), (.int p2)])) _
  refine XS.iand X9.here hx rfl (hb hby at_77) rfl ?_
  show Steps p.tables e below (T9.setTop (mkF m 78 #[.val (.int p0), .val (.int p1), .val (.int p2), .val (.int p3), .val (.int p4), .val (.int p5), .val (.ref b1), .unset, .unset, .unset, .unset, .unset] [(.int (p2 &&& (2147483647 : Int32)))])) _
  refine XS.iconst X9.here hx rfl (hb hby at_78) ?_
  show Steps p.tables e below (T9.setTop (mkF m 79 #[.val (.int p0), .val (.int p1), .val (.int p2), .val (.int p3), .val (.int p4), .val (.int p5), .val (.ref b1), .unset, .unset, .unset, .unset, .unset] [(.int (5 : Int32)), (.int (p2 &&& (2147483647 : Int32)))])) _
  refine iremM X9 hx rfl (hb hby at_79) rfl (by decide) ?_
  show Steps p.tables e below (T9.setTop (mkF m 80 #[.val (.int p0), .val (.int p1), .val (.int p2), .val (.int p3), .val (.int p4), .val (.int p5), .val (.ref b1), .unset, .unset, .unset, .unset, .unset] [(.int ((p2 &&& (2147483647 : Int32)) % (5 : Int32)))])) _
  refine XS.istore X9.here hx rfl (hb hby at_80) rfl (l' := #[.val (.int p0), .val (.int p1), .val (.int p2), .val (.int p3), .val (.int p4), .val (.int p5), .val (.ref b1), .val (.int ((p2 &&& (2147483647 : Int32)) % (5 : Int32))), .unset, .unset, .unset, .unset]) rfl ?_
  show Steps p.tables e below (T9.setTop (mkF m 82 #[.val (.int p0), .val (.int p1), .val (.int p2), .val (.int p3), .val (.int p4), .val (.int p5), .val (.ref b1), .val (.int ((p2 &&& (2147483647 : Int32)) % (5 : Int32))), .unset, .unset, .unset, .unset] [])) _
  rw [h_of]
  show Steps p.tables e below (T9.setTop (mkF m 82 #[.val (.int p0), .val (.int p1), .val (.int p2), .val (.int p3), .val (.int p4), .val (.int p5), .val (.ref b1), .val (.int of), .unset, .unset, .unset, .unset] [])) _
  refine XS.iloadN X9.here hx rfl (hb hby at_82) rfl ?_
  show Steps p.tables e below (T9.setTop (mkF m 83 #[.val (.int p0), .val (.int p1), .val (.int p2), .val (.int p3), .val (.int p4), .val (.int p5), .val (.ref b1), .val (.int of), .unset, .unset, .unset, .unset] [(.int p3)])) _
  refine X9.ldcI hx hown (mvT hZ (hw _ (List.mem_of_getElem? (i := 1) rfl))) rfl (hb hby at_83) ?_
  show Steps p.tables e below (T9.setTop (mkF m 85 #[.val (.int p0), .val (.int p1), .val (.int p2), .val (.int p3), .val (.int p4), .val (.int p5), .val (.ref b1), .val (.int of), .unset, .unset, .unset, .unset] [(.int (2147483647 : Int32)), (.int p3)])) _
  refine XS.iand X9.here hx rfl (hb hby at_85) rfl ?_
  show Steps p.tables e below (T9.setTop (mkF m 86 #[.val (.int p0), .val (.int p1), .val (.int p2), .val (.int p3), .val (.int p4), .val (.int p5), .val (.ref b1), .val (.int of), .unset, .unset, .unset, .unset] [(.int (p3 &&& (2147483647 : Int32)))])) _
  refine XS.bipush X9.here hx rfl (hb hby at_86) ?_
  show Steps p.tables e below (T9.setTop (mkF m 88 #[.val (.int p0), .val (.int p1), .val (.int p2), .val (.int p3), .val (.int p4), .val (.int p5), .val (.ref b1), .val (.int of), .unset, .unset, .unset, .unset] [(.int (17 : Int32)), (.int (p3 &&& (2147483647 : Int32)))])) _
  refine iremM X9 hx rfl (hb hby at_88) rfl (by decide) ?_
  show Steps p.tables e below (T9.setTop (mkF m 89 #[.val (.int p0), .val (.int p1), .val (.int p2), .val (.int p3), .val (.int p4), .val (.int p5), .val (.ref b1), .val (.int of), .unset, .unset, .unset, .unset] [(.int ((p3 &&& (2147483647 : Int32)) % (17 : Int32)))])) _
  refine XS.istore X9.here hx rfl (hb hby at_89) rfl (l' := #[.val (.int p0), .val (.int p1), .val (.int p2), .val (.int p3), .val (.int p4), .val (.int p5), .val (.ref b1), .val (.int of), .val (.int ((p3 &&& (2147483647 : Int32)) % (17 : Int32))), .unset, .unset, .unset]) rfl ?_
  show Steps p.tables e below (T9.setTop (mkF m 91 #[.val (.int p0), .val (.int p1), .val (.int p2), .val (.int p3), .val (.int p4), .val (.int p5), .val (.ref b1), .val (.int of), .val (.int ((p3 &&& (2147483647 : Int32)) % (17 : Int32))), .unset, .unset, .unset] [])) _
  rw [h_k1]
  show Steps p.tables e below (T9.setTop (mkF m 91 #[.val (.int p0), .val (.int p1), .val (.int p2), .val (.int p3), .val (.int p4), .val (.int p5), .val (.ref b1), .val (.int of), .val (.int k1), .unset, .unset, .unset] [])) _
  refine XS.iload X9.here hx rfl (hb hby at_91) rfl ?_
  show Steps p.tables e below (T9.setTop (mkF m 93 #[.val (.int p0), .val (.int p1), .val (.int p2), .val (.int p3), .val (.int p4), .val (.int p5), .val (.ref b1), .val (.int of), .val (.int k1), .unset, .unset, .unset] [(.int p4)])) _
  refine X9.ldcI hx hown (mvT hZ (hw _ (List.mem_of_getElem? (i := 1) rfl))) rfl (hb hby at_93) ?_
  show Steps p.tables e below (T9.setTop (mkF m 95 #[.val (.int p0), .val (.int p1), .val (.int p2), .val (.int p3), .val (.int p4), .val (.int p5), .val (.ref b1), .val (.int of), .val (.int k1), .unset, .unset, .unset] [(.int (2147483647 : Int32)), (.int p4)])) _
  refine XS.iand X9.here hx rfl (hb hby at_95) rfl ?_
  show Steps p.tables e below (T9.setTop (mkF m 96 #[.val (.int p0), .val (.int p1), .val (.int p2), .val (.int p3), .val (.int p4), .val (.int p5), .val (.ref b1), .val (.int of), .val (.int k1), .unset, .unset, .unset] [(.int (p4 &&& (2147483647 : Int32)))])) _
  refine XS.bipush X9.here hx rfl (hb hby at_96) ?_
  show Steps p.tables e below (T9.setTop (mkF m 98 #[.val (.int p0), .val (.int p1), .val (.int p2), .val (.int p3), .val (.int p4), .val (.int p5), .val (.ref b1), .val (.int of), .val (.int k1), .unset, .unset, .unset] [(.int (17 : Int32)), (.int (p4 &&& (2147483647 : Int32)))])) _
  refine iremM X9 hx rfl (hb hby at_98) rfl (by decide) ?_
  show Steps p.tables e below (T9.setTop (mkF m 99 #[.val (.int p0), .val (.int p1), .val (.int p2), .val (.int p3), .val (.int p4), .val (.int p5), .val (.ref b1), .val (.int of), .val (.int k1), .unset, .unset, .unset] [(.int ((p4 &&& (2147483647 : Int32)) % (17 : Int32)))])) _
  refine XS.istore X9.here hx rfl (hb hby at_99) rfl (l' := #[.val (.int p0), .val (.int p1), .val (.int p2), .val (.int p3), .val (.int p4), .val (.int p5), .val (.ref b1), .val (.int of), .val (.int k1), .val (.int ((p4 &&& (2147483647 : Int32)) % (17 : Int32))), .unset, .unset]) rfl ?_
  show Steps p.tables e below (T9.setTop (mkF m 101 #[.val (.int p0), .val (.int p1), .val (.int p2), .val (.int p3), .val (.int p4), .val (.int p5), .val (.ref b1), .val (.int of), .val (.int k1), .val (.int ((p4 &&& (2147483647 : Int32)) % (17 : Int32))), .unset, .unset] [])) _
  rw [h_k2]
  show Steps p.tables e below (T9.setTop (mkF m 101 #[.val (.int p0), .val (.int p1), .val (.int p2), .val (.int p3), .val (.int p4), .val (.int p5), .val (.ref b1), .val (.int of), .val (.int k1), .val (.int k2), .unset, .unset] [])) _
  refine st10 _ ?_
  show Steps p.tables e below (T10.setTop (mkF m 104 #[.val (.int p0), .val (.int p1), .val (.int p2), .val (.int p3), .val (.int p4), .val (.int p5), .val (.ref b1), .val (.int of), .val (.int k1), .val (.int k2), .unset, .unset] [(.ref b10)])) _
  refine XS.dup X10.here hx rfl (hb hby at_104) rfl rfl ?_
  show Steps p.tables e below (T10.setTop (mkF m 105 #[.val (.int p0), .val (.int p1), .val (.int p2), .val (.int p3), .val (.int p4), .val (.int p5), .val (.ref b1), .val (.int of), .val (.int k1), .val (.int k2), .unset, .unset] [(.ref b10), (.ref b10)])) _
  refine XS.aload X10.here hx rfl (hb hby at_105) rfl rfl ?_
  show Steps p.tables e below (T10.setTop (mkF m 107 #[.val (.int p0), .val (.int p1), .val (.int p2), .val (.int p3), .val (.int p4), .val (.int p5), .val (.ref b1), .val (.int of), .val (.int k1), .val (.int k2), .unset, .unset] [(.ref b1), (.ref b10), (.ref b10)])) _
  refine XS.iload X10.here hx rfl (hb hby at_107) rfl ?_
  show Steps p.tables e below (T10.setTop (mkF m 109 #[.val (.int p0), .val (.int p1), .val (.int p2), .val (.int p3), .val (.int p4), .val (.int p5), .val (.ref b1), .val (.int of), .val (.int k1), .val (.int k2), .unset, .unset] [(.int of), (.ref b1), (.ref b10), (.ref b10)])) _
  refine st12.trans ?_
  show Steps p.tables e below (T12.setTop (mkF m 112 #[.val (.int p0), .val (.int p1), .val (.int p2), .val (.int p3), .val (.int p4), .val (.int p5), .val (.ref b1), .val (.int of), .val (.int k1), .val (.int k2), .unset, .unset] [(.ref b10)])) _
  refine XS.astore X12.here hx rfl (hb hby at_112) rfl rfl (l' := #[.val (.int p0), .val (.int p1), .val (.int p2), .val (.int p3), .val (.int p4), .val (.int p5), .val (.ref b1), .val (.int of), .val (.int k1), .val (.int k2), .val (.ref b10), .unset]) rfl ?_
  show Steps p.tables e below (T12.setTop (mkF m 114 #[.val (.int p0), .val (.int p1), .val (.int p2), .val (.int p3), .val (.int p4), .val (.int p5), .val (.ref b1), .val (.int of), .val (.int k1), .val (.int k2), .val (.ref b10), .unset] [])) _
  refine XS.aload X12.here hx rfl (hb hby at_114) rfl rfl ?_
  show Steps p.tables e below (T12.setTop (mkF m 116 #[.val (.int p0), .val (.int p1), .val (.int p2), .val (.int p3), .val (.int p4), .val (.int p5), .val (.ref b1), .val (.int of), .val (.int k1), .val (.int k2), .val (.ref b10), .unset] [(.ref b10)])) _
  refine XS.iload X12.here hx rfl (hb hby at_116) rfl ?_
  show Steps p.tables e below (T12.setTop (mkF m 118 #[.val (.int p0), .val (.int p1), .val (.int p2), .val (.int p3), .val (.int p4), .val (.int p5), .val (.ref b1), .val (.int of), .val (.int k1), .val (.int k2), .val (.ref b10), .unset] [(.int k1), (.ref b10)])) _
  refine st14.trans ?_
  show Steps p.tables e below (T14.setTop (mkF m 121 #[.val (.int p0), .val (.int p1), .val (.int p2), .val (.int p3), .val (.int p4), .val (.int p5), .val (.ref b1), .val (.int of), .val (.int k1), .val (.int k2), .val (.ref b10), .unset] [(.int ra)])) _
  refine XS.pop X14.here hx rfl (hb hby at_121) rfl rfl ?_
  show Steps p.tables e below (T14.setTop (mkF m 122 #[.val (.int p0), .val (.int p1), .val (.int p2), .val (.int p3), .val (.int p4), .val (.int p5), .val (.ref b1), .val (.int of), .val (.int k1), .val (.int k2), .val (.ref b10), .unset] [])) _
  refine XS.aload X14.here hx rfl (hb hby at_122) rfl rfl ?_
  show Steps p.tables e below (T14.setTop (mkF m 124 #[.val (.int p0), .val (.int p1), .val (.int p2), .val (.int p3), .val (.int p4), .val (.int p5), .val (.ref b1), .val (.int of), .val (.int k1), .val (.int k2), .val (.ref b10), .unset] [(.ref b10)])) _
  refine XS.iload X14.here hx rfl (hb hby at_124) rfl ?_
  show Steps p.tables e below (T14.setTop (mkF m 126 #[.val (.int p0), .val (.int p1), .val (.int p2), .val (.int p3), .val (.int p4), .val (.int p5), .val (.ref b1), .val (.int of), .val (.int k1), .val (.int k2), .val (.ref b10), .unset] [(.int k2), (.ref b10)])) _
  refine st16.trans ?_
  show Steps p.tables e below (T16.setTop (mkF m 129 #[.val (.int p0), .val (.int p1), .val (.int p2), .val (.int p3), .val (.int p4), .val (.int p5), .val (.ref b1), .val (.int of), .val (.int k1), .val (.int k2), .val (.ref b10), .unset] [(.int rb)])) _
  refine XS.pop X16.here hx rfl (hb hby at_129) rfl rfl ?_
  show Steps p.tables e below (T16.setTop (mkF m 130 #[.val (.int p0), .val (.int p1), .val (.int p2), .val (.int p3), .val (.int p4), .val (.int p5), .val (.ref b1), .val (.int of), .val (.int k1), .val (.int k2), .val (.ref b10), .unset] [])) _
  refine XS.aload X16.here hx rfl (hb hby at_130) rfl rfl ?_
  show Steps p.tables e below (T16.setTop (mkF m 132 #[.val (.int p0), .val (.int p1), .val (.int p2), .val (.int p3), .val (.int p4), .val (.int p5), .val (.ref b1), .val (.int of), .val (.int k1), .val (.int k2), .val (.ref b10), .unset] [(.ref b10)])) _
  refine st18.trans ?_
  show Steps p.tables e below (T18.setTop (mkF m 135 #[.val (.int p0), .val (.int p1), .val (.int p2), .val (.int p3), .val (.int p4), .val (.int p5), .val (.ref b1), .val (.int of), .val (.int k1), .val (.int k2), .val (.ref b10), .unset] [])) _
  refine XS.iload X18.here hx rfl (hb hby at_135) rfl ?_
  show Steps p.tables e below (T18.setTop (mkF m 137 #[.val (.int p0), .val (.int p1), .val (.int p2), .val (.int p3), .val (.int p4), .val (.int p5), .val (.ref b1), .val (.int of), .val (.int k1), .val (.int k2), .val (.ref b10), .unset] [(.int p5)])) _
  refine XS.iconst X18.here hx rfl (hb hby at_137) ?_
  show Steps p.tables e below (T18.setTop (mkF m 138 #[.val (.int p0), .val (.int p1), .val (.int p2), .val (.int p3), .val (.int p4), .val (.int p5), .val (.ref b1), .val (.int of), .val (.int k1), .val (.int k2), .val (.ref b10), .unset] [(.int (1 : Int32)), (.int p5)])) _
  refine XS.iand X18.here hx rfl (hb hby at_138) rfl ?_
  show Steps p.tables e below (T18.setTop (mkF m 139 #[.val (.int p0), .val (.int p1), .val (.int p2), .val (.int p3), .val (.int p4), .val (.int p5), .val (.ref b1), .val (.int of), .val (.int k1), .val (.int k2), .val (.ref b10), .unset] [(.int (p5 &&& (1 : Int32)))])) _
  refine XS.ifNo X18.here hx rfl (hb hby at_139) rfl ((if0 _ _).trans (feq hs).1) ?_
  show Steps p.tables e below (T18.setTop (mkF m 142 #[.val (.int p0), .val (.int p1), .val (.int p2), .val (.int p3), .val (.int p4), .val (.int p5), .val (.ref b1), .val (.int of), .val (.int k1), .val (.int k2), .val (.ref b10), .unset] [])) _
  refine XS.aload X18.here hx rfl (hb hby at_142) rfl rfl ?_
  show Steps p.tables e below (T18.setTop (mkF m 144 #[.val (.int p0), .val (.int p1), .val (.int p2), .val (.int p3), .val (.int p4), .val (.int p5), .val (.ref b1), .val (.int of), .val (.int k1), .val (.int k2), .val (.ref b10), .unset] [(.ref b10)])) _
  refine st20.trans ?_
  show Steps p.tables e below (T20.setTop (mkF m 147 #[.val (.int p0), .val (.int p1), .val (.int p2), .val (.int p3), .val (.int p4), .val (.int p5), .val (.ref b1), .val (.int of), .val (.int k1), .val (.int k2), .val (.ref b10), .unset] [])) _
  refine XS.iload X20.here hx rfl (hb hby at_147) rfl ?_
  show Steps p.tables e below (T20.setTop (mkF m 149 #[.val (.int p0), .val (.int p1), .val (.int p2), .val (.int p3), .val (.int p4), .val (.int p5), .val (.ref b1), .val (.int of), .val (.int k1), .val (.int k2), .val (.ref b10), .unset] [(.int of)])) _
  refine XS.iload X20.here hx rfl (hb hby at_149) rfl ?_
  show Steps p.tables e below (T20.setTop (mkF m 151 #[.val (.int p0), .val (.int p1), .val (.int p2), .val (.int p3), .val (.int p4), .val (.int p5), .val (.ref b1), .val (.int of), .val (.int k1), .val (.int k2), .val (.ref b10), .unset] [(.int k1), (.int of)])) _
  refine XS.iload X20.here hx rfl (hb hby at_151) rfl ?_
  show Steps p.tables e below (T20.setTop (mkF m 153 #[.val (.int p0), .val (.int p1), .val (.int p2), .val (.int p3), .val (.int p4), .val (.int p5), .val (.ref b1), .val (.int of), .val (.int k1), .val (.int k2), .val (.ref b10), .unset] [(.int k2), (.int k1), (.int of)])) _
  refine XS.iadd X20.here hx rfl (hb hby at_153) rfl ?_
  show Steps p.tables e below (T20.setTop (mkF m 154 #[.val (.int p0), .val (.int p1), .val (.int p2), .val (.int p3), .val (.int p4), .val (.int p5), .val (.ref b1), .val (.int of), .val (.int k1), .val (.int k2), .val (.ref b10), .unset] [(.int (k1 + k2)), (.int of)])) _
  refine XS.bipush X20.here hx rfl (hb hby at_154) ?_
  show Steps p.tables e below (T20.setTop (mkF m 156 #[.val (.int p0), .val (.int p1), .val (.int p2), .val (.int p3), .val (.int p4), .val (.int p5), .val (.ref b1), .val (.int of), .val (.int k1), .val (.int k2), .val (.ref b10), .unset] [(.int (7 : Int32)), (.int (k1 + k2)), (.int of)])) _
  refine XS.iadd X20.here hx rfl (hb hby at_156) rfl ?_
  show Steps p.tables e below (T20.setTop (mkF m 157 #[.val (.int p0), .val (.int p1), .val (.int p2), .val (.int p3), .val (.int p4), .val (.int p5), .val (.ref b1), .val (.int of), .val (.int k1), .val (.int k2), .val (.ref b10), .unset] [(.int ((k1 + k2) + (7 : Int32))), (.int of)])) _
  refine XS.bipush X20.here hx rfl (hb hby at_157) ?_
  show Steps p.tables e below (T20.setTop (mkF m 159 #[.val (.int p0), .val (.int p1), .val (.int p2), .val (.int p3), .val (.int p4), .val (.int p5), .val (.ref b1), .val (.int of), .val (.int k1), .val (.int k2), .val (.ref b10), .unset] [(.int (8 : Int32)), (.int ((k1 + k2) + (7 : Int32))), (.int of)])) _
  refine XS.idiv X20.here hx rfl (hb hby at_159) rfl (by decide) ?_
  show Steps p.tables e below (T20.setTop (mkF m 160 #[.val (.int p0), .val (.int p1), .val (.int p2), .val (.int p3), .val (.int p4), .val (.int p5), .val (.ref b1), .val (.int of), .val (.int k1), .val (.int k2), .val (.ref b10), .unset] [(.int (((k1 + k2) + (7 : Int32)) / (8 : Int32))), (.int of)])) _
  refine XS.iadd X20.here hx rfl (hb hby at_160) rfl ?_
  show Steps p.tables e below (T20.setTop (mkF m 161 #[.val (.int p0), .val (.int p1), .val (.int p2), .val (.int p3), .val (.int p4), .val (.int p5), .val (.ref b1), .val (.int of), .val (.int k1), .val (.int k2), .val (.ref b10), .unset] [(.int (of + (((k1 + k2) + (7 : Int32)) / (8 : Int32))))])) _
  refine XS.istore X20.here hx rfl (hb hby at_161) rfl (l' := #[.val (.int p0), .val (.int p1), .val (.int p2), .val (.int p3), .val (.int p4), .val (.int p5), .val (.ref b1), .val (.int of), .val (.int k1), .val (.int k2), .val (.ref b10), .val (.int (of + (((k1 + k2) + (7 : Int32)) / (8 : Int32))))]) rfl ?_
  show Steps p.tables e below (T20.setTop (mkF m 163 #[.val (.int p0), .val (.int p1), .val (.int p2), .val (.int p3), .val (.int p4), .val (.int p5), .val (.ref b1), .val (.int of), .val (.int k1), .val (.int k2), .val (.ref b10), .val (.int (of + (((k1 + k2) + (7 : Int32)) / (8 : Int32))))] [])) _
  rw [h_ps]
  show Steps p.tables e below (T20.setTop (mkF m 163 #[.val (.int p0), .val (.int p1), .val (.int p2), .val (.int p3), .val (.int p4), .val (.int p5), .val (.ref b1), .val (.int of), .val (.int k1), .val (.int k2), .val (.ref b10), .val (.int ps)] [])) _
  refine XS.aload X20.here hx rfl (hb hby at_163) rfl rfl ?_
  show Steps p.tables e below (T20.setTop (mkF m 165 #[.val (.int p0), .val (.int p1), .val (.int p2), .val (.int p3), .val (.int p4), .val (.int p5), .val (.ref b1), .val (.int of), .val (.int k1), .val (.int k2), .val (.ref b10), .val (.int ps)] [(.ref b10)])) _
  refine st22.trans ?_
  show Steps p.tables e below (T22.setTop (mkF m 168 #[.val (.int p0), .val (.int p1), .val (.int p2), .val (.int p3), .val (.int p4), .val (.int p5), .val (.ref b1), .val (.int of), .val (.int k1), .val (.int k2), .val (.ref b10), .val (.int ps)] [(.int bp)])) _
  refine XS.iload X22.here hx rfl (hb hby at_168) rfl ?_
  show Steps p.tables e below (T22.setTop (mkF m 170 #[.val (.int p0), .val (.int p1), .val (.int p2), .val (.int p3), .val (.int p4), .val (.int p5), .val (.ref b1), .val (.int of), .val (.int k1), .val (.int k2), .val (.ref b10), .val (.int ps)] [(.int ps), (.int bp)])) _
  refine XS.icmpYes X22.here hx rfl (pc0 := 170) (pc' := 175) rfl (hb hby at_170) rfl (teq hbp).1 (by decide) (by decide) ?_
  show Steps p.tables e below (T22.setTop (mkF m 175 #[.val (.int p0), .val (.int p1), .val (.int p2), .val (.int p3), .val (.int p4), .val (.int p5), .val (.ref b1), .val (.int of), .val (.int k1), .val (.int k2), .val (.ref b10), .val (.int ps)] [])) _
  refine XS.iload X22.here hx rfl (hb hby at_175) rfl ?_
  show Steps p.tables e below (T22.setTop (mkF m 177 #[.val (.int p0), .val (.int p1), .val (.int p2), .val (.int p3), .val (.int p4), .val (.int p5), .val (.ref b1), .val (.int of), .val (.int k1), .val (.int k2), .val (.ref b10), .val (.int ps)] [(.int ps)])) _
  refine XS.bipush X22.here hx rfl (hb hby at_177) ?_
  show Steps p.tables e below (T22.setTop (mkF m 179 #[.val (.int p0), .val (.int p1), .val (.int p2), .val (.int p3), .val (.int p4), .val (.int p5), .val (.ref b1), .val (.int of), .val (.int k1), .val (.int k2), .val (.ref b10), .val (.int ps)] [(.int (8 : Int32)), (.int ps)])) _
  refine XS.icmpYes X22.here hx rfl (pc0 := 179) (pc' := 184) rfl (hb hby at_179) rfl (tlt hfar).1 (by decide) (by decide) ?_
  show Steps p.tables e below (T22.setTop (mkF m 184 #[.val (.int p0), .val (.int p1), .val (.int p2), .val (.int p3), .val (.int p4), .val (.int p5), .val (.ref b1), .val (.int of), .val (.int k1), .val (.int k2), .val (.ref b10), .val (.int ps)] [])) _
  refine XS.aload X22.here hx rfl (hb hby at_184) rfl rfl ?_
  show Steps p.tables e below (T22.setTop (mkF m 186 #[.val (.int p0), .val (.int p1), .val (.int p2), .val (.int p3), .val (.int p4), .val (.int p5), .val (.ref b1), .val (.int of), .val (.int k1), .val (.int k2), .val (.ref b10), .val (.int ps)] [(.ref b10)])) _
  refine XS.bipush X22.here hx rfl (hb hby at_186) ?_
  show Steps p.tables e below (T22.setTop (mkF m 188 #[.val (.int p0), .val (.int p1), .val (.int p2), .val (.int p3), .val (.int p4), .val (.int p5), .val (.ref b1), .val (.int of), .val (.int k1), .val (.int k2), .val (.ref b10), .val (.int ps)] [(.int (8 : Int32)), (.ref b10)])) _
  refine st24.trans ?_
  show Steps p.tables e below (T24.setTop (mkF m 191 #[.val (.int p0), .val (.int p1), .val (.int p2), .val (.int p3), .val (.int p4), .val (.int p5), .val (.ref b1), .val (.int of), .val (.int k1), .val (.int k2), .val (.ref b10), .val (.int ps)] [(.int rc)])) _
  refine XS.aload X24.here hx rfl (hb hby at_191) rfl rfl ?_
  show Steps p.tables e below (T24.setTop (mkF m 193 #[.val (.int p0), .val (.int p1), .val (.int p2), .val (.int p3), .val (.int p4), .val (.int p5), .val (.ref b1), .val (.int of), .val (.int k1), .val (.int k2), .val (.ref b10), .val (.int ps)] [(.ref b1), (.int rc)])) _
  refine XS.iload X24.here hx rfl (hb hby at_193) rfl ?_
  show Steps p.tables e below (T24.setTop (mkF m 195 #[.val (.int p0), .val (.int p1), .val (.int p2), .val (.int p3), .val (.int p4), .val (.int p5), .val (.ref b1), .val (.int of), .val (.int k1), .val (.int k2), .val (.ref b10), .val (.int ps)] [(.int ps), (.ref b1), (.int rc)])) _
  refine own_ldB X24 hx hZ rfl Aq24 (j := ps) hin rfl rfl (hb hby at_195) ?_
  show Steps p.tables e below (T24.setTop (mkF m 196 #[.val (.int p0), .val (.int p1), .val (.int p2), .val (.int p3), .val (.int p4), .val (.int p5), .val (.ref b1), .val (.int of), .val (.int k1), .val (.int k2), .val (.ref b10), .val (.int ps)] [(.int (f (ps).toNatClampNeg)), (.int rc)])) _
  refine XS.sipush X24.here hx rfl (hb hby at_196) ?_
  show Steps p.tables e below (T24.setTop (mkF m 199 #[.val (.int p0), .val (.int p1), .val (.int p2), .val (.int p3), .val (.int p4), .val (.int p5), .val (.ref b1), .val (.int of), .val (.int k1), .val (.int k2), .val (.ref b10), .val (.int ps)] [(.int (255 : Int32)), (.int (f (ps).toNatClampNeg)), (.int rc)])) _
  refine XS.iand X24.here hx rfl (hb hby at_199) rfl ?_
  show Steps p.tables e below (T24.setTop (mkF m 200 #[.val (.int p0), .val (.int p1), .val (.int p2), .val (.int p3), .val (.int p4), .val (.int p5), .val (.ref b1), .val (.int of), .val (.int k1), .val (.int k2), .val (.ref b10), .val (.int ps)] [(.int ((f (ps).toNatClampNeg) &&& (255 : Int32))), (.int rc)])) _
  refine XS.icmpNo X24.here hx rfl (hb hby at_200) rfl (teq hfin).2 ?_
  show Steps p.tables e below (T24.setTop (mkF m 203 #[.val (.int p0), .val (.int p1), .val (.int p2), .val (.int p3), .val (.int p4), .val (.int p5), .val (.ref b1), .val (.int of), .val (.int k1), .val (.int k2), .val (.ref b10), .val (.int ps)] [])) _
  refine XS.iconst X24.here hx rfl (hb hby at_203) ?_
  show Steps p.tables e below (T24.setTop (mkF m 204 #[.val (.int p0), .val (.int p1), .val (.int p2), .val (.int p3), .val (.int p4), .val (.int p5), .val (.ref b1), .val (.int of), .val (.int k1), .val (.int k2), .val (.ref b10), .val (.int ps)] [(.int (1 : Int32))])) _
  refine XS.goto X24.here hx rfl (pc0 := 204) (pc' := 208) rfl (hb hby at_204) (by decide) (by decide) ?_
  show Steps p.tables e below (T24.setTop (mkF m 208 #[.val (.int p0), .val (.int p1), .val (.int p2), .val (.int p3), .val (.int p4), .val (.int p5), .val (.ref b1), .val (.int of), .val (.int k1), .val (.int k2), .val (.ref b10), .val (.int ps)] [(.int (1 : Int32))])) _
  exact retN X24 hx (t := .boolean) Bd.returns (by simp) (hb hby at_208) hr
def Q011 (Z : State) (p0 : Int32) (p1 : Int32) (p2 : Int32) (p3 : Int32) (p4 : Int32) (p5 : Int32) (of : Int32) (k1 : Int32) (k2 : Int32) (ps : Int32) (f : Nat → Int32) (h0 : Heap) (n0 : Nat) (v : Option Value) (h : Heap) (L : List Loc) : Prop := v = some (.int (1 : Int32)) ∧ Fr n0 L
set_option maxRecDepth 65536 in
set_option maxHeartbeats 40000000 in
theorem rm011 (l : Launch) (Z : State) (a0 : Array Value) (hw : ∀ d ∈ tables_1, d.before a0 Z = true) (ws : List Jvm.Cond) (p0 : Int32) (p1 : Int32) (p2 : Int32) (p3 : Int32) (p4 : Int32) (p5 : Int32) (of : Int32) (k1 : Int32) (k2 : Int32) (ps : Int32) (f : Nat → Int32) (h0 : Heap) (n0 : Nat) (Z0 : n0 ≤ h0.size) (h_of : ((p2 &&& (2147483647 : Int32)) % (5 : Int32)) = of) (h_k1 : ((p3 &&& (2147483647 : Int32)) % (17 : Int32)) = k1) (h_k2 : ((p4 &&& (2147483647 : Int32)) % (17 : Int32)) = k2) (h_ps : (of + (((k1 + k2) + (7 : Int32)) / (8 : Int32))) = ps) (hf : (own_up (own_up (own_up (own_up (own_up (own_up (own_up (own_up (fun _ => 0) 0 ((p0.toInt8.toInt32)).toInt8.toInt32) 1 ((((p0.toUInt32 >>> ((8 : Int32) &&& 31).toUInt32).toInt32).toInt8.toInt32)).toInt8.toInt32) 2 ((((p0.toUInt32 >>> ((16 : Int32) &&& 31).toUInt32).toInt32).toInt8.toInt32)).toInt8.toInt32) 3 ((((p0.toUInt32 >>> ((24 : Int32) &&& 31).toUInt32).toInt32).toInt8.toInt32)).toInt8.toInt32) 4 ((p1.toInt8.toInt32)).toInt8.toInt32) 5 ((((p1.toUInt32 >>> ((8 : Int32) &&& 31).toUInt32).toInt32).toInt8.toInt32)).toInt8.toInt32) 6 ((((p1.toUInt32 >>> ((16 : Int32) &&& 31).toUInt32).toInt32).toInt8.toInt32)).toInt8.toInt32) 7 ((((p1.toUInt32 >>> ((24 : Int32) &&& 31).toUInt32).toInt32).toInt8.toInt32)).toInt8.toInt32) = f) (hs : ¬ (p5 &&& (1 : Int32)) = (0 : Int32)) (hfar : ¬ ps < (8 : Int32)) :
    MetFree l x (head1 (Jvm.Cond.code x code maxLocals ret :: ws) room_1) (fun a_ U_ => a_ = #[(.int p0), (.int p1), (.int p2), (.int p3), (.int p4), (.int p5)] ∧ Z.Warmed39 U_.vm ∧ U_.heap = h0) (fun _ _ _ _ _ => True) (fun _ U_ o_ U' => ∃ v_ L_, o_ = .returned v_ ∧ (Q011 Z p0 p1 p2 p3 p4 p5 of k1 k2 ps f h0 n0 v_ U'.heap L_) ∧ FrameEnd U_ o_ U' L_ room_1.cells room_1.slots) := by
  refine MetFree.of_bodySF (plainFor_of_name pn_0) hisR ?_
  intro p e s m args below meth c s₁ Bd hml0 hP hK
  obtain ⟨rfl, hZ, hh⟩ := hP
  have hx := Bd.exec
  have hby := Bd.bytes
  have hml : c.maxLocals = 12 := hml0
  have hown : s.vm.findClass "com/example/fewbits/fewbits/deflate/DeflateBitReaderAlignToBytePinLaw" = some m.cls := findClass_of_methodNamed Bd.named
  have hnm := (name_of_methodNamed Bd.named Bd.method).1
  have X0 : Stand p l e room_1 s m #[(.int p0), (.int p1), (.int p2), (.int p3), (.int p4), (.int p5)] below meth c s₁ [] 0 0 := Stand.of_body Bd
  have e0 : s₁.heap = h0 := by rw [← hh, Bd.state]; rfl
  have N0 := Fr.nil n0
  have pre0 : ∀ t, Steps p.tables e below (s₁.setTop (mkF m 0 #[.val (.int p0), .val (.int p1), .val (.int p2), .val (.int p3), .val (.int p4), .val (.int p5), .unset, .unset, .unset, .unset, .unset, .unset] [])) t → Steps p.tables e below (s₁.setTop (entryFrame m #[(.int p0), (.int p1), (.int p2), (.int p3), (.int p4), (.int p5)] maxLocals)) t := fun t k => castTop (ef_0 m p0 p1 p2 p3 p4 p5) k
  obtain ⟨T1, h1, X1, e1, E1, A1, st1⟩ := own_newI X0 hx hZ (hw _ (List.mem_of_getElem? (i := 0) rfl)) rfl e0 (g := (mkF m 2 #[.val (.int p0), .val (.int p1), .val (.int p2), .val (.int p3), .val (.int p4), .val (.int p5), .unset, .unset, .unset, .unset, .unset, .unset] [(.int (8 : Int32))])) rfl (hb hby at_2) rfl (by decide) (cap := 8) (by decide) (by decide) (by decide) (by decide)
  obtain ⟨b1, g1⟩ : ∃ z, z = h0.size := ⟨_, rfl⟩
  rw [← g1] at A1 st1
  have f_b1 : n0 ≤ b1 := Nat.le_trans Z0 (Nat.le_of_eq g1.symm)
  have s_b1 : h0.size ≤ b1 := Nat.le_trans (Keep.refl h0 []).1 (Nat.le_of_eq g1.symm)
  have K1 : Keep h0 h1 [] := (Keep.refl h0 []).ext E1
  have Z1 : n0 ≤ h1.size := Nat.le_trans Z0 E1.1
  obtain ⟨T2, h2, X2, e2, W2, A2, st2⟩ := own_stB X1 hx hZ e1 A1 (j := (0 : Int32)) ⟨by decide, by decide⟩ (g := (mkF m 11 #[.val (.int p0), .val (.int p1), .val (.int p2), .val (.int p3), .val (.int p4), .val (.int p5), .val (.ref b1), .unset, .unset, .unset, .unset, .unset] [(.int (p0.toInt8.toInt32)), (.int (0 : Int32)), (.ref b1)])) rfl rfl (hb hby at_11)
  have N2 := Fr.snoc X2 N0 f_b1
  have K2 : Keep h0 h2 [] := K1.wr W2 (Or.inr s_b1)
  have Z2 : n0 ≤ h2.size := Nat.le_trans Z1 (Nat.le_of_eq (W2.size).symm)
  obtain ⟨T3, h3, X3, e3, W3, A3, st3⟩ := own_stB X2 hx hZ e2 A2 (j := (1 : Int32)) ⟨by decide, by decide⟩ (g := (mkF m 20 #[.val (.int p0), .val (.int p1), .val (.int p2), .val (.int p3), .val (.int p4), .val (.int p5), .val (.ref b1), .unset, .unset, .unset, .unset, .unset] [(.int (((p0.toUInt32 >>> ((8 : Int32) &&& 31).toUInt32).toInt32).toInt8.toInt32)), (.int (1 : Int32)), (.ref b1)])) rfl rfl (hb hby at_20)
  have N3 := Fr.snoc X3 N2 f_b1
  have K3 : Keep h0 h3 [] := K2.wr W3 (Or.inr s_b1)
  have Z3 : n0 ≤ h3.size := Nat.le_trans Z2 (Nat.le_of_eq (W3.size).symm)
  obtain ⟨T4, h4, X4, e4, W4, A4, st4⟩ := own_stB X3 hx hZ e3 A3 (j := (2 : Int32)) ⟨by decide, by decide⟩ (g := (mkF m 29 #[.val (.int p0), .val (.int p1), .val (.int p2), .val (.int p3), .val (.int p4), .val (.int p5), .val (.ref b1), .unset, .unset, .unset, .unset, .unset] [(.int (((p0.toUInt32 >>> ((16 : Int32) &&& 31).toUInt32).toInt32).toInt8.toInt32)), (.int (2 : Int32)), (.ref b1)])) rfl rfl (hb hby at_29)
  have N4 := Fr.snoc X4 N3 f_b1
  have K4 : Keep h0 h4 [] := K3.wr W4 (Or.inr s_b1)
  have Z4 : n0 ≤ h4.size := Nat.le_trans Z3 (Nat.le_of_eq (W4.size).symm)
  obtain ⟨T5, h5, X5, e5, W5, A5, st5⟩ := own_stB X4 hx hZ e4 A4 (j := (3 : Int32)) ⟨by decide, by decide⟩ (g := (mkF m 38 #[.val (.int p0), .val (.int p1), .val (.int p2), .val (.int p3), .val (.int p4), .val (.int p5), .val (.ref b1), .unset, .unset, .unset, .unset, .unset] [(.int (((p0.toUInt32 >>> ((24 : Int32) &&& 31).toUInt32).toInt32).toInt8.toInt32)), (.int (3 : Int32)), (.ref b1)])) rfl rfl (hb hby at_38)
  have N5 := Fr.snoc X5 N4 f_b1
  have K5 : Keep h0 h5 [] := K4.wr W5 (Or.inr s_b1)
  have Z5 : n0 ≤ h5.size := Nat.le_trans Z4 (Nat.le_of_eq (W5.size).symm)
  obtain ⟨T6, h6, X6, e6, W6, A6, st6⟩ := own_stB X5 hx hZ e5 A5 (j := (4 : Int32)) ⟨by decide, by decide⟩ (g := (mkF m 44 #[.val (.int p0), .val (.int p1), .val (.int p2), .val (.int p3), .val (.int p4), .val (.int p5), .val (.ref b1), .unset, .unset, .unset, .unset, .unset] [(.int (p1.toInt8.toInt32)), (.int (4 : Int32)), (.ref b1)])) rfl rfl (hb hby at_44)
  have N6 := Fr.snoc X6 N5 f_b1
  have K6 : Keep h0 h6 [] := K5.wr W6 (Or.inr s_b1)
  have Z6 : n0 ≤ h6.size := Nat.le_trans Z5 (Nat.le_of_eq (W6.size).symm)
  obtain ⟨T7, h7, X7, e7, W7, A7, st7⟩ := own_stB X6 hx hZ e6 A6 (j := (5 : Int32)) ⟨by decide, by decide⟩ (g := (mkF m 53 #[.val (.int p0), .val (.int p1), .val (.int p2), .val (.int p3), .val (.int p4), .val (.int p5), .val (.ref b1), .unset, .unset, .unset, .unset, .unset] [(.int (((p1.toUInt32 >>> ((8 : Int32) &&& 31).toUInt32).toInt32).toInt8.toInt32)), (.int (5 : Int32)), (.ref b1)])) rfl rfl (hb hby at_53)
  have N7 := Fr.snoc X7 N6 f_b1
  have K7 : Keep h0 h7 [] := K6.wr W7 (Or.inr s_b1)
  have Z7 : n0 ≤ h7.size := Nat.le_trans Z6 (Nat.le_of_eq (W7.size).symm)
  obtain ⟨T8, h8, X8, e8, W8, A8, st8⟩ := own_stB X7 hx hZ e7 A7 (j := (6 : Int32)) ⟨by decide, by decide⟩ (g := (mkF m 63 #[.val (.int p0), .val (.int p1), .val (.int p2), .val (.int p3), .val (.int p4), .val (.int p5), .val (.ref b1), .unset, .unset, .unset, .unset, .unset] [(.int (((p1.toUInt32 >>> ((16 : Int32) &&& 31).toUInt32).toInt32).toInt8.toInt32)), (.int (6 : Int32)), (.ref b1)])) rfl rfl (hb hby at_63)
  have N8 := Fr.snoc X8 N7 f_b1
  have K8 : Keep h0 h8 [] := K7.wr W8 (Or.inr s_b1)
  have Z8 : n0 ≤ h8.size := Nat.le_trans Z7 (Nat.le_of_eq (W8.size).symm)
  obtain ⟨T9, h9, X9, e9, W9, A9, st9⟩ := own_stB X8 hx hZ e8 A8 (j := (7 : Int32)) ⟨by decide, by decide⟩ (g := (mkF m 73 #[.val (.int p0), .val (.int p1), .val (.int p2), .val (.int p3), .val (.int p4), .val (.int p5), .val (.ref b1), .unset, .unset, .unset, .unset, .unset] [(.int (((p1.toUInt32 >>> ((24 : Int32) &&& 31).toUInt32).toInt32).toInt8.toInt32)), (.int (7 : Int32)), (.ref b1)])) rfl rfl (hb hby at_73)
  have N9 := Fr.snoc X9 N8 f_b1
  have K9 : Keep h0 h9 [] := K8.wr W9 (Or.inr s_b1)
  have Z9 : n0 ≤ h9.size := Nat.le_trans Z8 (Nat.le_of_eq (W9.size).symm)
  have AF : own_AI Z h9 b1 .byte (8 : Int32) f := hf ▸ A9
  obtain ⟨o, ho4, eo⟩ := own_o h_of
  obtain ⟨u1, hu1, eu1⟩ := own_k h_k1
  obtain ⟨u2, hu2, eu2⟩ := own_k h_k2
  obtain ⟨T10, h10, X10, e10, E10, A10, D10, -, st10⟩ := newO X9 hx hZ hown (hw _ (List.mem_of_getElem? (i := 2) rfl)) (hw _ (List.mem_of_getElem? (i := 3) rfl)) (hw _ (List.mem_of_getElem? (i := 4) rfl)) e9 (g := (mkF m 101 #[.val (.int p0), .val (.int p1), .val (.int p2), .val (.int p3), .val (.int p4), .val (.int p5), .val (.ref b1), .val (.int of), .val (.int k1), .val (.int k2), .unset, .unset] [])) rfl (hb hby at_101) (by decide) (by decide)
  obtain ⟨b10, g10⟩ : ∃ z, z = h9.size := ⟨_, rfl⟩
  rw [← g10] at A10 D10 st10
  have f_b10 : n0 ≤ b10 := Nat.le_trans Z9 (Nat.le_of_eq g10.symm)
  have s_b10 : h0.size ≤ b10 := Nat.le_trans K9.1 (Nat.le_of_eq g10.symm)
  have K10 : Keep h0 h10 [] := K9.ext E10
  have A10_b1 := AF.ext E10
  have O10 : own_Db Z h10 b10 .null (.int (0 : Int32)) (.long (0 : Int64)) (.int (0 : Int32)) := ⟨A10, D10 (Or.inr (hw _ (List.mem_of_getElem? (i := 20) rfl))) (ty := (.array .byte)) (by decide), D10 (Or.inl (hw _ (List.mem_of_getElem? (i := 22) rfl))) (ty := .int) (by decide), D10 (Or.inl (hw _ (List.mem_of_getElem? (i := 40) rfl))) (ty := .long) (by decide), D10 (Or.inl (hw _ (List.mem_of_getElem? (i := 34) rfl))) (ty := .int) (by decide)⟩
  have Z10 : n0 ≤ h10.size := Nat.le_trans Z9 E10.1
  obtain ⟨Lg11, Xg11, Ng11⟩ := own_gen X10 N9
  obtain ⟨_, _, ⟨T12, L12, k12, n12⟩, -, X12, ⟨Lc12, hQ12, l12, y12, z12⟩, st12⟩ := Xg11.specialBack hx (y := (⟨"com/example/fewbits/fewbits/deflate/DeflateBitReader", "<init>", "([BI)V"⟩ : MethodName)) rfl hown (mvT hZ (hw _ (List.mem_of_getElem? (i := 5) rfl))) (mvT hZ (hw _ (List.mem_of_getElem? (i := 6) rfl))) (mvT hZ (hw _ (List.mem_of_getElem? (i := 7) rfl))) (by decide) (backOf (W := 1) (rm3 l Z a0 hw [] b10 b1 of f h10 n0 Z10 f_b10 O10 A10_b1 (own_c1 ho4 eo) (own_c2 ho4 eo)) hZ (hw _ (List.mem_of_getElem? (i := 7) rfl)) (hw _ (List.mem_of_getElem? (i := 4) rfl)) (by decide) (by decide)) (g := (mkF m 109 #[.val (.int p0), .val (.int p1), .val (.int p2), .val (.int p3), .val (.int p4), .val (.int p5), .val (.ref b1), .val (.int of), .val (.int k1), .val (.int k2), .unset, .unset] [(.int of), (.ref b1), (.ref b10), (.ref b10)])) rfl (by rw [hml]; rfl) (Steps.refl _) (a := b10) (argsL := [(.ref b1), (.int of)]) (rest := [(.ref b10)]) (lenOf pd_5 rfl) rfl (by show 2 * 0 + _ ≤ _; exact Nat.le_of_eq rfl) (hb hby at_109) (fun _ _ => ⟨rfl, e10, (by decide : 2 + 0 ≤ _), (by decide : 12 + 0 ≤ _)⟩)
  dsimp only [Pt.U, Pt.locs, Pt.cells, Pt.slots] at X12 l12 y12 z12 st12 hQ12
  subst l12 y12 z12
  obtain ⟨rfl, Nq12, Kq12, Oq12⟩ := hQ12
  have N12 := Fr.app Ng11 Nq12
  have Z12 : n0 ≤ T12.heap.size := Nat.le_trans Z10 Kq12.1
  have AA12 := A10_b1.keep Kq12 (ninS (own_ne_obj O10.1 (hw _ (List.mem_of_getElem? (i := 3) rfl)) A10_b1).symm nin0)
  have R12 : own_R Z T12.heap b10 b1 f o 0 := ⟨_, _, _, Oq12, Or.inl ⟨rfl, eo, rfl, rfl⟩⟩
  obtain ⟨Lg13, Xg13, Ng13⟩ := own_gen X12 N12
  obtain ⟨cq14, kq14, qa14, qb14, qc14⟩ := isOf hZ rfl (own_R_exa R12)
  obtain ⟨_, _, ⟨T14, L14, k14, n14⟩, -, X14, ⟨Lc14, hQ14, l14, y14, z14⟩, st14⟩ := Xg13.virtualBack hx (y := (⟨"com/example/fewbits/fewbits/deflate/DeflateBitReader", "readBits", "(I)I"⟩ : MethodName)) (z := (⟨"com/example/fewbits/fewbits/deflate/DeflateBitReader", "readBits", "(I)I"⟩ : MethodName)) hown (mvT hZ (hw _ (List.mem_of_getElem? (i := 23) rfl))) (mvT hZ (hw _ (List.mem_of_getElem? (i := 24) rfl))) (notFace_of_selects (args := #[]) (mvT hZ (hw _ (List.mem_of_getElem? (i := 26) rfl)))) (mvT hZ (hw _ (List.mem_of_getElem? (i := 26) rfl))) (mvT hZ (hw _ (List.mem_of_getElem? (i := 25) rfl))) (by decide) (backOf (W := 0) (rm7 l Z a0 hw [] b10 k1 b1 f o (0) u1 T12.heap n0 Z12 f_b10 R12 AA12 ho4 eu1 hu1 (by omega)) hZ (hw _ (List.mem_of_getElem? (i := 27) rfl)) (hw _ (List.mem_of_getElem? (i := 4) rfl)) (by decide) (by decide)) qa14 qc14 (g := (mkF m 118 #[.val (.int p0), .val (.int p1), .val (.int p2), .val (.int p3), .val (.int p4), .val (.int p5), .val (.ref b1), .val (.int of), .val (.int k1), .val (.int k2), .val (.ref b10), .unset] [(.int k1), (.ref b10)])) rfl (by rw [hml]; rfl) (Steps.refl _) (argsL := [(.int k1)]) (rest := []) (lenOf pd_3 rfl) rfl (by show 2 * 0 + _ ≤ _; exact Nat.le_of_eq rfl) (hb hby at_118) (fun _ _ => ⟨rfl, rfl, (by decide : 2 + 0 ≤ _), (by decide : 12 + 0 ≤ _)⟩)
  dsimp only [Pt.U, Pt.locs, Pt.cells, Pt.slots] at X14 l14 y14 z14 st14 hQ14
  subst l14 y14 z14
  obtain ⟨⟨ra, rfl, ra8⟩, Nq14, Kq14, Rq14, Aq14⟩ := hQ14
  have N14 := Fr.app Ng13 Nq14
  have Z14 : n0 ≤ T14.heap.size := Nat.le_trans Z12 Kq14.1
  obtain ⟨Lg15, Xg15, Ng15⟩ := own_gen X14 N14
  obtain ⟨cq16, kq16, qa16, qb16, qc16⟩ := isOf hZ rfl (own_R_exa Rq14)
  obtain ⟨_, _, ⟨T16, L16, k16, n16⟩, -, X16, ⟨Lc16, hQ16, l16, y16, z16⟩, st16⟩ := Xg15.virtualBack hx (y := (⟨"com/example/fewbits/fewbits/deflate/DeflateBitReader", "readBits", "(I)I"⟩ : MethodName)) (z := (⟨"com/example/fewbits/fewbits/deflate/DeflateBitReader", "readBits", "(I)I"⟩ : MethodName)) hown (mvT hZ (hw _ (List.mem_of_getElem? (i := 23) rfl))) (mvT hZ (hw _ (List.mem_of_getElem? (i := 24) rfl))) (notFace_of_selects (args := #[]) (mvT hZ (hw _ (List.mem_of_getElem? (i := 26) rfl)))) (mvT hZ (hw _ (List.mem_of_getElem? (i := 26) rfl))) (mvT hZ (hw _ (List.mem_of_getElem? (i := 25) rfl))) (by decide) (backOf (W := 0) (rm7 l Z a0 hw [] b10 k2 b1 f o (0 + u1) u2 T14.heap n0 Z14 f_b10 Rq14 Aq14 ho4 eu2 hu2 (by omega)) hZ (hw _ (List.mem_of_getElem? (i := 27) rfl)) (hw _ (List.mem_of_getElem? (i := 4) rfl)) (by decide) (by decide)) qa16 qc16 (g := (mkF m 126 #[.val (.int p0), .val (.int p1), .val (.int p2), .val (.int p3), .val (.int p4), .val (.int p5), .val (.ref b1), .val (.int of), .val (.int k1), .val (.int k2), .val (.ref b10), .unset] [(.int k2), (.ref b10)])) rfl (by rw [hml]; rfl) (Steps.refl _) (argsL := [(.int k2)]) (rest := []) (lenOf pd_3 rfl) rfl (by show 2 * 0 + _ ≤ _; exact Nat.le_of_eq rfl) (hb hby at_126) (fun _ _ => ⟨rfl, rfl, (by decide : 2 + 0 ≤ _), (by decide : 12 + 0 ≤ _)⟩)
  dsimp only [Pt.U, Pt.locs, Pt.cells, Pt.slots] at X16 l16 y16 z16 st16 hQ16
  subst l16 y16 z16
  obtain ⟨⟨rb, rfl, rb8⟩, Nq16, Kq16, Rq16, Aq16⟩ := hQ16
  have N16 := Fr.app Ng15 Nq16
  have Z16 : n0 ≤ T16.heap.size := Nat.le_trans Z14 Kq16.1
  obtain ⟨Lg17, Xg17, Ng17⟩ := own_gen X16 N16
  obtain ⟨cq18, kq18, qa18, qb18, qc18⟩ := isOf hZ rfl (own_R_exa Rq16)
  obtain ⟨_, _, ⟨T18, L18, k18, n18⟩, -, X18, ⟨Lc18, hQ18, l18, y18, z18⟩, st18⟩ := Xg17.virtualBack hx (y := (⟨"com/example/fewbits/fewbits/deflate/DeflateBitReader", "alignToByte", "()V"⟩ : MethodName)) (z := (⟨"com/example/fewbits/fewbits/deflate/DeflateBitReader", "alignToByte", "()V"⟩ : MethodName)) hown (mvT hZ (hw _ (List.mem_of_getElem? (i := 47) rfl))) (mvT hZ (hw _ (List.mem_of_getElem? (i := 48) rfl))) (notFace_of_selects (args := #[]) (mvT hZ (hw _ (List.mem_of_getElem? (i := 50) rfl)))) (mvT hZ (hw _ (List.mem_of_getElem? (i := 50) rfl))) (mvT hZ (hw _ (List.mem_of_getElem? (i := 49) rfl))) (by decide) (backOf (W := 0) (rm8 l Z a0 hw [] b10 b1 f o (0 + u1 + u2) T16.heap n0 Z16 f_b10 Rq16 Aq16 ho4 (by omega)) hZ (hw _ (List.mem_of_getElem? (i := 51) rfl)) (hw _ (List.mem_of_getElem? (i := 4) rfl)) (by decide) (by decide)) qa18 qc18 (g := (mkF m 132 #[.val (.int p0), .val (.int p1), .val (.int p2), .val (.int p3), .val (.int p4), .val (.int p5), .val (.ref b1), .val (.int of), .val (.int k1), .val (.int k2), .val (.ref b10), .unset] [(.ref b10)])) rfl (by rw [hml]; rfl) (Steps.refl _) (argsL := []) (rest := []) (lenOf pd_2 rfl) rfl (by show 2 * 0 + _ ≤ _; exact Nat.le_of_eq rfl) (hb hby at_132) (fun _ _ => ⟨rfl, rfl, (by decide : 2 + 0 ≤ _), (by decide : 12 + 0 ≤ _)⟩)
  dsimp only [Pt.U, Pt.locs, Pt.cells, Pt.slots] at X18 l18 y18 z18 st18 hQ18
  subst l18 y18 z18
  obtain ⟨rfl, Nq18, Kq18, Rq18, Aq18⟩ := hQ18
  have N18 := Fr.app Ng17 Nq18
  have Z18 : n0 ≤ T18.heap.size := Nat.le_trans Z16 Kq18.1
  obtain ⟨w, hw8, hw1, hw2⟩ : ∃ w : Nat, 0 + u1 + u2 + (8 * (8 - o) - (0 + u1 + u2)) % 8 = w ∧ w % 8 = 0 ∧ (w = 8 * ((u1 + u2 + 7) / 8) ∧ w ≤ 8 * (8 - o)) := ⟨_, rfl, by omega, by omega⟩
  rw [hw8] at Rq18
  obtain ⟨Lg19, Xg19, Ng19⟩ := own_gen X18 N18
  obtain ⟨cq20, kq20, qa20, qb20, qc20⟩ := isOf hZ rfl (own_R_exa Rq18)
  obtain ⟨_, _, ⟨T20, L20, k20, n20⟩, -, X20, ⟨Lc20, hQ20, l20, y20, z20⟩, st20⟩ := Xg19.virtualBack hx (y := (⟨"com/example/fewbits/fewbits/deflate/DeflateBitReader", "alignToByte", "()V"⟩ : MethodName)) (z := (⟨"com/example/fewbits/fewbits/deflate/DeflateBitReader", "alignToByte", "()V"⟩ : MethodName)) hown (mvT hZ (hw _ (List.mem_of_getElem? (i := 47) rfl))) (mvT hZ (hw _ (List.mem_of_getElem? (i := 48) rfl))) (notFace_of_selects (args := #[]) (mvT hZ (hw _ (List.mem_of_getElem? (i := 50) rfl)))) (mvT hZ (hw _ (List.mem_of_getElem? (i := 50) rfl))) (mvT hZ (hw _ (List.mem_of_getElem? (i := 49) rfl))) (by decide) (backOf (W := 0) (rm8 l Z a0 hw [] b10 b1 f o (w) T18.heap n0 Z18 f_b10 Rq18 Aq18 ho4 (by omega)) hZ (hw _ (List.mem_of_getElem? (i := 51) rfl)) (hw _ (List.mem_of_getElem? (i := 4) rfl)) (by decide) (by decide)) qa20 qc20 (g := (mkF m 144 #[.val (.int p0), .val (.int p1), .val (.int p2), .val (.int p3), .val (.int p4), .val (.int p5), .val (.ref b1), .val (.int of), .val (.int k1), .val (.int k2), .val (.ref b10), .unset] [(.ref b10)])) rfl (by rw [hml]; rfl) (Steps.refl _) (argsL := []) (rest := []) (lenOf pd_2 rfl) rfl (by show 2 * 0 + _ ≤ _; exact Nat.le_of_eq rfl) (hb hby at_144) (fun _ _ => ⟨rfl, rfl, (by decide : 2 + 0 ≤ _), (by decide : 12 + 0 ≤ _)⟩)
  dsimp only [Pt.U, Pt.locs, Pt.cells, Pt.slots] at X20 l20 y20 z20 st20 hQ20
  subst l20 y20 z20
  obtain ⟨rfl, Nq20, Kq20, Rq20, Aq20⟩ := hQ20
  have N20 := Fr.app Ng19 Nq20
  have Z20 : n0 ≤ T20.heap.size := Nat.le_trans Z18 Kq20.1
  have hww : w + (8 * (8 - o) - w) % 8 = w := by omega
  rw [hww] at Rq20
  have eps := own_ps ho4 eo hu1 eu1 hu2 eu2 h_ps
  obtain ⟨Lg21, Xg21, Ng21⟩ := own_gen X20 N20
  obtain ⟨cq22, kq22, qa22, qb22, qc22⟩ := isOf hZ rfl (own_R_exa Rq20)
  obtain ⟨_, _, ⟨T22, L22, k22, n22⟩, -, X22, ⟨Lc22, hQ22, l22, y22, z22⟩, st22⟩ := Xg21.virtualBack hx (y := (⟨"com/example/fewbits/fewbits/deflate/DeflateBitReader", "getBytePosition", "()I"⟩ : MethodName)) (z := (⟨"com/example/fewbits/fewbits/deflate/DeflateBitReader", "getBytePosition", "()I"⟩ : MethodName)) hown (mvT hZ (hw _ (List.mem_of_getElem? (i := 52) rfl))) (mvT hZ (hw _ (List.mem_of_getElem? (i := 53) rfl))) (notFace_of_selects (args := #[]) (mvT hZ (hw _ (List.mem_of_getElem? (i := 55) rfl)))) (mvT hZ (hw _ (List.mem_of_getElem? (i := 55) rfl))) (mvT hZ (hw _ (List.mem_of_getElem? (i := 54) rfl))) (by decide) (backOf (W := 0) (rm9 l Z a0 hw [] b10 b1 f o w T20.heap n0 Z20 f_b10 Rq20 Aq20 ho4 hw2.2 hw1) hZ (hw _ (List.mem_of_getElem? (i := 56) rfl)) (hw _ (List.mem_of_getElem? (i := 4) rfl)) (by decide) (by decide)) qa22 qc22 (g := (mkF m 165 #[.val (.int p0), .val (.int p1), .val (.int p2), .val (.int p3), .val (.int p4), .val (.int p5), .val (.ref b1), .val (.int of), .val (.int k1), .val (.int k2), .val (.ref b10), .val (.int ps)] [(.ref b10)])) rfl (by rw [hml]; rfl) (Steps.refl _) (argsL := []) (rest := []) (lenOf pd_6 rfl) rfl (by show 2 * 0 + _ ≤ _; exact Nat.le_of_eq rfl) (hb hby at_165) (fun _ _ => ⟨rfl, rfl, (by decide : 2 + 0 ≤ _), (by decide : 12 + 0 ≤ _)⟩)
  dsimp only [Pt.U, Pt.locs, Pt.cells, Pt.slots] at X22 l22 y22 z22 st22 hQ22
  subst l22 y22 z22
  obtain ⟨⟨bp, rfl, ebp⟩, Nq22, e22⟩ := hQ22
  have N22 := Fr.app Ng21 Nq22
  have hbp : bp = ps := own_i_of (by rw [ebp, eps]; omega)
  obtain ⟨fs, hr, hrun, hended, hW, hsame⟩ := X22.leave (v := some (.int (1 : Int32))) (fun h => by rw [Bd.returns] at h; cases h)
  refine ⟨_, _, pre0 _ ?_, hrun, hended, _, _, rfl, ⟨rfl, N22⟩, ⟨_, rfl⟩, hW, hsame.mono (by decide) (by decide)⟩
  show Steps p.tables e below (s₁.setTop (mkF m 0 #[.val (.int p0), .val (.int p1), .val (.int p2), .val (.int p3), .val (.int p4), .val (.int p5), .unset, .unset, .unset, .unset, .unset, .unset] [])) _
  refine XS.bipush X0.here hx rfl (hb hby at_0) ?_
  show Steps p.tables e below (s₁.setTop (mkF m 2 #[.val (.int p0), .val (.int p1), .val (.int p2), .val (.int p3), .val (.int p4), .val (.int p5), .unset, .unset, .unset, .unset, .unset, .unset] [(.int (8 : Int32))])) _
  refine st1 _ ?_
  show Steps p.tables e below (T1.setTop (mkF m 4 #[.val (.int p0), .val (.int p1), .val (.int p2), .val (.int p3), .val (.int p4), .val (.int p5), .unset, .unset, .unset, .unset, .unset, .unset] [(.ref b1)])) _
  refine XS.astore X1.here hx rfl (hb hby at_4) rfl rfl (l' := #[.val (.int p0), .val (.int p1), .val (.int p2), .val (.int p3), .val (.int p4), .val (.int p5), .val (.ref b1), .unset, .unset, .unset, .unset, .unset]) rfl ?_
  show Steps p.tables e below (T1.setTop (mkF m 6 #[.val (.int p0), .val (.int p1), .val (.int p2), .val (.int p3), .val (.int p4), .val (.int p5), .val (.ref b1), .unset, .unset, .unset, .unset, .unset] [])) _
  refine XS.aload X1.here hx rfl (hb hby at_6) rfl rfl ?_
  show Steps p.tables e below (T1.setTop (mkF m 8 #[.val (.int p0), .val (.int p1), .val (.int p2), .val (.int p3), .val (.int p4), .val (.int p5), .val (.ref b1), .unset, .unset, .unset, .unset, .unset] [(.ref b1)])) _
  refine XS.iconst X1.here hx rfl (hb hby at_8) ?_
  show Steps p.tables e below (T1.setTop (mkF m 9 #[.val (.int p0), .val (.int p1), .val (.int p2), .val (.int p3), .val (.int p4), .val (.int p5), .val (.ref b1), .unset, .unset, .unset, .unset, .unset] [(.int (0 : Int32)), (.ref b1)])) _
  refine XS.iloadN X1.here hx rfl (hb hby at_9) rfl ?_
  show Steps p.tables e below (T1.setTop (mkF m 10 #[.val (.int p0), .val (.int p1), .val (.int p2), .val (.int p3), .val (.int p4), .val (.int p5), .val (.ref b1), .unset, .unset, .unset, .unset, .unset] [(.int p0), (.int (0 : Int32)), (.ref b1)])) _
  refine XS.i2b X1.here hx rfl (hb hby at_10) rfl ?_
  show Steps p.tables e below (T1.setTop (mkF m 11 #[.val (.int p0), .val (.int p1), .val (.int p2), .val (.int p3), .val (.int p4), .val (.int p5), .val (.ref b1), .unset, .unset, .unset, .unset, .unset] [(.int (p0.toInt8.toInt32)), (.int (0 : Int32)), (.ref b1)])) _
  refine st2 _ ?_
  show Steps p.tables e below (T2.setTop (mkF m 12 #[.val (.int p0), .val (.int p1), .val (.int p2), .val (.int p3), .val (.int p4), .val (.int p5), .val (.ref b1), .unset, .unset, .unset, .unset, .unset] [])) _
  refine XS.aload X2.here hx rfl (hb hby at_12) rfl rfl ?_
  show Steps p.tables e below (T2.setTop (mkF m 14 #[.val (.int p0), .val (.int p1), .val (.int p2), .val (.int p3), .val (.int p4), .val (.int p5), .val (.ref b1), .unset, .unset, .unset, .unset, .unset] [(.ref b1)])) _
  refine XS.iconst X2.here hx rfl (hb hby at_14) ?_
  show Steps p.tables e below (T2.setTop (mkF m 15 #[.val (.int p0), .val (.int p1), .val (.int p2), .val (.int p3), .val (.int p4), .val (.int p5), .val (.ref b1), .unset, .unset, .unset, .unset, .unset] [(.int (1 : Int32)), (.ref b1)])) _
  refine XS.iloadN X2.here hx rfl (hb hby at_15) rfl ?_
  show Steps p.tables e below (T2.setTop (mkF m 16 #[.val (.int p0), .val (.int p1), .val (.int p2), .val (.int p3), .val (.int p4), .val (.int p5), .val (.ref b1), .unset, .unset, .unset, .unset, .unset] [(.int p0), (.int (1 : Int32)), (.ref b1)])) _
  refine XS.bipush X2.here hx rfl (hb hby at_16) ?_
  show Steps p.tables e below (T2.setTop (mkF m 18 #[.val (.int p0), .val (.int p1), .val (.int p2), .val (.int p3), .val (.int p4), .val (.int p5), .val (.ref b1), .unset, .unset, .unset, .unset, .unset] [(.int (8 : Int32)), (.int p0), (.int (1 : Int32)), (.ref b1)])) _
  refine XS.iushr X2.here hx rfl (hb hby at_18) rfl ?_
  show Steps p.tables e below (T2.setTop (mkF m 19 #[.val (.int p0), .val (.int p1), .val (.int p2), .val (.int p3), .val (.int p4), .val (.int p5), .val (.ref b1), .unset, .unset, .unset, .unset, .unset] [(.int ((p0.toUInt32 >>> ((8 : Int32) &&& 31).toUInt32).toInt32)), (.int (1 : Int32)), (.ref b1)])) _
  refine XS.i2b X2.here hx rfl (hb hby at_19) rfl ?_
  show Steps p.tables e below (T2.setTop (mkF m 20 #[.val (.int p0), .val (.int p1), .val (.int p2), .val (.int p3), .val (.int p4), .val (.int p5), .val (.ref b1), .unset, .unset, .unset, .unset, .unset] [(.int (((p0.toUInt32 >>> ((8 : Int32) &&& 31).toUInt32).toInt32).toInt8.toInt32)), (.int (1 : Int32)), (.ref b1)])) _
  refine st3 _ ?_
  show Steps p.tables e below (T3.setTop (mkF m 21 #[.val (.int p0), .val (.int p1), .val (.int p2), .val (.int p3), .val (.int p4), .val (.int p5), .val (.ref b1), .unset, .unset, .unset, .unset, .unset] [])) _
  refine XS.aload X3.here hx rfl (hb hby at_21) rfl rfl ?_
  show Steps p.tables e below (T3.setTop (mkF m 23 #[.val (.int p0), .val (.int p1), .val (.int p2), .val (.int p3), .val (.int p4), .val (.int p5), .val (.ref b1), .unset, .unset, .unset, .unset, .unset] [(.ref b1)])) _
  refine XS.iconst X3.here hx rfl (hb hby at_23) ?_
  show Steps p.tables e below (T3.setTop (mkF m 24 #[.val (.int p0), .val (.int p1), .val (.int p2), .val (.int p3), .val (.int p4), .val (.int p5), .val (.ref b1), .unset, .unset, .unset, .unset, .unset] [(.int (2 : Int32)), (.ref b1)])) _
  refine XS.iloadN X3.here hx rfl (hb hby at_24) rfl ?_
  show Steps p.tables e below (T3.setTop (mkF m 25 #[.val (.int p0), .val (.int p1), .val (.int p2), .val (.int p3), .val (.int p4), .val (.int p5), .val (.ref b1), .unset, .unset, .unset, .unset, .unset] [(.int p0), (.int (2 : Int32)), (.ref b1)])) _
  refine XS.bipush X3.here hx rfl (hb hby at_25) ?_
  show Steps p.tables e below (T3.setTop (mkF m 27 #[.val (.int p0), .val (.int p1), .val (.int p2), .val (.int p3), .val (.int p4), .val (.int p5), .val (.ref b1), .unset, .unset, .unset, .unset, .unset] [(.int (16 : Int32)), (.int p0), (.int (2 : Int32)), (.ref b1)])) _
  refine XS.iushr X3.here hx rfl (hb hby at_27) rfl ?_
  show Steps p.tables e below (T3.setTop (mkF m 28 #[.val (.int p0), .val (.int p1), .val (.int p2), .val (.int p3), .val (.int p4), .val (.int p5), .val (.ref b1), .unset, .unset, .unset, .unset, .unset] [(.int ((p0.toUInt32 >>> ((16 : Int32) &&& 31).toUInt32).toInt32)), (.int (2 : Int32)), (.ref b1)])) _
  refine XS.i2b X3.here hx rfl (hb hby at_28) rfl ?_
  show Steps p.tables e below (T3.setTop (mkF m 29 #[.val (.int p0), .val (.int p1), .val (.int p2), .val (.int p3), .val (.int p4), .val (.int p5), .val (.ref b1), .unset, .unset, .unset, .unset, .unset] [(.int (((p0.toUInt32 >>> ((16 : Int32) &&& 31).toUInt32).toInt32).toInt8.toInt32)), (.int (2 : Int32)), (.ref b1)])) _
  refine st4 _ ?_
  show Steps p.tables e below (T4.setTop (mkF m 30 #[.val (.int p0), .val (.int p1), .val (.int p2), .val (.int p3), .val (.int p4), .val (.int p5), .val (.ref b1), .unset, .unset, .unset, .unset, .unset] [])) _
  refine XS.aload X4.here hx rfl (hb hby at_30) rfl rfl ?_
  show Steps p.tables e below (T4.setTop (mkF m 32 #[.val (.int p0), .val (.int p1), .val (.int p2), .val (.int p3), .val (.int p4), .val (.int p5), .val (.ref b1), .unset, .unset, .unset, .unset, .unset] [(.ref b1)])) _
  refine XS.iconst X4.here hx rfl (hb hby at_32) ?_
  show Steps p.tables e below (T4.setTop (mkF m 33 #[.val (.int p0), .val (.int p1), .val (.int p2), .val (.int p3), .val (.int p4), .val (.int p5), .val (.ref b1), .unset, .unset, .unset, .unset, .unset] [(.int (3 : Int32)), (.ref b1)])) _
  refine XS.iloadN X4.here hx rfl (hb hby at_33) rfl ?_
  show Steps p.tables e below (T4.setTop (mkF m 34 #[.val (.int p0), .val (.int p1), .val (.int p2), .val (.int p3), .val (.int p4), .val (.int p5), .val (.ref b1), .unset, .unset, .unset, .unset, .unset] [(.int p0), (.int (3 : Int32)), (.ref b1)])) _
  refine XS.bipush X4.here hx rfl (hb hby at_34) ?_
  show Steps p.tables e below (T4.setTop (mkF m 36 #[.val (.int p0), .val (.int p1), .val (.int p2), .val (.int p3), .val (.int p4), .val (.int p5), .val (.ref b1), .unset, .unset, .unset, .unset, .unset] [(.int (24 : Int32)), (.int p0), (.int (3 : Int32)), (.ref b1)])) _
  refine XS.iushr X4.here hx rfl (hb hby at_36) rfl ?_
  show Steps p.tables e below (T4.setTop (mkF m 37 #[.val (.int p0), .val (.int p1), .val (.int p2), .val (.int p3), .val (.int p4), .val (.int p5), .val (.ref b1), .unset, .unset, .unset, .unset, .unset] [(.int ((p0.toUInt32 >>> ((24 : Int32) &&& 31).toUInt32).toInt32)), (.int (3 : Int32)), (.ref b1)])) _
  refine XS.i2b X4.here hx rfl (hb hby at_37) rfl ?_
  show Steps p.tables e below (T4.setTop (mkF m 38 #[.val (.int p0), .val (.int p1), .val (.int p2), .val (.int p3), .val (.int p4), .val (.int p5), .val (.ref b1), .unset, .unset, .unset, .unset, .unset] [(.int (((p0.toUInt32 >>> ((24 : Int32) &&& 31).toUInt32).toInt32).toInt8.toInt32)), (.int (3 : Int32)), (.ref b1)])) _
  refine st5 _ ?_
  show Steps p.tables e below (T5.setTop (mkF m 39 #[.val (.int p0), .val (.int p1), .val (.int p2), .val (.int p3), .val (.int p4), .val (.int p5), .val (.ref b1), .unset, .unset, .unset, .unset, .unset] [])) _
  refine XS.aload X5.here hx rfl (hb hby at_39) rfl rfl ?_
  show Steps p.tables e below (T5.setTop (mkF m 41 #[.val (.int p0), .val (.int p1), .val (.int p2), .val (.int p3), .val (.int p4), .val (.int p5), .val (.ref b1), .unset, .unset, .unset, .unset, .unset] [(.ref b1)])) _
  refine XS.iconst X5.here hx rfl (hb hby at_41) ?_
  show Steps p.tables e below (T5.setTop (mkF m 42 #[.val (.int p0), .val (.int p1), .val (.int p2), .val (.int p3), .val (.int p4), .val (.int p5), .val (.ref b1), .unset, .unset, .unset, .unset, .unset] [(.int (4 : Int32)), (.ref b1)])) _
  refine XS.iloadN X5.here hx rfl (hb hby at_42) rfl ?_
  show Steps p.tables e below (T5.setTop (mkF m 43 #[.val (.int p0), .val (.int p1), .val (.int p2), .val (.int p3), .val (.int p4), .val (.int p5), .val (.ref b1), .unset, .unset, .unset, .unset, .unset] [(.int p1), (.int (4 : Int32)), (.ref b1)])) _
  refine XS.i2b X5.here hx rfl (hb hby at_43) rfl ?_
  show Steps p.tables e below (T5.setTop (mkF m 44 #[.val (.int p0), .val (.int p1), .val (.int p2), .val (.int p3), .val (.int p4), .val (.int p5), .val (.ref b1), .unset, .unset, .unset, .unset, .unset] [(.int (p1.toInt8.toInt32)), (.int (4 : Int32)), (.ref b1)])) _
  refine st6 _ ?_
  show Steps p.tables e below (T6.setTop (mkF m 45 #[.val (.int p0), .val (.int p1), .val (.int p2), .val (.int p3), .val (.int p4), .val (.int p5), .val (.ref b1), .unset, .unset, .unset, .unset, .unset] [])) _
  refine XS.aload X6.here hx rfl (hb hby at_45) rfl rfl ?_
  show Steps p.tables e below (T6.setTop (mkF m 47 #[.val (.int p0), .val (.int p1), .val (.int p2), .val (.int p3), .val (.int p4), .val (.int p5), .val (.ref b1), .unset, .unset, .unset, .unset, .unset] [(.ref b1)])) _
  refine XS.iconst X6.here hx rfl (hb hby at_47) ?_
  show Steps p.tables e below (T6.setTop (mkF m 48 #[.val (.int p0), .val (.int p1), .val (.int p2), .val (.int p3), .val (.int p4), .val (.int p5), .val (.ref b1), .unset, .unset, .unset, .unset, .unset] [(.int (5 : Int32)), (.ref b1)])) _
  refine XS.iloadN X6.here hx rfl (hb hby at_48) rfl ?_
  show Steps p.tables e below (T6.setTop (mkF m 49 #[.val (.int p0), .val (.int p1), .val (.int p2), .val (.int p3), .val (.int p4), .val (.int p5), .val (.ref b1), .unset, .unset, .unset, .unset, .unset] [(.int p1), (.int (5 : Int32)), (.ref b1)])) _
  refine XS.bipush X6.here hx rfl (hb hby at_49) ?_
  show Steps p.tables e below (T6.setTop (mkF m 51 #[.val (.int p0), .val (.int p1), .val (.int p2), .val (.int p3), .val (.int p4), .val (.int p5), .val (.ref b1), .unset, .unset, .unset, .unset, .unset] [(.int (8 : Int32)), (.int p1), (.int (5 : Int32)), (.ref b1)])) _
  refine XS.iushr X6.here hx rfl (hb hby at_51) rfl ?_
  show Steps p.tables e below (T6.setTop (mkF m 52 #[.val (.int p0), .val (.int p1), .val (.int p2), .val (.int p3), .val (.int p4), .val (.int p5), .val (.ref b1), .unset, .unset, .unset, .unset, .unset] [(.int ((p1.toUInt32 >>> ((8 : Int32) &&& 31).toUInt32).toInt32)), (.int (5 : Int32)), (.ref b1)])) _
  refine XS.i2b X6.here hx rfl (hb hby at_52) rfl ?_
  show Steps p.tables e below (T6.setTop (mkF m 53 #[.val (.int p0), .val (.int p1), .val (.int p2), .val (.int p3), .val (.int p4), .val (.int p5), .val (.ref b1), .unset, .unset, .unset, .unset, .unset] [(.int (((p1.toUInt32 >>> ((8 : Int32) &&& 31).toUInt32).toInt32).toInt8.toInt32)), (.int (5 : Int32)), (.ref b1)])) _
  refine st7 _ ?_
  show Steps p.tables e below (T7.setTop (mkF m 54 #[.val (.int p0), .val (.int p1), .val (.int p2), .val (.int p3), .val (.int p4), .val (.int p5), .val (.ref b1), .unset, .unset, .unset, .unset, .unset] [])) _
  refine XS.aload X7.here hx rfl (hb hby at_54) rfl rfl ?_
  show Steps p.tables e below (T7.setTop (mkF m 56 #[.val (.int p0), .val (.int p1), .val (.int p2), .val (.int p3), .val (.int p4), .val (.int p5), .val (.ref b1), .unset, .unset, .unset, .unset, .unset] [(.ref b1)])) _
  refine XS.bipush X7.here hx rfl (hb hby at_56) ?_
  show Steps p.tables e below (T7.setTop (mkF m 58 #[.val (.int p0), .val (.int p1), .val (.int p2), .val (.int p3), .val (.int p4), .val (.int p5), .val (.ref b1), .unset, .unset, .unset, .unset, .unset] [(.int (6 : Int32)), (.ref b1)])) _
  refine XS.iloadN X7.here hx rfl (hb hby at_58) rfl ?_
  show Steps p.tables e below (T7.setTop (mkF m 59 #[.val (.int p0), .val (.int p1), .val (.int p2), .val (.int p3), .val (.int p4), .val (.int p5), .val (.ref b1), .unset, .unset, .unset, .unset, .unset] [(.int p1), (.int (6 : Int32)), (.ref b1)])) _
  refine XS.bipush X7.here hx rfl (hb hby at_59) ?_
  show Steps p.tables e below (T7.setTop (mkF m 61 #[.val (.int p0), .val (.int p1), .val (.int p2), .val (.int p3), .val (.int p4), .val (.int p5), .val (.ref b1), .unset, .unset, .unset, .unset, .unset] [(.int (16 : Int32)), (.int p1), (.int (6 : Int32)), (.ref b1)])) _
  refine XS.iushr X7.here hx rfl (hb hby at_61) rfl ?_
  show Steps p.tables e below (T7.setTop (mkF m 62 #[.val (.int p0), .val (.int p1), .val (.int p2), .val (.int p3), .val (.int p4), .val (.int p5), .val (.ref b1), .unset, .unset, .unset, .unset, .unset] [(.int ((p1.toUInt32 >>> ((16 : Int32) &&& 31).toUInt32).toInt32)), (.int (6 : Int32)), (.ref b1)])) _
  refine XS.i2b X7.here hx rfl (hb hby at_62) rfl ?_
  show Steps p.tables e below (T7.setTop (mkF m 63 #[.val (.int p0), .val (.int p1), .val (.int p2), .val (.int p3), .val (.int p4), .val (.int p5), .val (.ref b1), .unset, .unset, .unset, .unset, .unset] [(.int (((p1.toUInt32 >>> ((16 : Int32) &&& 31).toUInt32).toInt32).toInt8.toInt32)), (.int (6 : Int32)), (.ref b1)])) _
  refine st8 _ ?_
  show Steps p.tables e below (T8.setTop (mkF m 64 #[.val (.int p0), .val (.int p1), .val (.int p2), .val (.int p3), .val (.int p4), .val (.int p5), .val (.ref b1), .unset, .unset, .unset, .unset, .unset] [])) _
  refine XS.aload X8.here hx rfl (hb hby at_64) rfl rfl ?_
  show Steps p.tables e below (T8.setTop (mkF m 66 #[.val (.int p0), .val (.int p1), .val (.int p2), .val (.int p3), .val (.int p4), .val (.int p5), .val (.ref b1), .unset, .unset, .unset, .unset, .unset] [(.ref b1)])) _
  refine XS.bipush X8.here hx rfl (hb hby at_66) ?_
  show Steps p.tables e below (T8.setTop (mkF m 68 #[.val (.int p0), .val (.int p1), .val (.int p2), .val (.int p3), .val (.int p4), .val (.int p5), .val (.ref b1), .unset, .unset, .unset, .unset, .unset] [(.int (7 : Int32)), (.ref b1)])) _
  refine XS.iloadN X8.here hx rfl (hb hby at_68) rfl ?_
  show Steps p.tables e below (T8.setTop (mkF m 69 #[.val (.int p0), .val (.int p1), .val (.int p2), .val (.int p3), .val (.int p4), .val (.int p5), .val (.ref b1), .unset, .unset, .unset, .unset, .unset] [(.int p1), (.int (7 : Int32)), (.ref b1)])) _
  refine XS.bipush X8.here hx rfl (hb hby at_69) ?_
  show Steps p.tables e below (T8.setTop (mkF m 71 #[.val (.int p0), .val (.int p1), .val (.int p2), .val (.int p3), .val (.int p4), .val (.int p5), .val (.ref b1), .unset, .unset, .unset, .unset, .unset] [(.int (24 : Int32)), (.int p1), (.int (7 : Int32)), (.ref b1)])) _
  refine XS.iushr X8.here hx rfl (hb hby at_71) rfl ?_
  show Steps p.tables e below (T8.setTop (mkF m 72 #[.val (.int p0), .val (.int p1), .val (.int p2), .val (.int p3), .val (.int p4), .val (.int p5), .val (.ref b1), .unset, .unset, .unset, .unset, .unset] [(.int ((p1.toUInt32 >>> ((24 : Int32) &&& 31).toUInt32).toInt32)), (.int (7 : Int32)), (.ref b1)])) _
  refine XS.i2b X8.here hx rfl (hb hby at_72) rfl ?_
  show Steps p.tables e below (T8.setTop (mkF m 73 #[.val (.int p0), .val (.int p1), .val (.int p2), .val (.int p3), .val (.int p4), .val (.int p5), .val (.ref b1), .unset, .unset, .unset, .unset, .unset] [(.int (((p1.toUInt32 >>> ((24 : Int32) &&& 31).toUInt32).toInt32).toInt8.toInt32)), (.int (7 : Int32)), (.ref b1)])) _
  refine st9 _ ?_
  show Steps p.tables e below (T9.setTop (mkF m 74 #[.val (.int p0), .val (.int p1), .val (.int p2), .val (.int p3), .val (.int p4), .val (.int p5), .val (.ref b1), .unset, .unset, .unset, .unset, .unset] [])) _
  refine XS.iloadN X9.here hx rfl (hb hby at_74) rfl ?_
  show Steps p.tables e below (T9.setTop (mkF m 75 #[.val (.int p0), .val (.int p1), .val (.int p2), .val (.int p3), .val (.int p4), .val (.int p5), .val (.ref b1), .unset, .unset, .unset, .unset, .unset] [(.int p2)])) _
  refine X9.ldcI hx hown (mvT hZ (hw _ (List.mem_of_getElem? (i := 1) rfl))) rfl (hb hby at_75) ?_
  show Steps p.tables e below (T9.setTop (mkF m 77 #[.val (.int p0), .val (.int p1), .val (.int p2), .val (.int p3), .val (.int p4), .val (.int p5), .val (.ref b1), .unset, .unset, .unset, .unset, .unset] [(.int (2147483647 : Int32)), (.int p2)])) _
  refine XS.iand X9.here hx rfl (hb hby at_77) rfl ?_
  show Steps p.tables e below (T9.setTop (mkF m 78 #[.val (.int p0), .val (.int p1), .val (.int p2), .val (.int p3), .val (.int p4), .val (.int p5), .val (.ref b1), .unset, .unset, .unset, .unset, .unset] [(.int (p2 &&& (2147483647 : Int32)))])) _
  refine XS.iconst X9.here hx rfl (hb hby at_78) ?_
  show Steps p.tables e below (T9.setTop (mkF m 79 #[.val (.int p0), .val (.int p1), .val (.int p2), .val (.int p3), .val (.int p4), .val (.int p5), .val (.ref b1), .unset, .unset, .unset, .unset, .unset] [(.int (5 : Int32)), (.int (p2 &&& (2147483647 : Int32)))])) _
  refine iremM X9 hx rfl (hb hby at_79) rfl (by decide) ?_
  show Steps p.tables e below (T9.setTop (mkF m 80 #[.val (.int p0), .val (.int p1), .val (.int p2), .val (.int p3), .val (.int p4), .val (.int p5), .val (.ref b1), .unset, .unset, .unset, .unset, .unset] [(.int ((p2 &&& (2147483647 : Int32)) % (5 : Int32)))])) _
  refine XS.istore X9.here hx rfl (hb hby at_80) rfl (l' := #[.val (.int p0), .val (.int p1), .val (.int p2), .val (.int p3), .val (.int p4), .val (.int p5), .val (.ref b1), .val (.int ((p2 &&& (2147483647 : Int32)) % (5 : Int32))), .unset, .unset, .unset, .unset]) rfl ?_
  show Steps p.tables e below (T9.setTop (mkF m 82 #[.val (.int p0), .val (.int p1), .val (.int p2), .val (.int p3), .val (.int p4), .val (.int p5), .val (.ref b1), .val (.int ((p2 &&& (2147483647 : Int32)) % (5 : Int32))), .unset, .unset, .unset, .unset] [])) _
  rw [h_of]
  show Steps p.tables e below (T9.setTop (mkF m 82 #[.val (.int p0), .val (.int p1), .val (.int p2), .val (.int p3), .val (.int p4), .val (.int p5), .val (.ref b1), .val (.int of), .unset, .unset, .unset, .unset] [])) _
  refine XS.iloadN X9.here hx rfl (hb hby at_82) rfl ?_
  show Steps p.tables e below (T9.setTop (mkF m 83 #[.val (.int p0), .val (.int p1), .val (.int p2), .val (.int p3), .val (.int p4), .val (.int p5), .val (.ref b1), .val (.int of), .unset, .unset, .unset, .unset] [(.int p3)])) _
  refine X9.ldcI hx hown (mvT hZ (hw _ (List.mem_of_getElem? (i := 1) rfl))) rfl (hb hby at_83) ?_
  show Steps p.tables e below (T9.setTop (mkF m 85 #[.val (.int p0), .val (.int p1), .val (.int p2), .val (.int p3), .val (.int p4), .val (.int p5), .val (.ref b1), .val (.int of), .unset, .unset, .unset, .unset] [(.int (2147483647 : Int32)), (.int p3)])) _
  refine XS.iand X9.here hx rfl (hb hby at_85) rfl ?_
  show Steps p.tables e below (T9.setTop (mkF m 86 #[.val (.int p0), .val (.int p1), .val (.int p2), .val (.int p3), .val (.int p4), .val (.int p5), .val (.ref b1), .val (.int of), .unset, .unset, .unset, .unset] [(.int (p3 &&& (2147483647 : Int32)))])) _
  refine XS.bipush X9.here hx rfl (hb hby at_86) ?_
  show Steps p.tables e below (T9.setTop (mkF m 88 #[.val (.int p0), .val (.int p1), .val (.int p2), .val (.int p3), .val (.int p4), .val (.int p5), .val (.ref b1), .val (.int of), .unset, .unset, .unset, .unset] [(.int (17 : Int32)), (.int (p3 &&& (2147483647 : Int32)))])) _
  refine iremM X9 hx rfl (hb hby at_88) rfl (by decide) ?_
  show Steps p.tables e below (T9.setTop (mkF m 89 #[.val (.int p0), .val (.int p1), .val (.int p2), .val (.int p3), .val (.int p4), .val (.int p5), .val (.ref b1), .val (.int of), .unset, .unset, .unset, .unset] [(.int ((p3 &&& (2147483647 : Int32)) % (17 : Int32)))])) _
  refine XS.istore X9.here hx rfl (hb hby at_89) rfl (l' := #[.val (.int p0), .val (.int p1), .val (.int p2), .val (.int p3), .val (.int p4), .val (.int p5), .val (.ref b1), .val (.int of), .val (.int ((p3 &&& (2147483647 : Int32)) % (17 : Int32))), .unset, .unset, .unset]) rfl ?_
  show Steps p.tables e below (T9.setTop (mkF m 91 #[.val (.int p0), .val (.int p1), .val (.int p2), .val (.int p3), .val (.int p4), .val (.int p5), .val (.ref b1), .val (.int of), .val (.int ((p3 &&& (2147483647 : Int32)) % (17 : Int32))), .unset, .unset, .unset] [])) _
  rw [h_k1]
  show Steps p.tables e below (T9.setTop (mkF m 91 #[.val (.int p0), .val (.int p1), .val (.int p2), .val (.int p3), .val (.int p4), .val (.int p5), .val (.ref b1), .val (.int of), .val (.int k1), .unset, .unset, .unset] [])) _
  refine XS.iload X9.here hx rfl (hb hby at_91) rfl ?_
  show Steps p.tables e below (T9.setTop (mkF m 93 #[.val (.int p0), .val (.int p1), .val (.int p2), .val (.int p3), .val (.int p4), .val (.int p5), .val (.ref b1), .val (.int of), .val (.int k1), .unset, .unset, .unset] [(.int p4)])) _
  refine X9.ldcI hx hown (mvT hZ (hw _ (List.mem_of_getElem? (i := 1) rfl))) rfl (hb hby at_93) ?_
  show Steps p.tables e below (T9.setTop (mkF m 95 #[.val (.int p0), .val (.int p1), .val (.int p2), .val (.int p3), .val (.int p4), .val (.int p5), .val (.ref b1), .val (.int of), .val (.int k1), .unset, .unset, .unset] [(.int (2147483647 : Int32)), (.int p4)])) _
  refine XS.iand X9.here hx rfl (hb hby at_95) rfl ?_
  show Steps p.tables e below (T9.setTop (mkF m 96 #[.val (.int p0), .val (.int p1), .val (.int p2), .val (.int p3), .val (.int p4), .val (.int p5), .val (.ref b1), .val (.int of), .val (.int k1), .unset, .unset, .unset] [(.int (p4 &&& (2147483647 : Int32)))])) _
  refine XS.bipush X9.here hx rfl (hb hby at_96) ?_
  show Steps p.tables e below (T9.setTop (mkF m 98 #[.val (.int p0), .val (.int p1), .val (.int p2), .val (.int p3), .val (.int p4), .val (.int p5), .val (.ref b1), .val (.int of), .val (.int k1), .unset, .unset, .unset] [(.int (17 : Int32)), (.int (p4 &&& (2147483647 : Int32)))])) _
  refine iremM X9 hx rfl (hb hby at_98) rfl (by decide) ?_
  show Steps p.tables e below (T9.setTop (mkF m 99 #[.val (.int p0), .val (.int p1), .val (.int p2), .val (.int p3), .val (.int p4), .val (.int p5), .val (.ref b1), .val (.int of), .val (.int k1), .unset, .unset, .unset] [(.int ((p4 &&& (2147483647 : Int32)) % (17 : Int32)))])) _
  refine XS.istore X9.here hx rfl (hb hby at_99) rfl (l' := #[.val (.int p0), .val (.int p1), .val (.int p2), .val (.int p3), .val (.int p4), .val (.int p5), .val (.ref b1), .val (.int of), .val (.int k1), .val (.int ((p4 &&& (2147483647 : Int32)) % (17 : Int32))), .unset, .unset]) rfl ?_
  show Steps p.tables e below (T9.setTop (mkF m 101 #[.val (.int p0), .val (.int p1), .val (.int p2), .val (.int p3), .val (.int p4), .val (.int p5), .val (.ref b1), .val (.int of), .val (.int k1), .val (.int ((p4 &&& (2147483647 : Int32)) % (17 : Int32))), .unset, .unset] [])) _
  rw [h_k2]
  show Steps p.tables e below (T9.setTop (mkF m 101 #[.val (.int p0), .val (.int p1), .val (.int p2), .val (.int p3), .val (.int p4), .val (.int p5), .val (.ref b1), .val (.int of), .val (.int k1), .val (.int k2), .unset, .unset] [])) _
  refine st10 _ ?_
  show Steps p.tables e below (T10.setTop (mkF m 104 #[.val (.int p0), .val (.int p1), .val (.int p2), .val (.int p3), .val (.int p4), .val (.int p5), .val (.ref b1), .val (.int of), .val (.int k1), .val (.int k2), .unset, .unset] [(.ref b10)])) _
  refine XS.dup X10.here hx rfl (hb hby at_104) rfl rfl ?_
  show Steps p.tables e below (T10.setTop (mkF m 105 #[.val (.int p0), .val (.int p1), .val (.int p2), .val (.int p3), .val (.int p4), .val (.int p5), .val (.ref b1), .val (.int of), .val (.int k1), .val (.int k2), .unset, .unset] [(.ref b10), (.ref b10)])) _
  refine XS.aload X10.here hx rfl (hb hby at_105) rfl rfl ?_
  show Steps p.tables e below (T10.setTop (mkF m 107 #[.val (.int p0), .val (.int p1), .val (.int p2), .val (.int p3), .val (.int p4), .val (.int p5), .val (.ref b1), .val (.int of), .val (.int k1), .val (.int k2), .unset, .unset] [(.ref b1), (.ref b10), (.ref b10)])) _
  refine XS.iload X10.here hx rfl (hb hby at_107) rfl ?_
  show Steps p.tables e below (T10.setTop (mkF m 109 #[.val (.int p0), .val (.int p1), .val (.int p2), .val (.int p3), .val (.int p4), .val (.int p5), .val (.ref b1), .val (.int of), .val (.int k1), .val (.int k2), .unset, .unset] [(.int of), (.ref b1), (.ref b10), (.ref b10)])) _
  refine st12.trans ?_
  show Steps p.tables e below (T12.setTop (mkF m 112 #[.val (.int p0), .val (.int p1), .val (.int p2), .val (.int p3), .val (.int p4), .val (.int p5), .val (.ref b1), .val (.int of), .val (.int k1), .val (.int k2), .unset, .unset] [(.ref b10)])) _
  refine XS.astore X12.here hx rfl (hb hby at_112) rfl rfl (l' := #[.val (.int p0), .val (.int p1), .val (.int p2), .val (.int p3), .val (.int p4), .val (.int p5), .val (.ref b1), .val (.int of), .val (.int k1), .val (.int k2), .val (.ref b10), .unset]) rfl ?_
  show Steps p.tables e below (T12.setTop (mkF m 114 #[.val (.int p0), .val (.int p1), .val (.int p2), .val (.int p3), .val (.int p4), .val (.int p5), .val (.ref b1), .val (.int of), .val (.int k1), .val (.int k2), .val (.ref b10), .unset] [])) _
  refine XS.aload X12.here hx rfl (hb hby at_114) rfl rfl ?_
  show Steps p.tables e below (T12.setTop (mkF m 116 #[.val (.int p0), .val (.int p1), .val (.int p2), .val (.int p3), .val (.int p4), .val (.int p5), .val (.ref b1), .val (.int of), .val (.int k1), .val (.int k2), .val (.ref b10), .unset] [(.ref b10)])) _
  refine XS.iload X12.here hx rfl (hb hby at_116) rfl ?_
  show Steps p.tables e below (T12.setTop (mkF m 118 #[.val (.int p0), .val (.int p1), .val (.int p2), .val (.int p3), .val (.int p4), .val (.int p5), .val (.ref b1), .val (.int of), .val (.int k1), .val (.int k2), .val (.ref b10), .unset] [(.int k1), (.ref b10)])) _
  refine st14.trans ?_
  show Steps p.tables e below (T14.setTop (mkF m 121 #[.val (.int p0), .val (.int p1), .val (.int p2), .val (.int p3), .val (.int p4), .val (.int p5), .val (.ref b1), .val (.int of), .val (.int k1), .val (.int k2), .val (.ref b10), .unset] [(.int ra)])) _
  refine XS.pop X14.here hx rfl (hb hby at_121) rfl rfl ?_
  show Steps p.tables e below (T14.setTop (mkF m 122 #[.val (.int p0), .val (.int p1), .val (.int p2), .val (.int p3), .val (.int p4), .val (.int p5), .val (.ref b1), .val (.int of), .val (.int k1), .val (.int k2), .val (.ref b10), .unset] [])) _
  refine XS.aload X14.here hx rfl (hb hby at_122) rfl rfl ?_
  show Steps p.tables e below (T14.setTop (mkF m 124 #[.val (.int p0), .val (.int p1), .val (.int p2), .val (.int p3), .val (.int p4), .val (.int p5), .val (.ref b1), .val (.int of), .val (.int k1), .val (.int k2), .val (.ref b10), .unset] [(.ref b10)])) _
  refine XS.iload X14.here hx rfl (hb hby at_124) rfl ?_
  show Steps p.tables e below (T14.setTop (mkF m 126 #[.val (.int p0), .val (.int p1), .val (.int p2), .val (.int p3), .val (.int p4), .val (.int p5), .val (.ref b1), .val (.int of), .val (.int k1), .val (.int k2), .val (.ref b10), .unset] [(.int k2), (.ref b10)])) _
  refine st16.trans ?_
  show Steps p.tables e below (T16.setTop (mkF m 129 #[.val (.int p0), .val (.int p1), .val (.int p2), .val (.int p3), .val (.int p4), .val (.int p5), .val (.ref b1), .val (.int of), .val (.int k1), .val (.int k2), .val (.ref b10), .unset] [(.int rb)])) _
  refine XS.pop X16.here hx rfl (hb hby at_129) rfl rfl ?_
  show Steps p.tables e below (T16.setTop (mkF m 130 #[.val (.int p0), .val (.int p1), .val (.int p2), .val (.int p3), .val (.int p4), .val (.int p5), .val (.ref b1), .val (.int of), .val (.int k1), .val (.int k2), .val (.ref b10), .unset] [])) _
  refine XS.aload X16.here hx rfl (hb hby at_130) rfl rfl ?_
  show Steps p.tables e below (T16.setTop (mkF m 132 #[.val (.int p0), .val (.int p1), .val (.int p2), .val (.int p3), .val (.int p4), .val (.int p5), .val (.ref b1), .val (.int of), .val (.int k1), .val (.int k2), .val (.ref b10), .unset] [(.ref b10)])) _
  refine st18.trans ?_
  show Steps p.tables e below (T18.setTop (mkF m 135 #[.val (.int p0), .val (.int p1), .val (.int p2), .val (.int p3), .val (.int p4), .val (.int p5), .val (.ref b1), .val (.int of), .val (.int k1), .val (.int k2), .val (.ref b10), .unset] [])) _
  refine XS.iload X18.here hx rfl (hb hby at_135) rfl ?_
  show Steps p.tables e below (T18.setTop (mkF m 137 #[.val (.int p0), .val (.int p1), .val (.int p2), .val (.int p3), .val (.int p4), .val (.int p5), .val (.ref b1), .val (.int of), .val (.int k1), .val (.int k2), .val (.ref b10), .unset] [(.int p5)])) _
  refine XS.iconst X18.here hx rfl (hb hby at_137) ?_
  show Steps p.tables e below (T18.setTop (mkF m 138 #[.val (.int p0), .val (.int p1), .val (.int p2), .val (.int p3), .val (.int p4), .val (.int p5), .val (.ref b1), .val (.int of), .val (.int k1), .val (.int k2), .val (.ref b10), .unset] [(.int (1 : Int32)), (.int p5)])) _
  refine XS.iand X18.here hx rfl (hb hby at_138) rfl ?_
  show Steps p.tables e below (T18.setTop (mkF m 139 #[.val (.int p0), .val (.int p1), .val (.int p2), .val (.int p3), .val (.int p4), .val (.int p5), .val (.ref b1), .val (.int of), .val (.int k1), .val (.int k2), .val (.ref b10), .unset] [(.int (p5 &&& (1 : Int32)))])) _
  refine XS.ifNo X18.here hx rfl (hb hby at_139) rfl ((if0 _ _).trans (feq hs).1) ?_
  show Steps p.tables e below (T18.setTop (mkF m 142 #[.val (.int p0), .val (.int p1), .val (.int p2), .val (.int p3), .val (.int p4), .val (.int p5), .val (.ref b1), .val (.int of), .val (.int k1), .val (.int k2), .val (.ref b10), .unset] [])) _
  refine XS.aload X18.here hx rfl (hb hby at_142) rfl rfl ?_
  show Steps p.tables e below (T18.setTop (mkF m 144 #[.val (.int p0), .val (.int p1), .val (.int p2), .val (.int p3), .val (.int p4), .val (.int p5), .val (.ref b1), .val (.int of), .val (.int k1), .val (.int k2), .val (.ref b10), .unset] [(.ref b10)])) _
  refine st20.trans ?_
  show Steps p.tables e below (T20.setTop (mkF m 147 #[.val (.int p0), .val (.int p1), .val (.int p2), .val (.int p3), .val (.int p4), .val (.int p5), .val (.ref b1), .val (.int of), .val (.int k1), .val (.int k2), .val (.ref b10), .unset] [])) _
  refine XS.iload X20.here hx rfl (hb hby at_147) rfl ?_
  show Steps p.tables e below (T20.setTop (mkF m 149 #[.val (.int p0), .val (.int p1), .val (.int p2), .val (.int p3), .val (.int p4), .val (.int p5), .val (.ref b1), .val (.int of), .val (.int k1), .val (.int k2), .val (.ref b10), .unset] [(.int of)])) _
  refine XS.iload X20.here hx rfl (hb hby at_149) rfl ?_
  show Steps p.tables e below (T20.setTop (mkF m 151 #[.val (.int p0), .val (.int p1), .val (.int p2), .val (.int p3), .val (.int p4), .val (.int p5), .val (.ref b1), .val (.int of), .val (.int k1), .val (.int k2), .val (.ref b10), .unset] [(.int k1), (.int of)])) _
  refine XS.iload X20.here hx rfl (hb hby at_151) rfl ?_
  show Steps p.tables e below (T20.setTop (mkF m 153 #[.val (.int p0), .val (.int p1), .val (.int p2), .val (.int p3), .val (.int p4), .val (.int p5), .val (.ref b1), .val (.int of), .val (.int k1), .val (.int k2), .val (.ref b10), .unset] [(.int k2), (.int k1), (.int of)])) _
  refine XS.iadd X20.here hx rfl (hb hby at_153) rfl ?_
  show Steps p.tables e below (T20.setTop (mkF m 154 #[.val (.int p0), .val (.int p1), .val (.int p2), .val (.int p3), .val (.int p4), .val (.int p5), .val (.ref b1), .val (.int of), .val (.int k1), .val (.int k2), .val (.ref b10), .unset] [(.int (k1 + k2)), (.int of)])) _
  refine XS.bipush X20.here hx rfl (hb hby at_154) ?_
  show Steps p.tables e below (T20.setTop (mkF m 156 #[.val (.int p0), .val (.int p1), .val (.int p2), .val (.int p3), .val (.int p4), .val (.int p5), .val (.ref b1), .val (.int of), .val (.int k1), .val (.int k2), .val (.ref b10), .unset] [(.int (7 : Int32)), (.int (k1 + k2)), (.int of)])) _
  refine XS.iadd X20.here hx rfl (hb hby at_156) rfl ?_
  show Steps p.tables e below (T20.setTop (mkF m 157 #[.val (.int p0), .val (.int p1), .val (.int p2), .val (.int p3), .val (.int p4), .val (.int p5), .val (.ref b1), .val (.int of), .val (.int k1), .val (.int k2), .val (.ref b10), .unset] [(.int ((k1 + k2) + (7 : Int32))), (.int of)])) _
  refine XS.bipush X20.here hx rfl (hb hby at_157) ?_
  show Steps p.tables e below (T20.setTop (mkF m 159 #[.val (.int p0), .val (.int p1), .val (.int p2), .val (.int p3), .val (.int p4), .val (.int p5), .val (.ref b1), .val (.int of), .val (.int k1), .val (.int k2), .val (.ref b10), .unset] [(.int (8 : Int32)), (.int ((k1 + k2) + (7 : Int32))), (.int of)])) _
  refine XS.idiv X20.here hx rfl (hb hby at_159) rfl (by decide) ?_
  show Steps p.tables e below (T20.setTop (mkF m 160 #[.val (.int p0), .val (.int p1), .val (.int p2), .val (.int p3), .val (.int p4), .val (.int p5), .val (.ref b1), .val (.int of), .val (.int k1), .val (.int k2), .val (.ref b10), .unset] [(.int (((k1 + k2) + (7 : Int32)) / (8 : Int32))), (.int of)])) _
  refine XS.iadd X20.here hx rfl (hb hby at_160) rfl ?_
  show Steps p.tables e below (T20.setTop (mkF m 161 #[.val (.int p0), .val (.int p1), .val (.int p2), .val (.int p3), .val (.int p4), .val (.int p5), .val (.ref b1), .val (.int of), .val (.int k1), .val (.int k2), .val (.ref b10), .unset] [(.int (of + (((k1 + k2) + (7 : Int32)) / (8 : Int32))))])) _
  refine XS.istore X20.here hx rfl (hb hby at_161) rfl (l' := #[.val (.int p0), .val (.int p1), .val (.int p2), .val (.int p3), .val (.int p4), .val (.int p5), .val (.ref b1), .val (.int of), .val (.int k1), .val (.int k2), .val (.ref b10), .val (.int (of + (((k1 + k2) + (7 : Int32)) / (8 : Int32))))]) rfl ?_
  show Steps p.tables e below (T20.setTop (mkF m 163 #[.val (.int p0), .val (.int p1), .val (.int p2), .val (.int p3), .val (.int p4), .val (.int p5), .val (.ref b1), .val (.int of), .val (.int k1), .val (.int k2), .val (.ref b10), .val (.int (of + (((k1 + k2) + (7 : Int32)) / (8 : Int32))))] [])) _
  rw [h_ps]
  show Steps p.tables e below (T20.setTop (mkF m 163 #[.val (.int p0), .val (.int p1), .val (.int p2), .val (.int p3), .val (.int p4), .val (.int p5), .val (.ref b1), .val (.int of), .val (.int k1), .val (.int k2), .val (.ref b10), .val (.int ps)] [])) _
  refine XS.aload X20.here hx rfl (hb hby at_163) rfl rfl ?_
  show Steps p.tables e below (T20.setTop (mkF m 165 #[.val (.int p0), .val (.int p1), .val (.int p2), .val (.int p3), .val (.int p4), .val (.int p5), .val (.ref b1), .val (.int of), .val (.int k1), .val (.int k2), .val (.ref b10), .val (.int ps)] [(.ref b10)])) _
  refine st22.trans ?_
  show Steps p.tables e below (T22.setTop (mkF m 168 #[.val (.int p0), .val (.int p1), .val (.int p2), .val (.int p3), .val (.int p4), .val (.int p5), .val (.ref b1), .val (.int of), .val (.int k1), .val (.int k2), .val (.ref b10), .val (.int ps)] [(.int bp)])) _
  refine XS.iload X22.here hx rfl (hb hby at_168) rfl ?_
  show Steps p.tables e below (T22.setTop (mkF m 170 #[.val (.int p0), .val (.int p1), .val (.int p2), .val (.int p3), .val (.int p4), .val (.int p5), .val (.ref b1), .val (.int of), .val (.int k1), .val (.int k2), .val (.ref b10), .val (.int ps)] [(.int ps), (.int bp)])) _
  refine XS.icmpYes X22.here hx rfl (pc0 := 170) (pc' := 175) rfl (hb hby at_170) rfl (teq hbp).1 (by decide) (by decide) ?_
  show Steps p.tables e below (T22.setTop (mkF m 175 #[.val (.int p0), .val (.int p1), .val (.int p2), .val (.int p3), .val (.int p4), .val (.int p5), .val (.ref b1), .val (.int of), .val (.int k1), .val (.int k2), .val (.ref b10), .val (.int ps)] [])) _
  refine XS.iload X22.here hx rfl (hb hby at_175) rfl ?_
  show Steps p.tables e below (T22.setTop (mkF m 177 #[.val (.int p0), .val (.int p1), .val (.int p2), .val (.int p3), .val (.int p4), .val (.int p5), .val (.ref b1), .val (.int of), .val (.int k1), .val (.int k2), .val (.ref b10), .val (.int ps)] [(.int ps)])) _
  refine XS.bipush X22.here hx rfl (hb hby at_177) ?_
  show Steps p.tables e below (T22.setTop (mkF m 179 #[.val (.int p0), .val (.int p1), .val (.int p2), .val (.int p3), .val (.int p4), .val (.int p5), .val (.ref b1), .val (.int of), .val (.int k1), .val (.int k2), .val (.ref b10), .val (.int ps)] [(.int (8 : Int32)), (.int ps)])) _
  refine XS.icmpNo X22.here hx rfl (hb hby at_179) rfl (flt hfar).1 ?_
  show Steps p.tables e below (T22.setTop (mkF m 182 #[.val (.int p0), .val (.int p1), .val (.int p2), .val (.int p3), .val (.int p4), .val (.int p5), .val (.ref b1), .val (.int of), .val (.int k1), .val (.int k2), .val (.ref b10), .val (.int ps)] [])) _
  refine XS.iconst X22.here hx rfl (hb hby at_182) ?_
  show Steps p.tables e below (T22.setTop (mkF m 183 #[.val (.int p0), .val (.int p1), .val (.int p2), .val (.int p3), .val (.int p4), .val (.int p5), .val (.ref b1), .val (.int of), .val (.int k1), .val (.int k2), .val (.ref b10), .val (.int ps)] [(.int (1 : Int32))])) _
  exact retN X22 hx (t := .boolean) Bd.returns (by simp) (hb hby at_183) hr
def Q0 (Z : State) (p0 : Int32) (p1 : Int32) (p2 : Int32) (p3 : Int32) (p4 : Int32) (p5 : Int32) (h0 : Heap) (n0 : Nat) (v : Option Value) (h : Heap) (L : List Loc) : Prop := v = some (.int (1 : Int32)) ∧ Fr n0 L
set_option maxRecDepth 65536 in
set_option maxHeartbeats 40000000 in
theorem rm0 (l : Launch) (Z : State) (a0 : Array Value) (hw : ∀ d ∈ tables_1, d.before a0 Z = true) (ws : List Jvm.Cond) (p0 : Int32) (p1 : Int32) (p2 : Int32) (p3 : Int32) (p4 : Int32) (p5 : Int32) (h0 : Heap) (n0 : Nat) (Z0 : n0 ≤ h0.size)  :
    MetFree l x (head1 (Jvm.Cond.code x code maxLocals ret :: ws) room_1) (fun a_ U_ => a_ = #[(.int p0), (.int p1), (.int p2), (.int p3), (.int p4), (.int p5)] ∧ Z.Warmed39 U_.vm ∧ U_.heap = h0) (fun _ _ _ _ _ => True) (fun _ U_ o_ U' => ∃ v_ L_, o_ = .returned v_ ∧ (Q0 Z p0 p1 p2 p3 p4 p5 h0 n0 v_ U'.heap L_) ∧ FrameEnd U_ o_ U' L_ room_1.cells room_1.slots) := by
  obtain ⟨of, h_of⟩ : ∃ z, ((p2 &&& (2147483647 : Int32)) % (5 : Int32)) = z := ⟨_, rfl⟩
  obtain ⟨k1, h_k1⟩ : ∃ z, ((p3 &&& (2147483647 : Int32)) % (17 : Int32)) = z := ⟨_, rfl⟩
  obtain ⟨k2, h_k2⟩ : ∃ z, ((p4 &&& (2147483647 : Int32)) % (17 : Int32)) = z := ⟨_, rfl⟩
  obtain ⟨ps, h_ps⟩ : ∃ z, (of + (((k1 + k2) + (7 : Int32)) / (8 : Int32))) = z := ⟨_, rfl⟩
  obtain ⟨f, hf⟩ : ∃ z, (own_up (own_up (own_up (own_up (own_up (own_up (own_up (own_up (fun _ => 0) 0 ((p0.toInt8.toInt32)).toInt8.toInt32) 1 ((((p0.toUInt32 >>> ((8 : Int32) &&& 31).toUInt32).toInt32).toInt8.toInt32)).toInt8.toInt32) 2 ((((p0.toUInt32 >>> ((16 : Int32) &&& 31).toUInt32).toInt32).toInt8.toInt32)).toInt8.toInt32) 3 ((((p0.toUInt32 >>> ((24 : Int32) &&& 31).toUInt32).toInt32).toInt8.toInt32)).toInt8.toInt32) 4 ((p1.toInt8.toInt32)).toInt8.toInt32) 5 ((((p1.toUInt32 >>> ((8 : Int32) &&& 31).toUInt32).toInt32).toInt8.toInt32)).toInt8.toInt32) 6 ((((p1.toUInt32 >>> ((16 : Int32) &&& 31).toUInt32).toInt32).toInt8.toInt32)).toInt8.toInt32) 7 ((((p1.toUInt32 >>> ((24 : Int32) &&& 31).toUInt32).toInt32).toInt8.toInt32)).toInt8.toInt32) = z := ⟨_, rfl⟩
  by_cases hs : (p5 &&& (1 : Int32)) = (0 : Int32)
  · by_cases hfar : ps < (8 : Int32)
    · exact rm000 l Z a0 hw ws p0 p1 p2 p3 p4 p5 of k1 k2 ps f h0 n0 Z0 h_of h_k1 h_k2 h_ps hf hs hfar
    · exact rm001 l Z a0 hw ws p0 p1 p2 p3 p4 p5 of k1 k2 ps f h0 n0 Z0 h_of h_k1 h_k2 h_ps hf hs hfar
  · by_cases hfar : ps < (8 : Int32)
    · exact rm010 l Z a0 hw ws p0 p1 p2 p3 p4 p5 of k1 k2 ps f h0 n0 Z0 h_of h_k1 h_k2 h_ps hf hs hfar
    · exact rm011 l Z a0 hw ws p0 p1 p2 p3 p4 p5 of k1 k2 ps f h0 n0 Z0 h_of h_k1 h_k2 h_ps hf hs hfar
set_option maxRecDepth 65536 in
set_option maxHeartbeats 40000000 in
theorem comes_1 {Post : Tables → Env → Array Value → State → Outcome → State → Prop} (hpost : ∀ tb e args s v u, (limb_1_1.after args s (.returned v) u = true ∧ limb_1_2.after args s (.returned v) u = true ∧ True) → FrameEnd s (.returned v) u (Jvm.fieldLocs frame_1_writes args s ++ Jvm.arrayLocs frame_1_arrays args s ++ Jvm.staticLocs frame_1_statics s) 16 128 → Post tb e args s (.returned v) u) :
    ArmFor flags0 classFile x code maxLocals ret World_1 tables_1 room_1 Calls_1 rest_1 Pre_1 Post := by
  intro l hfl _ _ p e ha hc hk s m args below hf hA hF happ hP
  obtain ⟨hcalls, hrest, hpre⟩ := hP
  obtain ⟨-, -, -, hnamed, -, -, -, hat⟩ := (Spec.applies_iff hf).mp happ
  obtain ⟨hg, hn⟩ := and_e (Cond.before_iff.mp (show (Jvm.Cond.and given_1 narrow_1).before args s = true from hpre))
  obtain ⟨gc, g0⟩ := and_e hg
  obtain ⟨k0, g1⟩ := and_e g0
  obtain ⟨k1, g2⟩ := and_e g1
  obtain ⟨k2, g3⟩ := and_e g2
  obtain ⟨k3, g4⟩ := and_e g3
  obtain ⟨k4, g5⟩ := and_e g4
  obtain ⟨w0, w1, w2, w3, w4, w5, rfl⟩ : ∃ w0 w1 w2 w3 w4 w5 : Value, args = #[w0, w1, w2, w3, w4, w5] := by
    have hs : args.size = 6 := by simpa [Cond.value, given_1] using gc
    obtain ⟨L⟩ := args
    match L, hs with
    | [w0, w1, w2, w3, w4, w5], _ => exact ⟨w0, w1, w2, w3, w4, w5, rfl⟩
  have hw := fun d (hd : d ∈ tables_1) => atoms_spec (ws := Jvm.Cond.code x code maxLocals ret :: tables_1) hat d (List.mem_cons_of_mem _ hd)
  obtain ⟨i0, ei0⟩ := is_v k0
  obtain rfl : w0 = (.int i0) := Option.some.inj ei0
  obtain ⟨i1, ei1⟩ := is_v k1
  obtain rfl : w1 = (.int i1) := Option.some.inj ei1
  obtain ⟨i2, ei2⟩ := is_v k2
  obtain rfl : w2 = (.int i2) := Option.some.inj ei2
  obtain ⟨i3, ei3⟩ := is_v k3
  obtain rfl : w3 = (.int i3) := Option.some.inj ei3
  obtain ⟨i4, ei4⟩ := is_v k4
  obtain rfl : w4 = (.int i4) := Option.some.inj ei4
  obtain ⟨i5, ei5⟩ := is_v g5
  obtain rfl : w5 = (.int i5) := Option.some.inj ei5
  obtain ⟨n, o, h1, h2, h3, _, L, rfl, ⟨rfl, N⟩, hq⟩ := rm0 l s _ hw tables_1 i0 i1 i2 i3 i4 i5 s.heap s.heap.size (Nat.le_refl _) p e ha hc hk s m _ below hf ((Spec.applies_iff_loose hf).mp happ).1 ⟨rfl, State.Warmed39.refl s, rfl⟩ trivial
  refine ⟨n, _, h1, h2, h3, hpost _ _ _ _ _ _ ⟨Cond.after_iff.mpr rfl, Cond.after_iff.mpr (eq_i res_at (Term.int_eval (1)) rfl), trivial⟩ ⟨hq.1, hq.2.1, (hq.2.2.sift fun y hy => Or.inr (N y hy)).mono (by decide) (by decide)⟩⟩
theorem main_1_1 : Claimed_1_1 := comes_1 fun _ _ _ _ _ _ h hF => ⟨h.1, hF⟩
theorem main_1_2 : Claimed_1_2 := comes_1 fun _ _ _ _ _ _ h hF => ⟨h.2.1, hF⟩
end Jvm.Pilot.@@N@@
namespace Jvm.Pilot.@@N@@
open Jvm Jvm.ClassFile Sem Op Lib Jvm.Free Jvm.Stand Jvm.Pilot.@@N@@.Jvm.D
/-! MADE BY PROGRAM (witnessworld.py) out of the Statement's table words and the real class files: 11 classes; the members and pool entries that the words name. The judged class is class 1, her method 1. -/
namespace start1
open Jvm.ClassFile
def u (s : String) : CpInfo := .utf8 (stringToUtf16 s)
/-- a pool by its gaps: so many unusable entries, then the entry; so many at the end -/
def gap : Nat → List CpInfo → List CpInfo
  | 0, r => r
  | n + 1, r => .unusable :: gap n r
def poolList (es : List (Nat × CpInfo)) (last : Nat) : List CpInfo := es.foldr (fun e r => gap e.1 (e.2 :: r)) (gap last [])
def pool (es : List (Nat × CpInfo)) (last : Nat) : Array CpInfo := ⟨poolList es last⟩
def fileOf (pool : Array CpInfo) (this : Nat) (attrs : Array Attribute := #[]) (ms : Array MethodInfo := #[]) (fl : Nat := 33) (sup : Nat := 0) (ifs : Array Nat := #[]) (fds : Array FieldInfo := #[]) : ClassFile where
  minorVersion := 0
  majorVersion := 65
  constantPool := pool
  accessFlags := fl
  thisClass := this
  superClass := sup
  interfaces := ifs
  fields := fds
  methods := ms
  attributes := attrs
def plain (name : String) (sup : Option ClassId) : Class where
  name := name
  kind := .ordinary
  loader := none
  accessFlags := 33
  super := sup
  interfaces := #[]
  cf := none
  fields := #[]
  methods := #[]
  instanceTypes := #[]
  staticTypes := #[]
  resolved := #[]
  callSites := []
  init := .initialized
  statics := none
  mirror := none

def pool0 : Array CpInfo := pool [(5, u "<init>"), (0, u "()V"), (1, .class_ 10), (1, u "java/lang/Object")] 113

def k0c0 : Code := { maxStack := 0, maxLocals := 1, code := object_method_1_code, exceptionTable := #[], attributes := #[] }
def k0m0 : Method := { name := "<init>", desc := "()V", sig := { parameters := [], returnType := none }, accessFlags := 1, code := some k0c0 }
/-- java/lang/Object -/
def k0 : Class := { plain "java/lang/Object" none with
  accessFlags := 33
  interfaces := #[]
  cf := some (fileOf pool0 8 #[] #[{ accessFlags := 1, nameIndex := 5, descriptorIndex := 6, attributes := #[] }] 33 0 #[] #[])
  fields := #[]
  methods := #[k0m0]
  instanceTypes := #[]
  staticTypes := #[]
  resolved := Array.replicate 124 none
  statics := none }

def pool1 : Array CpInfo := pool [(2, .class_ 4), (1, u "java/lang/Object"), (0, u "<init>"), (0, u "()V"), (0, .integer 2147483647), (0, .class_ 9), (0, u "com/example/fewbits/fewbits/deflate/DeflateBitReader"), (0, .methodref 8 11), (0, .nameAndType 5 12), (0, u "([BI)V"), (0, .methodref 8 14), (0, .nameAndType 15 16), (0, u "readBits"), (0, u "(I)I"), (0, .methodref 8 18), (0, .nameAndType 19 6), (0, u "alignToByte"), (0, .methodref 8 21), (0, .nameAndType 22 23), (0, u "getBytePosition"), (0, u "()I"), (0, .class_ 25), (0, u "com/example/fewbits/fewbits/deflate/DeflateBitReaderAlignToBytePinLaw"), (2, u "law"), (0, u "(IIIIII)Z")] 8

def k1m0 : Method := { name := "<init>", desc := "()V", sig := { parameters := [], returnType := none }, accessFlags := 1, code := none }
def k1c1 : Code := { maxStack := 4, maxLocals := 12, code := code, exceptionTable := #[], attributes := #[] }
def k1m1 : Method := { name := "law", desc := "(IIIIII)Z", sig := { parameters := [.int, .int, .int, .int, .int, .int], returnType := some .boolean }, accessFlags := 9, code := some k1c1 }
/-- com/example/fewbits/fewbits/deflate/DeflateBitReaderAlignToBytePinLaw -/
def k1 : Class := { plain "com/example/fewbits/fewbits/deflate/DeflateBitReaderAlignToBytePinLaw" (some 0) with
  accessFlags := 49
  interfaces := #[]
  cf := some (fileOf pool1 24 #[] #[{ accessFlags := 1, nameIndex := 5, descriptorIndex := 6, attributes := #[] }, { accessFlags := 9, nameIndex := 28, descriptorIndex := 29, attributes := #[] }] 49 2 #[] #[])
  fields := #[]
  methods := #[k1m0, k1m1]
  instanceTypes := #[]
  staticTypes := #[]
  resolved := Array.replicate 38 none
  statics := none }

def pool2 : Array CpInfo := pool [(1, .methodref 2 3), (0, .class_ 4), (0, .nameAndType 5 6), (0, u "java/lang/Object"), (0, u "<init>"), (0, u "()V"), (0, .methodref 8 9), (0, .class_ 10), (0, .nameAndType 11 12), (0, u "java/util/Objects"), (0, u "checkIndex"), (0, u "(II)I"), (0, .fieldref 14 15), (0, .class_ 16), (0, .nameAndType 17 18), (0, u "com/example/fewbits/fewbits/deflate/DeflateBitReader"), (0, u "m_aData"), (0, u "[B"), (0, .fieldref 14 20), (0, .nameAndType 21 22), (0, u "m_nNext"), (0, u "I"), (0, .fieldref 14 24), (0, .nameAndType 25 22), (0, u "m_nBufferBits"), (0, .methodref 14 27), (0, .nameAndType 28 6), (0, u "refill"), (0, .fieldref 14 30), (0, .nameAndType 31 32), (0, u "m_nBuffer"), (0, u "J"), (9, .methodref 14 43), (0, .nameAndType 44 45), (0, u "peekBits"), (0, u "(I)I"), (0, .methodref 14 47), (0, .nameAndType 48 49), (0, u "skipBits"), (0, u "(I)V"), (4, u "getBytePosition"), (0, u "()I"), (9, .long 255), (1, u "([BI)V"), (4, u "readBits"), (0, u "alignToByte")] 21

def k2c0 : Code := { maxStack := 3, maxLocals := 3, code := prog_31_method_1_code, exceptionTable := #[], attributes := #[] }
def k2m0 : Method := { name := "<init>", desc := "([BI)V", sig := { parameters := [(.array .byte), .int], returnType := none }, accessFlags := 0, code := some k2c0 }
def k2c1 : Code := { maxStack := 3, maxLocals := 2, code := prog_31_method_2_code, exceptionTable := #[], attributes := #[] }
def k2m1 : Method := { name := "peekBits", desc := "(I)I", sig := { parameters := [.int], returnType := some .int }, accessFlags := 0, code := some k2c1 }
def k2c2 : Code := { maxStack := 4, maxLocals := 2, code := prog_31_method_3_code, exceptionTable := #[], attributes := #[] }
def k2m2 : Method := { name := "skipBits", desc := "(I)V", sig := { parameters := [.int], returnType := none }, accessFlags := 0, code := some k2c2 }
def k2c3 : Code := { maxStack := 2, maxLocals := 3, code := prog_31_method_4_code, exceptionTable := #[], attributes := #[] }
def k2m3 : Method := { name := "readBits", desc := "(I)I", sig := { parameters := [.int], returnType := some .int }, accessFlags := 0, code := some k2c3 }
def k2c4 : Code := { maxStack := 4, maxLocals := 2, code := prog_31_method_5_code, exceptionTable := #[], attributes := #[] }
def k2m4 : Method := { name := "alignToByte", desc := "()V", sig := { parameters := [], returnType := none }, accessFlags := 0, code := some k2c4 }
def k2c5 : Code := { maxStack := 3, maxLocals := 1, code := prog_31_method_6_code, exceptionTable := #[], attributes := #[] }
def k2m5 : Method := { name := "getBytePosition", desc := "()I", sig := { parameters := [], returnType := some .int }, accessFlags := 0, code := some k2c5 }
def k2c6 : Code := { maxStack := 8, maxLocals := 1, code := prog_31_method_8_code, exceptionTable := #[], attributes := #[] }
def k2m6 : Method := { name := "refill", desc := "()V", sig := { parameters := [], returnType := none }, accessFlags := 2, code := some k2c6 }
/-- com/example/fewbits/fewbits/deflate/DeflateBitReader -/
def k2 : Class := { plain "com/example/fewbits/fewbits/deflate/DeflateBitReader" (some 0) with
  accessFlags := 48
  interfaces := #[]
  cf := some (fileOf pool2 14 #[] #[{ accessFlags := 0, nameIndex := 5, descriptorIndex := 67, attributes := #[] }, { accessFlags := 0, nameIndex := 44, descriptorIndex := 45, attributes := #[] }, { accessFlags := 0, nameIndex := 48, descriptorIndex := 49, attributes := #[] }, { accessFlags := 0, nameIndex := 72, descriptorIndex := 45, attributes := #[] }, { accessFlags := 0, nameIndex := 73, descriptorIndex := 6, attributes := #[] }, { accessFlags := 0, nameIndex := 54, descriptorIndex := 55, attributes := #[] }, { accessFlags := 2, nameIndex := 28, descriptorIndex := 6, attributes := #[] }] 48 2 #[] #[{ accessFlags := 18, nameIndex := 17, descriptorIndex := 18, attributes := #[] }, { accessFlags := 2, nameIndex := 21, descriptorIndex := 22, attributes := #[] }, { accessFlags := 2, nameIndex := 31, descriptorIndex := 32, attributes := #[] }, { accessFlags := 2, nameIndex := 25, descriptorIndex := 22, attributes := #[] }])
  fields := #[{ name := "m_aData", type := (.array .byte), accessFlags := 18, slot := 0, constantValue := 0 }, { name := "m_nNext", type := .int, accessFlags := 2, slot := 1, constantValue := 0 }, { name := "m_nBuffer", type := .long, accessFlags := 2, slot := 2, constantValue := 0 }, { name := "m_nBufferBits", type := .int, accessFlags := 2, slot := 3, constantValue := 0 }]
  methods := #[k2m0, k2m1, k2m2, k2m3, k2m4, k2m5, k2m6]
  instanceTypes := #[(.array .byte), .int, .long, .int]
  staticTypes := #[]
  resolved := Array.replicate 95 none
  statics := none }

def pool3 : Array CpInfo := pool [(2, .class_ 4), (1, u "java/lang/Object"), (0, u "<init>"), (0, u "()V"), (35, .class_ 44), (1, u "java/util/Objects"), (60, .methodref 106 107), (0, .class_ 108), (0, .nameAndType 109 110), (0, u "jdk/internal/util/Preconditions"), (0, u "checkIndex"), (0, u "(IILjava/util/function/BiFunction;)I"), (60, u "(II)I")] 12

def k3m0 : Method := { name := "<init>", desc := "()V", sig := { parameters := [], returnType := none }, accessFlags := 2, code := none }
def k3c1 : Code := { maxStack := 3, maxLocals := 2, code := jdk_31_method_17_code, exceptionTable := #[], attributes := #[] }
def k3m1 : Method := { name := "checkIndex", desc := "(II)I", sig := { parameters := [.int, .int], returnType := some .int }, accessFlags := 9, code := some k3c1 }
/-- java/util/Objects -/
def k3 : Class := { plain "java/util/Objects" (some 0) with
  accessFlags := 49
  interfaces := #[]
  cf := some (fileOf pool3 42 #[] #[{ accessFlags := 2, nameIndex := 5, descriptorIndex := 6, attributes := #[] }, { accessFlags := 9, nameIndex := 109, descriptorIndex := 171, attributes := #[] }] 49 2 #[] #[])
  fields := #[]
  methods := #[k3m0, k3m1]
  instanceTypes := #[]
  staticTypes := #[]
  resolved := Array.replicate 184 none
  statics := none }

def pool4 : Array CpInfo := pool [(2, .class_ 4), (1, u "java/lang/Object"), (0, u "<init>"), (0, u "()V"), (17, .class_ 26), (1, u "jdk/internal/util/Preconditions"), (6, u "checkIndex"), (21, .class_ 56), (0, u "jdk/internal/util/Preconditions$4"), (57, .class_ 115), (0, u "jdk/internal/util/Preconditions$1"), (7, u "SIOOBE_FORMATTER"), (0, u "Ljava/util/function/BiFunction;"), (0, .class_ 126), (0, u "jdk/internal/util/Preconditions$2"), (3, u "AIOOBE_FORMATTER"), (0, .class_ 132), (0, u "jdk/internal/util/Preconditions$3"), (3, u "IOOBE_FORMATTER"), (41, u "(IILjava/util/function/BiFunction;)I")] 15

def k4m0 : Method := { name := "<init>", desc := "()V", sig := { parameters := [], returnType := none }, accessFlags := 1, code := none }
def k4c1 : Code := { maxStack := 3, maxLocals := 3, code := jdk_41_method_11_code, exceptionTable := #[], attributes := #[] }
def k4m1 : Method := { name := "checkIndex", desc := "(IILjava/util/function/BiFunction;)I", sig := { parameters := [.int, .int, (.object "java/util/function/BiFunction")], returnType := some .int }, accessFlags := 9, code := some k4c1 }
/-- jdk/internal/util/Preconditions -/
def k4 : Class := { plain "jdk/internal/util/Preconditions" (some 0) with
  accessFlags := 33
  interfaces := #[]
  cf := some (fileOf pool4 24 #[.nestMembers #[55, 131, 125, 114]] #[{ accessFlags := 1, nameIndex := 5, descriptorIndex := 6, attributes := #[] }, { accessFlags := 9, nameIndex := 33, descriptorIndex := 178, attributes := #[] }] 33 2 #[] #[{ accessFlags := 25, nameIndex := 123, descriptorIndex := 124, attributes := #[] }, { accessFlags := 25, nameIndex := 130, descriptorIndex := 124, attributes := #[] }, { accessFlags := 25, nameIndex := 136, descriptorIndex := 124, attributes := #[] }])
  fields := #[{ name := "SIOOBE_FORMATTER", type := (.object "java/util/function/BiFunction"), accessFlags := 25, slot := 0, constantValue := 0 }, { name := "AIOOBE_FORMATTER", type := (.object "java/util/function/BiFunction"), accessFlags := 25, slot := 1, constantValue := 0 }, { name := "IOOBE_FORMATTER", type := (.object "java/util/function/BiFunction"), accessFlags := 25, slot := 2, constantValue := 0 }]
  methods := #[k4m0, k4m1]
  instanceTypes := #[]
  staticTypes := #[(.object "java/util/function/BiFunction"), (.object "java/util/function/BiFunction"), (.object "java/util/function/BiFunction")]
  resolved := Array.replicate 194 none
  statics := none }

def pool5 : Array CpInfo := pool [(1, u "java/lang/Cloneable"), (0, .class_ 1), (0, u "java/lang/Object"), (0, .class_ 3)] 3

/-- java/lang/Cloneable -/
def k5 : Class := { plain "java/lang/Cloneable" (some 0) with
  accessFlags := 1537
  interfaces := #[]
  cf := some (fileOf pool5 2 #[] #[] 1537 4 #[] #[])
  fields := #[]
  methods := #[]
  instanceTypes := #[]
  staticTypes := #[]
  resolved := Array.replicate 8 none
  statics := none }

def pool6 : Array CpInfo := pool [(1, u "java/io/Serializable"), (0, .class_ 1), (0, u "java/lang/Object"), (0, .class_ 3)] 3

/-- java/io/Serializable -/
def k6 : Class := { plain "java/io/Serializable" (some 0) with
  accessFlags := 1537
  interfaces := #[]
  cf := some (fileOf pool6 2 #[] #[] 1537 4 #[] #[])
  fields := #[]
  methods := #[]
  instanceTypes := #[]
  staticTypes := #[]
  resolved := Array.replicate 8 none
  statics := none }

/-- the primitive byte -/
def k7 : Class := { plain "byte" none with kind := .primitive 'B', accessFlags := 0x411 }
/-- [B -/
def k8 : Class := { plain "[B" (some 0) with kind := .array 7 .byte, interfaces := #[5, 6], accessFlags := 1041 }

/-- the primitive int -/
def k9 : Class := { plain "int" none with kind := .primitive 'I', accessFlags := 0x411 }
/-- [I -/
def k10 : Class := { plain "[I" (some 0) with kind := .array 9 .int, interfaces := #[5, 6], accessFlags := 1041 }

def heap : Heap := #[]
def classes : Array Class := #[k0, k1, k2, k3, k4, k5, k6, k7, k8, k9, k10]
def interned : List (Array UInt16 × Addr) := []
def slotsUsed : Nat := 0
def theMethod : MethodId := ⟨1, 1⟩
def args0 : Array Value := #[.int 5, .int 3, .int 7, .int 1, .int 2, .int 3]
def aboutOver (below : List Frame) : State where
  vm := { classes := classes, interned := interned.toArray }
  heap := heap
  slotsUsed := slotsUsed
  threads := #[{ frames := .invoking theMethod args0 :: below }]
def below0 : List Frame := [.native { method := ⟨0, 0⟩, args := #[] }]
def about1 : State := aboutOver below0
def p0 : Program := .bare "" "" ""
def e0 : Env := launch0.env 0 0 0
theorem w_frames : about1.frames = Frame.invoking theMethod args0 :: below0 := rfl
set_option maxRecDepth 65536 in
theorem w_args : argsFit about1.vm theMethod args0 = true := by decide +kernel
set_option maxRecDepth 65536 in
theorem w_heap : heapFits about1 = true := by decide +kernel
set_option maxRecDepth 65536 in
theorem w_runnable : about1.curStatus? = some .runnable := by decide +kernel
set_option maxRecDepth 65536 in
theorem w_alone : about1.alone = true := by decide +kernel
set_option maxRecDepth 65536 in
theorem w_named : about1.methodNamed? x = some theMethod := by decide +kernel
set_option maxRecDepth 65536 in
theorem w_hears : about1.hears theMethod below0 = true := by decide +kernel
set_option maxRecDepth 65536 in
theorem w_ripe : about1.ripe theMethod args0 below0 = true := by decide +kernel
theorem w_running : about1.status = .running := rfl
set_option maxRecDepth 65536 in
theorem w_room : about1.hasRoom e0.platform room_1 = true :=
  launch0.hasRoom_least _ room_1 (by decide +kernel) (by decide +kernel) (by decide +kernel) (by decide +kernel) (by decide +kernel) (by decide +kernel)
theorem allAtoms_all (ts : List Jvm.Cond) (a : Array Jvm.Value) (st : Jvm.State) : (allAtoms ts).before a st = ts.all (fun c => c.before a st) := by
  induction ts with
  | nil => rfl
  | cons c t ih =>
    show (Jvm.Cond.and c (allAtoms t)).before a st = _
    rw [Jvm.Cond.before_and, ih, List.all_cons]
def words1 : List Jvm.Cond := Jvm.Cond.code x code maxLocals ret :: tables_1
/-- a 'code' word, met by the world's own term for the bytes: nothing is compared byte by byte -/
theorem code_word {y : MethodName} {bytes : ByteArray} {mx : Nat} {rt : Option FieldType} {a : Array Value} {s : State} {m : MethodId} {meth : Method} {c : Code} (h1 : s.methodNamed? y = some m) (h2 : s.vm.method? m = some meth) (h3 : meth.code = some c) (h4 : c.code = bytes)
    (h5 : (c.maxLocals == mx && c.exceptionTable.isEmpty && decide (c.maxStack ≤ mostOperands) && decide (meth.sig.returnType = rt) && !meth.locks && decide (parseMethodDescriptor y.desc = some meth.sig)) = true) : (Jvm.Cond.code y bytes mx rt).before a s = true := by
  simp only [Bool.and_eq_true, beq_iff_eq, Bool.not_eq_true', decide_eq_true_eq] at h5
  obtain ⟨⟨⟨⟨⟨g1, g2⟩, g3⟩, g4⟩, g5⟩, g6⟩ := h5
  simp [Cond.before, Cond.holds, Cond.value, h1, h2, h3, h4, g1, g2, g3, g4, g5, g6]
def isCode : Jvm.Cond → Bool
  | .code _ _ _ _ => true
  | _ => false
theorem all_split {L : List Jvm.Cond} {P : Jvm.Cond → Bool} (h1 : L.all (fun c => isCode c || P c) = true) (h2 : ∀ c ∈ L.filter isCode, P c = true) : L.all P = true := by
  refine List.all_eq_true.mpr fun c hc => ?_
  have h := List.all_eq_true.mp h1 c hc
  rcases Bool.eq_false_or_eq_true (isCode c) with hi | hi
  · exact h2 c (List.mem_filter.mpr ⟨hc, hi⟩)
  · simpa [hi] using h
set_option maxRecDepth 65536 in
theorem w_c0 : (Jvm.Cond.code x code maxLocals ret).before args0 about1 = true := code_word (m := ⟨1, 1⟩) (meth := k1m1) (c := k1c1) (by decide +kernel) rfl rfl rfl (by decide +kernel)
set_option maxRecDepth 65536 in
theorem w_c1 : (Jvm.Cond.code ({ cls := "com/example/fewbits/fewbits/deflate/DeflateBitReader", name := "<init>", desc := "([BI)V" } : Jvm.MethodName) prog_31_method_1_code (3 : Nat) (Option.none : Option Jvm.ClassFile.FieldType)).before args0 about1 = true := code_word (m := ⟨2, 0⟩) (meth := k2m0) (c := k2c0) (by decide +kernel) rfl rfl rfl (by decide +kernel)
set_option maxRecDepth 65536 in
theorem w_c2 : (Jvm.Cond.code ({ cls := "java/lang/Object", name := "<init>", desc := "()V" } : Jvm.MethodName) object_method_1_code (1 : Nat) (Option.none : Option Jvm.ClassFile.FieldType)).before args0 about1 = true := code_word (m := ⟨0, 0⟩) (meth := k0m0) (c := k0c0) (by decide +kernel) rfl rfl rfl (by decide +kernel)
set_option maxRecDepth 65536 in
theorem w_c3 : (Jvm.Cond.code ({ cls := "java/util/Objects", name := "checkIndex", desc := "(II)I" } : Jvm.MethodName) jdk_31_method_17_code (2 : Nat) (Option.some Jvm.ClassFile.FieldType.int)).before args0 about1 = true := code_word (m := ⟨3, 1⟩) (meth := k3m1) (c := k3c1) (by decide +kernel) rfl rfl rfl (by decide +kernel)
set_option maxRecDepth 65536 in
theorem w_c4 : (Jvm.Cond.code ({ cls := "jdk/internal/util/Preconditions", name := "checkIndex", desc := "(IILjava/util/function/BiFunction;)I" } : Jvm.MethodName) jdk_41_method_11_code (3 : Nat) (Option.some Jvm.ClassFile.FieldType.int)).before args0 about1 = true := code_word (m := ⟨4, 1⟩) (meth := k4m1) (c := k4c1) (by decide +kernel) rfl rfl rfl (by decide +kernel)
set_option maxRecDepth 65536 in
theorem w_c5 : (Jvm.Cond.code ({ cls := "com/example/fewbits/fewbits/deflate/DeflateBitReader", name := "readBits", desc := "(I)I" } : Jvm.MethodName) prog_31_method_4_code (3 : Nat) (Option.some Jvm.ClassFile.FieldType.int)).before args0 about1 = true := code_word (m := ⟨2, 3⟩) (meth := k2m3) (c := k2c3) (by decide +kernel) rfl rfl rfl (by decide +kernel)
set_option maxRecDepth 65536 in
theorem w_c6 : (Jvm.Cond.code ({ cls := "com/example/fewbits/fewbits/deflate/DeflateBitReader", name := "peekBits", desc := "(I)I" } : Jvm.MethodName) prog_31_method_2_code (2 : Nat) (Option.some Jvm.ClassFile.FieldType.int)).before args0 about1 = true := code_word (m := ⟨2, 1⟩) (meth := k2m1) (c := k2c1) (by decide +kernel) rfl rfl rfl (by decide +kernel)
set_option maxRecDepth 65536 in
theorem w_c7 : (Jvm.Cond.code ({ cls := "com/example/fewbits/fewbits/deflate/DeflateBitReader", name := "refill", desc := "()V" } : Jvm.MethodName) prog_31_method_8_code (1 : Nat) (Option.none : Option Jvm.ClassFile.FieldType)).before args0 about1 = true := code_word (m := ⟨2, 6⟩) (meth := k2m6) (c := k2c6) (by decide +kernel) rfl rfl rfl (by decide +kernel)
set_option maxRecDepth 65536 in
theorem w_c8 : (Jvm.Cond.code ({ cls := "com/example/fewbits/fewbits/deflate/DeflateBitReader", name := "skipBits", desc := "(I)V" } : Jvm.MethodName) prog_31_method_3_code (2 : Nat) (Option.none : Option Jvm.ClassFile.FieldType)).before args0 about1 = true := code_word (m := ⟨2, 2⟩) (meth := k2m2) (c := k2c2) (by decide +kernel) rfl rfl rfl (by decide +kernel)
set_option maxRecDepth 65536 in
theorem w_c9 : (Jvm.Cond.code ({ cls := "com/example/fewbits/fewbits/deflate/DeflateBitReader", name := "alignToByte", desc := "()V" } : Jvm.MethodName) prog_31_method_5_code (2 : Nat) (Option.none : Option Jvm.ClassFile.FieldType)).before args0 about1 = true := code_word (m := ⟨2, 4⟩) (meth := k2m4) (c := k2c4) (by decide +kernel) rfl rfl rfl (by decide +kernel)
set_option maxRecDepth 65536 in
theorem w_c10 : (Jvm.Cond.code ({ cls := "com/example/fewbits/fewbits/deflate/DeflateBitReader", name := "getBytePosition", desc := "()I" } : Jvm.MethodName) prog_31_method_6_code (1 : Nat) (Option.some Jvm.ClassFile.FieldType.int)).before args0 about1 = true := code_word (m := ⟨2, 5⟩) (meth := k2m5) (c := k2c5) (by decide +kernel) rfl rfl rfl (by decide +kernel)
def codes1 : List Jvm.Cond := [Jvm.Cond.code x code maxLocals ret, Jvm.Cond.code ({ cls := "com/example/fewbits/fewbits/deflate/DeflateBitReader", name := "<init>", desc := "([BI)V" } : Jvm.MethodName) prog_31_method_1_code (3 : Nat) (Option.none : Option Jvm.ClassFile.FieldType), Jvm.Cond.code ({ cls := "java/lang/Object", name := "<init>", desc := "()V" } : Jvm.MethodName) object_method_1_code (1 : Nat) (Option.none : Option Jvm.ClassFile.FieldType), Jvm.Cond.code ({ cls := "java/util/Objects", name := "checkIndex", desc := "(II)I" } : Jvm.MethodName) jdk_31_method_17_code (2 : Nat) (Option.some Jvm.ClassFile.FieldType.int), Jvm.Cond.code ({ cls := "jdk/internal/util/Preconditions", name := "checkIndex", desc := "(IILjava/util/function/BiFunction;)I" } : Jvm.MethodName) jdk_41_method_11_code (3 : Nat) (Option.some Jvm.ClassFile.FieldType.int), Jvm.Cond.code ({ cls := "com/example/fewbits/fewbits/deflate/DeflateBitReader", name := "readBits", desc := "(I)I" } : Jvm.MethodName) prog_31_method_4_code (3 : Nat) (Option.some Jvm.ClassFile.FieldType.int), Jvm.Cond.code ({ cls := "com/example/fewbits/fewbits/deflate/DeflateBitReader", name := "peekBits", desc := "(I)I" } : Jvm.MethodName) prog_31_method_2_code (2 : Nat) (Option.some Jvm.ClassFile.FieldType.int), Jvm.Cond.code ({ cls := "com/example/fewbits/fewbits/deflate/DeflateBitReader", name := "refill", desc := "()V" } : Jvm.MethodName) prog_31_method_8_code (1 : Nat) (Option.none : Option Jvm.ClassFile.FieldType), Jvm.Cond.code ({ cls := "com/example/fewbits/fewbits/deflate/DeflateBitReader", name := "skipBits", desc := "(I)V" } : Jvm.MethodName) prog_31_method_3_code (2 : Nat) (Option.none : Option Jvm.ClassFile.FieldType), Jvm.Cond.code ({ cls := "com/example/fewbits/fewbits/deflate/DeflateBitReader", name := "alignToByte", desc := "()V" } : Jvm.MethodName) prog_31_method_5_code (2 : Nat) (Option.none : Option Jvm.ClassFile.FieldType), Jvm.Cond.code ({ cls := "com/example/fewbits/fewbits/deflate/DeflateBitReader", name := "getBytePosition", desc := "()I" } : Jvm.MethodName) prog_31_method_6_code (1 : Nat) (Option.some Jvm.ClassFile.FieldType.int)]
set_option maxRecDepth 65536 in
theorem codes_eq : words1.filter isCode = codes1 := rfl
theorem w_codes : ∀ c ∈ words1.filter isCode, c.before args0 about1 = true := by
  rw [codes_eq]
  intro c hc
  simp only [codes1, List.mem_cons, List.not_mem_nil, or_false] at hc
  rcases hc with rfl | rfl | rfl | rfl | rfl | rfl | rfl | rfl | rfl | rfl | rfl
  · exact w_c0
  · exact w_c1
  · exact w_c2
  · exact w_c3
  · exact w_c4
  · exact w_c5
  · exact w_c6
  · exact w_c7
  · exact w_c8
  · exact w_c9
  · exact w_c10
set_option maxRecDepth 65536 in
theorem w_t1 : (words1.take 24).all (fun c => isCode c || c.before args0 about1) = true := by decide +kernel
set_option maxRecDepth 65536 in
theorem w_t2 : ((words1.drop 24).take 24).all (fun c => isCode c || c.before args0 about1) = true := by decide +kernel
set_option maxRecDepth 65536 in
theorem w_t3 : ((words1.drop 24).drop 24).all (fun c => isCode c || c.before args0 about1) = true := by decide +kernel
theorem w_tables : (allAtoms (Jvm.Cond.code x code maxLocals ret :: tables_1)).before args0 about1 = true := by
  rw [allAtoms_all]
  show words1.all (fun c => c.before args0 about1) = true
  refine all_split ?_ w_codes
  rw [← List.take_append_drop 24 words1, List.all_append, w_t1, ← List.take_append_drop 24 (words1.drop 24), List.all_append, w_t2, w_t3]
  rfl
set_option maxRecDepth 65536 in
theorem w_case : (Jvm.Cond.and given_1 narrow_1).before args0 about1 = true := by decide +kernel
theorem w_applies : (headSpec (Jvm.Cond.code x code maxLocals ret :: tables_1) room_1).applies x e0.platform about1 = true :=
  (Spec.applies_iff w_frames).mpr ⟨w_running, w_runnable, w_alone, w_named, w_hears, w_ripe, w_room, w_tables⟩
theorem atStart : AtStart classFile x code maxLocals ret World_1 tables_1 room_1 Calls_1 rest_1 Pre_1 launch0 p0 e0 about1 theMethod args0 below0 :=
  ⟨lists_1, trivial, launch0.admits_env _ _ _, launch0.least_env, fairChoices_fair.cas, fairChoices_fair.clock, w_frames, w_args, w_heap, w_applies, trivial, trivial, w_case⟩
end start1
theorem witness_1 : WitnessClaimed_1 := ⟨start1.p0, start1.e0, start1.about1, start1.theMethod, start1.args0, start1.below0, start1.atStart⟩
end Jvm.Pilot.@@N@@
