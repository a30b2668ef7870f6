import PyProof.Rows.All
import Wide.All
import OpenK.AllK
import Wide.FinOn
import PySem.Challenge.RW_ph0101_03

set_option Elab.async false

section
open PySem PySem.W PyProof.Rows
set_option maxRecDepth 100000
set_option linter.unusedVariables false
namespace Mine

noncomputable abbrev FMap := Addr → Option Obj
noncomputable def Sub (F G : FMap) : Prop := ∀ a o, F a = some o → G a = some o
theorem Sub.refl (F : FMap) : Sub F F := fun _ _ e => e
theorem Sub.trans {F G H : FMap} (x : Sub F G) (y : Sub G H) : Sub F H := fun a o e => y a o (x a o e)

set_option genInjectivity false in
set_option genSizeOf false in
structure MP where
  p : FMap → Addr → Prop
  mono : ∀ F G a, Sub F G → p F a → p G a

inductive AV where
  | none
  | bool (b : Bool)
  | int (i : Int)
  | str (x : Str)
  | tup (xs : List AV)
  | lst (xs : List AV)
  | obj (P : MP)
  | val (v : Value)

noncomputable abbrev tobj (vs : Array Value) (n : Nat) : Obj := { cls := .type "tuple", dict := none, data := .seq vs n, slots := #[] }
noncomputable abbrev lobj (vs : Array Value) (n : Nat) : Obj := { cls := .type "list", dict := none, data := .seq vs n, slots := #[] }
mutual
noncomputable def Repr (F : FMap) : AV → Value → Prop
  | .none, v => v = .none
  | .bool b, v => v = .bool b
  | .int i, v => ∃ t, v = .int i t
  | .str x, v => ∃ t, v = .str x t
  | .tup xs, v => ∃ a vs n, v = .ref a ∧ F a = some (tobj vs n) ∧ ReprL F xs vs.toList
  | .lst xs, v => ∃ a vs n, v = .ref a ∧ F a = some (lobj vs n) ∧ ReprL F xs vs.toList
  | .obj P, v => ∃ a, v = .ref a ∧ P.p F a
  | .val u, v => v = u
noncomputable def ReprL (F : FMap) : List AV → List Value → Prop
  | [], vs => vs = []
  | x :: xs, vs => ∃ v r, vs = v :: r ∧ Repr F x v ∧ ReprL F xs r
end

mutual
theorem Repr.mono {F G : FMap} (h : Sub F G) : ∀ (x : AV) (v : Value), Repr F x v → Repr G x v
  | .none, _, r => by simpa only [Repr] using r
  | .bool _, _, r => by simpa only [Repr] using r
  | .int _, _, r => by simpa only [Repr] using r
  | .str _, _, r => by simpa only [Repr] using r
  | .tup xs, _, r => by
    simp only [Repr] at r ⊢
    obtain ⟨a, vs, n, e1, e2, e5⟩ := r
    exact ⟨a, vs, n, e1, h _ _ e2, ReprL.mono h xs _ e5⟩
  | .lst xs, _, r => by
    simp only [Repr] at r ⊢
    obtain ⟨a, vs, n, e1, e2, e5⟩ := r
    exact ⟨a, vs, n, e1, h _ _ e2, ReprL.mono h xs _ e5⟩
  | .obj P, _, r => by
    simp only [Repr] at r ⊢
    obtain ⟨a, e1, e2⟩ := r
    exact ⟨a, e1, P.mono _ _ _ h e2⟩
  | .val _, _, r => by simpa only [Repr] using r
theorem ReprL.mono {F G : FMap} (h : Sub F G) : ∀ (xs : List AV) (vs : List Value), ReprL F xs vs → ReprL G xs vs
  | [], _, r => by simpa only [ReprL] using r
  | x :: xs, _, r => by
    simp only [ReprL] at r ⊢
    obtain ⟨v, vs, e, r1, r2⟩ := r
    exact ⟨v, vs, e, Repr.mono h x v r1, ReprL.mono h xs vs r2⟩
end

theorem ReprL.length {F : FMap} : ∀ {xs : List AV} {vs : List Value}, ReprL F xs vs → vs.length = xs.length
  | [], _, r => by simp only [ReprL] at r; subst r; rfl
  | x :: xs, _, r => by
    simp only [ReprL] at r
    obtain ⟨v, vs, rfl, _, r2⟩ := r
    simp only [List.length_cons, ReprL.length r2]
theorem ReprL.append {F : FMap} : ∀ {xs ys : List AV} {vs ws : List Value}, ReprL F xs vs → ReprL F ys ws → ReprL F (xs ++ ys) (vs ++ ws)
  | [], _, _, _, r, q => by simp only [ReprL] at r; subst r; exact q
  | x :: xs, _, _, _, r, q => by
    simp only [ReprL] at r
    obtain ⟨v, vs, rfl, r1, r2⟩ := r
    simp only [List.cons_append, ReprL]
    exact ⟨v, _, rfl, r1, ReprL.append r2 q⟩
theorem ReprL.get {F : FMap} : ∀ {xs : List AV} {vs : List Value} {i : Nat} {x : AV}, ReprL F xs vs → xs[i]? = some x → ∃ v, vs[i]? = some v ∧ Repr F x v
  | [], _, _, _, _, e => by simp at e
  | y :: xs, _, i, x, r, e => by
    simp only [ReprL] at r
    obtain ⟨v, vs, rfl, r1, r2⟩ := r
    cases i with
    | zero => simp at e; subst e; exact ⟨v, rfl, r1⟩
    | succ i => simp at e; simpa using ReprL.get r2 e
theorem ReprL.take {F : FMap} : ∀ {xs : List AV} {vs : List Value} (k : Nat), ReprL F xs vs → ReprL F (xs.take k) (vs.take k)
  | [], _, k, r => by simp only [ReprL] at r; subst r; simp [ReprL]
  | y :: xs, _, k, r => by
    simp only [ReprL] at r
    obtain ⟨v, vs, rfl, r1, r2⟩ := r
    cases k with
    | zero => simp [ReprL]
    | succ k => simp only [List.take_succ_cons, ReprL]; exact ⟨_, _, rfl, r1, ReprL.take k r2⟩
theorem ReprL.drop {F : FMap} : ∀ {xs : List AV} {vs : List Value} (k : Nat), ReprL F xs vs → ReprL F (xs.drop k) (vs.drop k)
  | [], _, k, r => by simp only [ReprL] at r; subst r; simp [ReprL]
  | y :: xs, _, k, r => by
    cases k with
    | zero => simpa using r
    | succ k =>
      simp only [ReprL] at r
      obtain ⟨v, vs, rfl, r1, r2⟩ := r
      simpa using ReprL.drop k r2
theorem ReprL.reverse {F : FMap} : ∀ {xs : List AV} {vs : List Value}, ReprL F xs vs → ReprL F xs.reverse vs.reverse
  | [], _, r => by simp only [ReprL] at r; subst r; simp [ReprL]
  | y :: xs, _, r => by
    simp only [ReprL] at r
    obtain ⟨v, vs, rfl, r1, r2⟩ := r
    simp only [List.reverse_cons]
    exact ReprL.append (ReprL.reverse r2) (by simp only [ReprL]; exact ⟨v, [], rfl, r1, rfl⟩)
theorem ReprL.one {F : FMap} {x : AV} {v : Value} (r : Repr F x v) : ReprL F [x] [v] := by
  simp only [ReprL]; exact ⟨v, [], rfl, r, rfl⟩
theorem ReprL.cons {F : FMap} {x : AV} {v : Value} {xs : List AV} {vs : List Value} (r : Repr F x v) (q : ReprL F xs vs) : ReprL F (x :: xs) (v :: vs) := by
  simp only [ReprL]; exact ⟨v, vs, rfl, r, q⟩
theorem ReprL.nil {F : FMap} : ReprL F [] [] := by simp only [ReprL]

set_option genInjectivity false in
set_option genSizeOf false in
structure Tab where
  P : Addr
  c : Addr
  ents : List (Pos × Str)

set_option genInjectivity false in
set_option genSizeOf false in
structure Ctx where
  prog : Program
  w : World
  h₁ : Heap
  p : Program
  loose : List Str
  mean : ExcName → Option Value
  mg : Str → Option Value
  mb : Str → Option Value
  T : Top p loose mean mg mb h₁
  K : Frag
  X : K.In h₁
  tabs : List Tab
  hd : ∀ t ∈ tabs, CodeHd h₁ t.c t.P
  nod : ∀ t ∈ tabs, ∀ u ∈ tabs, t.P = u.P → t = u
  uni : ∀ t ∈ tabs, ∀ e₁ ∈ t.ents, ∀ e₂ ∈ t.ents, e₁.1.line = e₂.1.line → e₁.1.col = e₂.1.col → e₁.2 = e₂.2

noncomputable abbrev Ctx.M (C : Ctx) : Model := model C.prog C.w
noncomputable def isTab (C : Ctx) (a : Addr) : Prop := ∃ t ∈ C.tabs, t.P = a

noncomputable def EntOk (F : FMap) (ps : List Value) (e : Pos × Str) : Prop :=
  codeAmong e.1 ps = none ∨ ∃ c' o vs tk, codeAmong e.1 ps = some (.ref c') ∧ F c' = some o ∧ o.data = .fields vs ∧ vs[1]? = some (.str e.2 tk)
noncomputable def TabOk (C : Ctx) (F : FMap) (h : Heap) : Prop :=
  ∀ t ∈ C.tabs, F t.P = none ∧ ∃ ps, h.get? t.P = some (tabObj ps) ∧ TriplesOk ps.toList ∧ ∀ e ∈ t.ents, EntOk F ps.toList e

structure GOk (C : Ctx) (d : Nat) (A : Around) (F : FMap) (s : Shared) : Prop where
  base : Sub C.h₁.get? F
  sub : Sub F s.heap.get?
  tab : TabOk C F s.heap
  hand : A.handled = none
  dep : A.depth + d ≤ 1000
  uni : A.units + 8 * d ≤ 9900

structure Ext (C : Ctx) (mu : List Addr) (s s' : Shared) : Prop where
  eq : ∃ h' tk, s' = { s with heap := h', toks := tk }
  keep : ∀ a o, ¬ isTab C a → a ∉ mu → s.heap.get? a = some o → s'.heap.get? a = some o

noncomputable def New (C : Ctx) (s : Shared) (F F' : FMap) : Prop := ∀ a o, ¬ isTab C a → s.heap.get? a = some o → F a = none → F' a = none

section
variable {C : Ctx} {d : Nat} {A : Around} {F F' F'' : FMap} {s s' s'' : Shared} {mu : List Addr}
theorem New.refl : New C s F F := fun _ _ _ _ e => e
theorem New.trans (x : New C s F F') (y : New C s' F' F'') (h : Ext C [] s s') : New C s F F'' :=
  fun a o t l e => y a o t (h.keep a o t (fun q => nomatch q) l) (x a o t l e)
theorem Ext.refl : Ext C mu s s := ⟨⟨s.heap, s.toks, rfl⟩, fun _ _ _ _ e => e⟩
theorem Ext.toks (tk : Nat) : Ext C mu s { s with toks := tk } := ⟨⟨s.heap, tk, rfl⟩, fun _ _ _ _ e => e⟩
theorem Ext.trans (x : Ext C mu s s') (y : Ext C mu s' s'') : Ext C mu s s'' := by
  obtain ⟨⟨h1, t1, rfl⟩, k1⟩ := x
  obtain ⟨⟨h2, t2, rfl⟩, k2⟩ := y
  exact ⟨⟨h2, t2, rfl⟩, fun a o n m e => k2 a o n m (k1 a o n m e)⟩
theorem GOk.toks (g : GOk C d A F s) (tk : Nat) : GOk C d A F { s with toks := tk } := ⟨g.base, g.sub, g.tab, g.hand, g.dep, g.uni⟩
theorem GOk.less {d' : Nat} (g : GOk C d A F s) (h : d' ≤ d) : GOk C d' A F s := ⟨g.base, g.sub, g.tab, g.hand, by have := g.dep; first | lia | omega, by have := g.uni; first | lia | omega⟩
theorem GOk.nolimit (g : GOk C d A F s) : s.heap.NoLimit := C.T.nolimit.keeps fun b o e => g.sub b o (g.base b o e)
theorem GOk.old (g : GOk C d A F s) : ∀ b o, C.h₁.get? b = some o → s.heap.get? b = some o := fun b o e => g.sub b o (g.base b o e)

noncomputable def put (F : FMap) (a : Addr) (o : Obj) : FMap := fun b => if b = a then some o else F b
theorem put_sub {a : Addr} {o : Obj} (h : F a = none) : Sub F (put F a o) := fun b x e => by
  unfold put; split
  · rename_i q; rw [q, h] at e; cases e
  · exact e
theorem put_self {a : Addr} {o : Obj} : put F a o a = some o := by simp [put]
theorem GOk.fresh (g : GOk C d A F s) {a : Addr} (h : s.heap.objs.size ≤ a) : F a = none := by
  cases q : F a with
  | none => rfl
  | some o => exact absurd (Heap.lt_size (g.sub _ _ q)) (Nat.not_lt.mpr h)
theorem GOk.grow (g : GOk C d A F s) {h' : Heap} {tk : Nat} (k : ∀ a o, s.heap.get? a = some o → h'.get? a = some o) : GOk C d A F { s with heap := h', toks := tk } :=
  ⟨g.base, g.sub.trans k, fun t ht => by
    obtain ⟨h0, ps, e1, e2⟩ := g.tab t ht
    exact ⟨h0, ps, k _ _ e1, e2⟩, g.hand, g.dep, g.uni⟩
theorem GOk.push (g : GOk C d A F s) {o : Obj} {tk : Nat} (ho : o.isFreed = false) : GOk C d A (put F s.heap.objs.size o) { s with heap := s.heap.push o, toks := tk } := by
  have hf := g.fresh (Nat.le_refl s.heap.objs.size)
  have k : ∀ a x, s.heap.get? a = some x → (s.heap.push o).get? a = some x := fun a x e => Heap.get?_push_of_some o e
  refine ⟨g.base.trans (put_sub hf), fun b x e => ?_, fun t ht => ?_, g.hand, g.dep, g.uni⟩
  · unfold put at e; split at e
    · rename_i q; cases e; subst q; exact Heap.get?_push_size _ ho
    · exact k _ _ (g.sub _ _ e)
  · obtain ⟨h0, ps, e1, e2, e3⟩ := g.tab t ht
    have l := Heap.lt_size e1
    refine ⟨?_, ps, k _ _ e1, e2, fun e he => ?_⟩
    · unfold put; rw [if_neg (Nat.ne_of_lt l)]; exact h0
    · rcases e3 e he with q | ⟨c', o, vs, tk, q1, q2, q3⟩
      · exact .inl q
      · exact .inr ⟨c', o, vs, tk, q1, put_sub hf _ _ q2, q3⟩
theorem New.put {a : Addr} {o : Obj} (h : s.heap.objs.size ≤ a) : New C s F (put F a o) := fun b x _ l e => by
  unfold Mine.put; rw [if_neg (Nat.ne_of_lt (Nat.lt_of_lt_of_le (Heap.lt_size l) h))]; exact e
theorem Ext.push {o : Obj} {tk : Nat} : Ext C mu s { s with heap := s.heap.push o, toks := tk } :=
  ⟨⟨_, _, rfl⟩, fun _ _ _ _ e => Heap.get?_push_of_some o e⟩
theorem Ext.grow {h' : Heap} {tk : Nat} (k : ∀ a o, s.heap.get? a = some o → h'.get? a = some o) : Ext C mu s { s with heap := h', toks := tk } :=
  ⟨⟨_, _, rfl⟩, fun _ _ _ _ e => k _ _ e⟩
end

noncomputable def Back (C : Ctx) (d : Nat) (A : Around) (F : FMap) (s : Shared) (Q : AV → Prop) (Qr : Value → Shared → Prop) : Prop :=
  ∀ av v F' s', Q av → Sub F F' → New C s F F' → Ext C [] s s' → GOk C d A F' s' → Repr F' av v → Qr v s'
noncomputable def Op1 (C : Ctx) (d : Nat) (t : Value → Sem Value) (a : AV) (Q : AV → Prop) : Prop :=
  ∀ A F s v Qr E, GOk C d A F s → Repr F a v → Back C d A F s Q Qr → wpAny C.M A (t v) Qr E s
noncomputable def Op2 (C : Ctx) (d : Nat) (t : Value → Value → Sem Value) (a b : AV) (Q : AV → Prop) : Prop :=
  ∀ A F s v u Qr E, GOk C d A F s → Repr F a v → Repr F b u → Back C d A F s Q Qr → wpAny C.M A (t v u) Qr E s
noncomputable def OpN (C : Ctx) (d : Nat) (t : List Value → Sem Value) (xs : List AV) (Q : AV → Prop) : Prop :=
  ∀ A F s vs Qr E, GOk C d A F s → ReprL F xs vs → Back C d A F s Q Qr → wpAny C.M A (t vs) Qr E s
noncomputable def Call (C : Ctx) (d : Nat) (f : Addr) (xs : List AV) (Q : AV → Prop) : Prop := OpN C d (fun vs => call (.ref f) vs) xs Q
noncomputable def Truth (C : Ctx) (a : AV) (Q : Bool → Prop) : Prop :=
  ∀ d A F s v (Qr : Bool → Shared → Prop) E, GOk C d A F s → Repr F a v → (∀ b tk, Q b → Qr b { s with toks := tk }) → wpAny C.M A (truthy v) Qr E s

section
variable {C : Ctx} {d : Nat} {Q Q' : AV → Prop}
theorem Op1.mono {t a} (h : Op1 C d t a Q) (k : ∀ x, Q x → Q' x) : Op1 C d t a Q' := fun A F s v Qr E g r b => h A F s v Qr E g r fun av v F' s' q => b av v F' s' (k _ q)
theorem Op2.mono {t a b} (h : Op2 C d t a b Q) (k : ∀ x, Q x → Q' x) : Op2 C d t a b Q' := fun A F s v u Qr E g r r' b => h A F s v u Qr E g r r' fun av v F' s' q => b av v F' s' (k _ q)
theorem OpN.mono {t xs} (h : OpN C d t xs Q) (k : ∀ x, Q x → Q' x) : OpN C d t xs Q' := fun A F s vs Qr E g r b => h A F s vs Qr E g r fun av v F' s' q => b av v F' s' (k _ q)
theorem Call.mono {f xs} (h : Call C d f xs Q) (k : ∀ x, Q x → Q' x) : Call C d f xs Q' := OpN.mono h k
theorem OpN.room {t xs} {d' : Nat} (h : OpN C d t xs Q) (l : d ≤ d') : OpN C d' t xs Q := fun A F s vs Qr E g r b =>
  h A F s vs Qr E (g.less l) r fun av v F' s' q s1 n x g' => b av v F' s' q s1 n x ⟨g'.base, g'.sub, g'.tab, g'.hand, g.dep, g.uni⟩
theorem Call.room {f xs} {d' : Nat} (h : Call C d f xs Q) (l : d ≤ d') : Call C d' f xs Q := OpN.room h l
end
theorem Back.toks {C d A F s Q Qr} (b : Back C d A F s Q Qr) {av : AV} {v : Value} {tk : Nat} (g : GOk C d A F s) (q : Q av) (r : Repr F av v) : Qr v { s with toks := tk } :=
  b av v F _ q (Sub.refl _) New.refl (Ext.toks tk) (g.toks tk) r
theorem Back.same {C d A F s Q Qr} (b : Back C d A F s Q Qr) {av : AV} {v : Value} (g : GOk C d A F s) (q : Q av) (r : Repr F av v) : Qr v s :=
  b av v F _ q (Sub.refl _) New.refl Ext.refl g r
theorem Back.push {C d A F s Q Qr} (b : Back C d A F s Q Qr) {av : AV} {o : Obj} {tk : Nat} (g : GOk C d A F s) (q : Q av) (ho : o.isFreed = false) (r : Repr (put F s.heap.objs.size o) av (.ref s.heap.objs.size)) : Qr (.ref s.heap.objs.size) { s with heap := s.heap.push o, toks := tk } :=
  b av _ _ _ q (put_sub (g.fresh (Nat.le_refl _))) (New.put (Nat.le_refl _)) Ext.push (g.push ho) r
end Mine

end

section
open PySem PySem.W PyProof.Rows
set_option maxRecDepth 100000
set_option linter.unusedVariables false
namespace Mine

inductive Slot where
  | v (a : AV)
  | own (xs : List AV)
noncomputable abbrev ASt := List (Str × Slot)
noncomputable def set : ASt → Str → Slot → ASt
  | [], x, sl => [(x, sl)]
  | (y, t) :: r, x, sl => if x == y then (y, sl) :: r else (y, t) :: set r x sl
theorem lookup_set (st : ASt) (x y : Str) (sl : Slot) : (set st x sl).lookup y = if y = x then some sl else st.lookup y := by
  induction st with
  | nil =>
    by_cases h : y = x
    · subst h; simp [set]
    · have : (y == x) = false := by simpa using h
      simp [set, List.lookup_cons, this, h]
  | cons p r ih =>
    obtain ⟨z, t⟩ := p
    unfold set
    by_cases hx : (x == z) = true
    · rw [if_pos hx]
      obtain rfl : x = z := by simpa using hx
      by_cases h : y = x
      · subst h; simp
      · have : (y == x) = false := by simpa using h
        simp [List.lookup_cons, this, h]
    · rw [if_neg hx]
      by_cases h : y = z
      · subst h
        have : y ≠ x := fun q => hx (by simp [q])
        simp [this]
      · have : (y == z) = false := by simpa using h
        simp [List.lookup_cons, this, ih]

set_option genInjectivity false in
set_option genSizeOf false in
structure Fn where
  qual : Str
  scope : Scope
set_option genInjectivity false in
set_option genSizeOf false in
structure FI (C : Ctx) (fn : Fn) where
  A : Around
  L : Addr
  f : Addr
  cd : Value
  cl : List (Str × Addr)
  s₀ : Shared
  d : Nat
noncomputable abbrev FI.env {C : Ctx} {fn : Fn} (fi : FI C fn) : Env := envX fn.qual fn.scope fi.L fi.f fi.cd fi.cl

noncomputable abbrev Prot := Addr → Obj → Prop
noncomputable def Stored (env : Env) (h : Heap) (x : Str) (v : Value) : Prop :=
  (env.kindOf x = some .local ∧ ∃ m, h.Ns env.locals m ∧ m x = some v) ∨
  ((env.kindOf x = some .cell ∨ env.kindOf x = some .free) ∧ ∃ c, env.cells.lookup x = some c ∧ h.IsCell c (some v))

noncomputable def OwnAt (F : FMap) (prot : Prot) (C : Ctx) (h : Heap) (L : Addr) (a : Addr) (xs : List AV) : Prop :=
  ∃ vs n, h.get? a = some (lobj vs n) ∧ ReprL F xs vs.toList ∧ F a = none ∧ (∀ o, ¬ prot a o) ∧ ¬ isTab C a ∧ a ≠ L
noncomputable def SlotOk (F : FMap) (prot : Prot) (C : Ctx) (h : Heap) (L : Addr) (v : Value) : Slot → Prop
  | .v av => Repr F av v
  | .own xs => ∃ a, v = .ref a ∧ OwnAt F prot C h L a xs

structure Rel {C : Ctx} {fn : Fn} (fi : FI C fn) (prot : Prot) (F : FMap) (st : ASt) (s : Shared) : Prop where
  g : GOk C fi.d fi.A F s
  only : ∃ h tk, s = { fi.s₀ with heap := h, toks := tk }
  p : ∀ a o, prot a o → s.heap.get? a = some o ∧ F a = none ∧ ¬ isTab C a
  ns : ∃ m, s.heap.Ns fi.L m
  Lf : F fi.L = none
  Lp : ∀ o, ¬ prot fi.L o
  Lt : ¬ isTab C fi.L
  cells : ∀ x c, fi.env.kindOf x = some .cell → fi.cl.lookup x = some c → F c = none ∧ (∀ o, ¬ prot c o) ∧ ¬ isTab C c ∧ c ≠ fi.L ∧ ∃ v, s.heap.IsCell c v
  cov : ∀ x, fi.env.kindOf x = some .cell → ∃ c, fi.cl.lookup x = some c
  cellsep : ∀ x y c, fi.env.kindOf x = some .cell → fi.cl.lookup x = some c → fi.cl.lookup y = some c → x = y
  free : ∀ x c, fi.env.kindOf x = some .free → fi.cl.lookup x = some c → ∃ o v, F c = some o ∧ o.data = .cell v
  vars : ∀ x sl, st.lookup x = some sl → ∃ v, Stored fi.env s.heap x v ∧ SlotOk F prot C s.heap fi.L v sl
  sep : ∀ x y xs ys a, st.lookup x = some (.own xs) → st.lookup y = some (.own ys) → Stored fi.env s.heap x (.ref a) → Stored fi.env s.heap y (.ref a) → x = y

noncomputable def KeepV (env : Env) (s s' : Shared) : Prop := ∀ x v, Stored env s.heap x v → Stored env s'.heap x v

section
variable {C : Ctx} {fn : Fn} {fi : FI C fn} {prot : Prot} {F F' : FMap} {st st' : ASt} {s s' : Shared}

theorem Stored.keeps {env : Env} {h h' : Heap} {x : Str} {v : Value} (S : Stored env h x v) (k : ∀ a o, h.get? a = some o → h'.get? a = some o) : Stored env h' x v := by
  rcases S with ⟨e, m, n, q⟩ | ⟨e, c, n, o, q1, q2⟩
  · exact .inl ⟨e, m, n.keeps k, q⟩
  · exact .inr ⟨e, c, n, o, k _ _ q1, q2⟩
theorem ns_fun {h : Heap} {a : Addr} {m m' : Str → Option Value} (x : h.Ns a m) (y : h.Ns a m') : m = m' := by
  obtain ⟨o, es, ep, e1, e2, _, e3⟩ := x
  obtain ⟨o', es', ep', f1, f2, _, f3⟩ := y
  rw [e1] at f1; cases f1
  rw [e2] at f2; cases f2
  funext n; rw [← e3, ← f3]
theorem Stored.fun {env : Env} {h : Heap} {x : Str} {v u : Value} (S : Stored env h x v) (T : Stored env h x u) : v = u := by
  rcases S with ⟨e, m, n, q⟩ | ⟨e, c, n, o, q1, q2⟩ <;> rcases T with ⟨e', m', n', q'⟩ | ⟨e', c', n', o', q1', q2'⟩
  · rw [ns_fun n n'] at q; rw [q] at q'; exact Option.some.inj q'
  · rw [e] at e'; rcases e' with e' | e' <;> cases e'
  · rw [e'] at e; rcases e with e | e <;> cases e
  · rw [n] at n'; cases n'; rw [q1] at q1'; cases q1'; rw [q2] at q2'; cases q2'; rfl

structure Grow (C : Ctx) (F : FMap) (s : Shared) (F' : FMap) (s' : Shared) : Prop where
  sub : Sub F F'
  ext : Ext C [] s s'
  new : New C s F F'
theorem Grow.get (x : Grow C F s F' s') {a : Addr} {o : Obj} (t : ¬ isTab C a) (e : s.heap.get? a = some o) : s'.heap.get? a = some o := x.ext.keep a o t (fun q => nomatch q) e
theorem Grow.none (x : Grow C F s F' s') {a : Addr} {o : Obj} (t : ¬ isTab C a) (e : s.heap.get? a = some o) (f : F a = none) : F' a = none := x.new a o t e f
theorem notTab_of_ns (g : GOk C d A F s) {a : Addr} {m : Str → Option Value} (x : s.heap.Ns a m) : ¬ isTab C a := by
  rintro ⟨t, ht, rfl⟩
  obtain ⟨_, ps, e, _⟩ := g.tab t ht
  obtain ⟨o, es, ep, e1, e2, _⟩ := x
  rw [e] at e1; cases e1; cases e2
theorem notTab_of_cell (g : GOk C d A F s) {a : Addr} {v : Option Value} (x : s.heap.IsCell a v) : ¬ isTab C a := by
  rintro ⟨t, ht, rfl⟩
  obtain ⟨_, ps, e, _⟩ := g.tab t ht
  obtain ⟨o, e1, e2⟩ := x
  rw [e] at e1; cases e1; cases e2

theorem Stored.grow {x : Str} {v : Value} (g : GOk C d A F s) (S : Stored fi.env s.heap x v) (G : Grow C F s F' s') : Stored fi.env s'.heap x v := by
  rcases S with ⟨e, m, n, q⟩ | ⟨e, c, n, o, q1, q2⟩
  · obtain ⟨o, es, ep, e1, r⟩ := id n
    exact .inl ⟨e, m, ⟨o, es, ep, G.get (notTab_of_ns g n) e1, r⟩, q⟩
  · exact .inr ⟨e, c, n, o, G.get (notTab_of_cell g ⟨o, q1, q2⟩) q1, q2⟩
theorem Rel.keepV (R : Rel fi prot F st s) (G : Grow C F s F' s') : KeepV fi.env s s' := fun _ _ S => S.grow R.g G

theorem Stored.back {x : Str} {v : Value} (R : Rel fi prot F st s) (G : Grow C F s F' s') (S : Stored fi.env s'.heap x v) (u : Value) (T : Stored fi.env s.heap x u) : Stored fi.env s.heap x v := by
  have := (T.grow R.g G).fun S
  subst this; exact T

theorem Rel.pure (R : Rel fi prot F st s) (G : Grow C F s F' s') (g : GOk C fi.d fi.A F' s') : Rel fi prot F' st s' where
  g := g
  only := by
    obtain ⟨h, tk, e⟩ := R.only
    obtain ⟨⟨h', tk', e'⟩, _⟩ := G.ext
    exact ⟨h', tk', by rw [e', e]⟩
  p := fun a o q => let ⟨h1, h2, h3⟩ := R.p a o q; ⟨G.get h3 h1, G.none h3 h1 h2, h3⟩
  ns := by
    obtain ⟨m, n⟩ := R.ns
    obtain ⟨o, es, ep, e1, r⟩ := id n
    exact ⟨m, ⟨o, es, ep, G.get R.Lt e1, r⟩⟩
  Lf := by
    obtain ⟨m, o, es, ep, e1, r⟩ := R.ns
    exact G.none R.Lt e1 R.Lf
  Lp := R.Lp
  Lt := R.Lt
  cells := fun x c k l => by
    obtain ⟨h1, h2, h3, h4, v, o, q1, q2⟩ := R.cells x c k l
    exact ⟨G.none h3 q1 h1, h2, h3, h4, v, o, G.get h3 q1, q2⟩
  cov := R.cov
  cellsep := R.cellsep
  free := fun x c k l => by
    obtain ⟨o, v, q1, q2⟩ := R.free x c k l
    exact ⟨o, v, G.sub _ _ q1, q2⟩
  vars := fun x sl e => by
    obtain ⟨v, S, O⟩ := R.vars x sl e
    refine ⟨v, S.grow R.g G, ?_⟩
    cases sl with
    | v av => exact Repr.mono G.sub _ _ O
    | own xs =>
      obtain ⟨a, rfl, vs, n, l1, l3, l4, l5, l6, l7⟩ := O
      exact ⟨a, rfl, vs, n, G.get l6 l1, ReprL.mono G.sub _ _ l3, G.none l6 l1 l4, l5, l6, l7⟩
  sep := fun x y xs ys a e1 e2 S T => by
    obtain ⟨v, S', _⟩ := R.vars x _ e1
    obtain ⟨u, T', _⟩ := R.vars y _ e2
    exact R.sep x y xs ys a e1 e2 (S.back R G _ S') (T.back R G _ T')

theorem Rel.weaken (R : Rel fi prot F st s) (h : ∀ x sl, st'.lookup x = some sl → st.lookup x = some sl) : Rel fi prot F st' s :=
  ⟨R.g, R.only, R.p, R.ns, R.Lf, R.Lp, R.Lt, R.cells, R.cov, R.cellsep, R.free, fun x sl e => R.vars x sl (h x sl e), fun x y xs ys a e1 e2 => R.sep x y xs ys a (h _ _ e1) (h _ _ e2)⟩
end

inductive AFlow where
  | next | brk | cont
  | ret (a : AV)
noncomputable def FlowRep (F : FMap) : AFlow → Flow → Prop
  | .next, f => f = .next
  | .brk, f => f = .brk
  | .cont, f => f = .cont
  | .ret a, f => ∃ v, f = .ret v ∧ Repr F a v

section
variable {C : Ctx} {fn : Fn}
noncomputable def BackE (fi : FI C fn) (prot : Prot) (F : FMap) (s : Shared) (Q : AV → ASt → Prop) (Qr : Value → Shared → Prop) : Prop :=
  ∀ av st' v F' s', Q av st' → Sub F F' → Rel fi prot F' st' s' → Repr F' av v → KeepV fi.env s s' → Qr v s'
noncomputable def HE (fi : FI C fn) (st : ASt) (e : Expr) (Q : AV → ASt → Prop) : Prop :=
  ∀ prot F s Qr E, Rel fi prot F st s → BackE fi prot F s Q Qr → wpAny C.M fi.A (eval e fi.env) Qr E s
noncomputable def BackT (fi : FI C fn) (prot : Prot) (F : FMap) (s : Shared) (Q : Bool → ASt → Prop) (Qr : Bool → Shared → Prop) : Prop :=
  ∀ b st' F' s', Q b st' → Sub F F' → Rel fi prot F' st' s' → KeepV fi.env s s' → Qr b s'
noncomputable def HT (fi : FI C fn) (st : ASt) (e : Expr) (Q : Bool → ASt → Prop) : Prop :=
  ∀ prot F s Qr E, Rel fi prot F st s → BackT fi prot F s Q Qr → wpAny C.M fi.A (isTrue e fi.env (eval e fi.env)) Qr E s
noncomputable def BackS (fi : FI C fn) (prot : Prot) (F : FMap) (Q : AFlow → ASt → Prop) (Qr : Flow → Shared → Prop) : Prop :=
  ∀ fl st' f F' s', Q fl st' → Sub F F' → Rel fi prot F' st' s' → FlowRep F' fl f → Qr f s'
noncomputable def HX (fi : FI C fn) (st : ASt) (x : Stmt) (Q : AFlow → ASt → Prop) : Prop :=
  ∀ prot F s Qr E, Rel fi prot F st s → BackS fi prot F Q Qr → wpAny C.M fi.A (exec x fi.env) Qr E s
noncomputable def HS (fi : FI C fn) (st : ASt) (xs : List Stmt) (Q : AFlow → ASt → Prop) : Prop :=
  ∀ prot F s Qr E, Rel fi prot F st s → BackS fi prot F Q Qr → wpAny C.M fi.A (execs xs fi.env) Qr E s
noncomputable def BackL (fi : FI C fn) (prot : Prot) (F : FMap) (s : Shared) (Q : List AV → ASt → Prop) (Qr : List Value → Shared → Prop) : Prop :=
  ∀ avs st' vs F' s', Q avs st' → Sub F F' → Rel fi prot F' st' s' → ReprL F' avs vs → KeepV fi.env s s' → Qr vs s'
noncomputable def HL (fi : FI C fn) (st : ASt) (es : List Expr) (Q : List AV → ASt → Prop) : Prop :=
  ∀ prot F s Qr E pos, Rel fi prot F st s → BackL fi prot F s Q Qr → wpAny C.M fi.A (spliced (backTo pos (starEach es fi.env))) Qr E s
end

section
variable {C : Ctx} {fn : Fn} {fi : FI C fn} {st : ASt}
theorem KeepV.refl {env : Env} {s : Shared} : KeepV env s s := fun _ _ S => S
theorem KeepV.trans {env : Env} {s s' s'' : Shared} (x : KeepV env s s') (y : KeepV env s' s'') : KeepV env s s'' := fun a v S => y a v (x a v S)
theorem HE.mono {e : Expr} {Q Q' : AV → ASt → Prop} (h : HE fi st e Q) (k : ∀ a t, Q a t → Q' a t) : HE fi st e Q' :=
  fun prot F s Qr E R b => h prot F s Qr E R fun av st' v F' s' q => b av st' v F' s' (k _ _ q)
theorem HS.mono {xs : List Stmt} {Q Q' : AFlow → ASt → Prop} (h : HS fi st xs Q) (k : ∀ a t, Q a t → Q' a t) : HS fi st xs Q' :=
  fun prot F s Qr E R b => h prot F s Qr E R fun av st' v F' s' q => b av st' v F' s' (k _ _ q)
theorem HX.mono {x : Stmt} {Q Q' : AFlow → ASt → Prop} (h : HX fi st x Q) (k : ∀ a t, Q a t → Q' a t) : HX fi st x Q' :=
  fun prot F s Qr E R b => h prot F s Qr E R fun av st' v F' s' q => b av st' v F' s' (k _ _ q)
theorem HS.weaken {st' : ASt} {xs : List Stmt} {Q : AFlow → ASt → Prop} (h : HS fi st' xs Q) (k : ∀ x sl, st'.lookup x = some sl → st.lookup x = some sl) : HS fi st xs Q :=
  fun prot F s Qr E R b => h prot F s Qr E (R.weaken k) b

theorem BackE.op {prot : Prot} {F F₀ : FMap} {s s₀ : Shared} {Q : AV → ASt → Prop} {Qr : Value → Shared → Prop} (b : BackE fi prot F₀ s₀ Q Qr) (hs : Sub F₀ F) (kv : KeepV fi.env s₀ s) (R : Rel fi prot F st s) :
    Back C fi.d fi.A F s (fun a => Q a st) Qr :=
  fun av v F' s' q s1 n x g r => b av st v F' s' q (hs.trans s1) (R.pure ⟨s1, x, n⟩ g) r (kv.trans (R.keepV ⟨s1, x, n⟩))

theorem HE_toks {e : Expr} {Q : AV → ASt → Prop} {av : AV} (q : Q av st)
    (h : ∀ s Qr E, (∀ v tk, (∀ F, Repr F av v) → Qr v { s with toks := tk }) → wpAny C.M fi.A (eval e fi.env) Qr E s) : HE fi st e Q :=
  fun prot F s Qr E R b => h s Qr E fun v tk r => b av st v F _ q (Sub.refl _) (R.pure ⟨Sub.refl _, Ext.toks tk, New.refl⟩ (R.g.toks tk)) (r F) (R.keepV ⟨Sub.refl _, Ext.toks tk, New.refl⟩)
theorem HE_int {i : Int} {k : Nat} {pos : Pos} {Q : AV → ASt → Prop} (q : Q (.int i) st) : HE fi st (.Constant (.int i) k pos) Q :=
  HE_toks q fun s Qr E h => wpAny_Constant_int (h _ _ fun F => by simp [Repr])
theorem HE_str {x : Str} {k : Nat} {pos : Pos} {Q : AV → ASt → Prop} (q : Q (.str x) st) : HE fi st (.Constant (.str x) k pos) Q :=
  HE_toks q fun s Qr E h => wpAny_Constant_str (h _ _ fun F => by simp [Repr])
theorem HE_none {k : Nat} {pos : Pos} {Q : AV → ASt → Prop} (q : Q .none st) : HE fi st (.Constant .none k pos) Q :=
  HE_toks q fun s Qr E h => wpAny_Constant_none (h _ s.toks fun F => by simp [Repr])
theorem HE_bool {x : Bool} {k : Nat} {pos : Pos} {Q : AV → ASt → Prop} (q : Q (.bool x) st) : HE fi st (.Constant (.bool x) k pos) Q :=
  HE_toks q fun s Qr E h => wpAny_Constant_bool (h _ s.toks fun F => by simp [Repr])

noncomputable def okName (x : Str) : Bool := !(x == ("__debug__" : Str)) && !(x == ("__classdict__" : Str))
theorem load_stored {M : Model} {A : Around} {E : Value → Shared → Prop} {s : Shared} {env : Env} {x : Str} {v : Value} {Q : Value → Shared → Prop} (hk : env.scope.kind = .function) (S : Stored env s.heap x v) (ho : okName x = true) (h : Q v s) :
    wpAny M A (loadName env x) Q E s := by
  unfold okName at ho
  simp only [Bool.and_eq_true, Bool.not_eq_true'] at ho
  rcases S with ⟨e, m, n, q⟩ | ⟨e | e, c, n, q⟩
  · exact wpAny_loadName_local hk e n q h
  · exact wpAny_loadName_cell hk e n q h
  · exact wpAny_loadName_free hk e n q h ho.2
theorem eval_stored {M : Model} {A : Around} {E : Value → Shared → Prop} {s : Shared} {env : Env} {x : Str} {pos : Pos} {v : Value} {Q : Value → Shared → Prop} (hk : env.scope.kind = .function) (S : Stored env s.heap x v) (ho : okName x = true) (h : Q v s) :
    wpAny M A (eval (.Name x pos) env) Q E s := by
  refine wpAny_Name (load_stored hk S ho h) ?_
  unfold okName at ho
  simp only [Bool.and_eq_true, Bool.not_eq_true'] at ho
  exact ho.1
theorem HE_name {x : Str} {pos : Pos} {av : AV} {Q : AV → ASt → Prop} (e : st.lookup x = some (.v av)) (q : Q av st) (ho : okName x = true := by rfl) (hk : fn.scope.kind = .function := by rfl) : HE fi st (.Name x pos) Q :=
  fun prot F s Qr E R b => by
    obtain ⟨v, S, r⟩ := R.vars x _ e
    exact eval_stored hk S ho (b av st v F s q (Sub.refl _) R r KeepV.refl)

noncomputable def Glob (C : Ctx) (x : Str) (v : Value) : Prop := C.mg x = some v ∨ (C.mg x = none ∧ C.mb x = some v)
theorem HE_glob {x : Str} {pos : Pos} {v : Value} {Q : AV → ASt → Prop} (e : Glob C x v) (q : Q (.val v) st) (hx : fn.scope.names.lookup x = some .globalImplicit := by rfl) (ho : okName x = true := by rfl) (hk : fn.scope.kind = .function := by rfl) : HE fi st (.Name x pos) Q :=
  fun prot F s Qr E R b => by
    have ho' := ho
    unfold okName at ho'
    simp only [Bool.and_eq_true, Bool.not_eq_true'] at ho'
    have done : Qr v s := b _ st v F s q (Sub.refl _) R (by simp [Repr]) KeepV.refl
    refine Calls.Name_function_global hk hx ?_ ho'.1
    rcases e with e | ⟨e1, e2⟩
    · exact Calls.loadGlobal_global (env := fi.env) (C.T.g.keeps R.g.old) e done
    · exact Calls.loadGlobal_builtin (env := fi.env) (C.T.g.keeps R.g.old) e1 (C.T.b.keeps R.g.old) e2 done

theorem HE_bin {l r : Expr} {op : Operator} {pos : Pos} {Q : AV → ASt → Prop} (h : HE fi st l fun a st1 => HE fi st1 r fun b st2 => Op2 C fi.d (binaryOp op) a b fun c => Q c st2) : HE fi st (.BinOp l op r pos) Q :=
  fun prot F s Qr E R b => wpAny_BinOp (h prot F s _ E R fun a1 st1 v1 F1 s1 q1 u1 R1 r1 k1 => q1 prot F1 s1 _ E R1 fun a2 st2 v2 F2 s2 q2 u2 R2 r2 k2 =>
    q2 fi.A F2 s2 v1 v2 Qr E R2.g (Repr.mono u2 _ _ r1) r2 (b.op (u1.trans u2) (k1.trans k2) R2))
theorem HE_cmp {l r : Expr} {op : CmpOp} {pos : Pos} {Q : AV → ASt → Prop} (h : HE fi st l fun a st1 => HE fi st1 r fun b st2 => Op2 C fi.d (compareOp op) a b fun c => Q c st2)
    (hm : behindInMarks op r = false := by rfl) : HE fi st (.Compare l [op] [r] pos) Q :=
  fun prot F s Qr E R b => wpAny_Compare1 (h prot F s _ E R fun a1 st1 v1 F1 s1 q1 u1 R1 r1 k1 => q1 prot F1 s1 _ E R1 fun a2 st2 v2 F2 s2 q2 u2 R2 r2 k2 =>
    q2 fi.A F2 s2 v1 v2 Qr E R2.g (Repr.mono u2 _ _ r1) r2 (b.op (u1.trans u2) (k1.trans k2) R2)) hm
theorem HE_un {x : Expr} {op : UnaryOp} {pos : Pos} {Q : AV → ASt → Prop} (h : HE fi st x fun a st1 => Op1 C fi.d (unaryOp op) a fun c => Q c st1) : HE fi st (.UnaryOp op x pos) Q :=
  fun prot F s Qr E R b => wpAny_UnaryOp (h prot F s _ E R fun a1 st1 v1 F1 s1 q1 u1 R1 r1 k1 => q1 fi.A F1 s1 v1 Qr E R1.g r1 (b.op u1 k1 R1))
theorem HE_ifexp {t x y : Expr} {pos : Pos} {Q : AV → ASt → Prop} (h : HT fi st t fun b st1 => if b then HE fi st1 x Q else HE fi st1 y Q) : HE fi st (.IfExp t x y pos) Q :=
  fun prot F s Qr E R b => wpAny_IfExp (h prot F s _ E R fun c st1 F1 s1 q1 u1 R1 k1 => by
    have k : BackE fi prot F1 s1 Q Qr := fun av st' v F' s' q u R' r k => b av st' v F' s' q (u1.trans u) R' r (k1.trans k)
    cases c <;> simp only [Bool.false_eq_true, if_false, if_true] at q1 ⊢ <;> exact q1 prot F1 s1 Qr E R1 k)

theorem HL_nil {Q : List AV → ASt → Prop} (q : Q [] st) : HL fi st [] Q :=
  fun prot F s Qr E pos R b => Calls.spliced_nil (b [] st [] F s q (Sub.refl _) R ReprL.nil KeepV.refl)
noncomputable def plainE : Expr → Bool
  | .Starred .. => false
  | _ => true
theorem starEach_cons {e : Expr} {es : List Expr} {env : Env} (h : plainE e = true) : starEach (e :: es) env = (false, eval e env) :: starEach es env := by
  cases e <;> first | rfl | cases h
theorem HL_cons {e : Expr} {es : List Expr} {Q : List AV → ASt → Prop} (h : HE fi st e fun a st1 => HL fi st1 es fun as st2 => Q (a :: as) st2) (hp : plainE e = true := by rfl) : HL fi st (e :: es) Q :=
  fun prot F s Qr E pos R b => by
    rw [starEach_cons hp]
    exact Calls.spliced_cons (h prot F s _ E R fun a1 st1 v1 F1 s1 q1 u1 R1 r1 k1 => q1 prot F1 s1 _ E pos R1 fun as st2 vs F2 s2 q2 u2 R2 r2 k2 =>
      b _ st2 _ F2 s2 q2 (u1.trans u2) R2 (ReprL.cons (Repr.mono u2 _ _ r1) r2) (k1.trans k2))
end
end Mine

end

section
open PySem PySem.W PyProof.Rows
set_option maxRecDepth 100000
set_option linter.unusedVariables false
namespace Mine

section
variable {C : Ctx} {fn : Fn} {fi : FI C fn} {prot : Prot} {F F' : FMap} {st st' : ASt} {s s' : Shared}

theorem GOk.mut {d : Nat} {A : Around} {a : Addr} {h' : Heap} {tk : Nat} (g : GOk C d A F s) (hs : Heap.SameBut a s.heap h') (hF : F a = none) (ht : ¬ isTab C a) : GOk C d A F { s with heap := h', toks := tk } :=
  ⟨g.base, fun b o e => (hs.2 b (fun q => by rw [q, hF] at e; cases e)).trans (g.sub b o e), fun t m => by
    obtain ⟨h0, ps, e1, e2⟩ := g.tab t m
    exact ⟨h0, ps, (hs.2 _ fun q => ht ⟨t, m, q⟩).trans e1, e2⟩, g.hand, g.dep, g.uni⟩
theorem ns_ne_cell {h : Heap} {a c : Addr} {m : Str → Option Value} {v : Option Value} (x : h.Ns a m) (y : h.IsCell c v) : c ≠ a := by
  rintro rfl
  obtain ⟨o, es, ep, e1, e2, _⟩ := x
  obtain ⟨o', f1, f2⟩ := y
  rw [e1] at f1; cases f1; rw [e2] at f2; cases f2
theorem list_ne_cell {h : Heap} {a c : Addr} {l : Array Value} {v : Option Value} (x : h.IsList a l) (y : h.IsCell c v) : a ≠ c := by
  rintro rfl
  obtain ⟨o, e1, _, n, e2⟩ := x
  obtain ⟨o', f1, f2⟩ := y
  rw [e1] at f1; cases f1; rw [e2] at f2; cases f2
theorem ns_ne_list {h : Heap} {a c : Addr} {m : Str → Option Value} {l : Array Value} (x : h.Ns a m) (y : h.IsList c l) : c ≠ a := by
  rintro rfl
  obtain ⟨o, es, ep, e1, e2, _⟩ := x
  obtain ⟨o', f1, _, n, f2⟩ := y
  rw [e1] at f1; cases f1; rw [e2] at f2; cases f2

theorem sep_of {s' : Shared} (R : Rel fi prot F st s) {x : Str} {sl : Slot} (hsl : ∀ xs, sl ≠ .own xs)
    (fwd : ∀ y u, y ≠ x → Stored fi.env s.heap y u → Stored fi.env s'.heap y u) :
    ∀ y z ys zs a, (set st x sl).lookup y = some (.own ys) → (set st x sl).lookup z = some (.own zs) → Stored fi.env s'.heap y (.ref a) → Stored fi.env s'.heap z (.ref a) → y = z := by
  intro y z ys zs a e1 e2 S T
  rw [lookup_set] at e1 e2
  by_cases hy : y = x
  · rw [if_pos hy] at e1; exact absurd (Option.some.inj e1) (hsl _)
  by_cases hz : z = x
  · rw [if_pos hz] at e2; exact absurd (Option.some.inj e2) (hsl _)
  rw [if_neg hy] at e1
  rw [if_neg hz] at e2
  obtain ⟨u, U, _⟩ := R.vars y _ e1
  obtain ⟨w, W, _⟩ := R.vars z _ e2
  have q1 := (fwd y u hy U).fun S
  have q2 := (fwd z w hz W).fun T
  subst q1; subst q2
  exact R.sep y z ys zs a e1 e2 U W

noncomputable def storable (sc : Scope) (x : Str) : Bool := match sc.names.lookup x with
  | some .local => true
  | some .cell => true
  | _ => false

theorem store_ok {A : Around} {E : Value → Shared → Prop} {x : Str} {av : AV} {v : Value} {Qr : Unit → Shared → Prop} (R : Rel fi prot F st s) (r : Repr F av v) (hx : storable fn.scope x = true) (hk : fn.scope.kind = .function)
    (k : ∀ s', Rel fi prot F (set st x (.v av)) s' → Qr () s') : wpAny C.M A (storeName fi.env x v) Qr E s := by
  unfold storable at hx
  split at hx
  · rename_i e
    obtain ⟨m, n⟩ := R.ns
    have e' : fi.env.kindOf x = some .local := e
    refine wpAny_storeName_local e' n (fun h' hn hs => k _ ?_) (by show (fn.scope.kind == .class || (fn.scope.kind == .module && fi.L != mainGlobals)) = false; rw [hk]; rfl)
    have fwd : ∀ y u, y ≠ x → Stored fi.env s.heap y u → Stored fi.env h' y u := fun y u ne S => by
      rcases S with ⟨q, m', n', z⟩ | ⟨q, c, l, o, z1, z2⟩
      · refine .inl ⟨q, _, hn, ?_⟩
        rw [ns_fun n n']
        show (if y = x then some v else m' y) = some u
        rw [if_neg ne]; exact z
      · exact .inr ⟨q, c, l, o, (hs.2 c (ns_ne_cell n ⟨o, z1, z2⟩)).trans z1, z2⟩
    refine ⟨R.g.mut hs R.Lf R.Lt, ?_, fun a o q => ?_, ⟨_, hn⟩, R.Lf, R.Lp, R.Lt, fun y c q l => ?_, R.cov, R.cellsep, R.free, fun y sl q => ?_, sep_of R (fun _ q => nomatch q) fwd⟩
    · obtain ⟨h, tk, e⟩ := R.only
      exact ⟨h', _, by rw [e]⟩
    · obtain ⟨h1, h2, h3⟩ := R.p a o q
      exact ⟨(hs.2 a fun z => R.Lp o ((show a = fi.L from z) ▸ q)).trans h1, h2, h3⟩
    · obtain ⟨h1, h2, h3, h4, u, o, z1, z2⟩ := R.cells y c q l
      exact ⟨h1, h2, h3, h4, u, o, (hs.2 c h4).trans z1, z2⟩
    · rw [lookup_set] at q
      by_cases hy : y = x
      · rw [if_pos hy] at q; cases q; subst hy
        refine ⟨v, .inl ⟨e', _, hn, ?_⟩, r⟩
        show (if y = y then some v else m y) = some v
        rw [if_pos rfl]
      · rw [if_neg hy] at q
        obtain ⟨u, S, O⟩ := R.vars y sl q
        refine ⟨u, fwd y u hy S, ?_⟩
        cases sl with
        | v av => exact O
        | own xs =>
          obtain ⟨a, rfl, vs, n, l1, l3, l4, l5, l6, l7⟩ := O
          exact ⟨a, rfl, vs, n, (hs.2 a l7).trans l1, l3, l4, l5, l6, l7⟩
  · rename_i e
    have e' : fi.env.kindOf x = some .cell := e
    obtain ⟨c, hc⟩ := R.cov x e'
    obtain ⟨c1, c2, c3, c4, v₀, hv₀⟩ := R.cells x c e' hc
    refine wpAny_storeName_cell hk e' hc hv₀ fun h' hn hs => k _ ?_
    obtain ⟨m, n⟩ := R.ns
    have fwd : ∀ y u, y ≠ x → Stored fi.env s.heap y u → Stored fi.env h' y u := fun y u ne S => by
      rcases S with ⟨q, m', n', z⟩ | ⟨q, c', l, o, z1, z2⟩
      · exact .inl ⟨q, m', n'.sameBut hs (ns_ne_cell n' hv₀).symm, z⟩
      · exact .inr ⟨q, c', l, o, (hs.2 c' fun z => ne (R.cellsep x y c e' hc (z ▸ l)).symm).trans z1, z2⟩
    refine ⟨R.g.mut (tk := s.toks) hs c1 c3, ?_, fun a o q => ?_, ⟨_, n.sameBut hs c4.symm⟩, R.Lf, R.Lp, R.Lt, fun y c' q l => ?_, R.cov, R.cellsep, R.free, fun y sl q => ?_, sep_of R (fun _ q => nomatch q) fwd⟩
    · obtain ⟨h, tk, e⟩ := R.only
      exact ⟨h', _, by rw [e]⟩
    · obtain ⟨h1, h2, h3⟩ := R.p a o q
      exact ⟨(hs.2 a fun z => c2 o (z ▸ q)).trans h1, h2, h3⟩
    · obtain ⟨h1, h2, h3, h4, u, o, z1, z2⟩ := R.cells y c' q l
      refine ⟨h1, h2, h3, h4, ?_⟩
      by_cases z : c' = c
      · subst z; exact ⟨_, hn⟩
      · exact ⟨u, o, (hs.2 c' z).trans z1, z2⟩
    · rw [lookup_set] at q
      by_cases hy : y = x
      · rw [if_pos hy] at q; cases q; subst hy
        exact ⟨v, .inr ⟨.inl e', c, hc, hn⟩, r⟩
      · rw [if_neg hy] at q
        obtain ⟨u, S, O⟩ := R.vars y sl q
        refine ⟨u, fwd y u hy S, ?_⟩
        cases sl with
        | v av => exact O
        | own xs =>
          obtain ⟨a, rfl, vs, n', l1, l3, l4, l5, l6, l7⟩ := O
          have ne := list_ne_cell (l := vs) ⟨_, l1, rfl, n', rfl⟩ hv₀
          exact ⟨a, rfl, vs, n', (hs.2 a ne).trans l1, l3, l4, l5, l6, l7⟩
  · cases hx

theorem HT_cmp {l r : Expr} {op : CmpOp} {pos : Pos} {Q : Bool → ASt → Prop} (h : HE fi st l fun a st1 => HE fi st1 r fun b st2 => Op2 C fi.d (compareOp op) a b fun c => Truth C c fun t => Q t st2)
    (hm : behindInMarks op r = false := by rfl) : HT fi st (.Compare l [op] [r] pos) Q :=
  fun prot F s Qr E R b => wpAny_isTrue_Compare1 (h prot F s _ E R fun a1 st1 v1 F1 s1 q1 u1 R1 r1 k1 => q1 prot F1 s1 _ E R1 fun a2 st2 v2 F2 s2 q2 u2 R2 r2 k2 =>
    q2 fi.A F2 s2 v1 v2 _ E R2.g (Repr.mono u2 _ _ r1) r2 fun av v F' s' q s1 n x g rr =>
      q _ _ F' s' v _ _ g rr fun t tk qt => by
        have G : Grow C F2 s2 F' s' := ⟨s1, x, n⟩
        have G2 : Grow C F' s' F' { s' with toks := tk } := ⟨Sub.refl _, Ext.toks tk, New.refl⟩
        have R3 := R2.pure G g
        exact b t st2 F' _ qt (u1.trans (u2.trans s1)) (R3.pure G2 (g.toks tk)) (k1.trans (k2.trans ((R2.keepV G).trans (R3.keepV G2))))) hm
theorem HT_not {x : Expr} {pos : Pos} {Q : Bool → ASt → Prop} (h : HT fi st x fun b st1 => Q (!b) st1) : HT fi st (.UnaryOp .Not x pos) Q :=
  fun prot F s Qr E R b => wpAny_isTrue_Not (h prot F s _ E R fun c st1 F1 s1 q1 u1 R1 k1 => b _ st1 F1 s1 q1 u1 R1 k1)
theorem HT_val {x : Expr} {Q : Bool → ASt → Prop} (h : HE fi st x fun a st1 => Truth C a fun t => Q t st1)
    (he : ∀ (env : Env) (whole : Sem Value), isTrue x env whole = (do let v ← whole; standAt x.pos; holding [v] (truthy v)) := by intro _ _; rfl) : HT fi st x Q :=
  fun prot F s Qr E R b => wpAny_isTrue_value (h prot F s _ E R fun a1 st1 v1 F1 s1 q1 u1 R1 r1 k1 => q1 _ _ F1 s1 v1 _ _ R1.g r1 fun t tk qt => by
    have G2 : Grow C F1 s1 F1 { s1 with toks := tk } := ⟨Sub.refl _, Ext.toks tk, New.refl⟩
    exact b t st1 F1 _ qt u1 (R1.pure G2 (R1.g.toks tk)) (k1.trans (R1.keepV G2))) (he _ _)
noncomputable def HA (fi : FI C fn) (st : ASt) (op : BoolOp) (xs : List Expr) (Q : Bool → ASt → Prop) : Prop :=
  ∀ prot F s Qr E, Rel fi prot F st s → BackT fi prot F s Q Qr → wpAny C.M fi.A (allTrue op xs fi.env) Qr E s
theorem HT_bool {op : BoolOp} {xs : List Expr} {pos : Pos} {Q : Bool → ASt → Prop} (h : HA fi st op xs Q) : HT fi st (.BoolOp op xs pos) Q :=
  fun prot F s Qr E R b => wpAny_isTrue_BoolOp (h prot F s Qr E R b)
theorem HA_nil {op : BoolOp} {Q : Bool → ASt → Prop} (q : Q (op == .And) st) : HA fi st op [] Q :=
  fun prot F s Qr E R b => by
    cases op
    · exact wpAny_allTrue_And_nil (b true st F s q (Sub.refl _) R KeepV.refl)
    · exact wpAny_allTrue_Or_nil (b false st F s q (Sub.refl _) R KeepV.refl)
theorem HA_and {x : Expr} {xs : List Expr} {Q : Bool → ASt → Prop} (h : HT fi st x fun b st1 => if b then HA fi st1 .And xs Q else Q false st1) : HA fi st .And (x :: xs) Q :=
  fun prot F s Qr E R b => wpAny_allTrue_And_cons (h prot F s _ E R fun c st1 F1 s1 q1 u1 R1 k1 => by
    cases c <;> simp only [Bool.false_eq_true, if_false, if_true] at q1 ⊢
    · exact b false st1 F1 s1 q1 u1 R1 k1
    · exact q1 prot F1 s1 Qr E R1 fun t st2 F2 s2 q2 u2 R2 k2 => b t st2 F2 s2 q2 (u1.trans u2) R2 (k1.trans k2))
theorem HA_or {x : Expr} {xs : List Expr} {Q : Bool → ASt → Prop} (h : HT fi st x fun b st1 => if b then Q true st1 else HA fi st1 .Or xs Q) : HA fi st .Or (x :: xs) Q :=
  fun prot F s Qr E R b => wpAny_allTrue_Or_cons (h prot F s _ E R fun c st1 F1 s1 q1 u1 R1 k1 => by
    cases c <;> simp only [Bool.false_eq_true, if_false, if_true] at q1 ⊢
    · exact q1 prot F1 s1 Qr E R1 fun t st2 F2 s2 q2 u2 R2 k2 => b t st2 F2 s2 q2 (u1.trans u2) R2 (k1.trans k2)
    · exact b true st1 F1 s1 q1 u1 R1 k1)

theorem HS_nil {Q : AFlow → ASt → Prop} (q : Q .next st) : HS fi st [] Q :=
  fun prot F s Qr E R b => wpAny_execs_nil (b .next st .next F s q (Sub.refl _) R rfl)
theorem HS_cons {x : Stmt} {xs : List Stmt} {Q : AFlow → ASt → Prop} (h : HX fi st x fun fl st1 => match fl with | .next => HS fi st1 xs Q | fl => Q fl st1) : HS fi st (x :: xs) Q :=
  fun prot F s Qr E R b => wpAny_execs_cons (h prot F s _ E R fun fl st1 f F1 s1 q1 u1 R1 r1 => by
    cases fl with
    | next => cases r1; exact q1 prot F1 s1 Qr E R1 fun fl st2 f F2 s2 q2 u2 R2 r2 => b fl st2 f F2 s2 q2 (u1.trans u2) R2 r2
    | brk => cases r1; exact b .brk st1 .brk F1 s1 q1 u1 R1 rfl
    | cont => cases r1; exact b .cont st1 .cont F1 s1 q1 u1 R1 rfl
    | ret a => obtain ⟨v, rfl, r⟩ := r1; exact b (.ret a) st1 (.ret v) F1 s1 q1 u1 R1 ⟨v, rfl, r⟩)
theorem HX_ret {e : Expr} {pos : Pos} {Q : AFlow → ASt → Prop} (h : HE fi st e fun a st1 => Q (.ret a) st1) : HX fi st (.Return (some e) pos) Q :=
  fun prot F s Qr E R b => wpAny_Return_some (h prot F s _ E R fun a1 st1 v1 F1 s1 q1 u1 R1 r1 k1 => b (.ret a1) st1 (.ret v1) F1 s1 q1 u1 R1 ⟨v1, rfl, r1⟩)
theorem HX_ret0 {pos : Pos} {Q : AFlow → ASt → Prop} (q : Q (.ret .none) st) : HX fi st (.Return none pos) Q :=
  fun prot F s Qr E R b => wpAny_Return_none (b (.ret .none) st _ F s q (Sub.refl _) R ⟨.none, rfl, by simp [Repr]⟩)
theorem HX_brk {pos : Pos} {Q : AFlow → ASt → Prop} (q : Q .brk st) : HX fi st (.Break pos) Q :=
  fun prot F s Qr E R b => wpAny_Break (b .brk st _ F s q (Sub.refl _) R rfl)
theorem HX_if {t : Expr} {x y : List Stmt} {pos : Pos} {Q : AFlow → ASt → Prop} (h : HT fi st t fun b st1 => if b then HS fi st1 x Q else HS fi st1 y Q) : HX fi st (.If t x y pos) Q :=
  fun prot F s Qr E R b => wpAny_If (h prot F s _ E R fun c st1 F1 s1 q1 u1 R1 k1 => by
    cases c <;> simp only [Bool.false_eq_true, if_false, if_true] at q1 ⊢ <;>
      exact q1 prot F1 s1 Qr E R1 fun fl st2 f F2 s2 q2 u2 R2 r2 => b fl st2 f F2 s2 q2 (u1.trans u2) R2 r2)
theorem HX_expr {e : Expr} {pos : Pos} {Q : AFlow → ASt → Prop} (h : HE fi st e fun _ st1 => Q .next st1)
    (hi : interactive fi.env = false := by rfl) (hs : swapsWith e none pos.line fi.env = pure false := by rfl) : HX fi st (.Expr e pos) Q :=
  fun prot F s Qr E R b => wpAny_Expr_any (h prot F s _ E R fun a1 st1 v1 F1 s1 q1 u1 R1 r1 k1 => b .next st1 _ F1 s1 q1 u1 R1 rfl) hi hs
theorem HX_assign {x : Str} {p pos : Pos} {e : Expr} {Q : AFlow → ASt → Prop} (h : HE fi st e fun a st1 => Q .next (set st1 x (.v a)))
    (hx : storable fn.scope x = true := by rfl) (hk : fn.scope.kind = .function := by rfl) (hs : swapsWith e (some (.Name x p)) pos.line fi.env = pure false := by rfl) : HX fi st (.Assign [.Name x p] e pos) Q :=
  fun prot F s Qr E R b => wpAny_Assign_Name (h prot F s _ E R fun a1 st1 v1 F1 s1 q1 u1 R1 r1 k1 => store_ok R1 r1 hx hk fun s2 R2 => b .next _ _ F1 s2 q1 u1 R2 rfl) hs
theorem HX_aug {x : Str} {p pos : Pos} {op : Operator} {e : Expr} {a : AV} {Q : AFlow → ASt → Prop} (l : st.lookup x = some (.v a)) (h : HE fi st e fun b st1 => Op2 C fi.d (inplaceOp op) a b fun c => Q .next (set st1 x (.v c)))
    (hx : storable fn.scope x = true := by rfl) (hk : fn.scope.kind = .function := by rfl) (ho : okName x = true := by rfl) : HX fi st (.AugAssign (.Name x p) op e pos) Q :=
  fun prot F s Qr E R b => by
    obtain ⟨v, S, r⟩ := R.vars x _ l
    refine wpAny_AugAssign_Name (load_stored hk S ho (h prot F s _ E R fun a1 st1 v1 F1 s1 q1 u1 R1 r1 k1 => q1 fi.A F1 s1 v v1 _ E R1.g (Repr.mono u1 _ _ r) r1 fun av v2 F2 s2 q2 u2 n2 x2 g2 r2 => ?_))
    exact store_ok (R1.pure ⟨u2, x2, n2⟩ g2) r2 hx hk fun s3 R3 => b .next _ _ F2 s3 q2 (u1.trans u2) R3 rfl
end
end Mine

end

section
open PySem PySem.W PyProof.Rows
set_option maxRecDepth 100000
set_option linter.unusedVariables false
namespace Mine

section
variable {C : Ctx} {fn : Fn} {fi : FI C fn} {prot prot' : Prot} {F F' : FMap} {st st' : ASt} {s s' : Shared}

theorem Rel.step (R : Rel fi prot F st s) (sub : Sub F F') (only : ∃ h tk, s' = { s with heap := h, toks := tk })
    (keep : ∀ a o, ¬ isTab C a → (∀ o', ¬ prot a o') → s.heap.get? a = some o → s'.heap.get? a = some o)
    (new : ∀ a o, ¬ isTab C a → s.heap.get? a = some o → F a = none → F' a = none) (g : GOk C fi.d fi.A F' s')
    (p : ∀ a o, prot' a o → s'.heap.get? a = some o ∧ F' a = none ∧ ¬ isTab C a) (dis : ∀ a o, prot' a o → (∃ o', prot a o') ∨ s.heap.get? a = none) : Rel fi prot' F' st s' := by
  have notp : ∀ a o, s.heap.get? a = some o → (∀ o', ¬ prot a o') → ∀ o', ¬ prot' a o' := fun a o e n o' q => by
    rcases dis a o' q with ⟨o2, q2⟩ | q2
    · exact n _ q2
    · rw [e] at q2; cases q2
  have stored : ∀ x v, Stored fi.env s.heap x v → Stored fi.env s'.heap x v := fun x v S => by
    rcases S with ⟨e, m, n, q⟩ | ⟨e, c, n, o, q1, q2⟩
    · obtain ⟨o, es, ep, e1, r⟩ := id n
      exact .inl ⟨e, m, ⟨o, es, ep, keep _ _ R.Lt R.Lp e1, r⟩, q⟩
    · refine .inr ⟨e, c, n, o, ?_, q2⟩
      have nt := notTab_of_cell R.g (a := c) ⟨o, q1, q2⟩
      rcases e with e | e
      · exact keep _ _ nt (R.cells x c e n).2.1 q1
      · obtain ⟨o', v', hF, _⟩ := R.free x c e n
        have e1 := R.g.sub _ _ hF
        rw [q1] at e1; cases e1
        exact g.sub _ _ (sub _ _ hF)
  obtain ⟨m, o, es, ep, e1, r⟩ := R.ns
  refine ⟨g, ?_, p, ⟨m, o, es, ep, keep _ _ R.Lt R.Lp e1, r⟩, new _ _ R.Lt e1 R.Lf, notp _ _ e1 R.Lp, R.Lt, fun x c k l => ?_, R.cov, R.cellsep, fun x c k l => ?_, fun x sl e => ?_, fun x y xs ys a e1 e2 S T => ?_⟩
  · obtain ⟨h, tk, e⟩ := R.only
    obtain ⟨h', tk', e'⟩ := only
    exact ⟨h', tk', by rw [e', e]⟩
  · obtain ⟨h1, h2, h3, h4, v, o, q1, q2⟩ := R.cells x c k l
    exact ⟨new _ _ h3 q1 h1, notp _ _ q1 h2, h3, h4, v, o, keep _ _ h3 h2 q1, q2⟩
  · obtain ⟨o, v, q1, q2⟩ := R.free x c k l
    exact ⟨o, v, sub _ _ q1, q2⟩
  · obtain ⟨v, S, O⟩ := R.vars x sl e
    refine ⟨v, stored x v S, ?_⟩
    cases sl with
    | v av => exact Repr.mono sub _ _ O
    | own xs =>
      obtain ⟨a, rfl, vs, n, l1, l3, l4, l5, l6, l7⟩ := O
      exact ⟨a, rfl, vs, n, keep _ _ l6 l5 l1, ReprL.mono sub _ _ l3, new _ _ l6 l1 l4, notp _ _ l1 l5, l6, l7⟩
  · obtain ⟨v, S', _⟩ := R.vars x _ e1
    obtain ⟨u, T', _⟩ := R.vars y _ e2
    have q1 := (stored _ _ S').fun S
    have q2 := (stored _ _ T').fun T
    subst q1; subst q2
    exact R.sep x y xs ys a e1 e2 S' T'

noncomputable def pin (prot : Prot) (a : Addr) (o : Obj) : Prot := fun b x => prot b x ∨ (b = a ∧ x = o)
theorem Rel.pinNew {o : Obj} {h' : Heap} {tk : Nat} {I : Addr} (R : Rel fi prot F st s) (hI : s.heap.objs.size ≤ I) (e : h'.get? I = some o) (k : ∀ a x, s.heap.get? a = some x → h'.get? a = some x) : Rel fi (pin prot I o) F st { s with heap := h', toks := tk } := by
  have none : s.heap.get? I = none := by
    cases q : s.heap.get? I with
    | none => rfl
    | some x => exact absurd (Heap.lt_size q) (Nat.not_lt.mpr hI)
  have nt : ¬ isTab C I := by
    rintro ⟨t, ht, rfl⟩
    obtain ⟨_, ps, e1, _⟩ := R.g.tab t ht
    rw [none] at e1; cases e1
  refine R.step (Sub.refl _) ⟨h', tk, rfl⟩ (fun a x _ _ e => k a x e) (fun _ _ _ _ e => e) (R.g.grow k) (fun a x q => ?_) fun a x q => ?_
  · rcases q with q | ⟨rfl, rfl⟩
    · obtain ⟨h1, h2, h3⟩ := R.p a x q
      exact ⟨k _ _ h1, h2, h3⟩
    · exact ⟨e, R.g.fresh hI, nt⟩
  · rcases q with q | ⟨rfl, rfl⟩
    · exact .inl ⟨x, q⟩
    · exact .inr none
theorem Rel.unpin {o : Obj} {I : Addr} (R : Rel fi (pin prot I o) F st s) : Rel fi prot F st s :=
  R.step (Sub.refl _) ⟨s.heap, s.toks, rfl⟩ (fun _ _ _ _ e => e) (fun _ _ _ _ e => e) R.g (fun a x q => R.p a x (.inl q)) fun a x q => .inl ⟨x, .inl q⟩
theorem Rel.repin {o o' : Obj} {h' : Heap} {tk : Nat} {I : Addr} (hne : ∀ x, ¬ prot I x) (R : Rel fi (pin prot I o) F st s) (e : h'.get? I = some o') (k : ∀ a x, a ≠ I → s.heap.get? a = some x → h'.get? a = some x) : Rel fi (pin prot I o') F st { s with heap := h', toks := tk } := by
  obtain ⟨i1, i2, i3⟩ := R.p I o (.inr ⟨rfl, rfl⟩)
  refine R.step (Sub.refl _) ⟨h', tk, rfl⟩ (fun a x _ n e => k a x (fun q => n o (.inr ⟨q, rfl⟩)) e) (fun _ _ _ _ e => e) ⟨R.g.base, fun b x q => k b x (fun z => by rw [z, i2] at q; cases q) (R.g.sub b x q), fun t ht => ?_, R.g.hand, R.g.dep, R.g.uni⟩ (fun a x q => ?_) fun a x q => ?_
  · obtain ⟨h0, ps, e1, e2⟩ := R.g.tab t ht
    exact ⟨h0, ps, k _ _ (fun q => i3 ⟨t, ht, q⟩) e1, e2⟩
  · rcases q with q | ⟨rfl, rfl⟩
    · obtain ⟨h1, h2, h3⟩ := R.p a x (.inl q)
      exact ⟨k _ _ (fun z => hne x (z ▸ q)) h1, h2, h3⟩
    · exact ⟨e, i2, i3⟩
  · rcases q with q | ⟨rfl, rfl⟩
    · exact .inl ⟨x, .inl q⟩
    · exact .inl ⟨o, .inr ⟨rfl, rfl⟩⟩

noncomputable def HG (fi : FI C fn) (st : ASt) (t : Expr) (a : AV) (Q : ASt → Prop) : Prop :=
  ∀ prot F s v Qr E, Rel fi prot F st s → Repr F a v → (∀ st' F' s', Q st' → Sub F F' → Rel fi prot F' st' s' → Qr () s') → wpAny C.M fi.A (assign t fi.env v) Qr E s
theorem HG_name {x : Str} {p : Pos} {a : AV} {Q : ASt → Prop} (q : Q (set st x (.v a))) (hx : storable fn.scope x = true := by rfl) (hk : fn.scope.kind = .function := by rfl) : HG fi st (.Name x p) a Q :=
  fun prot F s v Qr E R r b => wpAny_assign_Name (store_ok R r hx hk fun s' R' => b _ F s' q (Sub.refl _) R')
noncomputable def HGs (fi : FI C fn) (st : ASt) : List Expr → List AV → (ASt → Prop) → Prop
  | [], [], Q => Q st
  | _, _, Q => False
noncomputable def HGl (fi : FI C fn) (st : ASt) (ts : List Expr) (as : List AV) (Q : ASt → Prop) : Prop :=
  ∀ prot F s vs Qr E, Rel fi prot F st s → ReprL F as vs → (∀ st' F' s', Q st' → Sub F F' → Rel fi prot F' st' s' → Qr () s') → wpAny C.M fi.A (assignInOrder ((assignEach ts fi.env).map (·.2)) vs) Qr E s
theorem HGl_nil {Q : ASt → Prop} (q : Q st) : HGl fi st [] [] Q :=
  fun prot F s vs Qr E R r b => by
    simp only [ReprL] at r; subst r
    exact wpAny_assignInOrder_none (b _ F s q (Sub.refl _) R)
theorem assignEach_cons {t : Expr} {ts : List Expr} {env : Env} (h : plainE t = true) : assignEach (t :: ts) env = (false, assign t env) :: assignEach ts env := by
  cases t <;> first | rfl | cases h
theorem HGl_cons {t : Expr} {ts : List Expr} {a : AV} {as : List AV} {Q : ASt → Prop} (h : HG fi st t a fun st1 => HGl fi st1 ts as Q) (hp : plainE t = true := by rfl) : HGl fi st (t :: ts) (a :: as) Q :=
  fun prot F s vs Qr E R r b => by
    simp only [ReprL] at r
    obtain ⟨v, vs', rfl, r1, r2⟩ := r
    rw [assignEach_cons hp]
    exact wpAny_assignInOrder_more (h prot F s v _ E R r1 fun st1 F1 s1 q1 u1 R1 => q1 prot F1 s1 vs' Qr E R1 (ReprL.mono u1 _ _ r2) fun st2 F2 s2 q2 u2 R2 => b st2 F2 s2 q2 (u1.trans u2) R2)
theorem assignEach_plain : ∀ {ts : List Expr} {env : Env}, ts.all plainE = true → (assignEach ts env).length = ts.length ∧ (assignEach ts env).findIdx? (·.1) = none
  | [], _, _ => ⟨rfl, rfl⟩
  | t :: ts, env, h => by
    simp only [List.all_cons, Bool.and_eq_true] at h
    obtain ⟨e1, e2⟩ := assignEach_plain (env := env) h.2
    rw [assignEach_cons h.1]
    refine ⟨by simp [e1], ?_⟩
    rw [List.findIdx?_cons]
    simp [e2]
theorem HG_tup {ts : List Expr} {k : Nat} {pos : Pos} {as : List AV} {Q : ASt → Prop} (h : HGl fi st ts as Q) (hp : ts.all plainE = true := by rfl) (hl : ts.length = as.length := by rfl) : HG fi st (.Tuple ts k pos) (.tup as) Q :=
  fun prot F s v Qr E R r b => by
    simp only [Repr] at r
    obtain ⟨a, vs, n, rfl, e1, r⟩ := r
    obtain ⟨p1, p2⟩ := assignEach_plain (env := fi.env) hp
    refine wpAny_assign_Tuple R.g.hand ⟨_, R.g.sub _ _ e1, rfl, n, rfl⟩ (by rw [p1, hl, ← ReprL.length r]; simp) p2 fun h' hx => ?_
    have k' : ∀ a x, s.heap.get? a = some x → h'.get? a = some x := fun a x e => hx a x (Nat.ne_of_lt (Heap.lt_size e)) e
    exact h prot F _ _ Qr E (R.pure ⟨Sub.refl _, Ext.grow (tk := s.toks) k', New.refl⟩ (R.g.grow (tk := s.toks) k')) r b
theorem HX_unpack {ts : List Expr} {k : Nat} {p pos : Pos} {e : Expr} {Q : AFlow → ASt → Prop} (h : HE fi st e fun a st1 => HG fi st1 (.Tuple ts k p) a fun st2 => Q .next st2)
    (hs : swapsWithSole [.Tuple ts k p] e pos.line fi.env = pure false := by rfl) (hw : swappedStores [.Tuple ts k p] e fi.env = pure none := by rfl) : HX fi st (.Assign [.Tuple ts k p] e pos) Q :=
  fun prot F s Qr E R b => Assign_Tuple (h prot F s _ E R fun a1 st1 v1 F1 s1 q1 u1 R1 r1 k1 => q1 prot F1 s1 v1 _ E R1 r1 fun st2 F2 s2 q2 u2 R2 => b .next st2 _ F2 s2 q2 (u1.trans u2) R2 rfl) hs hw

theorem HX_while {t : Expr} {x y : List Stmt} {pos : Pos} {Q : AFlow → ASt → Prop} (I : ASt → Prop) (m : ASt → Nat) (h0 : I st)
    (turn : ∀ st', I st' → HT fi st' t fun b st1 => if b then HS fi st1 x (fun fl st2 => match fl with | .next | .cont => I st2 ∧ m st2 < m st' | .brk => Q .next st2 | .ret a => Q (.ret a) st2) else HS fi st1 y Q) : HX fi st (.While t x y pos) Q :=
  fun prot F s Qr E R b => by
    refine wpAny_While (codeAny_whileLoop (fun n s' => ∃ F' st', Sub F F' ∧ Rel fi prot F' st' s' ∧ I st' ∧ m st' = n) ?_ (m st) ⟨F, st, Sub.refl _, R, h0, rfl⟩)
    rintro n s1 ⟨F1, st1, u1, R1, i1, rfl⟩
    refine turn st1 i1 prot F1 s1 _ _ R1 fun c st2 F2 s2 q2 u2 R2 k2 => ?_
    cases c <;> simp only [Bool.false_eq_true, if_false, if_true] at q2 ⊢
    · exact q2 prot F2 s2 _ _ R2 fun fl st3 f F3 s3 q3 u3 R3 r3 => b fl st3 f F3 s3 q3 (u1.trans (u2.trans u3)) R3 r3
    · refine q2 prot F2 s2 _ _ R2 fun fl st3 f F3 s3 q3 u3 R3 r3 => ?_
      have u := u1.trans (u2.trans u3)
      cases fl with
      | next => cases r3; exact ⟨_, q3.2, F3, st3, u, R3, q3.1, rfl⟩
      | cont => cases r3; exact ⟨_, q3.2, F3, st3, u, R3, q3.1, rfl⟩
      | brk => cases r3; exact b .next st3 .next F3 s3 q3 u R3 rfl
      | ret a => obtain ⟨v, rfl, r⟩ := r3; exact b (.ret a) st3 (.ret v) F3 s3 q3 u R3 ⟨v, rfl, r⟩

noncomputable def plainIter (o : Obj) : Bool := match o.cls, o.data with
  | .type n, .fields _ => !["enumerate", "zip", "dict_itemiterator", "dict_reverseitemiterator", "odict_iterator", "itertools.zip_longest", "itertools.pairwise"].contains n
  | _, _ => false
theorem letOwned {M : Model} {A : Around} {E : Value → Shared → Prop} {target : Expr} {I : Addr} {o : Obj} {v : Value} {Q : Unit → Shared → Prop} (e : s.heap.get? I = some o) (hp : plainIter o = true) (h : Q () s) : wpAny M A (letOwnedTupleGo target (.ref I) v) Q E s := by
  have go : wpAny M A (do
      let (.ref r, .ref a) := (Value.ref I, v) | return
      let o ← load r
      match o.cls, o.data with
      | .type n, .fields vs =>
        if ["enumerate", "zip", "dict_itemiterator", "dict_reverseitemiterator", "odict_iterator", "itertools.zip_longest", "itertools.pairwise"].contains n && vs[0]? == some (rawInt a) then
          rule "for.unpacks-the-owned-tuple"
          updateField r 0 .none
      | _, _ => pure () : Sem Unit) Q E s := by
    cases v <;> first | exact wpAny_pure h | skip
    refine wpAny_bind (wpAny_load e ?_)
    unfold plainIter at hp
    split at hp
    · rename_i n vs e1 e2
      simp only [Bool.not_eq_true'] at hp
      simp only [hp, Bool.false_and, Bool.false_eq_true, if_false]
      exact wpAny_pure h
    · cases hp
  unfold letOwnedTupleGo
  split
  · exact go
  · exact go
  · exact wpAny_pure h

theorem codeAny_for {prog : Program} {w : World} {A : Around} {R : Result → Shared → Prop} {target : Expr} {I : Addr} {body orelse : List Stmt} {env : Env} (J : Nat → Shared → Prop)
    (turn : ∀ n s, J n s → wpAny (model prog w) A (pyNext (.ref I)) (fun r s₁ => match r with
      | none => wpAny (model prog w) A (execs orelse env) (fun f s₃ => R (.ok f) s₃) (notedBy (model prog w) A env fun e s' => R (.error e) s') s₁
      | some v => (∃ o, s₁.heap.get? I = some o ∧ plainIter o = true) ∧ wpAny (model prog w) A (assign target env v) (fun _ s₂ => wpAny (model prog w) A (execs body env) (fun f s₃ => match f with
          | .next | .cont => ∃ m, m < n ∧ J m s₃
          | .brk => R (.ok .next) s₃
          | .ret v => R (.ok (.ret v)) s₃) (notedBy (model prog w) A env fun e s' => R (.error e) s') s₂) (notedBy (model prog w) A env fun e s' => R (.error e) s') s₁) (notedBy (model prog w) A env fun e s' => R (.error e) s') s)
    (n : Nat) (h : J n s) : codeAny (model prog w) A (.forLoop target (.ref I) body orelse env) R s := by
  refine codeAny_loop' rfl J (fun n s hI => ?_) n h
  show wpAny _ _ ((forTurn target (.ref I) body orelse env).onRaise (fun x => do noteFrame x env; theTreesLotGoes x)) _ _ s
  refine wpAny_noted ?_
  simp only [forTurn]
  refine wpAny_bind (wpAny_standAt (wpAny_bind (wpAny_onRaise (wpAny_mono (turn n s hI) (fun r s₁ h₁ => ?_) fun _ _ h' => wpAny_standAt h'))))
  cases r with
  | none => exact wpAny_pure (.inr ⟨rfl, codeAny_block h₁⟩)
  | some v =>
    obtain ⟨⟨o, e, hp⟩, h₁⟩ := h₁
    refine wpAny_bind (letOwned e hp ?_)
    refine wpAny_bind (wpAny_mono h₁ (fun _ s₂ h₂ => wpAny_bind (wpAny_mono h₂ (fun f s₃ h₃ => ?_) fun _ _ h' => h')) fun _ _ h' => h')
    cases f with
    | next => exact wpAny_pure (.inl ⟨rfl, h₃⟩)
    | cont => exact wpAny_pure (.inl ⟨rfl, h₃⟩)
    | brk => exact wpAny_pure h₃
    | ret v => exact wpAny_pure h₃

noncomputable def Turn (fi : FI C fn) (target : Expr) (body : List Stmt) (J : Nat → ASt → Prop) (Q : AFlow → ASt → Prop) (i : Nat) (x : AV) (st' : ASt) : Prop :=
  HG fi st' target x fun st2 => HS fi st2 body fun fl st3 => match fl with | .next | .cont => J (i + 1) st3 | .brk => Q .next st3 | .ret a => Q (.ret a) st3

theorem for_walk {E : Value → Shared → Prop} {target : Expr} {body : List Stmt} {I : Addr} {fp : List Addr} {P : Nat → Value → Prop} {St : Nat → Heap → Prop} {xs : List AV} {o : Obj} {Q : AFlow → ASt → Prop} {Qr : Flow → Shared → Prop}
    (W : Walks C.prog C.w fi.A I fp [I] xs.length P St) (R : Rel fi (pin prot I o) F st s) (hne : ∀ x, ¬ prot I x) (hst : St 0 s.heap) (hI : ∀ i h, St i h → ∃ o, h.get? I = some o ∧ plainIter o = true)
    (hfp : ∀ b ∈ fp, b = I ∨ ∃ o, F b = some o) (hP : ∀ i v, P i v → ∃ x, xs[i]? = some x ∧ Repr F x v)
    (J : Nat → ASt → Prop) (h0 : J 0 st) (turn : ∀ i x st', xs[i]? = some x → J i st' → Turn fi target body J Q i x st') (fin : ∀ st', J xs.length st' → Q .next st') (b : BackS fi prot F Q Qr) :
    codeAny C.M fi.A (.forLoop target (.ref I) body [] fi.env) (fun r s' => match r with | .ok f => Qr f s' | .error e => cameBackBy C.M fi.A fi.env E e s') s := by
  refine codeAny_for (fun n s' => ∃ i F' st' o', Sub F F' ∧ Rel fi (pin prot I o') F' st' s' ∧ St i s'.heap ∧ J i st' ∧ i ≤ xs.length ∧ n = xs.length + 1 - i) ?_ (xs.length + 1) ⟨0, F, st, o, Sub.refl _, R, hst, h0, Nat.zero_le _, rfl⟩
  rintro n s1 ⟨i, F1, st1, o1, u1, R1, hst1, j1, hi, rfl⟩
  by_cases hlt : i < xs.length
  · refine W.item i s1 _ _ hlt hst1 fun v h' tk hPv hst' k => ?_
    obtain ⟨o2, e2, p2⟩ := hI _ _ hst'
    obtain ⟨x, hx, rx⟩ := hP i v hPv
    have R2 : Rel fi (pin prot I o2) F1 st1 { s1 with heap := h', toks := tk } := R1.repin hne e2 fun a y ne e => k a y (by simpa using ne) e
    refine ⟨⟨o2, e2, p2⟩, turn i x st1 hx j1 (pin prot I o2) F1 _ v _ _ R2 (Repr.mono u1 _ _ rx) fun st2 F2 s2 q2 u2 R3 => ?_⟩
    refine q2 (pin prot I o2) F2 s2 _ _ R3 fun fl st3 f F3 s3 q3 u3 R4 r3 => ?_
    have hst3 : St (i + 1) s3.heap := by
      refine W.frame _ _ _ hst' fun c hc y e => ?_
      rcases hfp c hc with rfl | ⟨y', e'⟩
      · rw [e2] at e; cases e; exact (R4.p _ _ (.inr ⟨rfl, rfl⟩)).1
      · have e3 := R2.g.sub _ _ (u1 _ _ e')
        rw [show ({ s1 with heap := h', toks := tk } : Shared).heap = h' from rfl, e] at e3; cases e3
        exact R4.g.sub _ _ (u3 _ _ (u2 _ _ (u1 _ _ e')))
    have u := u1.trans (u2.trans u3)
    cases fl with
    | next => cases r3; exact ⟨_, by first | lia | omega, i + 1, F3, st3, o2, u, R4, hst3, q3, hlt, rfl⟩
    | cont => cases r3; exact ⟨_, by first | lia | omega, i + 1, F3, st3, o2, u, R4, hst3, q3, hlt, rfl⟩
    | brk => cases r3; exact b .next st3 .next F3 s3 q3 u R4.unpin rfl
    | ret a => obtain ⟨v, rfl, r⟩ := r3; exact b (.ret a) st3 (.ret v) F3 s3 q3 u R4.unpin ⟨v, rfl, r⟩
  · obtain rfl : i = xs.length := by first | lia | omega
    refine W.done s1 _ _ hst1 fun h' tk k => wpAny_execs_nil ?_
    refine b .next st1 .next F1 _ (fin _ j1) u1 ?_ rfl
    obtain ⟨i1, i2, i3⟩ := R1.p I o1 (.inr ⟨rfl, rfl⟩)
    have kk : ∀ a x, a ≠ I → s1.heap.get? a = some x → h'.get? a = some x := fun a y ne e => k a y (by simpa using ne) e
    refine R1.step (Sub.refl _) ⟨h', tk, rfl⟩ (fun a x _ n e => kk a x (fun q => n o1 (.inr ⟨q, rfl⟩)) e) (fun _ _ _ _ e => e) ⟨R1.g.base, fun c y q => kk c y (fun z => by rw [z, i2] at q; cases q) (R1.g.sub c y q), fun t ht => ?_, R1.g.hand, R1.g.dep, R1.g.uni⟩ (fun a x q => ?_) fun a x q => .inl ⟨x, .inl q⟩
    · obtain ⟨h0, ps, e1, e2⟩ := R1.g.tab t ht
      exact ⟨h0, ps, kk _ _ (fun q => i3 ⟨t, ht, q⟩) e1, e2⟩
    · obtain ⟨h1, h2, h3⟩ := R1.p a x (.inl q)
      exact ⟨kk _ _ (fun z => hne x (z ▸ q)) h1, h2, h3⟩

noncomputable def IterOk (C : Ctx) (a : AV) (xs : List AV) : Prop :=
  ∀ A F s v (Qr : Value → Shared → Prop) E, A.handled = none → Sub F s.heap.get? → Repr F a v →
    (∀ I o fp P St h', s.heap.objs.size ≤ I → h'.get? I = some o → (∀ a x, s.heap.get? a = some x → h'.get? a = some x) → Walks C.prog C.w A I fp [I] xs.length P St → St 0 h' → (∀ i h, St i h → ∃ o, h.get? I = some o ∧ plainIter o = true) →
      (∀ b ∈ fp, b = I ∨ ∃ o, F b = some o) → (∀ i v, P i v → ∃ x, xs[i]? = some x ∧ Repr F x v) → Qr (.ref I) { s with heap := h' }) → wpAny C.M A (pyIter v) Qr E s

theorem HX_for {target iter : Expr} {body : List Stmt} {pos : Pos} {Q : AFlow → ASt → Prop} (h : HE fi st iter fun a st1 => ∃ xs, IterOk C a xs ∧ ∃ J : Nat → ASt → Prop, J 0 st1 ∧ (∀ i x st', xs[i]? = some x → J i st' → Turn fi target body J Q i x st') ∧ ∀ st', J xs.length st' → Q .next st')
    (hs : ∀ x, foldedSetIterable iter fi.env x = pure x := by intro _; rfl) : HX fi st (.For target iter body [] pos) Q :=
  fun prot F s Qr E R b => wpAny_For (h prot F s _ E R fun a1 st1 v1 F1 s1 q1 u1 R1 r1 k1 => by
    obtain ⟨xs, it, J, h0, turn, fin⟩ := q1
    refine it fi.A F1 s1 v1 _ E R1.g.hand R1.g.sub r1 fun I o fp P St h' hI e k W hst hSt hfp hP => ?_
    have none : s1.heap.get? I = none := by
      cases q : s1.heap.get? I with
      | none => rfl
      | some x => exact absurd (Heap.lt_size q) (Nat.not_lt.mpr hI)
    have RI : Rel fi (pin prot I o) F1 st1 { s1 with heap := h' } := R1.pinNew (tk := s1.toks) hI e k
    exact for_walk W RI (fun x q => by have := (R1.p I x q).1; rw [none] at this; cases this) hst hSt hfp hP J h0 turn fin fun fl st2 f F2 s2 q2 u2 R2 r2 => b fl st2 f F2 s2 q2 (u1.trans u2) R2 r2) hs
end
end Mine

end

section
open PySem PySem.W PyProof.Rows
set_option maxRecDepth 100000
set_option linter.unusedVariables false
namespace Mine
theorem len1 {α : Type} : ∀ {l : List α}, l.length = 1 → ∃ x, l = [x]
  | [x], _ => ⟨x, rfl⟩
theorem len2 {α : Type} : ∀ {l : List α}, l.length = 2 → ∃ x y, l = [x, y]
  | x :: l, h => let ⟨y, e⟩ := len1 (Nat.succ.inj h); ⟨x, y, by rw [e]⟩
theorem len3 {α : Type} : ∀ {l : List α}, l.length = 3 → ∃ x y z, l = [x, y, z]
  | x :: l, h => let ⟨y, z, e⟩ := len2 (Nat.succ.inj h); ⟨x, y, z, by rw [e]⟩
theorem len4 {α : Type} : ∀ {l : List α}, l.length = 4 → ∃ x y z w, l = [x, y, z, w]
  | x :: l, h => let ⟨y, z, w, e⟩ := len3 (Nat.succ.inj h); ⟨x, y, z, w, by rw [e]⟩
theorem nb {n : String} : ∀ a : Addr, Value.builtin n ≠ .ref a := fun _ q => nomatch q
theorem nt {n : String} : ∀ a : Addr, Value.type n ≠ .ref a := fun _ q => nomatch q

theorem mem_of_lk {α β : Type} [BEq α] [LawfulBEq α] {a : α} {b : β} : ∀ {l : List (α × β)}, l.lookup a = some b → (a, b) ∈ l
  | [], e => by cases e
  | (x, y) :: r, e => by
    rw [List.lookup_cons] at e
    cases h : a == x with
    | true => rw [h] at e; cases e; rw [eq_of_beq h]; exact .head _
    | false => rw [h] at e; exact .tail _ (mem_of_lk e)
noncomputable def IsFn (F : FMap) (f : Addr) (fd : FuncData) : Prop :=
  ∃ o, F f = some o ∧ o.data = .func fd ∧ ∃ c oc vs t, fd.code = .ref c ∧ F c = some oc ∧ oc.data = .fields vs ∧ vs[1]? = some (.str fd.qualname t)
theorem IsFn.mono {F G : FMap} {f : Addr} {fd : FuncData} (x : IsFn F f fd) (h : Sub F G) : IsFn G f fd := by
  obtain ⟨o, e1, e2, c, oc, vs, t, e3, e4, e5⟩ := x
  exact ⟨o, h _ _ e1, e2, c, oc, vs, t, e3, h _ _ e4, e5⟩

noncomputable def RetQ (Q : AV → Prop) : AFlow → ASt → Prop
  | .ret a, _ => Q a
  | .next, _ => Q .none
  | _, _ => False

noncomputable abbrev fnOfFd (fd : FuncData) : Fn := ⟨fd.qualname, fd.scope⟩

section
variable {C : Ctx} {d : Nat} {A : Around} {F : FMap} {s : Shared}
noncomputable def pmax (C : Ctx) (F : FMap) (s : Shared) : Prot := fun a o => s.heap.get? a = some o ∧ F a = none ∧ ¬ isTab C a
theorem GOk.deeper {env : Env} (g : GOk C (d + 1) A F s) : GOk C d (A.deeper env) F s :=
  ⟨g.base, g.sub, g.tab, g.hand, by have := g.dep; show A.depth + 1 + d ≤ 1000; first | lia | omega, by have := g.uni; show A.units + 3 + 8 * d ≤ 9900; first | lia | omega⟩
theorem GOk.room (g : GOk C (d + 1) A F s) : A.depth < recursionLimit := by have := g.dep; show A.depth < 1000; first | lia | omega
theorem notTab_of_fresh (g : GOk C d A F s) {a : Addr} (h : s.heap.objs.size ≤ a) : ¬ isTab C a := by
  rintro ⟨t, ht, rfl⟩
  obtain ⟨_, ps, e1, _⟩ := g.tab t ht
  exact absurd (Heap.lt_size e1) (Nat.not_lt.mpr h)

theorem back_of {fn : Fn} {fi : FI C fn} {F' : FMap} {st' : ASt} {s' : Shared} {Q : AV → Prop} {Qr : Value → Shared → Prop} {a : AV} {v : Value} (g : GOk C (d + 1) A F s) (b : Back C (d + 1) A F s Q Qr) (hs : fi.s₀ = s)
    (R : Rel fi (pmax C F s) F' st' s') (u : Sub F F') (q : Q a) (r : Repr F' a v) : Qr v s' := by
  refine b a v F' s' q u (fun x o t e f => (R.p x o ⟨e, f, t⟩).2.1) ⟨hs ▸ R.only, fun x o t _ e => ?_⟩ ⟨R.g.base, R.g.sub, R.g.tab, g.hand, g.dep, g.uni⟩ r
  cases hF : F x with
  | none => exact (R.p x o ⟨e, hF, t⟩).1
  | some o' =>
    have e1 := g.sub _ _ hF
    rw [e] at e1; cases e1
    exact R.g.sub _ _ (u _ _ hF)

theorem enter {E : Value → Shared → Prop} {f : Addr} {fd : FuncData} {body : List Stmt} {vs : List Value} {binds : List (Str × Value)} {st₀ : ASt} {Q : AV → Prop} {Qr : Value → Shared → Prop}
    (g : GOk C (d + 1) A F s) (b : Back C (d + 1) A F s Q Qr) (hf : IsFn F f fd) (hbody : fd.body = .stmts body) (hgl : fd.globals = mainGlobals) (hbi : fd.builtins = builtinsNs) (hbind : BindsTo s fd ⟨vs, []⟩ binds)
    (hst : ∀ x sl, st₀.lookup x = some sl → ∃ av, sl = .v av ∧ ((fd.scope.names.lookup x = some .local ∧ ∃ v, binds.reverse.lookup x = some v ∧ Repr F av v) ∨
      (fd.scope.names.lookup x = some .free ∧ ∃ c o v, fd.closure.lookup x = some c ∧ F c = some o ∧ o.data = .cell (some v) ∧ Repr F av v)))
    (hfree : ∀ x c, fd.scope.names.lookup x = some .free → fd.closure.lookup x = some c → ∃ o v, F c = some o ∧ o.data = .cell v)
    (hcell : ∀ x ∈ fd.scope.names, x.2 ≠ .cell) (hloc : ∀ x ∈ binds, fd.scope.names.lookup x.1 = some .local)
    (h : ∀ fi : FI C (fnOfFd fd), fi.d = d → fi.cl = fd.closure → fi.cd = fd.code → HS fi st₀ body (RetQ Q))
    (hco : fd.scope.isCoroutine = false) (hgen : fd.scope.isGenerator = false) (hk : fd.scope.kind = .function) :
    wpAny C.M A (call (.ref f) vs) Qr E s := by
  obtain ⟨o, e1, e2, c, oc, ws, t, e3, e4, e5, e6⟩ := hf
  have nocell : ∀ x, fd.scope.names.lookup x ≠ some .cell := fun x q => hcell (x, .cell) (mem_of_lk q) rfl
  refine wpAny_call (codeAny_call_def (fd := fd) (body := body) (binds := binds) g.room (g.sub _ _ e1) e2 g.nolimit ⟨c, oc, ws, t, e3, g.sub _ _ e4, e5, e6⟩ hbody hbind hcell hloc (fun h₀ hns hk₀ => ?_) hco hgen hk)
  have he : callEnv fd s.heap.objs.size f = envX fd.qualname fd.scope s.heap.objs.size f fd.code fd.closure := by
    unfold callEnv newEnv; rw [hgl, hbi]
  rw [he]
  let fi : FI C (fnOfFd fd) := { A := A.deeper (envX fd.qualname fd.scope s.heap.objs.size f fd.code fd.closure), L := s.heap.objs.size, f := f, cd := fd.code, cl := fd.closure, s₀ := s, d := d }
  have R : Rel fi (pmax C F s) F st₀ { s with heap := h₀, toks := s.toks + binds.length } := by
    refine ⟨(g.grow hk₀).deeper, ⟨_, _, rfl⟩, fun a o q => ⟨hk₀ _ _ q.1, q.2.1, q.2.2⟩, ⟨_, hns⟩, g.fresh (Nat.le_refl _), fun o q => absurd (Heap.lt_size q.1) (Nat.lt_irrefl _), notTab_of_fresh g (Nat.le_refl _),
      fun x c k l => absurd k (nocell x), fun x k => absurd k (nocell x), fun x y c k => absurd k (nocell x), fun x c k l => hfree x c k l, fun x sl e => ?_, fun x y xs ys a e => ?_⟩
    · obtain ⟨av, rfl, ⟨k, v, q, r⟩ | ⟨k, c, o, v, q1, q2, q3, r⟩⟩ := hst x sl e
      · exact ⟨v, .inl ⟨k, _, hns, q⟩, r⟩
      · exact ⟨v, .inr ⟨.inr k, c, q1, o, hk₀ _ _ (g.sub _ _ q2), q3⟩, r⟩
    · obtain ⟨av, q, _⟩ := hst x _ e
      cases q
  refine h fi rfl rfl rfl (pmax C F s) F _ _ _ R fun fl st' f' F' s' q u R' r => ?_
  cases fl with
  | next => cases r; exact back_of g b rfl R' u q (by simp [Repr])
  | brk => exact absurd q (fun z => z)
  | cont => exact absurd q (fun z => z)
  | ret a => obtain ⟨v, rfl, r⟩ := r; exact back_of g b rfl R' u q r

theorem lookup_zip_reverse : ∀ {ps : List Str} {vs : List Value} {xs : List AV} {x : Str} {sl : Slot}, ps.Nodup → ReprL F xs vs → ps.length = vs.length → (ps.zip (xs.map Slot.v)).lookup x = some sl →
    ∃ av v, sl = .v av ∧ (x, v) ∈ ps.zip vs ∧ Repr F av v
  | [], _, _, _, _, _, _, _, e => by simp at e
  | p :: ps, _, [], _, _, _, r, hl, e => by simp at e
  | p :: ps, _, y :: xs, x, sl, nd, r, hl, e => by
    simp only [ReprL] at r
    obtain ⟨v, vs, rfl, r1, r2⟩ := r
    simp only [List.map_cons, List.zip_cons_cons, List.lookup_cons] at e
    by_cases hx : (x == p) = true
    · simp only [hx] at e
      cases e
      obtain rfl : x = p := by simpa using hx
      exact ⟨y, v, rfl, by simp, r1⟩
    · have hx' : (x == p) = false := by simpa using hx
      simp only [hx'] at e
      obtain ⟨av, w, e1, e2, e3⟩ := lookup_zip_reverse (List.nodup_cons.mp nd).2 r2 (by simpa using hl) e
      exact ⟨av, w, e1, by simp [e2], e3⟩
theorem lookup_of_mem_nodup' {v : Value} {x : Str} : ∀ {l : List (Str × Value)}, (l.map (·.1)).Nodup → (x, v) ∈ l → l.reverse.lookup x = some v := by
  intro l nd m
  have nd' : (l.reverse.map (·.1)).Nodup := by rw [List.map_reverse]; exact List.pairwise_reverse.mpr (nd.imp Ne.symm)
  have m' : (x, v) ∈ l.reverse := List.mem_reverse.mpr m
  generalize l.reverse = l' at nd' m'
  induction l' with
  | nil => cases m'
  | cons p r ih =>
    simp only [List.map_cons, List.nodup_cons] at nd'
    rw [List.lookup_cons]
    rcases List.mem_cons.mp m' with rfl | m'
    · simp
    · have hne : x ≠ p.1 := fun q => nd'.1 (q ▸ List.mem_map_of_mem (f := (·.1)) m')
      have : (x == p.1) = false := by simpa using hne
      simp only [this]
      exact ih nd'.2 m'

theorem Call_def {f : Addr} {fd : FuncData} {body : List Stmt} {xs : List AV} {Q : AV → Prop} (ps : List Str) (hf : IsFn C.h₁.get? f fd) (hbody : fd.body = .stmts body) (hgl : fd.globals = mainGlobals) (hbi : fd.builtins = builtinsNs)
    (hbind : ∀ vs : List Value, vs.length = ps.length → bindArgs fd ⟨vs, []⟩ = pure (ps.zip vs)) (hlen : xs.length = ps.length) (hnd : ps.Nodup) (hcell : ∀ x ∈ fd.scope.names, x.2 ≠ .cell ∧ x.2 ≠ .free) (hloc : ∀ x ∈ ps, fd.scope.names.lookup x = some .local)
    (h : ∀ fi : FI C (fnOfFd fd), fi.d = d → fi.cd = fd.code → HS fi (ps.zip (xs.map Slot.v)) body (RetQ Q))
    (hco : fd.scope.isCoroutine = false := by rfl) (hgen : fd.scope.isGenerator = false := by rfl) (hk : fd.scope.kind = .function := by rfl) : Call C (d + 1) f xs Q := by
  intro A F s vs Qr E g r b
  have hl : vs.length = ps.length := (ReprL.length r).trans hlen
  refine enter (binds := ps.zip vs) (st₀ := ps.zip (xs.map Slot.v)) g b (hf.mono g.base) hbody hgl hbi (BindsTo.of_eq (hbind vs hl)) (fun x sl e => ?_) (fun x c k => ?_) (fun x hx => (hcell x hx).1) (fun x hx => ?_) (fun fi e1 _ e3 => h fi e1 e3) hco hgen hk
  · obtain ⟨av, v, e1, e2, e3⟩ := lookup_zip_reverse hnd r hl.symm e
    refine ⟨av, e1, .inl ⟨hloc x (List.of_mem_zip e2).1, v, lookup_of_mem_nodup' ?_ e2, e3⟩⟩
    rw [List.map_fst_zip (by first | lia | omega)]; exact hnd
  · exact absurd rfl (hcell (x, .free) (mem_of_lk k)).2
  · exact hloc x.1 (List.of_mem_zip (show (x.1, x.2) ∈ ps.zip vs from hx)).1
end

section
variable {C : Ctx} {fn : Fn} {fi : FI C fn} {st : ASt}
theorem notStar {es : List Expr} {env : Env} {pos : Pos} (h : es.all plainE = true) : (backTo pos (starEach es env)).any (·.1) = false := by
  induction es with
  | nil => rfl
  | cons e es ih =>
    simp only [List.all_cons, Bool.and_eq_true] at h
    rw [starEach_cons h.1]
    simpa [backTo] using ih h.2
theorem evalArgs_of {M : Model} {A : Around} {E : Value → Shared → Prop} {s : Shared} {f : Value} {es : List Expr} {env : Env} {pos : Pos} {Q : Args → Shared → Prop} (hp : es.all plainE = true)
    (h : wpAny M A (spliced (backTo pos (starEach es env))) (fun vs s' => Q ⟨vs, []⟩ s') E s) : wpAny M A (evalArgs f true (backTo pos (starEach es env)) []) Q E s := by
  cases es with
  | nil =>
    show wpAny M A (evalArgs f true [] []) Q E s
    unfold evalArgs
    show wpAny M A (spliced [] >>= _) Q E s
    refine wpAny_bind (wpAny_mono (show wpAny M A (spliced []) _ E s from h) (fun vs s' h' => ?_) fun _ _ x => x)
    refine wpAny_holding ?_
    exact wpAny_bind (wpAny_pure (wpAny_bind (wpAny_pure (wpAny_pure h'))))
  | cons e es =>
    simp only [List.all_cons, Bool.and_eq_true] at hp
    rw [starEach_cons hp.1] at h ⊢
    exact Calls.evalArgs_plain h

theorem HE_call {x : Str} {np pos : Pos} {es : List Expr} {f : Addr} {fd : FuncData} {Q : AV → ASt → Prop} (hg : Glob C x (.ref f)) (hf : IsFn C.h₁.get? f fd)
    (h : HL fi st es fun as st1 => Call C fi.d f as fun a => Q a st1) (hp : es.all plainE = true := by rfl)
    (hx : fn.scope.names.lookup x = some .globalImplicit := by rfl) (ho : okName x = true := by rfl) (hk : fn.scope.kind = .function := by rfl) : HE fi st (.Call (.Name x np) es [] pos) Q :=
  fun prot F s Qr E R b => by
    refine wpAny_Call_ofName (HE_glob (Q := fun a st1 => a = .val (.ref f) ∧ st1 = st) hg ⟨rfl, rfl⟩ hx ho hk prot F s _ E R ?_)
    rintro a1 st1 v1 F1 s1 ⟨rfl, rfl⟩ u1 R1 r1 k1
    simp only [Repr] at r1
    subst r1
    obtain ⟨o, e1, e2, _⟩ := hf
    refine Calls.callWith_function (o := o) (fd := fd) (evalArgs_of hp (h prot F1 s1 _ E pos R1 fun as st2 vs F2 s2 q2 u2 R2 r2 k2 => ⟨⟨R2.g.old _ _ e1, e2⟩, ?_⟩))
    show wpAny C.M fi.A (call (.ref f) ([] ++ vs) []) Qr E s2
    exact q2 fi.A F2 s2 vs Qr E R2.g r2 (b.op (u1.trans u2) (k1.trans k2) R2)
theorem HE_callB {x : Str} {np pos : Pos} {es : List Expr} {v : Value} {Q : AV → ASt → Prop} (hg : Glob C x v) (hv : ∀ a, v ≠ .ref a)
    (h : HL fi st es fun as st1 => OpN C fi.d (fun vs => call v vs) as fun a => Q a st1) (hp : es.all plainE = true := by rfl)
    (hx : fn.scope.names.lookup x = some .globalImplicit := by rfl) (ho : okName x = true := by rfl) (hk : fn.scope.kind = .function := by rfl) : HE fi st (.Call (.Name x np) es [] pos) Q :=
  fun prot F s Qr E R b => by
    refine wpAny_Call_ofName (HE_glob (Q := fun a st1 => a = .val v ∧ st1 = st) hg ⟨rfl, rfl⟩ hx ho hk prot F s _ E R ?_)
    rintro a1 st1 v1 F1 s1 ⟨rfl, rfl⟩ u1 R1 r1 k1
    simp only [Repr] at r1
    subst r1
    unfold callWith
    refine wpAny_bind (wpAny_holding (evalArgs_of hp (h prot F1 s1 _ E pos R1 fun as st2 vs F2 s2 q2 u2 R2 r2 k2 => wpAny_bind (wpAny_standAt ?_))))
    have hkeep : keeperOf v1 = pure .machine := by
      cases v1 <;> first | rfl | exact absurd rfl (hv _)
    rw [notStar hp, hkeep]
    refine wpAny_bind (wpAny_pure ?_)
    show wpAny C.M fi.A (call v1 ([] ++ vs) [] >>= fun r => holding [r] point >>= fun _ => pure r) Qr E s2
    exact wpAny_bind (wpAny_mono (q2 fi.A F2 s2 vs Qr E R2.g r2 (b.op (u1.trans u2) (k1.trans k2) R2)) (fun r s3 h3 => wpAny_bind (wpAny_holding (wpAny_point (wpAny_pure h3)))) fun _ _ x => x)
end
end Mine

end

section
open PySem PySem.W PyProof.Rows
set_option maxRecDepth 100000
set_option linter.unusedVariables false
namespace Mine
noncomputable abbrev bl (a : Int) : Nat := Builtin.Int.intBits a

section
variable {C : Ctx} {d : Nat} {a b : Int} {Q : AV → Prop}
theorem rInt {F : FMap} {i : Int} {t : Tok} : Repr F (.int i) (.int i t) := by simp [Repr]
theorem rStr {F : FMap} {x : Str} {t : Tok} : Repr F (.str x) (.str x t) := by simp [Repr]
theorem rBool {F : FMap} {x : Bool} : Repr F (.bool x) (.bool x) := by simp [Repr]
theorem rNone {F : FMap} : Repr F .none .none := by simp [Repr]
theorem rVal {F : FMap} {v : Value} : Repr F (.val v) v := by simp [Repr]
theorem op_add (q : Q (.int (a + b))) : Op2 C d (binaryOp .Add) (.int a) (.int b) Q := by
  intro A F s v u Qr E g r1 r2 k; simp only [Repr] at r1 r2; obtain ⟨t, rfl⟩ := r1; obtain ⟨t2, rfl⟩ := r2
  exact PyProof.Rows.add_int (k.toks g q rInt)
theorem op_sub (q : Q (.int (a - b))) : Op2 C d (binaryOp .Sub) (.int a) (.int b) Q := by
  intro A F s v u Qr E g r1 r2 k; simp only [Repr] at r1 r2; obtain ⟨t, rfl⟩ := r1; obtain ⟨t2, rfl⟩ := r2
  exact PyProof.Rows.sub_int (k.toks g q rInt)
theorem op_mul (h : IntMulOk a b) (q : Q (.int (a * b))) : Op2 C d (binaryOp .Mult) (.int a) (.int b) Q := by
  intro A F s v u Qr E g r1 r2 k; simp only [Repr] at r1 r2; obtain ⟨t, rfl⟩ := r1; obtain ⟨t2, rfl⟩ := r2
  exact PyProof.Rows.mul_int (k.toks g q rInt) h
theorem op_mod (h : b ≠ 0) (q : Q (.int (a.fmod b))) : Op2 C d (binaryOp .Mod) (.int a) (.int b) Q := by
  intro A F s v u Qr E g r1 r2 k; simp only [Repr] at r1 r2; obtain ⟨t, rfl⟩ := r1; obtain ⟨t2, rfl⟩ := r2
  exact PyProof.Rows.mod_int h (k.toks g q rInt)
theorem op_div (h : b ≠ 0) (hb : bl b ≤ 8000) (q : Q (.int (a.fdiv b))) : Op2 C d (binaryOp .FloorDiv) (.int a) (.int b) Q := by
  intro A F s v u Qr E g r1 r2 k; simp only [Repr] at r1 r2; obtain ⟨t, rfl⟩ := r1; obtain ⟨t2, rfl⟩ := r2
  refine PyProof.Rows.floordiv_int h (k.toks g q rInt) (.inl (PyProof.noPylong_of_log2 ?_))
  have := PySem.intBits_le_iff.mp hb
  by_cases h0 : b.natAbs = 0
  · rw [h0]; decide +kernel
  · exact Nat.lt_of_lt_of_le ((Nat.log2_lt h0).mpr this) (by first | lia | omega)
theorem op_shl (h : 0 ≤ b) (hs : (bl a : Int) + b ≤ 2 ^ 27) (q : Q (.int (a * 2 ^ b.toNat))) : Op2 C d (binaryOp .LShift) (.int a) (.int b) Q := by
  intro A F s v u Qr E g r1 r2 k; simp only [Repr] at r1 r2; obtain ⟨t, rfl⟩ := r1; obtain ⟨t2, rfl⟩ := r2
  exact PyProof.Rows.lshift_int h hs (k.toks g q rInt)
theorem op_shr (h : 0 ≤ b) (q : Q (.int (a.fdiv (2 ^ b.toNat)))) : Op2 C d (binaryOp .RShift) (.int a) (.int b) Q := by
  intro A F s v u Qr E g r1 r2 k; simp only [Repr] at r1 r2; obtain ⟨t, rfl⟩ := r1; obtain ⟨t2, rfl⟩ := r2
  exact PyProof.Rows.rshift_int h (k.toks g q rInt)
theorem op_xor (q : Q (.int (Builtin.bitXor a b))) : Op2 C d (binaryOp .BitXor) (.int a) (.int b) Q := by
  intro A F s v u Qr E g r1 r2 k; simp only [Repr] at r1 r2; obtain ⟨t, rfl⟩ := r1; obtain ⟨t2, rfl⟩ := r2
  exact PyProof.Rows.xor_int (k.toks g q rInt)
theorem op_pow (h : 0 ≤ b) (hs : (bl a : Int) * b ≤ 2 ^ 27) (q : Q (.int (a ^ b.toNat))) : Op2 C d (binaryOp .Pow) (.int a) (.int b) Q := by
  intro A F s v u Qr E g r1 r2 k; simp only [Repr] at r1 r2; obtain ⟨t, rfl⟩ := r1; obtain ⟨t2, rfl⟩ := r2
  exact PyProof.Rows.pow_int h hs (k.toks g q rInt)
theorem op_iadd (q : Q (.int (a + b))) : Op2 C d (inplaceOp .Add) (.int a) (.int b) Q := by
  intro A F s v u Qr E g r1 r2 k; simp only [Repr] at r1 r2; obtain ⟨t, rfl⟩ := r1; obtain ⟨t2, rfl⟩ := r2
  exact PyProof.Rows.iadd_int (k.toks g q rInt)
theorem op_isub (q : Q (.int (a - b))) : Op2 C d (inplaceOp .Sub) (.int a) (.int b) Q := by
  intro A F s v u Qr E g r1 r2 k; simp only [Repr] at r1 r2; obtain ⟨t, rfl⟩ := r1; obtain ⟨t2, rfl⟩ := r2
  exact PyProof.Rows.isub_int (k.toks g q rInt)
theorem op_neg (q : Q (.int (-a))) : Op1 C d (unaryOp .USub) (.int a) Q := by
  intro A F s v Qr E g r1 k; simp only [Repr] at r1; obtain ⟨t, rfl⟩ := r1
  exact PySem.P.neg_int (k.toks g q rInt)
theorem op_inv (q : Q (.int (-a - 1))) : Op1 C d (unaryOp .Invert) (.int a) Q := by
  intro A F s v Qr E g r1 k; simp only [Repr] at r1; obtain ⟨t, rfl⟩ := r1
  exact PyProof.Rows.invert_int (k.toks g q rInt)
theorem op_eq (q : Q (.bool (a == b))) : Op2 C d (compareOp .Eq) (.int a) (.int b) Q := by
  intro A F s v u Qr E g r1 r2 k; simp only [Repr] at r1 r2; obtain ⟨t, rfl⟩ := r1; obtain ⟨t2, rfl⟩ := r2
  exact PyProof.Rows.eq_int (k.same g q rBool)
theorem op_ne (q : Q (.bool (a != b))) : Op2 C d (compareOp .NotEq) (.int a) (.int b) Q := by
  intro A F s v u Qr E g r1 r2 k; simp only [Repr] at r1 r2; obtain ⟨t, rfl⟩ := r1; obtain ⟨t2, rfl⟩ := r2
  exact PyProof.Rows.ne_int (k.same g q rBool)
theorem op_lt (q : Q (.bool (decide (a < b)))) : Op2 C d (compareOp .Lt) (.int a) (.int b) Q := by
  intro A F s v u Qr E g r1 r2 k; simp only [Repr] at r1 r2; obtain ⟨t, rfl⟩ := r1; obtain ⟨t2, rfl⟩ := r2
  exact PyProof.Rows.lt_int (k.same g q rBool)
theorem op_le (q : Q (.bool (decide (a ≤ b)))) : Op2 C d (compareOp .LtE) (.int a) (.int b) Q := by
  intro A F s v u Qr E g r1 r2 k; simp only [Repr] at r1 r2; obtain ⟨t, rfl⟩ := r1; obtain ⟨t2, rfl⟩ := r2
  exact PyProof.Rows.le_int (k.same g q rBool)
theorem op_gt (q : Q (.bool (decide (b < a)))) : Op2 C d (compareOp .Gt) (.int a) (.int b) Q := by
  intro A F s v u Qr E g r1 r2 k; simp only [Repr] at r1 r2; obtain ⟨t, rfl⟩ := r1; obtain ⟨t2, rfl⟩ := r2
  exact PyProof.Rows.gt_int (k.same g q rBool)
theorem op_ge (q : Q (.bool (decide (b ≤ a)))) : Op2 C d (compareOp .GtE) (.int a) (.int b) Q := by
  intro A F s v u Qr E g r1 r2 k; simp only [Repr] at r1 r2; obtain ⟨t, rfl⟩ := r1; obtain ⟨t2, rfl⟩ := r2
  exact PyProof.Rows.ge_int (k.same g q rBool)

theorem truth_bool {x : Bool} {P : Bool → Prop} (q : P x) : Truth C (.bool x) P := by
  intro d A F s v Qr E g r k; simp only [Repr] at r; subst r
  exact wpAny_truthy_bool (k x s.toks q)
theorem truth_none {P : Bool → Prop} (q : P false) : Truth C .none P := by
  intro d A F s v Qr E g r k; simp only [Repr] at r; subst r
  exact PyProof.Rows.truthy_none (k false s.toks q)
theorem truth_int {P : Bool → Prop} (q : P (a != 0)) : Truth C (.int a) P := by
  intro d A F s v Qr E g r k; simp only [Repr] at r; obtain ⟨t, rfl⟩ := r
  exact PyProof.Rows.truthy_int (k _ s.toks q)
theorem truth_lst {xs : List AV} {P : Bool → Prop} (hl : (xs.length : Int) < 2 ^ 63) (q : P (!xs.isEmpty)) : Truth C (.lst xs) P := by
  intro d A F s v Qr E g r k; simp only [Repr] at r; obtain ⟨l, vs, n, rfl, e1, r⟩ := r
  have hlen := ReprL.length r
  have hz : vs.size = xs.length := by simpa using hlen
  refine wpAny_truthy_list ⟨_, g.sub _ _ e1, rfl, n, rfl⟩ (by rw [hz]; exact hl) ?_
  have : vs.isEmpty = xs.isEmpty := by
    cases xs with
    | nil => simp only [List.length_nil] at hz; simp [Array.isEmpty, hz]
    | cons x xs => simp [Array.isEmpty, hz]
  rw [this]; exact k _ _ q

theorem op_tuple {xs : List AV} (hl : xs.length ≤ sizeLine) (q : Q (.tup xs)) : OpN C d newTuple xs Q := by
  intro A F s vs Qr E g r k
  have hlen := ReprL.length r
  refine wpAny_newObj_type ?_ (by show vs.toArray.size ≤ sizeLine; rw [List.size_toArray, hlen]; exact hl)
  exact k.push (tk := s.toks) g q rfl (by
    simp only [Repr]
    exact ⟨_, vs.toArray, _, rfl, put_self, by simpa using ReprL.mono (put_sub (g.fresh (Nat.le_refl _))) _ _ r⟩)
theorem op_list {xs : List AV} (hl : xs.length ≤ sizeLine) (q : Q (.lst xs)) : OpN C d newList xs Q := by
  intro A F s vs Qr E g r k
  have hlen := ReprL.length r
  refine wpAny_newObj_type ?_ (by show vs.toArray.size ≤ sizeLine; rw [List.size_toArray, hlen]; exact hl)
  exact k.push (tk := s.toks) g q rfl (by
    simp only [Repr]
    exact ⟨_, vs.toArray, _, rfl, put_self, by simpa using ReprL.mono (put_sub (g.fresh (Nat.le_refl _))) _ _ r⟩)
theorem op_divmod (h : b ≠ 0) (hb : bl b ≤ 8000) (q : Q (.tup [.int (a.fdiv b), .int (a.fmod b)])) : OpN C d (fun vs => call (.builtin "divmod") vs) [.int a, .int b] Q := by
  intro A F s vs Qr E g r k
  simp only [ReprL, Repr] at r
  obtain ⟨_, _, rfl, ⟨t, rfl⟩, _, _, rfl, ⟨t2, rfl⟩, rfl⟩ := r
  refine PyProof.Rows.divmod_int h ?_ (.inl (PyProof.noPylong_of_log2 ?_))
  · exact k.push (tk := s.toks + 1 + 1) g q rfl (by
      simp only [Repr]
      exact ⟨_, _, _, rfl, put_self, ReprL.cons rInt (ReprL.one rInt)⟩)
  · have := PySem.intBits_le_iff.mp hb
    by_cases h0 : b.natAbs = 0
    · rw [h0]; decide +kernel
    · exact Nat.lt_of_lt_of_le ((Nat.log2_lt h0).mpr this) (by first | lia | omega)
end

section
variable {C : Ctx} {fn : Fn} {fi : FI C fn} {st : ASt}
theorem HE_tuple {es : List Expr} {k : Nat} {pos : Pos} {Q : AV → ASt → Prop} (h : HL fi st es fun as st1 => as.length ≤ sizeLine ∧ Q (.tup as) st1) : HE fi st (.Tuple es k pos) Q :=
  fun prot F s Qr E R b => PyProof.Rows.Tuple_ (h prot F s _ E pos R fun as st1 vs F1 s1 q1 u1 R1 r1 k1 => op_tuple (Q := fun a => Q a st1) q1.1 q1.2 fi.A F1 s1 vs Qr E R1.g r1 (b.op u1 k1 R1))
theorem HE_list {es : List Expr} {pos : Pos} {Q : AV → ASt → Prop} (h : HL fi st es fun as st1 => as.length ≤ sizeLine ∧ Q (.lst as) st1) : HE fi st (.List es pos) Q :=
  fun prot F s Qr E R b => PyProof.Rows.List_ (h prot F s _ E pos R fun as st1 vs F1 s1 q1 u1 R1 r1 k1 => op_list (Q := fun a => Q a st1) q1.1 q1.2 fi.A F1 s1 vs Qr E R1.g r1 (b.op u1 k1 R1))

noncomputable def HasT (C : Ctx) (a : AV) (T : String) : Prop := ∀ d A F s v, GOk C d A F s → Repr F a v → s.TypeIs v T ∧ ∀ x, v = .ref x → ∃ ob, s.heap.get? x = some ob ∧ ob.dict = none
theorem hasT_int {i : Int} : HasT C (.int i) "int" := fun d A F s v g r => by
  simp only [Repr] at r; obtain ⟨t, rfl⟩ := r; exact ⟨typeIs_int s i t, fun x q => nomatch q⟩
theorem hasT_str {x : Str} : HasT C (.str x) "str" := fun d A F s v g r => by
  simp only [Repr] at r; obtain ⟨t, rfl⟩ := r; exact ⟨typeIs_str s x t, fun x q => nomatch q⟩
theorem notStar' {es : List Expr} {env : Env} {pos : Pos} (h : es.all plainE = true) : (backTo pos (starEach es env)).all (fun x => !x.1) = true := by
  induction es with
  | nil => rfl
  | cons e es ih =>
    simp only [List.all_cons, Bool.and_eq_true] at h
    rw [starEach_cons h.1]
    simpa [backTo] using ih h.2
theorem HE_meth {o : Expr} {name : Str} {apos pos : Pos} {es : List Expr} {T id : String} {Q : AV → ASt → Prop} (pa : PlainAttrs T) (slot : PySem.Slot T name id) (hty : typeOf (.builtin id) = pure (.type "method_descriptor"))
    (h : HE fi st o fun a st1 => HasT C a T ∧ HL fi st1 es fun as st2 => OpN C fi.d (fun vs => call (.builtin id) vs) (a :: as) fun r => Q r st2)
    (hp : es.all plainE = true := by rfl) (hn : es.length < 30 := by decide) (hbase : attributeBase o name fi.env (eval o fi.env) = eval o fi.env := by rfl) (hline : (apos.endLine == pos.line) = true := by rfl) : HE fi st (.Call (.Attribute o name apos) es [] pos) Q :=
  fun prot F s Qr E R b => by
    refine wpAny_Call_method hbase ?_ hline pa slot hty (h prot F s _ E R fun a1 st1 v1 F1 s1 q1 u1 R1 r1 k1 => ?_)
    · rw [notStar' hp]
      have : decide (es.length + ([] : List Keyword).length + (if ([] : List Keyword).isEmpty then 0 else 1) < 30) = true := by simpa using hn
      rw [this]; rfl
    obtain ⟨ht, hl⟩ := q1
    obtain ⟨t1, t2⟩ := ht _ _ _ _ _ R1.g r1
    refine ⟨t1, t2, Calls.callWith_builtin (notStar hp) (evalArgs_of hp (hl prot F1 s1 _ E pos R1 fun as st2 vs F2 s2 q2 u2 R2 r2 k2 => ?_))⟩
    exact q2 fi.A F2 s2 (v1 :: vs) Qr E R2.g (ReprL.cons (Repr.mono u2 _ _ r1) r2) (b.op (u1.trans u2) (k1.trans k2) R2)
theorem op_bitlen {a : Int} {d : Nat} {Q : AV → Prop} (q : Q (.int (bl a))) : OpN C d (fun vs => call (.builtin "int.bit_length") vs) [.int a] Q := by
  intro A F s vs Qr E g r k
  simp only [ReprL, Repr] at r
  obtain ⟨_, _, rfl, ⟨t, rfl⟩, rfl⟩ := r
  exact PyProof.Rows.call_int_bit_length (k.toks g q rInt)
end
end Mine

end

section
open PySem PySem.W PyProof.Rows
set_option maxRecDepth 100000
set_option linter.unusedVariables false
namespace Mine

theorem codeAmong_app {p : Pos} {a b : Int} {c : Value} : ∀ (l : List Value), TriplesOk l → codeAmong p (l ++ [rawInt a, rawInt b, c]) = (codeAmong p l).or (if a == p.line && b == p.col then some c else none) := by
  intro l h
  fun_induction TriplesOk l with
  | case1 => simp [codeAmong, rawInt]
  | case2 a' t b' u x rest ih =>
    simp only [List.cons_append, codeAmong]
    split
    · rfl
    · exact ih h
  | case3 l h1 h2 => exact h.elim

section
variable {C : Ctx} {d : Nat} {A : Around} {F : FMap} {s : Shared}
theorem GOk.freeze (g : GOk C d A F s) {a : Addr} {o : Obj} (e : s.heap.get? a = some o) (hF : F a = none) (ht : ¬ isTab C a) : GOk C d A (put F a o) s := by
  refine ⟨g.base.trans (put_sub hF), fun b x q => ?_, fun t m => ?_, g.hand, g.dep, g.uni⟩
  · unfold put at q; split at q
    · rename_i z; cases q; subst z; exact e
    · exact g.sub _ _ q
  · obtain ⟨h0, ps, e1, e2, e3⟩ := g.tab t m
    refine ⟨?_, ps, e1, e2, fun x hx => ?_⟩
    · unfold put; rw [if_neg (fun q => ht ⟨t, m, q⟩)]; exact h0
    · rcases e3 x hx with q | ⟨c', o, vs, tk, q1, q2, q3⟩
      · exact .inl q
      · exact .inr ⟨c', o, vs, tk, q1, put_sub hF _ _ q2, q3⟩
theorem builtinsAt (g : GOk C d A F s) {t : Tab} (ht : t ∈ C.tabs) : mainGlobals ≠ t.P ∧ s.heap.BuiltinsAt C.mg t.P := by
  obtain ⟨h0, ps, e1, e2, e3⟩ := g.tab t ht
  obtain ⟨bm, ob, b1, b2, b3, b4, b5, b6⟩ := C.T.bmain
  have hG : mainGlobals ≠ t.P := fun q => by
    obtain ⟨o, es, ep, e, _⟩ := C.T.g
    have := g.base _ _ e
    rw [q, h0] at this; cases this
  have hbP : bm ≠ t.P := fun q => by
    have := g.base _ _ b3
    rw [q, h0] at this; cases this
  have hbG : bm ≠ mainGlobals := fun q => by
    obtain ⟨o, es, ep, e, hd, _⟩ := C.T.g
    rw [q, e] at b3; cases b3; rw [hd] at b6; cases b6
  exact ⟨hG, bm, ob, b1, b2, hbG, hbP, g.old _ _ b3, b4, b5, b6⟩

theorem mkTail_ok {E : Value → Shared → Prop} {env : Env} {t : Tab} {name qual : Str} {params : Arguments} {body : FuncBody} {scope : Scope} {clos : List (Str × Addr)} {dV : Value} {pos : Pos} {fl : Nat} {Qr : Value → Shared → Prop}
    (g : GOk C d A F s) (ht : t ∈ C.tabs) (hge : env.globals = mainGlobals) (hcode : env.code = .ref t.c) (he : (pos, qual) ∈ t.ents) (hcl : closureFor scope env = pure clos)
    (k : ∀ f c' oc vs tk ctv doc F' s', Sub F F' → New C s F F' → Ext C [] s s' → GOk C d A F' s' → s.heap.get? f = none → F' f = none → ¬ isTab C f →
      s'.heap.get? f = some { cls := .type "function", data := .func (kdv_fn name qual params body scope clos dV doc ((C.mg "__name__").getD .none) (.ref c') ctv) } → F' c' = some oc → oc.data = .fields vs → vs[1]? = some (.str qual tk) → Qr (.ref f) s') :
    wpAny C.M A (makeTail name qual params body scope env dV .none none pos fl) Qr E s := by
  obtain ⟨h0, ps, e1, e2, e3⟩ := g.tab t ht
  obtain ⟨hG, hb⟩ := builtinsAt g ht
  have hC := (C.hd t ht).keeps g.old
  have hgs := C.T.g.keeps g.old
  have fresh : ∀ a, s.heap.objs.size ≤ a → s.heap.get? a = none := fun a l => Heap.get?_none_of_le l
  have ntab : ∀ a, s.heap.objs.size ≤ a → ¬ isTab C a := fun a l => notTab_of_fresh g l
  rcases e3 _ he with hn | ⟨c', oc, vs, tk, q1, q2, q3, q4⟩
  · refine kdv_makeTail hcl hge hgs hcode hC e1 e2 hn hG hb fun c' ctv doc h' tk hx hge' hlt hrec htb => ?_
    obtain ⟨c2, oc, vs, tk', z, hoc, hd, hv⟩ := hrec
    cases z
    have hFc := g.fresh hge'
    have keep : ∀ a o, a ≠ t.P → s.heap.get? a = some o → (h'.push { cls := .type "function", data := .func (kdv_fn name qual params body scope clos dV doc ((C.mg "__name__").getD .none) (.ref c') ctv) }).get? a = some o := fun a o n e => Heap.get?_push_of_some _ (hx a o n e)
    refine k h'.objs.size c' oc vs tk' ctv doc (put F c' oc) _ (put_sub hFc) (New.put hge') ⟨⟨_, _, rfl⟩, fun a o nt _ e => keep a o (fun q => nt ⟨t, ht, q.symm⟩) e⟩ ⟨g.base.trans (put_sub hFc), fun a o q => ?_, fun t2 m => ?_, g.hand, g.dep, g.uni⟩
      (fresh _ (by first | lia | omega)) ?_ (ntab _ (by first | lia | omega)) (Heap.get?_push_size _ rfl) put_self hd hv
    · unfold put at q; split at q
      · rename_i z; cases q; subst z; exact Heap.get?_push_of_some _ hoc
      · exact keep a o (fun z => by rw [z, h0] at q; cases q) (g.sub _ _ q)
    · obtain ⟨f0, ps2, f1, f2, f3⟩ := g.tab t2 m
      have hne : c' ≠ t2.P := fun q => absurd (Heap.lt_size f1) (by rw [← q]; exact Nat.not_lt.mpr hge')
      have hput : put F c' oc t2.P = none := by unfold put; rw [if_neg (Ne.symm hne)]; exact f0
      by_cases hP : t2.P = t.P
      · obtain rfl := C.nod _ m _ ht hP
        rw [e1] at f1; cases f1
        refine ⟨hput, _, Heap.get?_push_of_some _ htb, ?_, fun x hxm => ?_⟩
        · simpa using TriplesOk_snoc _ _ _ _ e2
        · have key : codeAmong x.1 (ps ++ #[rawInt pos.line, rawInt pos.col, .ref c']).toList = (codeAmong x.1 ps.toList).or (if ((pos.line : Int) == x.1.line && (pos.col : Int) == x.1.col) = true then some (.ref c') else none) := by
            simpa using codeAmong_app ps.toList e2
          unfold EntOk
          rw [key]
          rcases f3 x hxm with q | ⟨c2, o2, vs2, tk2, q1, q2, q3⟩
          · rw [q]
            by_cases hpos : ((pos.line : Int) == x.1.line && (pos.col : Int) == x.1.col) = true
            · rw [if_pos hpos]
              simp only [Bool.and_eq_true, beq_iff_eq] at hpos
              have hq := C.uni _ m (pos, qual) he x hxm (by have := hpos.1; show pos.line = _; first | lia | omega) (by have := hpos.2; show pos.col = _; first | lia | omega)
              exact .inr ⟨c', oc, vs, tk', rfl, put_self, hd, hq ▸ hv⟩
            · rw [if_neg hpos]; exact .inl rfl
          · rw [q1]
            exact .inr ⟨c2, o2, vs2, tk2, rfl, put_sub hFc _ _ q2, q3⟩
      · refine ⟨hput, ps2, keep _ _ hP f1, f2, fun x hxm => ?_⟩
        rcases f3 x hxm with q | ⟨c2, o2, vs2, tk2, q1, q2, q3⟩
        · exact .inl q
        · exact .inr ⟨c2, o2, vs2, tk2, q1, put_sub hFc _ _ q2, q3⟩
    · unfold put; rw [if_neg (Nat.ne_of_gt hlt)]; exact g.fresh (by first | lia | omega)
  · refine kdv_makeTailHit hcl hge hgs hcode hC e1 e2 q1 hb fun ctv doc h' tk2 hk hsz => ?_
    have keep : ∀ a o, s.heap.get? a = some o → (h'.push { cls := .type "function", data := .func (kdv_fn name qual params body scope clos dV doc ((C.mg "__name__").getD .none) (.ref c') ctv) }).get? a = some o := fun a o e => Heap.get?_push_of_some _ (hk a o e)
    exact k h'.objs.size c' oc vs tk ctv doc F _ (Sub.refl _) New.refl (Ext.grow keep) (g.grow keep) (fresh _ hsz) (g.fresh hsz) (ntab _ hsz) (Heap.get?_push_size _ rfl) q2 q3 q4

theorem bindL_get {kindOf : Str → Option NameKind} {x : Str} {v : Value} : ∀ {l : List (Str × Value)} {m : Str → Option Value}, (l.map (·.1)).Nodup → (x, v) ∈ l → kindOf x = some .local → bindL kindOf l m x = some v
  | [], _, _, h, _ => by cases h
  | (n, u) :: r, m, nd, h, hk => by
    simp only [List.map_cons, List.nodup_cons] at nd
    unfold bindL
    rcases List.mem_cons.mp h with h | h
    · cases h
      rw [if_pos hk]
      have out : ∀ (l : List (Str × Value)) (m : Str → Option Value), x ∉ l.map (·.1) → bindL kindOf l m x = m x := by
        intro l
        induction l with
        | nil => intro m _; rfl
        | cons p r ih =>
          intro m hx
          obtain ⟨n, u⟩ := p
          simp only [List.map_cons, List.mem_cons, not_or] at hx
          unfold bindL
          rw [ih _ hx.2]
          split
          · simp [hx.1]
          · rfl
      rw [out _ _ nd.1]; simp
    · exact bindL_get nd.2 h hk
theorem bindC_get {kindOf : Str → Option NameKind} {x : Str} {v : Value} : ∀ {l : List (Str × Value)} {m : Str → Option Value}, (l.map (·.1)).Nodup → (x, v) ∈ l → kindOf x ≠ some .local → bindC kindOf l m x = some v
  | [], _, _, h, _ => by cases h
  | (n, u) :: r, m, nd, h, hk => by
    simp only [List.map_cons, List.nodup_cons] at nd
    unfold bindC
    rcases List.mem_cons.mp h with h | h
    · cases h
      rw [if_neg hk]
      have out : ∀ (l : List (Str × Value)) (m : Str → Option Value), x ∉ l.map (·.1) → bindC kindOf l m x = m x := by
        intro l
        induction l with
        | nil => intro m _; rfl
        | cons p r ih =>
          intro m hx
          obtain ⟨n, u⟩ := p
          simp only [List.map_cons, List.mem_cons, not_or] at hx
          unfold bindC
          rw [ih _ hx.2]
          split
          · rfl
          · simp [hx.1]
      rw [out _ _ nd.1]; simp
    · exact bindC_get nd.2 h hk
theorem pair_apart {c : Addr} {x y : Str} : ∀ {l : List (Str × Addr)}, l.Pairwise (fun a b => a.2 ≠ b.2) → (x, c) ∈ l → (y, c) ∈ l → x = y
  | [], _, h, _ => by cases h
  | p :: r, hp, h1, h2 => by
    rw [List.pairwise_cons] at hp
    rcases List.mem_cons.mp h1 with h1 | h1 <;> rcases List.mem_cons.mp h2 with h2 | h2
    · rw [← h1] at h2; exact (congrArg Prod.fst h2).symm
    · exact absurd rfl (h1 ▸ hp.1 _ h2)
    · exact absurd rfl (h2 ▸ hp.1 _ h1)
    · exact pair_apart hp.2 h1 h2

theorem enterC {E : Value → Shared → Prop} {f : Addr} {fd : FuncData} {body : List Stmt} {vs : List Value} {xs : List AV} {Q : AV → Prop} {Qr : Value → Shared → Prop} (ps : List Str)
    (g : GOk C (d + 1) A F s) (b : Back C (d + 1) A F s Q Qr) (hf : IsFn F f fd) (r : ReprL F xs vs) (hbody : fd.body = .stmts body) (hgl : fd.globals = mainGlobals) (hbi : fd.builtins = builtinsNs) (hclo : fd.closure = [])
    (hbind : bindArgs fd ⟨vs, []⟩ = pure (ps.zip vs)) (hlen : xs.length = ps.length) (hnd : ps.Nodup) (hfree : ∀ x ∈ fd.scope.names, x.2 ≠ .free) (hloc : ∀ x ∈ ps, fd.scope.names.lookup x = some .local ∨ fd.scope.names.lookup x = some .cell)
    (h : ∀ fi : FI C (fnOfFd fd), fi.d = d → fi.cd = fd.code → fi.cl = cellsFrom (fi.L + 1) fd.scope.names [] → HS fi (ps.zip (xs.map Slot.v)) body (RetQ Q))
    (hco : fd.scope.isCoroutine = false) (hgen : fd.scope.isGenerator = false) (hk : fd.scope.kind = .function) :
    wpAny C.M A (call (.ref f) vs) Qr E s := by
  obtain ⟨o, e1, e2, c, oc, ws, t, e3, e4, e5, e6⟩ := hf
  have hl : vs.length = ps.length := (ReprL.length r).trans hlen
  have nofree : ∀ x, fd.scope.names.lookup x ≠ some .free := fun x q => hfree (x, .free) (mem_of_lk q) rfl
  refine wpAny_call (codeAny_call_cells (fd := fd) (body := body) (binds := ps.zip vs) g.room (g.sub _ _ e1) e2 g.nolimit ⟨c, oc, ws, t, e3, g.sub _ _ e4, e5, e6⟩ hbody hbind hclo (fun x hx => ?_) (fun s₁ I => ?_) hco hgen hk)
  · rcases hloc x.1 (List.of_mem_zip (show (x.1, x.2) ∈ ps.zip vs from hx)).1 with q | q
    · exact .inl q
    · exact .inr ⟨q, cellsFrom_some _ _ _ (.inl q)⟩
  have he : callEnvC fd s.heap.objs.size f = envX fd.qualname fd.scope s.heap.objs.size f fd.code (cellsFrom (s.heap.objs.size + 1) fd.scope.names []) := by
    unfold callEnvC newEnv; rw [hgl, hbi]
  rw [he] at I ⊢
  let fi : FI C (fnOfFd fd) := { A := A.deeper (envX fd.qualname fd.scope s.heap.objs.size f fd.code (cellsFrom (s.heap.objs.size + 1) fd.scope.names [])), L := s.heap.objs.size, f := f, cd := fd.code, cl := cellsFrom (s.heap.objs.size + 1) fd.scope.names [], s₀ := s, d := d }
  obtain ⟨h₀, tk₀, rfl⟩ := I.toInCall.same
  have hk₀ : ∀ b o, s.heap.get? b = some o → h₀.get? b = some o := I.toInCall.keep
  have R : Rel fi (pmax C F s) F (ps.zip (xs.map Slot.v)) { s with heap := h₀, toks := tk₀ } := by
    refine ⟨(g.grow hk₀).deeper, ⟨_, _, rfl⟩, fun a o q => ⟨hk₀ _ _ q.1, q.2.1, q.2.2⟩, ⟨_, I.toInCall.ns⟩, g.fresh (Nat.le_refl _), fun o q => absurd (Heap.lt_size q.1) (Nat.lt_irrefl _), notTab_of_fresh g (Nat.le_refl _),
      fun x c k l => ?_, fun x k => ?_, fun x y c k l1 l2 => pair_apart I.apart (mem_of_lk l1) (mem_of_lk l2), fun x c k l => absurd k (nofree x), fun x sl e => ?_, fun x y us ys a e => ?_⟩
    · have la := I.above x c (mem_of_lk l)
      have la' : s.heap.objs.size ≤ c := Nat.le_of_lt la
      exact ⟨g.fresh la', fun o q => absurd (Heap.lt_size q.1) (Nat.not_lt.mpr la'), notTab_of_fresh g la', Nat.ne_of_gt la, _, I.cell x c l⟩
    · exact Option.isSome_iff_exists.mp (cellsFrom_some _ _ _ (.inl k))
    · obtain ⟨av, v, q1, q2, q3⟩ := lookup_zip_reverse hnd r hl.symm e
      have nd' : ((ps.zip vs).map (·.1)).Nodup := by rw [List.map_fst_zip (by first | lia | omega)]; exact hnd
      refine ⟨v, ?_, by rw [q1]; exact q3⟩
      rcases hloc x (List.of_mem_zip q2).1 with q | q
      · exact .inl ⟨q, _, I.toInCall.ns, bindL_get nd' q2 q⟩
      · obtain ⟨c, hc⟩ := Option.isSome_iff_exists.mp (cellsFrom_some (x := x) fd.scope.names (s.heap.objs.size + 1) [] (.inl q))
        refine .inr ⟨.inl q, c, hc, ?_⟩
        have := I.cell x c hc
        rwa [bindC_get nd' q2 (by intro z; have z' : fd.scope.names.lookup x = some .local := z; rw [q] at z'; cases z')] at this
    · obtain ⟨av, v, q, _⟩ := lookup_zip_reverse hnd r hl.symm e
      cases q
  refine h fi rfl rfl rfl (pmax C F s) F _ _ _ R fun fl st' f' F' s' q u R' r' => ?_
  cases fl with
  | next => cases r'; exact back_of g b rfl R' u q (by simp [Repr])
  | brk => exact absurd q (fun z => z)
  | cont => exact absurd q (fun z => z)
  | ret a => obtain ⟨v, rfl, r'⟩ := r'; exact back_of g b rfl R' u q r'
end
end Mine

end

section
open PySem PySem.W PyProof.Rows
set_option maxRecDepth 100000
set_option linter.unusedVariables false
namespace Mine

set_option genInjectivity false in
set_option genSizeOf false in
structure Made where
  name : Str
  qual : Str
  params : Arguments
  body : FuncBody
  scope : Scope
noncomputable abbrev Made.fd (m : Made) (clos : List (Str × Addr)) (dV doc pm cv ctv : Value) : FuncData := kdv_fn m.name m.qual m.params m.body m.scope clos dV doc pm cv ctv

noncomputable def fnP (m : Made) (clos : List (Str × Addr)) (dV : Value) : MP where
  p := fun F f => ∃ doc pm cv ctv, IsFn F f (m.fd clos dV doc pm cv ctv)
  mono := fun F G a h ⟨doc, pm, cv, ctv, x⟩ => ⟨doc, pm, cv, ctv, x.mono h⟩
noncomputable def cloP (m : Made) (clos : List (Str × Addr)) (dV : Value) (dvs : List AV) (self : Str) (caps : List (Str × AV)) : MP where
  p := fun F f => (∃ doc pm cv ctv, IsFn F f (m.fd clos dV doc pm cv ctv)) ∧ (∀ x av, (x, av) ∈ caps → ∃ c o v, clos.lookup x = some c ∧ F c = some o ∧ o.data = .cell (some v) ∧ Repr F av v) ∧
    (∀ c, clos.lookup self = some c → ∃ o, F c = some o ∧ o.data = .cell (some (.ref f))) ∧ ((dV = .none ∧ dvs = []) ∨ Repr F (.tup dvs) dV)
  mono := by
    rintro F G a h ⟨⟨doc, pm, cv, ctv, x⟩, y, z, w⟩
    refine ⟨⟨doc, pm, cv, ctv, x.mono h⟩, fun x av e => ?_, fun c e => ?_, w.imp id (Repr.mono h _ _)⟩
    · obtain ⟨c, o, v, q1, q2, q3, q4⟩ := y x av e
      exact ⟨c, o, v, q1, h _ _ q2, q3, Repr.mono h _ _ q4⟩
    · obtain ⟨o, q1, q2⟩ := z c e
      exact ⟨o, h _ _ q1, q2⟩

noncomputable def CallP (C : Ctx) (d : Nat) (P : MP) (xs : List AV) (Q : AV → Prop) : Prop :=
  ∀ A F s f vs Qr E, GOk C d A F s → P.p F f → ReprL F xs vs → Back C d A F s Q Qr → wpAny C.M A (call (.ref f) vs) Qr E s
theorem CallP.mono {C : Ctx} {d : Nat} {P : MP} {xs : List AV} {Q Q' : AV → Prop} (h : CallP C d P xs Q) (k : ∀ x, Q x → Q' x) : CallP C d P xs Q' :=
  fun A F s f vs Qr E g p r b => h A F s f vs Qr E g p r fun av v F' s' q => b av v F' s' (k _ q)
theorem CallP.room {C : Ctx} {d d' : Nat} {P : MP} {xs : List AV} {Q : AV → Prop} (h : CallP C d P xs Q) (l : d ≤ d') : CallP C d' P xs Q := fun A F s f vs Qr E g p r b =>
  h A F s f vs Qr E (g.less l) p r fun av v F' s' q s1 n x g' => b av v F' s' q s1 n x ⟨g'.base, g'.sub, g'.tab, g'.hand, g.dep, g.uni⟩

theorem CallP_clo {C : Ctx} {d : Nat} {m : Made} {clos : List (Str × Addr)} {dV : Value} {dvs : List AV} {self : Str} {caps : List (Str × AV)} {body : List Stmt} {xs : List AV} {Q : AV → Prop} (ps : List Str) (ys : List AV)
    (hbody : m.body = .stmts body)
    (hbind : ∀ F s f vs doc pm cv ctv, Sub F s.heap.get? → (cloP m clos dV dvs self caps).p F f → ReprL F xs vs → ∃ ws, ReprL F ys ws ∧ BindsTo s (m.fd clos dV doc pm cv ctv) ⟨vs, []⟩ (ps.zip ws))
    (hlen : ys.length = ps.length) (hnd : ps.Nodup) (hcell : ∀ x ∈ m.scope.names, x.2 ≠ .cell) (hloc : ∀ x ∈ ps, m.scope.names.lookup x = some .local)
    (hfr : ∀ x, m.scope.names.lookup x = some .free → x = self ∨ ∃ av, (x, av) ∈ caps) (hcap : ∀ x av, (x, av) ∈ caps → m.scope.names.lookup x = some .free) (hself : ∀ c, clos.lookup self = some c → m.scope.names.lookup self = some .free)
    (h : ∀ fi : FI C ⟨m.qual, m.scope⟩, fi.d = d → fi.cl = clos → ∀ F f, (cloP m clos dV dvs self caps).p F f →
      HS fi (ps.zip (ys.map Slot.v) ++ (caps.map fun p => (p.1, Slot.v p.2)) ++ (if (clos.lookup self).isSome then [(self, Slot.v (.obj (cloP m clos dV dvs self caps)))] else [])) body (RetQ Q))
    (hco : m.scope.isCoroutine = false) (hgen : m.scope.isGenerator = false) (hk : m.scope.kind = .function) : CallP C (d + 1) (cloP m clos dV dvs self caps) xs Q := by
  intro A F s f vs Qr E g p r b
  obtain ⟨⟨doc, pm, cv, ctv, hf⟩, hc, hs, hd⟩ := id p
  obtain ⟨ws, rw', hb⟩ := hbind F s f vs doc pm cv ctv g.sub p r
  have hl : ws.length = ps.length := (ReprL.length rw').trans hlen
  refine enter (binds := ps.zip ws) g b hf hbody rfl rfl hb (fun x sl e => ?_) (fun x c k l => ?_) hcell (fun x hx => hloc x.1 (List.of_mem_zip (show (x.1, x.2) ∈ ps.zip ws from hx)).1) (fun fi e1 e2 _ => h fi e1 e2 F f p) hco hgen hk
  · rw [List.lookup_append, List.lookup_append] at e
    cases e1 : (ps.zip (ys.map Slot.v)).lookup x with
    | some sl1 =>
      rw [e1] at e
      cases e
      obtain ⟨av, v, q1, q2, q3⟩ := lookup_zip_reverse hnd rw' hl.symm e1
      refine ⟨av, q1, .inl ⟨hloc x (List.of_mem_zip q2).1, v, lookup_of_mem_nodup' ?_ q2, q3⟩⟩
      rw [List.map_fst_zip (by first | lia | omega)]; exact hnd
    | none =>
      rw [e1] at e
      cases e2 : (caps.map fun p => (p.1, Slot.v p.2)).lookup x with
      | some sl2 =>
        rw [e2] at e
        cases e
        have m2 := mem_of_lk e2
        obtain ⟨q, hq, eq⟩ := List.mem_map.mp m2
        cases eq
        obtain ⟨c, o, v, q1, q2, q3, q4⟩ := hc _ _ hq
        exact ⟨q.2, rfl, .inr ⟨hcap _ _ hq, c, o, v, q1, q2, q3, q4⟩⟩
      | none =>
        rw [e2] at e
        simp only [Option.none_or] at e
        split at e
        · rename_i hsome
          obtain ⟨c, hcs⟩ := Option.isSome_iff_exists.mp hsome
          have m3 := mem_of_lk e
          simp only [List.mem_singleton] at m3
          cases m3
          obtain ⟨o, q1, q2⟩ := hs c hcs
          refine ⟨_, rfl, .inr ⟨hself c hcs, c, o, _, hcs, q1, q2, ?_⟩⟩
          simp only [Repr]; exact ⟨f, rfl, p⟩
        · cases e
  · rcases hfr x k with rfl | ⟨av, hm⟩
    · obtain ⟨o, q1, q2⟩ := hs c l
      exact ⟨o, _, q1, q2⟩
    · obtain ⟨c', o, v, q1, q2, q3, _⟩ := hc _ _ hm
      have l' : clos.lookup x = some c := l
      rw [q1] at l'; cases l'
      exact ⟨o, _, q2, q3⟩

noncomputable def okClo (m : Made) (ps : List Str) (self : Str) (cn : List Str) : Bool :=
  decide ps.Nodup && m.scope.names.all (fun x => x.2 != .cell) && ps.all (fun x => m.scope.names.lookup x == some .local) && m.scope.names.all (fun x => x.2 != .free || x.1 == self || cn.contains x.1) &&
    cn.all (fun x => m.scope.names.lookup x == some .free) && (m.scope.names.lookup self == some .free || !(m.scope.names.map (·.1)).contains self) && !m.scope.isCoroutine && !m.scope.isGenerator && (m.scope.kind == .function)
theorem CallP_clo' {C : Ctx} {d : Nat} {m : Made} {clos : List (Str × Addr)} {dV : Value} {dvs : List AV} {self : Str} {caps : List (Str × AV)} {body : List Stmt} {xs : List AV} {Q : AV → Prop} (ps : List Str) (ys : List AV) (hok : okClo m ps self (caps.map (·.1)) = true)
    (hbody : m.body = .stmts body) (hself : (clos.lookup self).isSome = true → m.scope.names.lookup self = some .free)
    (hbind : ∀ F s f vs doc pm cv ctv, Sub F s.heap.get? → (cloP m clos dV dvs self caps).p F f → ReprL F xs vs → ∃ ws, ReprL F ys ws ∧ BindsTo s (m.fd clos dV doc pm cv ctv) ⟨vs, []⟩ (ps.zip ws))
    (hlen : ys.length = ps.length)
    (h : ∀ fi : FI C ⟨m.qual, m.scope⟩, fi.d = d → fi.cl = clos → ∀ F f, (cloP m clos dV dvs self caps).p F f →
      HS fi (ps.zip (ys.map Slot.v) ++ (caps.map fun p => (p.1, Slot.v p.2)) ++ (if (clos.lookup self).isSome then [(self, Slot.v (.obj (cloP m clos dV dvs self caps)))] else [])) body (RetQ Q)) : CallP C (d + 1) (cloP m clos dV dvs self caps) xs Q := by
  unfold okClo at hok
  simp only [Bool.and_eq_true, Bool.or_eq_true, decide_eq_true_eq, List.all_eq_true, bne_iff_ne, beq_iff_eq, Bool.not_eq_true', List.contains_iff_mem] at hok
  obtain ⟨⟨⟨⟨⟨⟨⟨⟨h1, h2⟩, h3⟩, h4⟩, h5⟩, h6⟩, h7⟩, h8⟩, h9⟩ := hok
  refine CallP_clo ps ys hbody hbind hlen h1 h2 h3 (fun x hx => ?_) (fun x av hm => h5 x (List.mem_map_of_mem (f := (·.1)) hm)) (fun c hc => hself (by rw [hc]; rfl)) h h7 h8 h9
  rcases h4 _ (mem_of_lk hx) with (q | q) | q
  · exact absurd rfl q
  · exact .inl q
  · obtain ⟨p, hp, e⟩ := List.mem_map.mp q
    exact .inr ⟨p.2, by have e' : p.1 = x := e; rw [← e']; exact hp⟩

noncomputable def minusF (F : FMap) (cs : List Addr) : FMap := fun a => if a ∈ cs then none else F a
theorem minusF_sub {F : FMap} {cs : List Addr} : Sub (minusF F cs) F := fun a o e => by
  unfold minusF at e; split at e
  · cases e
  · exact e
theorem GOk.thaw {C : Ctx} {d : Nat} {A : Around} {F F' : FMap} {s : Shared} {cs : List Addr} (g : GOk C d A F' s) (hs : Sub F F') (hF : ∀ a ∈ cs, F a = none) (hb : Sub C.h₁.get? F) (hc : ∀ a ∈ cs, ∃ v, s.heap.IsCell a v) : GOk C d A (minusF F' cs) s := by
  refine ⟨fun a o e => ?_, minusF_sub.trans g.sub, fun t m => ?_, g.hand, g.dep, g.uni⟩
  · unfold minusF; split
    · rename_i q; have := hb a o e; rw [hF a q] at this; cases this
    · exact hs _ _ (hb _ _ e)
  · obtain ⟨h0, ps, e1, e2, e3⟩ := g.tab t m
    refine ⟨?_, ps, e1, e2, fun x hx => ?_⟩
    · unfold minusF; split
      · rfl
      · exact h0
    · rcases e3 x hx with q | ⟨c', o, vs, tk, q1, q2, q3, q4⟩
      · exact .inl q
      · refine .inr ⟨c', o, vs, tk, q1, ?_, q3, q4⟩
        unfold minusF; split
        · rename_i z
          obtain ⟨v, o', z1, z2⟩ := hc _ z
          rw [g.sub _ _ q2] at z1; cases z1; rw [q3] at z2; cases z2
        · exact q2

section
variable {C : Ctx} {fn : Fn} {fi : FI C fn} {st : ASt}
noncomputable def flat : AV → Bool
  | .none | .bool _ | .int _ | .str _ => true
  | _ => false
theorem Repr.flat {F G : FMap} {a : AV} {v : Value} (h : Mine.flat a = true) (r : Repr F a v) : Repr G a v := by
  cases a <;> first | (simpa only [Repr] using r) | cases h

theorem HX_def {t : Tab} {name : Str} {params : Arguments} {body : List Stmt} {scope : Scope} {pos : Pos} {clos : List (Str × Addr)} {Q : AFlow → ASt → Prop} (ht : t ∈ C.tabs) (hcd : fi.cd = .ref t.c) (he : (pos, qualnameIn fi.env name name) ∈ t.ents)
    (hcl : closureFor scope fi.env = pure clos) (q : Q .next (set st name (.v (.obj (fnP ⟨name, qualnameIn fi.env name name, params, .stmts body, scope⟩ clos .none)))))
    (hd0 : params.defaults = [] := by rfl) (hk0 : params.kw_defaults = [] := by rfl) (ha : annTrees params none fi.env = [] := by rfl) (hx : storable fn.scope name = true := by rfl) (hk : fn.scope.kind = .function := by rfl) :
    HX fi st (.FunctionDef name params body [] none [] scope none name pos) Q :=
  fun prot F s Qr E R b => by
    refine nestDef_K hd0 hk0 ha ?_
    rw [makeFunction_eq]
    simp only [List.zip_nil_right, List.filterMap_nil, List.isEmpty_nil, if_true, pure_bind]
    refine mkTail_ok R.g ht rfl hcd he hcl fun f c' oc vs tk ctv doc F' s' u n x g n1 n2 n3 e1 e2 e3 e4 => ?_
    have g2 := g.freeze e1 n2 n3
    have G : Grow C F s (put F' f { cls := .type "function", data := .func (kdv_fn name (qualnameIn fi.env name name) params (.stmts body) scope clos .none doc ((C.mg "__name__").getD .none) (.ref c') ctv) }) s' := ⟨u.trans (put_sub n2), x, fun a o nt e q => by
      unfold put; rw [if_neg (fun z => by rw [z, n1] at e; cases e)]; exact n a o nt e q⟩
    refine store_ok (R.pure G g2) (av := .obj (fnP ⟨name, qualnameIn fi.env name name, params, .stmts body, scope⟩ clos .none)) ?_ hx hk fun s'' R' => b .next _ _ _ s'' q G.sub R' rfl
    simp only [Repr]
    exact ⟨f, rfl, doc, _, .ref c', ctv, _, put_self, rfl, c', oc, vs, tk, rfl, put_sub n2 _ _ e2, e3, e4⟩

theorem HE_callV {x : Str} {np pos : Pos} {es : List Expr} {P : MP} {Q : AV → ASt → Prop} (e : st.lookup x = some (.v (.obj P))) (hfn : ∀ F a, P.p F a → ∃ o fd, F a = some o ∧ o.data = .func fd)
    (h : HL fi st es fun as st1 => CallP C fi.d P as fun a => Q a st1) (hp : es.all plainE = true := by rfl) (ho : okName x = true := by rfl) (hk : fn.scope.kind = .function := by rfl) : HE fi st (.Call (.Name x np) es [] pos) Q :=
  fun prot F s Qr E R b => by
    obtain ⟨v, S, r⟩ := R.vars x _ e
    obtain ⟨f, rfl, hP⟩ : ∃ f, v = .ref f ∧ P.p F f := by simpa only [SlotOk, Repr] using r
    refine wpAny_Call_ofName (eval_stored hk S ho ?_)
    obtain ⟨o, fd, e1, e2⟩ := hfn _ _ hP
    refine Calls.callWith_function (o := o) (fd := fd) (evalArgs_of hp (h prot F s _ E pos R fun as st2 vs F2 s2 q2 u2 R2 r2 k2 => ⟨⟨R2.g.sub _ _ (u2 _ _ e1), e2⟩, ?_⟩))
    show wpAny C.M fi.A (call (.ref f) ([] ++ vs) []) Qr E s2
    exact q2 fi.A F2 s2 f vs Qr E R2.g (P.mono _ _ _ u2 hP) r2 (b.op u2 k2 R2)
theorem cloP_fn {m : Made} {clos : List (Str × Addr)} {dV : Value} {dvs : List AV} {self : Str} {caps : List (Str × AV)} : ∀ F a, (cloP m clos dV dvs self caps).p F a → ∃ o fd, F a = some o ∧ o.data = .func fd :=
  by
  intro F a h
  obtain ⟨doc, pm, cv, ctv, o, e1, e2, _⟩ := h.1
  exact ⟨o, _, e1, e2⟩

theorem HE_callOwn {x : Str} {np pos : Pos} {es : List Expr} {m : Made} {clos : List (Str × Addr)} {caps : List (Str × AV)} {Q : AV → ASt → Prop} (e : st.lookup x = some (.v (.obj (fnP m clos .none))))
    (hcaps : ∀ y av, (y, av) ∈ caps → st.lookup y = some (.v av) ∧ fn.scope.names.lookup y = some .cell) (hxc : fn.scope.names.lookup x = some .cell) (hclos : ∀ y c, clos.lookup y = some c → fi.cl.lookup y = some c) (hclos2 : ∀ y av, (y, av) ∈ caps → ∃ c, clos.lookup y = some c) (hself : ∀ c, fi.cl.lookup x = some c → clos.lookup x = some c)
    (h : HL fi st es fun as st1 => st1 = st ∧ CallP C fi.d (cloP m clos .none [] x caps) as fun a => flat a = true ∧ Q a st) (hp : es.all plainE = true := by rfl) (ho : okName x = true := by rfl) (hk : fn.scope.kind = .function := by rfl) : HE fi st (.Call (.Name x np) es [] pos) Q :=
  fun prot F s Qr E R b => by
    obtain ⟨v, S, r⟩ := R.vars x _ e
    obtain ⟨f, rfl, doc, pm, cv, ctv, hf⟩ : ∃ f, v = .ref f ∧ (fnP m clos .none).p F f := by simpa only [SlotOk, Repr] using r
    refine wpAny_Call_ofName (eval_stored hk S ho ?_)
    obtain ⟨o, e1, e2, e3⟩ := id hf
    refine Calls.callWith_function (o := o) (fd := _) (evalArgs_of hp (h prot F s _ E pos R fun as st2 vs F2 s2 q2 u2 R2 r2 k2 => ⟨⟨R2.g.sub _ _ (u2 _ _ e1), e2⟩, ?_⟩))
    obtain ⟨rfl, q2⟩ := q2
    show wpAny C.M fi.A (call (.ref f) ([] ++ vs) []) Qr E s2
    let cs : List Addr := clos.map (·.2)
    let ok : Addr → Prop := fun a => ∃ y, fi.env.kindOf y = some .cell ∧ clos.lookup y = some a
    classical
    let F3 : FMap := fun a => if ok a then s2.heap.get? a else F2 a
    have hok : ∀ a, ok a → F2 a = none ∧ ¬ isTab C a ∧ ∃ v, s2.heap.IsCell a v := fun a ⟨y, ky, ly⟩ => by
      obtain ⟨h1, _, h3, _, h5⟩ := R2.cells y a ky (hclos y a ly)
      exact ⟨h1, h3, h5⟩
    have u3 : Sub F2 F3 := fun a o q => by
      show (if ok a then s2.heap.get? a else F2 a) = some o
      split
      · exact R2.g.sub _ _ q
      · exact q
    have g3 : GOk C fi.d fi.A F3 s2 := by
      refine ⟨R2.g.base.trans u3, fun a o q => ?_, fun t mt => ?_, R2.g.hand, R2.g.dep, R2.g.uni⟩
      · have q : (if ok a then s2.heap.get? a else F2 a) = some o := q
        split at q
        · exact q
        · exact R2.g.sub _ _ q
      · obtain ⟨h0, ps, f1, f2, f3⟩ := R2.g.tab t mt
        refine ⟨?_, ps, f1, f2, fun x hx => ?_⟩
        · show (if ok t.P then s2.heap.get? t.P else F2 t.P) = none
          rw [if_neg (fun z => (hok _ z).2.1 ⟨t, mt, rfl⟩)]; exact h0
        · rcases f3 x hx with q | ⟨c', o, vs, tk, q1, q2, q3⟩
          · exact .inl q
          · exact .inr ⟨c', o, vs, tk, q1, u3 _ _ q2, q3⟩
    have cell_of : ∀ y v, Stored fi.env s2.heap y v → fn.scope.names.lookup y = some .cell → ∀ c, clos.lookup y = some c → ∃ o, F3 c = some o ∧ o.data = .cell (some v) := fun y v S ky c lc => by
      rcases S with ⟨ky', _⟩ | ⟨_, c', l', o, q1, q2⟩
      · have : fn.scope.names.lookup y = some .local := ky'
        rw [ky] at this; cases this
      · have l2 := hclos y c lc
        have l' : fi.cl.lookup y = some c' := l'
        rw [l2] at l'; cases l'
        refine ⟨o, ?_, q2⟩
        show (if ok c then s2.heap.get? c else F2 c) = some o
        rw [if_pos ⟨y, ky, lc⟩]; exact q1
    have hP : (cloP m clos .none [] x caps).p F3 f := by
      refine ⟨⟨doc, pm, cv, ctv, hf.mono (u2.trans u3)⟩, fun y av hy => ?_, fun c lc => ?_, .inl ⟨rfl, rfl⟩⟩
      · obtain ⟨l1, l2⟩ := hcaps y av hy
        obtain ⟨c, lc⟩ := hclos2 y av hy
        obtain ⟨v, S', r'⟩ := R2.vars y _ l1
        obtain ⟨o, z1, z2⟩ := cell_of y v S' l2 c lc
        exact ⟨c, o, v, lc, z1, z2, Repr.mono u3 _ _ r'⟩
      · exact cell_of x _ (k2 x _ S) hxc c lc
    refine q2 fi.A F3 s2 f vs Qr E g3 hP (ReprL.mono u3 _ _ r2) fun av v F4 s4 q4 u4 n4 x4 g4 r4 => ?_
    let cl2 : List Addr := cs.filter fun a => decide (ok a)
    have mem_cl2 : ∀ a, a ∈ cl2 ↔ ok a := fun a => by
      simp only [cl2, List.mem_filter, decide_eq_true_eq]
      refine ⟨fun z => z.2, fun z => ⟨?_, z⟩⟩
      obtain ⟨y, _, ly⟩ := z
      exact List.mem_map_of_mem (f := (·.2)) (mem_of_lk ly)
    have u24 : Sub F2 (minusF F4 cl2) := fun a o q => by
      unfold minusF
      rw [if_neg (fun z => by have := (hok a ((mem_cl2 a).mp z)).1; rw [q] at this; cases this)]
      exact u4 _ _ (u3 _ _ q)
    have g5 : GOk C fi.d fi.A (minusF F4 cl2) s4 := g4.thaw (F := F2) (u3.trans u4) (fun a ha => (hok a ((mem_cl2 a).mp ha)).1) R2.g.base fun a ha => by
      obtain ⟨_, nt, v, o, z1, z2⟩ := hok a ((mem_cl2 a).mp ha)
      exact ⟨v, o, x4.keep a o nt (fun q => nomatch q) z1, z2⟩
    have G : Grow C F2 s2 (minusF F4 cl2) s4 := ⟨u24, x4, fun a o nt z zf => by
      unfold minusF
      split
      · rfl
      · rename_i hn
        refine n4 a o nt z ?_
        show (if ok a then s2.heap.get? a else F2 a) = none
        rw [if_neg (fun w => hn ((mem_cl2 a).mpr w))]; exact zf⟩
    exact b av _ v _ s4 q4.2 (u2.trans u24) (R2.pure G g5) (r4.flat q4.1) (k2.trans (R2.keepV G))
end
end Mine

end

section
open PySem PySem.W PyProof.Rows
set_option maxRecDepth 100000
set_option linter.unusedVariables false
namespace Mine

theorem subscripted_ops (slice : Expr) (o i : Value) : ∃ ops, subscripted slice false o i = operate ops (getItem o i) := by
  cases slice <;> first | exact ⟨[o, i], rfl⟩ | (rename_i a b c p; cases c <;> first | exact ⟨[i, o], rfl⟩ | exact ⟨[o, i], rfl⟩)
noncomputable def Sub2 (C : Ctx) (d : Nat) (a b : AV) (Q : AV → Prop) : Prop :=
  ∀ A F s v u Qr E value slice, GOk C d A F s → Repr F a v → Repr F b u → Back C d A F s Q Qr → wpAny C.M A (subscriptTail value slice v u) Qr E s
section
variable {C : Ctx} {fn : Fn} {fi : FI C fn} {st : ASt}
theorem HE_sub {x i : Expr} {pos : Pos} {Q : AV → ASt → Prop} (h : HE fi st x fun a st1 => HE fi st1 i fun b st2 => Sub2 C fi.d a b fun c => Q c st2) : HE fi st (.Subscript x i pos) Q :=
  fun prot F s Qr E R b => Subscript_ (h prot F s _ E R fun a1 st1 v1 F1 s1 q1 u1 R1 r1 k1 => q1 prot F1 s1 _ E R1 fun a2 st2 v2 F2 s2 q2 u2 R2 r2 k2 =>
    q2 fi.A F2 s2 v1 v2 Qr E _ _ R2.g (Repr.mono u2 _ _ r1) r2 (b.op (u1.trans u2) (k1.trans k2) R2))
end
section
variable {C : Ctx} {d : Nat} {Q : AV → Prop}
theorem sub_lst {xs : List AV} {k : Int} {x : AV} (h0 : 0 ≤ k) (h1 : k < 2 ^ 63) (hx : xs[k.toNat]? = some x) (q : Q x) : Sub2 C d (.lst xs) (.int k) Q := by
  intro A F s v u Qr E value slice g r1 r2 b
  simp only [Repr] at r1 r2
  obtain ⟨l, vs, n, rfl, e1, r⟩ := r1
  obtain ⟨t, rfl⟩ := r2
  obtain ⟨y, hy, ry⟩ := ReprL.get r hx
  have hl : s.heap.IsList l vs := ⟨_, g.sub _ _ e1, rfl, n, rfl⟩
  obtain ⟨ops, hs⟩ := subscripted_ops slice (.ref l) (.int k t)
  exact tail_any hl.typeIs slot_list_getitem.lookup (wpAny_getItem_list hl h0 h1 (by simpa using hy) (b.same g q ry)) hs
theorem sub_lst_neg {xs : List AV} {k : Int} {x : AV} (h0 : k < 0) (h1 : -(xs.length : Int) ≤ k) (h2 : -(2 ^ 63) ≤ k) (hx : xs[(k + xs.length).toNat]? = some x) (q : Q x) : Sub2 C d (.lst xs) (.int k) Q := by
  intro A F s v u Qr E value slice g r1 r2 b
  simp only [Repr] at r1 r2
  obtain ⟨l, vs, n, rfl, e1, r⟩ := r1
  obtain ⟨t, rfl⟩ := r2
  obtain ⟨y, hy, ry⟩ := ReprL.get r hx
  have hlen : vs.size = xs.length := by simpa using ReprL.length r
  have hl : s.heap.IsList l vs := ⟨_, g.sub _ _ e1, rfl, n, rfl⟩
  obtain ⟨ops, hs⟩ := subscripted_ops slice (.ref l) (.int k t)
  exact tail_any hl.typeIs slot_list_getitem.lookup (wpAny_getItem_list_neg hl h0 (by rw [hlen]; exact h1) h2 (by rw [hlen]; simpa using hy) (b.same g q ry)) hs
theorem sub_tup {xs : List AV} {k : Int} {x : AV} (h0 : 0 ≤ k) (h1 : k < xs.length) (h2 : (xs.length : Int) < 2 ^ 63) (hx : xs[k.toNat]? = some x) (q : Q x) : Sub2 C d (.tup xs) (.int k) Q := by
  intro A F s v u Qr E value slice g r1 r2 b
  simp only [Repr] at r1 r2
  obtain ⟨l, vs, n, rfl, e1, r⟩ := r1
  obtain ⟨t, rfl⟩ := r2
  obtain ⟨y, hy, ry⟩ := ReprL.get r hx
  have hlen : vs.size = xs.length := by simpa using ReprL.length r
  have hl : IsTup s.heap l vs := ⟨_, g.sub _ _ e1, rfl, n, rfl⟩
  obtain ⟨ops, hs⟩ := subscripted_ops slice (.ref l) (.int k t)
  refine tail_any hl.typeIs slot_tuple_getitem.lookup (PyProof.Rows.getItem_tuple hl (by first | lia | omega) (by first | lia | omega) (j := k.toNat) ?_ (by simpa using hy) (b.same g q ry)) hs
  unfold seqIndex?
  rw [hlen]
  simp only [show ¬ k < 0 by first | lia | omega, if_false]
  simp [show (0 : Int) ≤ k by first | lia | omega, show k < (xs.length : Int) by first | lia | omega]
theorem op_len_lst {xs : List AV} (h : (xs.length : Int) < 2 ^ 63) (q : Q (.int xs.length)) : OpN C d (fun vs => call (.builtin "len") vs) [.lst xs] Q := by
  intro A F s vs Qr E g r k
  simp only [ReprL, Repr] at r
  obtain ⟨_, _, rfl, ⟨l, ws, n, rfl, e1, r⟩, rfl⟩ := r
  have hlen : ws.size = xs.length := by simpa using ReprL.length r
  refine PyProof.Rows.len_list ⟨_, g.sub _ _ e1, rfl, n, rfl⟩ (by rw [hlen]; exact h) ?_
  rw [hlen]; exact k.toks g q rInt
theorem op_len_str {x : Str} (h : (x.length : Int) < 2 ^ 63) (q : Q (.int x.length)) : OpN C d (fun vs => call (.builtin "len") vs) [.str x] Q := by
  intro A F s vs Qr E g r k
  simp only [ReprL, Repr] at r
  obtain ⟨_, _, rfl, ⟨t, rfl⟩, rfl⟩ := r
  exact PySem.P.len_str (by first | lia | omega) (k.toks g q rInt)
noncomputable def rangeP (a b c : Int) : MP where
  p := fun F r => ∃ t u v, F r = some { cls := .type "range", dict := none, data := .fields #[.int a t, .int b u, .int c v], slots := #[] }
  mono := fun F G r h ⟨t, u, v, e⟩ => ⟨t, u, v, h _ _ e⟩
theorem op_range1 {n : Int} (q : Q (.obj (rangeP 0 n 1))) : OpN C d (fun vs => call (.type "range") vs) [.int n] Q := by
  intro A F s vs Qr E g r k
  simp only [ReprL, Repr] at r
  obtain ⟨_, _, rfl, ⟨t, rfl⟩, rfl⟩ := r
  exact call_range_1 (k.push g q rfl (by simp only [Repr]; exact ⟨_, rfl, _, _, _, put_self⟩))
theorem op_range2 {a b : Int} (q : Q (.obj (rangeP a b 1))) : OpN C d (fun vs => call (.type "range") vs) [.int a, .int b] Q := by
  intro A F s vs Qr E g r k
  simp only [ReprL, Repr] at r
  obtain ⟨_, _, rfl, ⟨t, rfl⟩, _, _, rfl, ⟨t2, rfl⟩, rfl⟩ := r
  exact call_range_2 (k.push g q rfl (by simp only [Repr]; exact ⟨_, rfl, _, _, _, put_self⟩))
theorem op_range3 {a b c : Int} (hc : c ≠ 0) (hb : bl c ≤ 8000) (q : Q (.obj (rangeP a b c))) : OpN C d (fun vs => call (.type "range") vs) [.int a, .int b, .int c] Q := by
  intro A F s vs Qr E g r k
  simp only [ReprL, Repr] at r
  obtain ⟨_, _, rfl, ⟨t, rfl⟩, _, _, rfl, ⟨t2, rfl⟩, _, _, rfl, ⟨t3, rfl⟩, rfl⟩ := r
  refine call_range_3 hc (k.push (tk := s.toks) g q rfl (by simp only [Repr]; exact ⟨_, rfl, _, _, _, put_self⟩)) (.inl (PyProof.noPylong_of_log2 ?_))
  have := PySem.intBits_le_iff.mp hb
  by_cases h0 : c.natAbs = 0
  · rw [h0]; decide +kernel
  · exact Nat.lt_of_lt_of_le ((Nat.log2_lt h0).mpr this) (by first | lia | omega)
noncomputable def rangeL (a c : Int) (n : Nat) : List AV := (List.range n).map fun (i : Nat) => .int (a + (i : Int) * c)
theorem iter_range {a b c : Int} {n : Nat} (hs : Builtin.Range.small a b c = true) (hn : Builtin.Range.rangeSize a b c = n) : IterOk C (.obj (rangeP a b c)) (rangeL a c n) := by
  intro A F s v Qr E hh hsub r k
  simp only [Repr] at r
  obtain ⟨x, rfl, t, u, w, e⟩ := r
  refine wpAny_pyIter_range (hsub _ _ e) hs ?_
  have hl : (rangeL a c n).length = n := by simp [rangeL]
  rw [hn]
  refine k s.heap.objs.size _ [s.heap.objs.size] (fun i v => (∃ t, v = .int (a + i * c) t) ∧ i < n) (fun i h => i ≤ n ∧ IsRangeIter h s.heap.objs.size (a + (i : Nat) * c) ((n : Int) - (i : Nat)) c) _ (Nat.le_refl _) (Heap.get?_push_size _ rfl) (fun b x e => Heap.get?_push_of_some _ e) ?_ ?_ (fun i h z => ⟨_, z.2, by rfl⟩) (fun b hb => .inl (by simpa using hb)) ?_
  · rw [hl]
    have W := Walks.range (prog := C.prog) (w := C.w) hh s.heap.objs.size a c n
    exact ⟨W.sub, fun i h h' z hk => ⟨z.1, W.frame i h h' z.2 hk⟩, fun i s Q E hi z hQ => W.item i s Q E hi z.2 fun v h' tk p z' kk => hQ v h' tk ⟨p, hi⟩ ⟨hi, z'⟩ kk, fun s Q E z hQ => W.done s Q E z.2 hQ, fun i s Q E z hQ => W.self i s Q E z.2 hQ⟩
  · refine ⟨Nat.zero_le _, ?_⟩
    have := Heap.get?_push_size (o := ({ cls := .type "range_iterator", data := .fields #[rawInt a, rawInt (n : Int), rawInt c] } : Obj)) s.heap rfl
    simpa using this
  · rintro i v ⟨⟨t, rfl⟩, hi⟩
    exact ⟨.int (a + i * c), by simp [rangeL, hi], rInt⟩
theorem iter_lst {xs : List AV} : IterOk C (.lst xs) xs := by
  intro A F s v Qr E hh hsub r k
  simp only [Repr] at r
  obtain ⟨l, vs, n, rfl, e1, r⟩ := r
  have hlen : vs.size = xs.length := by simpa using ReprL.length r
  have hl : s.heap.IsList l vs := ⟨_, hsub _ _ e1, rfl, n, rfl⟩
  have hne : l ≠ s.heap.objs.size := Nat.ne_of_lt (Heap.lt_size (hsub _ _ e1))
  refine wpAny_pyIter_list hl ?_
  refine k s.heap.objs.size _ [s.heap.objs.size, l] (fun i v => vs[i]? = some v) (fun i h => h.IsListIter s.heap.objs.size l i ∧ h.IsList l vs) _ (Nat.le_refl _) (Heap.get?_push_size _ rfl) (fun b x e => Heap.get?_push_of_some _ e) ?_ ⟨⟨_, Heap.get?_push_size _ rfl, rfl, rfl⟩, hl.push _⟩ (fun i h z => ?_) (fun b hb => ?_) (fun i v hv => ?_)
  · rw [← hlen]; exact Walks.list hh _ l hne vs
  · obtain ⟨⟨o, e, c, d⟩, _⟩ := z
    exact ⟨o, e, by unfold plainIter; rw [c, d]; rfl⟩
  · simp only [List.mem_cons, List.not_mem_nil, or_false] at hb
    rcases hb with rfl | rfl
    · exact .inl rfl
    · exact .inr ⟨_, e1⟩
  · have hi : i < xs.length := by
      have := (Array.getElem?_eq_some_iff.mp hv).1; first | lia | omega
    obtain ⟨y, hy, ry⟩ := ReprL.get r (show xs[i]? = some xs[i] by simp [hi])
    have : vs[i]? = some y := by simpa using hy
    rw [hv] at this; cases this
    exact ⟨_, by simp [hi], ry⟩
theorem iter_tup {xs : List AV} : IterOk C (.tup xs) xs := by
  intro A F s v Qr E hh hsub r k
  simp only [Repr] at r
  obtain ⟨l, vs, n, rfl, e1, r⟩ := r
  have hlen : vs.size = xs.length := by simpa using ReprL.length r
  have hl : s.heap.IsTuple l vs := ⟨_, hsub _ _ e1, rfl, n, rfl⟩
  have hne : l ≠ s.heap.objs.size := Nat.ne_of_lt (Heap.lt_size (hsub _ _ e1))
  refine wpAny_pyIter_tuple hl ?_
  refine k s.heap.objs.size _ [s.heap.objs.size, l] (fun i v => vs[i]? = some v) (fun i h => h.IsTupleIter s.heap.objs.size l i ∧ h.IsTuple l vs) _ (Nat.le_refl _) (Heap.get?_push_size _ rfl) (fun b x e => Heap.get?_push_of_some _ e) ?_ ⟨⟨_, Heap.get?_push_size _ rfl, rfl, rfl⟩, hl.push _⟩ (fun i h z => ?_) (fun b hb => ?_) (fun i v hv => ?_)
  · rw [← hlen]; exact Walks.tuple hh _ l hne vs
  · obtain ⟨⟨o, e, c, d⟩, _⟩ := z
    exact ⟨o, e, by unfold plainIter; rw [c, d]; rfl⟩
  · simp only [List.mem_cons, List.not_mem_nil, or_false] at hb
    rcases hb with rfl | rfl
    · exact .inl rfl
    · exact .inr ⟨_, e1⟩
  · have hi : i < xs.length := by
      have := (Array.getElem?_eq_some_iff.mp hv).1; first | lia | omega
    obtain ⟨y, hy, ry⟩ := ReprL.get r (show xs[i]? = some xs[i] by simp [hi])
    have : vs[i]? = some y := by simpa using hy
    rw [hv] at this; cases this
    exact ⟨_, by simp [hi], ry⟩
noncomputable def strL (x : Str) : List AV := x.cps.toList.map fun c => .str ⟨#[c]⟩
theorem iter_str {x : Str} : IterOk C (.str x) (strL x) := by
  intro A F s v Qr E hh hsub r k
  simp only [Repr] at r
  obtain ⟨t, rfl⟩ := r
  have hlen : (strL x).length = x.cps.size := by simp [strL]
  cases ha : x.cps.all (· < 128) with
  | true =>
    refine wpAny_pyIter_ascii ha ?_
    refine k s.heap.objs.size _ [s.heap.objs.size] (SignAt x) (fun i h => h.IsStrIter s.heap.objs.size "str_ascii_iterator" x t i) _ (Nat.le_refl _) (Heap.get?_push_size _ rfl) (fun b x e => Heap.get?_push_of_some _ e) ?_ ⟨_, Heap.get?_push_size _ rfl, rfl, rfl⟩ (fun i h z => ?_) (fun b hb => .inl (by simpa using hb)) ?_
    · rw [hlen]; exact Walks.strAscii hh _ x t
    · obtain ⟨o, e, c, d⟩ := z
      exact ⟨o, e, by unfold plainIter; rw [c, d]; rfl⟩
    · rintro i v ⟨c, t', hc, rfl⟩
      exact ⟨.str ⟨#[c]⟩, by simp [strL, hc], rStr⟩
  | false =>
    refine wpAny_pyIter_wide ha ?_
    refine k s.heap.objs.size _ [s.heap.objs.size] (SignAt x) (fun i h => h.IsStrIter s.heap.objs.size "str_iterator" x t i) _ (Nat.le_refl _) (Heap.get?_push_size _ rfl) (fun b x e => Heap.get?_push_of_some _ e) ?_ ⟨_, Heap.get?_push_size _ rfl, rfl, rfl⟩ (fun i h z => ?_) (fun b hb => .inl (by simpa using hb)) ?_
    · rw [hlen]; exact Walks.strWide hh _ x t
    · obtain ⟨o, e, c, d⟩ := z
      exact ⟨o, e, by unfold plainIter; rw [c, d]; rfl⟩
    · rintro i v ⟨c, t', hc, rfl⟩
      exact ⟨.str ⟨#[c]⟩, by simp [strL, hc], rStr⟩
end
end Mine

end

section
open PySem PySem.W PyProof.Rows
set_option maxRecDepth 100000
set_option linter.unusedVariables false
namespace Mine

theorem ReprL.set {F : FMap} {x : AV} {v : Value} (r : Repr F x v) : ∀ {xs : List AV} {vs : List Value} {i : Nat}, ReprL F xs vs → ReprL F (xs.set i x) (vs.set i v)
  | [], _, i, q => by simp only [ReprL] at q; subst q; simp [ReprL]
  | y :: xs, _, i, q => by
    simp only [ReprL] at q
    obtain ⟨w, ws, rfl, q1, q2⟩ := q
    cases i with
    | zero => exact ReprL.cons r q2
    | succ i => exact ReprL.cons q1 (ReprL.set r q2)
theorem set_plain {prog : Program} {w : World} {A : Around} {E : Value → Shared → Prop} {s : Shared} {l : Addr} {items : Array Value} {k : Int} {t : Tok} {v : Value} {Q : Unit → Shared → Prop} (hl : s.heap.PlainList l items)
    (h0 : 0 ≤ k) (hfit : k < 2 ^ 63) (hn : k < items.size) (hQ : ∀ h', h'.PlainList l (items.setIfInBounds k.toNat v) → Heap.SameBut l s.heap h' → Q () { s with heap := h' }) :
    wpAny (model prog w) A (setItem (.ref l) (.int k t) v) Q E s := by
  obtain ⟨n, e⟩ := hl
  have hL : s.heap.IsList l items := ⟨_, e, rfl, n, rfl⟩
  unfold setItem
  refine wpAny_holding ?_
  refine wpAny_bind (wpAny_sequenceKey hL.typeIs (by decide) ?_)
  refine wpAny_bind (wpAny_callSpecial?_slot (name := Str.ofString "__setitem__") hL.typeIs slot_list_setitem (wpAny_call_entry slot_list_setitem hL.typeIs entry_list_setitem ?_ (args_list_setitem _ _ _)))
  show wpAny _ _ (Builtin.List.listSubscript? (.int k t) >>= _) _ _ s
  refine wpAny_bind (wpAny_listSubscript_int (fitsIndex_of h0 hfit) ?_)
  clear hfit
  obtain ⟨j, rfl⟩ := Int.eq_ofNat_of_zero_le h0
  have hj : j < items.size := by first | lia | omega
  have hx : items[j]? = some items[j] := Array.getElem?_eq_getElem hj
  show wpAny _ _ ((seqItemAt l j >>= fun r => pure (r.map (j, ·))) >>= _) _ _ s
  refine wpAny_bind (wpAny_bind (wpAny_seqItemAt e rfl (wpAny_pure ?_)))
  rw [hx]
  show wpAny _ _ (setSeqItemAt l j v >>= _) _ _ s
  refine wpAny_bind (wpAny_setSeqItemAt e rfl ?_)
  have done := hQ (s.heap.update l (Obj.mapSeq (·.setIfInBounds j v))) ⟨_, Heap.get?_update_self _ e rfl⟩ (Heap.SameBut.update ..)
  first
    | exact wpAny_bind (wpAny_pure (wpAny_pure ⟨.none, rfl, wpAny_pure done⟩))
    | exact wpAny_pure ⟨.none, rfl, wpAny_pure done⟩
section
variable {C : Ctx} {fn : Fn} {fi : FI C fn} {prot : Prot} {F F' : FMap} {st st' : ASt} {s s' : Shared}

theorem own_isList {h : Heap} {L a : Addr} {xs : List AV} (O : OwnAt F prot C h L a xs) : ∃ vs, h.IsList a vs := let ⟨vs, n, e, _⟩ := O; ⟨vs, _, e, rfl, n, rfl⟩

theorem sep_own {s' : Shared} (R : Rel fi prot F st s) {x : Str} {xs : List AV} {a : Addr} (hno : ∀ y ys, st.lookup y = some (.own ys) → ¬ Stored fi.env s.heap y (.ref a)) (hx : Stored fi.env s'.heap x (.ref a))
    (fwd : ∀ y u, y ≠ x → Stored fi.env s.heap y u → Stored fi.env s'.heap y u) :
    ∀ y z ys zs b, (set st x (.own xs)).lookup y = some (.own ys) → (set st x (.own xs)).lookup z = some (.own zs) → Stored fi.env s'.heap y (.ref b) → Stored fi.env s'.heap z (.ref b) → y = z := by
  intro y z ys zs b e1 e2 S T
  rw [lookup_set] at e1 e2
  have other : ∀ y ys, y ≠ x → st.lookup y = some (.own ys) → ∀ b, Stored fi.env s'.heap y (.ref b) → Stored fi.env s.heap y (.ref b) := fun y ys hy e b S => by
    obtain ⟨u, U, _⟩ := R.vars y _ e
    have q := (fwd y u hy U).fun S
    subst q; exact U
  by_cases hy : y = x
  · subst hy
    by_cases hz : z = y
    · exact hz.symm
    · rw [if_neg hz] at e2
      have T' := other z zs hz e2 b T
      have := hx.fun S
      cases this
      exact absurd T' (hno z zs e2)
  · rw [if_neg hy] at e1
    have S' := other y ys hy e1 b S
    by_cases hz : z = x
    · subst hz
      have := hx.fun T
      cases this
      exact absurd S' (hno y ys e1)
    · rw [if_neg hz] at e2
      exact R.sep y z ys zs b e1 e2 S' (other z zs hz e2 b T)

theorem store_own {A : Around} {E : Value → Shared → Prop} {x : Str} {a : Addr} {xs : List AV} {Qr : Unit → Shared → Prop} (R : Rel fi prot F st s) (O : OwnAt F prot C s.heap fi.L a xs) (hno : ∀ y ys, st.lookup y = some (.own ys) → ¬ Stored fi.env s.heap y (.ref a))
    (hx : storable fn.scope x = true) (hk : fn.scope.kind = .function) (k : ∀ s', Rel fi prot F (set st x (.own xs)) s' → Qr () s') : wpAny C.M A (storeName fi.env x (.ref a)) Qr E s := by
  unfold storable at hx
  obtain ⟨vs, nn, o1, o2, o3, o4, o5, o6⟩ := id O
  split at hx
  · rename_i e
    obtain ⟨m, n⟩ := R.ns
    have e' : fi.env.kindOf x = some .local := e
    refine wpAny_storeName_local e' n (fun h' hn hs => k _ ?_) (by show (fn.scope.kind == .class || (fn.scope.kind == .module && fi.L != mainGlobals)) = false; rw [hk]; rfl)
    have fwd : ∀ y u, y ≠ x → Stored fi.env s.heap y u → Stored fi.env h' y u := fun y u ne S => by
      rcases S with ⟨q, m', n', z⟩ | ⟨q, c, l, o, z1, z2⟩
      · refine .inl ⟨q, _, hn, ?_⟩
        rw [ns_fun n n']
        show (if y = x then some _ else m' y) = some u
        rw [if_neg ne]; exact z
      · exact .inr ⟨q, c, l, o, (hs.2 c (ns_ne_cell n ⟨o, z1, z2⟩)).trans z1, z2⟩
    have hxS : Stored fi.env h' x (.ref a) := .inl ⟨e', _, hn, by show (if x = x then some _ else m x) = some _; rw [if_pos rfl]⟩
    refine ⟨R.g.mut hs R.Lf R.Lt, ?_, fun a o q => ?_, ⟨_, hn⟩, R.Lf, R.Lp, R.Lt, fun y c q l => ?_, R.cov, R.cellsep, R.free, fun y sl q => ?_, sep_own R hno hxS fwd⟩
    · obtain ⟨h, tk, e⟩ := R.only
      exact ⟨h', _, by rw [e]⟩
    · obtain ⟨h1, h2, h3⟩ := R.p a o q
      exact ⟨(hs.2 a fun z => R.Lp o ((show a = fi.L from z) ▸ q)).trans h1, h2, h3⟩
    · obtain ⟨h1, h2, h3, h4, u, o, z1, z2⟩ := R.cells y c q l
      exact ⟨h1, h2, h3, h4, u, o, (hs.2 c h4).trans z1, z2⟩
    · rw [lookup_set] at q
      by_cases hy : y = x
      · rw [if_pos hy] at q; cases q; subst hy
        exact ⟨_, hxS, a, rfl, vs, nn, (hs.2 a o6).trans o1, o2, o3, o4, o5, o6⟩
      · rw [if_neg hy] at q
        obtain ⟨u, S, O⟩ := R.vars y sl q
        refine ⟨u, fwd y u hy S, ?_⟩
        cases sl with
        | v av => exact O
        | own xs =>
          obtain ⟨a, rfl, vs, n, l1, l3, l4, l5, l6, l7⟩ := O
          exact ⟨a, rfl, vs, n, (hs.2 a l7).trans l1, l3, l4, l5, l6, l7⟩
  · rename_i e
    have e' : fi.env.kindOf x = some .cell := e
    obtain ⟨c, hc⟩ := R.cov x e'
    obtain ⟨c1, c2, c3, c4, v₀, hv₀⟩ := R.cells x c e' hc
    refine wpAny_storeName_cell hk e' hc hv₀ fun h' hn hs => k _ ?_
    obtain ⟨m, n⟩ := R.ns
    have fwd : ∀ y u, y ≠ x → Stored fi.env s.heap y u → Stored fi.env h' y u := fun y u ne S => by
      rcases S with ⟨q, m', n', z⟩ | ⟨q, c', l, o, z1, z2⟩
      · exact .inl ⟨q, m', n'.sameBut hs (ns_ne_cell n' hv₀).symm, z⟩
      · exact .inr ⟨q, c', l, o, (hs.2 c' fun z => ne (R.cellsep x y c e' hc (z ▸ l)).symm).trans z1, z2⟩
    have hxS : Stored fi.env h' x (.ref a) := .inr ⟨.inl e', c, hc, hn⟩
    have list_ne : ∀ b vs n, s.heap.get? b = some (lobj vs n) → b ≠ c := fun b vs n l1 => list_ne_cell (l := vs) ⟨_, l1, rfl, n, rfl⟩ hv₀
    refine ⟨R.g.mut (tk := s.toks) hs c1 c3, ?_, fun a o q => ?_, ⟨_, n.sameBut hs c4.symm⟩, R.Lf, R.Lp, R.Lt, fun y c' q l => ?_, R.cov, R.cellsep, R.free, fun y sl q => ?_, sep_own R hno hxS fwd⟩
    · obtain ⟨h, tk, e⟩ := R.only
      exact ⟨h', _, by rw [e]⟩
    · obtain ⟨h1, h2, h3⟩ := R.p a o q
      exact ⟨(hs.2 a fun z => c2 o (z ▸ q)).trans h1, h2, h3⟩
    · obtain ⟨h1, h2, h3, h4, u, o, z1, z2⟩ := R.cells y c' q l
      refine ⟨h1, h2, h3, h4, ?_⟩
      by_cases z : c' = c
      · subst z; exact ⟨_, hn⟩
      · exact ⟨u, o, (hs.2 c' z).trans z1, z2⟩
    · rw [lookup_set] at q
      by_cases hy : y = x
      · rw [if_pos hy] at q; cases q; subst hy
        exact ⟨_, hxS, a, rfl, vs, nn, (hs.2 a (list_ne _ _ _ o1)).trans o1, o2, o3, o4, o5, o6⟩
      · rw [if_neg hy] at q
        obtain ⟨u, S, O⟩ := R.vars y sl q
        refine ⟨u, fwd y u hy S, ?_⟩
        cases sl with
        | v av => exact O
        | own xs =>
          obtain ⟨a, rfl, vs, n', l1, l3, l4, l5, l6, l7⟩ := O
          exact ⟨a, rfl, vs, n', (hs.2 a (list_ne _ _ _ l1)).trans l1, l3, l4, l5, l6, l7⟩
  · cases hx

theorem Rel.list {y : Str} {xs xs' : List AV} {l : Addr} {vs' : Array Value} {n' : Nat} (R : Rel fi prot F st s) (e : st.lookup y = some (.own xs)) (S : Stored fi.env s.heap y (.ref l)) (sub : Sub F F') (only : ∃ h tk, s' = { s with heap := h, toks := tk })
    (keep : ∀ a o, ¬ isTab C a → a ≠ l → s.heap.get? a = some o → s'.heap.get? a = some o) (new : ∀ a o, ¬ isTab C a → s.heap.get? a = some o → F a = none → F' a = none) (g : GOk C fi.d fi.A F' s')
    (hl : s'.heap.get? l = some (lobj vs' n')) (hr : ReprL F' xs' vs'.toList) : Rel fi prot F' (set st y (.own xs')) s' ∧ KeepV fi.env s s' := by
  obtain ⟨v, S', O⟩ := R.vars y _ e
  have := S'.fun S; subst this
  obtain ⟨l', q, vs, n, l1, l3, l4, l5, l6, l7⟩ := O
  cases q
  have lne : ∀ c v, s.heap.IsCell c v → c ≠ l := fun c v hc => (list_ne_cell (l := vs) ⟨_, l1, rfl, n, rfl⟩ hc).symm
  have stored : ∀ x v, Stored fi.env s.heap x v → Stored fi.env s'.heap x v := fun x v S => by
    rcases S with ⟨e, m, n, q⟩ | ⟨e, c, n, o, q1, q2⟩
    · obtain ⟨o, es, ep, e1, r⟩ := id n
      exact .inl ⟨e, m, ⟨o, es, ep, keep _ _ R.Lt (fun z => l7 z.symm) e1, r⟩, q⟩
    · exact .inr ⟨e, c, n, o, keep _ _ (notTab_of_cell R.g ⟨o, q1, q2⟩) (lne c _ ⟨o, q1, q2⟩) q1, q2⟩
  obtain ⟨m, o, es, ep, e1, r⟩ := R.ns
  refine ⟨⟨g, ?_, fun a o q => ?_, ⟨m, o, es, ep, keep _ _ R.Lt (fun z => l7 z.symm) e1, r⟩, new _ _ R.Lt e1 R.Lf, R.Lp, R.Lt, fun x c k lk => ?_, R.cov, R.cellsep, fun x c k lk => ?_, fun x sl q => ?_, fun x z us zs a q1 q2 T U => ?_⟩, stored⟩
  · obtain ⟨h, tk, e⟩ := R.only
    obtain ⟨h', tk', e'⟩ := only
    exact ⟨h', tk', by rw [e', e]⟩
  · obtain ⟨h1, h2, h3⟩ := R.p a o q
    exact ⟨keep _ _ h3 (fun z => l5 o (z ▸ q)) h1, new _ _ h3 h1 h2, h3⟩
  · obtain ⟨h1, h2, h3, h4, v, o, q1, q2⟩ := R.cells x c k lk
    exact ⟨new _ _ h3 q1 h1, h2, h3, h4, v, o, keep _ _ h3 (lne c _ ⟨o, q1, q2⟩) q1, q2⟩
  · obtain ⟨o, v, q1, q2⟩ := R.free x c k lk
    exact ⟨o, v, sub _ _ q1, q2⟩
  · rw [lookup_set] at q
    by_cases hx : x = y
    · rw [if_pos hx] at q; cases q; subst hx
      exact ⟨_, stored _ _ S, l, rfl, vs', n', hl, hr, new _ _ l6 l1 l4, l5, l6, l7⟩
    · rw [if_neg hx] at q
      obtain ⟨v, S2, O⟩ := R.vars x sl q
      refine ⟨v, stored x v S2, ?_⟩
      cases sl with
      | v av => exact Repr.mono sub _ _ O
      | own us =>
        obtain ⟨a, rfl, ws, k, m1, m3, m4, m5, m6, m7⟩ := O
        exact ⟨a, rfl, ws, k, keep _ _ m6 (fun z => hx (R.sep x y us xs l q e (z ▸ S2) S)) m1, ReprL.mono sub _ _ m3, new _ _ m6 m1 m4, m5, m6, m7⟩
  · have back : ∀ x us, (set st y (.own xs')).lookup x = some (.own us) → ∀ a, Stored fi.env s'.heap x (.ref a) → ∃ us', st.lookup x = some (.own us') ∧ Stored fi.env s.heap x (.ref a) := fun x us q a T => by
      rw [lookup_set] at q
      by_cases hx : x = y
      · subst hx
        have := (stored _ _ S).fun T; cases this
        exact ⟨xs, e, S⟩
      · rw [if_neg hx] at q
        obtain ⟨v, S2, _⟩ := R.vars x _ q
        have := (stored _ _ S2).fun T; subst this
        exact ⟨us, q, S2⟩
    obtain ⟨us', e1', T'⟩ := back x us q1 a T
    obtain ⟨zs', e2', U'⟩ := back z zs q2 a U
    exact R.sep x z us' zs' a e1' e2' T' U'

theorem Rel.freeze {y : Str} {xs : List AV} (R : Rel fi prot F st s) (e : st.lookup y = some (.own xs)) : ∃ l F', Stored fi.env s.heap y (.ref l) ∧ Sub F F' ∧ Repr F' (.lst xs) (.ref l) ∧ Rel fi prot F' (set st y (.v (.lst xs))) s := by
  obtain ⟨v, S, l, rfl, vs, n, l1, l3, l4, l5, l6, l7⟩ := R.vars y _ e
  have u := put_sub (o := lobj vs n) l4
  have rl : Repr (put F l (lobj vs n)) (.lst xs) (.ref l) := by simp only [Repr]; exact ⟨l, vs, n, rfl, put_self, ReprL.mono u _ _ l3⟩
  have np : ∀ a, a ≠ l → F a = none → put F l (lobj vs n) a = none := fun a ne q => by unfold put; rw [if_neg ne]; exact q
  have lne : ∀ c v, s.heap.IsCell c v → c ≠ l := fun c v hc => (list_ne_cell (l := vs) ⟨_, l1, rfl, n, rfl⟩ hc).symm
  refine ⟨l, put F l (lobj vs n), S, u, rl, ⟨R.g.freeze l1 l4 l6, R.only, fun a o q => ?_, R.ns, np _ (fun z => l7 z.symm) R.Lf, R.Lp, R.Lt, fun x c k lk => ?_, R.cov, R.cellsep, fun x c k lk => ?_, fun x sl q => ?_, fun x z us zs a q1 q2 T U => ?_⟩⟩
  · obtain ⟨h1, h2, h3⟩ := R.p a o q
    exact ⟨h1, np _ (fun z => l5 o (z ▸ q)) h2, h3⟩
  · obtain ⟨h1, h2, h3, h4, v, hc⟩ := R.cells x c k lk
    exact ⟨np _ (lne c _ hc) h1, h2, h3, h4, v, hc⟩
  · obtain ⟨o, v, q1, q2⟩ := R.free x c k lk
    exact ⟨o, v, u _ _ q1, q2⟩
  · rw [lookup_set] at q
    by_cases hx : x = y
    · rw [if_pos hx] at q; cases q; subst hx
      exact ⟨_, S, rl⟩
    · rw [if_neg hx] at q
      obtain ⟨v, S2, O⟩ := R.vars x sl q
      refine ⟨v, S2, ?_⟩
      cases sl with
      | v av => exact Repr.mono u _ _ O
      | own us =>
        obtain ⟨a, rfl, ws, k, m1, m3, m4, m5, m6, m7⟩ := O
        exact ⟨a, rfl, ws, k, m1, ReprL.mono u _ _ m3, np _ (fun z => hx (R.sep x y us xs l q e (z ▸ S2) S)) m4, m5, m6, m7⟩
  · rw [lookup_set] at q1 q2
    by_cases hx : x = y
    · rw [if_pos hx] at q1; cases q1
    · by_cases hz : z = y
      · rw [if_pos hz] at q2; cases q2
      · rw [if_neg hx] at q1; rw [if_neg hz] at q2
        exact R.sep x z us zs a q1 q2 T U

theorem HE_nameOwn {x : Str} {pos : Pos} {xs : List AV} {Q : AV → ASt → Prop} (e : st.lookup x = some (.own xs)) (q : Q (.lst xs) (set st x (.v (.lst xs)))) (ho : okName x = true := by rfl) (hk : fn.scope.kind = .function := by rfl) : HE fi st (.Name x pos) Q :=
  fun prot F s Qr E R b => by
    obtain ⟨l, F', S, u, r, R'⟩ := R.freeze e
    exact eval_stored hk S ho (b _ _ _ F' s q u R' r KeepV.refl)

noncomputable def HEo (fi : FI C fn) (st : ASt) (e : Expr) (Q : List AV → ASt → Prop) : Prop :=
  ∀ prot F s Qr E, Rel fi prot F st s → (∀ xs st' a F' s', Q xs st' → Sub F F' → Rel fi prot F' st' s' → OwnAt F' prot C s'.heap fi.L a xs → (∀ y ys, st'.lookup y = some (.own ys) → ¬ Stored fi.env s'.heap y (.ref a)) → KeepV fi.env s s' → Qr (.ref a) s') → wpAny C.M fi.A (eval e fi.env) Qr E s
theorem own_new {vs : Array Value} {n : Nat} {xs : List AV} {tk : Nat} (R : Rel fi prot F st s) (r : ReprL F xs vs.toList) :
    Rel fi prot F st { s with heap := s.heap.push (lobj vs n), toks := tk } ∧ OwnAt F prot C (s.heap.push (lobj vs n)) fi.L s.heap.objs.size xs ∧ (∀ y ys, st.lookup y = some (.own ys) → ¬ Stored fi.env (s.heap.push (lobj vs n)) y (.ref s.heap.objs.size)) ∧ KeepV fi.env s { s with heap := s.heap.push (lobj vs n), toks := tk } := by
  have k : ∀ a x, s.heap.get? a = some x → (s.heap.push (lobj vs n)).get? a = some x := fun a x e => Heap.get?_push_of_some _ e
  have G : Grow C F s F { s with heap := s.heap.push (lobj vs n), toks := tk } := ⟨Sub.refl _, Ext.grow k, New.refl⟩
  have none : s.heap.get? s.heap.objs.size = none := Heap.get?_none_of_le (Nat.le_refl _)
  refine ⟨R.pure G (R.g.grow k), ⟨vs, n, Heap.get?_push_size _ rfl, r, R.g.fresh (Nat.le_refl _), fun o q => ?_, notTab_of_fresh R.g (Nat.le_refl _), fun z => ?_⟩, fun y ys e S => ?_, R.keepV G⟩
  · have := (R.p _ _ q).1; rw [none] at this; cases this
  · obtain ⟨m, o, es, ep, e1, _⟩ := R.ns
    rw [← z, none] at e1; cases e1
  · obtain ⟨v, S', a, rfl, ws, kk, m1, _⟩ := R.vars y _ e
    have := (S'.keeps k).fun S; cases this
    rw [none] at m1; cases m1
theorem HEo_list {es : List Expr} {pos : Pos} {Q : List AV → ASt → Prop} (h : HL fi st es fun as st1 => as.length ≤ sizeLine ∧ Q as st1) : HEo fi st (.List es pos) Q :=
  fun prot F s Qr E R b => PyProof.Rows.List_ (h prot F s _ E pos R fun as st1 vs F1 s1 q1 u1 R1 r1 k1 => by
    have hlen := ReprL.length r1
    refine wpAny_newObj_type ?_ (by show vs.toArray.size ≤ sizeLine; rw [List.size_toArray, hlen]; exact q1.1)
    obtain ⟨R2, O, ns, k2⟩ := own_new (vs := vs.toArray) (n := 0) (tk := s1.toks) R1 (xs := as) (by simpa using r1)
    exact b as st1 _ F1 _ q1.2 u1 R2 O ns (k1.trans k2))
theorem HX_assignOwn {x : Str} {p pos : Pos} {e : Expr} {Q : AFlow → ASt → Prop} (h : HEo fi st e fun xs st1 => Q .next (set st1 x (.own xs)))
    (hx : storable fn.scope x = true := by rfl) (hk : fn.scope.kind = .function := by rfl) (hs : swapsWith e (some (.Name x p)) pos.line fi.env = pure false := by rfl) : HX fi st (.Assign [.Name x p] e pos) Q :=
  fun prot F s Qr E R b => wpAny_Assign_Name (h prot F s _ E R fun xs st1 a F1 s1 q1 u1 R1 O ns k1 => store_own R1 O ns hx hk fun s2 R2 => b .next _ _ F1 s2 q1 u1 R2 rfl) hs

theorem HE_subOwn {x : Str} {np pos : Pos} {i : Expr} {xs : List AV} {Q : AV → ASt → Prop} (e : st.lookup x = some (.own xs)) (h : HE fi st i fun b st1 => st1.lookup x = some (.own xs) ∧ ∃ k y, b = .int k ∧ 0 ≤ k ∧ k < 2 ^ 63 ∧ xs[k.toNat]? = some y ∧ Q y st1)
    (ho : okName x = true := by rfl) (hk : fn.scope.kind = .function := by rfl) : HE fi st (.Subscript (.Name x np) i pos) Q :=
  fun prot F s Qr E R b => by
    obtain ⟨v, S, l, rfl, _⟩ := R.vars x _ e
    refine Subscript_ (eval_stored hk S ho (h prot F s _ E R fun a1 st1 v1 F1 s1 q1 u1 R1 r1 k1 => ?_))
    obtain ⟨e1, k, y, rfl, h0, h1, hy, q⟩ := q1
    simp only [Repr] at r1
    obtain ⟨t, rfl⟩ := r1
    obtain ⟨v', S', l', rfl, vs, n, l1, l3, _⟩ := R1.vars x _ e1
    have := (k1 x _ S).fun S'; cases this
    obtain ⟨z, hz, rz⟩ := ReprL.get l3 hy
    have hl : s1.heap.IsList l vs := ⟨_, l1, rfl, n, rfl⟩
    obtain ⟨ops, hs⟩ := subscripted_ops i (.ref l) (.int k t)
    exact tail_any hl.typeIs slot_list_getitem.lookup (wpAny_getItem_list hl h0 h1 (by simpa using hz) (b y st1 _ F1 s1 q u1 R1 rz k1)) hs
theorem HE_lenOwn {x f : Str} {np fp pos : Pos} {xs : List AV} {Q : AV → ASt → Prop} (hg : Glob C f (.builtin "len")) (e : st.lookup x = some (.own xs)) (hl : (xs.length : Int) < 2 ^ 63) (q : Q (.int xs.length) st) (ho : okName x = true := by rfl)
    (hx : fn.scope.names.lookup f = some .globalImplicit := by rfl) (hof : okName f = true := by rfl) (hk : fn.scope.kind = .function := by rfl) : HE fi st (.Call (.Name f fp) [.Name x np] [] pos) Q :=
  fun prot F s Qr E R b => by
    refine wpAny_Call_ofName (HE_glob (Q := fun a st1 => a = .val (.builtin "len") ∧ st1 = st) hg ⟨rfl, rfl⟩ hx hof hk prot F s _ E R ?_)
    rintro a1 st1 v1 F1 s1 ⟨rfl, rfl⟩ u1 R1 r1 k1
    simp only [Repr] at r1
    subst r1
    obtain ⟨v, S, l, rfl, vs, n, l1, l3, _⟩ := R1.vars x _ e
    have hlen : vs.size = xs.length := by simpa using ReprL.length l3
    refine Calls.callWith_builtin rfl (evalArgs_of (by rfl) (Calls.spliced_cons (eval_stored hk S ho (Calls.spliced_nil ?_))))
    refine PyProof.Rows.len_list ⟨_, l1, rfl, n, rfl⟩ (by rw [hlen]; exact hl) ?_
    rw [hlen]
    have G : Grow C F1 s1 F1 { s1 with toks := s1.toks + 1 + 1 } := ⟨Sub.refl _, Ext.toks _, New.refl⟩
    exact b _ _ _ F1 _ q u1 (R1.pure G (R1.g.toks _)) rInt (k1.trans (R1.keepV G))
theorem HX_setOwn {x : Str} {np tp pos : Pos} {i e : Expr} {xs : List AV} {Q : AFlow → ASt → Prop} (h : HE fi st e fun a st1 => st1.lookup x = some (.own xs) ∧ HE fi st1 i fun b st2 => st2.lookup x = some (.own xs) ∧ ∃ k, b = .int k ∧ 0 ≤ k ∧ k < 2 ^ 63 ∧ k < xs.length ∧ Q .next (set st2 x (.own (xs.set k.toNat a))))
    (ho : okName x = true := by rfl) (hk : fn.scope.kind = .function := by rfl) (hs : swapsWith e (some (.Subscript (.Name x np) i tp)) pos.line fi.env = pure false := by rfl) : HX fi st (.Assign [.Subscript (.Name x np) i tp] e pos) Q :=
  fun prot F s Qr E R b => by
    refine wpAny_Assign_Subscript (h prot F s _ E R fun a1 st1 v1 F1 s1 q1 u1 R1 r1 k1 => ?_) hs
    obtain ⟨e1, h2⟩ := q1
    obtain ⟨v, S, l, rfl, _⟩ := R1.vars x _ e1
    refine eval_stored hk S ho (h2 prot F1 s1 _ E R1 fun a2 st2 v2 F2 s2 q2 u2 R2 r2 k2 => ?_)
    obtain ⟨e2, k, rfl, h0, h1, hlt, q⟩ := q2
    simp only [Repr] at r2
    obtain ⟨t, rfl⟩ := r2
    obtain ⟨v', S', l', rfl, vs, n, l1, l3, l4, l5, l6, l7⟩ := R2.vars x _ e2
    have := (k2 x _ S).fun S'; cases this
    have hlen : vs.size = xs.length := by simpa using ReprL.length l3
    have hp : s2.heap.PlainList l vs := ⟨n, l1⟩
    refine set_plain hp h0 h1 (by rw [hlen]; exact hlt) fun h' hp' hsb => ?_
    obtain ⟨n', l1'⟩ := hp'
    have g' : GOk C fi.d fi.A F2 { s2 with heap := h' } := R2.g.mut (tk := s2.toks) hsb l4 l6
    obtain ⟨R3, _⟩ := R2.list (s' := { s2 with heap := h' }) (F' := F2) e2 S' (Sub.refl _) ⟨h', s2.toks, rfl⟩ (fun a o _ ne ee => (hsb.2 a ne).trans ee) (fun _ _ _ _ z => z) g' l1' (xs' := xs.set k.toNat a1) (by
      have := ReprL.set (i := k.toNat) (Repr.mono u2 _ _ r1) l3
      simpa using this)
    exact b .next _ _ F2 _ q (u1.trans u2) R3 rfl
end
end Mine

end

section
open PySem PySem.W PyProof.Rows
set_option maxRecDepth 100000
set_option linter.unusedVariables false
namespace Mine

noncomputable def MutOk (C : Ctx) (id : String) (xs as xs' : List AV) : Prop :=
  ∀ A F s l vs n ws (Qr : Value → Shared → Prop) E, s.heap.get? l = some (lobj vs n) → ReprL F xs vs.toList → ReprL F as ws →
    (∀ r h' vs' n' tk, Heap.SameBut l s.heap h' → h'.get? l = some (lobj vs' n') → ReprL F xs' vs'.toList → Qr r { s with heap := h', toks := tk }) → wpAny C.M A (call (.builtin id) (.ref l :: ws)) Qr E s
theorem mut_append {C : Ctx} {xs : List AV} {x : AV} (h : xs.length ≤ sizeLine) : MutOk C "list.append" xs [x] (xs ++ [x]) := by
  intro A F s l vs n ws Qr E e r q k
  simp only [ReprL] at q
  obtain ⟨v, _, rfl, q, rfl⟩ := q
  have hlen : vs.size = xs.length := by simpa using ReprL.length r
  refine wpAny_list_append_plain ⟨n, e⟩ (fun h' ⟨n', e'⟩ hs => k .none h' _ n' s.toks hs e' ?_) (by rw [hlen]; exact h)
  simpa using ReprL.append r (ReprL.one q)
theorem mut_reverse {C : Ctx} {xs : List AV} (h : xs.length ≤ sizeLine) : MutOk C "list.reverse" xs [] xs.reverse := by
  intro A F s l vs n ws Qr E e r q k
  simp only [ReprL] at q
  subst q
  have hlen : vs.size = xs.length := by simpa using ReprL.length r
  refine call_meets PySem.F.slot_list_reverse ⟨_, e, rfl⟩ PySem.F.entry_list_reverse (PySem.F.args_list_reverse_1 _) (AutoSeq1.list_reverse_list_0 l vs n (by rw [hlen]; exact h)) ⟨e, ?_⟩
  exact k .none _ vs.reverse _ s.toks (Heap.SameBut.update ..) (Heap.get?_update_self _ e rfl) (by simpa using ReprL.reverse r)

section
variable {C : Ctx} {fn : Fn} {fi : FI C fn} {st : ASt}
theorem HX_ownMeth {x name : Str} {np apos pos pos2 : Pos} {es : List Expr} {id : String} {xs : List AV} {Q : AFlow → ASt → Prop} (slot : PySem.Slot "list" name id) (hty : typeOf (.builtin id) = pure (.type "method_descriptor")) (e : st.lookup x = some (.own xs))
    (h : HL fi st es fun as st1 => st1.lookup x = some (.own xs) ∧ ∃ xs', MutOk C id xs as xs' ∧ Q .next (set st1 x (.own xs')))
    (hp : es.all plainE = true := by rfl) (hn : es.length < 30 := by decide) (hline : (apos.endLine == pos.line) = true := by rfl) (ho : okName x = true := by rfl) (hk : fn.scope.kind = .function := by rfl)
    (hi : interactive fi.env = false := by rfl) (hs : swapsWith (.Call (.Attribute (.Name x np) name apos) es [] pos) none pos2.line fi.env = pure false := by rfl) : HX fi st (.Expr (.Call (.Attribute (.Name x np) name apos) es [] pos) pos2) Q :=
  fun prot F s Qr E R b => by
    obtain ⟨v, S, l, rfl, vs₀, n₀, l1, _⟩ := R.vars x _ e
    refine wpAny_Expr_any (wpAny_Call_method rfl ?_ hline PySem.F.plainAttrs_list slot hty (eval_stored hk S ho ?_)) hi hs
    · rw [notStar' hp]
      have : decide (es.length + ([] : List Keyword).length + (if ([] : List Keyword).isEmpty then 0 else 1) < 30) = true := by simpa using hn
      rw [this]; rfl
    refine ⟨⟨_, l1, rfl⟩, fun a q => by cases q; exact ⟨_, l1, rfl⟩, Calls.callWith_builtin (notStar hp) (evalArgs_of hp (h prot F s _ E pos R fun as st1 ws F1 s1 q1 u1 R1 r1 k1 => ?_))⟩
    obtain ⟨e1, xs', hm, q⟩ := q1
    obtain ⟨v', S', l', rfl, vs, n, m1, m3, m4, m5, m6, m7⟩ := R1.vars x _ e1
    have := (k1 x _ S).fun S'; cases this
    refine hm fi.A F1 s1 l vs n ws _ E m1 m3 r1 fun r h' vs' n' tk hsb e' r' => ?_
    obtain ⟨R2, _⟩ := R1.list (s' := { s1 with heap := h', toks := tk }) (F' := F1) e1 S' (Sub.refl _) ⟨h', tk, rfl⟩ (fun a o _ ne ee => (hsb.2 a ne).trans ee) (fun _ _ _ _ z => z) (R1.g.mut hsb m4 m6) e' r'
    exact b .next _ _ F1 _ q u1 R2 rfl
end

noncomputable def cloM (m : Made) (clos : List (Str × Addr)) (self lname : Str) (l : Addr) (caps : List (Str × AV)) : MP where
  p := fun F f => (∃ doc pm cv ctv, IsFn F f (m.fd clos .none doc pm cv ctv)) ∧ (∀ x av, (x, av) ∈ caps → ∃ c o v, clos.lookup x = some c ∧ F c = some o ∧ o.data = .cell (some v) ∧ Repr F av v) ∧
    (∃ c o, clos.lookup self = some c ∧ F c = some o ∧ o.data = .cell (some (.ref f))) ∧ (∃ c o, clos.lookup lname = some c ∧ F c = some o ∧ o.data = .cell (some (.ref l)))
  mono := by
    rintro F G a h ⟨⟨doc, pm, cv, ctv, x⟩, y, z, w⟩
    refine ⟨⟨doc, pm, cv, ctv, x.mono h⟩, fun x av e => ?_, ?_, ?_⟩
    · obtain ⟨c, o, v, q1, q2, q3, q4⟩ := y x av e
      exact ⟨c, o, v, q1, h _ _ q2, q3, Repr.mono h _ _ q4⟩
    · obtain ⟨c, o, z1, z2, z3⟩ := z
      exact ⟨c, o, z1, h _ _ z2, z3⟩
    · obtain ⟨c, o, z1, z2, z3⟩ := w
      exact ⟨c, o, z1, h _ _ z2, z3⟩
noncomputable def CallM (C : Ctx) (d : Nat) (P : MP) (l : Addr) (xs as xs' : List AV) : Prop :=
  ∀ A F s f vs ws n (Qr : Value → Shared → Prop) E, GOk C d A F s → P.p F f → F l = none → ¬ isTab C l → s.heap.get? l = some (lobj ws n) → ReprL F xs ws.toList → ReprL F as vs →
    (∀ F' s' ws' n', Sub F F' → (∃ h tk, s' = { s with heap := h, toks := tk }) → (∀ a o, ¬ isTab C a → a ≠ l → s.heap.get? a = some o → s'.heap.get? a = some o) → New C s F F' → GOk C d A F' s' → s'.heap.get? l = some (lobj ws' n') → ReprL F' xs' ws'.toList → Qr .none s') →
    wpAny C.M A (call (.ref f) vs) Qr E s
theorem CallM.room {C : Ctx} {d d' : Nat} {P : MP} {l : Addr} {xs as xs' : List AV} (h : CallM C d P l xs as xs') (le : d ≤ d') : CallM C d' P l xs as xs' := fun A F s f vs ws n Qr E g p h1 h2 h3 h4 h5 k =>
  h A F s f vs ws n Qr E (g.less le) p h1 h2 h3 h4 h5 fun F' s' ws' n' q1 q2 q3 q4 q5 q6 q7 => k F' s' ws' n' q1 q2 q3 q4 ⟨q5.base, q5.sub, q5.tab, q5.hand, g.dep, g.uni⟩ q6 q7

noncomputable def okCloM (m : Made) (ps : List Str) (self lname : Str) (cn : List Str) : Bool :=
  decide ps.Nodup && m.scope.names.all (fun x => x.2 != .cell) && ps.all (fun x => m.scope.names.lookup x == some .local) && m.scope.names.all (fun x => x.2 != .free || x.1 == self || x.1 == lname || cn.contains x.1) &&
    cn.all (fun x => m.scope.names.lookup x == some .free) && (m.scope.names.lookup self == some .free) && (m.scope.names.lookup lname == some .free) && !m.scope.isCoroutine && !m.scope.isGenerator && (m.scope.kind == .function)

theorem CallM_clo {C : Ctx} {d : Nat} {m : Made} {clos : List (Str × Addr)} {self lname : Str} {l : Addr} {caps : List (Str × AV)} {body : List Stmt} {xs as xs' : List AV} (ps : List Str) (hok : okCloM m ps self lname (caps.map (·.1)) = true)
    (hbody : m.body = .stmts body) (hbind : ∀ doc pm cv ctv (vs : List Value), vs.length = ps.length → bindArgs (m.fd clos .none doc pm cv ctv) ⟨vs, []⟩ = pure (ps.zip vs)) (hlen : as.length = ps.length)
    (h : ∀ fi : FI C ⟨m.qual, m.scope⟩, fi.d = d → fi.cl = clos →
      HS fi (ps.zip (as.map Slot.v) ++ (caps.map fun p => (p.1, Slot.v p.2)) ++ [(self, Slot.v (.obj (cloM m clos self lname l caps))), (lname, .own xs)]) body (fun fl st' => (fl = .next ∨ fl = .ret .none) ∧ st'.lookup lname = some (.own xs')))
    (hnl : self ≠ lname) : CallM C (d + 1) (cloM m clos self lname l caps) l xs as xs' := by
  unfold okCloM at hok
  simp only [Bool.and_eq_true, Bool.or_eq_true, decide_eq_true_eq, List.all_eq_true, bne_iff_ne, beq_iff_eq, Bool.not_eq_true', List.contains_iff_mem] at hok
  obtain ⟨⟨⟨⟨⟨⟨⟨⟨⟨h1, h2⟩, h3⟩, h4⟩, h5⟩, h6⟩, h7⟩, h8⟩, h9⟩, h10⟩ := hok
  intro A F s f vs ws n Qr E g p hFl htl hl rl r k
  obtain ⟨⟨doc, pm, cv, ctv, hf⟩, hc, ⟨cS, oS, s1, s2, s3⟩, ⟨cL, oL, t1, t2, t3⟩⟩ := id p
  have hl' : vs.length = ps.length := (ReprL.length r).trans hlen
  obtain ⟨o, e1, e2, c, oc, ws', t, e3, e4, e5, e6⟩ := hf
  have nocell : ∀ x, m.scope.names.lookup x ≠ some .cell := fun x q => h2 (x, .cell) (mem_of_lk q) rfl
  refine wpAny_call (codeAny_call_def (fd := m.fd clos .none doc pm cv ctv) (body := body) (binds := ps.zip vs) g.room (g.sub _ _ e1) e2 g.nolimit ⟨c, oc, ws', t, e3, g.sub _ _ e4, e5, e6⟩ hbody (BindsTo.of_eq (hbind _ _ _ _ vs hl')) h2 (fun x hx => h3 x.1 (List.of_mem_zip (show (x.1, x.2) ∈ ps.zip vs from hx)).1) (fun h₀ hns hk₀ => ?_) h8 h9 h10)
  have he : callEnv (m.fd clos .none doc pm cv ctv) s.heap.objs.size f = envX m.qual m.scope s.heap.objs.size f cv clos := rfl
  rw [he]
  let fi : FI C ⟨m.qual, m.scope⟩ := { A := A.deeper (envX m.qual m.scope s.heap.objs.size f cv clos), L := s.heap.objs.size, f := f, cd := cv, cl := clos, s₀ := s, d := d }
  let pm' : Prot := fun a o => s.heap.get? a = some o ∧ F a = none ∧ ¬ isTab C a ∧ a ≠ l
  have storedL : Stored fi.env h₀ lname (.ref l) := .inr ⟨.inr h7, cL, t1, oL, hk₀ _ _ (g.sub _ _ t2), t3⟩
  have R : Rel fi pm' F (ps.zip (as.map Slot.v) ++ (caps.map fun p => (p.1, Slot.v p.2)) ++ [(self, Slot.v (.obj (cloM m clos self lname l caps))), (lname, .own xs)]) { s with heap := h₀, toks := s.toks + (ps.zip vs).length } := by
    refine ⟨(g.grow hk₀).deeper, ⟨_, _, rfl⟩, fun a o q => ⟨hk₀ _ _ q.1, q.2.1, q.2.2.1⟩, ⟨_, hns⟩, g.fresh (Nat.le_refl _), fun o q => absurd (Heap.lt_size q.1) (Nat.lt_irrefl _), notTab_of_fresh g (Nat.le_refl _),
      fun x c k l => absurd k (nocell x), fun x k => absurd k (nocell x), fun x y c k => absurd k (nocell x), fun x c k lk => ?_, fun x sl e => ?_, fun x y us ys a e1 e2 _ _ => ?_⟩
    · rcases h4 _ (mem_of_lk k) with ((q | q) | q) | q
      · exact absurd rfl q
      · have q : x = self := q
        subst q
        have lk' : clos.lookup x = some c := lk
        rw [s1] at lk'; cases lk'
        exact ⟨oS, _, s2, s3⟩
      · have q : x = lname := q
        subst q
        have lk' : clos.lookup x = some c := lk
        rw [t1] at lk'; cases lk'
        exact ⟨oL, _, t2, t3⟩
      · obtain ⟨p', hp', ep⟩ := List.mem_map.mp q
        have ep : p'.1 = x := ep
        obtain ⟨c', o, v, q1, q2, q3, _⟩ := hc p'.1 p'.2 hp'
        rw [ep] at q1
        have lk' : clos.lookup x = some c := lk
        rw [q1] at lk'; cases lk'
        exact ⟨o, _, q2, q3⟩
    · rw [List.lookup_append, List.lookup_append] at e
      cases e1 : (ps.zip (as.map Slot.v)).lookup x with
      | some sl1 =>
        rw [e1] at e
        cases e
        obtain ⟨av, v, q1, q2, q3⟩ := lookup_zip_reverse h1 r hl'.symm e1
        refine ⟨v, .inl ⟨h3 x (List.of_mem_zip q2).1, _, hns, lookup_of_mem_nodup' ?_ q2⟩, by rw [q1]; exact q3⟩
        rw [List.map_fst_zip (by first | lia | omega)]; exact h1
      | none =>
        rw [e1] at e
        cases e2 : (caps.map fun p => (p.1, Slot.v p.2)).lookup x with
        | some sl2 =>
          rw [e2] at e
          cases e
          obtain ⟨q, hq, eq⟩ := List.mem_map.mp (mem_of_lk e2)
          cases eq
          obtain ⟨c, o, v, q1, q2, q3, q4⟩ := hc _ _ hq
          exact ⟨v, .inr ⟨.inr (h5 _ (List.mem_map_of_mem (f := (·.1)) hq)), c, q1, o, hk₀ _ _ (g.sub _ _ q2), q3⟩, q4⟩
        | none =>
          rw [e2] at e
          simp only [Option.none_or] at e
          have m3 := mem_of_lk e
          simp only [List.mem_cons, List.not_mem_nil, or_false, Prod.mk.injEq] at m3
          rcases m3 with ⟨rfl, rfl⟩ | ⟨rfl, rfl⟩
          · refine ⟨.ref f, .inr ⟨.inr h6, cS, s1, oS, hk₀ _ _ (g.sub _ _ s2), s3⟩, ?_⟩
            show Repr F _ _
            simp only [Repr]; exact ⟨f, rfl, p⟩
          · exact ⟨.ref l, storedL, l, rfl, ws, n, hk₀ _ _ hl, rl, hFl, fun o q => q.2.2.2 rfl, htl, Nat.ne_of_lt (Heap.lt_size hl)⟩
    · have only : ∀ x us, (ps.zip (as.map Slot.v) ++ (caps.map fun p => (p.1, Slot.v p.2)) ++ [(self, Slot.v (.obj (cloM m clos self lname l caps))), (lname, .own xs)]).lookup x = some (.own us) → x = lname := fun x us e => by
        have m3 := mem_of_lk e
        rcases List.mem_append.mp m3 with m3 | m3
        · rcases List.mem_append.mp m3 with m3 | m3
          · have := (List.of_mem_zip m3).2
            obtain ⟨_, _, z⟩ := List.mem_map.mp this
            cases z
          · obtain ⟨_, _, z⟩ := List.mem_map.mp m3
            cases z
        · simp only [List.mem_cons, List.not_mem_nil, or_false, Prod.mk.injEq] at m3
          rcases m3 with ⟨_, z⟩ | ⟨rfl, _⟩
          · cases z
          · rfl
      exact (only x us e1).trans (only y ys e2).symm
  refine h fi rfl rfl pm' F _ _ _ R fun fl st' f' F' s' q u R' r' => ?_
  obtain ⟨hfl, el⟩ := q
  obtain ⟨v, S', l', rfl, ws2, n2, m1, m3, m4, m5, m6, m7⟩ := R'.vars lname _ el
  have hv : f' = .next ∨ f' = .ret .none := by
    rcases hfl with rfl | rfl
    · exact .inl r'
    · obtain ⟨v, rfl, r⟩ := r'
      simp only [Repr] at r
      exact .inr (by rw [r])
  obtain rfl : l' = l := by
    rcases S' with ⟨z, _⟩ | ⟨_, c', z1, o', z2, z3⟩
    · have : m.scope.names.lookup lname = some .local := z
      rw [h7] at this; cases this
    · have z1 : clos.lookup lname = some c' := z1
      rw [t1] at z1; cases z1
      have := R'.g.sub _ _ (u _ _ t2)
      rw [z2] at this; cases this
      rw [t3] at z3; cases z3; rfl
  have fin := k F' s' ws2 n2 u R'.only (fun a o nt ne e => by
    cases hF : F a with
    | none => exact (R'.p a o ⟨e, hF, nt, ne⟩).1
    | some o' =>
      have e1 := g.sub _ _ hF
      rw [e] at e1; cases e1
      exact R'.g.sub _ _ (u _ _ hF)) (fun a o nt e hF => by
    by_cases ne : a = l'
    · subst ne; exact m4
    · exact (R'.p a o ⟨e, hF, nt, ne⟩).2.1) ⟨R'.g.base, R'.g.sub, R'.g.tab, g.hand, g.dep, g.uni⟩ m1 m3
  rcases hv with rfl | rfl
  · exact fin
  · exact fin

section
variable {C : Ctx} {fn : Fn} {fi : FI C fn} {st : ASt}
theorem HX_callM {m : Made} {clos : List (Str × Addr)} {self lname : Str} {l : Addr} {caps : List (Str × AV)} {np pos pos2 : Pos} {es : List Expr} {Q : AFlow → ASt → Prop} (e : st.lookup self = some (.v (.obj (cloM m clos self lname l caps)))) (hcl : fi.cl = clos) (hlk : fn.scope.names.lookup lname = some .free)
    (h : HL fi st es fun as st1 => ∃ xs xs', st1.lookup lname = some (.own xs) ∧ CallM C fi.d (cloM m clos self lname l caps) l xs as xs' ∧ Q .next (set st1 lname (.own xs')))
    (hp : es.all plainE = true := by rfl) (ho : okName self = true := by rfl) (hk : fn.scope.kind = .function := by rfl)
    (hi : interactive fi.env = false := by rfl) (hs : swapsWith (.Call (.Name self np) es [] pos) none pos2.line fi.env = pure false := by rfl) : HX fi st (.Expr (.Call (.Name self np) es [] pos) pos2) Q :=
  fun prot F s Qr E R b => by
    obtain ⟨v, S, r⟩ := R.vars self _ e
    obtain ⟨f, rfl, hP⟩ : ∃ f, v = .ref f ∧ (cloM m clos self lname l caps).p F f := by simpa only [SlotOk, Repr] using r
    refine wpAny_Expr_any (wpAny_Call_ofName (eval_stored hk S ho ?_)) hi hs
    obtain ⟨⟨doc, pm, cv, ctv, hf⟩, _, _, ⟨cL, oL, t1, t2, t3⟩⟩ := id hP
    obtain ⟨o, e1, e2, _⟩ := hf
    refine Calls.callWith_function (o := o) (fd := _) (evalArgs_of hp (h prot F s _ E pos R fun as st2 vs F2 s2 q2 u2 R2 r2 k2 => ⟨⟨R2.g.sub _ _ (u2 _ _ e1), e2⟩, ?_⟩))
    obtain ⟨xs, xs', e3, hm, q⟩ := q2
    obtain ⟨v', S', l', rfl, ws, n, m1, m3, m4, m5, m6, m7⟩ := R2.vars lname _ e3
    obtain rfl : l' = l := by
      rcases S' with ⟨z, _⟩ | ⟨_, c', z1, o', z2, z3⟩
      · have : fn.scope.names.lookup lname = some .local := z
        rw [hlk] at this; cases this
      · have z1 : fi.cl.lookup lname = some c' := z1
        rw [hcl, t1] at z1; cases z1
        have := R2.g.sub _ _ (u2 _ _ t2)
        rw [z2] at this; cases this
        rw [t3] at z3; cases z3; rfl
    show wpAny C.M fi.A (call (.ref f) ([] ++ vs) []) _ E s2
    refine hm fi.A F2 s2 f vs ws n _ E R2.g ((cloM m clos self lname l' caps).mono _ _ _ u2 hP) m4 m6 m1 m3 r2 fun F' s' ws' n' q1 q2 q3 q4 q5 q6 q7 => ?_
    obtain ⟨R3, _⟩ := R2.list e3 S' q1 q2 q3 q4 q5 q6 q7
    exact b .next _ _ F' s' q (u2.trans q1) R3 rfl

theorem HX_callOwnM {m : Made} {clos : List (Str × Addr)} {self lname : Str} {caps : List (Str × AV)} {np pos pos2 : Pos} {es : List Expr} {xs : List AV} {Q : AFlow → ASt → Prop} (e : st.lookup self = some (.v (.obj (fnP m clos .none))))
    (hcaps : ∀ y av, (y, av) ∈ caps → st.lookup y = some (.v av) ∧ fn.scope.names.lookup y = some .cell) (hxc : fn.scope.names.lookup self = some .cell) (hlc : fn.scope.names.lookup lname = some .cell) (hclos : ∀ y c, clos.lookup y = some c → fi.cl.lookup y = some c) (hclos2 : ∀ y av, (y, av) ∈ caps → ∃ c, clos.lookup y = some c)
    (hself : ∃ c, clos.lookup self = some c) (hln : ∃ c, clos.lookup lname = some c)
    (h : HL fi st es fun as st1 => st1 = st ∧ st.lookup lname = some (.own xs) ∧ ∃ xs', (∀ l, CallM C fi.d (cloM m clos self lname l caps) l xs as xs') ∧ (∃ ys : List Int, xs' = ys.map AV.int) ∧ Q .next (set st lname (.own xs')))
    (hp : es.all plainE = true := by rfl) (ho : okName self = true := by rfl) (hk : fn.scope.kind = .function := by rfl)
    (hi : interactive fi.env = false := by rfl) (hs : swapsWith (.Call (.Name self np) es [] pos) none pos2.line fi.env = pure false := by rfl) : HX fi st (.Expr (.Call (.Name self np) es [] pos) pos2) Q :=
  fun prot F s Qr E R b => by
    obtain ⟨v, S, r⟩ := R.vars self _ e
    obtain ⟨f, rfl, doc, pm, cv, ctv, hf⟩ : ∃ f, v = .ref f ∧ (fnP m clos .none).p F f := by simpa only [SlotOk, Repr] using r
    refine wpAny_Expr_any (wpAny_Call_ofName (eval_stored hk S ho ?_)) hi hs
    obtain ⟨o, e1, e2, e3⟩ := id hf
    refine Calls.callWith_function (o := o) (fd := _) (evalArgs_of hp (h prot F s _ E pos R fun as st2 vs F2 s2 q2 u2 R2 r2 k2 => ⟨⟨R2.g.sub _ _ (u2 _ _ e1), e2⟩, ?_⟩))
    obtain ⟨rfl, el, xs', hm, ⟨ys, hys⟩, q⟩ := q2
    obtain ⟨v', S', l, rfl, ws, n, m1, m3, m4, m5, m6, m7⟩ := R2.vars lname _ el
    show wpAny C.M fi.A (call (.ref f) ([] ++ vs) []) _ E s2
    let ok : Addr → Prop := fun a => ∃ y, fi.env.kindOf y = some .cell ∧ clos.lookup y = some a
    classical
    let F3 : FMap := fun a => if ok a then s2.heap.get? a else F2 a
    have hok : ∀ a, ok a → F2 a = none ∧ ¬ isTab C a ∧ ∃ v, s2.heap.IsCell a v := fun a ⟨y, ky, ly⟩ => by
      obtain ⟨h1, _, h3, _, h5⟩ := R2.cells y a ky (hclos y a ly)
      exact ⟨h1, h3, h5⟩
    have u3 : Sub F2 F3 := fun a o q => by
      show (if ok a then s2.heap.get? a else F2 a) = some o
      split
      · exact R2.g.sub _ _ q
      · exact q
    have g3 : GOk C fi.d fi.A F3 s2 := by
      refine ⟨R2.g.base.trans u3, fun a o q => ?_, fun t mt => ?_, R2.g.hand, R2.g.dep, R2.g.uni⟩
      · have q : (if ok a then s2.heap.get? a else F2 a) = some o := q
        split at q
        · exact q
        · exact R2.g.sub _ _ q
      · obtain ⟨h0, ps, f1, f2, f3⟩ := R2.g.tab t mt
        refine ⟨?_, ps, f1, f2, fun x hx => ?_⟩
        · show (if ok t.P then s2.heap.get? t.P else F2 t.P) = none
          rw [if_neg (fun z => (hok _ z).2.1 ⟨t, mt, rfl⟩)]; exact h0
        · rcases f3 x hx with q | ⟨c', o, vs, tk, q1, q2, q3⟩
          · exact .inl q
          · exact .inr ⟨c', o, vs, tk, q1, u3 _ _ q2, q3⟩
    have lok : ¬ ok l := fun z => by
      obtain ⟨_, _, v, hc⟩ := hok l z
      exact list_ne_cell (l := ws) ⟨_, m1, rfl, n, rfl⟩ hc rfl
    have cell_of : ∀ y v, Stored fi.env s2.heap y v → fn.scope.names.lookup y = some .cell → ∀ c, clos.lookup y = some c → ∃ o, F3 c = some o ∧ o.data = .cell (some v) := fun y v S ky c lc => by
      rcases S with ⟨ky', _⟩ | ⟨_, c', l', o, q1, q2⟩
      · have : fn.scope.names.lookup y = some .local := ky'
        rw [ky] at this; cases this
      · have l2 := hclos y c lc
        have l' : fi.cl.lookup y = some c' := l'
        rw [l2] at l'; cases l'
        refine ⟨o, ?_, q2⟩
        show (if ok c then s2.heap.get? c else F2 c) = some o
        rw [if_pos ⟨y, ky, lc⟩]; exact q1
    have hP : (cloM m clos self lname l caps).p F3 f := by
      refine ⟨⟨doc, pm, cv, ctv, hf.mono (u2.trans u3)⟩, fun y av hy => ?_, ?_, ?_⟩
      · obtain ⟨l1, l2⟩ := hcaps y av hy
        obtain ⟨c, lc⟩ := hclos2 y av hy
        obtain ⟨v, S', r'⟩ := R2.vars y _ l1
        obtain ⟨o, z1, z2⟩ := cell_of y v S' l2 c lc
        exact ⟨c, o, v, lc, z1, z2, Repr.mono u3 _ _ r'⟩
      · obtain ⟨c, lc⟩ := hself
        obtain ⟨o, z1, z2⟩ := cell_of self _ (k2 self _ S) hxc c lc
        exact ⟨c, o, lc, z1, z2⟩
      · obtain ⟨c, lc⟩ := hln
        obtain ⟨o, z1, z2⟩ := cell_of lname _ S' hlc c lc
        exact ⟨c, o, lc, z1, z2⟩
    refine hm l fi.A F3 s2 f vs ws n _ E g3 hP (by show (if ok l then _ else F2 l) = none; rw [if_neg lok]; exact m4) m6 m1 (ReprL.mono u3 _ _ m3) (ReprL.mono u3 _ _ r2) fun F4 s4 ws' n' u4 on4 keep4 n4 g4 l4 r4 => ?_
    let cs : List Addr := (clos.map (·.2)).filter fun a => decide (ok a)
    have mem_cs : ∀ a, a ∈ cs ↔ ok a := fun a => by
      simp only [cs, List.mem_filter, decide_eq_true_eq]
      refine ⟨fun z => z.2, fun z => ⟨?_, z⟩⟩
      obtain ⟨y, _, ly⟩ := z
      exact List.mem_map_of_mem (f := (·.2)) (mem_of_lk ly)
    have u24 : Sub F2 (minusF F4 cs) := fun a o q => by
      unfold minusF
      rw [if_neg (fun z => by have := (hok a ((mem_cs a).mp z)).1; rw [q] at this; cases this)]
      exact u4 _ _ (u3 _ _ q)
    have g5 : GOk C fi.d fi.A (minusF F4 cs) s4 := g4.thaw (F := F2) (u3.trans u4) (fun a ha => (hok a ((mem_cs a).mp ha)).1) R2.g.base fun a ha => by
      have oka := (mem_cs a).mp ha
      obtain ⟨_, nt, v, o, z1, z2⟩ := hok a oka
      exact ⟨v, o, keep4 a o nt (fun q => lok (q ▸ oka)) z1, z2⟩
    have intsFlat : ∀ (ys : List Int) (vs : List Value), ReprL F4 (ys.map AV.int) vs → ReprL (minusF F4 cs) (ys.map AV.int) vs := by
      intro ys
      induction ys with
      | nil => intro vs z; simpa only [List.map_nil, ReprL] using z
      | cons y ys ih =>
        intro vs z
        simp only [List.map_cons, ReprL] at z ⊢
        obtain ⟨v, r, rfl, z1, z2⟩ := z
        exact ⟨v, r, rfl, z1.flat rfl, ih _ z2⟩
    obtain ⟨R3, _⟩ := R2.list (xs' := xs') el S' u24 on4 keep4 (fun a o nt z zf => by
      unfold minusF
      split
      · rfl
      · rename_i hn
        refine n4 a o nt z ?_
        show (if ok a then s2.heap.get? a else F2 a) = none
        rw [if_neg (fun w => hn ((mem_cs a).mpr w))]; exact zf) g5 l4 (by rw [hys]; exact intsFlat ys _ (hys ▸ r4))
    exact b .next _ _ _ s4 q (u2.trans u24) R3 rfl
end
end Mine

end

section
open PySem PySem.W PyProof.Rows
set_option maxRecDepth 100000
set_option linter.unusedVariables false
namespace Mine
theorem fold_rep (items : Array Value) : ∀ (m : Nat) (acc : Array Value), (List.foldl (fun x1 x2 => x1 ++ x2) acc (List.replicate m items)).toList = acc.toList ++ (List.replicate m items.toList).flatten
  | 0, acc => by simp
  | m + 1, acc => by
    simp only [List.replicate_succ, List.foldl_cons, fold_rep items m, Array.toList_append, List.flatten_cons, List.append_assoc]
theorem ReprL.rep {F : FMap} {xs : List AV} {vs : List Value} (r : ReprL F xs vs) : ∀ m : Nat, ReprL F (List.replicate m xs).flatten (List.replicate m vs).flatten
  | 0 => by simp [ReprL]
  | m + 1 => by simp only [List.replicate_succ, List.flatten_cons]; exact ReprL.append r (ReprL.rep r m)
theorem mulList {C : Ctx} {A : Around} {E : Value → Shared → Prop} {s : Shared} {l : Addr} {items : Array Value} {k : Nat} {x : Int} {u : Tok} {Q : Value → Shared → Prop} (hl : s.heap.get? l = some (lobj items k))
    (hlo : -(2 ^ 63 : Int) ≤ x) (hhi : x < 2 ^ 63) (hsz : items.size * x.toNat ≤ 2 ^ 24)
    (h : ∀ vs : Array Value, vs.toList = (List.replicate x.toNat items.toList).flatten → Q (.ref s.heap.objs.size) { s with heap := s.heap.push (lobj vs 0) }) : wpAny C.M A (binaryOp .Mult (.ref l) (.int x u)) Q E s := by
  refine wpAny_binaryOp_repeat_ref (T := "list") (U := "int") (by decide) ⟨_, hl, rfl⟩ (fun s' => typeIs_int s' x u) noFill_list_mul PySem.F.fills_int_mul PySem.F.slot_int_rmul repeat_list PySem.F.slot_int_index.lookup
    (call_meets PySem.F.slot_int_rmul (typeIs_int s x u) PySem.F.entry_int_rmul (PySem.F.args_int_rmul_2 _ _) (int___rmul___int_list x u l items k) ⟨hl, rfl, ⟨_, hl, rfl⟩, ?_⟩)
  refine call_meets PySem.F.slot_list_mul ⟨_, hl, rfl⟩ PySem.F.entry_list_mul (PySem.F.args_list_mul_2 _ _)
    (AutoListH.list___mul___list_int_3 l items k x u (by simp [Builtin.List.listFitsIndex]; first | lia | omega) (by first | lia | omega) (by simp [Builtin.List.listTooLong, sizeLine]; first | lia | omega)) ⟨hl, ?_⟩
  refine h _ ?_
  rw [fold_rep]
  split
  · rename_i he
    have : items.toList = [] := by simpa [Array.isEmpty] using he
    simp [this]
  · simp
section
variable {C : Ctx} {fn : Fn} {fi : FI C fn} {st : ASt}
theorem HEo_mul {l r : Expr} {pos : Pos} {Q : List AV → ASt → Prop} (h : HE fi st l fun a st1 => ∃ xs, a = .lst xs ∧ HE fi st1 r fun b st2 => ∃ k : Int, b = .int k ∧ -(2 ^ 63 : Int) ≤ k ∧ k < 2 ^ 63 ∧ xs.length * k.toNat ≤ 2 ^ 24 ∧ Q (List.replicate k.toNat xs).flatten st2) : HEo fi st (.BinOp l .Mult r pos) Q :=
  fun prot F s Qr E R b => wpAny_BinOp (h prot F s _ E R fun a1 st1 v1 F1 s1 q1 u1 R1 r1 k1 => by
    obtain ⟨xs, rfl, h2⟩ := q1
    refine h2 prot F1 s1 _ E R1 fun a2 st2 v2 F2 s2 q2 u2 R2 r2 k2 => ?_
    obtain ⟨k, rfl, hlo, hhi, hsz, q⟩ := q2
    have r1' := Repr.mono u2 _ _ r1
    simp only [Repr] at r1' r2
    obtain ⟨l, vs, n, rfl, e1, rl⟩ := r1'
    obtain ⟨t, rfl⟩ := r2
    have hlen : vs.size = xs.length := by simpa using ReprL.length rl
    refine mulList (R2.g.sub _ _ e1) hlo hhi (by rw [hlen]; exact hsz) fun ws hws => ?_
    obtain ⟨R3, O, ns, k3⟩ := own_new (vs := ws) (n := 0) (tk := s2.toks) (xs := (List.replicate k.toNat xs).flatten) R2 (by rw [hws]; exact ReprL.rep rl _)
    exact b _ st2 _ F2 _ q (u1.trans u2) R3 O ns (k1.trans (k2.trans k3)))
end
theorem op_mul_lst {C : Ctx} {d : Nat} {xs : List AV} {k : Int} {Q : AV → Prop} (hlo : -(2 ^ 63 : Int) ≤ k) (hhi : k < 2 ^ 63) (hsz : xs.length * k.toNat ≤ 2 ^ 24) (q : Q (.lst (List.replicate k.toNat xs).flatten)) : Op2 C d (binaryOp .Mult) (.lst xs) (.int k) Q := by
  intro A F s v u Qr E g r1 r2 b
  simp only [Repr] at r1 r2
  obtain ⟨l, vs, n, rfl, e1, rl⟩ := r1
  obtain ⟨t, rfl⟩ := r2
  have hlen : vs.size = xs.length := by simpa using ReprL.length rl
  refine mulList (g.sub _ _ e1) hlo hhi (by rw [hlen]; exact hsz) fun ws hws => ?_
  exact b.push (tk := s.toks) g q rfl (by
    simp only [Repr]
    exact ⟨_, ws, 0, rfl, put_self, by rw [hws]; exact ReprL.mono (put_sub (g.fresh (Nat.le_refl _))) _ _ (ReprL.rep rl _)⟩)
end Mine

end

section
open PySem PySem.W PyProof.Rows
set_option maxRecDepth 100000
set_option linter.unusedVariables false
namespace Mine
noncomputable def Has (b : ASt) : ASt → Prop
  | [] => True
  | (x, sl) :: r => b.lookup x = some sl ∧ Has b r
theorem Has.weaken {b : ASt} : ∀ {a : ASt}, Has b a → ∀ x sl, a.lookup x = some sl → b.lookup x = some sl
  | [], _, _, _, e => by cases e
  | (y, t) :: r, ⟨h1, h2⟩, x, sl, e => by
    rw [List.lookup_cons] at e
    cases hx : x == y with
    | true => rw [hx] at e; cases e; rw [eq_of_beq hx]; exact h1
    | false => rw [hx] at e; exact Has.weaken h2 x sl e
section
variable {C : Ctx} {fn : Fn} {fi : FI C fn} {st : ASt}
theorem HS.has {st' : ASt} {xs : List Stmt} {Q : AFlow → ASt → Prop} (h : HS fi st' xs Q) (k : Has st st') : HS fi st xs Q := h.weaken k.weaken
theorem HG.has {st' : ASt} {t : Expr} {a : AV} {Q : ASt → Prop} (h : HG fi st' t a Q) (k : Has st st') : HG fi st t a Q :=
  fun prot F s v Qr E R r b => h prot F s v Qr E (R.weaken k.weaken) r b
theorem HT.has {st' : ASt} {e : Expr} {Q : Bool → ASt → Prop} (h : HT fi st' e Q) (k : Has st st') : HT fi st e Q :=
  fun prot F s Qr E R b => h prot F s Qr E (R.weaken k.weaken) b
noncomputable def TurnC (fi : FI C fn) (target : Expr) (body : List Stmt) (canon : Nat → ASt) (Q : AFlow → ASt → Prop) (i : Nat) (x : AV) : Prop :=
  HG fi (canon i) target x fun st2 => HS fi st2 body fun fl st3 => match fl with | .next | .cont => Has st3 (canon (i + 1)) | .brk => Q .next st3 | .ret a => Q (.ret a) st3
theorem HX_forC {target iter : Expr} {body : List Stmt} {pos : Pos} {Q : AFlow → ASt → Prop} (h : HE fi st iter fun a st1 => ∃ xs, IterOk C a xs ∧ ∃ canon : Nat → ASt, Has st1 (canon 0) ∧ (∀ i x, xs[i]? = some x → TurnC fi target body canon Q i x) ∧ ∀ st', Has st' (canon xs.length) → Q .next st')
    (hs : ∀ x, foldedSetIterable iter fi.env x = pure x := by intro _; rfl) : HX fi st (.For target iter body [] pos) Q :=
  HX_for (h.mono fun a st1 ⟨xs, it, canon, h0, turn, fin⟩ => ⟨xs, it, fun i st' => Has st' (canon i), h0, fun i x st' hx hj => (turn i x hx).has hj, fin⟩) hs
theorem HX_whileC {α : Type} {t : Expr} {x y : List Stmt} {pos : Pos} {Q : AFlow → ASt → Prop} (canon : α → ASt) (I : α → Prop) (m : α → Nat) (a₀ : α) (h0 : Has st (canon a₀)) (i0 : I a₀)
    (turn : ∀ a, I a → HT fi (canon a) t fun b st1 => if b then HS fi st1 x (fun fl st2 => match fl with | .next | .cont => ∃ a', I a' ∧ m a' < m a ∧ Has st2 (canon a') | .brk => Q .next st2 | .ret v => Q (.ret v) st2) else HS fi st1 y Q) : HX fi st (.While t x y pos) Q :=
  fun prot F s Qr E R b => by
    refine wpAny_While (codeAny_whileLoop (fun n s' => ∃ F' a, Sub F F' ∧ Rel fi prot F' (canon a) s' ∧ I a ∧ m a = n) ?_ (m a₀) ⟨F, a₀, Sub.refl _, R.weaken h0.weaken, i0, rfl⟩)
    rintro n s1 ⟨F1, a, u1, R1, i1, rfl⟩
    refine turn a i1 prot F1 s1 _ _ R1 fun c st2 F2 s2 q2 u2 R2 k2 => ?_
    cases c <;> simp only [Bool.false_eq_true, if_false, if_true] at q2 ⊢
    · exact q2 prot F2 s2 _ _ R2 fun fl st3 f F3 s3 q3 u3 R3 r3 => b fl st3 f F3 s3 q3 (u1.trans (u2.trans u3)) R3 r3
    · refine q2 prot F2 s2 _ _ R2 fun fl st3 f F3 s3 q3 u3 R3 r3 => ?_
      have u := u1.trans (u2.trans u3)
      cases fl with
      | next => cases r3; obtain ⟨a', i', l', h'⟩ := q3; exact ⟨_, l', F3, a', u, R3.weaken h'.weaken, i', rfl⟩
      | cont => cases r3; obtain ⟨a', i', l', h'⟩ := q3; exact ⟨_, l', F3, a', u, R3.weaken h'.weaken, i', rfl⟩
      | brk => cases r3; exact b .next st3 .next F3 s3 q3 u R3 rfl
      | ret a => obtain ⟨v, rfl, r⟩ := r3; exact b (.ret a) st3 (.ret v) F3 s3 q3 u R3 ⟨v, rfl, r⟩

theorem HX_forRevC {target arg : Expr} {body : List Stmt} {f : Str} {fp cpos pos : Pos} {Q : AFlow → ASt → Prop} (hg : Glob C f (.type "reversed"))
    (h : HE fi st arg fun a st1 => ∃ xs, a = .lst xs ∧ ∃ canon : Nat → ASt, Has st1 (canon 0) ∧ (∀ i x, xs.reverse[i]? = some x → TurnC fi target body canon Q i x) ∧ ∀ st', Has st' (canon xs.length) → Q .next st')
    (hp : plainE arg = true := by rfl) (hx : fn.scope.names.lookup f = some .globalImplicit := by rfl) (ho : okName f = true := by rfl) (hk : fn.scope.kind = .function := by rfl)
    (hs : ∀ x, foldedSetIterable (.Call (.Name f fp) [arg] [] cpos) fi.env x = pure x := by intro _; rfl) : HX fi st (.For target (.Call (.Name f fp) [arg] [] cpos) body [] pos) Q :=
  fun prot F s Qr E R b => by
    refine wpAny_For (wpAny_Call_ofName (HE_glob (Q := fun a st1 => a = .val (.type "reversed") ∧ st1 = st) hg ⟨rfl, rfl⟩ hx ho hk prot F s _ E R ?_)) hs
    rintro a1 st1 v1 F1 s1 ⟨rfl, rfl⟩ u1 R1 r1 k1
    simp only [Repr] at r1
    subst r1
    unfold callWith
    refine wpAny_bind (wpAny_holding (evalArgs_of (by simp [hp]) ?_))
    refine HL_cons (Q := fun as st2 => ∃ a, as = [a] ∧ (∃ xs, a = .lst xs ∧ ∃ canon : Nat → ASt, Has st2 (canon 0) ∧ (∀ i x, xs.reverse[i]? = some x → TurnC fi target body canon Q i x) ∧ ∀ st', Has st' (canon xs.length) → Q .next st')) (h.mono fun a st2 q => HL_nil ⟨a, rfl, q⟩) hp prot F1 s1 _ E cpos R1 ?_
    rintro as st2 vs F2 s2 ⟨a, rfl, xs, rfl, canon, h0, turn, fin⟩ u2 R2 r2 k2
    simp only [ReprL, Repr] at r2
    obtain ⟨_, _, rfl, ⟨l, ws, n, rfl, e1, rl⟩, rfl⟩ := r2
    refine wpAny_bind (wpAny_standAt ?_)
    rw [notStar (by simp [hp]), show keeperOf (.type "reversed") = pure .machine from rfl]
    refine wpAny_bind (wpAny_pure ?_)
    have hlen : ws.size = xs.length := by simpa using ReprL.length rl
    have hl : s2.heap.IsList l ws := ⟨_, R2.g.sub _ _ e1, rfl, n, rfl⟩
    have hne : l ≠ s2.heap.objs.size := Nat.ne_of_lt (Heap.lt_size (R2.g.sub _ _ e1))
    show wpAny C.M fi.A (call (.type "reversed") ([] ++ [.ref l]) [] >>= fun r => holding [r] point >>= fun _ => pure r) _ E s2
    refine wpAny_bind (call_reversed_list hl (wpAny_bind (wpAny_holding (wpAny_point (wpAny_pure ?_)))))
    have hrev : (s2.heap.push (revObj l ((ws.size : Int) - 1))).get? s2.heap.objs.size = some (revObj l ((ws.size : Int) - 1)) := Heap.get?_push_size _ rfl
    have hRI : (s2.heap.push (revObj l ((ws.size : Int) - 1))).IsRevIter s2.heap.objs.size l ((ws.size : Int) - 1) := ⟨_, hrev, rfl, rfl⟩
    refine wpAny_pyIter_revIter hRI ?_
    have none : s2.heap.get? s2.heap.objs.size = none := Heap.get?_none_of_le (Nat.le_refl _)
    have RI : Rel fi (pin prot s2.heap.objs.size (revObj l ((ws.size : Int) - 1))) F2 st2 { s2 with heap := s2.heap.push (revObj l ((ws.size : Int) - 1)) } := R2.pinNew (tk := s2.toks) (Nat.le_refl _) hrev fun a x e => Heap.get?_push_of_some _ e
    have W₀ := Walks.listRev (prog := C.prog) (w := C.w) R2.g.hand s2.heap.objs.size l hne ws
    have hxl : xs.reverse.length = ws.size := by rw [List.length_reverse, hlen]
    have W : Walks C.prog C.w fi.A s2.heap.objs.size [s2.heap.objs.size, l] [s2.heap.objs.size] xs.reverse.length (fun i v => ws[ws.size - 1 - i]? = some v ∧ i < ws.size) (fun i h => i ≤ ws.size ∧ h.IsRevIter s2.heap.objs.size l ((ws.size : Int) - 1 - (i : Int)) ∧ h.IsList l ws) := by
      rw [hxl]
      exact ⟨W₀.sub, W₀.frame, fun i s Q E hi z hQ => W₀.item i s Q E hi z fun v h' tk p z' kk => hQ v h' tk ⟨p, hi⟩ z' kk, W₀.done, W₀.self⟩
    refine for_walk W RI (fun x q => by have := (R2.p _ x q).1; rw [none] at this; cases this) ⟨Nat.zero_le _, by simpa using hRI, hl.push _⟩ (fun i h z => ?_) (fun c hc => ?_) (fun i v hv => ?_)
      (fun i st' => Has st' (canon i)) h0 (fun i x st' hx hj => (turn i x hx).has hj) (fun st' hj => fin st' (by rw [hxl, hlen] at hj; exact hj)) fun fl st3 f F3 s3 q3 u3 R3 r3 => b fl st3 f F3 s3 q3 (u1.trans (u2.trans u3)) R3 r3
    · obtain ⟨_, ⟨o, e, c, d⟩, _⟩ := z
      exact ⟨o, e, by unfold plainIter; rw [c, d]; rfl⟩
    · simp only [List.mem_cons, List.not_mem_nil, or_false] at hc
      rcases hc with rfl | rfl
      · exact .inl rfl
      · exact .inr ⟨_, e1⟩
    · obtain ⟨hv, hi⟩ := hv
      have hvl : ws.toList[ws.size - 1 - i]? = some v := by simpa using hv
      have hj : ws.size - 1 - i < xs.length := by first | lia | omega
      obtain ⟨y, hy, ry⟩ := ReprL.get rl (show xs[ws.size - 1 - i]? = some xs[ws.size - 1 - i] by simp [hj])
      rw [hvl] at hy; cases hy
      refine ⟨_, ?_, ry⟩
      rw [List.getElem?_reverse (by first | lia | omega), ← hlen]
      simp [hj]
end
end Mine

end

section
open PySem PySem.W PyProof.Rows
open Builtin Builtin.ObjectAttr
set_option maxRecDepth 100000
set_option linter.unusedVariables false
namespace Mine
theorem mro_fn : mroOf (.type "function") = pure [.type "function", .type "object"] := by kernel_rfl
theorem lk_fn_sa : typeLookup (.type "function") "__setattr__" = pure (some (.builtin "object.__setattr__")) := by rw [typeLookup_type, builtinLookup_eq_fast]; kernel_rfl
theorem lk_fn_ga : typeLookup (.type "function") "__getattribute__" = pure (some (.builtin "object.__getattribute__")) := by rw [typeLookup_type, builtinLookup_eq_fast]; kernel_rfl
theorem lk_fn_gh : typeLookup (.type "function") "__getattr__" = pure none := by rw [typeLookup_type, builtinLookup_eq_fast]; kernel_rfl
theorem lk_fn_span : typeLookup (.type "function") "span" = pure none := by rw [typeLookup_type, builtinLookup_eq_fast]; kernel_rfl
theorem lk_fn_search : typeLookup (.type "function") "search" = pure none := by rw [typeLookup_type, builtinLookup_eq_fast]; kernel_rfl
theorem lk_fn_bool : typeLookup (.type "function") "__bool__" = pure none := by rw [typeLookup_type, builtinLookup_eq_fast]; kernel_rfl
theorem lk_fn_len : typeLookup (.type "function") "__len__" = pure none := by rw [typeLookup_type, builtinLookup_eq_fast]; kernel_rfl
theorem slot_fn_sa : PySem.Slot "function" "__setattr__" "object.__setattr__" :=
  .of (owner := "object") (n := "__setattr__") lk_fn_sa (by decide +kernel) (by decide +kernel) (by decide +kernel)
    (by first | exact .inl (by decide +kernel) | exact .inr (by decide +kernel)) (by rw [isSubtype_type]; kernel_rfl)
theorem entry_sa : entryFor table "object.__setattr__" = some Builtin.«object.__setattr__» := entryFor_of_tree (by kernel_rfl)
theorem args_sa (a b c : Value) : argsOk "object.__setattr__" ⟨[a, b, c], []⟩ := by unfold argsOk; kernel_rfl
theorem slot_fn_ga : PySem.Slot "function" "__getattribute__" "object.__getattribute__" :=
  .of (owner := "object") (n := "__getattribute__") lk_fn_ga (by decide +kernel) (by decide +kernel) (by decide +kernel)
    (by first | exact .inl (by decide +kernel) | exact .inr (by decide +kernel)) (by rw [isSubtype_type]; kernel_rfl)
theorem entry_ga : entryFor table "object.__getattribute__" = some Builtin.«object.__getattribute__» := entryFor_of_tree (by kernel_rfl)
theorem args_ga (a b : Value) : argsOk "object.__getattribute__" ⟨[a, b], []⟩ := by unfold argsOk; kernel_rfl
theorem passes_fn (self : Value) : refuseLoop self "__setattr__" [.type "function", .type "object"] = pure () := by kernel_rfl

section
variable {prog : Program} {w : World} {A : Around} {E : Value → Shared → Prop} {h : Heap} {g : Array GenState} {d : Drawn} {t : Nat} {os : OsState}
theorem fn_store_entry {f : Addr} {o : Obj} {name : Str} {v : Value} {tk : Tok} {Q : Fin → Shared → Prop} (hx : h.get? f = some o) (hc : o.cls = .type "function") (hdn : o.dict = none) (hnc : ∀ c, o.data ≠ .cls c)
    (hB : typeLookup (.type "function") name = pure none)
    (hq : ∀ h' tk', h'.get? f = some { o with dict := some h.objs.size } → h'.Ns h.objs.size (fun y => if y = name then some v else none) →
      (∀ b x, b ≠ f → h.get? b = some x → h'.get? b = some x) → Q (.done (.ret .none)) ⟨h', g, d, tk', os⟩) :
    wpAny (model prog w) A (Builtin.«object.__setattr__» ⟨[.ref f, .str name tk, v], []⟩) Q E ⟨h, g, d, t, os⟩ := by
  have hpass := passes_fn (.ref f)
  have hmro := mro_fn
  unfold Builtin.«object.__setattr__»
  repeat (first | rw [refuse_eq] | (rw [hpass]) | (with_reducible refine wpAny_loadPart_at hx ?_; rw [hc]) | (with_reducible refine wpAny_of_eq hmro ?_) | (with_reducible refine wpAny_of_eq hB ?_) | wp_step)
  rw [hdn, if_neg (by rw [show typeHasDict (.type "function") = true by decide +kernel]; decide)]
  split
  · rename_i hcd
    cases hcd
  split
  · rename_i c hcd
    exact absurd hcd (hnc c)
  · have hx₁ : (h.push { cls := .type "dict", data := .dict #[] }).get? f = some o := Heap.get?_push_of_some _ hx
    have hxs : f ≠ h.objs.size := Nat.ne_of_lt (Heap.lt_size hx)
    refine wpAny_bind (wpAny_alloc' ?_)
    refine wpAny_bind (wpAny_update' hx₁ ?_)
    refine wpAny_pure ?_
    have hgd : ((h.push { cls := .type "dict", data := .dict #[] }).update f fun o => { cls := o.cls, dict := some h.objs.size, data := o.data, slots := o.slots }).get? h.objs.size
        = some { cls := .type "dict", data := .dict #[] } :=
      (Heap.get?_update_ne _ _ _ _ hxs.symm).trans (Heap.get?_push_at rfl rfl)
    have hnd : ((h.push { cls := .type "dict", data := .dict #[] }).update f fun o => { cls := o.cls, dict := some h.objs.size, data := o.data, slots := o.slots }).Ns h.objs.size (fun _ => none) :=
      ⟨_, #[], _, hgd, rfl, fun e he => absurd he (by simp), fun _ => rfl⟩
    show wpAny _ _ (storeInDict h.objs.size (.str name tk) name v) _ _ _
    unfold storeInDict newKeyGuard
    refine wpAny_bind (wpAny_pure (wpAny_bind (wpAny_nsSet1 (Heap.Ns1.of_empty hnd) fun h' hn' hs => ?_)))
    obtain ⟨oD, esD, epD, hoD, hdD, hcD⟩ := hn'.count (Within.cons name v Within.nil)
    refine wpAny_bind (wpAny_lookBehind hoD (by rw [hdD]; exact pastItsLine_dict (Nat.le_trans hcD (by rw [List.length_cons, List.length_nil, sizeLine_eq]; first | lia | omega))) ?_)
    wp_walk
    refine hq h' _ ?_ hn'.ns (fun b ob hbx hb => ?_)
    · refine (hs.2 f hxs).trans (Heap.get?_update_self _ hx₁ ?_)
      have hfr := (Heap.get?_some_iff.mp hx).2
      obtain ⟨oc, od, odt, osl⟩ := o
      cases odt <;> first | rfl | exact hfr
    · exact (hs.2 b (Nat.ne_of_lt (Heap.lt_size hb))).trans ((Heap.get?_update_ne _ _ _ _ hbx).trans (Heap.get?_push_of_some _ hb))
theorem fn_store {f : Addr} {o : Obj} {name : Str} {v : Value} {Q : Unit → Shared → Prop} (hx : h.get? f = some o) (hc : o.cls = .type "function") (hdn : o.dict = none) (hnc : ∀ c, o.data ≠ .cls c)
    (hB : typeLookup (.type "function") name = pure none)
    (hq : ∀ h' tk', h'.get? f = some { o with dict := some h.objs.size } → h'.Ns h.objs.size (fun y => if y = name then some v else none) →
      (∀ b x, b ≠ f → h.get? b = some x → h'.get? b = some x) → Q () ⟨h', g, d, tk', os⟩) :
    wpAny (model prog w) A (setAttr (.ref f) name v) Q E ⟨h, g, d, t, os⟩ := by
  have f3 := slot_fn_sa.bind (.ref f)
  have f4 := lk_fn_sa
  unfold setAttr callSpecial? specialOf
  repeat (any_goals (first | assumption | (with_reducible refine wpAny_loadPart_at hx ?_; rw [hc]) | (with_reducible refine wpAny_of_eq f4 ?_) | wp_step))
  refine codeAny_call_builtin slot_fn_sa.plain entry_sa (slot_fn_sa.check _ _ _ _ _ _ _ _ (show (⟨h, g, d, _, os⟩ : Shared).TypeIs (.ref f) "function" from ⟨_, hx, hc⟩) (args_sa _ _ _) (fn_store_entry hx hc hdn hnc hB fun h' tk' q1 q2 q3 => ?_))
  repeat (any_goals (first | assumption | wp_step))
  exact hq h' tk' q1 q2 q3

theorem fn_get_entry {f dx : Addr} {o : Obj} {name : Str} {v : Value} {tk : Tok} {m : Str → Option Value} {Q : Fin → Shared → Prop} (hx : h.get? f = some o) (hc : o.cls = .type "function") (hdx : o.dict = some dx) (hnc : ∀ c, o.data ≠ .cls c) (hns : h.Ns dx m) (hm : m name = some v)
    (hB : typeLookup (.type "function") name = pure none) (hq : Q (.done (.ret v)) ⟨h, g, d, t, os⟩) :
    wpAny (model prog w) A (Builtin.«object.__getattribute__» ⟨[.ref f, .str name tk], []⟩) Q E ⟨h, g, d, t, os⟩ := by
  unfold Builtin.«object.__getattribute__»
  repeat (first | (with_reducible refine wpAny_loadPart_at hx ?_; rw [hc]) | (with_reducible refine wpAny_of_eq hB ?_) | wp_step)
  split
  · rename_i c hcd
    exact absurd hcd (hnc c)
  unfold instanceDict
  repeat (first | (with_reducible refine wpAny_loadPart_at hx ?_; rw [hc]) | wp_step)
  rw [hdx]
  refine wpAny_pure ?_
  show wpAny _ _ (nsGet dx name) _ _ _
  refine wpAny_nsGet hns ?_
  rw [hm]
  wp_walk
  exact hq
theorem fn_get {f dx : Addr} {o : Obj} {name : Str} {v : Value} {b : Bool} {m : Str → Option Value} {Q : Value → Shared → Prop} (hx : h.get? f = some o) (hc : o.cls = .type "function") (hdx : o.dict = some dx) (hnc : ∀ c, o.data ≠ .cls c) (hns : h.Ns dx m) (hm : m name = some v)
    (hB : typeLookup (.type "function") name = pure none) (hv : handedOut v = pure v) (hq : ∀ tk, Q v ⟨h, g, d, tk, os⟩) :
    wpAny (model prog w) A (getAttr (.ref f) name b) Q E ⟨h, g, d, t, os⟩ := by
  have f3 := slot_fn_ga.bind (.ref f)
  have f4 := lk_fn_ga
  unfold getAttr getAttrBy
  repeat (any_goals (first | assumption | (with_reducible refine wpAny_loadPart_at hx ?_; rw [hc]) | (with_reducible refine wpAny_of_eq f4 ?_) | wp_step))
  rw [show onTheHeap (.builtin "object.__getattribute__") = false from rfl, Bool.and_false, if_neg (by decide)]
  unfold boundAndCalled
  refine wpAny_bind (wpAny_of_eq f3 (wpAny_call ?_))
  refine codeAny_call_builtin slot_fn_ga.plain entry_ga (slot_fn_ga.check _ _ _ _ _ _ _ _ (show (⟨h, g, d, _, os⟩ : Shared).TypeIs (.ref f) "function" from ⟨_, hx, hc⟩) (args_ga _ _) (fn_get_entry hx hc hdx hnc hns hm hB ?_))
  show wpAny _ _ (handedOut v) _ _ _
  rw [hv]
  exact wpAny_pure (hq _)
theorem fn_method {f dx : Addr} {o : Obj} {name : Str} {v : Value} {b : Sem Bool} {m : Str → Option Value} {Q : Value × List Value → Shared → Prop} (hx : h.get? f = some o) (hc : o.cls = .type "function") (hdx : o.dict = some dx) (hnc : ∀ c, o.data ≠ .cls c) (hns : h.Ns dx m) (hm : m name = some v)
    (hB : typeLookup (.type "function") name = pure none) (hv : handedOut v = pure v) (hq : ∀ tk, Q (v, []) ⟨h, g, d, tk, os⟩) :
    wpAny (model prog w) A (getMethod (.ref f) name b) Q E ⟨h, g, d, t, os⟩ := by
  have f4 := lk_fn_ga
  have f5 := lk_fn_gh
  have hcan : (Manifest.canonical "object.__getattribute__" != "object.__getattribute__") = false := by decide +kernel
  unfold getMethod specialOf
  repeat (first | (with_reducible refine wpAny_loadPart_at hx ?_; rw [hc]) | (with_reducible refine wpAny_of_eq f4 ?_) | (with_reducible refine wpAny_of_eq f5 ?_) | (with_reducible refine wpAny_of_eq hB ?_) | simp only [hcan, Bool.false_eq_true, if_false] | (with_reducible refine fn_get hx hc hdx hnc hns hm hB hv fun _ => ?_) | wp_step)
  exact hq _
theorem fn_truthy {f : Addr} {o : Obj} {Q : Bool → Shared → Prop} (hx : h.get? f = some o) (hc : o.cls = .type "function") (hq : Q true ⟨h, g, d, t, os⟩) :
    wpAny (model prog w) A (truthy (.ref f)) Q E ⟨h, g, d, t, os⟩ := by
  have f4 := lk_fn_bool
  have f5 := lk_fn_len
  unfold truthy callSpecial? specialOf
  repeat (first | (with_reducible refine wpAny_loadPart_at hx ?_; rw [hc]) | (with_reducible refine wpAny_of_eq f4 ?_) | (with_reducible refine wpAny_of_eq f5 ?_) | wp_step)
  exact hq
end
end Mine

end

section
open PySem PySem.W PyProof.Rows
set_option maxRecDepth 100000
set_option linter.unusedVariables false
namespace Mine

section
variable {C : Ctx} {fn : Fn} {fi : FI C fn} {prot prot' : Prot} {F F' : FMap} {st st' : ASt} {s s' : Shared}
theorem Rel.step2 (R : Rel fi prot F st s) (sub : Sub F F') (only : ∃ h tk, s' = { s with heap := h, toks := tk })
    (keep : ∀ a o, ¬ isTab C a → (∀ o', ¬ prot a o') → s.heap.get? a = some o → s'.heap.get? a = some o)
    (new : ∀ a o, ¬ isTab C a → (∀ o', ¬ prot a o') → s.heap.get? a = some o → F a = none → F' a = none) (g : GOk C fi.d fi.A F' s')
    (p : ∀ a o, prot' a o → s'.heap.get? a = some o ∧ F' a = none ∧ ¬ isTab C a) (dis : ∀ a o, prot' a o → (∃ o', prot a o') ∨ s.heap.get? a = none) : Rel fi prot' F' st s' := by
  have notp : ∀ a o, s.heap.get? a = some o → (∀ o', ¬ prot a o') → ∀ o', ¬ prot' a o' := fun a o e n o' q => by
    rcases dis a o' q with ⟨o2, q2⟩ | q2
    · exact n _ q2
    · rw [e] at q2; cases q2
  have stored : ∀ x v, Stored fi.env s.heap x v → Stored fi.env s'.heap x v := fun x v S => by
    rcases S with ⟨e, m, n, q⟩ | ⟨e, c, n, o, q1, q2⟩
    · obtain ⟨o, es, ep, e1, r⟩ := id n
      exact .inl ⟨e, m, ⟨o, es, ep, keep _ _ R.Lt R.Lp e1, r⟩, q⟩
    · refine .inr ⟨e, c, n, o, ?_, q2⟩
      have nt := notTab_of_cell R.g (a := c) ⟨o, q1, q2⟩
      rcases e with e | e
      · exact keep _ _ nt (R.cells x c e n).2.1 q1
      · obtain ⟨o', v', hF, _⟩ := R.free x c e n
        have e1 := R.g.sub _ _ hF
        rw [q1] at e1; cases e1
        exact g.sub _ _ (sub _ _ hF)
  obtain ⟨m, o, es, ep, e1, r⟩ := R.ns
  refine ⟨g, ?_, p, ⟨m, o, es, ep, keep _ _ R.Lt R.Lp e1, r⟩, new _ _ R.Lt R.Lp e1 R.Lf, notp _ _ e1 R.Lp, R.Lt, fun x c k l => ?_, R.cov, R.cellsep, fun x c k l => ?_, fun x sl e => ?_, fun x y xs ys a e1 e2 S T => ?_⟩
  · obtain ⟨h, tk, e⟩ := R.only
    obtain ⟨h', tk', e'⟩ := only
    exact ⟨h', tk', by rw [e', e]⟩
  · obtain ⟨h1, h2, h3, h4, v, o, q1, q2⟩ := R.cells x c k l
    exact ⟨new _ _ h3 h2 q1 h1, notp _ _ q1 h2, h3, h4, v, o, keep _ _ h3 h2 q1, q2⟩
  · obtain ⟨o, v, q1, q2⟩ := R.free x c k l
    exact ⟨o, v, sub _ _ q1, q2⟩
  · obtain ⟨v, S, O⟩ := R.vars x sl e
    refine ⟨v, stored x v S, ?_⟩
    cases sl with
    | v av => exact Repr.mono sub _ _ O
    | own xs =>
      obtain ⟨a, rfl, vs, n, l1, l3, l4, l5, l6, l7⟩ := O
      exact ⟨a, rfl, vs, n, keep _ _ l6 l5 l1, ReprL.mono sub _ _ l3, new _ _ l6 l5 l1 l4, notp _ _ l1 l5, l6, l7⟩
  · obtain ⟨v, S', _⟩ := R.vars x _ e1
    obtain ⟨u, T', _⟩ := R.vars y _ e2
    have q1 := (stored _ _ S').fun S
    have q2 := (stored _ _ T').fun T
    subst q1; subst q2
    exact R.sep x y xs ys a e1 e2 S' T'


theorem Rel.addV {x : Str} {av : AV} {v : Value} (R : Rel fi prot F st s) (S : Stored fi.env s.heap x v) (r : Repr F av v) : Rel fi prot F (set st x (.v av)) s :=
  ⟨R.g, R.only, R.p, R.ns, R.Lf, R.Lp, R.Lt, R.cells, R.cov, R.cellsep, R.free, fun y sl e => by
    rw [lookup_set] at e
    by_cases hy : y = x
    · rw [if_pos hy] at e; cases e; subst hy; exact ⟨v, S, r⟩
    · rw [if_neg hy] at e; exact R.vars y sl e, sep_of R (fun _ q => nomatch q) fun _ _ _ S => S⟩

noncomputable def attrQ (name : Str) (F : FMap) (f : Addr) (p : Addr → Prop) : Prop :=
  ∃ o dx od fd m g, F f = some o ∧ o.cls = .type "function" ∧ o.dict = some dx ∧ o.data = .func fd ∧ F dx = some od ∧ (∀ h : Heap, h.get? dx = some od → h.Ns dx m) ∧ m name = some (.ref g) ∧ p g
theorem attrQ_imp {name : Str} {F F' : FMap} {f : Addr} {p q : Addr → Prop} (h : Sub F F') (k : ∀ g, p g → q g) (x : attrQ name F f p) : attrQ name F' f q := by
  obtain ⟨o, dx, od, fd, m, g, e1, e2, e3, e4, e5, e6, e7, e8⟩ := x
  exact ⟨o, dx, od, fd, m, g, h _ _ e1, e2, e3, e4, h _ _ e5, e6, e7, k _ e8⟩
noncomputable def attrP (name : Str) (P : MP) : MP where
  p := fun F f => attrQ name F f (P.p F)
  mono := fun F G a h x => attrQ_imp h (fun g => P.mono _ _ g h) x
theorem attrP_imp {name : Str} {P Q : MP} {f : Addr} (h : Sub F F') (k : ∀ g, P.p F g → Q.p F' g) (x : (attrP name P).p F f) : (attrP name Q).p F' f :=
  attrQ_imp h k x
theorem attrP_fn {name : Str} {P : MP} : ∀ F a, (attrP name P).p F a → ∃ o fd, F a = some o ∧ o.data = .func fd := by
  intro F a x
  obtain ⟨o, dx, od, fd, m, g, e1, e2, e3, e4, _⟩ := x
  exact ⟨o, fd, e1, e4⟩
noncomputable def fnD (m : Made) (clos : List (Str × Addr)) (dvs : List AV) : MP where
  p := fun F f => ∃ dV, (∃ doc pm cv ctv, IsFn F f (m.fd clos dV doc pm cv ctv)) ∧ (dvs = [] → dV = .none) ∧ ((dV = .none ∧ dvs = []) ∨ Repr F (.tup dvs) dV)
  mono := by
    rintro F G a h ⟨dV, ⟨doc, pm, cv, ctv, x⟩, n, y⟩
    exact ⟨dV, ⟨doc, pm, cv, ctv, x.mono h⟩, n, y.imp id (Repr.mono h _ _)⟩
noncomputable def cloE (m : Made) (dvs : List AV) (caps : List (Str × AV)) : MP where
  p := fun F f => ∃ (clos : List (Str × Addr)) (dV : Value), clos.lookup (Str.ofString "") = none ∧ (dvs = [] → dV = .none) ∧ (cloP m clos dV dvs (Str.ofString "") caps).p F f
  mono := by
    rintro F G a h ⟨clos, dV, e, e2, x⟩
    exact ⟨clos, dV, e, e2, (cloP m clos dV dvs (Str.ofString "") caps).mono _ _ _ h x⟩
theorem cloE_fn {m : Made} {dvs : List AV} {caps : List (Str × AV)} : ∀ F a, (cloE m dvs caps).p F a → ∃ o fd, F a = some o ∧ o.data = .func fd := by
  intro F a h
  obtain ⟨_, _, _, _, x⟩ := h
  exact cloP_fn _ _ x

theorem HE_lam {t : Tab} {params : Arguments} {body : Expr} {scope : Scope} {pos : Pos} {clos : List (Str × Addr)} {Q : AV → ASt → Prop} (ht : t ∈ C.tabs) (hcd : fi.cd = .ref t.c) (he : (pos, fi.env.qual ++ "<lambda>") ∈ t.ents)
    (hcl : closureFor scope fi.env = pure clos) (q : Q (.obj (fnD ⟨"<lambda>", fi.env.qual ++ "<lambda>", params, .expr body, scope⟩ clos [])) st) (hd0 : defaultsOf params fi.env = ([], []) := by rfl) : HE fi st (.Lambda params body scope pos) Q :=
  fun prot F s Qr E R b => by
    refine kla_eval hd0 ?_
    rw [makeFunction_eq]
    simp only [List.zip_nil_right, List.filterMap_nil, List.isEmpty_nil, if_true, pure_bind]
    refine mkTail_ok R.g ht rfl hcd he hcl fun f c' oc vs tk ctv doc F' s' u n x g n1 n2 n3 e1 e2 e3 e4 => ?_
    have g2 := g.freeze e1 n2 n3
    have G : Grow C F s (put F' f { cls := .type "function", data := .func (kdv_fn "<lambda>" (fi.env.qual ++ "<lambda>") params (.expr body) scope clos .none doc ((C.mg "__name__").getD .none) (.ref c') ctv) }) s' := ⟨u.trans (put_sub n2), x, fun a o nt e q => by
      unfold put; rw [if_neg (fun z => by rw [z, n1] at e; cases e)]; exact n a o nt e q⟩
    refine b _ st _ _ s' q G.sub (R.pure G g2) ?_ (R.keepV G)
    simp only [Repr]
    exact ⟨f, rfl, .none, ⟨doc, _, .ref c', ctv, _, put_self, rfl, c', oc, vs, tk, rfl, put_sub n2 _ _ e2, e3, e4⟩, fun _ => rfl, .inl ⟨rfl, rfl⟩⟩

theorem HX_defD {t : Tab} {name : Str} {params : Arguments} {body : List Stmt} {scope : Scope} {pos dp : Pos} {dk : Nat} {i : Int} {clos : List (Str × Addr)} {Q : AFlow → ASt → Prop} (ht : t ∈ C.tabs) (hcd : fi.cd = .ref t.c) (he : (pos, qualnameIn fi.env name name) ∈ t.ents)
    (hcl : closureFor scope fi.env = pure clos) (q : Q .next (set st name (.v (.obj (fnD ⟨name, qualnameIn fi.env name name, params, .stmts body, scope⟩ clos [.int i])))))
    (hd0 : params.defaults = [.Constant (.int i) dk dp] := by rfl) (hk0 : params.kw_defaults = [] := by rfl) (ha : annTrees params none fi.env = [] := by rfl) (hx : storable fn.scope name = true := by rfl) (hk : fn.scope.kind = .function := by rfl) :
    HX fi st (.FunctionDef name params body [] none [] scope none name pos) Q :=
  fun prot F s Qr E R b => by
    refine kdv_def (by rw [hd0]; rfl) hk0 ha ?_
    rw [hd0]
    refine kdv_all1 (wpAny_Constant_int (kdv_all0 ?_))
    rw [makeFunction_eq]
    simp only [List.zip_nil_right, List.filterMap_nil, List.isEmpty_nil, if_true, pure_bind, List.isEmpty_cons, Bool.false_eq_true, if_false]
    refine wpAny_bind (wpAny_newTextTuple ?_)
    have gp := R.g.push (o := { cls := .type "tuple", data := .seq [Value.int i s.toks].toArray }) (tk := s.toks + 1) rfl
    have G0 : Grow C F s (put F s.heap.objs.size { cls := .type "tuple", data := .seq [Value.int i s.toks].toArray }) { s with heap := s.heap.push { cls := .type "tuple", data := .seq [Value.int i s.toks].toArray }, toks := s.toks + 1 } :=
      ⟨put_sub (R.g.fresh (Nat.le_refl _)), Ext.push, New.put (Nat.le_refl _)⟩
    have R0 := R.pure G0 gp
    refine mkTail_ok R0.g ht rfl hcd he hcl fun f c' oc vs tk ctv doc F' s' u n x g n1 n2 n3 e1 e2 e3 e4 => ?_
    have g2 := g.freeze e1 n2 n3
    have G : Grow C _ _ (put F' f { cls := .type "function", data := .func (kdv_fn name (qualnameIn fi.env name name) params (.stmts body) scope clos (.ref s.heap.objs.size) doc ((C.mg "__name__").getD .none) (.ref c') ctv) }) s' := ⟨u.trans (put_sub n2), x, fun a o nt e q => by
      unfold put; rw [if_neg (fun z => by rw [z, n1] at e; cases e)]; exact n a o nt e q⟩
    refine store_ok (R0.pure G g2) (av := .obj (fnD ⟨name, qualnameIn fi.env name name, params, .stmts body, scope⟩ clos [.int i])) ?_ hx hk fun s'' R' => b .next _ _ _ s'' q (G0.sub.trans G.sub) R' rfl
    simp only [Repr]
    refine ⟨f, rfl, _, ⟨doc, _, .ref c', ctv, _, put_self, rfl, c', oc, vs, tk, rfl, put_sub n2 _ _ e2, e3, e4⟩, (by intro q; cases q), .inr ?_⟩
    refine ⟨_, #[.int i s.toks], 0, rfl, G.sub _ _ put_self, ?_⟩
    exact ReprL.one rInt

theorem HS_attr {t : Tab} {x name : Str} {p1 p2 p3 pos1 pos2 lpos : Pos} {params : Arguments} {body e2 : Expr} {scope : Scope} {clos : List (Str × Addr)} {rest : List Stmt} {Q : AFlow → ASt → Prop} (ht : t ∈ C.tabs) (hcd : fi.cd = .ref t.c)
    (he : (lpos, fi.env.qual ++ "<lambda>") ∈ t.ents) (hcl : closureFor scope fi.env = pure clos) (hx0 : st.lookup x = none) (hB : typeLookup (.type "function") name = pure none)
    (h : HE fi st e2 fun a st2 => st2 = st ∧ ∃ P, a = .obj P ∧ HS fi (set st x (.v (.obj (attrP name P)))) rest Q)
    (hx : storable fn.scope x = true := by rfl) (hk : fn.scope.kind = .function := by rfl) (ho : okName x = true := by rfl) (hd0 : defaultsOf params fi.env = ([], []) := by rfl)
    (hs1 : swapsWith (.Lambda params body scope lpos) (some (.Name x p1)) pos1.line fi.env = pure false := by rfl) (hs2 : swapsWith e2 (some (.Attribute (.Name x p2) name p3)) pos2.line fi.env = pure false := by rfl) :
    HS fi st (.Assign [.Name x p1] (.Lambda params body scope lpos) pos1 :: .Assign [.Attribute (.Name x p2) name p3] e2 pos2 :: rest) Q :=
  fun prot F s Qr E R b => by
    refine wpAny_execs_cons (wpAny_Assign_Name (kla_eval hd0 ?_) hs1)
    rw [makeFunction_eq]
    simp only [List.zip_nil_right, List.filterMap_nil, List.isEmpty_nil, if_true, pure_bind]
    refine mkTail_ok R.g ht rfl hcd he hcl fun f c' oc vs tk ctv doc F' s' u n xx g n1 n2 n3 e1 e2 e3 e4 => ?_
    obtain ⟨ob, hob⟩ : ∃ ob : Obj, ob = { cls := .type "function", data := .func (kdv_fn "<lambda>" (fi.env.qual ++ "<lambda>") params (.expr body) scope clos .none doc ((C.mg "__name__").getD .none) (.ref c') ctv) } := ⟨_, rfl⟩
    rw [← hob] at e1
    have fnp : ∀ o, ¬ prot f o := fun o q => by have := (R.p f o q).1; rw [n1] at this; cases this
    have R1 : Rel fi (pin prot f ob) F' st s' := R.step2 u xx.eq (fun a o nt _ e => xx.keep a o nt (fun q => nomatch q) e) (fun a o nt _ e q => n a o nt e q) g (fun a o q => by
        rcases q with q | ⟨rfl, rfl⟩
        · obtain ⟨z1, z2, z3⟩ := R.p a o q
          exact ⟨xx.keep a o z3 (fun q => nomatch q) z1, n a o z3 z1 z2, z3⟩
        · exact ⟨e1, n2, n3⟩) (fun a o q => by
        rcases q with q | ⟨rfl, rfl⟩
        · exact .inl ⟨o, q⟩
        · exact .inr n1)
    refine store_ok R1 (av := .val (.ref f)) rVal hx hk fun s1 R2 => ?_
    obtain ⟨vx, Sx, rx⟩ := R2.vars x (.v (.val (.ref f))) (by rw [lookup_set, if_pos rfl])
    have rx : vx = .ref f := by simpa only [SlotOk, Repr] using rx
    subst rx
    have R3 : Rel fi (pin prot f ob) F' st s1 := R2.weaken fun y sl e => by
      rw [lookup_set, if_neg (fun q => by rw [q, hx0] at e; cases e)]; exact e
    refine wpAny_execs_cons (plainObj_wpAny_Assign_Attribute (h _ F' s1 _ E R3 ?_) hs2)
    rintro a2 st2 v2 F2 s2 ⟨rfl, P, rfl, hrest⟩ u2 R4 r2 k2
    have Sx2 := k2 x _ Sx
    refine eval_stored hk Sx2 ho ?_
    obtain ⟨g2, rfl, hg2⟩ : ∃ g2, v2 = .ref g2 ∧ P.p F2 g2 := by simpa only [Repr] using r2
    obtain ⟨z1, z2, z3⟩ := R4.p f ob (.inr ⟨rfl, rfl⟩)
    obtain ⟨h2, gs2, dr2, tk2, os2⟩ := s2
    refine fn_store (o := ob) z1 (by rw [hob]) (by rw [hob]) (by rw [hob]; intro c q; cases q) hB fun h' tk' y1 y2 y3 => ?_
    obtain ⟨od, esd, epd, w1, w2⟩ := id y2
    have hlt : f < h2.objs.size := Heap.lt_size z1
    have hne : h2.objs.size ≠ f := Nat.ne_of_gt hlt
    have hfd : F2 h2.objs.size = none := R4.g.fresh (Nat.le_refl _)
    have ntd : ¬ isTab C h2.objs.size := notTab_of_fresh R4.g (Nat.le_refl _)
    let ob' : Obj := { ob with dict := some h2.objs.size }
    have hput : put F2 f ob' h2.objs.size = none := by unfold put; rw [if_neg hne]; exact hfd
    have sub3 : Sub F2 (put (put F2 f ob') h2.objs.size od) := (put_sub z2).trans (put_sub hput)
    have sub4 : Sub (put (put F2 f ob') h2.objs.size od) h'.get? := fun a o q => by
      unfold put at q
      split at q
      · rename_i zz; cases q; subst zz; exact w1
      · split at q
        · rename_i zz; cases q; subst zz; exact y1
        · rename_i zz; exact y3 a o zz (R4.g.sub _ _ q)
    have g3 : GOk C fi.d fi.A (put (put F2 f ob') h2.objs.size od) ⟨h', gs2, dr2, tk', os2⟩ := by
      refine ⟨R4.g.base.trans sub3, sub4, fun t2 m2 => ?_, R4.g.hand, R4.g.dep, R4.g.uni⟩
      obtain ⟨f0, ps2, f1, f2, f3⟩ := R4.g.tab t2 m2
      have nf : t2.P ≠ f := fun q => z3 ⟨t2, m2, q⟩
      have nd : t2.P ≠ h2.objs.size := fun q => ntd ⟨t2, m2, q⟩
      refine ⟨?_, ps2, y3 _ _ nf f1, f2, fun e hm => ?_⟩
      · unfold put; rw [if_neg nd, if_neg nf]; exact f0
      · rcases f3 e hm with q | ⟨c2, o2, vs2, tk2, q1, q2, q3⟩
        · exact .inl q
        · exact .inr ⟨c2, o2, vs2, tk2, q1, sub3 _ _ q2, q3⟩
    have R5 := R4.addV Sx2 (av := .val (.ref f)) rVal
    have R6 : Rel fi prot (put (put F2 f ob') h2.objs.size od) (set st2 x (.v (.val (.ref f)))) ⟨h', gs2, dr2, tk', os2⟩ := R5.step2 sub3 ⟨h', tk', rfl⟩ (fun a o nt np e => y3 a o (fun q => np ob (.inr ⟨q, rfl⟩)) e)
      (fun a o nt np e q => by
        unfold put
        rw [if_neg (Nat.ne_of_lt (Heap.lt_size e)), if_neg (fun q => np ob (.inr ⟨q, rfl⟩))]; exact q) g3
      (fun a o q => by
        obtain ⟨w3, w4, w5⟩ := R4.p a o (.inl q)
        have af : a ≠ f := fun z => fnp o (z ▸ q)
        refine ⟨y3 a o af w3, ?_, w5⟩
        unfold put
        rw [if_neg (Nat.ne_of_lt (Heap.lt_size w3)), if_neg af]; exact w4)
      (fun a o q => .inl ⟨o, .inl q⟩)
    obtain ⟨vx, Sx3, rx⟩ := R6.vars x (.v (.val (.ref f))) (by rw [lookup_set, if_pos rfl])
    have rx : vx = .ref f := by simpa only [SlotOk, Repr] using rx
    subst rx
    have R7 := (R6.weaken (st' := st2) fun y sl e => by
      rw [lookup_set, if_neg (fun q => by rw [q, hx0] at e; cases e)]; exact e).addV Sx3 (av := .obj (attrP name P)) (by
        simp only [Repr]
        refine ⟨f, rfl, ob', h2.objs.size, od, _, _, g2, ?_, by show ob.cls = _; rw [hob], rfl, by show ob.data = _; rw [hob], put_self, fun hh q => ⟨od, esd, epd, q, w2⟩, if_pos rfl, P.mono _ _ _ sub3 hg2⟩
        unfold put; rw [if_neg hne.symm, if_pos rfl])
    exact hrest prot _ _ Qr E R7 fun fl st3 f3 F3 s3 q3 u3 R8 r3 => b fl st3 f3 F3 s3 q3 ((u.trans u2).trans (sub3.trans u3)) R8 r3
end
end Mine

end

section
open PySem PySem.W PyProof.Rows
set_option maxRecDepth 100000
set_option linter.unusedVariables false
namespace Mine

section
variable {C : Ctx} {d : Nat} {A : Around} {F : FMap} {s : Shared}
noncomputable def withCells (F : FMap) (s : Shared) (cs : List Addr) : FMap := fun a => if a ∈ cs then s.heap.get? a else F a
noncomputable def EndF {fn : Fn} (fi : FI C fn) (Q : AV → Prop) : AFlow → ASt → Prop
  | .ret a, st' => ∀ prot F s v, Rel fi prot F st' s → Repr F a v → ∃ a', Q a' ∧ Repr (withCells F s (fi.cl.map (·.2))) a' v
  | _, _ => False
theorem withCells_sub {cs : List Addr} (g : GOk C d A F s) : Sub F (withCells F s cs) := fun a o e => by
  unfold withCells; split
  · exact g.sub _ _ e
  · exact e
theorem GOk.cells {cs : List Addr} (g : GOk C d A F s) (hc : ∀ a ∈ cs, ¬ isTab C a) : GOk C d A (withCells F s cs) s := by
  refine ⟨g.base.trans (withCells_sub g), fun a o e => ?_, fun t m => ?_, g.hand, g.dep, g.uni⟩
  · unfold withCells at e; split at e
    · exact e
    · exact g.sub _ _ e
  · obtain ⟨h0, ps, e1, e2, e3⟩ := g.tab t m
    refine ⟨?_, ps, e1, e2, fun x hx => ?_⟩
    · unfold withCells; rw [if_neg (fun q => hc _ q ⟨t, m, rfl⟩)]; exact h0
    · rcases e3 x hx with q | ⟨c', o, vs, tk, q1, q2, q3⟩
      · exact .inl q
      · exact .inr ⟨c', o, vs, tk, q1, withCells_sub g _ _ q2, q3⟩
theorem back_ofF {fn : Fn} {fi : FI C fn} {F' : FMap} {st' : ASt} {s' : Shared} {Q : AV → Prop} {Qr : Value → Shared → Prop} {a' : AV} {v : Value} (g : GOk C (d + 1) A F s) (b : Back C (d + 1) A F s Q Qr) (hs : fi.s₀ = s)
    (R : Rel fi (pmax C F s) F' st' s') (u : Sub F F') (q : Q a') (hcl : ∀ c ∈ fi.cl.map (·.2), s.heap.objs.size ≤ c) (r : Repr (withCells F' s' (fi.cl.map (·.2))) a' v) : Qr v s' := by
  have g' := R.g.cells (cs := fi.cl.map (·.2)) fun a ha => notTab_of_fresh g (hcl a ha)
  refine b a' v _ s' q (u.trans (withCells_sub R.g)) (fun x o t e f => ?_) ⟨hs ▸ R.only, fun x o t _ e => ?_⟩ ⟨g'.base, g'.sub, g'.tab, g.hand, g.dep, g.uni⟩ r
  · unfold withCells
    rw [if_neg (fun q => absurd (Heap.lt_size e) (Nat.not_lt.mpr (hcl _ q)))]
    exact (R.p x o ⟨e, f, t⟩).2.1
  · cases hF : F x with
    | none => exact (R.p x o ⟨e, hF, t⟩).1
    | some o' =>
      have e1 := g.sub _ _ hF
      rw [e] at e1; cases e1
      exact R.g.sub _ _ (u _ _ hF)
theorem enterF {E : Value → Shared → Prop} {f : Addr} {fd : FuncData} {body : List Stmt} {vs : List Value} {xs : List AV} {Q : AV → Prop} {Qr : Value → Shared → Prop} (ps : List Str)
    (g : GOk C (d + 1) A F s) (b : Back C (d + 1) A F s Q Qr) (hf : IsFn F f fd) (r : ReprL F xs vs) (hbody : fd.body = .stmts body) (hgl : fd.globals = mainGlobals) (hbi : fd.builtins = builtinsNs) (hclo : fd.closure = [])
    (hbind : bindArgs fd ⟨vs, []⟩ = pure (ps.zip vs)) (hlen : xs.length = ps.length) (hnd : ps.Nodup) (hfree : ∀ x ∈ fd.scope.names, x.2 ≠ .free) (hloc : ∀ x ∈ ps, fd.scope.names.lookup x = some .local ∨ fd.scope.names.lookup x = some .cell)
    (h : ∀ fi : FI C (fnOfFd fd), fi.d = d → fi.cd = fd.code → fi.cl = cellsFrom (fi.L + 1) fd.scope.names [] → HS fi (ps.zip (xs.map Slot.v)) body (EndF fi Q))
    (hco : fd.scope.isCoroutine = false) (hgen : fd.scope.isGenerator = false) (hk : fd.scope.kind = .function) :
    wpAny C.M A (call (.ref f) vs) Qr E s := by
  obtain ⟨o, e1, e2, c, oc, ws, t, e3, e4, e5, e6⟩ := hf
  have hl : vs.length = ps.length := (ReprL.length r).trans hlen
  have nofree : ∀ x, fd.scope.names.lookup x ≠ some .free := fun x q => hfree (x, .free) (mem_of_lk q) rfl
  refine wpAny_call (codeAny_call_cells (fd := fd) (body := body) (binds := ps.zip vs) g.room (g.sub _ _ e1) e2 g.nolimit ⟨c, oc, ws, t, e3, g.sub _ _ e4, e5, e6⟩ hbody hbind hclo (fun x hx => ?_) (fun s₁ I => ?_) hco hgen hk)
  · rcases hloc x.1 (List.of_mem_zip (show (x.1, x.2) ∈ ps.zip vs from hx)).1 with q | q
    · exact .inl q
    · exact .inr ⟨q, cellsFrom_some _ _ _ (.inl q)⟩
  have he : callEnvC fd s.heap.objs.size f = envX fd.qualname fd.scope s.heap.objs.size f fd.code (cellsFrom (s.heap.objs.size + 1) fd.scope.names []) := by
    unfold callEnvC newEnv; rw [hgl, hbi]
  rw [he] at I ⊢
  let fi : FI C (fnOfFd fd) := { A := A.deeper (envX fd.qualname fd.scope s.heap.objs.size f fd.code (cellsFrom (s.heap.objs.size + 1) fd.scope.names [])), L := s.heap.objs.size, f := f, cd := fd.code, cl := cellsFrom (s.heap.objs.size + 1) fd.scope.names [], s₀ := s, d := d }
  obtain ⟨h₀, tk₀, rfl⟩ := I.toInCall.same
  have hk₀ : ∀ b o, s.heap.get? b = some o → h₀.get? b = some o := I.toInCall.keep
  have R : Rel fi (pmax C F s) F (ps.zip (xs.map Slot.v)) { s with heap := h₀, toks := tk₀ } := by
    refine ⟨(g.grow hk₀).deeper, ⟨_, _, rfl⟩, fun a o q => ⟨hk₀ _ _ q.1, q.2.1, q.2.2⟩, ⟨_, I.toInCall.ns⟩, g.fresh (Nat.le_refl _), fun o q => absurd (Heap.lt_size q.1) (Nat.lt_irrefl _), notTab_of_fresh g (Nat.le_refl _),
      fun x c k l => ?_, fun x k => ?_, fun x y c k l1 l2 => pair_apart I.apart (mem_of_lk l1) (mem_of_lk l2), fun x c k l => absurd k (nofree x), fun x sl e => ?_, fun x y us ys a e => ?_⟩
    · have la := I.above x c (mem_of_lk l)
      have la' : s.heap.objs.size ≤ c := Nat.le_of_lt la
      exact ⟨g.fresh la', fun o q => absurd (Heap.lt_size q.1) (Nat.not_lt.mpr la'), notTab_of_fresh g la', Nat.ne_of_gt la, _, I.cell x c l⟩
    · exact Option.isSome_iff_exists.mp (cellsFrom_some _ _ _ (.inl k))
    · obtain ⟨av, v, q1, q2, q3⟩ := lookup_zip_reverse hnd r hl.symm e
      have nd' : ((ps.zip vs).map (·.1)).Nodup := by rw [List.map_fst_zip (by first | lia | omega)]; exact hnd
      refine ⟨v, ?_, by rw [q1]; exact q3⟩
      rcases hloc x (List.of_mem_zip q2).1 with q | q
      · exact .inl ⟨q, _, I.toInCall.ns, bindL_get nd' q2 q⟩
      · obtain ⟨c, hc⟩ := Option.isSome_iff_exists.mp (cellsFrom_some (x := x) fd.scope.names (s.heap.objs.size + 1) [] (.inl q))
        refine .inr ⟨.inl q, c, hc, ?_⟩
        have := I.cell x c hc
        rwa [bindC_get nd' q2 (by intro z; have z' : fd.scope.names.lookup x = some .local := z; rw [q] at z'; cases z')] at this
    · obtain ⟨av, v, q, _⟩ := lookup_zip_reverse hnd r hl.symm e
      cases q
  refine h fi rfl rfl rfl (pmax C F s) F _ _ _ R fun fl st' f' F' s' q u R' r' => ?_
  cases fl with
  | next => exact absurd q (fun z => z)
  | brk => exact absurd q (fun z => z)
  | cont => exact absurd q (fun z => z)
  | ret a =>
    obtain ⟨v, rfl, r'⟩ := r'
    obtain ⟨a', q', r''⟩ := q _ _ _ _ R' r'
    refine back_ofF g b rfl R' u q' (fun c hc => ?_) r''
    obtain ⟨p, hp, rfl⟩ := List.mem_map.mp hc
    exact Nat.le_of_lt (I.above p.1 p.2 hp)

theorem enterE {E : Value → Shared → Prop} {f : Addr} {fd : FuncData} {body : Expr} {st₀ : ASt} {Q : AV → Prop} {Qr : Value → Shared → Prop}
    (g : GOk C (d + 1) A F s) (b : Back C (d + 1) A F s Q Qr) (hf : IsFn F f fd) (hbody : fd.body = .expr body) (hgl : fd.globals = mainGlobals) (hbi : fd.builtins = builtinsNs) (hbind : bindArgs fd ⟨[], []⟩ = pure [])
    (hst : ∀ x sl, st₀.lookup x = some sl → ∃ av, sl = .v av ∧ fd.scope.names.lookup x = some .free ∧ ∃ c o v, fd.closure.lookup x = some c ∧ F c = some o ∧ o.data = .cell (some v) ∧ Repr F av v)
    (hfree : ∀ x c, fd.scope.names.lookup x = some .free → fd.closure.lookup x = some c → ∃ o v, F c = some o ∧ o.data = .cell v)
    (hcell : ∀ x ∈ fd.scope.names, x.2 ≠ .cell)
    (h : ∀ fi : FI C (fnOfFd fd), fi.d = d → HE fi st₀ body (fun a _ => Q a))
    (hco : fd.scope.isCoroutine = false) (hgen : fd.scope.isGenerator = false) (hk : fd.scope.kind = .function) :
    wpAny C.M A (call (.ref f) []) Qr E s := by
  obtain ⟨o, e1, e2, c, oc, ws, t, e3, e4, e5, e6⟩ := hf
  have nocell : ∀ x, fd.scope.names.lookup x ≠ some .cell := fun x q => hcell (x, .cell) (mem_of_lk q) rfl
  refine wpAny_call (kla_callFunE g.room (g.sub _ _ e1) e2 hco hgen hbody ⟨c, oc, ws, t, e3, g.sub _ _ e4, e5, e6⟩ ?_)
  rw [hbind]
  refine wpAny_pure (wpAny_newFunctionEnv hcell (fun _ q => nomatch q) (fun h₀ hns hsb => ⟨g.nolimit.fresh _ hsb, ?_⟩) hk)
  have hk₀ : ∀ b o, s.heap.get? b = some o → h₀.get? b = some o := fun b o e => hsb.extBut b o (Nat.ne_of_lt (Heap.lt_size e)) (Heap.get?_push_of_some _ e)
  have he : newEnv fd.scope s.heap.objs.size fd.globals fd.closure (fd.qualname ++ ".<locals>.") (some f) fd.code none fd.builtins = envX fd.qualname fd.scope s.heap.objs.size f fd.code fd.closure := by
    unfold newEnv; rw [hgl, hbi]
  rw [he]
  let fi : FI C (fnOfFd fd) := { A := A.deeper (envX fd.qualname fd.scope s.heap.objs.size f fd.code fd.closure), L := s.heap.objs.size, f := f, cd := fd.code, cl := fd.closure, s₀ := s, d := d }
  have R : Rel fi (pmax C F s) F st₀ { s with heap := h₀, toks := s.toks + ([] : List (Str × Value)).length } := by
    refine ⟨(g.grow hk₀).deeper, ⟨_, _, rfl⟩, fun a o q => ⟨hk₀ _ _ q.1, q.2.1, q.2.2⟩, ⟨_, hns⟩, g.fresh (Nat.le_refl _), fun o q => absurd (Heap.lt_size q.1) (Nat.lt_irrefl _), notTab_of_fresh g (Nat.le_refl _),
      fun x c k l => absurd k (nocell x), fun x k => absurd k (nocell x), fun x y c k => absurd k (nocell x), fun x c k l => hfree x c k l, fun x sl e => ?_, fun x y xs ys a e => ?_⟩
    · obtain ⟨av, rfl, k, c, o, v, q1, q2, q3, r⟩ := hst x sl e
      exact ⟨v, .inr ⟨.inr k, c, q1, o, hk₀ _ _ (g.sub _ _ q2), q3⟩, r⟩
    · obtain ⟨av, q, _⟩ := hst x _ e
      cases q
  exact kla_codeExpr (h fi rfl (pmax C F s) F _ _ _ R fun a st' v F' s' q u R' r' _ => back_of g b rfl R' u q r')
end

section
variable {C : Ctx} {d : Nat}
noncomputable def okLam (m : Made) (cn : List Str) : Bool :=
  m.scope.names.all (fun x => x.2 != .cell) && m.scope.names.all (fun x => x.2 != .free || cn.contains x.1) && cn.all (fun x => m.scope.names.lookup x == some .free) && !m.scope.isCoroutine && !m.scope.isGenerator && (m.scope.kind == .function)
theorem CallP_lam {m : Made} {caps : List (Str × AV)} {body : Expr} {Q : AV → Prop} (hok : okLam m (caps.map (·.1)) = true) (hbody : m.body = .expr body)
    (hbind : ∀ clos doc pm cv ctv, bindArgs (m.fd clos .none doc pm cv ctv) ⟨[], []⟩ = pure [])
    (h : ∀ fi : FI C ⟨m.qual, m.scope⟩, fi.d = d → HE fi (caps.map fun p => (p.1, Slot.v p.2)) body (fun a _ => Q a)) : CallP C (d + 1) (cloE m [] caps) [] Q := by
  intro A F s f vs Qr E g p r b
  unfold okLam at hok
  simp only [Bool.and_eq_true, Bool.or_eq_true, List.all_eq_true, bne_iff_ne, beq_iff_eq, Bool.not_eq_true', List.contains_iff_mem] at hok
  obtain ⟨⟨⟨⟨⟨h1, h2⟩, h3⟩, h4⟩, h5⟩, h6⟩ := hok
  obtain ⟨clos, dV, hno, hdv, ⟨doc, pm, cv, ctv, hf⟩, hc, _, hd⟩ := p
  obtain rfl := hdv rfl
  simp only [ReprL] at r
  subst r
  refine enterE (body := body) g b hf hbody rfl rfl (hbind _ _ _ _ _) (fun x sl e => ?_) (fun x c k l => ?_) h1 (fun fi e1 => h fi e1) h4 h5 h6
  · have m2 := mem_of_lk e
    obtain ⟨q, hq, eq⟩ := List.mem_map.mp m2
    cases eq
    obtain ⟨c, o, v, q1, q2, q3, q4⟩ := hc _ _ hq
    exact ⟨q.2, rfl, h3 _ (List.mem_map_of_mem (f := (·.1)) hq), c, o, v, q1, q2, q3, q4⟩
  · rcases h2 _ (mem_of_lk k) with q | q
    · exact absurd rfl q
    · obtain ⟨p, hp, e⟩ := List.mem_map.mp q
      obtain ⟨c', o, v, q1, q2, q3, _⟩ := hc p.1 p.2 hp
      have e' : p.1 = x := e
      rw [e'] at q1
      have l' : clos.lookup x = some c := l
      rw [q1] at l'; cases l'
      exact ⟨o, _, q2, q3⟩

theorem CallP_cloE {m : Made} {dvs : List AV} {caps : List (Str × AV)} {body : List Stmt} {xs : List AV} {Q : AV → Prop} (ps : List Str) (ys : List AV) (hok : okClo m ps (Str.ofString "") (caps.map (·.1)) = true)
    (hbody : m.body = .stmts body)
    (hbind : ∀ F s clos dV vs doc pm cv ctv, Sub F s.heap.get? → Repr F (.tup dvs) dV → ReprL F xs vs → ∃ ws, ReprL F ys ws ∧ BindsTo s (m.fd clos dV doc pm cv ctv) ⟨vs, []⟩ (ps.zip ws))
    (hne : dvs ≠ []) (hlen : ys.length = ps.length)
    (h : ∀ fi : FI C ⟨m.qual, m.scope⟩, fi.d = d → HS fi (ps.zip (ys.map Slot.v) ++ (caps.map fun p => (p.1, Slot.v p.2))) body (RetQ Q)) : CallP C (d + 1) (cloE m dvs caps) xs Q := by
  intro A F s f vs Qr E g p r b
  obtain ⟨clos, dV, hno, _, p⟩ := p
  refine CallP_clo' (clos := clos) (dV := dV) (dvs := dvs) (self := Str.ofString "") (caps := caps) (Q := Q) (xs := xs) ps ys hok hbody (fun q => by rw [hno] at q; cases q) (fun F s f vs doc pm cv ctv hs hp hr => ?_) hlen (fun fi e1 e2 F f hp => ?_) A F s f vs Qr E g p r b
  · rcases hp.2.2.2 with ⟨_, q⟩ | q
    · exact absurd q hne
    · exact hbind F s clos dV vs doc pm cv ctv hs q hr
  · rw [hno]
    simpa using h fi e1
theorem bind_dflt {F : FMap} {s : Shared} {fd : FuncData} {dV : Value} {k : Int} {args : Args} {binds : Value → List (Str × Value)} (hs : Sub F s.heap.get?) (hr : Repr F (.tup [.int k]) dV) (hd : fd.defaults = dV)
    (h : ∀ v, ∃ g, bindArgs fd args = seqItems? fd.defaults >>= g ∧ g (some #[v]) = pure (binds v)) : ∃ v, Repr F (.int k) v ∧ BindsTo s fd args (binds v) := by
  simp only [Repr] at hr
  obtain ⟨a, vs, n, rfl, e1, r⟩ := hr
  simp only [ReprL] at r
  obtain ⟨v, _, hv, r1, rfl⟩ := r
  have : vs = #[v] := by
    apply Array.toList_inj.mp
    rw [hv]
  subst this
  obtain ⟨g, h1, h2⟩ := h v
  exact ⟨v, r1, BindsTo.of_defaults hd (hs _ _ e1) rfl h1 h2⟩
end

section
variable {C : Ctx} {fn : Fn} {fi : FI C fn} {st : ASt}
theorem HE_methA {o : Expr} {name : Str} {apos pos : Pos} {es : List Expr} {P : MP} {Q : AV → ASt → Prop} (hB : typeLookup (.type "function") name = pure none) (hfn : ∀ F a, P.p F a → ∃ o fd, F a = some o ∧ o.data = .func fd)
    (h : HE fi st o fun a st1 => a = .obj (attrP name P) ∧ HL fi st1 es fun as st2 => CallP C fi.d P as fun r => Q r st2)
    (hp : es.all plainE = true := by rfl) (hn : es.length < 30 := by decide) (hbase : attributeBase o name fi.env (eval o fi.env) = eval o fi.env := by rfl) (hline : (apos.endLine == pos.line) = true := by rfl) : HE fi st (.Call (.Attribute o name apos) es [] pos) Q :=
  fun prot F s Qr E R b => by
    rw [arm_eval_Call, hbase]
    refine wpAny_bind (h prot F s _ E R ?_)
    rintro a1 st1 v1 F1 s1 ⟨rfl, hl⟩ u1 R1 r1 k1
    obtain ⟨f, rfl, ob, dx, od, fd, m, g, e1, e2, e3, e4, e5, e6, e7, e8⟩ : ∃ f, v1 = .ref f ∧ (attrP name P).p F1 f := by simpa only [Repr] using r1
    refine wpAny_bind (wpAny_standAt ?_)
    have hform : methodCallForm (es.length + ([] : List Keyword).length) (backTo pos (starEach es fi.env)) (backToKw pos (keywordEach [] fi.env)) = true := by
      have : decide (es.length + ([] : List Keyword).length + (if ([] : List Keyword).isEmpty then 0 else 1) < 30) = true := by simpa using hn
      unfold methodCallForm
      have hk : backToKw pos (keywordEach [] fi.env) = [] := rfl
      rw [notStar' hp, hk]
      simpa using hn
    have hpos : methodCallPos true o fi.env apos pos = pure pos := by unfold methodCallPos; simp [hline]
    unfold methodCall calleeOf
    rw [hform]
    obtain ⟨h1, gs1, dr1, tk1, os1⟩ := s1
    refine wpAny_bind (wpAny_holding (fn_method (o := ob) (dx := dx) (m := m) (v := .ref g) (R1.g.sub _ _ e1) e2 e3 (by rw [e4]; intro c q; cases q) (e6 _ (R1.g.sub _ _ e5)) e7 hB rfl fun tk => ?_))
    have G : Grow C F1 ⟨h1, gs1, dr1, tk1, os1⟩ F1 ⟨h1, gs1, dr1, tk, os1⟩ := ⟨Sub.refl _, Ext.toks (s := ⟨h1, gs1, dr1, tk1, os1⟩) tk, New.refl⟩
    have R2 := R1.pure G (R1.g.toks tk)
    refine wpAny_bind (wpAny_of_eq hpos ?_)
    obtain ⟨o', fd', w1, w2⟩ := hfn _ _ e8
    refine Calls.callWith_function (o := o') (fd := fd') (evalArgs_of hp (hl prot F1 _ _ E pos R2 fun as st3 vs F3 s3 q3 u3 R3 r3 k3 => ⟨⟨R3.g.sub _ _ (u3 _ _ w1), w2⟩, ?_⟩))
    show wpAny C.M fi.A (call (.ref g) ([] ++ vs) []) Qr E s3
    exact q3 fi.A F3 s3 g vs Qr E R3.g (P.mono _ _ _ u3 e8) r3 (b.op (u1.trans u3) (k1.trans ((R1.keepV G).trans k3)) R3)
theorem truth_attr {name : Str} {P : MP} {Q : Bool → Prop} (q : Q true) : Truth C (.obj (attrP name P)) Q := by
  intro d A F s v Qr E g r k
  obtain ⟨f, rfl, ob, dx, od, fd, m, g', e1, e2, e3, e4, e5, e6, e7, e8⟩ : ∃ f, v = .ref f ∧ (attrP name P).p F f := by simpa only [Repr] using r
  obtain ⟨h1, gs1, dr1, tk1, os1⟩ := s
  exact fn_truthy (g.sub _ _ e1) e2 (k true tk1 q)
theorem op_is_none {d : Nat} {Q : AV → Prop} (q : Q (.bool true)) : Op2 C d (compareOp .Is) .none .none Q := by
  intro A F s v u Qr E g r1 r2 k; simp only [Repr] at r1 r2; subst r1; subst r2
  exact wpAny_is_self rfl (k.same g q rBool)
theorem op_is_obj {d : Nat} {P : MP} {Q : AV → Prop} (q : Q (.bool false)) : Op2 C d (compareOp .Is) (.obj P) .none Q := by
  intro A F s v u Qr E g r1 r2 k; simp only [Repr] at r1 r2; obtain ⟨a, rfl, _⟩ := r1; subst r2
  exact is_ref_none (k.same g q rBool)

theorem clo_freeze {prot : Prot} {F : FMap} {s : Shared} {m : Made} {clos : List (Str × Addr)} {dvs : List AV} {caps : List (Str × AV)} {f : Addr} (R : Rel fi prot F st s) (hp : (fnD m clos dvs).p F f) (hno : clos.lookup (Str.ofString "") = none)
    (hcaps : ∀ y av, (y, av) ∈ caps → st.lookup y = some (.v av) ∧ fn.scope.names.lookup y = some .cell ∧ ∃ c, clos.lookup y = some c ∧ fi.cl.lookup y = some c) : (cloE m dvs caps).p (withCells F s (fi.cl.map (·.2))) f := by
  obtain ⟨dV, ⟨doc, pm, cv, ctv, hf⟩, hn, hd⟩ := hp
  have hs := withCells_sub (cs := fi.cl.map (·.2)) R.g
  refine ⟨clos, dV, hno, hn, ⟨doc, pm, cv, ctv, hf.mono hs⟩, fun y av hy => ?_, fun c lc => (by rw [hno] at lc; cases lc), hd.imp id (Repr.mono hs _ _)⟩
  obtain ⟨l1, l2, c, l3, l4⟩ := hcaps y av hy
  obtain ⟨v, S, r⟩ := R.vars y _ l1
  rcases S with ⟨k, _⟩ | ⟨_, c', l', o, q1, q2⟩
  · have : fn.scope.names.lookup y = some .local := k
    rw [l2] at this; cases this
  · have l' : fi.cl.lookup y = some c' := l'
    rw [l4] at l'; cases l'
    refine ⟨c, o, v, l3, ?_, q2, Repr.mono hs _ _ r⟩
    unfold withCells
    rw [if_pos (List.mem_map_of_mem (f := (·.2)) (mem_of_lk l4))]; exact q1
end
end Mine

end

section
open PySem PySem.W PyProof.Rows PySem.Builtin PySem.Builtin.Str
set_option maxRecDepth 100000
set_option linter.unusedVariables false
namespace Mine
noncomputable abbrev tx (l : List Nat) : Str := ⟨l.toArray⟩
noncomputable def lo' (n : Nat) (lo : Option Int) : Nat := lo.elim 0 (clipAt n)
noncomputable def hi' (n : Nat) (hi : Option Int) : Nat := hi.elim n (clipAt n)
noncomputable def cut {α : Type} (l : List α) (lo hi : Option Int) : List α := (l.drop (lo' l.length lo)).take (hi' l.length hi - lo' l.length lo)
theorem idx_eq (lo hi : Option Int) (n : Nat) : strSliceIndices lo hi 1 n = (List.range (hi' n hi - lo' n lo)).map (lo' n lo + ·) := by
  rw [← sliceRange_one]
  unfold strSliceIndices lo' hi'
  cases lo <;> cases hi <;> simp [clipAt_cast]
theorem slice_tx (l : List Nat) (lo hi : Option Int) : Txt.slice (tx l) lo hi = tx (cut l lo hi) := by
  unfold Txt.slice
  have hl : (tx l).length = l.length := by simp [tx, Str.length]
  have key : (strSliceIndices lo hi 1 (tx l).length).filterMap ((tx l).cps[·]?) = cut l lo hi := by
    rw [idx_eq, hl]
    have := pick_run (tx l).cps (lo' l.length lo) (hi' l.length hi - lo' l.length lo)
    rw [this]
    simp [cut, tx]
  split
  · rename_i h
    simp only [beq_self_eq_true, Bool.true_and, beq_iff_eq] at h
    rw [idx_eq, hl] at h
    simp only [List.length_map, List.length_range] at h
    have h1 : lo' l.length lo ≤ l.length := by
      unfold lo'; cases lo with
      | none => exact Nat.zero_le _
      | some i => have := clipAt_cast l.length i; simp only [Option.elim]; first | lia | omega
    have h2 : hi' l.length hi ≤ l.length := by
      unfold hi'; cases hi with
      | none => exact Nat.le_refl _
      | some i => have := clipAt_cast l.length i; simp only [Option.elim]; first | lia | omega
    unfold cut
    have e1 : lo' l.length lo = 0 ∨ l.length = 0 := by first | lia | omega
    rcases e1 with e1 | e1
    · rw [h, e1]; simp
    · have : l = [] := List.length_eq_zero_iff.mp e1
      subst this; simp
  · rw [key]
theorem cut_to {α : Type} (l : List α) (k : Nat) : cut l none (some (k : Int)) = l.take k := by
  unfold cut lo' hi'
  simp [clipAt_nat, List.take_eq_take_min]
theorem cut_from {α : Type} (l : List α) (k : Nat) : cut l (some (k : Int)) none = l.drop k := by
  unfold cut lo' hi'
  simp only [Option.elim, clipAt_nat]
  rw [List.take_of_length_le (by simp)]
  rcases Nat.le_total k l.length with h | h
  · rw [Nat.min_eq_left h]
  · rw [Nat.min_eq_right h, List.drop_of_length_le (Nat.le_refl _), List.drop_of_length_le h]
theorem cut_fromTo {α : Type} (l : List α) (a b : Nat) : cut l (some (a : Int)) (some (b : Int)) = (l.drop a).take (b - a) := by
  unfold cut lo' hi'
  simp only [Option.elim, clipAt_nat]
  rcases Nat.le_total a l.length with h | h
  · rw [Nat.min_eq_left h]
    rcases Nat.le_total b l.length with h' | h'
    · rw [Nat.min_eq_left h']
    · rw [Nat.min_eq_right h', List.take_of_length_le (by simp), List.take_of_length_le (by simp; first | lia | omega)]
  · rw [Nat.min_eq_right h, List.drop_of_length_le (Nat.le_refl _), List.drop_of_length_le h]; simp
theorem tx_add (a b : List Nat) : tx a ++ tx b = tx (a ++ b) := by
  show (⟨_⟩ : Str) = ⟨_⟩
  congr 1
  simp
theorem tx_length (l : List Nat) : (tx l).length = l.length := by simp [tx, Str.length]
theorem tx_inj {a b : List Nat} : tx a = tx b ↔ a = b := by
  constructor
  · intro h; have := congrArg (fun x : Str => x.cps.toList) h; simpa [tx] using this
  · rintro rfl; rfl
theorem tx_beq (a b : List Nat) : (tx a == tx b) = (a == b) := by
  rw [Bool.eq_iff_iff]; simp only [beq_iff_eq]; exact tx_inj

section
variable {C : Ctx} {fn : Fn} {fi : FI C fn} {st : ASt}
noncomputable def HP (fi : FI C fn) (st : ASt) (e : Option Expr) (Q : Option Int → ASt → Prop) : Prop :=
  ∀ prot F s Qr E, Rel fi prot F st s → (∀ lo st' v F' s', Q lo st' → Sub F F' → Rel fi prot F' st' s' → IsPart v lo → KeepV fi.env s s' → Qr v s') → wpAny C.M fi.A (evalPart e fi.env) Qr E s
theorem HP_none {Q : Option Int → ASt → Prop} (q : Q none st) : HP fi st none Q := fun prot F s Qr E R b => wpAny_evalPart_none (b none st .none F s q (Sub.refl _) R .none KeepV.refl)
theorem HP_some {e : Expr} {Q : Option Int → ASt → Prop} (h : HE fi st e fun a st1 => ∃ k, a = .int k ∧ Q (some k) st1) : HP fi st (some e) Q := fun prot F s Qr E R b =>
  wpAny_evalPart_some (h prot F s _ E R fun a1 st1 v1 F1 s1 q1 u1 R1 r1 k1 => by
    obtain ⟨k, rfl, q⟩ := q1
    simp only [Repr] at r1
    obtain ⟨t, rfl⟩ := r1
    exact b (some k) st1 _ F1 s1 q u1 R1 (.int k t) k1)
theorem IsPart.pv {v : Value} {lo : Option Int} (h : IsPart v lo) : ∃ l : Option (Int × Tok), v = partValue l ∧ l.map (·.1) = lo := by
  cases h with
  | none => exact ⟨none, rfl, rfl⟩
  | int i t => exact ⟨some (i, t), rfl, rfl⟩
theorem HE_sliceS {value : Expr} {lower upper : Option Expr} {p pos : Pos} {Q : AV → ASt → Prop} (h : HE fi st value fun a st1 => ∃ x : List Nat, a = .str (tx x) ∧ x.length ≤ sizeLine ∧ HP fi st1 lower fun lo st2 => HP fi st2 upper fun hi st3 => Q (.str (tx (cut x lo hi))) st3) : HE fi st (.Subscript value (.Slice lower upper none p) pos) Q :=
  fun prot F s Qr E R b => by
    refine Subscript_ (h prot F s _ E R ?_)
    rintro a1 st1 v1 F1 s1 ⟨x, rfl, hx, h1⟩ u1 R1 r1 k1
    simp only [Repr] at r1
    obtain ⟨t, rfl⟩ := r1
    refine wpAny_Slice ?_
    refine h1 prot F1 s1 _ E R1 fun lo st2 v2 F2 s2 q2 u2 R2 p2 k2 => ?_
    refine q2 prot F2 s2 _ E R2 fun hi st3 v3 F3 s3 q3 u3 R3 p3 k3 => ?_
    obtain ⟨l, hl, el⟩ := IsPart.pv p2
    obtain ⟨u, hu, eu⟩ := IsPart.pv p3
    refine wpAny_evalPart_none ?_
    obtain ⟨ops, hs⟩ := subscripted_ops (.Slice lower upper none p) (.str (tx x) t) (.ref s3.heap.objs.size)
    refine tail_any (typeIs_str _ (tx x) t) PySem.F.slot_str_getitem.lookup (wpAny_getItem_str_slice (l := l) (u := u) (st := none) ⟨_, Heap.get?_push_size _ rfl, rfl, by rw [hl, hu]; rfl⟩ rfl ?_) hs
    have G : ∀ k, Grow C F3 s3 F3 { s3 with heap := s3.heap.push { cls := .type "slice", data := .fields #[v2, v3, .none] }, toks := k } := fun k => ⟨Sub.refl _, Ext.push, New.refl⟩
    have fin : ∀ t' k, Qr (.str (Txt.slice (tx x) lo hi) t') { s3 with heap := s3.heap.push { cls := .type "slice", data := .fields #[v2, v3, .none] }, toks := k } := fun t' k => by
      rw [slice_tx]
      exact b _ st3 _ F3 _ q3 (u1.trans (u2.trans u3)) (R3.pure (G k) (R3.g.grow fun a o e => Heap.get?_push_of_some _ e)) rStr (k1.trans (k2.trans (k3.trans (R3.keepV (G k)))))
    have hle := Txt.slice_le (tx x) lo hi
    rw [tx_length] at hle
    unfold sliceMade slicePicked
    simp only [el, eu, Option.map_none, Option.getD_none]
    exact post_val_or_str ⟨Nat.le_trans hle hx, fin⟩

noncomputable def LstLike (C : Ctx) (a : AV) (xs : List AV) : Prop := ∀ d A F s v, GOk C d A F s → Repr F a v → ∃ l vs, v = .ref l ∧ s.heap.IsList l vs ∧ ReprL F xs vs.toList
theorem like_lst {xs : List AV} : LstLike C (.lst xs) xs := fun d A F s v g r => by
  simp only [Repr] at r; obtain ⟨l, vs, n, rfl, e1, r⟩ := r
  exact ⟨l, vs, rfl, ⟨_, g.sub _ _ e1, rfl, n, rfl⟩, r⟩
noncomputable def scriptP (ns : List Int) : MP where
  p := fun F a => ∃ o vs n, F a = some o ∧ o.cls = .type "list" ∧ o.data = .seq vs n ∧ ReprL F (ns.map AV.int) vs.toList
  mono := fun F G a h ⟨o, vs, n, e1, e2, e3, e4⟩ => ⟨o, vs, n, h _ _ e1, e2, e3, ReprL.mono h _ _ e4⟩
theorem like_script {ns : List Int} : LstLike C (.obj (scriptP ns)) (ns.map AV.int) := fun d A F s v g r => by
  simp only [Repr] at r; obtain ⟨l, rfl, o, vs, n, e1, e2, e3, e4⟩ := r
  exact ⟨l, vs, rfl, ⟨o, g.sub _ _ e1, e2, n, e3⟩, e4⟩
theorem HE_sliceL {value : Expr} {lower upper : Option Expr} {p pos : Pos} {Q : AV → ASt → Prop} (h : HE fi st value fun a st1 => ∃ xs, LstLike C a xs ∧ xs.length ≤ sizeLine ∧ HP fi st1 lower fun lo st2 => HP fi st2 upper fun hi st3 => Q (.lst (cut xs lo hi)) st3) : HE fi st (.Subscript value (.Slice lower upper none p) pos) Q :=
  fun prot F s Qr E R b => by
    refine Subscript_ (h prot F s _ E R ?_)
    rintro a1 st1 v1 F1 s1 ⟨xs, hx, hsz, h1⟩ u1 R1 r1 k1
    refine wpAny_Slice ?_
    refine h1 prot F1 s1 _ E R1 fun lo st2 v2 F2 s2 q2 u2 R2 p2 k2 => ?_
    refine q2 prot F2 s2 _ E R2 fun hi st3 v3 F3 s3 q3 u3 R3 p3 k3 => ?_
    obtain ⟨l, vs, rfl, hl, hr⟩ := hx _ _ _ _ _ R3.g (Repr.mono (u2.trans u3) _ _ r1)
    have hlen : vs.size = xs.length := by simpa using ReprL.length hr
    refine wpAny_evalPart_none ?_
    obtain ⟨ops, hs⟩ := subscripted_ops (.Slice lower upper none p) (.ref l) (.ref s3.heap.objs.size)
    refine tail_any (hl.push _).typeIs list_getitem_lookup (wpAny_getItem_list_slice (hl.push _) (Heap.IsSliceOf.new ..) p2 p3 .none (by simp) ?_ (by rw [hlen]; exact hsz)) hs
    have e : slicePick vs lo hi none = (cut vs.toList lo hi).toArray := by
      rw [slicePick_plain]; rfl
    rw [e]
    have G1 : Grow C F3 s3 F3 { s3 with heap := s3.heap.push { cls := .type "slice", data := .fields #[v2, v3, .none] } } := ⟨Sub.refl _, Ext.push (tk := s3.toks), New.refl⟩
    have R4 := R3.pure G1 (R3.g.grow (tk := s3.toks) fun a o e => Heap.get?_push_of_some _ e)
    have bb : Back C fi.d fi.A F3 { s3 with heap := s3.heap.push { cls := .type "slice", data := .fields #[v2, v3, .none] } } (fun a => Q a st3) Qr := b.op (u1.trans (u2.trans u3)) (k1.trans (k2.trans (k3.trans (R3.keepV G1)))) R4
    refine bb.push (tk := s3.toks) (o := lobj (cut vs.toList lo hi).toArray 0) R4.g q3 rfl ?_
    simp only [Repr]
    refine ⟨_, _, _, rfl, put_self, ReprL.mono (put_sub (R4.g.fresh (Nat.le_refl _))) _ _ ?_⟩
    have hl2 : vs.toList.length = xs.length := ReprL.length hr
    unfold cut
    rw [hl2]
    exact (hr.drop _).take _
end

section
variable {C : Ctx} {d : Nat} {Q : AV → Prop}
theorem ints_items {F : FMap} : ∀ {ns : List Int} {vs : List Value}, ReprL F (ns.map AV.int) vs → ∃ ps : List (Int × Tok), vs = ps.map (fun p => Value.int p.1 p.2) ∧ ps.map (·.1) = ns
  | [], _, r => by simp only [List.map_nil, ReprL] at r; subst r; exact ⟨[], rfl, rfl⟩
  | n :: ns, _, r => by
    simp only [List.map_cons, ReprL, Repr] at r
    obtain ⟨v, vs, rfl, ⟨t, rfl⟩, r⟩ := r
    obtain ⟨ps, rfl, rfl⟩ := ints_items r
    exact ⟨(n, t) :: ps, rfl, rfl⟩
theorem op_sum {a : AV} {ns : List Int} (ha : LstLike C a (ns.map AV.int)) (q : Q (.int ns.sum)) : OpN C d (fun vs => call (.builtin "sum") vs) [a] Q := by
  intro A F s vs Qr E g r k
  simp only [ReprL] at r
  obtain ⟨v, _, rfl, r, rfl⟩ := r
  obtain ⟨l, ws, rfl, hl, hr⟩ := ha _ _ _ _ _ g r
  obtain ⟨ps, h1, h2⟩ := ints_items hr
  have e : ws = intItems ps.toArray := by
    apply Array.toList_inj.mp
    rw [h1]; simp [intItems]
  rw [e] at hl
  refine sum_intListG g.hand hl fun h' tk t' hk => ?_
  have e2 : preSum (numAt ps.toArray) ps.toArray.size = ns.sum := by
    rw [preSum_eq, List.take_of_length_le (by simp), ← h2]
  rw [e2]
  exact k _ _ F _ q (Sub.refl _) New.refl (Ext.grow hk) (g.grow hk) rInt
theorem op_add_lst {a b : AV} {xs ys : List AV} (ha : LstLike C a xs) (hb : LstLike C b ys) (hsz : xs.length + ys.length ≤ sizeLine) (q : Q (.lst (xs ++ ys))) : Op2 C d (binaryOp .Add) a b Q := by
  intro A F s v u Qr E g r1 r2 k
  obtain ⟨l, vs, rfl, ⟨o, ho, hc, n, hd⟩, hr⟩ := ha _ _ _ _ _ g r1
  obtain ⟨l2, ws, rfl, ⟨o2, ho2, hc2, n2, hd2⟩, hr2⟩ := hb _ _ _ _ _ g r2
  obtain ⟨oc, od, odt, osl⟩ := o
  obtain ⟨oc2, od2, odt2, osl2⟩ := o2
  cases hc; cases hd; cases hc2; cases hd2
  have z1 : vs.size = xs.length := by simpa using ReprL.length hr
  have z2 : ws.size = ys.length := by simpa using ReprL.length hr2
  refine concat_meets ⟨_, ho, rfl⟩ ⟨_, ho2, rfl⟩ noFill_list_add seq_list_add PySem.F.slot_list_add PySem.F.entry_list_add (PySem.F.args_list_add_2 _ _) (list_addW l l2 vs ws n n2 od od2 osl osl2 (by rw [z1, z2]; exact hsz)) ⟨ho, ho2, ?_⟩
  refine k.push (tk := s.toks) (o := lobj (vs ++ ws) 0) g q rfl ?_
  simp only [Repr]
  refine ⟨_, _, _, rfl, put_self, ReprL.mono (put_sub (g.fresh (Nat.le_refl _))) _ _ ?_⟩
  rw [Array.toList_append]
  exact hr.append hr2
theorem op_len_like {a : AV} {xs : List AV} (ha : LstLike C a xs) (h : (xs.length : Int) < 2 ^ 63) (q : Q (.int xs.length)) : OpN C d (fun vs => call (.builtin "len") vs) [a] Q := by
  intro A F s vs Qr E g r k
  simp only [ReprL] at r
  obtain ⟨v, _, rfl, r, rfl⟩ := r
  obtain ⟨l, ws, rfl, hl, hr⟩ := ha _ _ _ _ _ g r
  have hlen : ws.size = xs.length := by simpa using ReprL.length hr
  refine PyProof.Rows.len_list hl (by rw [hlen]; exact h) ?_
  rw [hlen]; exact k.toks g q rInt
theorem op_add_str {x y : List Nat} (hsz : x.length + y.length ≤ sizeLine) (q : Q (.str (tx (x ++ y)))) : Op2 C d (binaryOp .Add) (.str (tx x)) (.str (tx y)) Q := by
  intro A F s v u Qr E g r1 r2 k; simp only [Repr] at r1 r2; obtain ⟨t, rfl⟩ := r1; obtain ⟨t2, rfl⟩ := r2
  refine PyProof.Rows.add_str (fun t' tk => ?_) (by rw [tx_length, tx_length]; exact hsz)
  rw [tx_add]; exact k.toks g q rStr
theorem op_iadd_str {x y : List Nat} (hsz : x.length + y.length ≤ sizeLine) (q : Q (.str (tx (x ++ y)))) : Op2 C d (inplaceOp .Add) (.str (tx x)) (.str (tx y)) Q := by
  intro A F s v u Qr E g r1 r2 k; simp only [Repr] at r1 r2; obtain ⟨t, rfl⟩ := r1; obtain ⟨t2, rfl⟩ := r2
  refine PyProof.Rows.iadd_str (fun t' tk => ?_) (by rw [tx_length, tx_length]; exact hsz)
  rw [tx_add]; exact k.toks g q rStr
theorem op_eq_str {x y : List Nat} (q : Q (.bool (x == y))) : Op2 C d (compareOp .Eq) (.str (tx x)) (.str (tx y)) Q := by
  intro A F s v u Qr E g r1 r2 k; simp only [Repr] at r1 r2; obtain ⟨t, rfl⟩ := r1; obtain ⟨t2, rfl⟩ := r2
  refine PyProof.Rows.eq_str ?_
  rw [tx_beq]; exact k.same g q rBool
theorem op_ne_str {x y : List Nat} (q : Q (.bool (x != y))) : Op2 C d (compareOp .NotEq) (.str (tx x)) (.str (tx y)) Q := by
  intro A F s v u Qr E g r1 r2 k; simp only [Repr] at r1 r2; obtain ⟨t, rfl⟩ := r1; obtain ⟨t2, rfl⟩ := r2
  refine PyProof.Rows.ne_str ?_
  have : (tx x != tx y) = (x != y) := by unfold bne; rw [tx_beq]
  rw [this]; exact k.same g q rBool
theorem sub_str {x : List Nat} {k : Int} {c : Nat} (h0 : 0 ≤ k) (h1 : k < 2 ^ 63) (hx : x[k.toNat]? = some c) (q : Q (.str (tx [c]))) : Sub2 C d (.str (tx x)) (.int k) Q := by
  intro A F s v u Qr E value slice g r1 r2 b
  simp only [Repr] at r1 r2
  obtain ⟨t, rfl⟩ := r1
  obtain ⟨t2, rfl⟩ := r2
  obtain ⟨ops, hs⟩ := subscripted_ops slice (.str (tx x) t) (.int k t2)
  have hlt := (List.getElem?_eq_some_iff.mp hx).1
  have hin : (Txt.charAt (tx x) k).isSome = true := charAt_isSome (by first | lia | omega) (by rw [tx_length]; first | lia | omega)
  have he : Txt.item (tx x) k = tx [c] := item_meets h0 (by simpa [tx] using hx)
  have hr : fitsSsize k = true := by unfold fitsSsize; simp; first | lia | omega
  obtain ⟨T, id, hl, hT, hg⟩ := SB.item (prog := C.prog) (w := C.w) (A := A) (E := E) (t := t) (u := t2) (Q := Qr) (s := s) hr hin (by rw [he]; exact b.toks g q rStr)
  exact tail_any hT hl hg hs
end

section
variable {C : Ctx} {fn : Fn} {fi : FI C fn} {st : ASt}
theorem HE_and1 {e : Expr} {op : BoolOp} {pos : Pos} {Q : AV → ASt → Prop} (h : HE fi st e Q) : HE fi st (.BoolOp op [e] pos) Q := fun prot F s Qr E R b => BoolOp_one (h prot F s Qr E R b)
theorem HE_and {e₁ e₂ : Expr} {rest : List Expr} {pos : Pos} {Q : AV → ASt → Prop} (h : HE fi st e₁ fun a st1 => Truth C a fun t => if t then HE fi st1 (.BoolOp .And (e₂ :: rest) pos) Q else Q a st1) : HE fi st (.BoolOp .And (e₁ :: e₂ :: rest) pos) Q :=
  fun prot F s Qr E R b => BoolOp_and (h prot F s _ E R fun a1 st1 v1 F1 s1 q1 u1 R1 r1 k1 => q1 _ _ F1 s1 v1 _ _ R1.g r1 fun t tk qt => by
    have G2 : Grow C F1 s1 F1 { s1 with toks := tk } := ⟨Sub.refl _, Ext.toks tk, New.refl⟩
    have R2 := R1.pure G2 (R1.g.toks tk)
    have k2 := k1.trans (R1.keepV G2)
    cases t <;> simp only [Bool.false_eq_true, if_false, if_true] at qt ⊢
    · exact b _ st1 _ F1 _ qt u1 R2 r1 k2
    · exact qt prot F1 _ Qr E R2 fun av st' v F' s' q u R' r k => b av st' v F' s' q (u1.trans u) R' r (k2.trans k))
theorem HE_chain2 {l r₁ r₂ : Expr} {op₁ op₂ : CmpOp} {pos : Pos} {Q : AV → ASt → Prop}
    (h : HE fi st l fun a st1 => HE fi st1 r₁ fun b st2 => Op2 C fi.d (compareOp op₁) a b fun c => Truth C c fun t => if t then HE fi st2 r₂ fun e st3 => Op2 C fi.d (compareOp op₂) b e fun c2 => Q c2 st3 else Q c st2)
    (hm : lastMarks [op₁, op₂] [r₁, r₂] = false := by with_unfolding_all rfl) : HE fi st (.Compare l [op₁, op₂] [r₁, r₂] pos) Q :=
  fun prot F s Qr E R b => Compare_chain (rs := []) (h prot F s _ E R fun a1 st1 v1 F1 s1 q1 u1 R1 r1 k1 => chain_link (q1 prot F1 s1 _ E R1 fun a2 st2 v2 F2 s2 q2 u2 R2 r2 k2 =>
    q2 fi.A F2 s2 v1 v2 _ E R2.g (Repr.mono u2 _ _ r1) r2 fun av v F3 s3 q3 u3 n3 x3 g3 r3 => by
      have G3 : Grow C F2 s2 F3 s3 := ⟨u3, x3, n3⟩
      have R3 := R2.pure G3 g3
      refine q3 _ _ F3 s3 v _ _ g3 r3 fun t tk qt => ?_
      have G4 : Grow C F3 s3 F3 { s3 with toks := tk } := ⟨Sub.refl _, Ext.toks tk, New.refl⟩
      have R4 := R3.pure G4 (g3.toks tk)
      have k4 := k1.trans (k2.trans ((R2.keepV G3).trans (R3.keepV G4)))
      have u4 := u1.trans (u2.trans u3)
      cases t <;> simp only [Bool.false_eq_true, if_false, if_true] at qt ⊢
      · exact b _ st2 _ F3 _ qt u4 R4 r3 k4
      · exact chain_last (qt prot F3 _ _ E R4 fun a5 st5 v5 F5 s5 q5 u5 R5 r5 k5 => q5 fi.A F5 s5 v2 v5 Qr E R5.g (Repr.mono (u3.trans u5) _ _ r2) r5 (b.op (u4.trans u5) (k4.trans k5) R5)))) hm
end
end Mine

end

section
open PySem PySem.W PyProof.Rows
set_option maxRecDepth 100000
set_option linter.unusedVariables false
namespace Mine
noncomputable def val (n : Nat) : List Int → Int
  | [] => 0
  | x :: r => x + 2 ^ n * val n r
theorem val_append (n : Nat) : ∀ (a b : List Int), val n (a ++ b) = val n a + 2 ^ (n * a.length) * val n b
  | [], b => by simp [val]
  | x :: a, b => by
    simp only [List.cons_append, val, val_append n a b, List.length_cons]
    rw [Nat.mul_add, Nat.mul_one, Int.pow_add, Int.mul_add, Int.add_assoc, Int.mul_comm (2 ^ (n * a.length)) (2 ^ n), Int.mul_assoc]
theorem val_bound (n : Nat) : ∀ (a : List Int), (∀ x ∈ a, 0 ≤ x ∧ x < 2 ^ n) → 0 ≤ val n a ∧ val n a < 2 ^ (n * a.length)
  | [], _ => by simp [val]
  | x :: a, h => by
    obtain ⟨h1, h2⟩ := val_bound n a fun y hy => h y (.tail _ hy)
    obtain ⟨h3, h4⟩ := h x (.head _)
    simp only [val, List.length_cons]
    have hp : (0 : Int) < 2 ^ n := Int.pow_pos (by decide)
    refine ⟨Int.add_nonneg h3 (Int.mul_nonneg (Int.le_of_lt hp) h1), ?_⟩
    rw [Nat.mul_add, Nat.mul_one, Int.pow_add, Int.mul_comm (2 ^ (n * a.length)) (2 ^ n)]
    have : (2 : Int) ^ n * val n a ≤ 2 ^ n * (2 ^ (n * a.length) - 1) := Int.mul_le_mul_of_nonneg_left (by first | lia | omega) (Int.le_of_lt hp)
    rw [Int.mul_sub, Int.mul_one] at this
    first | lia | omega
theorem bl_of_lt {x : Int} {k : Nat} (h0 : 0 ≤ x) (h : x < 2 ^ k) : bl x ≤ k := by
  refine PySem.intBits_le_iff.mpr ?_
  have : (x.natAbs : Int) < ((2 ^ k : Nat) : Int) := by rw [Int.natAbs_of_nonneg h0]; push_cast; exact h
  exact Int.ofNat_lt.mp this
theorem lt_of_bl {x : Int} (h0 : 0 ≤ x) : x < 2 ^ (bl x) := by
  have := PySem.intBits_le_iff.mp (Nat.le_refl (bl x))
  have h2 : (x.natAbs : Int) < ((2 ^ bl x : Nat) : Int) := Int.ofNat_lt.mpr this
  rw [Int.natAbs_of_nonneg h0] at h2; push_cast at h2; exact h2
end Mine

end

section
open PySem PySem.W PyProof.Rows
set_option maxRecDepth 100000
set_option linter.unusedVariables false
namespace Mine
noncomputable def dg (n k : Nat) (x : Int) : List Int := (List.range k).map fun i => (x / 2 ^ (n * i)) % 2 ^ n
noncomputable def wr (ds : List Int) (L : Nat) (es : List Int) : List Int := ds.take L ++ es ++ ds.drop (L + es.length)
theorem dg_length (n k : Nat) (x : Int) : (dg n k x).length = k := by simp [dg]
theorem pow2_pos (k : Nat) : (0 : Int) < 2 ^ k := Int.pow_pos (by decide)
theorem dg_one {n : Nat} {x : Int} (h0 : 0 ≤ x) (h : x < 2 ^ n) : dg n 1 x = [x] := by
  simp [dg, Int.emod_eq_of_lt h0 h]
theorem dg_add (n a b : Nat) (x : Int) : dg n (a + b) x = dg n a (x % 2 ^ (n * a)) ++ dg n b (x / 2 ^ (n * a)) := by
  unfold dg
  rw [List.range_add, List.map_append, List.map_map]
  congr 1
  · refine List.map_congr_left fun i hi => ?_
    have hi' : i < a := List.mem_range.mp hi
    have e : n * a = n * i + (n * (a - i)) := by rw [← Nat.mul_add]; congr 1; first | lia | omega
    have e2 : n * (a - i) = n + n * (a - i - 1) := by rw [show a - i = 1 + (a - i - 1) by first | lia | omega, Nat.mul_add, Nat.mul_one]; congr 2; first | lia | omega
    have key : (x % 2 ^ (n * a)) / 2 ^ (n * i) = (x / 2 ^ (n * i)) % 2 ^ (n * (a - i)) := by
      rw [e, Int.pow_add]
      have p1 := pow2_pos (n * i)
      have p2 := pow2_pos (n * (a - i))
      have h1 := Int.mul_ediv_add_emod x (2 ^ (n * i) * 2 ^ (n * (a - i)))
      have h2 : x / (2 ^ (n * i) * 2 ^ (n * (a - i))) = x / 2 ^ (n * i) / 2 ^ (n * (a - i)) := by rw [Int.ediv_ediv_of_nonneg (Int.le_of_lt p1)]
      have h3 : x % (2 ^ (n * i) * 2 ^ (n * (a - i))) = x - 2 ^ (n * i) * (2 ^ (n * (a - i)) * (x / 2 ^ (n * i) / 2 ^ (n * (a - i)))) := by
        rw [← h2, ← Int.mul_assoc]; first | lia | omega
      rw [h3, Int.sub_eq_add_neg, ← Int.mul_neg, Int.add_mul_ediv_left _ _ (Int.ne_of_gt p1), Int.emod_def]
      first | lia | omega
    rw [key, e2, Int.pow_add, Int.emod_emod_of_dvd _ (Int.dvd_mul_right _ _)]
  · refine List.map_congr_left fun i _ => ?_
    show x / 2 ^ (n * (a + i)) % 2 ^ n = x / 2 ^ (n * a) / 2 ^ (n * i) % 2 ^ n
    rw [Nat.mul_add, Int.pow_add, Int.ediv_ediv_of_nonneg (Int.le_of_lt (pow2_pos _))]
theorem wr_wr (ds A B : List Int) (L : Nat) (h : L + A.length + B.length ≤ ds.length) : wr (wr ds L A) (L + A.length) B = wr ds L (A ++ B) := by
  unfold wr
  have hl : (ds.take L ++ A).length = L + A.length := by simp; first | lia | omega
  have t1 : (ds.take L ++ A ++ ds.drop (L + A.length)).take (L + A.length) = ds.take L ++ A := by
    rw [List.take_append_of_le_length (by rw [hl]; exact Nat.le_refl _), List.take_of_length_le (by rw [hl]; exact Nat.le_refl _)]
  have t2 : (ds.take L ++ A ++ ds.drop (L + A.length)).drop (L + A.length + B.length) = ds.drop (L + A.length + B.length) := by
    rw [List.drop_append, List.drop_of_length_le (by rw [hl]; first | lia | omega), hl, List.nil_append, List.drop_drop]
    congr 1; first | lia | omega
  rw [t1, t2]
  simp [Nat.add_assoc]
theorem wr_length (ds A : List Int) (L : Nat) (h : L + A.length ≤ ds.length) : (wr ds L A).length = ds.length := by
  unfold wr; simp; first | lia | omega
theorem wr_set (ds : List Int) (L : Nat) (x : Int) (h : L < ds.length) : ds.set L x = wr ds L [x] := by
  unfold wr
  rw [List.set_eq_take_append_cons_drop, if_pos h]; simp
theorem wr_all (ds es : List Int) (h : es.length = ds.length) : wr ds 0 es = es := by
  unfold wr; simp [h]
theorem xor_low (x : Int) (s : Nat) (h0 : 0 ≤ x) : Builtin.bitXor x (x / 2 ^ s * 2 ^ s) = x % 2 ^ s := by
  obtain ⟨m, rfl⟩ := Int.eq_ofNat_of_zero_le h0
  have e : ((m : Int) / 2 ^ s * 2 ^ s) = ((m / 2 ^ s * 2 ^ s : Nat) : Int) := by push_cast; rfl
  rw [bitXor_and, e]
  have hand : Builtin.bitAnd (m : Int) ((m / 2 ^ s * 2 ^ s : Nat) : Int) = ((m / 2 ^ s * 2 ^ s : Nat) : Int) := by
    unfold Builtin.bitAnd
    simp only [decide_true, Int.toNat_natCast, show (0 : Int) ≤ ((m / 2 ^ s * 2 ^ s : Nat) : Int) from Int.natCast_nonneg _, show (0 : Int) ≤ (m : Int) from Int.natCast_nonneg _]
    congr 1
    apply Nat.eq_of_testBit_eq
    intro i
    rw [Nat.testBit_and, Nat.mul_comm, Nat.testBit_two_pow_mul]
    by_cases hi : s ≤ i
    · simp [hi, Nat.testBit_div_two_pow, show i - s + s = i by first | lia | omega]
    · simp [hi]
  rw [hand]
  have h1 := Int.mul_ediv_add_emod (m : Int) (2 ^ s)
  rw [← e]
  rw [Int.mul_comm] at h1
  first | lia | omega
theorem shr_ediv (x : Int) (k : Nat) : x.fdiv (2 ^ ((k : Int)).toNat) = x / 2 ^ k := by
  rw [Int.toNat_natCast, Int.fdiv_eq_ediv_of_nonneg _ (Int.le_of_lt (pow2_pos k))]
end Mine

end

section
open PySem PySem.W PyProof.Rows
set_option maxRecDepth 100000
set_option linter.unusedVariables false
namespace Mine
theorem pow2_le {a b : Nat} (h : a ≤ b) : (2 : Int) ^ a ≤ 2 ^ b := by
  have := Nat.pow_le_pow_right (n := 2) (by decide) h
  have h2 : ((2 ^ a : Nat) : Int) ≤ ((2 ^ b : Nat) : Int) := Int.ofNat_le.mpr this
  push_cast at h2; exact h2
section
variable (n k : Nat) (a b : Int)
noncomputable def vTop (i : Nat) : Int := a / 2 ^ (n * (k - i))
noncomputable def dAt (i : Nat) : Int := (a / 2 ^ (n * (k - 1 - i))) % 2 ^ n
noncomputable def qAt (i : Nat) : Int := (vTop n k a i % b * 2 ^ n + dAt n k a i) / b
noncomputable def qsAt (i : Nat) : List Int := (List.range i).map (qAt n k a b)
end
section
variable {n k : Nat} {a b : Int}
theorem vTop_succ {i : Nat} (hi : i < k) : vTop n k a (i + 1) = vTop n k a i * 2 ^ n + dAt n k a i := by
  unfold vTop dAt
  have e : n * (k - i) = n * (k - (i + 1)) + n := by rw [show k - i = (k - (i + 1)) + 1 by first | lia | omega, Nat.mul_add, Nat.mul_one]
  rw [e, show k - 1 - i = k - (i + 1) by first | lia | omega, Int.pow_add, ← Int.ediv_ediv_of_nonneg (Int.le_of_lt (pow2_pos _))]
  have := Int.mul_ediv_add_emod (a / 2 ^ (n * (k - (i + 1)))) (2 ^ n)
  rw [Int.mul_comm] at this
  first | lia | omega
theorem dAt_range {i : Nat} : 0 ≤ dAt n k a i ∧ dAt n k a i < 2 ^ n := ⟨Int.emod_nonneg _ (Int.ne_of_gt (pow2_pos n)), Int.emod_lt_of_pos _ (pow2_pos n)⟩
theorem step_rest {i : Nat} (hi : i < k) : (vTop n k a i % b * 2 ^ n + dAt n k a i) % b = vTop n k a (i + 1) % b := by
  rw [vTop_succ hi, Int.add_emod, Int.mul_emod, Int.emod_emod, ← Int.mul_emod, ← Int.add_emod]
theorem step_quot {i : Nat} (hi : i < k) (hb : 0 < b) : vTop n k a (i + 1) / b = vTop n k a i / b * 2 ^ n + qAt n k a b i := by
  rw [vTop_succ hi]
  unfold qAt
  have h := Int.mul_ediv_add_emod (vTop n k a i) b
  have e : vTop n k a i * 2 ^ n + dAt n k a i = (vTop n k a i % b * 2 ^ n + dAt n k a i) + b * (vTop n k a i / b * 2 ^ n) := by
    conv => lhs; rw [← h]
    rw [Int.add_mul, Int.mul_assoc]; first | lia | omega
  rw [e, Int.add_mul_ediv_left _ _ (Int.ne_of_gt hb)]; first | lia | omega
theorem num_bound {i : Nat} (hb : 0 < b) (hbn : b < 2 ^ n) : 0 ≤ vTop n k a i % b * 2 ^ n + dAt n k a i ∧ vTop n k a i % b * 2 ^ n + dAt n k a i < b * 2 ^ n := by
  have h1 := Int.emod_nonneg (vTop n k a i) (Int.ne_of_gt hb)
  have h2 := Int.emod_lt_of_pos (vTop n k a i) hb
  obtain ⟨d1, d2⟩ := dAt_range (n := n) (k := k) (a := a) (i := i)
  have p := pow2_pos n
  refine ⟨Int.add_nonneg (Int.mul_nonneg h1 (Int.le_of_lt p)) d1, ?_⟩
  have : vTop n k a i % b * 2 ^ n ≤ (b - 1) * 2 ^ n := Int.mul_le_mul_of_nonneg_right (by first | lia | omega) (Int.le_of_lt p)
  rw [Int.sub_mul, Int.one_mul] at this
  first | lia | omega
theorem qAt_range {i : Nat} (hb : 0 < b) (hbn : b < 2 ^ n) : 0 ≤ qAt n k a b i ∧ qAt n k a b i < 2 ^ n := by
  obtain ⟨h1, h2⟩ := num_bound (n := n) (k := k) (a := a) (i := i) hb hbn
  exact ⟨Int.ediv_nonneg h1 (Int.le_of_lt hb), Int.ediv_lt_of_lt_mul hb (by rw [Int.mul_comm (2 ^ n) b]; exact h2)⟩
theorem qs_range {i : Nat} (hb : 0 < b) (hbn : b < 2 ^ n) : ∀ x ∈ qsAt n k a b i, 0 ≤ x ∧ x < 2 ^ n := by
  intro x hx
  obtain ⟨j, _, rfl⟩ := List.mem_map.mp hx
  exact qAt_range hb hbn
theorem qs_succ {i : Nat} : qsAt n k a b (i + 1) = qsAt n k a b i ++ [qAt n k a b i] := by simp [qsAt, List.range_succ]
theorem val_qs (hb : 0 < b) (h0 : vTop n k a 0 = 0) : ∀ i, i ≤ k → val n (qsAt n k a b i).reverse = vTop n k a i / b
  | 0, _ => by simp [qsAt, val, h0]
  | i + 1, hi => by
    rw [qs_succ, List.reverse_append, step_quot hi hb]
    simp only [List.reverse_cons, List.reverse_nil, List.nil_append, List.cons_append, val, val_qs hb h0 i (by first | lia | omega)]
    rw [Int.mul_comm]; first | lia | omega
theorem dg_rev {i : Nat} (hi : i < k) : (dg n k a).reverse[i]? = some (dAt n k a i) := by
  rw [List.getElem?_reverse (by simpa [dg_length] using hi), dg_length]
  unfold dg dAt
  simp [show k - 1 - i < k by first | lia | omega]
end
end Mine

end

section
open PySem PySem.W PyProof.Rows
set_option maxRecDepth 100000
set_option linter.unusedVariables false
namespace Mine
section
variable {C : Ctx} {fn : Fn} {fi : FI C fn} {st : ASt}
noncomputable def TurnI (fi : FI C fn) (target : Expr) (body : List Stmt) (canon : Nat → ASt) (I : Nat → Prop) (Q : AFlow → ASt → Prop) (i : Nat) (x : AV) : Prop :=
  HG fi (canon i) target x fun st2 => HS fi st2 body fun fl st3 => match fl with | .next | .cont => I (i + 1) ∧ Has st3 (canon (i + 1)) | .brk => Q .next st3 | .ret a => Q (.ret a) st3
theorem HX_forI {target iter : Expr} {body : List Stmt} {pos : Pos} {Q : AFlow → ASt → Prop} (h : HE fi st iter fun a st1 => ∃ xs, IterOk C a xs ∧ ∃ (canon : Nat → ASt) (I : Nat → Prop), (I 0 ∧ Has st1 (canon 0)) ∧ (∀ i x, xs[i]? = some x → I i → TurnI fi target body canon I Q i x) ∧ ∀ st', I xs.length → Has st' (canon xs.length) → Q .next st')
    (hs : ∀ x, foldedSetIterable iter fi.env x = pure x := by intro _; rfl) : HX fi st (.For target iter body [] pos) Q :=
  HX_for (h.mono fun a st1 ⟨xs, it, canon, I, h0, turn, fin⟩ => ⟨xs, it, fun i st' => I i ∧ Has st' (canon i), h0, fun i x st' hx hj => (turn i x hx hj.1).has hj.2, fun st' hj => fin st' hj.1 hj.2⟩) hs
end
theorem bl_le {a : Int} {k : Nat} (h : a.natAbs < 2 ^ k) : bl a ≤ k := PySem.intBits_le_iff.mpr h
theorem bl_lt (a : Int) : a.natAbs < 2 ^ bl a := PySem.intBits_le_iff.mp (Nat.le_refl _)
theorem bl_pos' {a : Int} (h : a ≠ 0) : 1 ≤ bl a := by
  rcases Nat.eq_zero_or_pos (bl a) with h0 | h0
  · have := bl_lt a
    rw [h0] at this
    simp at this; exact absurd this h
  · exact h0
theorem bl_100 {a b : Int} (hb : b ≠ 0) (h : a.natAbs ≤ 2 ^ 20 * b.natAbs) : bl a ≤ 100 * bl b := by
  have h1 := bl_pos' hb
  have h2 := bl_lt b
  have h3 : a.natAbs < 2 ^ (20 + bl b) := by
    rw [Nat.pow_add]
    exact Nat.lt_of_le_of_lt h (Nat.mul_lt_mul_of_pos_left h2 (by decide))
  have := bl_le h3
  first | lia | omega
theorem fdiv_cancel {a b c : Int} (hc : c ≠ 0) : (a * c).fdiv (b * c) = a.fdiv b := by
  rcases Int.lt_or_gt_of_ne hc with h | h
  · have e : (a * c).fdiv (b * c) = (a * -c).fdiv (b * -c) := by
      rw [Int.mul_neg, Int.mul_neg, Int.neg_fdiv_neg]
    rw [e]
    exact Int.mul_fdiv_mul_of_pos_left _ _ (by first | lia | omega)
  · exact Int.mul_fdiv_mul_of_pos_left _ _ h
theorem fmod_cancel {a b c : Int} (hc : c ≠ 0) : (a * c).fmod (b * c) = (a - a.fdiv b * b) * c := by
  rw [Int.fmod_def, fdiv_cancel hc, Int.sub_mul]
  congr 1
  rw [Int.mul_comm (a.fdiv b) b, Int.mul_assoc, Int.mul_assoc, Int.mul_comm c]
theorem range_up {a b : Int} (ha : -(2 ^ 40) ≤ a) (hb : b ≤ 2 ^ 40) (ha2 : a ≤ 2 ^ 40) (hb2 : -(2 ^ 40) ≤ b) : Builtin.Range.small a b 1 = true ∧ Builtin.Range.rangeSize a b 1 = (((b - a).toNat : Nat) : Int) := by
  have h2 : Builtin.Range.rangeSize a b 1 = (((b - a).toNat : Nat) : Int) := by
    unfold Builtin.Range.rangeSize; simp only [show (1 : Int) > 0 by decide, if_true]; split <;> (first | lia | omega)
  refine ⟨?_, h2⟩
  unfold Builtin.Range.small
  rw [h2]
  simp [Builtin.Range.rangeFitsLong]
  first | lia | omega
theorem range_down {a b : Int} (ha : -(2 ^ 40) ≤ a) (hb : b ≤ 2 ^ 40) (ha2 : a ≤ 2 ^ 40) (hb2 : -(2 ^ 40) ≤ b) : Builtin.Range.small a b (-1) = true ∧ Builtin.Range.rangeSize a b (-1) = (((a - b).toNat : Nat) : Int) := by
  have h2 : Builtin.Range.rangeSize a b (-1) = (((a - b).toNat : Nat) : Int) := by
    unfold Builtin.Range.rangeSize; simp only [show ¬ (-1 : Int) > 0 by decide, if_false, show -(-1 : Int) = 1 by decide]; split <;> (first | lia | omega)
  refine ⟨?_, h2⟩
  unfold Builtin.Range.small
  rw [h2]
  simp [Builtin.Range.rangeFitsLong]
  first | lia | omega
theorem it_up {C : Ctx} {a b : Int} (ha : -(2 ^ 40) ≤ a) (hb : b ≤ 2 ^ 40) (ha2 : a ≤ 2 ^ 40) (hb2 : -(2 ^ 40) ≤ b) : IterOk C (.obj (rangeP a b 1)) (rangeL a 1 (b - a).toNat) := iter_range (range_up ha hb ha2 hb2).1 (range_up ha hb ha2 hb2).2
theorem it_down {C : Ctx} {a b : Int} (ha : -(2 ^ 40) ≤ a) (hb : b ≤ 2 ^ 40) (ha2 : a ≤ 2 ^ 40) (hb2 : -(2 ^ 40) ≤ b) : IterOk C (.obj (rangeP a b (-1))) (rangeL a (-1) (a - b).toNat) := iter_range (range_down ha hb ha2 hb2).1 (range_down ha hb ha2 hb2).2
theorem rangeL_get {a c : Int} {n i : Nat} {x : AV} (h : (rangeL a c n)[i]? = some x) : i < n ∧ x = .int (a + i * c) := by
  have hi : i < n := by
    have := (List.getElem?_eq_some_iff.mp h).1
    simpa [rangeL] using this
  refine ⟨hi, ?_⟩
  simp [rangeL, hi] at h
  exact h.symm
theorem rangeL_len {a c : Int} {n : Nat} : (rangeL a c n).length = n := by simp [rangeL]
end Mine

end

section
open PySem PySem.W PyProof.Rows
set_option maxRecDepth 100000
set_option maxHeartbeats 8000000
namespace Mine
noncomputable abbrev pw : Program := PySem.Challenge.pw_ph0101_03
noncomputable def isDefOf (n : Str) : Stmt → Bool
  | .FunctionDef m _ _ _ _ _ _ _ _ _ => m == n
  | _ => false
noncomputable def defOf (l : List Stmt) (n : Str) : Stmt := (l.find? (isDefOf n)).getD default
noncomputable def sArgs : Stmt → Arguments
  | .FunctionDef _ a _ _ _ _ _ _ _ _ => a
  | _ => ⟨[], [], none, [], [], none, []⟩
noncomputable def sBody : Stmt → List Stmt
  | .FunctionDef _ _ b _ _ _ _ _ _ _ => b
  | _ => []
noncomputable def sScope : Stmt → Scope
  | .FunctionDef _ _ _ _ _ _ s _ _ _ => s
  | _ => default
noncomputable def dArgs (n : Str) : Arguments := sArgs (defOf pw.main.body n)
noncomputable def dBody (n : Str) : List Stmt := sBody (defOf pw.main.body n)
noncomputable def dScope (n : Str) : Scope := sScope (defOf pw.main.body n)

theorem top_len : pw.main.body.length = 16 := by rfl
noncomputable def known {p : Prop} (_ : p) (o : Obj) : Obj := o
noncomputable def K0 (P : Params) : Frag :=
  (nat_lit 2, known top_len { cls := Value.none, data := Data.dict #[] }) ::
  (nat_lit 3, { cls := Value.type "dict", data := Data.dict #[{ hash := PyData.keyHash P (Str.ofString "__name__"), key := Value.str (Str.ofString "__name__") 165, val := Value.str (Str.ofString "law_ph0101_03") 284 }, { hash := PyData.keyHash P (Str.ofString "__doc__"), key := Value.str (Str.ofString "__doc__") 166, val := Value.none }, { hash := PyData.keyHash P (Str.ofString "__package__"), key := Value.str (Str.ofString "__package__") 167, val := Value.none }, { hash := PyData.keyHash P (Str.ofString "__loader__"), key := Value.str (Str.ofString "__loader__") 168, val := Value.builtin "__main__.__loader__#opaque" }, { hash := PyData.keyHash P (Str.ofString "__spec__"), key := Value.str (Str.ofString "__spec__") 169, val := Value.none }, { hash := PyData.keyHash P (Str.ofString "__annotations__"), key := Value.str (Str.ofString "__annotations__") 170, val := Value.ref 6 }, { hash := PyData.keyHash P (Str.ofString "__builtins__"), key := Value.str (Str.ofString "__builtins__") 171, val := Value.ref 4 }, { hash := PyData.keyHash P (Str.ofString "__file__"), key := Value.str (Str.ofString "__file__") 173, val := Value.str (Str.ofString "/claim/cut.py") 172 }, { hash := PyData.keyHash P (Str.ofString "__cached__"), key := Value.str (Str.ofString "__cached__") 174, val := Value.none }, { hash := PyData.keyHash P (Str.ofString "_DIV_LIMIT"), key := Value.str (Str.ofString "_DIV_LIMIT") 190, val := Value.int 4000 189 }, { hash := PyData.keyHash P (Str.ofString "_div2n1n"), key := Value.str (Str.ofString "_div2n1n") 207, val := Value.ref 21 }, { hash := PyData.keyHash P (Str.ofString "_div3n2n"), key := Value.str (Str.ofString "_div3n2n") 221, val := Value.ref 28 }, { hash := PyData.keyHash P (Str.ofString "_int2digits"), key := Value.str (Str.ofString "_int2digits") 232, val := Value.ref 35 }, { hash := PyData.keyHash P (Str.ofString "_digits2int"), key := Value.str (Str.ofString "_digits2int") 243, val := Value.ref 42 }, { hash := PyData.keyHash P (Str.ofString "_divmod_pos"), key := Value.str (Str.ofString "_divmod_pos") 258, val := Value.ref 49 }, { hash := PyData.keyHash P (Str.ofString "int_divmod"), key := Value.str (Str.ofString "int_divmod") 268, val := Value.ref 56 }, { hash := PyData.keyHash P (Str.ofString "search_reverse"), key := Value.str (Str.ofString "search_reverse") 283, val := Value.ref 63 }, { hash := PyData.keyHash P (Str.ofString "_law_hit"), key := Value.str (Str.ofString "_law_hit") 296, val := Value.ref 70 }, { hash := PyData.keyHash P (Str.ofString "_law_program"), key := Value.str (Str.ofString "_law_program") 306, val := Value.ref 77 }, { hash := PyData.keyHash P (Str.ofString "_law_struck"), key := Value.str (Str.ofString "_law_struck") 319, val := Value.ref 84 }, { hash := PyData.keyHash P (Str.ofString "_law_place"), key := Value.str (Str.ofString "_law_place") 334, val := Value.ref 91 }, { hash := PyData.keyHash P (Str.ofString "law"), key := Value.str (Str.ofString "law") 358, val := Value.ref 98 }] 22 }) ::
  (nat_lit 6, { cls := Value.type "dict", data := Data.dict #[] }) ::
  (nat_lit 20, { cls := Value.type "code", data := Data.fields #[Value.str (Str.ofString "_div2n1n") 191, Value.str (Str.ofString "_div2n1n") 192, Value.str (Str.ofString "/claim/cut.py") 193, Value.int 3 0, Value.int 3 0, Value.int 0 0, Value.int 0 0, Value.int 3 0, Value.ref 15, Value.bool true, Value.int 181 0, Value.ref 16, Value.none, Value.ref 17, Value.ref 18, Value.ref 19, Value.int 205 0, Value.int 3 0, Value.str (Str.ofString "/claim/cut.py") 206] }) ::
  (nat_lit 21, { cls := Value.type "function", data := Data.func { name := Str.ofString "_div2n1n", qualname := Str.ofString "_div2n1n", params := dArgs (Str.ofString "_div2n1n"), body := FuncBody.stmts (dBody (Str.ofString "_div2n1n")), scope := dScope (Str.ofString "_div2n1n"), globals := 3, closure := [], defaults := Value.none, kwdefaults := Value.none, pyModule := Value.str (Str.ofString "cpy313._pylong") 187, code := Value.ref 20 } }) ::
  (nat_lit 27, { cls := Value.type "code", data := Data.fields #[Value.str (Str.ofString "_div3n2n") 208, Value.str (Str.ofString "_div3n2n") 209, Value.str (Str.ofString "/claim/cut.py") 210, Value.int 19 0, Value.int 6 0, Value.int 0 0, Value.int 0 0, Value.int 3 0, Value.ref 22, Value.bool true, Value.int 181 0, Value.ref 23, Value.none, Value.ref 24, Value.ref 25, Value.ref 26, Value.int 219 0, Value.int 19 0, Value.str (Str.ofString "/claim/cut.py") 220] }) ::
  (nat_lit 28, { cls := Value.type "function", data := Data.func { name := Str.ofString "_div3n2n", qualname := Str.ofString "_div3n2n", params := dArgs (Str.ofString "_div3n2n"), body := FuncBody.stmts (dBody (Str.ofString "_div3n2n")), scope := dScope (Str.ofString "_div3n2n"), globals := 3, closure := [], defaults := Value.none, kwdefaults := Value.none, pyModule := Value.str (Str.ofString "cpy313._pylong") 187, code := Value.ref 27 } }) ::
  (nat_lit 34, { cls := Value.type "code", data := Data.fields #[Value.str (Str.ofString "_int2digits") 222, Value.str (Str.ofString "_int2digits") 223, Value.str (Str.ofString "/claim/cut.py") 224, Value.int 29 0, Value.int 2 0, Value.int 0 0, Value.int 0 0, Value.int 3 0, Value.ref 29, Value.bool true, Value.int 181 0, Value.ref 30, Value.none, Value.ref 31, Value.ref 32, Value.ref 33, Value.int 230 0, Value.int 29 0, Value.str (Str.ofString "/claim/cut.py") 231] }) ::
  (nat_lit 35, { cls := Value.type "function", data := Data.func { name := Str.ofString "_int2digits", qualname := Str.ofString "_int2digits", params := dArgs (Str.ofString "_int2digits"), body := FuncBody.stmts (dBody (Str.ofString "_int2digits")), scope := dScope (Str.ofString "_int2digits"), globals := 3, closure := [], defaults := Value.none, kwdefaults := Value.none, pyModule := Value.str (Str.ofString "cpy313._pylong") 187, code := Value.ref 34 } }) ::
  (nat_lit 41, { cls := Value.type "code", data := Data.fields #[Value.str (Str.ofString "_digits2int") 233, Value.str (Str.ofString "_digits2int") 234, Value.str (Str.ofString "/claim/cut.py") 235, Value.int 45 0, Value.int 2 0, Value.int 0 0, Value.int 0 0, Value.int 3 0, Value.ref 36, Value.bool true, Value.int 181 0, Value.ref 37, Value.none, Value.ref 38, Value.ref 39, Value.ref 40, Value.int 241 0, Value.int 45 0, Value.str (Str.ofString "/claim/cut.py") 242] }) ::
  (nat_lit 42, { cls := Value.type "function", data := Data.func { name := Str.ofString "_digits2int", qualname := Str.ofString "_digits2int", params := dArgs (Str.ofString "_digits2int"), body := FuncBody.stmts (dBody (Str.ofString "_digits2int")), scope := dScope (Str.ofString "_digits2int"), globals := 3, closure := [], defaults := Value.none, kwdefaults := Value.none, pyModule := Value.str (Str.ofString "cpy313._pylong") 187, code := Value.ref 41 } }) ::
  (nat_lit 48, { cls := Value.type "code", data := Data.fields #[Value.str (Str.ofString "_divmod_pos") 244, Value.str (Str.ofString "_divmod_pos") 245, Value.str (Str.ofString "/claim/cut.py") 246, Value.int 54 0, Value.int 2 0, Value.int 0 0, Value.int 0 0, Value.int 3 0, Value.ref 43, Value.bool true, Value.int 181 0, Value.ref 44, Value.none, Value.ref 45, Value.ref 46, Value.ref 47, Value.int 256 0, Value.int 54 0, Value.str (Str.ofString "/claim/cut.py") 257] }) ::
  (nat_lit 49, { cls := Value.type "function", data := Data.func { name := Str.ofString "_divmod_pos", qualname := Str.ofString "_divmod_pos", params := dArgs (Str.ofString "_divmod_pos"), body := FuncBody.stmts (dBody (Str.ofString "_divmod_pos")), scope := dScope (Str.ofString "_divmod_pos"), globals := 3, closure := [], defaults := Value.none, kwdefaults := Value.none, pyModule := Value.str (Str.ofString "cpy313._pylong") 187, code := Value.ref 48 } }) ::
  (nat_lit 55, { cls := Value.type "code", data := Data.fields #[Value.str (Str.ofString "int_divmod") 259, Value.str (Str.ofString "int_divmod") 260, Value.str (Str.ofString "/claim/cut.py") 261, Value.int 65 0, Value.int 2 0, Value.int 0 0, Value.int 0 0, Value.int 3 0, Value.ref 50, Value.bool true, Value.int 181 0, Value.ref 51, Value.none, Value.ref 52, Value.ref 53, Value.ref 54, Value.int 266 0, Value.int 65 0, Value.str (Str.ofString "/claim/cut.py") 267] }) ::
  (nat_lit 56, { cls := Value.type "function", data := Data.func { name := Str.ofString "int_divmod", qualname := Str.ofString "int_divmod", params := dArgs (Str.ofString "int_divmod"), body := FuncBody.stmts (dBody (Str.ofString "int_divmod")), scope := dScope (Str.ofString "int_divmod"), globals := 3, closure := [], defaults := Value.none, kwdefaults := Value.none, pyModule := Value.str (Str.ofString "cpy313._pylong") 187, code := Value.ref 55 } }) ::
  (nat_lit 62, { cls := Value.type "code", data := Data.fields #[Value.str (Str.ofString "search_reverse") 271, Value.str (Str.ofString "search_reverse") 272, Value.str (Str.ofString "/claim/cut.py") 273, Value.int 77 0, Value.int 3 0, Value.int 0 0, Value.int 0 0, Value.int 3 0, Value.ref 57, Value.bool true, Value.int 181 0, Value.ref 58, Value.none, Value.ref 59, Value.ref 60, Value.ref 61, Value.int 281 0, Value.int 77 0, Value.str (Str.ofString "/claim/cut.py") 282] }) ::
  (nat_lit 63, { cls := Value.type "function", data := Data.func { name := Str.ofString "search_reverse", qualname := Str.ofString "search_reverse", params := dArgs (Str.ofString "search_reverse"), body := FuncBody.stmts (dBody (Str.ofString "search_reverse")), scope := dScope (Str.ofString "search_reverse"), globals := 3, closure := [], defaults := Value.none, kwdefaults := Value.none, pyModule := Value.str (Str.ofString "cpy313.idlelib.searchengine") 269, code := Value.ref 62 } }) ::
  (nat_lit 69, { cls := Value.type "code", data := Data.fields #[Value.str (Str.ofString "_law_hit") 286, Value.str (Str.ofString "_law_hit") 287, Value.str (Str.ofString "/claim/cut.py") 288, Value.int 93 0, Value.int 2 0, Value.int 0 0, Value.int 0 0, Value.int 3 0, Value.ref 64, Value.bool true, Value.int 181 0, Value.ref 65, Value.none, Value.ref 66, Value.ref 67, Value.ref 68, Value.int 294 0, Value.int 93 0, Value.str (Str.ofString "/claim/cut.py") 295] }) ::
  (nat_lit 70, { cls := Value.type "function", data := Data.func { name := Str.ofString "_law_hit", qualname := Str.ofString "_law_hit", params := dArgs (Str.ofString "_law_hit"), body := FuncBody.stmts (dBody (Str.ofString "_law_hit")), scope := dScope (Str.ofString "_law_hit"), globals := 3, closure := [], defaults := Value.none, kwdefaults := Value.none, pyModule := Value.str (Str.ofString "law_ph0101_03") 284, code := Value.ref 69 } }) ::
  (nat_lit 76, { cls := Value.type "code", data := Data.fields #[Value.str (Str.ofString "_law_program") 297, Value.str (Str.ofString "_law_program") 298, Value.str (Str.ofString "/claim/cut.py") 299, Value.int 97 0, Value.int 1 0, Value.int 0 0, Value.int 0 0, Value.int 3 0, Value.ref 71, Value.bool true, Value.int 181 0, Value.ref 72, Value.none, Value.ref 73, Value.ref 74, Value.ref 75, Value.int 304 0, Value.int 97 0, Value.str (Str.ofString "/claim/cut.py") 305] }) ::
  (nat_lit 77, { cls := Value.type "function", data := Data.func { name := Str.ofString "_law_program", qualname := Str.ofString "_law_program", params := dArgs (Str.ofString "_law_program"), body := FuncBody.stmts (dBody (Str.ofString "_law_program")), scope := dScope (Str.ofString "_law_program"), globals := 3, closure := [], defaults := Value.none, kwdefaults := Value.none, pyModule := Value.str (Str.ofString "law_ph0101_03") 284, code := Value.ref 76 } }) ::
  (nat_lit 83, { cls := Value.type "code", data := Data.fields #[Value.str (Str.ofString "_law_struck") 307, Value.str (Str.ofString "_law_struck") 308, Value.str (Str.ofString "/claim/cut.py") 309, Value.int 106 0, Value.int 2 0, Value.int 0 0, Value.int 0 0, Value.int 3 0, Value.ref 78, Value.bool true, Value.int 181 0, Value.ref 79, Value.none, Value.ref 80, Value.ref 81, Value.ref 82, Value.int 317 0, Value.int 106 0, Value.str (Str.ofString "/claim/cut.py") 318] }) ::
  (nat_lit 84, { cls := Value.type "function", data := Data.func { name := Str.ofString "_law_struck", qualname := Str.ofString "_law_struck", params := dArgs (Str.ofString "_law_struck"), body := FuncBody.stmts (dBody (Str.ofString "_law_struck")), scope := dScope (Str.ofString "_law_struck"), globals := 3, closure := [], defaults := Value.none, kwdefaults := Value.none, pyModule := Value.str (Str.ofString "law_ph0101_03") 284, code := Value.ref 83 } }) ::
  (nat_lit 90, { cls := Value.type "code", data := Data.fields #[Value.str (Str.ofString "_law_place") 320, Value.str (Str.ofString "_law_place") 321, Value.str (Str.ofString "/claim/cut.py") 322, Value.int 116 0, Value.int 4 0, Value.int 0 0, Value.int 0 0, Value.int 3 0, Value.ref 85, Value.bool true, Value.int 181 0, Value.ref 86, Value.none, Value.ref 87, Value.ref 88, Value.ref 89, Value.int 332 0, Value.int 116 0, Value.str (Str.ofString "/claim/cut.py") 333] }) ::
  (nat_lit 91, { cls := Value.type "function", data := Data.func { name := Str.ofString "_law_place", qualname := Str.ofString "_law_place", params := dArgs (Str.ofString "_law_place"), body := FuncBody.stmts (dBody (Str.ofString "_law_place")), scope := dScope (Str.ofString "_law_place"), globals := 3, closure := [], defaults := Value.none, kwdefaults := Value.none, pyModule := Value.str (Str.ofString "law_ph0101_03") 284, code := Value.ref 90 } }) ::
  (nat_lit 97, { cls := Value.type "code", data := Data.fields #[Value.str (Str.ofString "law") 335, Value.str (Str.ofString "law") 336, Value.str (Str.ofString "/claim/cut.py") 337, Value.int 125 0, Value.int 1 0, Value.int 0 0, Value.int 0 0, Value.int 3 0, Value.ref 92, Value.bool true, Value.int 181 0, Value.ref 93, Value.none, Value.ref 94, Value.ref 95, Value.ref 96, Value.int 356 0, Value.int 125 0, Value.str (Str.ofString "/claim/cut.py") 357] }) ::
  (nat_lit 98, { cls := Value.type "function", data := Data.func { name := Str.ofString "law", qualname := Str.ofString "law", params := dArgs (Str.ofString "law"), body := FuncBody.stmts (dBody (Str.ofString "law")), scope := dScope (Str.ofString "law"), globals := 3, closure := [], defaults := Value.none, kwdefaults := Value.none, pyModule := Value.str (Str.ofString "law_ph0101_03") 284, code := Value.ref 97 } }) ::
  []
noncomputable def K0as : List Addr := [2, 3, 6, 20, 21, 27, 28, 34, 35, 41, 42, 48, 49, 55, 56, 62, 63, 69, 70, 76, 77, 83, 84, 90, 91, 97, 98]
theorem K0_at (P : Params) : K0as = (K0 P).map (·.1) := rfl
end Mine

end

section
open PySem PySem.W PyProof.Rows
set_option maxRecDepth 100000
set_option linter.unusedVariables false
namespace Mine
noncomputable def HasDef (C : Ctx) (n : Str) (f : Addr) : Prop := Glob C n (.ref f) ∧ ∃ pm cdv ct, IsFn C.h₁.get? f (fnOf n n (dArgs n) (dBody n) (dScope n) .none .none .none pm none cdv ct)
theorem hasDef_of {C : Ctx} {n : Str} {f : Addr} {K : Frag} {oc pm cdv ct : Value} {od : Option Addr} {osl : Array (Option Value)} (hK : C.K = K) (e1 : nsIn K mainGlobals n = some (some (.ref f)))
    (e2 : K.lookup f = some ⟨oc, od, .func (fnOf n n (dArgs n) (dBody n) (dScope n) .none .none .none pm none cdv ct), osl⟩) (e3 : codeIn K cdv n = true) : HasDef C n f := by
  subst hK
  refine ⟨.inl (mg_of C.X C.T.g e1), pm, cdv, ct, _, C.X _ _ e2, rfl, ?_⟩
  obtain ⟨c, o, vs, t, q1, q2, q3, q4⟩ := codeRec_of C.X e3
  exact ⟨c, o, vs, t, q1, q2, q3, q4⟩
noncomputable def HasB (C : Ctx) (x : Str) (v : Value) : Prop := Glob C x v
theorem hasB_of {C : Ctx} {x : Str} {v : Value} {K : Frag} (hK : C.K = K) (e1 : nsIn K mainGlobals x = some none) (e2 : bootBuiltins x = some v) (hn : x ≠ "__name__") : Glob C x v := by
  subst hK
  exact .inr ⟨mg_none_of C.X C.T.g e1, (C.T.builtins x hn).trans e2⟩
theorem hasV_of {C : Ctx} {x : Str} {v : Value} {K : Frag} (hK : C.K = K) (e1 : nsIn K mainGlobals x = some (some v)) : Glob C x v := by
  subst hK
  exact .inl (mg_of C.X C.T.g e1)

noncomputable def okDef (n : Str) (ps : List Str) : Bool :=
  decide ps.Nodup && (dScope n).names.all (fun x => x.2 != .cell && x.2 != .free) && ps.all (fun x => (dScope n).names.lookup x == some .local) && !(dScope n).isCoroutine && !(dScope n).isGenerator && ((dScope n).kind == .function)
theorem Call_of {C : Ctx} {n : Str} {f : Addr} {xs : List AV} {Q : AV → Prop} {d : Nat} (ps : List Str) (hf : HasDef C n f) (hok : okDef n ps = true)
    (hbind : ∀ pm cdv ct (vs : List Value), vs.length = ps.length → bindArgs (fnOf n n (dArgs n) (dBody n) (dScope n) .none .none .none pm none cdv ct) ⟨vs, []⟩ = pure (ps.zip vs)) (hlen : xs.length = ps.length)
    (h : ∀ fi : FI C ⟨n, dScope n⟩, fi.d = d → HS fi (ps.zip (xs.map Slot.v)) (dBody n) (RetQ Q)) : Call C (d + 1) f xs Q := by
  obtain ⟨_, pm, cdv, ct, hf⟩ := hf
  unfold okDef at hok
  simp only [Bool.and_eq_true, decide_eq_true_eq, List.all_eq_true, bne_iff_ne, beq_iff_eq, Bool.not_eq_true'] at hok
  obtain ⟨⟨⟨⟨⟨h1, h2⟩, h3⟩, h4⟩, h5⟩, h6⟩ := hok
  exact Call_def ps hf rfl rfl rfl (hbind pm cdv ct) hlen h1 h2 h3 (fun fi hd _ => h fi hd) h4 h5 h6
theorem HE_callD {C : Ctx} {fn : Fn} {fi : FI C fn} {st : ASt} {x : Str} {np pos : Pos} {es : List Expr} {f : Addr} {Q : AV → ASt → Prop} (hf : HasDef C x f)
    (h : HL fi st es fun as st1 => Call C fi.d f as fun a => Q a st1) (hp : es.all plainE = true := by rfl)
    (hx : fn.scope.names.lookup x = some .globalImplicit := by rfl) (ho : okName x = true := by rfl) (hk : fn.scope.kind = .function := by rfl) : HE fi st (.Call (.Name x np) es [] pos) Q := by
  obtain ⟨hg, pm, cdv, ct, hf⟩ := hf
  exact HE_call hg hf h hp hx ho hk
structure Tops (C : Ctx) : Prop where
  hK : C.K = K0 C.w.params
section
variable {C : Ctx} (hK : C.K = K0 C.w.params)
include hK
theorem d_int_divmod : ∃ f, HasDef C (Str.ofString "int_divmod") f := ⟨_, hasDef_of hK rfl rfl rfl⟩
theorem d_div2n1n : ∃ f, HasDef C (Str.ofString "_div2n1n") f := ⟨_, hasDef_of hK rfl rfl rfl⟩
theorem g_divmod : Glob C (Str.ofString "divmod") (.builtin "divmod") := hasB_of hK rfl (by decide +kernel) (by decide +kernel)
theorem g_lim : ∃ t, Glob C (Str.ofString "_DIV_LIMIT") (.int 4000 t) := ⟨_, hasV_of hK rfl⟩
end
end Mine

end

section
open PySem PySem.W PyProof.Rows
set_option maxRecDepth 100000
set_option linter.unusedVariables false
namespace Mine
theorem op_le' {C : Ctx} {d : Nat} {a b : Int} {t : Tok} {Q : AV → Prop} (q : Q (.bool (decide (a ≤ b)))) : Op2 C d (compareOp .LtE) (.int a) (.val (.int b t)) Q :=
  fun A F s v u Qr E g r1 r2 k => op_le q A F s v u Qr E g r1 (by simp only [Repr] at r2; subst r2; exact rInt) k
section
variable {C : Ctx} (hK : C.K = K0 C.w.params)
include hK
theorem div2n1n_ok {a b n : Int} {d : Nat} (hb : b ≠ 0) (hbl : bl b ≤ 8000) (hn : (bl a : Int) - n ≤ 4000) {f : Addr} (hf : HasDef C (Str.ofString "_div2n1n") f) :
    Call C (d + 1) f [.int a, .int b, .int n] (fun r => r = .tup [.int (a.fdiv b), .int (a.fmod b)]) := by
  obtain ⟨t, hlim⟩ := g_lim hK
  have hdm := g_divmod hK
  refine Call_of [Str.ofString "a", Str.ofString "b", Str.ofString "n"] hf rfl (by intro _ _ _ vs h; obtain ⟨x, y, z, rfl⟩ := len3 h; rfl) rfl (fun fi hd => ?_)
  refine HS_cons ?_
  refine HX_if ?_
  refine HT_cmp ?_
  refine HE_bin ?_
  refine HE_meth PySem.F.plainAttrs_int PySem.F.slot_int_bit_length PySem.F.type_int_bit_length ?_
  refine HE_name rfl ?_
  refine ⟨hasT_int, ?_⟩
  refine HL_nil ?_
  refine op_bitlen ?_
  refine HE_name rfl ?_
  refine op_sub ?_
  refine HE_glob hlim ?_
  refine op_le' ?_
  refine truth_bool ?_
  rw [decide_eq_true hn]
  refine HS_cons ?_
  refine HX_ret ?_
  refine HE_callB hdm (fun _ q => nomatch q) ?_
  refine HL_cons ?_
  refine HE_name rfl ?_
  refine HL_cons ?_
  refine HE_name rfl ?_
  refine HL_nil ?_
  refine op_divmod hb hbl ?_
  exact rfl
end
end Mine

end

section
open PySem PySem.W PyProof.Rows
set_option maxRecDepth 100000
set_option linter.unusedVariables false
namespace Mine
noncomputable def mD2I : Made := ⟨Str.ofString "inner", Str.ofString "_digits2int.<locals>.inner", sArgs (defOf (dBody (Str.ofString "_digits2int")) (Str.ofString "inner")), .stmts (sBody (defOf (dBody (Str.ofString "_digits2int")) (Str.ofString "inner"))), sScope (defOf (dBody (Str.ofString "_digits2int")) (Str.ofString "inner"))⟩
noncomputable abbrev intL (l : List Int) : List AV := l.map AV.int
theorem intL_get {l : List Int} {i : Nat} {x : Int} (h : l[i]? = some x) : (intL l)[i]? = some (.int x) := by simp [intL, h]
theorem take_split {ds : List Int} {L M R : Nat} (h1 : L ≤ M) (h2 : M ≤ R) : (ds.drop L).take (R - L) = (ds.drop L).take (M - L) ++ (ds.drop M).take (R - M) := by
  have e : R - L = (M - L) + (R - M) := by first | lia | omega
  rw [e, List.take_add, List.drop_drop, show L + (M - L) = M by first | lia | omega]
theorem mid_facts {L R M k : Nat} (h1 : L < R) (h3 : R - L ≤ k + 1) (h : ¬ L + 1 = R) (hM : M = (L + R) / 2) : L < M ∧ M < R ∧ M - L ≤ k ∧ R - M ≤ k ∧ R - M + (M - L) = R - L := by
  have a1 : L < M := by lia
  have a2 : M < R := by lia
  clear hM h
  exact ⟨a1, a2, by lia, by lia, by lia⟩
theorem sub_mulOk {M L : Nat} {b : Int} (h : L ≤ M) (h2 : M - L ≤ 1000000) : IntMulOk ((M : Int) - L) b := IntMulOk.of_left (Nat.le_trans (bl_of_lt (k := 30) (by first | lia | omega) (by first | lia | omega)) (by decide))
theorem mid_nat (L R : Nat) : ((L : Int) + R).fdiv (2 ^ Int.toNat 1) = (((L + R) / 2 : Nat) : Int) := by
  show ((L : Int) + R).fdiv 2 = _
  rw [Int.fdiv_eq_ediv_of_nonneg _ (by decide)]
  first | lia | omega
theorem seg_bound {ds : List Int} {n L k : Nat} (hds : ∀ x ∈ ds, 0 ≤ x ∧ x < 2 ^ n) (hk : L + k ≤ ds.length) : 0 ≤ val n ((ds.drop L).take k) ∧ val n ((ds.drop L).take k) < 2 ^ (n * k) := by
  have := val_bound n ((ds.drop L).take k) fun x hx => hds x (List.mem_of_mem_drop (List.mem_of_mem_take hx))
  rwa [List.length_take, List.length_drop, Nat.min_eq_left (by first | lia | omega)] at this
section
variable {C : Ctx}
theorem d2i_inner {clos : List (Str × Addr)} (hcl : (clos.lookup (Str.ofString "inner")).isSome = true) {ds : List Int} {n : Nat} (hds : ∀ x ∈ ds, 0 ≤ x ∧ x < 2 ^ n) (hn : n * ds.length ≤ 100000) (hl : ds.length ≤ 1000000) :
    ∀ k L R : Nat, L < R → R ≤ ds.length → R - L ≤ k → CallP C (k + 1) (cloP mD2I clos .none [] (Str.ofString "inner") [(Str.ofString "digits", .lst (intL ds)), (Str.ofString "n", .int n)]) [.int L, .int R]
      (fun r => r = .int (val n ((ds.drop L).take (R - L)))) := by
  intro k
  induction k with
  | zero => intro L R h1 h2 h3; first | lia | omega
  | succ k ih =>
    intro L R h1 h2 h3
    refine CallP_clo' (d := k + 1) [Str.ofString "L", Str.ofString "R"] [.int L, .int R] rfl rfl (fun _ => rfl) (fun F s f vs doc pm cv ctv hs hp r => ⟨vs, r, ?_⟩) rfl (fun fi hd hc F f hp => ?_)
    · simp only [ReprL] at r
      obtain ⟨x, _, rfl, _, y, _, rfl, _, rfl⟩ := r
      exact BindsTo.of_eq rfl
    rw [if_pos hcl]
    refine HS_cons (HX_if (HT_cmp (HE_bin (HE_name rfl (HE_int (op_add (HE_name rfl (op_eq (truth_bool ?_)))))))))
    by_cases hLR : L + 1 = R
    · rw [show ((L : Int) + 1 == (R : Int)) = true by simp; first | lia | omega]
      refine HS_cons (HX_ret (HE_sub (HE_name rfl (HE_name rfl ?_))))
      have hx : ds[L]? = some (ds[L]'(by first | lia | omega)) := by simp
      refine sub_lst (by first | lia | omega) (by first | lia | omega) (x := .int (ds[L]'(by first | lia | omega))) (by simp [intL]) ?_
      show AV.int _ = _
      subst hLR
      rw [show L + 1 - L = 1 by first | lia | omega, List.take_one, List.head?_drop, hx]
      simp [val]
    · rw [show ((L : Int) + 1 == (R : Int)) = false by simp; first | lia | omega]
      refine HS_nil ?_
      refine HS_cons (HX_assign (HE_bin (HE_bin (HE_name rfl (HE_name rfl (op_add (HE_int (op_shr (by decide) ?_))))))))
      rw [mid_nat]
      obtain ⟨M, hM⟩ : ∃ M, M = (L + R) / 2 := ⟨_, rfl⟩
      rw [← hM]
      obtain ⟨m1, m2, m3, m4, m5⟩ := mid_facts h1 h3 hLR hM
      clear hLR hM
      have m6 := Nat.le_of_lt m1
      have m7 := Nat.le_of_lt m2
      have m8 : M - L ≤ ds.length := Nat.le_trans (Nat.sub_le _ _) (Nat.le_trans m7 h2)
      have hb1 : n * (M - L) ≤ 100000 := Nat.le_trans (Nat.mul_le_mul_left n m8) hn
      have hb2 : n * (R - M) + n * (M - L) ≤ 100000 := by rw [← Nat.mul_add, m5]; exact Nat.le_trans (Nat.mul_le_mul_left n (Nat.le_trans (Nat.sub_le _ _) h2)) hn
      have hsh : ((M : Int) - L) * n = ((n * (M - L) : Nat) : Int) := by
        rw [Nat.mul_comm]; push_cast; rw [Int.ofNat_sub m6]
      have s1 := seg_bound (L := M) (k := R - M) hds (by rw [Nat.add_sub_cancel' m7]; exact h2)
      have s2 := seg_bound (L := L) (k := M - L) hds (by rw [Nat.add_sub_cancel' m6]; exact Nat.le_trans m7 h2)
      refine HS_cons (HX_assign (HE_bin (HE_bin (HE_name rfl (HE_name rfl (op_sub (HE_name rfl (op_mul ?_ ?_))))))))
      · exact sub_mulOk m6 (Nat.le_trans m8 hl)
      rw [hsh]
      refine HS_cons (HX_ret (HE_bin (HE_bin (HE_callV rfl cloP_fn (HL_cons (HE_name rfl (HL_cons (HE_name rfl (HL_nil ?_)))))))))
      refine CallP.mono (hd.symm ▸ ih M R m2 h2 m4) ?_
      rintro _ rfl
      refine HE_name rfl (op_shl (Int.natCast_nonneg _) ?_ ?_)
      · have q1 := bl_of_lt s1.1 s1.2
        clear s1 s2 hds ih
        first | lia | omega
      refine HE_callV rfl cloP_fn (HL_cons (HE_name rfl (HL_cons (HE_name rfl (HL_nil ?_)))))
      refine CallP.mono (hd.symm ▸ ih L M m1 (Nat.le_trans m7 h2) m3) ?_
      rintro _ rfl
      refine op_add ?_
      show AV.int _ = _
      rw [take_split (L := L) (M := M) (R := R) m6 m7, val_append, Int.toNat_natCast, List.length_take, List.length_drop, Nat.min_eq_left (Nat.sub_le_sub_right (Nat.le_trans m7 h2) L), Int.add_comm, Int.mul_comm]
end
end Mine

end

section
open PySem PySem.W PyProof.Rows
set_option maxRecDepth 100000
set_option linter.unusedVariables false
namespace Mine
noncomputable def sPos : Stmt → Pos
  | .FunctionDef _ _ _ _ _ _ _ _ _ p => p
  | _ => default
noncomputable def HasDefT (C : Ctx) (n : Str) (f : Addr) (ents : List (Pos × Str)) : Prop := Glob C n (.ref f) ∧ ∃ t ∈ C.tabs, t.ents = ents ∧ ∃ pm ct, IsFn C.h₁.get? f (fnOf n n (dArgs n) (dBody n) (dScope n) .none .none .none pm none (.ref t.c) ct)
theorem HasDefT.toDef {C : Ctx} {n : Str} {f : Addr} {ents : List (Pos × Str)} (h : HasDefT C n f ents) : HasDef C n f := by
  obtain ⟨h1, t, _, _, pm, ct, x⟩ := h
  exact ⟨h1, pm, _, ct, x⟩
noncomputable def okDefC (n : Str) (ps : List Str) : Bool :=
  decide ps.Nodup && (dScope n).names.all (fun x => x.2 != .free) && ps.all (fun x => (dScope n).names.lookup x == some .local || (dScope n).names.lookup x == some .cell) && !(dScope n).isCoroutine && !(dScope n).isGenerator && ((dScope n).kind == .function)
theorem Call_ofC {C : Ctx} {n : Str} {f : Addr} {xs : List AV} {Q : AV → Prop} {d : Nat} {ents : List (Pos × Str)} (ps : List Str) (hf : HasDefT C n f ents) (hok : okDefC n ps = true)
    (hbind : ∀ pm cdv ct (vs : List Value), vs.length = ps.length → bindArgs (fnOf n n (dArgs n) (dBody n) (dScope n) .none .none .none pm none cdv ct) ⟨vs, []⟩ = pure (ps.zip vs)) (hlen : xs.length = ps.length)
    (h : ∀ fi : FI C ⟨n, dScope n⟩, fi.d = d → fi.cl = cellsFrom (fi.L + 1) (dScope n).names [] → ∀ t ∈ C.tabs, t.ents = ents → fi.cd = .ref t.c → HS fi (ps.zip (xs.map Slot.v)) (dBody n) (RetQ Q)) : Call C (d + 1) f xs Q := by
  obtain ⟨_, t, ht, hents, pm, ct, hf⟩ := hf
  unfold okDefC at hok
  simp only [Bool.and_eq_true, Bool.or_eq_true, decide_eq_true_eq, List.all_eq_true, bne_iff_ne, beq_iff_eq, Bool.not_eq_true'] at hok
  obtain ⟨⟨⟨⟨⟨h1, h2⟩, h3⟩, h4⟩, h5⟩, h6⟩ := hok
  intro A F s vs Qr E g r b
  exact enterC ps g b (hf.mono g.base) r rfl rfl rfl rfl (hbind _ _ _ vs ((ReprL.length r).trans hlen)) hlen h1 h2 h3 (fun fi e1 e2 e3 => h fi e1 e3 t ht hents e2) h4 h5 h6
noncomputable def entsD2I : List (Pos × Str) := [(sPos (defOf (dBody (Str.ofString "_digits2int")) (Str.ofString "inner")), Str.ofString "_digits2int.<locals>.inner")]
section
variable {C : Ctx} (hK : C.K = K0 C.w.params)
include hK
theorem g_len : Glob C (Str.ofString "len") (.builtin "len") := hasB_of hK rfl (by decide +kernel) (by decide +kernel)
theorem d2i_ok {ds : List Int} {n : Nat} {d : Nat} (hds : ∀ x ∈ ds, 0 ≤ x ∧ x < 2 ^ n) (hn : n * ds.length ≤ 100000) (hl : ds.length ≤ d) (hd : d ≤ 1000) {f : Addr} (hf : HasDefT C (Str.ofString "_digits2int") f entsD2I) :
    Call C (d + 2) f [.lst (intL ds), .int n] (fun r => r = .int (val n ds)) := by
  have hlen := g_len hK
  refine Call_ofC (d := d + 1) [Str.ofString "digits", Str.ofString "n"] hf rfl (by intro _ _ _ vs h; obtain ⟨x, y, rfl⟩ := len2 h; rfl) rfl (fun fi hd' hcl t ht hents hcd => ?_)
  refine HS_cons (HX_def (clos := [(Str.ofString "n", fi.L + 2), (Str.ofString "inner", fi.L + 3), (Str.ofString "digits", fi.L + 1)]) ht hcd (by rw [hents]; exact List.mem_singleton.mpr rfl) (by show closureFor _ (envX _ _ _ _ _ fi.cl) = _; rw [hcl]; rfl) ?_)
  refine HS_cons (HX_ret (HE_ifexp (HT_val (HE_name rfl (truth_lst (by simp [intL]; first | lia | omega) ?_)))))
  by_cases hds0 : ds = []
  · subst hds0
    exact HE_int rfl
  · rw [show (!(intL ds).isEmpty) = true by simp [intL, hds0]]
    have h1 : 0 < ds.length := List.length_pos_iff.mpr hds0
    refine HE_callOwn (m := mD2I) (clos := [(Str.ofString "n", fi.L + 2), (Str.ofString "inner", fi.L + 3), (Str.ofString "digits", fi.L + 1)]) (caps := [(Str.ofString "digits", .lst (intL ds)), (Str.ofString "n", .int n)]) rfl ?_ rfl ?_ ?_ ?_ (HL_cons (HE_int (HL_cons (HE_callB hlen nb (HL_cons (HE_name rfl (HL_nil (op_len_lst (by simp [intL]; first | lia | omega) (HL_nil ⟨rfl, ?_⟩))))))))) 
    · intro y av hy
      simp only [List.mem_cons, List.not_mem_nil, or_false, Prod.mk.injEq] at hy
      rcases hy with ⟨rfl, rfl⟩ | ⟨rfl, rfl⟩ <;> exact ⟨rfl, rfl⟩
    · intro y c hy
      have := mem_of_lk hy
      rw [hcl]
      simp only [List.mem_cons, List.not_mem_nil, or_false, Prod.mk.injEq] at this
      rcases this with ⟨rfl, rfl⟩ | ⟨rfl, rfl⟩ | ⟨rfl, rfl⟩ <;> rfl
    · intro y av hy
      simp only [List.mem_cons, List.not_mem_nil, or_false, Prod.mk.injEq] at hy
      rcases hy with ⟨rfl, rfl⟩ | ⟨rfl, rfl⟩ <;> exact ⟨_, rfl⟩
    · intro c hc
      rw [hcl] at hc
      exact hc
    · have key := d2i_inner (C := C) (clos := [(Str.ofString "n", fi.L + 2), (Str.ofString "inner", fi.L + 3), (Str.ofString "digits", fi.L + 1)]) rfl hds hn (by first | lia | omega) d 0 ds.length h1 (Nat.le_refl _) (by first | lia | omega)
      rw [hd']
      refine CallP.mono (by simpa [intL] using key) ?_
      rintro _ rfl
      refine ⟨rfl, ?_⟩
      show AV.int _ = _
      simp
end
end Mine

end

section
open PySem PySem.W PyProof.Rows
set_option maxRecDepth 100000
set_option linter.unusedVariables false
namespace Mine
noncomputable def mI2D : Made := ⟨Str.ofString "inner", Str.ofString "_int2digits.<locals>.inner", sArgs (defOf (dBody (Str.ofString "_int2digits")) (Str.ofString "inner")), .stmts (sBody (defOf (dBody (Str.ofString "_int2digits")) (Str.ofString "inner"))), sScope (defOf (dBody (Str.ofString "_int2digits")) (Str.ofString "inner"))⟩
noncomputable def entsI2D : List (Pos × Str) := [(sPos (defOf (dBody (Str.ofString "_int2digits")) (Str.ofString "inner")), Str.ofString "_int2digits.<locals>.inner")]
theorem intL_set {ds : List Int} {i : Nat} {x : Int} : (intL ds).set i (.int x) = intL (ds.set i x) := by simp [intL, List.map_set]
section
variable {C : Ctx}
theorem i2d_inner {clos : List (Str × Addr)} {l : Addr} {n : Nat} :
    ∀ (k : Nat) (ds : List Int) (x : Int) (L R : Nat), L < R → R ≤ ds.length → R - L ≤ k → n * ds.length ≤ 100000 → ds.length ≤ 1000000 → 0 ≤ x → x < 2 ^ (n * (R - L)) →
      CallM C (k + 1) (cloM mI2D clos (Str.ofString "inner") (Str.ofString "a_digits") l [(Str.ofString "n", .int n)]) l (intL ds) [.int x, .int L, .int R] (intL (wr ds L (dg n (R - L) x))) := by
  intro k
  induction k with
  | zero => intro ds x L R h1 h2 h3; first | lia | omega
  | succ k ih =>
    intro ds x L R h1 h2 h3 hn hl hx0 hx1
    refine CallM_clo (d := k + 1) [Str.ofString "x", Str.ofString "L", Str.ofString "R"] rfl rfl (by intro _ _ _ _ vs h; obtain ⟨x, y, z, rfl⟩ := len3 h; rfl) rfl (fun fi hd hc => ?_) (by decide +kernel)
    refine HS_cons (HX_if (HT_cmp (HE_bin (HE_name rfl (HE_int (op_add (HE_name rfl (op_eq (truth_bool ?_)))))))))
    by_cases hLR : L + 1 = R
    · rw [show ((L : Int) + 1 == (R : Int)) = true by simp; first | lia | omega]
      refine HS_cons (HX_setOwn (x := Str.ofString "a_digits") (xs := intL ds) (HE_name rfl ⟨rfl, HE_name rfl ⟨rfl, L, rfl, by first | lia | omega, by first | lia | omega, by simp [intL]; first | lia | omega, ?_⟩⟩))
      refine HS_cons (HX_ret0 ⟨.inr rfl, ?_⟩)
      subst hLR
      rw [show L + 1 - L = 1 by first | lia | omega, Nat.mul_one] at hx1
      rw [show L + 1 - L = 1 by first | lia | omega, dg_one hx0 hx1, ← wr_set _ _ _ (by first | lia | omega), Int.toNat_natCast, intL_set]
      rfl
    · rw [show ((L : Int) + 1 == (R : Int)) = false by simp; first | lia | omega]
      refine HS_nil ?_
      refine HS_cons (HX_assign (HE_bin (HE_bin (HE_name rfl (HE_name rfl (op_add (HE_int (op_shr (by decide) ?_))))))))
      rw [mid_nat]
      obtain ⟨M, hM⟩ : ∃ M, M = (L + R) / 2 := ⟨_, rfl⟩
      rw [← hM]
      obtain ⟨m1, m2, m3, m4, m5⟩ := mid_facts h1 h3 hLR hM
      clear hLR hM
      have m6 := Nat.le_of_lt m1
      have m7 := Nat.le_of_lt m2
      have m8 : M - L ≤ ds.length := Nat.le_trans (Nat.sub_le _ _) (Nat.le_trans m7 h2)
      have hsh : ((M : Int) - L) * n = ((n * (M - L) : Nat) : Int) := by
        rw [Nat.mul_comm]; push_cast; rw [Int.ofNat_sub m6]
      have hb1 : n * (M - L) ≤ 100000 := Nat.le_trans (Nat.mul_le_mul_left n m8) hn
      have hb2 : n * (R - L) ≤ 100000 := Nat.le_trans (Nat.mul_le_mul_left n (Nat.le_trans (Nat.sub_le _ _) h2)) hn
      refine HS_cons (HX_assign (HE_bin (HE_bin (HE_name rfl (HE_name rfl (op_sub (HE_name rfl (op_mul ?_ ?_))))))))
      · exact sub_mulOk m6 (Nat.le_trans m8 hl)
      rw [hsh]
      refine HS_cons (HX_assign (HE_bin (HE_name rfl (HE_name rfl (op_shr (Int.natCast_nonneg _) ?_)))))
      rw [shr_ediv]
      have p1 := pow2_pos (n * (M - L))
      have hup0 : 0 ≤ x / 2 ^ (n * (M - L)) := Int.ediv_nonneg hx0 (Int.le_of_lt p1)
      have hup1 : x / 2 ^ (n * (M - L)) < 2 ^ (n * (R - M)) := by
        refine Int.ediv_lt_of_lt_mul p1 ?_
        rw [← Int.pow_add, ← Nat.mul_add, m5]; exact hx1
      refine HS_cons (HX_assign (HE_bin (HE_name rfl (HE_bin (HE_name rfl (HE_name rfl (op_shl (Int.natCast_nonneg _) ?_ (op_xor ?_))))))))
      · have q1 := bl_of_lt hup0 hup1
        have e : n * (R - M) + n * (M - L) = n * (R - L) := by rw [← Nat.mul_add, m5]
        clear hup0 hup1 hx0 hx1 ih hsh p1
        first | lia | omega
      rw [Int.toNat_natCast, xor_low _ _ hx0]
      have hlo0 : 0 ≤ x % 2 ^ (n * (M - L)) := Int.emod_nonneg _ (Int.ne_of_gt p1)
      have hlo1 : x % 2 ^ (n * (M - L)) < 2 ^ (n * (M - L)) := Int.emod_lt_of_pos _ p1
      refine HS_cons (HX_callM rfl hc rfl (HL_cons (HE_name rfl (HL_cons (HE_name rfl (HL_cons (HE_name rfl (HL_nil ?_))))))))
      refine ⟨intL ds, _, rfl, hd.symm ▸ ih ds _ L M m1 (Nat.le_trans m7 h2) m3 hn hl hlo0 hlo1, ?_⟩
      obtain ⟨A, hA⟩ : ∃ A, A = dg n (M - L) (x % 2 ^ (n * (M - L))) := ⟨_, rfl⟩
      rw [← hA]
      have lA : A.length = M - L := by rw [hA, dg_length]
      have lw := wr_length ds A L (by rw [lA, Nat.add_sub_cancel' m6]; exact Nat.le_trans m7 h2)
      refine HS_cons (HX_callM rfl hc rfl (HL_cons (HE_name rfl (HL_cons (HE_name rfl (HL_cons (HE_name rfl (HL_nil ?_))))))))
      refine ⟨intL (wr ds L A), _, rfl, hd.symm ▸ ih (wr ds L A) _ M R m2 (by rw [lw]; exact h2) m4 (by rw [lw]; exact hn) (by rw [lw]; exact hl) hup0 hup1, ?_⟩
      refine HS_nil ⟨.inl rfl, ?_⟩
      have fin : wr (wr ds L A) M (dg n (R - M) (x / 2 ^ (n * (M - L)))) = wr ds L (dg n (R - L) x) := by
        rw [← m5, Nat.add_comm (R - M), dg_add, ← hA, ← wr_wr _ _ _ _ (by rw [lA, dg_length, Nat.add_sub_cancel' m6, Nat.add_sub_cancel' m7]; exact h2), lA, Nat.add_sub_cancel' m6]
      rw [← fin]
      rfl
end
end Mine

end

section
open PySem PySem.W PyProof.Rows
set_option maxRecDepth 100000
set_option linter.unusedVariables false
namespace Mine
noncomputable def ndig (n : Nat) (a : Int) : Nat := (bl a + n - 1) / n
theorem ndig_int {n : Nat} {a : Int} (hn : 1 ≤ n) : ((bl a : Int) + n - 1).fdiv n = ((ndig n a : Nat) : Int) := by
  unfold ndig
  rw [Int.fdiv_eq_ediv_of_nonneg _ (by first | lia | omega)]
  push_cast
  rw [Int.ofNat_sub (by first | lia | omega)]; push_cast; rfl
theorem bl_pos {a : Int} (h : a ≠ 0) : 1 ≤ bl a := by
  rcases Nat.eq_zero_or_pos (bl a) with h0 | h0
  · have := PySem.intBits_le_iff.mp (Nat.le_of_eq h0)
    simp at this; exact absurd this h
  · exact h0
theorem ndig_cover {n : Nat} {a : Int} (hn : 1 ≤ n) : bl a ≤ n * ndig n a := by
  unfold ndig
  have h1 := Nat.div_add_mod (bl a + n - 1) n
  have h2 := Nat.mod_lt (bl a + n - 1) (show 0 < n by first | lia | omega)
  first | lia | omega
theorem ndig_pos {n : Nat} {a : Int} (hn : 1 ≤ n) (h : a ≠ 0) : 1 ≤ ndig n a := by
  unfold ndig
  have := bl_pos h
  exact (Nat.le_div_iff_mul_le (by first | lia | omega)).mpr (by first | lia | omega)
theorem lt_ndig {n : Nat} {a : Int} (hn : 1 ≤ n) (h0 : 0 ≤ a) : a < 2 ^ (n * ndig n a) := by
  have h1 := lt_of_bl h0
  have h2 : (2 : Int) ^ bl a ≤ 2 ^ (n * ndig n a) := pow2_le (ndig_cover hn)
  first | lia | omega
section
variable {C : Ctx} (hK : C.K = K0 C.w.params)
include hK
theorem i2d_ok {a : Int} {n d : Nat} (ha : 0 ≤ a) (hn : 1 ≤ n) (hk : ndig n a ≤ d) (hb : n * ndig n a ≤ 100000) (hbl : bl a ≤ 100000) (hnb : n ≤ 100000) (hd : d ≤ 1000) {f : Addr} (hf : HasDefT C (Str.ofString "_int2digits") f entsI2D) :
    Call C (d + 2) f [.int a, .int n] (fun r => r = .lst (intL (dg n (ndig n a) a))) := by
  have hlen := g_len hK
  refine Call_ofC (d := d + 1) [Str.ofString "a", Str.ofString "n"] hf rfl (by intro _ _ _ vs h; obtain ⟨x, y, rfl⟩ := len2 h; rfl) rfl (fun fi hd' hcl t ht hents hcd => ?_)
  refine HS_cons (HX_assignOwn (HEo_mul (HE_list (HL_cons (HE_int (HL_nil ⟨by decide, [.int 0], rfl, ?_⟩))))))
  refine HE_bin (HE_bin (HE_bin (HE_meth PySem.F.plainAttrs_int PySem.F.slot_int_bit_length PySem.F.type_int_bit_length ?_)))
  refine HE_name rfl ⟨hasT_int, HL_nil (op_bitlen ?_)⟩
  refine HE_name rfl (op_add (HE_int (op_sub (HE_name rfl (op_div (by first | lia | omega) ?_ ?_)))))
  · exact Nat.le_trans (bl_of_lt (k := 20) (by first | lia | omega) (by first | lia | omega)) (by first | lia | omega)
  rw [ndig_int hn]
  refine ⟨_, rfl, by first | lia | omega, by first | lia | omega, by simp; first | lia | omega, ?_⟩
  rw [Int.toNat_natCast, show (List.replicate (ndig n a) [AV.int 0]).flatten = intL (List.replicate (ndig n a) 0) by
    rw [List.flatten_replicate_singleton]; simp [intL]]
  refine HS_cons (HX_def (clos := [(Str.ofString "n", fi.L + 1), (Str.ofString "inner", fi.L + 3), (Str.ofString "a_digits", fi.L + 2)]) ht hcd (by rw [hents]; exact List.mem_singleton.mpr rfl) (by show closureFor _ (envX _ _ _ _ _ fi.cl) = _; rw [hcl]; rfl) ?_)
  refine HS_cons (HX_if (HT_val (HE_name rfl (truth_int ?_))))
  by_cases ha0 : a = 0
  · subst ha0
    refine HS_nil ?_
    refine HS_cons (HX_ret (HE_nameOwn rfl ?_))
    have : ndig n 0 = 0 := by
      unfold ndig
      rw [show bl 0 = 0 from rfl]
      exact Nat.div_eq_of_lt (by first | lia | omega)
    show AV.lst _ = _
    rw [this]; rfl
  · rw [show (a != 0) = true by simpa using ha0]
    have hp := ndig_pos hn ha0
    refine HS_cons (HX_callOwnM (m := mI2D) (lname := Str.ofString "a_digits") (xs := intL (List.replicate (ndig n a) 0)) (clos := [(Str.ofString "n", fi.L + 1), (Str.ofString "inner", fi.L + 3), (Str.ofString "a_digits", fi.L + 2)]) (caps := [(Str.ofString "n", .int n)]) rfl ?_ rfl rfl ?_ ?_ ⟨_, rfl⟩ ⟨_, rfl⟩
      (HL_cons (HE_name rfl (HL_cons (HE_int (HL_cons (HE_lenOwn hlen rfl (by simp [intL]; first | lia | omega) (HL_nil ⟨rfl, rfl, _, fun l => ?_, ⟨wr (List.replicate (ndig n a) 0) 0 (dg n (ndig n a) a), rfl⟩, ?_⟩))))))))
    · intro y av hy
      simp only [List.mem_cons, List.not_mem_nil, or_false, Prod.mk.injEq] at hy
      obtain ⟨rfl, rfl⟩ := hy
      exact ⟨rfl, rfl⟩
    · intro y c hy
      have := mem_of_lk hy
      rw [hcl]
      simp only [List.mem_cons, List.not_mem_nil, or_false, Prod.mk.injEq] at this
      rcases this with ⟨rfl, rfl⟩ | ⟨rfl, rfl⟩ | ⟨rfl, rfl⟩ <;> rfl
    · intro y av hy
      simp only [List.mem_cons, List.not_mem_nil, or_false, Prod.mk.injEq] at hy
      obtain ⟨rfl, rfl⟩ := hy
      exact ⟨_, rfl⟩
    · have key := i2d_inner (C := C) (clos := [(Str.ofString "n", fi.L + 1), (Str.ofString "inner", fi.L + 3), (Str.ofString "a_digits", fi.L + 2)]) (l := l) (n := n) d (List.replicate (ndig n a) 0) a 0 (ndig n a) (by first | lia | omega) (by simp) (by first | lia | omega) (by simpa using hb) (by simp; first | lia | omega) ha (by simpa using lt_ndig hn ha)
      rw [hd']
      simpa [intL] using key
    · refine HS_nil ?_
      refine HS_cons (HX_ret (HE_nameOwn rfl ?_))
      show AV.lst _ = _
      rw [wr_all _ _ (by simp [dg_length])]
end
end Mine

end

section
open PySem PySem.W PyProof.Rows
set_option maxRecDepth 100000
set_option linter.unusedVariables false
namespace Mine
theorem intL_snoc {l : List Int} {x : Int} : intL (l ++ [x]) = List.map AV.int l ++ [.int x] := by simp [intL]
theorem bl_lower {b : Int} (hb : 0 < b) : 1 ≤ bl b := bl_pos (by first | lia | omega)
section
variable {C : Ctx} (hK : C.K = K0 C.w.params)
include hK
theorem g_reversed : Glob C (Str.ofString "reversed") (.type "reversed") := hasB_of hK rfl (by decide +kernel) (by decide +kernel)
theorem divmod_pos_ok {a b : Int} {d : Nat} (ha : 0 ≤ a) (hb : 0 < b) (hbl : bl b ≤ 4000) (hal : bl a ≤ 100000) (hk : ndig (bl b) a ≤ d) (hd : d ≤ 500) (hnk : bl b * ndig (bl b) a ≤ 100000) {f f1 f2 f3 : Addr}
    (hf : HasDef C (Str.ofString "_divmod_pos") f) (hf1 : HasDefT C (Str.ofString "_int2digits") f1 entsI2D) (hf2 : HasDefT C (Str.ofString "_digits2int") f2 entsD2I) (hf3 : HasDef C (Str.ofString "_div2n1n") f3) :
    Call C (d + 3) f [.int a, .int b] (fun r => r = .tup [.int (a / b), .int (a % b)]) := by
  have hrev := g_reversed hK
  obtain ⟨n, hn⟩ : ∃ n, n = bl b := ⟨_, rfl⟩
  obtain ⟨k, hkk⟩ : ∃ k, k = ndig (bl b) a := ⟨_, rfl⟩
  have hn1 : 1 ≤ n := hn ▸ bl_lower hb
  have hbn : b < 2 ^ n := hn ▸ lt_of_bl (Int.le_of_lt hb)
  have h0 : vTop n k a 0 = 0 := by
    unfold vTop
    rw [Nat.sub_zero, hkk, ← hn]
    exact Int.ediv_eq_zero_of_lt ha (lt_ndig hn1 ha)
  have hkl : vTop n k a k = a := by unfold vTop; simp
  rw [← hkk] at hk hnk
  rw [← hn] at hnk hbl
  refine Call_of (d := d + 2) [Str.ofString "a", Str.ofString "b"] hf rfl (by intro _ _ _ vs h; obtain ⟨x, y, rfl⟩ := len2 h; rfl) rfl (fun fi hd' => ?_)
  refine HS_cons (HX_assign (HE_meth PySem.F.plainAttrs_int PySem.F.slot_int_bit_length PySem.F.type_int_bit_length (HE_name rfl ⟨hasT_int, HL_nil (op_bitlen ?_)⟩)))
  rw [← hn]
  refine HS_cons (HX_assign (HE_callD hf1.toDef (HL_cons (HE_name rfl (HL_cons (HE_name rfl (HL_nil ?_)))))))
  rw [hd']
  refine Call.mono (i2d_ok hK (d := d) ha hn1 (by rw [hn, ← hkk]; exact hk) (by rw [show ndig n a = k by rw [hn, hkk]]; exact hnk) hal (by first | lia | omega) (by first | lia | omega) hf1) ?_
  rintro _ rfl
  rw [show ndig n a = k by rw [hn, hkk]]
  refine HS_cons (HX_assign (HE_int ?_))
  refine HS_cons (HX_assignOwn (HEo_list (HL_nil ⟨by decide, ?_⟩)))
  refine HS_cons (HX_forRevC hrev (HE_name rfl ⟨_, rfl, fun i => [(Str.ofString "b", .v (.int b)), (Str.ofString "n", .v (.int n)), (Str.ofString "r", .v (.int (vTop n k a i % b))), (Str.ofString "q_digits", .own (intL (qsAt n k a b i)))], ?_, ?_, ?_⟩))
  · refine ⟨rfl, rfl, ?_, rfl, trivial⟩
    rw [h0]; simp; rfl
  · intro i x hx
    have hi : i < k := by
      have := (List.getElem?_eq_some_iff.mp hx).1
      simpa [intL, dg_length] using this
    obtain rfl : x = .int (dAt n k a i) := by
      have := dg_rev (n := n) (k := k) (a := a) hi
      rw [← List.map_reverse, List.getElem?_map, this] at hx
      exact (Option.some.inj hx).symm
    have hr0 := Int.emod_nonneg (vTop n k a i) (Int.ne_of_gt hb)
    have hr1 := Int.emod_lt_of_pos (vTop n k a i) hb
    obtain ⟨nb1, nb2⟩ := num_bound (n := n) (k := k) (a := a) (i := i) hb hbn
    refine HG_name ?_
    refine HS_cons (HX_unpack (HE_callD hf3 (HL_cons (HE_bin (HE_bin (HE_name rfl (HE_name rfl (op_shl (by first | lia | omega) ?_ (HE_name rfl (op_add (HL_cons (HE_name rfl (HL_cons (HE_name rfl (HL_nil ?_)))))))))))))))
    · have := bl_of_lt hr0 (Int.lt_trans hr1 hbn)
      first | lia | omega
    rw [Int.toNat_natCast, hd']
    refine Call.room (d := 1) (Call.mono (div2n1n_ok hK (d := 0) (by first | lia | omega) (by first | lia | omega) ?_ hf3) ?_) (by first | lia | omega)
    · have : vTop n k a i % b * 2 ^ n + dAt n k a i < 2 ^ (n + n) := by
        rw [Int.pow_add]
        exact Int.lt_of_lt_of_le nb2 (Int.mul_le_mul_of_nonneg_right (Int.le_of_lt hbn) (Int.le_of_lt (pow2_pos n)))
      have := bl_of_lt nb1 this
      first | lia | omega
    rintro _ rfl
    rw [Int.fdiv_eq_ediv_of_nonneg _ (Int.le_of_lt hb), Int.fmod_eq_emod_of_nonneg _ (Int.le_of_lt hb)]
    refine HG_tup (HGl_cons (HG_name (HGl_cons (HG_name (HGl_nil ?_)))))
    refine HS_cons (HX_ownMeth (xs := intL (qsAt n k a b i)) PySem.F.slot_list_append PySem.F.type_list_append rfl (HL_cons (HE_name rfl (HL_nil ⟨rfl, _, mut_append (by simp [intL, qsAt, sizeLine]; first | lia | omega), ?_⟩))))
    refine HS_nil ⟨rfl, rfl, ?_, ?_, trivial⟩
    · rw [← step_rest hi]; rfl
    · rw [qs_succ, intL_snoc]; rfl
  · intro st' hst
    rw [show (intL (dg n k a)).length = k by simp [intL, dg_length]] at hst
    refine HS.has ?_ hst
    refine HS_cons (HX_ownMeth (xs := intL (qsAt n k a b k)) PySem.F.slot_list_reverse PySem.F.type_list_reverse rfl (HL_nil ⟨rfl, _, mut_reverse (by simp [intL, qsAt, sizeLine]; first | lia | omega), ?_⟩))
    refine HS_cons (HX_assign (HE_callD hf2.toDef (HL_cons (HE_nameOwn rfl (HL_cons (HE_name rfl (HL_nil ?_)))))))
    rw [hd', ← List.map_reverse]
    refine Call.mono (d2i_ok hK (ds := (qsAt n k a b k).reverse) (d := d) (fun x hx => qs_range hb hbn x (List.mem_reverse.mp hx)) (by simp [qsAt]; exact hnk) (by simp [qsAt]; exact hk) (by first | lia | omega) hf2) ?_
    rintro _ rfl
    rw [val_qs hb h0 k (Nat.le_refl _), hkl]
    refine HS_cons (HX_ret (HE_tuple (HL_cons (HE_name rfl (HL_cons (HE_name rfl (HL_nil ⟨by simp [sizeLine], ?_⟩)))))))
    show AV.tup _ = _
    rw [hkl]
end
end Mine

end

section
open PySem PySem.W PyProof.Rows
set_option maxRecDepth 100000
set_option linter.unusedVariables false
namespace Mine
theorem neg_div {a b : Int} (hb : 0 < b) : a.fdiv b = -((-a - 1) / b) - 1 ∧ a.fmod b = b + (-((-a - 1) % b) - 1) := by
  rw [Int.fdiv_eq_ediv_of_nonneg _ (Int.le_of_lt hb), Int.fmod_eq_emod_of_nonneg _ (Int.le_of_lt hb)]
  have h1 := Int.mul_ediv_add_emod (-a - 1) b
  have h2 := Int.emod_nonneg (-a - 1) (Int.ne_of_gt hb)
  have h3 := Int.emod_lt_of_pos (-a - 1) hb
  refine (Int.ediv_emod_unique hb).mpr ⟨?_, by first | lia | omega, by first | lia | omega⟩
  rw [Int.mul_sub, Int.mul_neg, Int.mul_one]
  first | lia | omega
theorem negneg_div {a b : Int} : a.fdiv b = (-a).fdiv (-b) ∧ a.fmod b = -((-a).fmod (-b)) := by
  have h := Int.neg_fdiv_neg a b
  refine ⟨h.symm, ?_⟩
  rw [Int.fmod_def, Int.fmod_def, h, Int.neg_mul]
  first | lia | omega
theorem ndig_le {n : Nat} {a : Int} {k : Nat} (hn : 1 ≤ n) (h : bl a ≤ k * n) : ndig n a ≤ k := by
  unfold ndig
  have : (bl a + n - 1) / n ≤ (k * n + (n - 1)) / n := Nat.div_le_div_right (by first | lia | omega)
  have h2 : (k * n + (n - 1)) / n = k := by
    rw [Nat.mul_comm, Nat.mul_add_div (by first | lia | omega), Nat.div_eq_of_lt (by first | lia | omega)]; rfl
  first | lia | omega
theorem bl_inv {a : Int} (h : a < 0) : bl (-a - 1) ≤ bl a := PySem.intBits_le_of_natAbs (by first | lia | omega) (Nat.le_refl _)
theorem bl_neg (a : Int) : bl (-a) = bl a := Nat.le_antisymm (PySem.intBits_le_of_natAbs (by first | lia | omega) (Nat.le_refl _)) (PySem.intBits_le_of_natAbs (by first | lia | omega) (Nat.le_refl _))
structure Arith (C : Ctx) (f f1 f2 f3 f4 : Addr) : Prop where
  dm : HasDef C (Str.ofString "int_divmod") f
  i2d : HasDefT C (Str.ofString "_int2digits") f1 entsI2D
  d2i : HasDefT C (Str.ofString "_digits2int") f2 entsD2I
  d21 : HasDef C (Str.ofString "_div2n1n") f3
  pos : HasDef C (Str.ofString "_divmod_pos") f4
section
variable {C : Ctx} (hK : C.K = K0 C.w.params) {f f1 f2 f3 f4 : Addr} (H : Arith C f f1 f2 f3 f4) {a b : Int}
include hK H
theorem divmod_pos_ok' (ha : 0 ≤ a) (hb : 0 < b) (h1 : bl b ≤ 700) (h2 : bl a ≤ 100 * bl b) : Call C 103 f4 [.int a, .int b] (fun r => r = .tup [.int (a / b), .int (a % b)]) := by
  have hp := bl_lower hb
  have hk := ndig_le (k := 100) hp h2
  exact divmod_pos_ok hK (d := 100) ha hb (by first | lia | omega) (by first | lia | omega) hk (by first | lia | omega) (Nat.le_trans (Nat.mul_le_mul h1 hk) (by decide)) H.pos H.i2d H.d2i H.d21
theorem int_divmod_pos (ha : 0 ≤ a) (hb : 0 < b) (h1 : bl b ≤ 700) (h2 : bl a ≤ 100 * bl b) : Call C 104 f [.int a, .int b] (fun r => r = .tup [.int (a.fdiv b), .int (a.fmod b)]) := by
  refine Call_of (d := 103) [Str.ofString "a", Str.ofString "b"] H.dm rfl (by intro _ _ _ vs h; obtain ⟨x, y, rfl⟩ := len2 h; rfl) rfl (fun fi hd' => ?_)
  refine HS_cons (HX_if (HT_cmp (HE_name rfl (HE_int (op_eq (truth_bool ?_))))))
  rw [show (b == 0) = false by simp; first | lia | omega]
  refine HS_cons (HX_if (HT_cmp (HE_name rfl (HE_int (op_lt (truth_bool ?_))))))
  rw [show decide (b < 0) = false by simp; first | lia | omega]
  refine HS_cons (HX_if (HT_cmp (HE_name rfl (HE_int (op_lt (truth_bool ?_))))))
  rw [show decide (a < 0) = false by simp; first | lia | omega]
  refine HS_cons (HX_ret (HE_callD H.pos (HL_cons (HE_name rfl (HL_cons (HE_name rfl (HL_nil ?_)))))))
  rw [hd']
  refine Call.mono (divmod_pos_ok' hK H ha hb h1 h2) ?_
  rintro _ rfl
  show AV.tup _ = _
  rw [Int.fdiv_eq_ediv_of_nonneg _ (Int.le_of_lt hb), Int.fmod_eq_emod_of_nonneg _ (Int.le_of_lt hb)]
theorem int_divmod_up (hb : 0 < b) (h1 : bl b ≤ 700) (h2 : bl a ≤ 100 * bl b) : Call C 105 f [.int a, .int b] (fun r => r = .tup [.int (a.fdiv b), .int (a.fmod b)]) := by
  by_cases ha : 0 ≤ a
  · exact Call.room (int_divmod_pos hK H ha hb h1 h2) (by decide)
  refine Call_of (d := 104) [Str.ofString "a", Str.ofString "b"] H.dm rfl (by intro _ _ _ vs h; obtain ⟨x, y, rfl⟩ := len2 h; rfl) rfl (fun fi hd' => ?_)
  refine HS_cons (HX_if (HT_cmp (HE_name rfl (HE_int (op_eq (truth_bool ?_))))))
  rw [show (b == 0) = false by simp; first | lia | omega]
  refine HS_cons (HX_if (HT_cmp (HE_name rfl (HE_int (op_lt (truth_bool ?_))))))
  rw [show decide (b < 0) = false by simp; first | lia | omega]
  refine HS_cons (HX_if (HT_cmp (HE_name rfl (HE_int (op_lt (truth_bool ?_))))))
  rw [show decide (a < 0) = true by simp; first | lia | omega]
  refine HS_cons (HX_unpack (HE_callD H.dm (HL_cons (HE_un (HE_name rfl (op_inv (HL_cons (HE_name rfl (HL_nil ?_)))))))))
  rw [hd']
  refine Call.mono (int_divmod_pos hK H (by first | lia | omega) hb h1 (Nat.le_trans (bl_inv (by first | lia | omega)) h2)) ?_
  rintro _ rfl
  refine HG_tup (HGl_cons (HG_name (HGl_cons (HG_name (HGl_nil ?_)))))
  (repeat (first | ((with_reducible show HS _ _ _ _); first | refine HS_cons ?_ | refine HS_nil ?_) | ((with_reducible show HX _ _ (Stmt.Return (some _) _) _); refine HX_ret ?_) | ((with_reducible show HX _ _ (Stmt.Return none _) _); refine HX_ret0 ?_) | ((with_reducible show HX _ _ (Stmt.Break _) _); refine HX_brk ?_) | ((with_reducible show HX _ _ (Stmt.If _ _ _ _) _); refine HX_if ?_) | ((with_reducible show HX _ _ (Stmt.Assign [Expr.Name _ _] _ _) _); refine HX_assign ?_) | ((with_reducible show HX _ _ (Stmt.Assign [Expr.Tuple _ _ _] _ _) _); refine HX_unpack ?_) | ((with_reducible show HX _ _ (Stmt.AugAssign (Expr.Name _ _) _ _ _) _); refine HX_aug rfl ?_) | ((with_reducible show HE _ _ (Expr.Name _ _) _); refine HE_name rfl ?_) | ((with_reducible show HE _ _ (Expr.Constant (Const.int _) _ _) _); refine HE_int ?_) | ((with_reducible show HE _ _ (Expr.Constant (Const.str _) _ _) _); refine HE_str ?_) | ((with_reducible show HE _ _ (Expr.Constant Const.none _ _) _); refine HE_none ?_) | ((with_reducible show HE _ _ (Expr.Constant (Const.bool _) _ _) _); refine HE_bool ?_) | ((with_reducible show HE _ _ (Expr.BinOp _ _ _ _) _); refine HE_bin ?_) | ((with_reducible show HE _ _ (Expr.UnaryOp _ _ _) _); refine HE_un ?_) | ((with_reducible show HE _ _ (Expr.Compare _ [_] [_] _) _); refine HE_cmp ?_) | ((with_reducible show HE _ _ (Expr.Tuple _ _ _) _); refine HE_tuple ?_) | ((with_reducible show HE _ _ (Expr.List _ _) _); refine HE_list ?_) | ((with_reducible show HE _ _ (Expr.IfExp _ _ _ _) _); refine HE_ifexp ?_) | ((with_reducible show HE _ _ (Expr.Subscript _ _ _) _); refine HE_sub ?_) | ((with_reducible show HL _ _ _ _); first | refine HL_cons ?_ | refine HL_nil ?_) | ((with_reducible show HT _ _ (Expr.Compare _ [_] [_] _) _); refine HT_cmp ?_) | ((with_reducible show HT _ _ (Expr.UnaryOp UnaryOp.Not _ _) _); refine HT_not ?_) | ((with_reducible show HT _ _ (Expr.BoolOp _ _ _) _); refine HT_bool ?_) | ((with_reducible show HT _ _ (Expr.Name _ _) _); refine HT_val ?_) | ((with_reducible show HA _ _ _ _ _); first | refine HA_and ?_ | refine HA_or ?_ | refine HA_nil ?_) | ((with_reducible show HG _ _ (Expr.Name _ _) _ _); refine HG_name ?_) | ((with_reducible show HG _ _ (Expr.Tuple _ _ _) (AV.tup _) _); refine HG_tup ?_) | ((with_reducible show HGl _ _ _ _ _); first | refine HGl_cons ?_ | refine HGl_nil ?_) | ((with_reducible show Op2 _ _ (binaryOp Operator.Add) (AV.int _) (AV.int _) _); refine op_add ?_) | ((with_reducible show Op2 _ _ (binaryOp Operator.Sub) (AV.int _) (AV.int _) _); refine op_sub ?_) | ((with_reducible show Op2 _ _ (inplaceOp Operator.Add) (AV.int _) (AV.int _) _); refine op_iadd ?_) | ((with_reducible show Op2 _ _ (inplaceOp Operator.Sub) (AV.int _) (AV.int _) _); refine op_isub ?_) | ((with_reducible show Op1 _ _ _ (AV.int _) _); first | refine op_neg ?_ | refine op_inv ?_) | ((with_reducible show Op2 _ _ (compareOp _) (AV.int _) (AV.int _) _); first | refine op_eq ?_ | refine op_ne ?_ | refine op_lt ?_ | refine op_le ?_ | refine op_gt ?_ | refine op_ge ?_) | ((with_reducible show Truth _ (AV.bool _) _); refine truth_bool ?_) | ((with_reducible show Truth _ (AV.int _) _); refine truth_int ?_) | ((with_reducible show Truth _ AV.none _); refine truth_none ?_)))
  refine ⟨by simp [sizeLine], ?_⟩
  show AV.tup _ = _
  obtain ⟨e1, e2⟩ := neg_div (a := a) hb
  rw [e1, e2, Int.fdiv_eq_ediv_of_nonneg _ (Int.le_of_lt hb), Int.fmod_eq_emod_of_nonneg _ (Int.le_of_lt hb)]
theorem int_divmod_ok (hb : b ≠ 0) (h1 : bl b ≤ 700) (h2 : bl a ≤ 100 * bl b) : Call C 106 f [.int a, .int b] (fun r => r = .tup [.int (a.fdiv b), .int (a.fmod b)]) := by
  by_cases hb' : 0 < b
  · exact Call.room (int_divmod_up hK H hb' h1 h2) (by decide)
  refine Call_of (d := 105) [Str.ofString "a", Str.ofString "b"] H.dm rfl (by intro _ _ _ vs h; obtain ⟨x, y, rfl⟩ := len2 h; rfl) rfl (fun fi hd' => ?_)
  refine HS_cons (HX_if (HT_cmp (HE_name rfl (HE_int (op_eq (truth_bool ?_))))))
  rw [show (b == 0) = false by simp; first | lia | omega]
  refine HS_cons (HX_if (HT_cmp (HE_name rfl (HE_int (op_lt (truth_bool ?_))))))
  rw [show decide (b < 0) = true by simp; first | lia | omega]
  refine HS_cons (HX_unpack (HE_callD H.dm (HL_cons (HE_un (HE_name rfl (op_neg (HL_cons (HE_un (HE_name rfl (op_neg (HL_nil ?_)))))))))))
  rw [hd']
  refine Call.mono (int_divmod_up hK H (by first | lia | omega) (by rw [bl_neg]; exact h1) (by rw [bl_neg, bl_neg]; exact h2)) ?_
  rintro _ rfl
  refine HG_tup (HGl_cons (HG_name (HGl_cons (HG_name (HGl_nil ?_)))))
  refine HS_cons (HX_ret (HE_tuple (HL_cons (HE_name rfl (HL_cons (HE_un (HE_name rfl (op_neg (HL_nil ⟨by simp [sizeLine], ?_⟩)))))))))
  show AV.tup _ = _
  obtain ⟨e1, e2⟩ := negneg_div (a := a) (b := b)
  rw [e1, e2]
end
end Mine

end

section
open PySem PySem.W PyProof.Rows
set_option maxRecDepth 100000
set_option linter.unusedVariables false
namespace Mine
noncomputable def lamArgs : Stmt → Arguments
  | .Assign _ (.Lambda a _ _ _) _ => a
  | _ => ⟨[], [], none, [], [], none, []⟩
noncomputable def lamBody : Stmt → Expr
  | .Assign _ (.Lambda _ b _ _) _ => b
  | _ => default
noncomputable def lamScope : Stmt → Scope
  | .Assign _ (.Lambda _ _ s _) _ => s
  | _ => default
noncomputable def lamPos : Stmt → Pos
  | .Assign _ (.Lambda _ _ _ p) _ => p
  | _ => default
noncomputable def stmtAt (l : List Stmt) (i : Nat) : Stmt := l[i]?.getD default
noncomputable def spanS : Stmt := stmtAt (dBody (Str.ofString "_law_hit")) 1
noncomputable def mSpan : Made := ⟨Str.ofString "<lambda>", Str.ofString "_law_hit.<locals>.<lambda>", lamArgs spanS, .expr (lamBody spanS), lamScope spanS⟩
noncomputable def entsHit : List (Pos × Str) := [(lamPos (stmtAt (dBody (Str.ofString "_law_hit")) 0), Str.ofString "_law_hit.<locals>.<lambda>"), (lamPos spanS, Str.ofString "_law_hit.<locals>.<lambda>")]
noncomputable abbrev spanP (i j : Int) : MP := cloE mSpan [] [(Str.ofString "front", .int i), (Str.ofString "behind", .int j)]
noncomputable abbrev hitP (i j : Int) : MP := attrP (Str.ofString "span") (spanP i j)
theorem Call_ofF {C : Ctx} {n : Str} {f : Addr} {xs : List AV} {Q : AV → Prop} {d : Nat} {ents : List (Pos × Str)} (ps : List Str) (hf : HasDefT C n f ents) (hok : okDefC n ps = true)
    (hbind : ∀ pm cdv ct (vs : List Value), vs.length = ps.length → bindArgs (fnOf n n (dArgs n) (dBody n) (dScope n) .none .none .none pm none cdv ct) ⟨vs, []⟩ = pure (ps.zip vs)) (hlen : xs.length = ps.length)
    (h : ∀ fi : FI C ⟨n, dScope n⟩, fi.d = d → fi.cl = cellsFrom (fi.L + 1) (dScope n).names [] → ∀ t ∈ C.tabs, t.ents = ents → fi.cd = .ref t.c → HS fi (ps.zip (xs.map Slot.v)) (dBody n) (EndF fi Q)) : Call C (d + 1) f xs Q := by
  obtain ⟨_, t, ht, hents, pm, ct, hf⟩ := hf
  unfold okDefC at hok
  simp only [Bool.and_eq_true, Bool.or_eq_true, decide_eq_true_eq, List.all_eq_true, bne_iff_ne, beq_iff_eq, Bool.not_eq_true'] at hok
  obtain ⟨⟨⟨⟨⟨h1, h2⟩, h3⟩, h4⟩, h5⟩, h6⟩ := hok
  intro A F s vs Qr E g r b
  exact enterF ps g b (hf.mono g.base) r rfl rfl rfl rfl (hbind _ _ _ vs ((ReprL.length r).trans hlen)) hlen h1 h2 h3 (fun fi e1 e2 e3 => h fi e1 e3 t ht hents e2) h4 h5 h6
section
variable {C : Ctx}
theorem hit_ok {i j : Int} {d : Nat} {f : Addr} (hf : HasDefT C (Str.ofString "_law_hit") f entsHit) : Call C (d + 1) f [.int i, .int j] (fun r => r = .obj (hitP i j)) := by
  refine Call_ofF (d := d) [Str.ofString "front", Str.ofString "behind"] hf rfl (by intro _ _ _ vs h; obtain ⟨x, y, rfl⟩ := len2 h; rfl) rfl (fun fi hd' hcl t ht hents hcd => ?_)
  refine HS_attr (clos := []) ht hcd (by rw [hents]; exact .head _) rfl rfl lk_fn_span ?_
  refine HE_lam (clos := [(Str.ofString "front", fi.L + 1), (Str.ofString "behind", fi.L + 2)]) ht hcd (by rw [hents]; exact .tail _ (.head _)) (by show closureFor _ (envX _ _ _ _ _ fi.cl) = _; rw [hcl]; rfl) ?_
  refine ⟨rfl, _, rfl, ?_⟩
  refine HS_cons (HX_ret (HE_name rfl ?_))
  intro prot F s v R r
  refine ⟨_, rfl, ?_⟩
  simp only [Repr] at r ⊢
  obtain ⟨f, rfl, hf⟩ := r
  refine ⟨f, rfl, attrP_imp (withCells_sub R.g) (fun g hg => ?_) hf⟩
  refine clo_freeze R hg rfl (fun y av hy => ?_)
  simp only [List.mem_cons, List.not_mem_nil, or_false, Prod.mk.injEq] at hy
  rcases hy with ⟨rfl, rfl⟩ | ⟨rfl, rfl⟩
  · exact ⟨rfl, rfl, fi.L + 1, rfl, by rw [hcl]; rfl⟩
  · exact ⟨rfl, rfl, fi.L + 2, rfl, by rw [hcl]; rfl⟩
theorem span_ok {i j : Int} {d : Nat} : CallP C (d + 1) (spanP i j) [] (fun r => r = .tup [.int i, .int j]) := by
  refine CallP_lam rfl rfl (by intros; rfl) (fun fi hd => ?_)
  refine HE_tuple (HL_cons (HE_name rfl (HL_cons (HE_name rfl (HL_nil ⟨by simp [sizeLine], rfl⟩)))))
noncomputable def hitAV : Option (Int × Int) → AV
  | none => .none
  | some (i, j) => .obj (hitP i j)
noncomputable def srev (find : Int → Option (Int × Int)) (col : Int) : Nat → Option (Int × Int) → Int → Int → Option (Int × Int)
  | 0, fd, _, _ => fd
  | k + 1, fd, i, j => if i < col ∧ j ≤ col then match find (if i = j then j + 1 else j) with | none => some (i, j) | some (i', j') => srev find col k (some (i, j)) i' j' else fd
noncomputable def searchRev (find : Int → Option (Int × Int)) (col : Int) : Option (Int × Int) := match find 0 with
  | none => none
  | some (i, j) => srev find col (col - i).toNat none i j
theorem srev_more {find : Int → Option (Int × Int)} {col : Int} (hfind : ∀ p i j, find p = some (i, j) → p ≤ i ∧ i ≤ j) : ∀ (k l : Nat) (fd : Option (Int × Int)) (i j : Int), i ≤ j → (col - i).toNat ≤ k → (col - i).toNat ≤ l → srev find col k fd i j = srev find col l fd i j := by
  intro k
  induction k with
  | zero =>
    intro l fd i j hij hk hl
    cases l with
    | zero => rfl
    | succ l => simp only [srev]; rw [if_neg (by first | lia | omega)]
  | succ k ih =>
    intro l fd i j hij hk hl
    cases l with
    | zero => simp only [srev]; rw [if_neg (by first | lia | omega)]
    | succ l =>
      simp only [srev]
      split
      · rename_i hc
        cases hf : find (if i = j then j + 1 else j) with
        | none => rfl
        | some p =>
          obtain ⟨i', j'⟩ := p
          have := hfind _ _ _ hf
          exact ih l (some (i, j)) i' j' this.2 (by split at this <;> (first | lia | omega)) (by split at this <;> (first | lia | omega))
      · rfl
noncomputable abbrev progP (S : MP) : MP := attrP (Str.ofString "search") S
theorem srev_ok {S : MP} {chars : Str} {col : Int} {find : Int → Option (Int × Int)} {d : Nat} {f : Addr} (hf : HasDef C (Str.ofString "search_reverse") f) (hSf : ∀ F a, S.p F a → ∃ o fd, F a = some o ∧ o.data = .func fd)
    (hfind : ∀ p i j, find p = some (i, j) → p ≤ i ∧ i ≤ j) (h1 : CallP C (d + 1) S [.str chars] (fun r => r = hitAV (find 0))) (h2 : ∀ p, 0 ≤ p → p ≤ col + 1 → CallP C (d + 1) S [.str chars, .int p] (fun r => r = hitAV (find p))) :
    Call C (d + 2) f [.obj (progP S), .str chars, .int col] (fun r => r = hitAV (searchRev find col)) := by
  refine Call_of (d := d + 1) [Str.ofString "prog", Str.ofString "chars", Str.ofString "col"] hf rfl (by intro _ _ _ vs h; obtain ⟨x, y, z, rfl⟩ := len3 h; rfl) rfl (fun fi hd' => ?_)
  refine HS_cons (HX_assign (HE_methA lk_fn_search hSf (HE_name rfl ⟨rfl, HL_cons (HE_name rfl (HL_nil ?_))⟩)))
  rw [hd']
  refine h1.mono ?_
  rintro _ rfl
  unfold searchRev
  cases hf0 : find 0 with
  | none =>
    refine HS_cons (HX_if (HT_not (HT_val (HE_name rfl (truth_none ?_)))))
    refine HS_cons (HX_ret (HE_none ?_))
    rfl
  | some p =>
    obtain ⟨i0, j0⟩ := p
    have hb0 := hfind _ _ _ hf0
    refine HS_cons (HX_if (HT_not (HT_val (HE_name rfl (truth_attr ?_)))))
    refine HS_nil ?_
    refine HS_cons (HX_assign (HE_none ?_))
    refine HS_cons (HX_unpack (HE_methA lk_fn_span cloE_fn (HE_name rfl ⟨rfl, HL_nil ?_⟩)))
    rw [hd']
    refine span_ok.mono ?_
    rintro _ rfl
    refine HG_tup (HGl_cons (HG_name (HGl_cons (HG_name (HGl_nil ?_)))))
    refine HS_cons (HX_whileC (α := Option (Int × Int) × Int × Int) (fun a => [(Str.ofString "prog", .v (.obj (progP S))), (Str.ofString "chars", .v (.str chars)), (Str.ofString "col", .v (.int col)), (Str.ofString "m", .v (.obj (hitP a.2.1 a.2.2))), (Str.ofString "found", .v (hitAV a.1)), (Str.ofString "i", .v (.int a.2.1)), (Str.ofString "j", .v (.int a.2.2))])
      (fun a => 0 ≤ a.2.1 ∧ a.2.1 ≤ a.2.2 ∧ srev find col (col - i0).toNat none i0 j0 = srev find col (col - a.2.1).toNat a.1 a.2.1 a.2.2) (fun a => (col - a.2.1).toNat) (none, i0, j0) ⟨rfl, rfl, rfl, rfl, rfl, rfl, rfl, trivial⟩ ⟨hb0.1, hb0.2, rfl⟩ ?_)
    rintro ⟨fd, i, j⟩ ⟨hi, hij, hinv⟩
    simp only at hi hij hinv
    have hdone : ¬ (i < col ∧ j ≤ col) → srev find col (col - i0).toNat none i0 j0 = fd := fun hn => by
      rw [hinv]
      cases hk : (col - i).toNat with
      | zero => rfl
      | succ k => simp only [srev]; rw [if_neg hn]
    refine HT_bool (HA_and (HT_cmp (HE_name rfl (HE_name rfl (op_lt (truth_bool ?_))))))
    by_cases h1c : ¬ i < col
    · rw [show decide ((fd, i, j).2.1 < col) = false from decide_eq_false h1c]
      refine HS_nil ?_
      refine HS_cons (HX_ret (HE_name rfl ?_))
      show hitAV fd = hitAV (srev find col (col - i0).toNat none i0 j0)
      rw [hdone (fun q => h1c q.1)]
    have h1c := Classical.not_not.mp h1c
    rw [show decide ((fd, i, j).2.1 < col) = true from decide_eq_true h1c]
    refine HA_and (HT_cmp (HE_name rfl (HE_name rfl (op_le (truth_bool ?_)))))
    by_cases h2c : ¬ j ≤ col
    · rw [show decide ((fd, i, j).2.2 ≤ col) = false from decide_eq_false h2c]
      refine HS_nil ?_
      refine HS_cons (HX_ret (HE_name rfl ?_))
      show hitAV fd = hitAV (srev find col (col - i0).toNat none i0 j0)
      rw [hdone (fun q => h2c q.2)]
    have h2c := Classical.not_not.mp h2c
    rw [show decide ((fd, i, j).2.2 ≤ col) = true from decide_eq_true h2c]
    refine HA_nil ?_
    refine HS_cons (HX_assign (HE_name rfl ?_))
    refine HS_cons (HX_if (HT_cmp (HE_name rfl (HE_name rfl (op_eq (truth_bool ?_))))))
    have step : ∀ jj, jj = (if i = j then j + 1 else j) → HS fi (set (set [(Str.ofString "prog", .v (.obj (progP S))), (Str.ofString "chars", .v (.str chars)), (Str.ofString "col", .v (.int col)), (Str.ofString "m", .v (.obj (hitP i j))), (Str.ofString "found", .v (hitAV fd)), (Str.ofString "i", .v (.int i)), (Str.ofString "j", .v (.int j))] (Str.ofString "found") (.v (.obj (hitP i j)))) (Str.ofString "j") (.v (.int jj)))
        (match stmtAt (dBody (Str.ofString "search_reverse")) 4 with | .While _ b _ _ => b.drop 2 | _ => []) (fun fl st2 => match fl with
          | .next | .cont => ∃ a' : Option (Int × Int) × Int × Int, (0 ≤ a'.2.1 ∧ a'.2.1 ≤ a'.2.2 ∧ srev find col (col - i0).toNat none i0 j0 = srev find col (col - a'.2.1).toNat a'.1 a'.2.1 a'.2.2) ∧ (col - a'.2.1).toNat < (col - i).toNat ∧ Has st2 [(Str.ofString "prog", .v (.obj (progP S))), (Str.ofString "chars", .v (.str chars)), (Str.ofString "col", .v (.int col)), (Str.ofString "m", .v (.obj (hitP a'.2.1 a'.2.2))), (Str.ofString "found", .v (hitAV a'.1)), (Str.ofString "i", .v (.int a'.2.1)), (Str.ofString "j", .v (.int a'.2.2))]
          | .brk => HS fi st2 ((dBody (Str.ofString "search_reverse")).drop 5) (RetQ fun r => r = hitAV (srev find col (col - i0).toNat none i0 j0))
          | .ret v => v = hitAV (srev find col (col - i0).toNat none i0 j0)) := by
      intro jj hjj
      refine HS_cons (HX_assign (HE_methA lk_fn_search hSf (HE_name rfl ⟨rfl, HL_cons (HE_name rfl (HL_cons (HE_name rfl (HL_nil ?_))))⟩)))
      rw [hd']
      refine (h2 jj (by rw [hjj]; split <;> (first | lia | omega)) (by rw [hjj]; split <;> (first | lia | omega))).mono ?_
      rintro _ rfl
      have hsuc : (col - i).toNat = ((col - i).toNat - 1) + 1 := by first | lia | omega
      cases hfj : find jj with
      | none =>
        refine HS_cons (HX_if (HT_not (HT_val (HE_name rfl (truth_none ?_)))))
        refine HS_cons (HX_brk ?_)
        refine HS_cons (HX_ret (HE_name rfl ?_))
        show AV.obj _ = _
        rw [hinv, hsuc]
        simp only [srev]
        rw [if_pos ⟨h1c, h2c⟩, ← hjj, hfj]
        rfl
      | some p =>
        obtain ⟨i', j'⟩ := p
        have hb := hfind _ _ _ hfj
        have hlt : i < jj := by rw [hjj]; split <;> (first | lia | omega)
        refine HS_cons (HX_if (HT_not (HT_val (HE_name rfl (truth_attr ?_)))))
        refine HS_nil ?_
        refine HS_cons (HX_unpack (HE_methA lk_fn_span cloE_fn (HE_name rfl ⟨rfl, HL_nil ?_⟩)))
        rw [hd']
        refine span_ok.mono ?_
        rintro _ rfl
        refine HG_tup (HGl_cons (HG_name (HGl_cons (HG_name (HGl_nil ?_)))))
        refine HS_nil ⟨(some (i, j), i', j'), ⟨by simp only; first | lia | omega, hb.2, ?_⟩, by simp only; first | lia | omega, rfl, rfl, rfl, rfl, rfl, rfl, rfl, trivial⟩
        rw [hinv, hsuc]
        simp only [srev]
        rw [if_pos ⟨h1c, h2c⟩, ← hjj, hfj]
        exact srev_more hfind _ _ _ _ _ hb.2 (by first | lia | omega) (by first | lia | omega)
    by_cases hijc : i = j
    · rw [show ((fd, i, j).2.1 == (fd, i, j).2.2) = true by simpa using hijc]
      refine HS_cons (HX_assign (HE_bin (HE_name rfl (HE_int (op_add ?_)))))
      refine HS_nil ?_
      exact step (j + 1) (by rw [if_pos hijc])
    · rw [show ((fd, i, j).2.1 == (fd, i, j).2.2) = false by simpa using hijc]
      refine HS_nil ?_
      have := step j (by rw [if_neg hijc])
      refine HS.has this ⟨rfl, rfl, rfl, rfl, rfl, rfl, rfl, trivial⟩
end
end Mine

end

section
open PySem PySem.W PyProof.Rows
set_option maxRecDepth 100000
set_option linter.unusedVariables false
namespace Mine
noncomputable def searchS : Stmt := stmtAt (dBody (Str.ofString "_law_program")) 0
noncomputable def mSearch : Made := ⟨Str.ofString "_law_search", Str.ofString "_law_program.<locals>._law_search", sArgs searchS, .stmts (sBody searchS), sScope searchS⟩
noncomputable def entsProg : List (Pos × Str) := [(sPos searchS, Str.ofString "_law_program.<locals>._law_search"), (lamPos (stmtAt (dBody (Str.ofString "_law_program")) 1), Str.ofString "_law_program.<locals>.<lambda>")]
noncomputable abbrev searchP (size : Int) : MP := cloE mSearch [.int 0] [(Str.ofString "size", .int size)]
noncomputable def find3 (len size p : Int) : Option (Int × Int) := if p + size > len then none else some (p, p + size)
theorem bind_one {F : FMap} {s : Shared} {clos : List (Str × Addr)} {dV : Value} {vs : List Value} {doc pm cv ctv : Value} {a : AV} (hs : Sub F s.heap.get?) (hd : Repr F (.tup [.int 0]) dV) (hr : ReprL F [a] vs) :
    ∃ ws, ReprL F [a, .int 0] ws ∧ BindsTo s (mSearch.fd clos dV doc pm cv ctv) ⟨vs, []⟩ ([Str.ofString "chars", Str.ofString "place"].zip ws) := by
  simp only [ReprL] at hr
  obtain ⟨v, _, rfl, r, rfl⟩ := hr
  obtain ⟨u, ru, hb⟩ := bind_dflt (fd := mSearch.fd clos dV doc pm cv ctv) (args := ⟨[v], []⟩) (binds := fun u => [(Str.ofString "chars", v), (Str.ofString "place", u)]) hs hd rfl (fun u => ⟨_, rfl, rfl⟩)
  exact ⟨[v, u], ReprL.cons r (ReprL.one ru), hb⟩
theorem bind_two {F : FMap} {s : Shared} {clos : List (Str × Addr)} {dV : Value} {vs : List Value} {doc pm cv ctv : Value} {a b : AV} (hs : Sub F s.heap.get?) (hd : Repr F (.tup [.int 0]) dV) (hr : ReprL F [a, b] vs) :
    ∃ ws, ReprL F [a, b] ws ∧ BindsTo s (mSearch.fd clos dV doc pm cv ctv) ⟨vs, []⟩ ([Str.ofString "chars", Str.ofString "place"].zip ws) := by
  simp only [ReprL] at hr
  obtain ⟨v, _, rfl, r, v2, _, rfl, r2, rfl⟩ := hr
  obtain ⟨u, ru, hb⟩ := bind_dflt (fd := mSearch.fd clos dV doc pm cv ctv) (args := ⟨[v, v2], []⟩) (binds := fun u => [(Str.ofString "chars", v), (Str.ofString "place", v2)]) hs hd rfl (fun u => ⟨_, rfl, rfl⟩)
  exact ⟨[v, v2], ReprL.cons r (ReprL.one r2), hb⟩
section
variable {C : Ctx} (hK : C.K = K0 C.w.params)
include hK
theorem search_body {x : List Nat} {size p : Int} {d : Nat} {fh : Addr} (hh : HasDefT C (Str.ofString "_law_hit") fh entsHit) (hx : x.length ≤ sizeLine) (fi : FI C ⟨mSearch.qual, mSearch.scope⟩) (hd : fi.d = d + 1) :
    HS fi ([Str.ofString "chars", Str.ofString "place"].zip ([AV.str (tx x), .int p].map Slot.v) ++ ([(Str.ofString "size", AV.int size)].map fun p => (p.1, Slot.v p.2))) (sBody searchS) (RetQ fun r => r = hitAV (find3 x.length size p)) := by
  have hlen := g_len hK
  refine HS_cons (HX_if (HT_cmp (HE_bin (HE_name rfl (HE_name rfl (op_add ?_))))))
  refine HE_callB hlen (fun _ q => nomatch q) (HL_cons (HE_name rfl (HL_nil (op_len_str (by rw [tx_length]; have : sizeLine = 2 ^ 24 := rfl; omega) (op_gt (truth_bool ?_))))))
  rw [tx_length]
  by_cases hc : p + size > x.length
  · rw [decide_eq_true hc]
    refine HS_cons (HX_ret (HE_none ?_))
    show AV.none = _
    rw [find3, if_pos hc]; rfl
  · rw [decide_eq_false hc]
    refine HS_nil ?_
    refine HS_cons (HX_ret (HE_callD hh.toDef (HL_cons (HE_name rfl (HL_cons (HE_bin (HE_name rfl (HE_name rfl (op_add (HL_nil ?_)))))))))) 
    rw [hd]
    refine (hit_ok hh).mono ?_
    rintro _ rfl
    show AV.obj _ = _
    rw [find3, if_neg hc]; rfl
theorem search1 {x : List Nat} {size : Int} {d : Nat} {fh : Addr} (hh : HasDefT C (Str.ofString "_law_hit") fh entsHit) (hx : x.length ≤ sizeLine) : CallP C (d + 2) (searchP size) [.str (tx x)] (fun r => r = hitAV (find3 x.length size 0)) :=
  CallP_cloE [Str.ofString "chars", Str.ofString "place"] [.str (tx x), .int 0] rfl rfl (fun F s clos dV vs doc pm cv ctv hs hd hr => bind_one hs hd hr) (by simp) rfl (fun fi hd => search_body hK hh hx fi hd)
theorem search2 {x : List Nat} {size p : Int} {d : Nat} {fh : Addr} (hh : HasDefT C (Str.ofString "_law_hit") fh entsHit) (hx : x.length ≤ sizeLine) : CallP C (d + 2) (searchP size) [.str (tx x), .int p] (fun r => r = hitAV (find3 x.length size p)) :=
  CallP_cloE [Str.ofString "chars", Str.ofString "place"] [.str (tx x), .int p] rfl rfl (fun F s clos dV vs doc pm cv ctv hs hd hr => bind_two hs hd hr) (by simp) rfl (fun fi hd => search_body hK hh hx fi hd)
omit hK in
theorem program_ok {size : Int} {d : Nat} {f : Addr} (hf : HasDefT C (Str.ofString "_law_program") f entsProg) : Call C (d + 1) f [.int size] (fun r => r = .obj (progP (searchP size))) := by
  refine Call_ofF (d := d) [Str.ofString "size"] hf rfl (by intro _ _ _ vs h; match vs, h with | [x], _ => rfl) rfl (fun fi hd' hcl t ht hents hcd => ?_)
  refine HS_cons (HX_defD (clos := [(Str.ofString "size", fi.L + 1)]) (i := 0) ht hcd (by rw [hents]; exact .head _) (by show closureFor _ (envX _ _ _ _ _ fi.cl) = _; rw [hcl]; rfl) ?_)
  refine HS_attr (clos := []) ht hcd (by rw [hents]; exact .tail _ (.head _)) rfl rfl lk_fn_search ?_
  refine HE_name rfl ⟨rfl, _, rfl, ?_⟩
  refine HS_cons (HX_ret (HE_name rfl ?_))
  intro prot F s v R r
  refine ⟨_, rfl, ?_⟩
  simp only [Repr] at r ⊢
  obtain ⟨f, rfl, hf⟩ := r
  refine ⟨f, rfl, attrP_imp (withCells_sub R.g) (fun g hg => ?_) hf⟩
  refine clo_freeze R hg rfl (fun y av hy => ?_)
  simp only [List.mem_cons, List.not_mem_nil, or_false, Prod.mk.injEq] at hy
  obtain ⟨rfl, rfl⟩ := hy
  exact ⟨rfl, rfl, fi.L + 1, rfl, by rw [hcl]; rfl⟩
end
end Mine

end

section
open PySem PySem.W PyProof.Rows
set_option maxRecDepth 100000
set_option linter.unusedVariables false
namespace Mine
theorem srev_prop {find : Int → Option (Int × Int)} {col : Int} {P : Int → Int → Prop} (hfind : ∀ p i j, find p = some (i, j) → p ≤ i ∧ i ≤ j) (hP : ∀ p i j, 0 ≤ p → find p = some (i, j) → P i j) : ∀ (k : Nat) (fd : Option (Int × Int)) (i j : Int), 0 ≤ i → i ≤ j → P i j → (∀ a b, fd = some (a, b) → P a b) → ∀ a b, srev find col k fd i j = some (a, b) → P a b := by
  intro k
  induction k with
  | zero => intro fd i j _ _ _ h a b e; exact h a b e
  | succ k ih =>
    intro fd i j h0 h1 hp h a b e
    simp only [srev] at e
    split at e
    · cases hf : find (if i = j then j + 1 else j) with
      | none => rw [hf] at e; cases e; exact hp
      | some q =>
        obtain ⟨i', j'⟩ := q
        rw [hf] at e
        have hb := hfind _ _ _ hf
        have h2 : (0 : Int) ≤ if i = j then j + 1 else j := by split <;> omega
        exact ih (some (i, j)) i' j' (by omega) hb.2 (hP _ _ _ h2 hf) (by rintro _ _ ⟨⟩; exact hp) a b e
    · exact h a b e
theorem searchRev_prop {find : Int → Option (Int × Int)} {col : Int} {P : Int → Int → Prop} (hfind : ∀ p i j, find p = some (i, j) → p ≤ i ∧ i ≤ j) (hP : ∀ p i j, 0 ≤ p → find p = some (i, j) → P i j) {a b : Int} (e : searchRev find col = some (a, b)) : P a b := by
  unfold searchRev at e
  cases hf : find 0 with
  | none => rw [hf] at e; cases e
  | some q =>
    obtain ⟨i, j⟩ := q
    rw [hf] at e
    have hb := hfind _ _ _ hf
    exact srev_prop hfind hP _ none i j hb.1 hb.2 (hP _ _ _ (Int.le_refl _) hf) (by rintro _ _ ⟨⟩) a b e
theorem find3_ok {len size : Int} (hs : 0 ≤ size) : ∀ p i j, find3 len size p = some (i, j) → p ≤ i ∧ i ≤ j := by
  intro p i j h
  unfold find3 at h
  split at h
  · cases h
  · cases h; omega
noncomputable def stepS (size : Int) (q : List Nat × Int) : List Nat × Int := match searchRev (find3 q.1.length size) q.2 with
  | none => q
  | some (i, j) => (cut q.1 none (some (j - 1)) ++ cut q.1 (some j) none, i)
noncomputable def itS (size : Int) (q : List Nat × Int) : Nat → List Nat × Int
  | 0 => q
  | k + 1 => stepS size (itS size q k)
noncomputable def struck (size : Int) (l : List Nat) : List Nat := (itS size (l, l.length) l.length).1
theorem itS_stop {size : Int} {q : List Nat × Int} {i : Nat} (h : stepS size (itS size q i) = itS size q i) : ∀ k, itS size q (i + k) = itS size q i
  | 0 => rfl
  | k + 1 => by
    show stepS size (itS size q (i + k)) = _
    rw [itS_stop h k, h]
theorem stepS_len {size : Int} (hs : 1 ≤ size) (q : List Nat × Int) : (stepS size q).1.length ≤ q.1.length := by
  unfold stepS
  cases hf : searchRev (find3 q.1.length size) q.2 with
  | none => exact Nat.le_refl _
  | some p =>
    obtain ⟨i, j⟩ := p
    have hp : 0 ≤ i ∧ j = i + size ∧ j ≤ q.1.length := searchRev_prop (P := fun i j => 0 ≤ i ∧ j = i + size ∧ j ≤ q.1.length) (find3_ok (by omega)) (by
      intro p i j h0 h
      unfold find3 at h
      split at h
      · cases h
      · cases h; omega) hf
    show (cut q.1 none (some (j - 1)) ++ cut q.1 (some j) none).length ≤ _
    obtain ⟨a, ha⟩ : ∃ a : Nat, j - 1 = (a : Int) := ⟨(j - 1).toNat, by omega⟩
    obtain ⟨b, hb⟩ : ∃ b : Nat, j = (b : Int) := ⟨j.toNat, by omega⟩
    rw [ha, hb, cut_to, cut_from]
    simp only [List.length_append, List.length_take, List.length_drop]
    omega
theorem itS_len {size : Int} (hs : 1 ≤ size) (q : List Nat × Int) : ∀ k, (itS size q k).1.length ≤ q.1.length
  | 0 => Nat.le_refl _
  | k + 1 => Nat.le_trans (stepS_len hs _) (itS_len hs q k)
structure L3 (C : Ctx) (fh fp fr : Addr) : Prop where
  hit : HasDefT C (Str.ofString "_law_hit") fh entsHit
  prog : HasDefT C (Str.ofString "_law_program") fp entsProg
  rev : HasDef C (Str.ofString "search_reverse") fr
section
variable {C : Ctx} (hK : C.K = K0 C.w.params) {fh fp fr : Addr} (H : L3 C fh fp fr)
include hK
theorem g_range : Glob C (Str.ofString "range") (.type "range") := hasB_of hK rfl (by decide +kernel) (by decide +kernel)
include H
theorem struck_ok {l : List Nat} {size : Int} {d : Nat} {f : Addr} (hf : HasDef C (Str.ofString "_law_struck") f) (hl : l.length ≤ 1000) (hs : 1 ≤ size) : Call C (d + 5) f [.str (tx l), .int size] (fun r => r = .str (tx (struck size l))) := by
  have hlen := g_len hK
  have hrange := g_range hK
  have hsl : sizeLine = 2 ^ 24 := rfl
  refine Call_of (d := d + 4) [Str.ofString "chars", Str.ofString "size"] hf rfl (by intro _ _ _ vs h; match vs, h with | [x, y], _ => rfl) rfl (fun fi hd' => ?_)
  refine HS_cons (HX_assign (HE_callD H.prog.toDef (HL_cons (HE_name rfl (HL_nil ?_)))))
  rw [hd']
  refine Call.mono (program_ok H.prog) ?_
  rintro _ rfl
  refine HS_cons (HX_assign (HE_callB hlen (fun _ q => nomatch q) (HL_cons (HE_name rfl (HL_nil (op_len_str (by rw [tx_length]; omega) ?_))))))
  rw [tx_length]
  refine HS_cons (HX_forC (HE_callB hrange (fun _ q => nomatch q) (HL_cons (HE_callB hlen (fun _ q => nomatch q) (HL_cons (HE_name rfl (HL_nil (op_len_str (by rw [tx_length]; omega) (HL_nil (op_range1 ?_)))))))))) 
  rw [tx_length]
  refine ⟨_, it_up (by omega) (by omega) (by omega) (by omega), fun i => [(Str.ofString "chars", .v (.str (tx (itS size (l, l.length) i).1))), (Str.ofString "size", .v (.int size)), (Str.ofString "prog", .v (.obj (progP (searchP size)))), (Str.ofString "col", .v (.int (itS size (l, l.length) i).2))], ⟨rfl, rfl, rfl, rfl, trivial⟩, ?_, ?_⟩
  · intro i x hx
    obtain ⟨hi, rfl⟩ := rangeL_get hx
    have hi : i < l.length := by omega
    obtain ⟨q, hq⟩ : ∃ q, q = itS size (l, l.length) i := ⟨_, rfl⟩
    have hql : q.1.length ≤ l.length := by rw [hq]; exact itS_len hs _ i
    refine HG_name ?_
    refine HS.has (st' := [(Str.ofString "chars", .v (.str (tx q.1))), (Str.ofString "size", .v (.int size)), (Str.ofString "prog", .v (.obj (progP (searchP size)))), (Str.ofString "col", .v (.int q.2))]) ?_ ⟨by rw [hq]; rfl, rfl, rfl, by rw [hq]; rfl, trivial⟩
    refine HS_cons (HX_assign (HE_callD H.rev (HL_cons (HE_name rfl (HL_cons (HE_name rfl (HL_cons (HE_name rfl (HL_nil ?_)))))))))
    rw [hd']
    refine Call.room (d := d + 3) (Call.mono (srev_ok (d := d + 1) (find := find3 q.1.length size) H.rev cloE_fn (find3_ok (by omega)) (search1 hK H.hit (by omega)) (fun p _ _ => search2 hK H.hit (by omega))) ?_) (by omega)
    rintro _ rfl
    cases hr : searchRev (find3 q.1.length size) q.2 with
    | none =>
      refine HS_cons (HX_if (HT_cmp (HE_name rfl (HE_none (op_is_none (truth_bool ?_))))))
      refine HS_cons (HX_brk ?_)
      refine HS_cons (HX_ret (HE_name rfl ?_))
      show AV.str _ = AV.str _
      have e1 : stepS size q = q := by unfold stepS; rw [hr]
      have e2 : struck size l = q.1 := by
        unfold struck
        have := itS_stop (size := size) (q := (l, (l.length : Int))) (i := i) (by rw [← hq]; exact e1) (l.length - i)
        rw [show i + (l.length - i) = l.length by omega] at this
        rw [this, ← hq]
      rw [e2]
    | some p =>
      obtain ⟨a, b⟩ := p
      have hp : 0 ≤ a ∧ b = a + size ∧ b ≤ q.1.length := searchRev_prop (P := fun i j => 0 ≤ i ∧ j = i + size ∧ j ≤ q.1.length) (find3_ok (by omega)) (by
        intro p i j h0 h
        unfold find3 at h
        split at h
        · cases h
        · cases h; omega) hr
      refine HS_cons (HX_if (HT_cmp (HE_name rfl (HE_none (op_is_obj (truth_bool ?_))))))
      refine HS_nil ?_
      refine HS_cons (HX_unpack (HE_methA lk_fn_span cloE_fn (HE_name rfl ⟨rfl, HL_nil ?_⟩)))
      rw [hd']
      refine span_ok.mono ?_
      rintro _ rfl
      refine HG_tup (HGl_cons (HG_name (HGl_cons (HG_name (HGl_nil ?_)))))
      refine HS_cons (HX_assign (HE_bin (HE_sliceS (HE_name rfl ⟨q.1, rfl, by omega, HP_none (HP_some (HE_bin (HE_name rfl (HE_int (op_sub ⟨_, rfl, ?_⟩)))))⟩))))
      refine HE_sliceS (HE_name rfl ⟨q.1, rfl, by omega, HP_some (HE_name rfl ⟨_, rfl, HP_none ?_⟩)⟩)
      have hst : stepS size q = (cut q.1 none (some (b - 1)) ++ cut q.1 (some b) none, a) := by unfold stepS; rw [hr]
      have hsz := stepS_len hs q
      rw [hst] at hsz
      simp only [List.length_append] at hsz
      refine op_add_str (by omega) (HS_nil ?_)
      have e3 : itS size (l, l.length) (i + 1) = (cut q.1 none (some (b - 1)) ++ cut q.1 (some b) none, a) := by
        show stepS size (itS size (l, l.length) i) = _
        rw [← hq, hst]
      exact ⟨by rw [e3]; rfl, rfl, rfl, by rw [e3]; rfl, trivial⟩
  · intro st' hst
    refine HS.has ?_ hst
    refine HS_cons (HX_ret (HE_name rfl ?_))
    show AV.str _ = AV.str _
    unfold struck
    rw [rangeL_len, show ((l.length : Int) - 0).toNat = l.length by omega]
end
end Mine

end

section
open PySem PySem.W PyProof.Rows
set_option maxRecDepth 100000
set_option linter.unusedVariables false
namespace Mine
noncomputable def nextM (x s : Int) : Int := (-((-x).fdiv s) - 1) * s
theorem nextM_bounds {x s : Int} (hs : 0 < s) : x - s ≤ nextM x s ∧ nextM x s < x := by
  unfold nextM
  rw [Int.fdiv_eq_ediv_of_nonneg _ (Int.le_of_lt hs)]
  have h1 := Int.mul_ediv_add_emod (-x) s
  have h2 := Int.emod_nonneg (-x) (Int.ne_of_gt hs)
  have h3 := Int.emod_lt_of_pos (-x) hs
  have e : (-((-x) / s) - 1) * s = -(s * ((-x) / s)) - s := by
    rw [Int.sub_mul, Int.neg_mul, Int.mul_comm ((-x) / s) s]; omega
  rw [e]
  omega
noncomputable def numM (n last : Int) : Nat → Int
  | 0 => n * last
  | i + 1 => nextM (numM n last i) (last - 1 - i)
theorem numM_bounds {n last : Int} (hn : -100000 ≤ n ∧ n ≤ 100000) (hl : 2 ≤ last ∧ last ≤ 7) : ∀ i : Nat, (i : Int) ≤ last - 1 → -700000 - 7 * i ≤ numM n last i ∧ numM n last i ≤ 700000 + 7 * i
  | 0, _ => by
    unfold numM
    have h1 : n * last ≤ 100000 * 7 := by
      rcases Int.le_total 0 n with h | h
      · exact Int.mul_le_mul hn.2 hl.2 (by omega) (by decide)
      · exact Int.le_trans (Int.mul_nonpos_of_nonpos_of_nonneg h (by omega)) (by decide)
    have h2 : -(100000 * 7) ≤ n * last := by
      rcases Int.le_total 0 n with h | h
      · exact Int.le_trans (by decide) (Int.mul_nonneg h (by omega))
      · have : (-n) * last ≤ 100000 * 7 := Int.mul_le_mul (by omega) hl.2 (by omega) (by decide)
        rw [Int.neg_mul] at this; omega
    omega
  | i + 1, hi => by
    have ih := numM_bounds hn hl i (by omega)
    have := nextM_bounds (x := numM n last i) (s := last - 1 - i) (by omega)
    show _ ≤ nextM _ _ ∧ nextM _ _ ≤ _
    omega
theorem neg_one_pow (k : Nat) : (-1 : Int) ^ k = 1 ∨ (-1 : Int) ^ k = -1 := by
  induction k with
  | zero => exact .inl rfl
  | succ k ih => rw [Int.pow_succ]; rcases ih with h | h <;> rw [h] <;> simp
noncomputable def share3 (factor size : Int) : Int := factor * (-1) ^ size.toNat
theorem share_abs (factor size : Int) : (share3 factor size).natAbs = factor.natAbs := by
  unfold share3
  rcases neg_one_pow size.toNat with h | h <;> rw [h] <;> simp
noncomputable def steps3 (first last : Int) : Nat := (last - 1 - (first - 2)).toNat
noncomputable def placeM (first last n : Int) : Int := (numM n last (steps3 first last)).fdiv (first - 1)
section
variable {C : Ctx} (hK : C.K = K0 C.w.params) {f f1 f2 f3 f4 : Addr} (H : Arith C f f1 f2 f3 f4)
include hK H
theorem dm_share {x s c : Int} (hx : -800000 ≤ x ∧ x ≤ 800000) (hs : 1 ≤ s ∧ s ≤ 7) (hc : c ≠ 0) (hc2 : c.natAbs < 2 ^ 110) : Call C 106 f [.int (x * c), .int (s * c)] (fun r => r = .tup [.int (x.fdiv s), .int ((x - x.fdiv s * s) * c)]) := by
  have hsc : s * c ≠ 0 := by
    rw [Ne, Int.mul_eq_zero]; omega
  have h1 : (s * c).natAbs = s.natAbs * c.natAbs := Int.natAbs_mul _ _
  have h2 : (x * c).natAbs = x.natAbs * c.natAbs := Int.natAbs_mul _ _
  refine Call.mono (int_divmod_ok hK H hsc ?_ ?_) ?_
  · refine Nat.le_trans (bl_le (k := 113) ?_) (by omega)
    rw [h1]
    have : s.natAbs ≤ 7 := by omega
    calc s.natAbs * c.natAbs ≤ 7 * c.natAbs := Nat.mul_le_mul_right _ this
      _ < 2 ^ 113 := by omega
  · refine bl_100 hsc ?_
    rw [h1, h2]
    have e1 : x.natAbs ≤ 2 ^ 20 := by omega
    have e2 : 1 ≤ s.natAbs := by omega
    calc x.natAbs * c.natAbs ≤ 2 ^ 20 * c.natAbs := Nat.mul_le_mul_right _ e1
      _ = 2 ^ 20 * (1 * c.natAbs) := by rw [Nat.one_mul]
      _ ≤ 2 ^ 20 * (s.natAbs * c.natAbs) := Nat.mul_le_mul_left _ (Nat.mul_le_mul_right _ e2)
  · rintro _ rfl
    rw [fdiv_cancel hc, fmod_cancel hc]
theorem place_ok {fl : Addr} (hf : HasDef C (Str.ofString "_law_place") fl) {n first last factor : Int} (hn : -100000 ≤ n ∧ n ≤ 100000) (h1 : 2 ≤ first) (h2 : first ≤ last) (h3 : last ≤ 7) (hfa : 0 < factor) (hfb : factor < 2 ^ 110) :
    Call C 107 fl [.int n, .int first, .int last, .int factor] (fun r => r = .tup [.int (placeM first last n), .int 0]) := by
  have hrange := g_range hK
  have small : ∀ z : Int, -100000000 ≤ z → z ≤ 100000000 → bl z ≤ 64 := fun z q1 q2 => bl_le (k := 64) (by omega)
  refine Call_of (d := 106) [Str.ofString "n", Str.ofString "first", Str.ofString "last", Str.ofString "factor"] hf rfl (by intro _ _ _ vs h; match vs, h with | [x, y, z, w], _ => rfl) rfl (fun fi hd' => ?_)
  refine HS_cons (HX_assign (HE_bin (HE_name rfl (HE_name rfl (op_mul (IntMulOk.of_left (small _ (by omega) (by omega))) ?_)))))
  refine HS_cons (HX_forC (HE_callB hrange (fun _ q => nomatch q) ?_))
  (repeat (first | ((with_reducible show HS _ _ _ _); first | refine HS_cons ?_ | refine HS_nil ?_) | ((with_reducible show HX _ _ (Stmt.Return (some _) _) _); refine HX_ret ?_) | ((with_reducible show HX _ _ (Stmt.Return none _) _); refine HX_ret0 ?_) | ((with_reducible show HX _ _ (Stmt.Break _) _); refine HX_brk ?_) | ((with_reducible show HX _ _ (Stmt.If _ _ _ _) _); refine HX_if ?_) | ((with_reducible show HX _ _ (Stmt.Assign [Expr.Name _ _] _ _) _); refine HX_assign ?_) | ((with_reducible show HX _ _ (Stmt.Assign [Expr.Tuple _ _ _] _ _) _); refine HX_unpack ?_) | ((with_reducible show HX _ _ (Stmt.AugAssign (Expr.Name _ _) _ _ _) _); refine HX_aug rfl ?_) | ((with_reducible show HE _ _ (Expr.Name _ _) _); refine HE_name rfl ?_) | ((with_reducible show HE _ _ (Expr.Constant (Const.int _) _ _) _); refine HE_int ?_) | ((with_reducible show HE _ _ (Expr.Constant (Const.str _) _ _) _); refine HE_str ?_) | ((with_reducible show HE _ _ (Expr.Constant Const.none _ _) _); refine HE_none ?_) | ((with_reducible show HE _ _ (Expr.Constant (Const.bool _) _ _) _); refine HE_bool ?_) | ((with_reducible show HE _ _ (Expr.BinOp _ _ _ _) _); refine HE_bin ?_) | ((with_reducible show HE _ _ (Expr.UnaryOp _ _ _) _); refine HE_un ?_) | ((with_reducible show HE _ _ (Expr.Compare _ [_] [_] _) _); refine HE_cmp ?_) | ((with_reducible show HE _ _ (Expr.Tuple _ _ _) _); refine HE_tuple ?_) | ((with_reducible show HE _ _ (Expr.List _ _) _); refine HE_list ?_) | ((with_reducible show HE _ _ (Expr.IfExp _ _ _ _) _); refine HE_ifexp ?_) | ((with_reducible show HE _ _ (Expr.Subscript _ _ _) _); refine HE_sub ?_) | ((with_reducible show HL _ _ _ _); first | refine HL_cons ?_ | refine HL_nil ?_) | ((with_reducible show HT _ _ (Expr.Compare _ [_] [_] _) _); refine HT_cmp ?_) | ((with_reducible show HT _ _ (Expr.UnaryOp UnaryOp.Not _ _) _); refine HT_not ?_) | ((with_reducible show HT _ _ (Expr.BoolOp _ _ _) _); refine HT_bool ?_) | ((with_reducible show HT _ _ (Expr.Name _ _) _); refine HT_val ?_) | ((with_reducible show HA _ _ _ _ _); first | refine HA_and ?_ | refine HA_or ?_ | refine HA_nil ?_) | ((with_reducible show HG _ _ (Expr.Name _ _) _ _); refine HG_name ?_) | ((with_reducible show HG _ _ (Expr.Tuple _ _ _) (AV.tup _) _); refine HG_tup ?_) | ((with_reducible show HGl _ _ _ _ _); first | refine HGl_cons ?_ | refine HGl_nil ?_) | ((with_reducible show Op2 _ _ (binaryOp Operator.Add) (AV.int _) (AV.int _) _); refine op_add ?_) | ((with_reducible show Op2 _ _ (binaryOp Operator.Sub) (AV.int _) (AV.int _) _); refine op_sub ?_) | ((with_reducible show Op2 _ _ (inplaceOp Operator.Add) (AV.int _) (AV.int _) _); refine op_iadd ?_) | ((with_reducible show Op2 _ _ (inplaceOp Operator.Sub) (AV.int _) (AV.int _) _); refine op_isub ?_) | ((with_reducible show Op1 _ _ _ (AV.int _) _); first | refine op_neg ?_ | refine op_inv ?_) | ((with_reducible show Op2 _ _ (compareOp _) (AV.int _) (AV.int _) _); first | refine op_eq ?_ | refine op_ne ?_ | refine op_lt ?_ | refine op_le ?_ | refine op_gt ?_ | refine op_ge ?_) | ((with_reducible show Truth _ (AV.bool _) _); refine truth_bool ?_) | ((with_reducible show Truth _ (AV.int _) _); refine truth_int ?_) | ((with_reducible show Truth _ AV.none _); refine truth_none ?_)))
  refine op_range3 (c := -1) (by decide) (Nat.le_trans (small (-1) (by decide) (by decide)) (by decide)) ?_
  refine ⟨_, it_down (by omega) (by omega) (by omega) (by omega), fun i => [(Str.ofString "first", .v (.int first)), (Str.ofString "last", .v (.int last)), (Str.ofString "factor", .v (.int factor)), (Str.ofString "number", .v (.int (numM n last i)))], ⟨rfl, rfl, rfl, rfl, trivial⟩, ?_, ?_⟩
  · intro i x hx
    obtain ⟨hi, rfl⟩ := rangeL_get hx
    have hi : (i : Int) ≤ last - first := by omega
    obtain ⟨s, hs⟩ : ∃ s, s = last - 1 + (i : Int) * -1 := ⟨_, rfl⟩
    rw [← hs]
    have hs1 : 1 ≤ s ∧ s ≤ 7 := by omega
    have hb := numM_bounds hn ⟨by omega, h3⟩ i (by omega)
    obtain ⟨x, hxe⟩ : ∃ x, x = numM n last i := ⟨_, rfl⟩
    rw [← hxe] at hb
    refine HG_name ?_
    refine HS.has (st' := [(Str.ofString "first", .v (.int first)), (Str.ofString "last", .v (.int last)), (Str.ofString "factor", .v (.int factor)), (Str.ofString "number", .v (.int x)), (Str.ofString "size", .v (.int s))]) ?_ ⟨rfl, rfl, rfl, by rw [hxe]; rfl, rfl, trivial⟩
    (repeat (first | ((with_reducible show HS _ _ _ _); first | refine HS_cons ?_ | refine HS_nil ?_) | ((with_reducible show HX _ _ (Stmt.Return (some _) _) _); refine HX_ret ?_) | ((with_reducible show HX _ _ (Stmt.Return none _) _); refine HX_ret0 ?_) | ((with_reducible show HX _ _ (Stmt.Break _) _); refine HX_brk ?_) | ((with_reducible show HX _ _ (Stmt.If _ _ _ _) _); refine HX_if ?_) | ((with_reducible show HX _ _ (Stmt.Assign [Expr.Name _ _] _ _) _); refine HX_assign ?_) | ((with_reducible show HX _ _ (Stmt.Assign [Expr.Tuple _ _ _] _ _) _); refine HX_unpack ?_) | ((with_reducible show HX _ _ (Stmt.AugAssign (Expr.Name _ _) _ _ _) _); refine HX_aug rfl ?_) | ((with_reducible show HE _ _ (Expr.Name _ _) _); refine HE_name rfl ?_) | ((with_reducible show HE _ _ (Expr.Constant (Const.int _) _ _) _); refine HE_int ?_) | ((with_reducible show HE _ _ (Expr.Constant (Const.str _) _ _) _); refine HE_str ?_) | ((with_reducible show HE _ _ (Expr.Constant Const.none _ _) _); refine HE_none ?_) | ((with_reducible show HE _ _ (Expr.Constant (Const.bool _) _ _) _); refine HE_bool ?_) | ((with_reducible show HE _ _ (Expr.BinOp _ _ _ _) _); refine HE_bin ?_) | ((with_reducible show HE _ _ (Expr.UnaryOp _ _ _) _); refine HE_un ?_) | ((with_reducible show HE _ _ (Expr.Compare _ [_] [_] _) _); refine HE_cmp ?_) | ((with_reducible show HE _ _ (Expr.Tuple _ _ _) _); refine HE_tuple ?_) | ((with_reducible show HE _ _ (Expr.List _ _) _); refine HE_list ?_) | ((with_reducible show HE _ _ (Expr.IfExp _ _ _ _) _); refine HE_ifexp ?_) | ((with_reducible show HE _ _ (Expr.Subscript _ _ _) _); refine HE_sub ?_) | ((with_reducible show HL _ _ _ _); first | refine HL_cons ?_ | refine HL_nil ?_) | ((with_reducible show HT _ _ (Expr.Compare _ [_] [_] _) _); refine HT_cmp ?_) | ((with_reducible show HT _ _ (Expr.UnaryOp UnaryOp.Not _ _) _); refine HT_not ?_) | ((with_reducible show HT _ _ (Expr.BoolOp _ _ _) _); refine HT_bool ?_) | ((with_reducible show HT _ _ (Expr.Name _ _) _); refine HT_val ?_) | ((with_reducible show HA _ _ _ _ _); first | refine HA_and ?_ | refine HA_or ?_ | refine HA_nil ?_) | ((with_reducible show HG _ _ (Expr.Name _ _) _ _); refine HG_name ?_) | ((with_reducible show HG _ _ (Expr.Tuple _ _ _) (AV.tup _) _); refine HG_tup ?_) | ((with_reducible show HGl _ _ _ _ _); first | refine HGl_cons ?_ | refine HGl_nil ?_) | ((with_reducible show Op2 _ _ (binaryOp Operator.Add) (AV.int _) (AV.int _) _); refine op_add ?_) | ((with_reducible show Op2 _ _ (binaryOp Operator.Sub) (AV.int _) (AV.int _) _); refine op_sub ?_) | ((with_reducible show Op2 _ _ (inplaceOp Operator.Add) (AV.int _) (AV.int _) _); refine op_iadd ?_) | ((with_reducible show Op2 _ _ (inplaceOp Operator.Sub) (AV.int _) (AV.int _) _); refine op_isub ?_) | ((with_reducible show Op1 _ _ _ (AV.int _) _); first | refine op_neg ?_ | refine op_inv ?_) | ((with_reducible show Op2 _ _ (compareOp _) (AV.int _) (AV.int _) _); first | refine op_eq ?_ | refine op_ne ?_ | refine op_lt ?_ | refine op_le ?_ | refine op_gt ?_ | refine op_ge ?_) | ((with_reducible show Truth _ (AV.bool _) _); refine truth_bool ?_) | ((with_reducible show Truth _ (AV.int _) _); refine truth_int ?_) | ((with_reducible show Truth _ AV.none _); refine truth_none ?_)))
    refine op_pow (by omega) ?_ (op_mul ?_ ?_)
    · show (1 : Int) * s ≤ 2 ^ 27
      omega
    · refine IntMulOk.of_right (small _ ?_ ?_) <;> rcases neg_one_pow s.toNat with h | h <;> rw [h] <;> decide
    obtain ⟨c, hc⟩ : ∃ c, c = factor * (-1) ^ s.toNat := ⟨_, rfl⟩
    rw [← hc]
    have hca : c.natAbs = factor.natAbs := by rw [hc]; exact share_abs factor s
    have hc0 : c ≠ 0 := by omega
    refine HS_cons (HX_unpack (HE_callD H.dm ?_))
    (repeat (first | ((with_reducible show HS _ _ _ _); first | refine HS_cons ?_ | refine HS_nil ?_) | ((with_reducible show HX _ _ (Stmt.Return (some _) _) _); refine HX_ret ?_) | ((with_reducible show HX _ _ (Stmt.Return none _) _); refine HX_ret0 ?_) | ((with_reducible show HX _ _ (Stmt.Break _) _); refine HX_brk ?_) | ((with_reducible show HX _ _ (Stmt.If _ _ _ _) _); refine HX_if ?_) | ((with_reducible show HX _ _ (Stmt.Assign [Expr.Name _ _] _ _) _); refine HX_assign ?_) | ((with_reducible show HX _ _ (Stmt.Assign [Expr.Tuple _ _ _] _ _) _); refine HX_unpack ?_) | ((with_reducible show HX _ _ (Stmt.AugAssign (Expr.Name _ _) _ _ _) _); refine HX_aug rfl ?_) | ((with_reducible show HE _ _ (Expr.Name _ _) _); refine HE_name rfl ?_) | ((with_reducible show HE _ _ (Expr.Constant (Const.int _) _ _) _); refine HE_int ?_) | ((with_reducible show HE _ _ (Expr.Constant (Const.str _) _ _) _); refine HE_str ?_) | ((with_reducible show HE _ _ (Expr.Constant Const.none _ _) _); refine HE_none ?_) | ((with_reducible show HE _ _ (Expr.Constant (Const.bool _) _ _) _); refine HE_bool ?_) | ((with_reducible show HE _ _ (Expr.BinOp _ _ _ _) _); refine HE_bin ?_) | ((with_reducible show HE _ _ (Expr.UnaryOp _ _ _) _); refine HE_un ?_) | ((with_reducible show HE _ _ (Expr.Compare _ [_] [_] _) _); refine HE_cmp ?_) | ((with_reducible show HE _ _ (Expr.Tuple _ _ _) _); refine HE_tuple ?_) | ((with_reducible show HE _ _ (Expr.List _ _) _); refine HE_list ?_) | ((with_reducible show HE _ _ (Expr.IfExp _ _ _ _) _); refine HE_ifexp ?_) | ((with_reducible show HE _ _ (Expr.Subscript _ _ _) _); refine HE_sub ?_) | ((with_reducible show HL _ _ _ _); first | refine HL_cons ?_ | refine HL_nil ?_) | ((with_reducible show HT _ _ (Expr.Compare _ [_] [_] _) _); refine HT_cmp ?_) | ((with_reducible show HT _ _ (Expr.UnaryOp UnaryOp.Not _ _) _); refine HT_not ?_) | ((with_reducible show HT _ _ (Expr.BoolOp _ _ _) _); refine HT_bool ?_) | ((with_reducible show HT _ _ (Expr.Name _ _) _); refine HT_val ?_) | ((with_reducible show HA _ _ _ _ _); first | refine HA_and ?_ | refine HA_or ?_ | refine HA_nil ?_) | ((with_reducible show HG _ _ (Expr.Name _ _) _ _); refine HG_name ?_) | ((with_reducible show HG _ _ (Expr.Tuple _ _ _) (AV.tup _) _); refine HG_tup ?_) | ((with_reducible show HGl _ _ _ _ _); first | refine HGl_cons ?_ | refine HGl_nil ?_) | ((with_reducible show Op2 _ _ (binaryOp Operator.Add) (AV.int _) (AV.int _) _); refine op_add ?_) | ((with_reducible show Op2 _ _ (binaryOp Operator.Sub) (AV.int _) (AV.int _) _); refine op_sub ?_) | ((with_reducible show Op2 _ _ (inplaceOp Operator.Add) (AV.int _) (AV.int _) _); refine op_iadd ?_) | ((with_reducible show Op2 _ _ (inplaceOp Operator.Sub) (AV.int _) (AV.int _) _); refine op_isub ?_) | ((with_reducible show Op1 _ _ _ (AV.int _) _); first | refine op_neg ?_ | refine op_inv ?_) | ((with_reducible show Op2 _ _ (compareOp _) (AV.int _) (AV.int _) _); first | refine op_eq ?_ | refine op_ne ?_ | refine op_lt ?_ | refine op_le ?_ | refine op_gt ?_ | refine op_ge ?_) | ((with_reducible show Truth _ (AV.bool _) _); refine truth_bool ?_) | ((with_reducible show Truth _ (AV.int _) _); refine truth_int ?_) | ((with_reducible show Truth _ AV.none _); refine truth_none ?_)))
    refine op_mul (IntMulOk.of_left (small _ (by omega) (by omega))) ?_
    (repeat (first | ((with_reducible show HS _ _ _ _); first | refine HS_cons ?_ | refine HS_nil ?_) | ((with_reducible show HX _ _ (Stmt.Return (some _) _) _); refine HX_ret ?_) | ((with_reducible show HX _ _ (Stmt.Return none _) _); refine HX_ret0 ?_) | ((with_reducible show HX _ _ (Stmt.Break _) _); refine HX_brk ?_) | ((with_reducible show HX _ _ (Stmt.If _ _ _ _) _); refine HX_if ?_) | ((with_reducible show HX _ _ (Stmt.Assign [Expr.Name _ _] _ _) _); refine HX_assign ?_) | ((with_reducible show HX _ _ (Stmt.Assign [Expr.Tuple _ _ _] _ _) _); refine HX_unpack ?_) | ((with_reducible show HX _ _ (Stmt.AugAssign (Expr.Name _ _) _ _ _) _); refine HX_aug rfl ?_) | ((with_reducible show HE _ _ (Expr.Name _ _) _); refine HE_name rfl ?_) | ((with_reducible show HE _ _ (Expr.Constant (Const.int _) _ _) _); refine HE_int ?_) | ((with_reducible show HE _ _ (Expr.Constant (Const.str _) _ _) _); refine HE_str ?_) | ((with_reducible show HE _ _ (Expr.Constant Const.none _ _) _); refine HE_none ?_) | ((with_reducible show HE _ _ (Expr.Constant (Const.bool _) _ _) _); refine HE_bool ?_) | ((with_reducible show HE _ _ (Expr.BinOp _ _ _ _) _); refine HE_bin ?_) | ((with_reducible show HE _ _ (Expr.UnaryOp _ _ _) _); refine HE_un ?_) | ((with_reducible show HE _ _ (Expr.Compare _ [_] [_] _) _); refine HE_cmp ?_) | ((with_reducible show HE _ _ (Expr.Tuple _ _ _) _); refine HE_tuple ?_) | ((with_reducible show HE _ _ (Expr.List _ _) _); refine HE_list ?_) | ((with_reducible show HE _ _ (Expr.IfExp _ _ _ _) _); refine HE_ifexp ?_) | ((with_reducible show HE _ _ (Expr.Subscript _ _ _) _); refine HE_sub ?_) | ((with_reducible show HL _ _ _ _); first | refine HL_cons ?_ | refine HL_nil ?_) | ((with_reducible show HT _ _ (Expr.Compare _ [_] [_] _) _); refine HT_cmp ?_) | ((with_reducible show HT _ _ (Expr.UnaryOp UnaryOp.Not _ _) _); refine HT_not ?_) | ((with_reducible show HT _ _ (Expr.BoolOp _ _ _) _); refine HT_bool ?_) | ((with_reducible show HT _ _ (Expr.Name _ _) _); refine HT_val ?_) | ((with_reducible show HA _ _ _ _ _); first | refine HA_and ?_ | refine HA_or ?_ | refine HA_nil ?_) | ((with_reducible show HG _ _ (Expr.Name _ _) _ _); refine HG_name ?_) | ((with_reducible show HG _ _ (Expr.Tuple _ _ _) (AV.tup _) _); refine HG_tup ?_) | ((with_reducible show HGl _ _ _ _ _); first | refine HGl_cons ?_ | refine HGl_nil ?_) | ((with_reducible show Op2 _ _ (binaryOp Operator.Add) (AV.int _) (AV.int _) _); refine op_add ?_) | ((with_reducible show Op2 _ _ (binaryOp Operator.Sub) (AV.int _) (AV.int _) _); refine op_sub ?_) | ((with_reducible show Op2 _ _ (inplaceOp Operator.Add) (AV.int _) (AV.int _) _); refine op_iadd ?_) | ((with_reducible show Op2 _ _ (inplaceOp Operator.Sub) (AV.int _) (AV.int _) _); refine op_isub ?_) | ((with_reducible show Op1 _ _ _ (AV.int _) _); first | refine op_neg ?_ | refine op_inv ?_) | ((with_reducible show Op2 _ _ (compareOp _) (AV.int _) (AV.int _) _); first | refine op_eq ?_ | refine op_ne ?_ | refine op_lt ?_ | refine op_le ?_ | refine op_gt ?_ | refine op_ge ?_) | ((with_reducible show Truth _ (AV.bool _) _); refine truth_bool ?_) | ((with_reducible show Truth _ (AV.int _) _); refine truth_int ?_) | ((with_reducible show Truth _ AV.none _); refine truth_none ?_)))
    refine op_mul (IntMulOk.of_left (small _ (by omega) (by omega))) ?_
    (repeat (first | ((with_reducible show HS _ _ _ _); first | refine HS_cons ?_ | refine HS_nil ?_) | ((with_reducible show HX _ _ (Stmt.Return (some _) _) _); refine HX_ret ?_) | ((with_reducible show HX _ _ (Stmt.Return none _) _); refine HX_ret0 ?_) | ((with_reducible show HX _ _ (Stmt.Break _) _); refine HX_brk ?_) | ((with_reducible show HX _ _ (Stmt.If _ _ _ _) _); refine HX_if ?_) | ((with_reducible show HX _ _ (Stmt.Assign [Expr.Name _ _] _ _) _); refine HX_assign ?_) | ((with_reducible show HX _ _ (Stmt.Assign [Expr.Tuple _ _ _] _ _) _); refine HX_unpack ?_) | ((with_reducible show HX _ _ (Stmt.AugAssign (Expr.Name _ _) _ _ _) _); refine HX_aug rfl ?_) | ((with_reducible show HE _ _ (Expr.Name _ _) _); refine HE_name rfl ?_) | ((with_reducible show HE _ _ (Expr.Constant (Const.int _) _ _) _); refine HE_int ?_) | ((with_reducible show HE _ _ (Expr.Constant (Const.str _) _ _) _); refine HE_str ?_) | ((with_reducible show HE _ _ (Expr.Constant Const.none _ _) _); refine HE_none ?_) | ((with_reducible show HE _ _ (Expr.Constant (Const.bool _) _ _) _); refine HE_bool ?_) | ((with_reducible show HE _ _ (Expr.BinOp _ _ _ _) _); refine HE_bin ?_) | ((with_reducible show HE _ _ (Expr.UnaryOp _ _ _) _); refine HE_un ?_) | ((with_reducible show HE _ _ (Expr.Compare _ [_] [_] _) _); refine HE_cmp ?_) | ((with_reducible show HE _ _ (Expr.Tuple _ _ _) _); refine HE_tuple ?_) | ((with_reducible show HE _ _ (Expr.List _ _) _); refine HE_list ?_) | ((with_reducible show HE _ _ (Expr.IfExp _ _ _ _) _); refine HE_ifexp ?_) | ((with_reducible show HE _ _ (Expr.Subscript _ _ _) _); refine HE_sub ?_) | ((with_reducible show HL _ _ _ _); first | refine HL_cons ?_ | refine HL_nil ?_) | ((with_reducible show HT _ _ (Expr.Compare _ [_] [_] _) _); refine HT_cmp ?_) | ((with_reducible show HT _ _ (Expr.UnaryOp UnaryOp.Not _ _) _); refine HT_not ?_) | ((with_reducible show HT _ _ (Expr.BoolOp _ _ _) _); refine HT_bool ?_) | ((with_reducible show HT _ _ (Expr.Name _ _) _); refine HT_val ?_) | ((with_reducible show HA _ _ _ _ _); first | refine HA_and ?_ | refine HA_or ?_ | refine HA_nil ?_) | ((with_reducible show HG _ _ (Expr.Name _ _) _ _); refine HG_name ?_) | ((with_reducible show HG _ _ (Expr.Tuple _ _ _) (AV.tup _) _); refine HG_tup ?_) | ((with_reducible show HGl _ _ _ _ _); first | refine HGl_cons ?_ | refine HGl_nil ?_) | ((with_reducible show Op2 _ _ (binaryOp Operator.Add) (AV.int _) (AV.int _) _); refine op_add ?_) | ((with_reducible show Op2 _ _ (binaryOp Operator.Sub) (AV.int _) (AV.int _) _); refine op_sub ?_) | ((with_reducible show Op2 _ _ (inplaceOp Operator.Add) (AV.int _) (AV.int _) _); refine op_iadd ?_) | ((with_reducible show Op2 _ _ (inplaceOp Operator.Sub) (AV.int _) (AV.int _) _); refine op_isub ?_) | ((with_reducible show Op1 _ _ _ (AV.int _) _); first | refine op_neg ?_ | refine op_inv ?_) | ((with_reducible show Op2 _ _ (compareOp _) (AV.int _) (AV.int _) _); first | refine op_eq ?_ | refine op_ne ?_ | refine op_lt ?_ | refine op_le ?_ | refine op_gt ?_ | refine op_ge ?_) | ((with_reducible show Truth _ (AV.bool _) _); refine truth_bool ?_) | ((with_reducible show Truth _ (AV.int _) _); refine truth_int ?_) | ((with_reducible show Truth _ AV.none _); refine truth_none ?_)))
    rw [hd']
    refine Call.mono (dm_share hK H (by omega) hs1 hc0 (by omega)) ?_
    rintro _ rfl
    have hq : -900000 ≤ (-x).fdiv s ∧ (-x).fdiv s ≤ 900000 := by
      rw [Int.fdiv_eq_ediv_of_nonneg _ (by omega)]
      constructor
      · exact Int.le_ediv_of_mul_le (by omega) (by omega)
      · exact Int.ediv_le_of_le_mul (by omega) (by omega)
    obtain ⟨q, hqe⟩ : ∃ q, q = (-x).fdiv s := ⟨_, rfl⟩
    rw [← hqe] at hq ⊢
    refine HG_tup (HGl_cons (HG_name (HGl_cons (HG_name (HGl_nil ?_)))))
    have hqs : -7000000 ≤ q * s ∧ q * s ≤ 7000000 := by
      have e1 : q * s ≤ 900000 * 7 := by
        rcases Int.le_total 0 q with h | h
        · exact Int.mul_le_mul hq.2 hs1.2 (by omega) (by decide)
        · exact Int.le_trans (Int.mul_nonpos_of_nonpos_of_nonneg h (by omega)) (by decide)
      have e2 : (-q) * s ≤ 900000 * 7 := by
        rcases Int.le_total 0 (-q) with h | h
        · exact Int.mul_le_mul (by omega) hs1.2 (by omega) (by decide)
        · exact Int.le_trans (Int.mul_nonpos_of_nonpos_of_nonneg h (by omega)) (by decide)
      rw [Int.neg_mul] at e2
      omega
    (repeat (first | ((with_reducible show HS _ _ _ _); first | refine HS_cons ?_ | refine HS_nil ?_) | ((with_reducible show HX _ _ (Stmt.Return (some _) _) _); refine HX_ret ?_) | ((with_reducible show HX _ _ (Stmt.Return none _) _); refine HX_ret0 ?_) | ((with_reducible show HX _ _ (Stmt.Break _) _); refine HX_brk ?_) | ((with_reducible show HX _ _ (Stmt.If _ _ _ _) _); refine HX_if ?_) | ((with_reducible show HX _ _ (Stmt.Assign [Expr.Name _ _] _ _) _); refine HX_assign ?_) | ((with_reducible show HX _ _ (Stmt.Assign [Expr.Tuple _ _ _] _ _) _); refine HX_unpack ?_) | ((with_reducible show HX _ _ (Stmt.AugAssign (Expr.Name _ _) _ _ _) _); refine HX_aug rfl ?_) | ((with_reducible show HE _ _ (Expr.Name _ _) _); refine HE_name rfl ?_) | ((with_reducible show HE _ _ (Expr.Constant (Const.int _) _ _) _); refine HE_int ?_) | ((with_reducible show HE _ _ (Expr.Constant (Const.str _) _ _) _); refine HE_str ?_) | ((with_reducible show HE _ _ (Expr.Constant Const.none _ _) _); refine HE_none ?_) | ((with_reducible show HE _ _ (Expr.Constant (Const.bool _) _ _) _); refine HE_bool ?_) | ((with_reducible show HE _ _ (Expr.BinOp _ _ _ _) _); refine HE_bin ?_) | ((with_reducible show HE _ _ (Expr.UnaryOp _ _ _) _); refine HE_un ?_) | ((with_reducible show HE _ _ (Expr.Compare _ [_] [_] _) _); refine HE_cmp ?_) | ((with_reducible show HE _ _ (Expr.Tuple _ _ _) _); refine HE_tuple ?_) | ((with_reducible show HE _ _ (Expr.List _ _) _); refine HE_list ?_) | ((with_reducible show HE _ _ (Expr.IfExp _ _ _ _) _); refine HE_ifexp ?_) | ((with_reducible show HE _ _ (Expr.Subscript _ _ _) _); refine HE_sub ?_) | ((with_reducible show HL _ _ _ _); first | refine HL_cons ?_ | refine HL_nil ?_) | ((with_reducible show HT _ _ (Expr.Compare _ [_] [_] _) _); refine HT_cmp ?_) | ((with_reducible show HT _ _ (Expr.UnaryOp UnaryOp.Not _ _) _); refine HT_not ?_) | ((with_reducible show HT _ _ (Expr.BoolOp _ _ _) _); refine HT_bool ?_) | ((with_reducible show HT _ _ (Expr.Name _ _) _); refine HT_val ?_) | ((with_reducible show HA _ _ _ _ _); first | refine HA_and ?_ | refine HA_or ?_ | refine HA_nil ?_) | ((with_reducible show HG _ _ (Expr.Name _ _) _ _); refine HG_name ?_) | ((with_reducible show HG _ _ (Expr.Tuple _ _ _) (AV.tup _) _); refine HG_tup ?_) | ((with_reducible show HGl _ _ _ _ _); first | refine HGl_cons ?_ | refine HGl_nil ?_) | ((with_reducible show Op2 _ _ (binaryOp Operator.Add) (AV.int _) (AV.int _) _); refine op_add ?_) | ((with_reducible show Op2 _ _ (binaryOp Operator.Sub) (AV.int _) (AV.int _) _); refine op_sub ?_) | ((with_reducible show Op2 _ _ (inplaceOp Operator.Add) (AV.int _) (AV.int _) _); refine op_iadd ?_) | ((with_reducible show Op2 _ _ (inplaceOp Operator.Sub) (AV.int _) (AV.int _) _); refine op_isub ?_) | ((with_reducible show Op1 _ _ _ (AV.int _) _); first | refine op_neg ?_ | refine op_inv ?_) | ((with_reducible show Op2 _ _ (compareOp _) (AV.int _) (AV.int _) _); first | refine op_eq ?_ | refine op_ne ?_ | refine op_lt ?_ | refine op_le ?_ | refine op_gt ?_ | refine op_ge ?_) | ((with_reducible show Truth _ (AV.bool _) _); refine truth_bool ?_) | ((with_reducible show Truth _ (AV.int _) _); refine truth_int ?_) | ((with_reducible show Truth _ AV.none _); refine truth_none ?_)))
    refine op_mul (IntMulOk.of_left (small _ (by omega) (by omega))) ?_
    (repeat (first | ((with_reducible show HS _ _ _ _); first | refine HS_cons ?_ | refine HS_nil ?_) | ((with_reducible show HX _ _ (Stmt.Return (some _) _) _); refine HX_ret ?_) | ((with_reducible show HX _ _ (Stmt.Return none _) _); refine HX_ret0 ?_) | ((with_reducible show HX _ _ (Stmt.Break _) _); refine HX_brk ?_) | ((with_reducible show HX _ _ (Stmt.If _ _ _ _) _); refine HX_if ?_) | ((with_reducible show HX _ _ (Stmt.Assign [Expr.Name _ _] _ _) _); refine HX_assign ?_) | ((with_reducible show HX _ _ (Stmt.Assign [Expr.Tuple _ _ _] _ _) _); refine HX_unpack ?_) | ((with_reducible show HX _ _ (Stmt.AugAssign (Expr.Name _ _) _ _ _) _); refine HX_aug rfl ?_) | ((with_reducible show HE _ _ (Expr.Name _ _) _); refine HE_name rfl ?_) | ((with_reducible show HE _ _ (Expr.Constant (Const.int _) _ _) _); refine HE_int ?_) | ((with_reducible show HE _ _ (Expr.Constant (Const.str _) _ _) _); refine HE_str ?_) | ((with_reducible show HE _ _ (Expr.Constant Const.none _ _) _); refine HE_none ?_) | ((with_reducible show HE _ _ (Expr.Constant (Const.bool _) _ _) _); refine HE_bool ?_) | ((with_reducible show HE _ _ (Expr.BinOp _ _ _ _) _); refine HE_bin ?_) | ((with_reducible show HE _ _ (Expr.UnaryOp _ _ _) _); refine HE_un ?_) | ((with_reducible show HE _ _ (Expr.Compare _ [_] [_] _) _); refine HE_cmp ?_) | ((with_reducible show HE _ _ (Expr.Tuple _ _ _) _); refine HE_tuple ?_) | ((with_reducible show HE _ _ (Expr.List _ _) _); refine HE_list ?_) | ((with_reducible show HE _ _ (Expr.IfExp _ _ _ _) _); refine HE_ifexp ?_) | ((with_reducible show HE _ _ (Expr.Subscript _ _ _) _); refine HE_sub ?_) | ((with_reducible show HL _ _ _ _); first | refine HL_cons ?_ | refine HL_nil ?_) | ((with_reducible show HT _ _ (Expr.Compare _ [_] [_] _) _); refine HT_cmp ?_) | ((with_reducible show HT _ _ (Expr.UnaryOp UnaryOp.Not _ _) _); refine HT_not ?_) | ((with_reducible show HT _ _ (Expr.BoolOp _ _ _) _); refine HT_bool ?_) | ((with_reducible show HT _ _ (Expr.Name _ _) _); refine HT_val ?_) | ((with_reducible show HA _ _ _ _ _); first | refine HA_and ?_ | refine HA_or ?_ | refine HA_nil ?_) | ((with_reducible show HG _ _ (Expr.Name _ _) _ _); refine HG_name ?_) | ((with_reducible show HG _ _ (Expr.Tuple _ _ _) (AV.tup _) _); refine HG_tup ?_) | ((with_reducible show HGl _ _ _ _ _); first | refine HGl_cons ?_ | refine HGl_nil ?_) | ((with_reducible show Op2 _ _ (binaryOp Operator.Add) (AV.int _) (AV.int _) _); refine op_add ?_) | ((with_reducible show Op2 _ _ (binaryOp Operator.Sub) (AV.int _) (AV.int _) _); refine op_sub ?_) | ((with_reducible show Op2 _ _ (inplaceOp Operator.Add) (AV.int _) (AV.int _) _); refine op_iadd ?_) | ((with_reducible show Op2 _ _ (inplaceOp Operator.Sub) (AV.int _) (AV.int _) _); refine op_isub ?_) | ((with_reducible show Op1 _ _ _ (AV.int _) _); first | refine op_neg ?_ | refine op_inv ?_) | ((with_reducible show Op2 _ _ (compareOp _) (AV.int _) (AV.int _) _); first | refine op_eq ?_ | refine op_ne ?_ | refine op_lt ?_ | refine op_le ?_ | refine op_gt ?_ | refine op_ge ?_) | ((with_reducible show Truth _ (AV.bool _) _); refine truth_bool ?_) | ((with_reducible show Truth _ (AV.int _) _); refine truth_int ?_) | ((with_reducible show Truth _ AV.none _); refine truth_none ?_)))
    refine op_mul (IntMulOk.of_left (small _ (by omega) (by omega))) ?_
    (repeat (first | ((with_reducible show HS _ _ _ _); first | refine HS_cons ?_ | refine HS_nil ?_) | ((with_reducible show HX _ _ (Stmt.Return (some _) _) _); refine HX_ret ?_) | ((with_reducible show HX _ _ (Stmt.Return none _) _); refine HX_ret0 ?_) | ((with_reducible show HX _ _ (Stmt.Break _) _); refine HX_brk ?_) | ((with_reducible show HX _ _ (Stmt.If _ _ _ _) _); refine HX_if ?_) | ((with_reducible show HX _ _ (Stmt.Assign [Expr.Name _ _] _ _) _); refine HX_assign ?_) | ((with_reducible show HX _ _ (Stmt.Assign [Expr.Tuple _ _ _] _ _) _); refine HX_unpack ?_) | ((with_reducible show HX _ _ (Stmt.AugAssign (Expr.Name _ _) _ _ _) _); refine HX_aug rfl ?_) | ((with_reducible show HE _ _ (Expr.Name _ _) _); refine HE_name rfl ?_) | ((with_reducible show HE _ _ (Expr.Constant (Const.int _) _ _) _); refine HE_int ?_) | ((with_reducible show HE _ _ (Expr.Constant (Const.str _) _ _) _); refine HE_str ?_) | ((with_reducible show HE _ _ (Expr.Constant Const.none _ _) _); refine HE_none ?_) | ((with_reducible show HE _ _ (Expr.Constant (Const.bool _) _ _) _); refine HE_bool ?_) | ((with_reducible show HE _ _ (Expr.BinOp _ _ _ _) _); refine HE_bin ?_) | ((with_reducible show HE _ _ (Expr.UnaryOp _ _ _) _); refine HE_un ?_) | ((with_reducible show HE _ _ (Expr.Compare _ [_] [_] _) _); refine HE_cmp ?_) | ((with_reducible show HE _ _ (Expr.Tuple _ _ _) _); refine HE_tuple ?_) | ((with_reducible show HE _ _ (Expr.List _ _) _); refine HE_list ?_) | ((with_reducible show HE _ _ (Expr.IfExp _ _ _ _) _); refine HE_ifexp ?_) | ((with_reducible show HE _ _ (Expr.Subscript _ _ _) _); refine HE_sub ?_) | ((with_reducible show HL _ _ _ _); first | refine HL_cons ?_ | refine HL_nil ?_) | ((with_reducible show HT _ _ (Expr.Compare _ [_] [_] _) _); refine HT_cmp ?_) | ((with_reducible show HT _ _ (Expr.UnaryOp UnaryOp.Not _ _) _); refine HT_not ?_) | ((with_reducible show HT _ _ (Expr.BoolOp _ _ _) _); refine HT_bool ?_) | ((with_reducible show HT _ _ (Expr.Name _ _) _); refine HT_val ?_) | ((with_reducible show HA _ _ _ _ _); first | refine HA_and ?_ | refine HA_or ?_ | refine HA_nil ?_) | ((with_reducible show HG _ _ (Expr.Name _ _) _ _); refine HG_name ?_) | ((with_reducible show HG _ _ (Expr.Tuple _ _ _) (AV.tup _) _); refine HG_tup ?_) | ((with_reducible show HGl _ _ _ _ _); first | refine HGl_cons ?_ | refine HGl_nil ?_) | ((with_reducible show Op2 _ _ (binaryOp Operator.Add) (AV.int _) (AV.int _) _); refine op_add ?_) | ((with_reducible show Op2 _ _ (binaryOp Operator.Sub) (AV.int _) (AV.int _) _); refine op_sub ?_) | ((with_reducible show Op2 _ _ (inplaceOp Operator.Add) (AV.int _) (AV.int _) _); refine op_iadd ?_) | ((with_reducible show Op2 _ _ (inplaceOp Operator.Sub) (AV.int _) (AV.int _) _); refine op_isub ?_) | ((with_reducible show Op1 _ _ _ (AV.int _) _); first | refine op_neg ?_ | refine op_inv ?_) | ((with_reducible show Op2 _ _ (compareOp _) (AV.int _) (AV.int _) _); first | refine op_eq ?_ | refine op_ne ?_ | refine op_lt ?_ | refine op_le ?_ | refine op_gt ?_ | refine op_ge ?_) | ((with_reducible show Truth _ (AV.bool _) _); refine truth_bool ?_) | ((with_reducible show Truth _ (AV.int _) _); refine truth_int ?_) | ((with_reducible show Truth _ AV.none _); refine truth_none ?_)))
    rw [show ((-x - q * s) * c != (-x - q * s) * c) = false by simp]
    show HS _ _ _ _
    (repeat (first | ((with_reducible show HS _ _ _ _); first | refine HS_cons ?_ | refine HS_nil ?_) | ((with_reducible show HX _ _ (Stmt.Return (some _) _) _); refine HX_ret ?_) | ((with_reducible show HX _ _ (Stmt.Return none _) _); refine HX_ret0 ?_) | ((with_reducible show HX _ _ (Stmt.Break _) _); refine HX_brk ?_) | ((with_reducible show HX _ _ (Stmt.If _ _ _ _) _); refine HX_if ?_) | ((with_reducible show HX _ _ (Stmt.Assign [Expr.Name _ _] _ _) _); refine HX_assign ?_) | ((with_reducible show HX _ _ (Stmt.Assign [Expr.Tuple _ _ _] _ _) _); refine HX_unpack ?_) | ((with_reducible show HX _ _ (Stmt.AugAssign (Expr.Name _ _) _ _ _) _); refine HX_aug rfl ?_) | ((with_reducible show HE _ _ (Expr.Name _ _) _); refine HE_name rfl ?_) | ((with_reducible show HE _ _ (Expr.Constant (Const.int _) _ _) _); refine HE_int ?_) | ((with_reducible show HE _ _ (Expr.Constant (Const.str _) _ _) _); refine HE_str ?_) | ((with_reducible show HE _ _ (Expr.Constant Const.none _ _) _); refine HE_none ?_) | ((with_reducible show HE _ _ (Expr.Constant (Const.bool _) _ _) _); refine HE_bool ?_) | ((with_reducible show HE _ _ (Expr.BinOp _ _ _ _) _); refine HE_bin ?_) | ((with_reducible show HE _ _ (Expr.UnaryOp _ _ _) _); refine HE_un ?_) | ((with_reducible show HE _ _ (Expr.Compare _ [_] [_] _) _); refine HE_cmp ?_) | ((with_reducible show HE _ _ (Expr.Tuple _ _ _) _); refine HE_tuple ?_) | ((with_reducible show HE _ _ (Expr.List _ _) _); refine HE_list ?_) | ((with_reducible show HE _ _ (Expr.IfExp _ _ _ _) _); refine HE_ifexp ?_) | ((with_reducible show HE _ _ (Expr.Subscript _ _ _) _); refine HE_sub ?_) | ((with_reducible show HL _ _ _ _); first | refine HL_cons ?_ | refine HL_nil ?_) | ((with_reducible show HT _ _ (Expr.Compare _ [_] [_] _) _); refine HT_cmp ?_) | ((with_reducible show HT _ _ (Expr.UnaryOp UnaryOp.Not _ _) _); refine HT_not ?_) | ((with_reducible show HT _ _ (Expr.BoolOp _ _ _) _); refine HT_bool ?_) | ((with_reducible show HT _ _ (Expr.Name _ _) _); refine HT_val ?_) | ((with_reducible show HA _ _ _ _ _); first | refine HA_and ?_ | refine HA_or ?_ | refine HA_nil ?_) | ((with_reducible show HG _ _ (Expr.Name _ _) _ _); refine HG_name ?_) | ((with_reducible show HG _ _ (Expr.Tuple _ _ _) (AV.tup _) _); refine HG_tup ?_) | ((with_reducible show HGl _ _ _ _ _); first | refine HGl_cons ?_ | refine HGl_nil ?_) | ((with_reducible show Op2 _ _ (binaryOp Operator.Add) (AV.int _) (AV.int _) _); refine op_add ?_) | ((with_reducible show Op2 _ _ (binaryOp Operator.Sub) (AV.int _) (AV.int _) _); refine op_sub ?_) | ((with_reducible show Op2 _ _ (inplaceOp Operator.Add) (AV.int _) (AV.int _) _); refine op_iadd ?_) | ((with_reducible show Op2 _ _ (inplaceOp Operator.Sub) (AV.int _) (AV.int _) _); refine op_isub ?_) | ((with_reducible show Op1 _ _ _ (AV.int _) _); first | refine op_neg ?_ | refine op_inv ?_) | ((with_reducible show Op2 _ _ (compareOp _) (AV.int _) (AV.int _) _); first | refine op_eq ?_ | refine op_ne ?_ | refine op_lt ?_ | refine op_le ?_ | refine op_gt ?_ | refine op_ge ?_) | ((with_reducible show Truth _ (AV.bool _) _); refine truth_bool ?_) | ((with_reducible show Truth _ (AV.int _) _); refine truth_int ?_) | ((with_reducible show Truth _ AV.none _); refine truth_none ?_)))
    refine op_mul (IntMulOk.of_left (small _ (by omega) (by omega))) ?_
    (repeat (first | ((with_reducible show HS _ _ _ _); first | refine HS_cons ?_ | refine HS_nil ?_) | ((with_reducible show HX _ _ (Stmt.Return (some _) _) _); refine HX_ret ?_) | ((with_reducible show HX _ _ (Stmt.Return none _) _); refine HX_ret0 ?_) | ((with_reducible show HX _ _ (Stmt.Break _) _); refine HX_brk ?_) | ((with_reducible show HX _ _ (Stmt.If _ _ _ _) _); refine HX_if ?_) | ((with_reducible show HX _ _ (Stmt.Assign [Expr.Name _ _] _ _) _); refine HX_assign ?_) | ((with_reducible show HX _ _ (Stmt.Assign [Expr.Tuple _ _ _] _ _) _); refine HX_unpack ?_) | ((with_reducible show HX _ _ (Stmt.AugAssign (Expr.Name _ _) _ _ _) _); refine HX_aug rfl ?_) | ((with_reducible show HE _ _ (Expr.Name _ _) _); refine HE_name rfl ?_) | ((with_reducible show HE _ _ (Expr.Constant (Const.int _) _ _) _); refine HE_int ?_) | ((with_reducible show HE _ _ (Expr.Constant (Const.str _) _ _) _); refine HE_str ?_) | ((with_reducible show HE _ _ (Expr.Constant Const.none _ _) _); refine HE_none ?_) | ((with_reducible show HE _ _ (Expr.Constant (Const.bool _) _ _) _); refine HE_bool ?_) | ((with_reducible show HE _ _ (Expr.BinOp _ _ _ _) _); refine HE_bin ?_) | ((with_reducible show HE _ _ (Expr.UnaryOp _ _ _) _); refine HE_un ?_) | ((with_reducible show HE _ _ (Expr.Compare _ [_] [_] _) _); refine HE_cmp ?_) | ((with_reducible show HE _ _ (Expr.Tuple _ _ _) _); refine HE_tuple ?_) | ((with_reducible show HE _ _ (Expr.List _ _) _); refine HE_list ?_) | ((with_reducible show HE _ _ (Expr.IfExp _ _ _ _) _); refine HE_ifexp ?_) | ((with_reducible show HE _ _ (Expr.Subscript _ _ _) _); refine HE_sub ?_) | ((with_reducible show HL _ _ _ _); first | refine HL_cons ?_ | refine HL_nil ?_) | ((with_reducible show HT _ _ (Expr.Compare _ [_] [_] _) _); refine HT_cmp ?_) | ((with_reducible show HT _ _ (Expr.UnaryOp UnaryOp.Not _ _) _); refine HT_not ?_) | ((with_reducible show HT _ _ (Expr.BoolOp _ _ _) _); refine HT_bool ?_) | ((with_reducible show HT _ _ (Expr.Name _ _) _); refine HT_val ?_) | ((with_reducible show HA _ _ _ _ _); first | refine HA_and ?_ | refine HA_or ?_ | refine HA_nil ?_) | ((with_reducible show HG _ _ (Expr.Name _ _) _ _); refine HG_name ?_) | ((with_reducible show HG _ _ (Expr.Tuple _ _ _) (AV.tup _) _); refine HG_tup ?_) | ((with_reducible show HGl _ _ _ _ _); first | refine HGl_cons ?_ | refine HGl_nil ?_) | ((with_reducible show Op2 _ _ (binaryOp Operator.Add) (AV.int _) (AV.int _) _); refine op_add ?_) | ((with_reducible show Op2 _ _ (binaryOp Operator.Sub) (AV.int _) (AV.int _) _); refine op_sub ?_) | ((with_reducible show Op2 _ _ (inplaceOp Operator.Add) (AV.int _) (AV.int _) _); refine op_iadd ?_) | ((with_reducible show Op2 _ _ (inplaceOp Operator.Sub) (AV.int _) (AV.int _) _); refine op_isub ?_) | ((with_reducible show Op1 _ _ _ (AV.int _) _); first | refine op_neg ?_ | refine op_inv ?_) | ((with_reducible show Op2 _ _ (compareOp _) (AV.int _) (AV.int _) _); first | refine op_eq ?_ | refine op_ne ?_ | refine op_lt ?_ | refine op_le ?_ | refine op_gt ?_ | refine op_ge ?_) | ((with_reducible show Truth _ (AV.bool _) _); refine truth_bool ?_) | ((with_reducible show Truth _ (AV.int _) _); refine truth_int ?_) | ((with_reducible show Truth _ AV.none _); refine truth_none ?_)))
    refine ⟨rfl, rfl, rfl, ?_, trivial⟩
    have e : numM n last (i + 1) = (-q - 1) * s := by
      show nextM (numM n last i) (last - 1 - i) = _
      rw [← hxe, hqe, show last - 1 - (i : Int) = s by omega]
      rfl
    rw [e]; rfl
  · intro st' hst
    rw [rangeL_len] at hst
    refine HS.has ?_ hst
    obtain ⟨k, hk⟩ : ∃ k, steps3 first last = k + 1 := ⟨(last - first).toNat, by unfold steps3; omega⟩
    have hk' : (last - 1 - (first - 2)).toNat = k + 1 := hk
    rw [hk']
    have hb := numM_bounds hn ⟨by omega, h3⟩ (k + 1) (by omega)
    refine HS_cons (HX_ret (HE_callD H.dm ?_))
    (repeat (first | ((with_reducible show HS _ _ _ _); first | refine HS_cons ?_ | refine HS_nil ?_) | ((with_reducible show HX _ _ (Stmt.Return (some _) _) _); refine HX_ret ?_) | ((with_reducible show HX _ _ (Stmt.Return none _) _); refine HX_ret0 ?_) | ((with_reducible show HX _ _ (Stmt.Break _) _); refine HX_brk ?_) | ((with_reducible show HX _ _ (Stmt.If _ _ _ _) _); refine HX_if ?_) | ((with_reducible show HX _ _ (Stmt.Assign [Expr.Name _ _] _ _) _); refine HX_assign ?_) | ((with_reducible show HX _ _ (Stmt.Assign [Expr.Tuple _ _ _] _ _) _); refine HX_unpack ?_) | ((with_reducible show HX _ _ (Stmt.AugAssign (Expr.Name _ _) _ _ _) _); refine HX_aug rfl ?_) | ((with_reducible show HE _ _ (Expr.Name _ _) _); refine HE_name rfl ?_) | ((with_reducible show HE _ _ (Expr.Constant (Const.int _) _ _) _); refine HE_int ?_) | ((with_reducible show HE _ _ (Expr.Constant (Const.str _) _ _) _); refine HE_str ?_) | ((with_reducible show HE _ _ (Expr.Constant Const.none _ _) _); refine HE_none ?_) | ((with_reducible show HE _ _ (Expr.Constant (Const.bool _) _ _) _); refine HE_bool ?_) | ((with_reducible show HE _ _ (Expr.BinOp _ _ _ _) _); refine HE_bin ?_) | ((with_reducible show HE _ _ (Expr.UnaryOp _ _ _) _); refine HE_un ?_) | ((with_reducible show HE _ _ (Expr.Compare _ [_] [_] _) _); refine HE_cmp ?_) | ((with_reducible show HE _ _ (Expr.Tuple _ _ _) _); refine HE_tuple ?_) | ((with_reducible show HE _ _ (Expr.List _ _) _); refine HE_list ?_) | ((with_reducible show HE _ _ (Expr.IfExp _ _ _ _) _); refine HE_ifexp ?_) | ((with_reducible show HE _ _ (Expr.Subscript _ _ _) _); refine HE_sub ?_) | ((with_reducible show HL _ _ _ _); first | refine HL_cons ?_ | refine HL_nil ?_) | ((with_reducible show HT _ _ (Expr.Compare _ [_] [_] _) _); refine HT_cmp ?_) | ((with_reducible show HT _ _ (Expr.UnaryOp UnaryOp.Not _ _) _); refine HT_not ?_) | ((with_reducible show HT _ _ (Expr.BoolOp _ _ _) _); refine HT_bool ?_) | ((with_reducible show HT _ _ (Expr.Name _ _) _); refine HT_val ?_) | ((with_reducible show HA _ _ _ _ _); first | refine HA_and ?_ | refine HA_or ?_ | refine HA_nil ?_) | ((with_reducible show HG _ _ (Expr.Name _ _) _ _); refine HG_name ?_) | ((with_reducible show HG _ _ (Expr.Tuple _ _ _) (AV.tup _) _); refine HG_tup ?_) | ((with_reducible show HGl _ _ _ _ _); first | refine HGl_cons ?_ | refine HGl_nil ?_) | ((with_reducible show Op2 _ _ (binaryOp Operator.Add) (AV.int _) (AV.int _) _); refine op_add ?_) | ((with_reducible show Op2 _ _ (binaryOp Operator.Sub) (AV.int _) (AV.int _) _); refine op_sub ?_) | ((with_reducible show Op2 _ _ (inplaceOp Operator.Add) (AV.int _) (AV.int _) _); refine op_iadd ?_) | ((with_reducible show Op2 _ _ (inplaceOp Operator.Sub) (AV.int _) (AV.int _) _); refine op_isub ?_) | ((with_reducible show Op1 _ _ _ (AV.int _) _); first | refine op_neg ?_ | refine op_inv ?_) | ((with_reducible show Op2 _ _ (compareOp _) (AV.int _) (AV.int _) _); first | refine op_eq ?_ | refine op_ne ?_ | refine op_lt ?_ | refine op_le ?_ | refine op_gt ?_ | refine op_ge ?_) | ((with_reducible show Truth _ (AV.bool _) _); refine truth_bool ?_) | ((with_reducible show Truth _ (AV.int _) _); refine truth_int ?_) | ((with_reducible show Truth _ AV.none _); refine truth_none ?_)))
    refine op_mul (IntMulOk.of_left (small _ (by omega) (by omega))) ?_
    (repeat (first | ((with_reducible show HS _ _ _ _); first | refine HS_cons ?_ | refine HS_nil ?_) | ((with_reducible show HX _ _ (Stmt.Return (some _) _) _); refine HX_ret ?_) | ((with_reducible show HX _ _ (Stmt.Return none _) _); refine HX_ret0 ?_) | ((with_reducible show HX _ _ (Stmt.Break _) _); refine HX_brk ?_) | ((with_reducible show HX _ _ (Stmt.If _ _ _ _) _); refine HX_if ?_) | ((with_reducible show HX _ _ (Stmt.Assign [Expr.Name _ _] _ _) _); refine HX_assign ?_) | ((with_reducible show HX _ _ (Stmt.Assign [Expr.Tuple _ _ _] _ _) _); refine HX_unpack ?_) | ((with_reducible show HX _ _ (Stmt.AugAssign (Expr.Name _ _) _ _ _) _); refine HX_aug rfl ?_) | ((with_reducible show HE _ _ (Expr.Name _ _) _); refine HE_name rfl ?_) | ((with_reducible show HE _ _ (Expr.Constant (Const.int _) _ _) _); refine HE_int ?_) | ((with_reducible show HE _ _ (Expr.Constant (Const.str _) _ _) _); refine HE_str ?_) | ((with_reducible show HE _ _ (Expr.Constant Const.none _ _) _); refine HE_none ?_) | ((with_reducible show HE _ _ (Expr.Constant (Const.bool _) _ _) _); refine HE_bool ?_) | ((with_reducible show HE _ _ (Expr.BinOp _ _ _ _) _); refine HE_bin ?_) | ((with_reducible show HE _ _ (Expr.UnaryOp _ _ _) _); refine HE_un ?_) | ((with_reducible show HE _ _ (Expr.Compare _ [_] [_] _) _); refine HE_cmp ?_) | ((with_reducible show HE _ _ (Expr.Tuple _ _ _) _); refine HE_tuple ?_) | ((with_reducible show HE _ _ (Expr.List _ _) _); refine HE_list ?_) | ((with_reducible show HE _ _ (Expr.IfExp _ _ _ _) _); refine HE_ifexp ?_) | ((with_reducible show HE _ _ (Expr.Subscript _ _ _) _); refine HE_sub ?_) | ((with_reducible show HL _ _ _ _); first | refine HL_cons ?_ | refine HL_nil ?_) | ((with_reducible show HT _ _ (Expr.Compare _ [_] [_] _) _); refine HT_cmp ?_) | ((with_reducible show HT _ _ (Expr.UnaryOp UnaryOp.Not _ _) _); refine HT_not ?_) | ((with_reducible show HT _ _ (Expr.BoolOp _ _ _) _); refine HT_bool ?_) | ((with_reducible show HT _ _ (Expr.Name _ _) _); refine HT_val ?_) | ((with_reducible show HA _ _ _ _ _); first | refine HA_and ?_ | refine HA_or ?_ | refine HA_nil ?_) | ((with_reducible show HG _ _ (Expr.Name _ _) _ _); refine HG_name ?_) | ((with_reducible show HG _ _ (Expr.Tuple _ _ _) (AV.tup _) _); refine HG_tup ?_) | ((with_reducible show HGl _ _ _ _ _); first | refine HGl_cons ?_ | refine HGl_nil ?_) | ((with_reducible show Op2 _ _ (binaryOp Operator.Add) (AV.int _) (AV.int _) _); refine op_add ?_) | ((with_reducible show Op2 _ _ (binaryOp Operator.Sub) (AV.int _) (AV.int _) _); refine op_sub ?_) | ((with_reducible show Op2 _ _ (inplaceOp Operator.Add) (AV.int _) (AV.int _) _); refine op_iadd ?_) | ((with_reducible show Op2 _ _ (inplaceOp Operator.Sub) (AV.int _) (AV.int _) _); refine op_isub ?_) | ((with_reducible show Op1 _ _ _ (AV.int _) _); first | refine op_neg ?_ | refine op_inv ?_) | ((with_reducible show Op2 _ _ (compareOp _) (AV.int _) (AV.int _) _); first | refine op_eq ?_ | refine op_ne ?_ | refine op_lt ?_ | refine op_le ?_ | refine op_gt ?_ | refine op_ge ?_) | ((with_reducible show Truth _ (AV.bool _) _); refine truth_bool ?_) | ((with_reducible show Truth _ (AV.int _) _); refine truth_int ?_) | ((with_reducible show Truth _ AV.none _); refine truth_none ?_)))
    refine op_mul (IntMulOk.of_left (small _ (by omega) (by omega))) ?_
    (repeat (first | ((with_reducible show HS _ _ _ _); first | refine HS_cons ?_ | refine HS_nil ?_) | ((with_reducible show HX _ _ (Stmt.Return (some _) _) _); refine HX_ret ?_) | ((with_reducible show HX _ _ (Stmt.Return none _) _); refine HX_ret0 ?_) | ((with_reducible show HX _ _ (Stmt.Break _) _); refine HX_brk ?_) | ((with_reducible show HX _ _ (Stmt.If _ _ _ _) _); refine HX_if ?_) | ((with_reducible show HX _ _ (Stmt.Assign [Expr.Name _ _] _ _) _); refine HX_assign ?_) | ((with_reducible show HX _ _ (Stmt.Assign [Expr.Tuple _ _ _] _ _) _); refine HX_unpack ?_) | ((with_reducible show HX _ _ (Stmt.AugAssign (Expr.Name _ _) _ _ _) _); refine HX_aug rfl ?_) | ((with_reducible show HE _ _ (Expr.Name _ _) _); refine HE_name rfl ?_) | ((with_reducible show HE _ _ (Expr.Constant (Const.int _) _ _) _); refine HE_int ?_) | ((with_reducible show HE _ _ (Expr.Constant (Const.str _) _ _) _); refine HE_str ?_) | ((with_reducible show HE _ _ (Expr.Constant Const.none _ _) _); refine HE_none ?_) | ((with_reducible show HE _ _ (Expr.Constant (Const.bool _) _ _) _); refine HE_bool ?_) | ((with_reducible show HE _ _ (Expr.BinOp _ _ _ _) _); refine HE_bin ?_) | ((with_reducible show HE _ _ (Expr.UnaryOp _ _ _) _); refine HE_un ?_) | ((with_reducible show HE _ _ (Expr.Compare _ [_] [_] _) _); refine HE_cmp ?_) | ((with_reducible show HE _ _ (Expr.Tuple _ _ _) _); refine HE_tuple ?_) | ((with_reducible show HE _ _ (Expr.List _ _) _); refine HE_list ?_) | ((with_reducible show HE _ _ (Expr.IfExp _ _ _ _) _); refine HE_ifexp ?_) | ((with_reducible show HE _ _ (Expr.Subscript _ _ _) _); refine HE_sub ?_) | ((with_reducible show HL _ _ _ _); first | refine HL_cons ?_ | refine HL_nil ?_) | ((with_reducible show HT _ _ (Expr.Compare _ [_] [_] _) _); refine HT_cmp ?_) | ((with_reducible show HT _ _ (Expr.UnaryOp UnaryOp.Not _ _) _); refine HT_not ?_) | ((with_reducible show HT _ _ (Expr.BoolOp _ _ _) _); refine HT_bool ?_) | ((with_reducible show HT _ _ (Expr.Name _ _) _); refine HT_val ?_) | ((with_reducible show HA _ _ _ _ _); first | refine HA_and ?_ | refine HA_or ?_ | refine HA_nil ?_) | ((with_reducible show HG _ _ (Expr.Name _ _) _ _); refine HG_name ?_) | ((with_reducible show HG _ _ (Expr.Tuple _ _ _) (AV.tup _) _); refine HG_tup ?_) | ((with_reducible show HGl _ _ _ _ _); first | refine HGl_cons ?_ | refine HGl_nil ?_) | ((with_reducible show Op2 _ _ (binaryOp Operator.Add) (AV.int _) (AV.int _) _); refine op_add ?_) | ((with_reducible show Op2 _ _ (binaryOp Operator.Sub) (AV.int _) (AV.int _) _); refine op_sub ?_) | ((with_reducible show Op2 _ _ (inplaceOp Operator.Add) (AV.int _) (AV.int _) _); refine op_iadd ?_) | ((with_reducible show Op2 _ _ (inplaceOp Operator.Sub) (AV.int _) (AV.int _) _); refine op_isub ?_) | ((with_reducible show Op1 _ _ _ (AV.int _) _); first | refine op_neg ?_ | refine op_inv ?_) | ((with_reducible show Op2 _ _ (compareOp _) (AV.int _) (AV.int _) _); first | refine op_eq ?_ | refine op_ne ?_ | refine op_lt ?_ | refine op_le ?_ | refine op_gt ?_ | refine op_ge ?_) | ((with_reducible show Truth _ (AV.bool _) _); refine truth_bool ?_) | ((with_reducible show Truth _ (AV.int _) _); refine truth_int ?_) | ((with_reducible show Truth _ AV.none _); refine truth_none ?_)))
    rw [hd']
    refine Call.mono (dm_share hK H (by omega) (by omega) (by omega) (by omega)) ?_
    rintro _ rfl
    show AV.tup _ = AV.tup _
    have e : numM n last (k + 1) = (-((-numM n last k).fdiv (first - 1)) - 1) * (first - 1) := by
      show nextM (numM n last k) (last - 1 - k) = _
      rw [show last - 1 - (k : Int) = first - 1 by omega]
      rfl
    have e2 : (numM n last (k + 1)).fdiv (first - 1) * (first - 1) = numM n last (k + 1) := by
      rw [e, Int.mul_fdiv_cancel _ (by omega)]
    rw [e2, Int.sub_self, Int.zero_mul]
    unfold placeM
    rw [hk]
end
end Mine

end

section
open PySem PySem.W PyProof.Rows
set_option maxRecDepth 100000
set_option linter.unusedVariables false
namespace Mine
noncomputable def pM (s k : Int) : Int := -((-(k * s)).fdiv (s - 1)) - 1
noncomputable def fM (s y : Int) : Int := y - y.fdiv s
theorem galois {s k y : Int} (hs : 2 ≤ s) : pM s k ≤ y ↔ k ≤ fM s y := by
  unfold pM fM
  rw [Int.fdiv_eq_ediv_of_nonneg _ (by omega : 0 ≤ s - 1), Int.fdiv_eq_ediv_of_nonneg _ (by omega : 0 ≤ s)]
  have a1 := Int.mul_ediv_add_emod (-(k * s)) (s - 1)
  have a2 := Int.emod_nonneg (-(k * s)) (by omega : s - 1 ≠ 0)
  have a3 := Int.emod_lt_of_pos (-(k * s)) (by omega : 0 < s - 1)
  have b1 := Int.mul_ediv_add_emod y s
  have b2 := Int.emod_nonneg y (by omega : s ≠ 0)
  have b3 := Int.emod_lt_of_pos y (by omega : 0 < s)
  obtain ⟨q, hq⟩ : ∃ q, q = (-(k * s)) / (s - 1) := ⟨_, rfl⟩
  obtain ⟨z, hz⟩ : ∃ z, z = y / s := ⟨_, rfl⟩
  rw [← hq] at a1 ⊢
  rw [← hz] at b1 ⊢
  constructor
  · intro h
    have h1 : -y - 1 ≤ q := by omega
    have h2 : (s - 1) * (-y - 1) ≤ (s - 1) * q := Int.mul_le_mul_of_nonneg_left h1 (by omega)
    have h3 : k * s ≤ (s - 1) * (y + 1) := by
      have : (s - 1) * (-y - 1) = -((s - 1) * (y + 1)) := by rw [← Int.mul_neg]; congr 1; omega
      omega
    have h4 : (s - 1) * (y + 1) = s * y + s - y - 1 := by rw [Int.sub_mul, Int.mul_add, Int.one_mul, Int.mul_one]; omega
    have h5 : s * k < s * (y - z + 1) := by
      have : s * (y - z + 1) = s * y - s * z + s := by rw [Int.mul_add, Int.mul_sub, Int.mul_one]
      rw [this, Int.mul_comm s k]
      omega
    have := Int.lt_of_mul_lt_mul_left h5 (by omega)
    omega
  · intro h
    have h1 : s * k ≤ s * (y - z) := Int.mul_le_mul_of_nonneg_left h (by omega)
    have e1 : s * (y - z) = s * y - s * z := Int.mul_sub _ _ _
    have h4 : (s - 1) * (y + 1) = s * y + s - y - 1 := by rw [Int.sub_mul, Int.mul_add, Int.one_mul, Int.mul_one]; omega
    have h6 : (s - 1) * (-y - 1) < (s - 1) * (q + 1) := by
      have e2 : (s - 1) * (-y - 1) = -((s - 1) * (y + 1)) := by rw [← Int.mul_neg]; congr 1; omega
      have e3 : (s - 1) * (q + 1) = (s - 1) * q + (s - 1) := by rw [Int.mul_add, Int.mul_one]
      rw [e2, e3]
      rw [Int.mul_comm k s] at a1 a3
      omega
    have := Int.lt_of_mul_lt_mul_left h6 (by omega)
    omega
noncomputable def PM (n last : Int) : Nat → Int
  | 0 => n
  | i + 1 => pM (last - i) (PM n last i)
theorem numM_PM {n last : Int} : ∀ i : Nat, numM n last i = PM n last i * (last - i)
  | 0 => by simp [numM, PM]
  | i + 1 => by
    show nextM (numM n last i) (last - 1 - i) = pM (last - i) (PM n last i) * (last - ((i + 1 : Nat) : Int))
    rw [numM_PM i]
    unfold nextM pM
    rw [show last - ((i + 1 : Nat) : Int) = last - 1 - i by omega, show last - (i : Int) - 1 = last - 1 - i by omega]
theorem placeM_PM {first last n : Int} (h1 : 2 ≤ first) (h2 : first ≤ last) : placeM first last n = PM n last (steps3 first last) := by
  unfold placeM
  rw [numM_PM, show last - ((steps3 first last : Nat) : Int) = first - 1 by unfold steps3; omega, Int.mul_fdiv_cancel _ (by omega)]
noncomputable def cM (first x : Int) : Nat → Int
  | 0 => x
  | i + 1 => fM (first + i) (cM first x i)
theorem chain3 {first last n x : Int} (h1 : 2 ≤ first) (h2 : first ≤ last) : ∀ j : Nat, j ≤ steps3 first last → (PM n last (steps3 first last) ≤ x ↔ PM n last (steps3 first last - j) ≤ cM first x j)
  | 0, _ => Iff.rfl
  | j + 1, hj => by
    rw [chain3 h1 h2 j (by omega)]
    obtain ⟨k, hk⟩ : ∃ k, steps3 first last - j = k + 1 := ⟨steps3 first last - j - 1, by omega⟩
    rw [hk, show steps3 first last - (j + 1) = k by omega]
    show pM (last - k) (PM n last k) ≤ _ ↔ _ ≤ fM (first + j) (cM first x j)
    have : last - (k : Int) = first + j := by unfold steps3 at hk; omega
    rw [this]
    exact galois (by omega)
theorem place_le {first last n x : Int} (h1 : 2 ≤ first) (h2 : first ≤ last) : placeM first last n ≤ x ↔ n ≤ cM first x (steps3 first last) := by
  rw [placeM_PM h1 h2, chain3 h1 h2 (steps3 first last) (Nat.le_refl _), Nat.sub_self]
  rfl
theorem fM_bounds {s y : Int} (hs : 2 ≤ s) : (0 ≤ y → 0 ≤ fM s y ∧ fM s y ≤ y) ∧ (y ≤ 0 → y ≤ fM s y ∧ fM s y ≤ 0) := by
  unfold fM
  rw [Int.fdiv_eq_ediv_of_nonneg _ (by omega : 0 ≤ s)]
  constructor
  · intro h
    have h1 := Int.ediv_nonneg h (by omega : 0 ≤ s)
    have h2 := Int.ediv_le_self (a := y) s h
    omega
  · intro h
    have h1 : y / s ≤ 0 := Int.ediv_le_of_le_mul (by omega) (by omega)
    have h2 : y ≤ y / s := Int.le_ediv_of_mul_le (by omega) (by
      have := Int.mul_le_mul_of_nonpos_left (a := y) (b := s) (c := 1) h (by omega)
      rw [Int.mul_one] at this; exact this)
    omega
theorem cM_bounds {first x : Int} (h1 : 2 ≤ first) (hx : -6000 ≤ x ∧ x ≤ 6000) : ∀ i, -6000 ≤ cM first x i ∧ cM first x i ≤ 6000
  | 0 => hx
  | i + 1 => by
    have ih := cM_bounds h1 hx i
    have := fM_bounds (s := first + i) (y := cM first x i) (by omega)
    show -6000 ≤ fM _ _ ∧ fM _ _ ≤ 6000
    rcases Int.le_total 0 (cM first x i) with h | h
    · have := this.1 h; omega
    · have := this.2 h; omega
noncomputable def abc : List Nat := [97, 98, 99, 100, 101, 102, 103, 104, 105, 106, 107, 108, 109, 110, 111, 112, 113, 114, 115, 116, 117, 118, 119, 120, 121, 122]
noncomputable def leftL (first : Int) (l : List Nat) : Nat → List Nat
  | 0 => l
  | i + 1 => struck (first + i) (leftL first l i)
noncomputable def signAt (l : List Nat) (p : Int) : Nat := (l[(p - 1).toNat]?).getD 0
noncomputable def accN (first last : Int) (l : List Nat) : Nat → List Nat
  | 0 => []
  | i + 1 => accN first last l i ++ [signAt l (placeM first last (i + 1))]
noncomputable def dueF (first last : Int) (l : List Nat) : Nat → Nat → List Nat
  | 0, i => accN first last l i
  | k + 1, i => if placeM first last (i + 1) > l.length then accN first last l i else dueF first last l k (i + 1)
noncomputable def first3 (t : Int) : Int := 2 + t.fmod 2
noncomputable def last3 (t : Int) : Int := first3 t + 2 + (t.fdiv 2).fmod 3
noncomputable def lenA3 (t : Int) : Nat := (19 + (t.fdiv 6).fmod 8).toNat
noncomputable def good3 (t : Int) : Bool :=
  ((List.range (lenA3 t)).all fun i => decide (1 ≤ placeM (first3 t) (last3 t) ((i : Int) + 1))) &&
    (leftL (first3 t) (abc.take (lenA3 t)) (steps3 (first3 t) (last3 t)) == dueF (first3 t) (last3 t) (abc.take (lenA3 t)) (lenA3 t) 0)
theorem good_all : (List.range 48).all (fun r => good3 (r : Int)) = true := by decide +kernel
theorem mod48 (t : Int) : ∃ r : Nat, r < 48 ∧ first3 t = first3 r ∧ last3 t = last3 r ∧ lenA3 t = lenA3 r := by
  refine ⟨(t % 48).toNat, by omega, ?_, ?_, ?_⟩
  all_goals
    simp only [lenA3, last3, first3, Int.fdiv_eq_ediv_of_nonneg _ (by decide : (0 : Int) ≤ 2), Int.fdiv_eq_ediv_of_nonneg _ (by decide : (0 : Int) ≤ 6), Int.fmod_eq_emod_of_nonneg _ (by decide : (0 : Int) ≤ 2), Int.fmod_eq_emod_of_nonneg _ (by decide : (0 : Int) ≤ 3), Int.fmod_eq_emod_of_nonneg _ (by decide : (0 : Int) ≤ 8)]
    omega
theorem good3_ok (t : Int) : good3 t = true := by
  obtain ⟨r, hr, h1, h2, h3⟩ := mod48 t
  have := List.all_eq_true.mp good_all r (List.mem_range.mpr hr)
  unfold good3 at this ⊢
  rw [h1, h2, h3]; exact this
end Mine

end

section
open PySem PySem.W PyProof.Rows
set_option maxRecDepth 100000
set_option linter.unusedVariables false
namespace Mine
theorem struck_len {size : Int} (hs : 1 ≤ size) (l : List Nat) : (struck size l).length ≤ l.length := itS_len hs (l, (l.length : Int)) l.length
theorem leftL_len {first : Int} (hs : 1 ≤ first) (l : List Nat) : ∀ i, (leftL first l i).length ≤ l.length
  | 0 => Nat.le_refl _
  | i + 1 => Nat.le_trans (struck_len (by omega) _) (leftL_len hs l i)
theorem accN_len {first last : Int} {l : List Nat} : ∀ i, (accN first last l i).length = i
  | 0 => rfl
  | i + 1 => by simp [accN, accN_len i]
section
variable {C : Ctx} (hK : C.K = K0 C.w.params)
include hK
theorem g_sum : Glob C (Str.ofString "sum") (.builtin "sum") := hasB_of hK rfl (by decide +kernel) (by decide +kernel)
variable {f f1 f2 f3 f4 : Addr} (H : Arith C f f1 f2 f3 f4) {fh fp fr : Addr} (G : L3 C fh fp fr)
include H G
set_option maxHeartbeats 4000000 in
theorem law3_body {fs fl : Addr} (hfs : HasDef C (Str.ofString "_law_struck") fs) (hfl : HasDef C (Str.ofString "_law_place") fl) {ns : List Int} (hns : ns.length ≤ 63) (fi : FI C ⟨Str.ofString "law", dScope (Str.ofString "law")⟩) (hd : fi.d = 200) :
    HS fi [(Str.ofString "script", .v (.obj (scriptP ns)))] (dBody (Str.ofString "law")) (RetQ fun r => r = .bool true) := by
  have hlen := g_len hK
  have hrange := g_range hK
  have hsum := g_sum hK
  have hsl : sizeLine = 2 ^ 24 := rfl
  have small : ∀ z : Int, -100000000 ≤ z → z ≤ 100000000 → bl z ≤ 64 := fun z q1 q2 => bl_le (k := 64) (by omega)
  have small8 : ∀ z : Int, -100000000 ≤ z → z ≤ 100000000 → bl z ≤ 8000 := fun z q1 q2 => Nat.le_trans (small z q1 q2) (by decide)
  refine HS_cons (HX_assign (HE_callB hsum (fun _ q => nomatch q) (HL_cons (HE_sliceL (HE_name rfl ⟨_, like_script, by simp; omega, HP_none (HP_some (HE_int ⟨_, rfl, HL_nil ?_⟩))⟩)))))
  have e63 : cut (ns.map AV.int) none (some 63) = (ns.take 63).map AV.int := by
    rw [show (63 : Int) = ((63 : Nat) : Int) from rfl, cut_to, List.map_take]
  rw [e63]
  refine op_sum like_lst ?_
  obtain ⟨t, ht⟩ : ∃ t, t = (ns.take 63).sum := ⟨_, rfl⟩
  rw [← ht]
  (repeat (first | ((with_reducible show HS _ _ _ _); first | refine HS_cons ?_ | refine HS_nil ?_) | ((with_reducible show HX _ _ (Stmt.Return (some _) _) _); refine HX_ret ?_) | ((with_reducible show HX _ _ (Stmt.Return none _) _); refine HX_ret0 ?_) | ((with_reducible show HX _ _ (Stmt.Break _) _); refine HX_brk ?_) | ((with_reducible show HX _ _ (Stmt.If _ _ _ _) _); refine HX_if ?_) | ((with_reducible show HX _ _ (Stmt.Assign [Expr.Name _ _] _ _) _); refine HX_assign ?_) | ((with_reducible show HX _ _ (Stmt.Assign [Expr.Tuple _ _ _] _ _) _); refine HX_unpack ?_) | ((with_reducible show HX _ _ (Stmt.AugAssign (Expr.Name _ _) _ _ _) _); refine HX_aug rfl ?_) | ((with_reducible show HE _ _ (Expr.Name _ _) _); refine HE_name rfl ?_) | ((with_reducible show HE _ _ (Expr.Constant (Const.int _) _ _) _); refine HE_int ?_) | ((with_reducible show HE _ _ (Expr.Constant (Const.str _) _ _) _); refine HE_str ?_) | ((with_reducible show HE _ _ (Expr.Constant Const.none _ _) _); refine HE_none ?_) | ((with_reducible show HE _ _ (Expr.Constant (Const.bool _) _ _) _); refine HE_bool ?_) | ((with_reducible show HE _ _ (Expr.BinOp _ _ _ _) _); refine HE_bin ?_) | ((with_reducible show HE _ _ (Expr.UnaryOp _ _ _) _); refine HE_un ?_) | ((with_reducible show HE _ _ (Expr.Compare _ [_] [_] _) _); refine HE_cmp ?_) | ((with_reducible show HE _ _ (Expr.Tuple _ _ _) _); refine HE_tuple ?_) | ((with_reducible show HE _ _ (Expr.List _ _) _); refine HE_list ?_) | ((with_reducible show HE _ _ (Expr.IfExp _ _ _ _) _); refine HE_ifexp ?_) | ((with_reducible show HL _ _ _ _); first | refine HL_cons ?_ | refine HL_nil ?_) | ((with_reducible show HT _ _ (Expr.Compare _ [_] [_] _) _); refine HT_cmp ?_) | ((with_reducible show HT _ _ (Expr.UnaryOp UnaryOp.Not _ _) _); refine HT_not ?_) | ((with_reducible show HT _ _ (Expr.BoolOp _ _ _) _); refine HT_bool ?_) | ((with_reducible show HT _ _ (Expr.Name _ _) _); refine HT_val ?_) | ((with_reducible show HA _ _ _ _ _); first | refine HA_and ?_ | refine HA_or ?_ | refine HA_nil ?_) | ((with_reducible show HG _ _ (Expr.Name _ _) _ _); refine HG_name ?_) | ((with_reducible show HG _ _ (Expr.Tuple _ _ _) (AV.tup _) _); refine HG_tup ?_) | ((with_reducible show HGl _ _ _ _ _); first | refine HGl_cons ?_ | refine HGl_nil ?_) | ((with_reducible show Op2 _ _ (binaryOp Operator.Add) (AV.int _) (AV.int _) _); refine op_add ?_) | ((with_reducible show Op2 _ _ (binaryOp Operator.Sub) (AV.int _) (AV.int _) _); refine op_sub ?_) | ((with_reducible show Op2 _ _ (inplaceOp Operator.Add) (AV.int _) (AV.int _) _); refine op_iadd ?_) | ((with_reducible show Op2 _ _ (inplaceOp Operator.Sub) (AV.int _) (AV.int _) _); refine op_isub ?_) | ((with_reducible show Op1 _ _ _ (AV.int _) _); first | refine op_neg ?_ | refine op_inv ?_) | ((with_reducible show Op2 _ _ (compareOp _) (AV.int _) (AV.int _) _); first | refine op_eq ?_ | refine op_ne ?_ | refine op_lt ?_ | refine op_le ?_ | refine op_gt ?_ | refine op_ge ?_) | ((with_reducible show Truth _ (AV.bool _) _); refine truth_bool ?_) | ((with_reducible show Truth _ (AV.int _) _); refine truth_int ?_) | ((with_reducible show Truth _ AV.none _); refine truth_none ?_)))
  refine op_mod (by decide) ?_
  (repeat (first | ((with_reducible show HS _ _ _ _); first | refine HS_cons ?_ | refine HS_nil ?_) | ((with_reducible show HX _ _ (Stmt.Return (some _) _) _); refine HX_ret ?_) | ((with_reducible show HX _ _ (Stmt.Return none _) _); refine HX_ret0 ?_) | ((with_reducible show HX _ _ (Stmt.Break _) _); refine HX_brk ?_) | ((with_reducible show HX _ _ (Stmt.If _ _ _ _) _); refine HX_if ?_) | ((with_reducible show HX _ _ (Stmt.Assign [Expr.Name _ _] _ _) _); refine HX_assign ?_) | ((with_reducible show HX _ _ (Stmt.Assign [Expr.Tuple _ _ _] _ _) _); refine HX_unpack ?_) | ((with_reducible show HX _ _ (Stmt.AugAssign (Expr.Name _ _) _ _ _) _); refine HX_aug rfl ?_) | ((with_reducible show HE _ _ (Expr.Name _ _) _); refine HE_name rfl ?_) | ((with_reducible show HE _ _ (Expr.Constant (Const.int _) _ _) _); refine HE_int ?_) | ((with_reducible show HE _ _ (Expr.Constant (Const.str _) _ _) _); refine HE_str ?_) | ((with_reducible show HE _ _ (Expr.Constant Const.none _ _) _); refine HE_none ?_) | ((with_reducible show HE _ _ (Expr.Constant (Const.bool _) _ _) _); refine HE_bool ?_) | ((with_reducible show HE _ _ (Expr.BinOp _ _ _ _) _); refine HE_bin ?_) | ((with_reducible show HE _ _ (Expr.UnaryOp _ _ _) _); refine HE_un ?_) | ((with_reducible show HE _ _ (Expr.Compare _ [_] [_] _) _); refine HE_cmp ?_) | ((with_reducible show HE _ _ (Expr.Tuple _ _ _) _); refine HE_tuple ?_) | ((with_reducible show HE _ _ (Expr.List _ _) _); refine HE_list ?_) | ((with_reducible show HE _ _ (Expr.IfExp _ _ _ _) _); refine HE_ifexp ?_) | ((with_reducible show HL _ _ _ _); first | refine HL_cons ?_ | refine HL_nil ?_) | ((with_reducible show HT _ _ (Expr.Compare _ [_] [_] _) _); refine HT_cmp ?_) | ((with_reducible show HT _ _ (Expr.UnaryOp UnaryOp.Not _ _) _); refine HT_not ?_) | ((with_reducible show HT _ _ (Expr.BoolOp _ _ _) _); refine HT_bool ?_) | ((with_reducible show HT _ _ (Expr.Name _ _) _); refine HT_val ?_) | ((with_reducible show HA _ _ _ _ _); first | refine HA_and ?_ | refine HA_or ?_ | refine HA_nil ?_) | ((with_reducible show HG _ _ (Expr.Name _ _) _ _); refine HG_name ?_) | ((with_reducible show HG _ _ (Expr.Tuple _ _ _) (AV.tup _) _); refine HG_tup ?_) | ((with_reducible show HGl _ _ _ _ _); first | refine HGl_cons ?_ | refine HGl_nil ?_) | ((with_reducible show Op2 _ _ (binaryOp Operator.Add) (AV.int _) (AV.int _) _); refine op_add ?_) | ((with_reducible show Op2 _ _ (binaryOp Operator.Sub) (AV.int _) (AV.int _) _); refine op_sub ?_) | ((with_reducible show Op2 _ _ (inplaceOp Operator.Add) (AV.int _) (AV.int _) _); refine op_iadd ?_) | ((with_reducible show Op2 _ _ (inplaceOp Operator.Sub) (AV.int _) (AV.int _) _); refine op_isub ?_) | ((with_reducible show Op1 _ _ _ (AV.int _) _); first | refine op_neg ?_ | refine op_inv ?_) | ((with_reducible show Op2 _ _ (compareOp _) (AV.int _) (AV.int _) _); first | refine op_eq ?_ | refine op_ne ?_ | refine op_lt ?_ | refine op_le ?_ | refine op_gt ?_ | refine op_ge ?_) | ((with_reducible show Truth _ (AV.bool _) _); refine truth_bool ?_) | ((with_reducible show Truth _ (AV.int _) _); refine truth_int ?_) | ((with_reducible show Truth _ AV.none _); refine truth_none ?_)))
  refine op_div (by decide) (small8 _ (by decide) (by decide)) ?_
  (repeat (first | ((with_reducible show HS _ _ _ _); first | refine HS_cons ?_ | refine HS_nil ?_) | ((with_reducible show HX _ _ (Stmt.Return (some _) _) _); refine HX_ret ?_) | ((with_reducible show HX _ _ (Stmt.Return none _) _); refine HX_ret0 ?_) | ((with_reducible show HX _ _ (Stmt.Break _) _); refine HX_brk ?_) | ((with_reducible show HX _ _ (Stmt.If _ _ _ _) _); refine HX_if ?_) | ((with_reducible show HX _ _ (Stmt.Assign [Expr.Name _ _] _ _) _); refine HX_assign ?_) | ((with_reducible show HX _ _ (Stmt.Assign [Expr.Tuple _ _ _] _ _) _); refine HX_unpack ?_) | ((with_reducible show HX _ _ (Stmt.AugAssign (Expr.Name _ _) _ _ _) _); refine HX_aug rfl ?_) | ((with_reducible show HE _ _ (Expr.Name _ _) _); refine HE_name rfl ?_) | ((with_reducible show HE _ _ (Expr.Constant (Const.int _) _ _) _); refine HE_int ?_) | ((with_reducible show HE _ _ (Expr.Constant (Const.str _) _ _) _); refine HE_str ?_) | ((with_reducible show HE _ _ (Expr.Constant Const.none _ _) _); refine HE_none ?_) | ((with_reducible show HE _ _ (Expr.Constant (Const.bool _) _ _) _); refine HE_bool ?_) | ((with_reducible show HE _ _ (Expr.BinOp _ _ _ _) _); refine HE_bin ?_) | ((with_reducible show HE _ _ (Expr.UnaryOp _ _ _) _); refine HE_un ?_) | ((with_reducible show HE _ _ (Expr.Compare _ [_] [_] _) _); refine HE_cmp ?_) | ((with_reducible show HE _ _ (Expr.Tuple _ _ _) _); refine HE_tuple ?_) | ((with_reducible show HE _ _ (Expr.List _ _) _); refine HE_list ?_) | ((with_reducible show HE _ _ (Expr.IfExp _ _ _ _) _); refine HE_ifexp ?_) | ((with_reducible show HL _ _ _ _); first | refine HL_cons ?_ | refine HL_nil ?_) | ((with_reducible show HT _ _ (Expr.Compare _ [_] [_] _) _); refine HT_cmp ?_) | ((with_reducible show HT _ _ (Expr.UnaryOp UnaryOp.Not _ _) _); refine HT_not ?_) | ((with_reducible show HT _ _ (Expr.BoolOp _ _ _) _); refine HT_bool ?_) | ((with_reducible show HT _ _ (Expr.Name _ _) _); refine HT_val ?_) | ((with_reducible show HA _ _ _ _ _); first | refine HA_and ?_ | refine HA_or ?_ | refine HA_nil ?_) | ((with_reducible show HG _ _ (Expr.Name _ _) _ _); refine HG_name ?_) | ((with_reducible show HG _ _ (Expr.Tuple _ _ _) (AV.tup _) _); refine HG_tup ?_) | ((with_reducible show HGl _ _ _ _ _); first | refine HGl_cons ?_ | refine HGl_nil ?_) | ((with_reducible show Op2 _ _ (binaryOp Operator.Add) (AV.int _) (AV.int _) _); refine op_add ?_) | ((with_reducible show Op2 _ _ (binaryOp Operator.Sub) (AV.int _) (AV.int _) _); refine op_sub ?_) | ((with_reducible show Op2 _ _ (inplaceOp Operator.Add) (AV.int _) (AV.int _) _); refine op_iadd ?_) | ((with_reducible show Op2 _ _ (inplaceOp Operator.Sub) (AV.int _) (AV.int _) _); refine op_isub ?_) | ((with_reducible show Op1 _ _ _ (AV.int _) _); first | refine op_neg ?_ | refine op_inv ?_) | ((with_reducible show Op2 _ _ (compareOp _) (AV.int _) (AV.int _) _); first | refine op_eq ?_ | refine op_ne ?_ | refine op_lt ?_ | refine op_le ?_ | refine op_gt ?_ | refine op_ge ?_) | ((with_reducible show Truth _ (AV.bool _) _); refine truth_bool ?_) | ((with_reducible show Truth _ (AV.int _) _); refine truth_int ?_) | ((with_reducible show Truth _ AV.none _); refine truth_none ?_)))
  refine op_mod (by decide) ?_
  (repeat (first | ((with_reducible show HS _ _ _ _); first | refine HS_cons ?_ | refine HS_nil ?_) | ((with_reducible show HX _ _ (Stmt.Return (some _) _) _); refine HX_ret ?_) | ((with_reducible show HX _ _ (Stmt.Return none _) _); refine HX_ret0 ?_) | ((with_reducible show HX _ _ (Stmt.Break _) _); refine HX_brk ?_) | ((with_reducible show HX _ _ (Stmt.If _ _ _ _) _); refine HX_if ?_) | ((with_reducible show HX _ _ (Stmt.Assign [Expr.Name _ _] _ _) _); refine HX_assign ?_) | ((with_reducible show HX _ _ (Stmt.Assign [Expr.Tuple _ _ _] _ _) _); refine HX_unpack ?_) | ((with_reducible show HX _ _ (Stmt.AugAssign (Expr.Name _ _) _ _ _) _); refine HX_aug rfl ?_) | ((with_reducible show HE _ _ (Expr.Name _ _) _); refine HE_name rfl ?_) | ((with_reducible show HE _ _ (Expr.Constant (Const.int _) _ _) _); refine HE_int ?_) | ((with_reducible show HE _ _ (Expr.Constant (Const.str _) _ _) _); refine HE_str ?_) | ((with_reducible show HE _ _ (Expr.Constant Const.none _ _) _); refine HE_none ?_) | ((with_reducible show HE _ _ (Expr.Constant (Const.bool _) _ _) _); refine HE_bool ?_) | ((with_reducible show HE _ _ (Expr.BinOp _ _ _ _) _); refine HE_bin ?_) | ((with_reducible show HE _ _ (Expr.UnaryOp _ _ _) _); refine HE_un ?_) | ((with_reducible show HE _ _ (Expr.Compare _ [_] [_] _) _); refine HE_cmp ?_) | ((with_reducible show HE _ _ (Expr.Tuple _ _ _) _); refine HE_tuple ?_) | ((with_reducible show HE _ _ (Expr.List _ _) _); refine HE_list ?_) | ((with_reducible show HE _ _ (Expr.IfExp _ _ _ _) _); refine HE_ifexp ?_) | ((with_reducible show HL _ _ _ _); first | refine HL_cons ?_ | refine HL_nil ?_) | ((with_reducible show HT _ _ (Expr.Compare _ [_] [_] _) _); refine HT_cmp ?_) | ((with_reducible show HT _ _ (Expr.UnaryOp UnaryOp.Not _ _) _); refine HT_not ?_) | ((with_reducible show HT _ _ (Expr.BoolOp _ _ _) _); refine HT_bool ?_) | ((with_reducible show HT _ _ (Expr.Name _ _) _); refine HT_val ?_) | ((with_reducible show HA _ _ _ _ _); first | refine HA_and ?_ | refine HA_or ?_ | refine HA_nil ?_) | ((with_reducible show HG _ _ (Expr.Name _ _) _ _); refine HG_name ?_) | ((with_reducible show HG _ _ (Expr.Tuple _ _ _) (AV.tup _) _); refine HG_tup ?_) | ((with_reducible show HGl _ _ _ _ _); first | refine HGl_cons ?_ | refine HGl_nil ?_) | ((with_reducible show Op2 _ _ (binaryOp Operator.Add) (AV.int _) (AV.int _) _); refine op_add ?_) | ((with_reducible show Op2 _ _ (binaryOp Operator.Sub) (AV.int _) (AV.int _) _); refine op_sub ?_) | ((with_reducible show Op2 _ _ (inplaceOp Operator.Add) (AV.int _) (AV.int _) _); refine op_iadd ?_) | ((with_reducible show Op2 _ _ (inplaceOp Operator.Sub) (AV.int _) (AV.int _) _); refine op_isub ?_) | ((with_reducible show Op1 _ _ _ (AV.int _) _); first | refine op_neg ?_ | refine op_inv ?_) | ((with_reducible show Op2 _ _ (compareOp _) (AV.int _) (AV.int _) _); first | refine op_eq ?_ | refine op_ne ?_ | refine op_lt ?_ | refine op_le ?_ | refine op_gt ?_ | refine op_ge ?_) | ((with_reducible show Truth _ (AV.bool _) _); refine truth_bool ?_) | ((with_reducible show Truth _ (AV.int _) _); refine truth_int ?_) | ((with_reducible show Truth _ AV.none _); refine truth_none ?_)))
  refine op_pow (by decide) (by show ((4 : Nat) : Int) * 30 ≤ 2 ^ 27; decide) ?_
  refine op_mod (by decide) ?_
  (repeat (first | ((with_reducible show HS _ _ _ _); first | refine HS_cons ?_ | refine HS_nil ?_) | ((with_reducible show HX _ _ (Stmt.Return (some _) _) _); refine HX_ret ?_) | ((with_reducible show HX _ _ (Stmt.Return none _) _); refine HX_ret0 ?_) | ((with_reducible show HX _ _ (Stmt.Break _) _); refine HX_brk ?_) | ((with_reducible show HX _ _ (Stmt.If _ _ _ _) _); refine HX_if ?_) | ((with_reducible show HX _ _ (Stmt.Assign [Expr.Name _ _] _ _) _); refine HX_assign ?_) | ((with_reducible show HX _ _ (Stmt.Assign [Expr.Tuple _ _ _] _ _) _); refine HX_unpack ?_) | ((with_reducible show HX _ _ (Stmt.AugAssign (Expr.Name _ _) _ _ _) _); refine HX_aug rfl ?_) | ((with_reducible show HE _ _ (Expr.Name _ _) _); refine HE_name rfl ?_) | ((with_reducible show HE _ _ (Expr.Constant (Const.int _) _ _) _); refine HE_int ?_) | ((with_reducible show HE _ _ (Expr.Constant (Const.str _) _ _) _); refine HE_str ?_) | ((with_reducible show HE _ _ (Expr.Constant Const.none _ _) _); refine HE_none ?_) | ((with_reducible show HE _ _ (Expr.Constant (Const.bool _) _ _) _); refine HE_bool ?_) | ((with_reducible show HE _ _ (Expr.BinOp _ _ _ _) _); refine HE_bin ?_) | ((with_reducible show HE _ _ (Expr.UnaryOp _ _ _) _); refine HE_un ?_) | ((with_reducible show HE _ _ (Expr.Compare _ [_] [_] _) _); refine HE_cmp ?_) | ((with_reducible show HE _ _ (Expr.Tuple _ _ _) _); refine HE_tuple ?_) | ((with_reducible show HE _ _ (Expr.List _ _) _); refine HE_list ?_) | ((with_reducible show HE _ _ (Expr.IfExp _ _ _ _) _); refine HE_ifexp ?_) | ((with_reducible show HL _ _ _ _); first | refine HL_cons ?_ | refine HL_nil ?_) | ((with_reducible show HT _ _ (Expr.Compare _ [_] [_] _) _); refine HT_cmp ?_) | ((with_reducible show HT _ _ (Expr.UnaryOp UnaryOp.Not _ _) _); refine HT_not ?_) | ((with_reducible show HT _ _ (Expr.BoolOp _ _ _) _); refine HT_bool ?_) | ((with_reducible show HT _ _ (Expr.Name _ _) _); refine HT_val ?_) | ((with_reducible show HA _ _ _ _ _); first | refine HA_and ?_ | refine HA_or ?_ | refine HA_nil ?_) | ((with_reducible show HG _ _ (Expr.Name _ _) _ _); refine HG_name ?_) | ((with_reducible show HG _ _ (Expr.Tuple _ _ _) (AV.tup _) _); refine HG_tup ?_) | ((with_reducible show HGl _ _ _ _ _); first | refine HGl_cons ?_ | refine HGl_nil ?_) | ((with_reducible show Op2 _ _ (binaryOp Operator.Add) (AV.int _) (AV.int _) _); refine op_add ?_) | ((with_reducible show Op2 _ _ (binaryOp Operator.Sub) (AV.int _) (AV.int _) _); refine op_sub ?_) | ((with_reducible show Op2 _ _ (inplaceOp Operator.Add) (AV.int _) (AV.int _) _); refine op_iadd ?_) | ((with_reducible show Op2 _ _ (inplaceOp Operator.Sub) (AV.int _) (AV.int _) _); refine op_isub ?_) | ((with_reducible show Op1 _ _ _ (AV.int _) _); first | refine op_neg ?_ | refine op_inv ?_) | ((with_reducible show Op2 _ _ (compareOp _) (AV.int _) (AV.int _) _); first | refine op_eq ?_ | refine op_ne ?_ | refine op_lt ?_ | refine op_le ?_ | refine op_gt ?_ | refine op_ge ?_) | ((with_reducible show Truth _ (AV.bool _) _); refine truth_bool ?_) | ((with_reducible show Truth _ (AV.int _) _); refine truth_int ?_) | ((with_reducible show Truth _ AV.none _); refine truth_none ?_)))
  refine HE_sliceS (HE_str ⟨abc, congrArg AV.str (by decide +kernel), by decide, HP_none (HP_some ?_)⟩)
  (repeat (first | ((with_reducible show HS _ _ _ _); first | refine HS_cons ?_ | refine HS_nil ?_) | ((with_reducible show HX _ _ (Stmt.Return (some _) _) _); refine HX_ret ?_) | ((with_reducible show HX _ _ (Stmt.Return none _) _); refine HX_ret0 ?_) | ((with_reducible show HX _ _ (Stmt.Break _) _); refine HX_brk ?_) | ((with_reducible show HX _ _ (Stmt.If _ _ _ _) _); refine HX_if ?_) | ((with_reducible show HX _ _ (Stmt.Assign [Expr.Name _ _] _ _) _); refine HX_assign ?_) | ((with_reducible show HX _ _ (Stmt.Assign [Expr.Tuple _ _ _] _ _) _); refine HX_unpack ?_) | ((with_reducible show HX _ _ (Stmt.AugAssign (Expr.Name _ _) _ _ _) _); refine HX_aug rfl ?_) | ((with_reducible show HE _ _ (Expr.Name _ _) _); refine HE_name rfl ?_) | ((with_reducible show HE _ _ (Expr.Constant (Const.int _) _ _) _); refine HE_int ?_) | ((with_reducible show HE _ _ (Expr.Constant (Const.str _) _ _) _); refine HE_str ?_) | ((with_reducible show HE _ _ (Expr.Constant Const.none _ _) _); refine HE_none ?_) | ((with_reducible show HE _ _ (Expr.Constant (Const.bool _) _ _) _); refine HE_bool ?_) | ((with_reducible show HE _ _ (Expr.BinOp _ _ _ _) _); refine HE_bin ?_) | ((with_reducible show HE _ _ (Expr.UnaryOp _ _ _) _); refine HE_un ?_) | ((with_reducible show HE _ _ (Expr.Compare _ [_] [_] _) _); refine HE_cmp ?_) | ((with_reducible show HE _ _ (Expr.Tuple _ _ _) _); refine HE_tuple ?_) | ((with_reducible show HE _ _ (Expr.List _ _) _); refine HE_list ?_) | ((with_reducible show HE _ _ (Expr.IfExp _ _ _ _) _); refine HE_ifexp ?_) | ((with_reducible show HL _ _ _ _); first | refine HL_cons ?_ | refine HL_nil ?_) | ((with_reducible show HT _ _ (Expr.Compare _ [_] [_] _) _); refine HT_cmp ?_) | ((with_reducible show HT _ _ (Expr.UnaryOp UnaryOp.Not _ _) _); refine HT_not ?_) | ((with_reducible show HT _ _ (Expr.BoolOp _ _ _) _); refine HT_bool ?_) | ((with_reducible show HT _ _ (Expr.Name _ _) _); refine HT_val ?_) | ((with_reducible show HA _ _ _ _ _); first | refine HA_and ?_ | refine HA_or ?_ | refine HA_nil ?_) | ((with_reducible show HG _ _ (Expr.Name _ _) _ _); refine HG_name ?_) | ((with_reducible show HG _ _ (Expr.Tuple _ _ _) (AV.tup _) _); refine HG_tup ?_) | ((with_reducible show HGl _ _ _ _ _); first | refine HGl_cons ?_ | refine HGl_nil ?_) | ((with_reducible show Op2 _ _ (binaryOp Operator.Add) (AV.int _) (AV.int _) _); refine op_add ?_) | ((with_reducible show Op2 _ _ (binaryOp Operator.Sub) (AV.int _) (AV.int _) _); refine op_sub ?_) | ((with_reducible show Op2 _ _ (inplaceOp Operator.Add) (AV.int _) (AV.int _) _); refine op_iadd ?_) | ((with_reducible show Op2 _ _ (inplaceOp Operator.Sub) (AV.int _) (AV.int _) _); refine op_isub ?_) | ((with_reducible show Op1 _ _ _ (AV.int _) _); first | refine op_neg ?_ | refine op_inv ?_) | ((with_reducible show Op2 _ _ (compareOp _) (AV.int _) (AV.int _) _); first | refine op_eq ?_ | refine op_ne ?_ | refine op_lt ?_ | refine op_le ?_ | refine op_gt ?_ | refine op_ge ?_) | ((with_reducible show Truth _ (AV.bool _) _); refine truth_bool ?_) | ((with_reducible show Truth _ (AV.int _) _); refine truth_int ?_) | ((with_reducible show Truth _ AV.none _); refine truth_none ?_)))
  refine op_div (by decide) (small8 _ (by decide) (by decide)) ?_
  (repeat (first | ((with_reducible show HS _ _ _ _); first | refine HS_cons ?_ | refine HS_nil ?_) | ((with_reducible show HX _ _ (Stmt.Return (some _) _) _); refine HX_ret ?_) | ((with_reducible show HX _ _ (Stmt.Return none _) _); refine HX_ret0 ?_) | ((with_reducible show HX _ _ (Stmt.Break _) _); refine HX_brk ?_) | ((with_reducible show HX _ _ (Stmt.If _ _ _ _) _); refine HX_if ?_) | ((with_reducible show HX _ _ (Stmt.Assign [Expr.Name _ _] _ _) _); refine HX_assign ?_) | ((with_reducible show HX _ _ (Stmt.Assign [Expr.Tuple _ _ _] _ _) _); refine HX_unpack ?_) | ((with_reducible show HX _ _ (Stmt.AugAssign (Expr.Name _ _) _ _ _) _); refine HX_aug rfl ?_) | ((with_reducible show HE _ _ (Expr.Name _ _) _); refine HE_name rfl ?_) | ((with_reducible show HE _ _ (Expr.Constant (Const.int _) _ _) _); refine HE_int ?_) | ((with_reducible show HE _ _ (Expr.Constant (Const.str _) _ _) _); refine HE_str ?_) | ((with_reducible show HE _ _ (Expr.Constant Const.none _ _) _); refine HE_none ?_) | ((with_reducible show HE _ _ (Expr.Constant (Const.bool _) _ _) _); refine HE_bool ?_) | ((with_reducible show HE _ _ (Expr.BinOp _ _ _ _) _); refine HE_bin ?_) | ((with_reducible show HE _ _ (Expr.UnaryOp _ _ _) _); refine HE_un ?_) | ((with_reducible show HE _ _ (Expr.Compare _ [_] [_] _) _); refine HE_cmp ?_) | ((with_reducible show HE _ _ (Expr.Tuple _ _ _) _); refine HE_tuple ?_) | ((with_reducible show HE _ _ (Expr.List _ _) _); refine HE_list ?_) | ((with_reducible show HE _ _ (Expr.IfExp _ _ _ _) _); refine HE_ifexp ?_) | ((with_reducible show HL _ _ _ _); first | refine HL_cons ?_ | refine HL_nil ?_) | ((with_reducible show HT _ _ (Expr.Compare _ [_] [_] _) _); refine HT_cmp ?_) | ((with_reducible show HT _ _ (Expr.UnaryOp UnaryOp.Not _ _) _); refine HT_not ?_) | ((with_reducible show HT _ _ (Expr.BoolOp _ _ _) _); refine HT_bool ?_) | ((with_reducible show HT _ _ (Expr.Name _ _) _); refine HT_val ?_) | ((with_reducible show HA _ _ _ _ _); first | refine HA_and ?_ | refine HA_or ?_ | refine HA_nil ?_) | ((with_reducible show HG _ _ (Expr.Name _ _) _ _); refine HG_name ?_) | ((with_reducible show HG _ _ (Expr.Tuple _ _ _) (AV.tup _) _); refine HG_tup ?_) | ((with_reducible show HGl _ _ _ _ _); first | refine HGl_cons ?_ | refine HGl_nil ?_) | ((with_reducible show Op2 _ _ (binaryOp Operator.Add) (AV.int _) (AV.int _) _); refine op_add ?_) | ((with_reducible show Op2 _ _ (binaryOp Operator.Sub) (AV.int _) (AV.int _) _); refine op_sub ?_) | ((with_reducible show Op2 _ _ (inplaceOp Operator.Add) (AV.int _) (AV.int _) _); refine op_iadd ?_) | ((with_reducible show Op2 _ _ (inplaceOp Operator.Sub) (AV.int _) (AV.int _) _); refine op_isub ?_) | ((with_reducible show Op1 _ _ _ (AV.int _) _); first | refine op_neg ?_ | refine op_inv ?_) | ((with_reducible show Op2 _ _ (compareOp _) (AV.int _) (AV.int _) _); first | refine op_eq ?_ | refine op_ne ?_ | refine op_lt ?_ | refine op_le ?_ | refine op_gt ?_ | refine op_ge ?_) | ((with_reducible show Truth _ (AV.bool _) _); refine truth_bool ?_) | ((with_reducible show Truth _ (AV.int _) _); refine truth_int ?_) | ((with_reducible show Truth _ AV.none _); refine truth_none ?_)))
  refine op_mod (by decide) ?_
  (repeat (first | ((with_reducible show HS _ _ _ _); first | refine HS_cons ?_ | refine HS_nil ?_) | ((with_reducible show HX _ _ (Stmt.Return (some _) _) _); refine HX_ret ?_) | ((with_reducible show HX _ _ (Stmt.Return none _) _); refine HX_ret0 ?_) | ((with_reducible show HX _ _ (Stmt.Break _) _); refine HX_brk ?_) | ((with_reducible show HX _ _ (Stmt.If _ _ _ _) _); refine HX_if ?_) | ((with_reducible show HX _ _ (Stmt.Assign [Expr.Name _ _] _ _) _); refine HX_assign ?_) | ((with_reducible show HX _ _ (Stmt.Assign [Expr.Tuple _ _ _] _ _) _); refine HX_unpack ?_) | ((with_reducible show HX _ _ (Stmt.AugAssign (Expr.Name _ _) _ _ _) _); refine HX_aug rfl ?_) | ((with_reducible show HE _ _ (Expr.Name _ _) _); refine HE_name rfl ?_) | ((with_reducible show HE _ _ (Expr.Constant (Const.int _) _ _) _); refine HE_int ?_) | ((with_reducible show HE _ _ (Expr.Constant (Const.str _) _ _) _); refine HE_str ?_) | ((with_reducible show HE _ _ (Expr.Constant Const.none _ _) _); refine HE_none ?_) | ((with_reducible show HE _ _ (Expr.Constant (Const.bool _) _ _) _); refine HE_bool ?_) | ((with_reducible show HE _ _ (Expr.BinOp _ _ _ _) _); refine HE_bin ?_) | ((with_reducible show HE _ _ (Expr.UnaryOp _ _ _) _); refine HE_un ?_) | ((with_reducible show HE _ _ (Expr.Compare _ [_] [_] _) _); refine HE_cmp ?_) | ((with_reducible show HE _ _ (Expr.Tuple _ _ _) _); refine HE_tuple ?_) | ((with_reducible show HE _ _ (Expr.List _ _) _); refine HE_list ?_) | ((with_reducible show HE _ _ (Expr.IfExp _ _ _ _) _); refine HE_ifexp ?_) | ((with_reducible show HL _ _ _ _); first | refine HL_cons ?_ | refine HL_nil ?_) | ((with_reducible show HT _ _ (Expr.Compare _ [_] [_] _) _); refine HT_cmp ?_) | ((with_reducible show HT _ _ (Expr.UnaryOp UnaryOp.Not _ _) _); refine HT_not ?_) | ((with_reducible show HT _ _ (Expr.BoolOp _ _ _) _); refine HT_bool ?_) | ((with_reducible show HT _ _ (Expr.Name _ _) _); refine HT_val ?_) | ((with_reducible show HA _ _ _ _ _); first | refine HA_and ?_ | refine HA_or ?_ | refine HA_nil ?_) | ((with_reducible show HG _ _ (Expr.Name _ _) _ _); refine HG_name ?_) | ((with_reducible show HG _ _ (Expr.Tuple _ _ _) (AV.tup _) _); refine HG_tup ?_) | ((with_reducible show HGl _ _ _ _ _); first | refine HGl_cons ?_ | refine HGl_nil ?_) | ((with_reducible show Op2 _ _ (binaryOp Operator.Add) (AV.int _) (AV.int _) _); refine op_add ?_) | ((with_reducible show Op2 _ _ (binaryOp Operator.Sub) (AV.int _) (AV.int _) _); refine op_sub ?_) | ((with_reducible show Op2 _ _ (inplaceOp Operator.Add) (AV.int _) (AV.int _) _); refine op_iadd ?_) | ((with_reducible show Op2 _ _ (inplaceOp Operator.Sub) (AV.int _) (AV.int _) _); refine op_isub ?_) | ((with_reducible show Op1 _ _ _ (AV.int _) _); first | refine op_neg ?_ | refine op_inv ?_) | ((with_reducible show Op2 _ _ (compareOp _) (AV.int _) (AV.int _) _); first | refine op_eq ?_ | refine op_ne ?_ | refine op_lt ?_ | refine op_le ?_ | refine op_gt ?_ | refine op_ge ?_) | ((with_reducible show Truth _ (AV.bool _) _); refine truth_bool ?_) | ((with_reducible show Truth _ (AV.int _) _); refine truth_int ?_) | ((with_reducible show Truth _ AV.none _); refine truth_none ?_)))
  refine ⟨_, rfl, ?_⟩
  obtain ⟨k0, hk0⟩ : ∃ k0, k0 = lenA3 t := ⟨_, rfl⟩
  have hk0b : 19 ≤ k0 ∧ k0 ≤ 26 ∧ 19 + (t.fdiv 6).fmod 8 = (k0 : Int) := by
    have := Int.fmod_nonneg_of_pos (t.fdiv 6) (by decide : (0 : Int) < 8)
    have := Int.fmod_lt_of_pos (t.fdiv 6) (by decide : (0 : Int) < 8)
    rw [hk0]; unfold lenA3; omega
  have hfirst : 2 ≤ first3 t ∧ first3 t ≤ 3 := by
    have := Int.fmod_nonneg_of_pos t (by decide : (0 : Int) < 2)
    have := Int.fmod_lt_of_pos t (by decide : (0 : Int) < 2)
    unfold first3; omega
  have hlast : first3 t + 2 ≤ last3 t ∧ last3 t ≤ first3 t + 4 := by
    have := Int.fmod_nonneg_of_pos (t.fdiv 2) (by decide : (0 : Int) < 3)
    have := Int.fmod_lt_of_pos (t.fdiv 2) (by decide : (0 : Int) < 3)
    unfold last3; omega
  have hfac : 0 < 64 + t.fmod (10 ^ Int.toNat 30) ∧ 64 + t.fmod (10 ^ Int.toNat 30) < 2 ^ 110 := by
    have := Int.fmod_nonneg_of_pos t (by decide : (0 : Int) < 10 ^ Int.toNat 30)
    have h2 := Int.fmod_lt_of_pos t (by decide : (0 : Int) < 10 ^ Int.toNat 30)
    have h3 : (10 : Int) ^ Int.toNat 30 + 64 < 2 ^ 110 := by decide
    omega
  have hgood := good3_ok t
  unfold good3 at hgood
  rw [← hk0] at hgood
  rw [hk0b.2.2, cut_to]
  obtain ⟨fa, hfa⟩ : ∃ fa, fa = 64 + t.fmod (10 ^ Int.toNat 30) := ⟨_, rfl⟩
  rw [← hfa] at hfac ⊢
  obtain ⟨first, hfi⟩ : ∃ x, x = first3 t := ⟨_, rfl⟩
  obtain ⟨last, hla⟩ : ∃ x, x = last3 t := ⟨_, rfl⟩
  have e1 : 2 + t.fmod 2 = first := hfi.symm
  have e2 : first + 2 + (t.fdiv 2).fmod 3 = last := by rw [hfi, hla]; rfl
  rw [e1, e2]
  rw [← hfi, ← hla] at hgood
  rw [← hfi] at hfirst
  rw [← hfi, ← hla] at hlast
  obtain ⟨l, hl⟩ : ∃ l, l = abc.take k0 := ⟨_, rfl⟩
  rw [← hl] at hgood ⊢
  have hll : l.length = k0 := by rw [hl, List.length_take]; show min k0 26 = k0; omega
  simp only [Bool.and_eq_true, List.all_eq_true, List.mem_range, decide_eq_true_eq, beq_iff_eq] at hgood
  obtain ⟨hpos, hfin⟩ := hgood
  have hsteps : (last + 1 - first).toNat = steps3 first last := by unfold steps3; omega
  clear e1 e2 hfi hla hfa hl hk0 e63
  refine HS_cons (HX_assign (HE_name rfl ?_))
  refine HS_cons (HX_forC (HE_callB hrange (fun _ q => nomatch q) ?_))
  (repeat (first | ((with_reducible show HS _ _ _ _); first | refine HS_cons ?_ | refine HS_nil ?_) | ((with_reducible show HX _ _ (Stmt.Return (some _) _) _); refine HX_ret ?_) | ((with_reducible show HX _ _ (Stmt.Return none _) _); refine HX_ret0 ?_) | ((with_reducible show HX _ _ (Stmt.Break _) _); refine HX_brk ?_) | ((with_reducible show HX _ _ (Stmt.If _ _ _ _) _); refine HX_if ?_) | ((with_reducible show HX _ _ (Stmt.Assign [Expr.Name _ _] _ _) _); refine HX_assign ?_) | ((with_reducible show HX _ _ (Stmt.Assign [Expr.Tuple _ _ _] _ _) _); refine HX_unpack ?_) | ((with_reducible show HX _ _ (Stmt.AugAssign (Expr.Name _ _) _ _ _) _); refine HX_aug rfl ?_) | ((with_reducible show HE _ _ (Expr.Name _ _) _); refine HE_name rfl ?_) | ((with_reducible show HE _ _ (Expr.Constant (Const.int _) _ _) _); refine HE_int ?_) | ((with_reducible show HE _ _ (Expr.Constant (Const.str _) _ _) _); refine HE_str ?_) | ((with_reducible show HE _ _ (Expr.Constant Const.none _ _) _); refine HE_none ?_) | ((with_reducible show HE _ _ (Expr.Constant (Const.bool _) _ _) _); refine HE_bool ?_) | ((with_reducible show HE _ _ (Expr.BinOp _ _ _ _) _); refine HE_bin ?_) | ((with_reducible show HE _ _ (Expr.UnaryOp _ _ _) _); refine HE_un ?_) | ((with_reducible show HE _ _ (Expr.Compare _ [_] [_] _) _); refine HE_cmp ?_) | ((with_reducible show HE _ _ (Expr.Tuple _ _ _) _); refine HE_tuple ?_) | ((with_reducible show HE _ _ (Expr.List _ _) _); refine HE_list ?_) | ((with_reducible show HE _ _ (Expr.IfExp _ _ _ _) _); refine HE_ifexp ?_) | ((with_reducible show HL _ _ _ _); first | refine HL_cons ?_ | refine HL_nil ?_) | ((with_reducible show HT _ _ (Expr.Compare _ [_] [_] _) _); refine HT_cmp ?_) | ((with_reducible show HT _ _ (Expr.UnaryOp UnaryOp.Not _ _) _); refine HT_not ?_) | ((with_reducible show HT _ _ (Expr.BoolOp _ _ _) _); refine HT_bool ?_) | ((with_reducible show HT _ _ (Expr.Name _ _) _); refine HT_val ?_) | ((with_reducible show HA _ _ _ _ _); first | refine HA_and ?_ | refine HA_or ?_ | refine HA_nil ?_) | ((with_reducible show HG _ _ (Expr.Name _ _) _ _); refine HG_name ?_) | ((with_reducible show HG _ _ (Expr.Tuple _ _ _) (AV.tup _) _); refine HG_tup ?_) | ((with_reducible show HGl _ _ _ _ _); first | refine HGl_cons ?_ | refine HGl_nil ?_) | ((with_reducible show Op2 _ _ (binaryOp Operator.Add) (AV.int _) (AV.int _) _); refine op_add ?_) | ((with_reducible show Op2 _ _ (binaryOp Operator.Sub) (AV.int _) (AV.int _) _); refine op_sub ?_) | ((with_reducible show Op2 _ _ (inplaceOp Operator.Add) (AV.int _) (AV.int _) _); refine op_iadd ?_) | ((with_reducible show Op2 _ _ (inplaceOp Operator.Sub) (AV.int _) (AV.int _) _); refine op_isub ?_) | ((with_reducible show Op1 _ _ _ (AV.int _) _); first | refine op_neg ?_ | refine op_inv ?_) | ((with_reducible show Op2 _ _ (compareOp _) (AV.int _) (AV.int _) _); first | refine op_eq ?_ | refine op_ne ?_ | refine op_lt ?_ | refine op_le ?_ | refine op_gt ?_ | refine op_ge ?_) | ((with_reducible show Truth _ (AV.bool _) _); refine truth_bool ?_) | ((with_reducible show Truth _ (AV.int _) _); refine truth_int ?_) | ((with_reducible show Truth _ AV.none _); refine truth_none ?_)))
  refine op_range2 ?_
  refine ⟨_, it_up (by omega) (by omega) (by omega) (by omega), fun i => [(Str.ofString "script", .v (.obj (scriptP ns))), (Str.ofString "first", .v (.int first)), (Str.ofString "last", .v (.int last)), (Str.ofString "factor", .v (.int fa)), (Str.ofString "signs", .v (.str (tx l))), (Str.ofString "left", .v (.str (tx (leftL first l i))))], ⟨rfl, rfl, rfl, rfl, rfl, rfl, trivial⟩, ?_, ?_⟩
  · intro i x hx
    obtain ⟨hi, rfl⟩ := rangeL_get hx
    refine HG_name ?_
    refine HS_cons (HX_assign (HE_callD hfs (HL_cons (HE_name rfl (HL_cons (HE_name rfl (HL_nil ?_)))))))
    rw [hd]
    refine Call.room (Call.mono (struck_ok hK G (d := 0) hfs (Nat.le_trans (leftL_len (by omega) l i) (by omega)) (by omega)) ?_) (by decide)
    rintro _ rfl
    refine HS_nil ⟨rfl, rfl, rfl, rfl, rfl, ?_, trivial⟩
    rw [Int.mul_one]; rfl
  intro st1 hst1
  rw [rangeL_len, hsteps] at hst1
  dsimp only at hst1
  rw [hfin] at hst1
  refine HS.has ?_ hst1
  clear hst1 st1
  have hdl : (dueF first last l k0 0).length ≤ 26 := by
    rw [← hfin]; exact Nat.le_trans (leftL_len (by omega) l _) (by omega)
  obtain ⟨D, hD⟩ : ∃ D, D = dueF first last l k0 0 := ⟨_, rfl⟩
  rw [← hD]
  refine HS_cons (HX_assign (HE_str ?_))
  refine HS.has (st' := [(Str.ofString "script", .v (.obj (scriptP ns))), (Str.ofString "first", .v (.int first)), (Str.ofString "last", .v (.int last)), (Str.ofString "factor", .v (.int fa)), (Str.ofString "signs", .v (.str (tx l))), (Str.ofString "left", .v (.str (tx D))), (Str.ofString "due", .v (.str (tx [])))]) ?_ ⟨rfl, rfl, rfl, rfl, rfl, rfl, rfl, trivial⟩
  have rest : HS fi [(Str.ofString "script", .v (.obj (scriptP ns))), (Str.ofString "first", .v (.int first)), (Str.ofString "last", .v (.int last)), (Str.ofString "factor", .v (.int fa)), (Str.ofString "left", .v (.str (tx D))), (Str.ofString "due", .v (.str (tx D)))] ((dBody (Str.ofString "law")).drop 9) (RetQ fun r => r = .bool true) := by
    refine HS_cons (HX_if (HT_cmp (HE_name rfl (HE_name rfl (op_ne_str (truth_bool ?_))))))
    rw [show (D != D) = false by simp]
    show HS _ _ [] _
    refine HS_nil ?_
    obtain ⟨x0, hx0⟩ : ∃ x0, (ns.map AV.int ++ [AV.int 0])[(0 : Int).toNat]? = some (.int x0) := by
      cases ns with
      | nil => exact ⟨0, rfl⟩
      | cons x r => exact ⟨x, rfl⟩
    refine HS_cons (HX_assign (HE_bin (HE_bin (HE_bin (HE_sub (HE_bin (HE_name rfl ?_)))))))
    (repeat (first | ((with_reducible show HS _ _ _ _); first | refine HS_cons ?_ | refine HS_nil ?_) | ((with_reducible show HX _ _ (Stmt.Return (some _) _) _); refine HX_ret ?_) | ((with_reducible show HX _ _ (Stmt.Return none _) _); refine HX_ret0 ?_) | ((with_reducible show HX _ _ (Stmt.Break _) _); refine HX_brk ?_) | ((with_reducible show HX _ _ (Stmt.If _ _ _ _) _); refine HX_if ?_) | ((with_reducible show HX _ _ (Stmt.Assign [Expr.Name _ _] _ _) _); refine HX_assign ?_) | ((with_reducible show HX _ _ (Stmt.Assign [Expr.Tuple _ _ _] _ _) _); refine HX_unpack ?_) | ((with_reducible show HX _ _ (Stmt.AugAssign (Expr.Name _ _) _ _ _) _); refine HX_aug rfl ?_) | ((with_reducible show HE _ _ (Expr.Name _ _) _); refine HE_name rfl ?_) | ((with_reducible show HE _ _ (Expr.Constant (Const.int _) _ _) _); refine HE_int ?_) | ((with_reducible show HE _ _ (Expr.Constant (Const.str _) _ _) _); refine HE_str ?_) | ((with_reducible show HE _ _ (Expr.Constant Const.none _ _) _); refine HE_none ?_) | ((with_reducible show HE _ _ (Expr.Constant (Const.bool _) _ _) _); refine HE_bool ?_) | ((with_reducible show HE _ _ (Expr.BinOp _ _ _ _) _); refine HE_bin ?_) | ((with_reducible show HE _ _ (Expr.UnaryOp _ _ _) _); refine HE_un ?_) | ((with_reducible show HE _ _ (Expr.Compare _ [_] [_] _) _); refine HE_cmp ?_) | ((with_reducible show HE _ _ (Expr.Tuple _ _ _) _); refine HE_tuple ?_) | ((with_reducible show HE _ _ (Expr.List _ _) _); refine HE_list ?_) | ((with_reducible show HE _ _ (Expr.IfExp _ _ _ _) _); refine HE_ifexp ?_) | ((with_reducible show HL _ _ _ _); first | refine HL_cons ?_ | refine HL_nil ?_) | ((with_reducible show HT _ _ (Expr.Compare _ [_] [_] _) _); refine HT_cmp ?_) | ((with_reducible show HT _ _ (Expr.UnaryOp UnaryOp.Not _ _) _); refine HT_not ?_) | ((with_reducible show HT _ _ (Expr.BoolOp _ _ _) _); refine HT_bool ?_) | ((with_reducible show HT _ _ (Expr.Name _ _) _); refine HT_val ?_) | ((with_reducible show HA _ _ _ _ _); first | refine HA_and ?_ | refine HA_or ?_ | refine HA_nil ?_) | ((with_reducible show HG _ _ (Expr.Name _ _) _ _); refine HG_name ?_) | ((with_reducible show HG _ _ (Expr.Tuple _ _ _) (AV.tup _) _); refine HG_tup ?_) | ((with_reducible show HGl _ _ _ _ _); first | refine HGl_cons ?_ | refine HGl_nil ?_) | ((with_reducible show Op2 _ _ (binaryOp Operator.Add) (AV.int _) (AV.int _) _); refine op_add ?_) | ((with_reducible show Op2 _ _ (binaryOp Operator.Sub) (AV.int _) (AV.int _) _); refine op_sub ?_) | ((with_reducible show Op2 _ _ (inplaceOp Operator.Add) (AV.int _) (AV.int _) _); refine op_iadd ?_) | ((with_reducible show Op2 _ _ (inplaceOp Operator.Sub) (AV.int _) (AV.int _) _); refine op_isub ?_) | ((with_reducible show Op1 _ _ _ (AV.int _) _); first | refine op_neg ?_ | refine op_inv ?_) | ((with_reducible show Op2 _ _ (compareOp _) (AV.int _) (AV.int _) _); first | refine op_eq ?_ | refine op_ne ?_ | refine op_lt ?_ | refine op_le ?_ | refine op_gt ?_ | refine op_ge ?_) | ((with_reducible show Truth _ (AV.bool _) _); refine truth_bool ?_) | ((with_reducible show Truth _ (AV.int _) _); refine truth_int ?_) | ((with_reducible show Truth _ AV.none _); refine truth_none ?_)))
    refine ⟨by decide, ?_⟩
    refine op_add_lst like_script like_lst (by simp; omega) ?_
    (repeat (first | ((with_reducible show HS _ _ _ _); first | refine HS_cons ?_ | refine HS_nil ?_) | ((with_reducible show HX _ _ (Stmt.Return (some _) _) _); refine HX_ret ?_) | ((with_reducible show HX _ _ (Stmt.Return none _) _); refine HX_ret0 ?_) | ((with_reducible show HX _ _ (Stmt.Break _) _); refine HX_brk ?_) | ((with_reducible show HX _ _ (Stmt.If _ _ _ _) _); refine HX_if ?_) | ((with_reducible show HX _ _ (Stmt.Assign [Expr.Name _ _] _ _) _); refine HX_assign ?_) | ((with_reducible show HX _ _ (Stmt.Assign [Expr.Tuple _ _ _] _ _) _); refine HX_unpack ?_) | ((with_reducible show HX _ _ (Stmt.AugAssign (Expr.Name _ _) _ _ _) _); refine HX_aug rfl ?_) | ((with_reducible show HE _ _ (Expr.Name _ _) _); refine HE_name rfl ?_) | ((with_reducible show HE _ _ (Expr.Constant (Const.int _) _ _) _); refine HE_int ?_) | ((with_reducible show HE _ _ (Expr.Constant (Const.str _) _ _) _); refine HE_str ?_) | ((with_reducible show HE _ _ (Expr.Constant Const.none _ _) _); refine HE_none ?_) | ((with_reducible show HE _ _ (Expr.Constant (Const.bool _) _ _) _); refine HE_bool ?_) | ((with_reducible show HE _ _ (Expr.BinOp _ _ _ _) _); refine HE_bin ?_) | ((with_reducible show HE _ _ (Expr.UnaryOp _ _ _) _); refine HE_un ?_) | ((with_reducible show HE _ _ (Expr.Compare _ [_] [_] _) _); refine HE_cmp ?_) | ((with_reducible show HE _ _ (Expr.Tuple _ _ _) _); refine HE_tuple ?_) | ((with_reducible show HE _ _ (Expr.List _ _) _); refine HE_list ?_) | ((with_reducible show HE _ _ (Expr.IfExp _ _ _ _) _); refine HE_ifexp ?_) | ((with_reducible show HL _ _ _ _); first | refine HL_cons ?_ | refine HL_nil ?_) | ((with_reducible show HT _ _ (Expr.Compare _ [_] [_] _) _); refine HT_cmp ?_) | ((with_reducible show HT _ _ (Expr.UnaryOp UnaryOp.Not _ _) _); refine HT_not ?_) | ((with_reducible show HT _ _ (Expr.BoolOp _ _ _) _); refine HT_bool ?_) | ((with_reducible show HT _ _ (Expr.Name _ _) _); refine HT_val ?_) | ((with_reducible show HA _ _ _ _ _); first | refine HA_and ?_ | refine HA_or ?_ | refine HA_nil ?_) | ((with_reducible show HG _ _ (Expr.Name _ _) _ _); refine HG_name ?_) | ((with_reducible show HG _ _ (Expr.Tuple _ _ _) (AV.tup _) _); refine HG_tup ?_) | ((with_reducible show HGl _ _ _ _ _); first | refine HGl_cons ?_ | refine HGl_nil ?_) | ((with_reducible show Op2 _ _ (binaryOp Operator.Add) (AV.int _) (AV.int _) _); refine op_add ?_) | ((with_reducible show Op2 _ _ (binaryOp Operator.Sub) (AV.int _) (AV.int _) _); refine op_sub ?_) | ((with_reducible show Op2 _ _ (inplaceOp Operator.Add) (AV.int _) (AV.int _) _); refine op_iadd ?_) | ((with_reducible show Op2 _ _ (inplaceOp Operator.Sub) (AV.int _) (AV.int _) _); refine op_isub ?_) | ((with_reducible show Op1 _ _ _ (AV.int _) _); first | refine op_neg ?_ | refine op_inv ?_) | ((with_reducible show Op2 _ _ (compareOp _) (AV.int _) (AV.int _) _); first | refine op_eq ?_ | refine op_ne ?_ | refine op_lt ?_ | refine op_le ?_ | refine op_gt ?_ | refine op_ge ?_) | ((with_reducible show Truth _ (AV.bool _) _); refine truth_bool ?_) | ((with_reducible show Truth _ (AV.int _) _); refine truth_int ?_) | ((with_reducible show Truth _ AV.none _); refine truth_none ?_)))
    refine sub_lst (by decide) (by decide) hx0 ?_
    (repeat (first | ((with_reducible show HS _ _ _ _); first | refine HS_cons ?_ | refine HS_nil ?_) | ((with_reducible show HX _ _ (Stmt.Return (some _) _) _); refine HX_ret ?_) | ((with_reducible show HX _ _ (Stmt.Return none _) _); refine HX_ret0 ?_) | ((with_reducible show HX _ _ (Stmt.Break _) _); refine HX_brk ?_) | ((with_reducible show HX _ _ (Stmt.If _ _ _ _) _); refine HX_if ?_) | ((with_reducible show HX _ _ (Stmt.Assign [Expr.Name _ _] _ _) _); refine HX_assign ?_) | ((with_reducible show HX _ _ (Stmt.Assign [Expr.Tuple _ _ _] _ _) _); refine HX_unpack ?_) | ((with_reducible show HX _ _ (Stmt.AugAssign (Expr.Name _ _) _ _ _) _); refine HX_aug rfl ?_) | ((with_reducible show HE _ _ (Expr.Name _ _) _); refine HE_name rfl ?_) | ((with_reducible show HE _ _ (Expr.Constant (Const.int _) _ _) _); refine HE_int ?_) | ((with_reducible show HE _ _ (Expr.Constant (Const.str _) _ _) _); refine HE_str ?_) | ((with_reducible show HE _ _ (Expr.Constant Const.none _ _) _); refine HE_none ?_) | ((with_reducible show HE _ _ (Expr.Constant (Const.bool _) _ _) _); refine HE_bool ?_) | ((with_reducible show HE _ _ (Expr.BinOp _ _ _ _) _); refine HE_bin ?_) | ((with_reducible show HE _ _ (Expr.UnaryOp _ _ _) _); refine HE_un ?_) | ((with_reducible show HE _ _ (Expr.Compare _ [_] [_] _) _); refine HE_cmp ?_) | ((with_reducible show HE _ _ (Expr.Tuple _ _ _) _); refine HE_tuple ?_) | ((with_reducible show HE _ _ (Expr.List _ _) _); refine HE_list ?_) | ((with_reducible show HE _ _ (Expr.IfExp _ _ _ _) _); refine HE_ifexp ?_) | ((with_reducible show HL _ _ _ _); first | refine HL_cons ?_ | refine HL_nil ?_) | ((with_reducible show HT _ _ (Expr.Compare _ [_] [_] _) _); refine HT_cmp ?_) | ((with_reducible show HT _ _ (Expr.UnaryOp UnaryOp.Not _ _) _); refine HT_not ?_) | ((with_reducible show HT _ _ (Expr.BoolOp _ _ _) _); refine HT_bool ?_) | ((with_reducible show HT _ _ (Expr.Name _ _) _); refine HT_val ?_) | ((with_reducible show HA _ _ _ _ _); first | refine HA_and ?_ | refine HA_or ?_ | refine HA_nil ?_) | ((with_reducible show HG _ _ (Expr.Name _ _) _ _); refine HG_name ?_) | ((with_reducible show HG _ _ (Expr.Tuple _ _ _) (AV.tup _) _); refine HG_tup ?_) | ((with_reducible show HGl _ _ _ _ _); first | refine HGl_cons ?_ | refine HGl_nil ?_) | ((with_reducible show Op2 _ _ (binaryOp Operator.Add) (AV.int _) (AV.int _) _); refine op_add ?_) | ((with_reducible show Op2 _ _ (binaryOp Operator.Sub) (AV.int _) (AV.int _) _); refine op_sub ?_) | ((with_reducible show Op2 _ _ (inplaceOp Operator.Add) (AV.int _) (AV.int _) _); refine op_iadd ?_) | ((with_reducible show Op2 _ _ (inplaceOp Operator.Sub) (AV.int _) (AV.int _) _); refine op_isub ?_) | ((with_reducible show Op1 _ _ _ (AV.int _) _); first | refine op_neg ?_ | refine op_inv ?_) | ((with_reducible show Op2 _ _ (compareOp _) (AV.int _) (AV.int _) _); first | refine op_eq ?_ | refine op_ne ?_ | refine op_lt ?_ | refine op_le ?_ | refine op_gt ?_ | refine op_ge ?_) | ((with_reducible show Truth _ (AV.bool _) _); refine truth_bool ?_) | ((with_reducible show Truth _ (AV.int _) _); refine truth_int ?_) | ((with_reducible show Truth _ AV.none _); refine truth_none ?_)))
    refine op_mod (by decide) ?_
    (repeat (first | ((with_reducible show HS _ _ _ _); first | refine HS_cons ?_ | refine HS_nil ?_) | ((with_reducible show HX _ _ (Stmt.Return (some _) _) _); refine HX_ret ?_) | ((with_reducible show HX _ _ (Stmt.Return none _) _); refine HX_ret0 ?_) | ((with_reducible show HX _ _ (Stmt.Break _) _); refine HX_brk ?_) | ((with_reducible show HX _ _ (Stmt.If _ _ _ _) _); refine HX_if ?_) | ((with_reducible show HX _ _ (Stmt.Assign [Expr.Name _ _] _ _) _); refine HX_assign ?_) | ((with_reducible show HX _ _ (Stmt.Assign [Expr.Tuple _ _ _] _ _) _); refine HX_unpack ?_) | ((with_reducible show HX _ _ (Stmt.AugAssign (Expr.Name _ _) _ _ _) _); refine HX_aug rfl ?_) | ((with_reducible show HE _ _ (Expr.Name _ _) _); refine HE_name rfl ?_) | ((with_reducible show HE _ _ (Expr.Constant (Const.int _) _ _) _); refine HE_int ?_) | ((with_reducible show HE _ _ (Expr.Constant (Const.str _) _ _) _); refine HE_str ?_) | ((with_reducible show HE _ _ (Expr.Constant Const.none _ _) _); refine HE_none ?_) | ((with_reducible show HE _ _ (Expr.Constant (Const.bool _) _ _) _); refine HE_bool ?_) | ((with_reducible show HE _ _ (Expr.BinOp _ _ _ _) _); refine HE_bin ?_) | ((with_reducible show HE _ _ (Expr.UnaryOp _ _ _) _); refine HE_un ?_) | ((with_reducible show HE _ _ (Expr.Compare _ [_] [_] _) _); refine HE_cmp ?_) | ((with_reducible show HE _ _ (Expr.Tuple _ _ _) _); refine HE_tuple ?_) | ((with_reducible show HE _ _ (Expr.List _ _) _); refine HE_list ?_) | ((with_reducible show HE _ _ (Expr.IfExp _ _ _ _) _); refine HE_ifexp ?_) | ((with_reducible show HL _ _ _ _); first | refine HL_cons ?_ | refine HL_nil ?_) | ((with_reducible show HT _ _ (Expr.Compare _ [_] [_] _) _); refine HT_cmp ?_) | ((with_reducible show HT _ _ (Expr.UnaryOp UnaryOp.Not _ _) _); refine HT_not ?_) | ((with_reducible show HT _ _ (Expr.BoolOp _ _ _) _); refine HT_bool ?_) | ((with_reducible show HT _ _ (Expr.Name _ _) _); refine HT_val ?_) | ((with_reducible show HA _ _ _ _ _); first | refine HA_and ?_ | refine HA_or ?_ | refine HA_nil ?_) | ((with_reducible show HG _ _ (Expr.Name _ _) _ _); refine HG_name ?_) | ((with_reducible show HG _ _ (Expr.Tuple _ _ _) (AV.tup _) _); refine HG_tup ?_) | ((with_reducible show HGl _ _ _ _ _); first | refine HGl_cons ?_ | refine HGl_nil ?_) | ((with_reducible show Op2 _ _ (binaryOp Operator.Add) (AV.int _) (AV.int _) _); refine op_add ?_) | ((with_reducible show Op2 _ _ (binaryOp Operator.Sub) (AV.int _) (AV.int _) _); refine op_sub ?_) | ((with_reducible show Op2 _ _ (inplaceOp Operator.Add) (AV.int _) (AV.int _) _); refine op_iadd ?_) | ((with_reducible show Op2 _ _ (inplaceOp Operator.Sub) (AV.int _) (AV.int _) _); refine op_isub ?_) | ((with_reducible show Op1 _ _ _ (AV.int _) _); first | refine op_neg ?_ | refine op_inv ?_) | ((with_reducible show Op2 _ _ (compareOp _) (AV.int _) (AV.int _) _); first | refine op_eq ?_ | refine op_ne ?_ | refine op_lt ?_ | refine op_le ?_ | refine op_gt ?_ | refine op_ge ?_) | ((with_reducible show Truth _ (AV.bool _) _); refine truth_bool ?_) | ((with_reducible show Truth _ (AV.int _) _); refine truth_int ?_) | ((with_reducible show Truth _ AV.none _); refine truth_none ?_)))
    obtain ⟨z, hz⟩ : ∃ z, z = (x0 + 5000).fmod 10007 - 5000 := ⟨_, rfl⟩
    have hzb : -6000 ≤ z ∧ z ≤ 6000 := by
      have := Int.fmod_nonneg_of_pos (x0 + 5000) (by decide : (0 : Int) < 10007)
      have := Int.fmod_lt_of_pos (x0 + 5000) (by decide : (0 : Int) < 10007)
      omega
    rw [← hz]
    refine HX_forC (HE_callB hrange (fun _ q => nomatch q) ?_)
    (repeat (first | ((with_reducible show HS _ _ _ _); first | refine HS_cons ?_ | refine HS_nil ?_) | ((with_reducible show HX _ _ (Stmt.Return (some _) _) _); refine HX_ret ?_) | ((with_reducible show HX _ _ (Stmt.Return none _) _); refine HX_ret0 ?_) | ((with_reducible show HX _ _ (Stmt.Break _) _); refine HX_brk ?_) | ((with_reducible show HX _ _ (Stmt.If _ _ _ _) _); refine HX_if ?_) | ((with_reducible show HX _ _ (Stmt.Assign [Expr.Name _ _] _ _) _); refine HX_assign ?_) | ((with_reducible show HX _ _ (Stmt.Assign [Expr.Tuple _ _ _] _ _) _); refine HX_unpack ?_) | ((with_reducible show HX _ _ (Stmt.AugAssign (Expr.Name _ _) _ _ _) _); refine HX_aug rfl ?_) | ((with_reducible show HE _ _ (Expr.Name _ _) _); refine HE_name rfl ?_) | ((with_reducible show HE _ _ (Expr.Constant (Const.int _) _ _) _); refine HE_int ?_) | ((with_reducible show HE _ _ (Expr.Constant (Const.str _) _ _) _); refine HE_str ?_) | ((with_reducible show HE _ _ (Expr.Constant Const.none _ _) _); refine HE_none ?_) | ((with_reducible show HE _ _ (Expr.Constant (Const.bool _) _ _) _); refine HE_bool ?_) | ((with_reducible show HE _ _ (Expr.BinOp _ _ _ _) _); refine HE_bin ?_) | ((with_reducible show HE _ _ (Expr.UnaryOp _ _ _) _); refine HE_un ?_) | ((with_reducible show HE _ _ (Expr.Compare _ [_] [_] _) _); refine HE_cmp ?_) | ((with_reducible show HE _ _ (Expr.Tuple _ _ _) _); refine HE_tuple ?_) | ((with_reducible show HE _ _ (Expr.List _ _) _); refine HE_list ?_) | ((with_reducible show HE _ _ (Expr.IfExp _ _ _ _) _); refine HE_ifexp ?_) | ((with_reducible show HL _ _ _ _); first | refine HL_cons ?_ | refine HL_nil ?_) | ((with_reducible show HT _ _ (Expr.Compare _ [_] [_] _) _); refine HT_cmp ?_) | ((with_reducible show HT _ _ (Expr.UnaryOp UnaryOp.Not _ _) _); refine HT_not ?_) | ((with_reducible show HT _ _ (Expr.BoolOp _ _ _) _); refine HT_bool ?_) | ((with_reducible show HT _ _ (Expr.Name _ _) _); refine HT_val ?_) | ((with_reducible show HA _ _ _ _ _); first | refine HA_and ?_ | refine HA_or ?_ | refine HA_nil ?_) | ((with_reducible show HG _ _ (Expr.Name _ _) _ _); refine HG_name ?_) | ((with_reducible show HG _ _ (Expr.Tuple _ _ _) (AV.tup _) _); refine HG_tup ?_) | ((with_reducible show HGl _ _ _ _ _); first | refine HGl_cons ?_ | refine HGl_nil ?_) | ((with_reducible show Op2 _ _ (binaryOp Operator.Add) (AV.int _) (AV.int _) _); refine op_add ?_) | ((with_reducible show Op2 _ _ (binaryOp Operator.Sub) (AV.int _) (AV.int _) _); refine op_sub ?_) | ((with_reducible show Op2 _ _ (inplaceOp Operator.Add) (AV.int _) (AV.int _) _); refine op_iadd ?_) | ((with_reducible show Op2 _ _ (inplaceOp Operator.Sub) (AV.int _) (AV.int _) _); refine op_isub ?_) | ((with_reducible show Op1 _ _ _ (AV.int _) _); first | refine op_neg ?_ | refine op_inv ?_) | ((with_reducible show Op2 _ _ (compareOp _) (AV.int _) (AV.int _) _); first | refine op_eq ?_ | refine op_ne ?_ | refine op_lt ?_ | refine op_le ?_ | refine op_gt ?_ | refine op_ge ?_) | ((with_reducible show Truth _ (AV.bool _) _); refine truth_bool ?_) | ((with_reducible show Truth _ (AV.int _) _); refine truth_int ?_) | ((with_reducible show Truth _ AV.none _); refine truth_none ?_)))
    refine op_range2 ?_
    refine ⟨_, it_up (by omega) (by omega) (by omega) (by omega), fun i => [(Str.ofString "first", .v (.int first)), (Str.ofString "last", .v (.int last)), (Str.ofString "factor", .v (.int fa)), (Str.ofString "number", .v (.int z)), (Str.ofString "count", .v (.int (cM first z i)))], ⟨rfl, rfl, rfl, rfl, rfl, trivial⟩, ?_, ?_⟩
    · intro i x hx
      obtain ⟨hi, rfl⟩ := rangeL_get hx
      obtain ⟨s, hs⟩ : ∃ s, s = first + (i : Int) * 1 := ⟨_, rfl⟩
      rw [← hs]
      have hs1 : 2 ≤ s ∧ s ≤ 7 := by omega
      have hb := cM_bounds (first := first) (x := z) (by omega) hzb i
      obtain ⟨c, hce⟩ : ∃ c, c = cM first z i := ⟨_, rfl⟩
      rw [← hce] at hb
      refine HG_name ?_
      refine HS.has (st' := [(Str.ofString "first", .v (.int first)), (Str.ofString "last", .v (.int last)), (Str.ofString "factor", .v (.int fa)), (Str.ofString "number", .v (.int z)), (Str.ofString "count", .v (.int c)), (Str.ofString "size", .v (.int s))]) ?_ ⟨rfl, rfl, rfl, rfl, by rw [hce]; rfl, rfl, trivial⟩
      (repeat (first | ((with_reducible show HS _ _ _ _); first | refine HS_cons ?_ | refine HS_nil ?_) | ((with_reducible show HX _ _ (Stmt.Return (some _) _) _); refine HX_ret ?_) | ((with_reducible show HX _ _ (Stmt.Return none _) _); refine HX_ret0 ?_) | ((with_reducible show HX _ _ (Stmt.Break _) _); refine HX_brk ?_) | ((with_reducible show HX _ _ (Stmt.If _ _ _ _) _); refine HX_if ?_) | ((with_reducible show HX _ _ (Stmt.Assign [Expr.Name _ _] _ _) _); refine HX_assign ?_) | ((with_reducible show HX _ _ (Stmt.Assign [Expr.Tuple _ _ _] _ _) _); refine HX_unpack ?_) | ((with_reducible show HX _ _ (Stmt.AugAssign (Expr.Name _ _) _ _ _) _); refine HX_aug rfl ?_) | ((with_reducible show HE _ _ (Expr.Name _ _) _); refine HE_name rfl ?_) | ((with_reducible show HE _ _ (Expr.Constant (Const.int _) _ _) _); refine HE_int ?_) | ((with_reducible show HE _ _ (Expr.Constant (Const.str _) _ _) _); refine HE_str ?_) | ((with_reducible show HE _ _ (Expr.Constant Const.none _ _) _); refine HE_none ?_) | ((with_reducible show HE _ _ (Expr.Constant (Const.bool _) _ _) _); refine HE_bool ?_) | ((with_reducible show HE _ _ (Expr.BinOp _ _ _ _) _); refine HE_bin ?_) | ((with_reducible show HE _ _ (Expr.UnaryOp _ _ _) _); refine HE_un ?_) | ((with_reducible show HE _ _ (Expr.Compare _ [_] [_] _) _); refine HE_cmp ?_) | ((with_reducible show HE _ _ (Expr.Tuple _ _ _) _); refine HE_tuple ?_) | ((with_reducible show HE _ _ (Expr.List _ _) _); refine HE_list ?_) | ((with_reducible show HE _ _ (Expr.IfExp _ _ _ _) _); refine HE_ifexp ?_) | ((with_reducible show HL _ _ _ _); first | refine HL_cons ?_ | refine HL_nil ?_) | ((with_reducible show HT _ _ (Expr.Compare _ [_] [_] _) _); refine HT_cmp ?_) | ((with_reducible show HT _ _ (Expr.UnaryOp UnaryOp.Not _ _) _); refine HT_not ?_) | ((with_reducible show HT _ _ (Expr.BoolOp _ _ _) _); refine HT_bool ?_) | ((with_reducible show HT _ _ (Expr.Name _ _) _); refine HT_val ?_) | ((with_reducible show HA _ _ _ _ _); first | refine HA_and ?_ | refine HA_or ?_ | refine HA_nil ?_) | ((with_reducible show HG _ _ (Expr.Name _ _) _ _); refine HG_name ?_) | ((with_reducible show HG _ _ (Expr.Tuple _ _ _) (AV.tup _) _); refine HG_tup ?_) | ((with_reducible show HGl _ _ _ _ _); first | refine HGl_cons ?_ | refine HGl_nil ?_) | ((with_reducible show Op2 _ _ (binaryOp Operator.Add) (AV.int _) (AV.int _) _); refine op_add ?_) | ((with_reducible show Op2 _ _ (binaryOp Operator.Sub) (AV.int _) (AV.int _) _); refine op_sub ?_) | ((with_reducible show Op2 _ _ (inplaceOp Operator.Add) (AV.int _) (AV.int _) _); refine op_iadd ?_) | ((with_reducible show Op2 _ _ (inplaceOp Operator.Sub) (AV.int _) (AV.int _) _); refine op_isub ?_) | ((with_reducible show Op1 _ _ _ (AV.int _) _); first | refine op_neg ?_ | refine op_inv ?_) | ((with_reducible show Op2 _ _ (compareOp _) (AV.int _) (AV.int _) _); first | refine op_eq ?_ | refine op_ne ?_ | refine op_lt ?_ | refine op_le ?_ | refine op_gt ?_ | refine op_ge ?_) | ((with_reducible show Truth _ (AV.bool _) _); refine truth_bool ?_) | ((with_reducible show Truth _ (AV.int _) _); refine truth_int ?_) | ((with_reducible show Truth _ AV.none _); refine truth_none ?_)))
      refine op_pow (by omega) ?_ (op_mul ?_ ?_)
      · show (1 : Int) * s ≤ 2 ^ 27
        omega
      · refine IntMulOk.of_right (small _ ?_ ?_) <;> rcases neg_one_pow s.toNat with h | h <;> rw [h] <;> decide
      obtain ⟨sh, hc⟩ : ∃ sh, sh = fa * (-1) ^ s.toNat := ⟨_, rfl⟩
      rw [← hc]
      have hca : sh.natAbs = fa.natAbs := by rw [hc]; exact share_abs fa s
      have hc0 : sh ≠ 0 := by omega
      refine HS_cons (HX_aug rfl (HE_sub (HE_callD H.dm ?_)))
      (repeat (first | ((with_reducible show HS _ _ _ _); first | refine HS_cons ?_ | refine HS_nil ?_) | ((with_reducible show HX _ _ (Stmt.Return (some _) _) _); refine HX_ret ?_) | ((with_reducible show HX _ _ (Stmt.Return none _) _); refine HX_ret0 ?_) | ((with_reducible show HX _ _ (Stmt.Break _) _); refine HX_brk ?_) | ((with_reducible show HX _ _ (Stmt.If _ _ _ _) _); refine HX_if ?_) | ((with_reducible show HX _ _ (Stmt.Assign [Expr.Name _ _] _ _) _); refine HX_assign ?_) | ((with_reducible show HX _ _ (Stmt.Assign [Expr.Tuple _ _ _] _ _) _); refine HX_unpack ?_) | ((with_reducible show HX _ _ (Stmt.AugAssign (Expr.Name _ _) _ _ _) _); refine HX_aug rfl ?_) | ((with_reducible show HE _ _ (Expr.Name _ _) _); refine HE_name rfl ?_) | ((with_reducible show HE _ _ (Expr.Constant (Const.int _) _ _) _); refine HE_int ?_) | ((with_reducible show HE _ _ (Expr.Constant (Const.str _) _ _) _); refine HE_str ?_) | ((with_reducible show HE _ _ (Expr.Constant Const.none _ _) _); refine HE_none ?_) | ((with_reducible show HE _ _ (Expr.Constant (Const.bool _) _ _) _); refine HE_bool ?_) | ((with_reducible show HE _ _ (Expr.BinOp _ _ _ _) _); refine HE_bin ?_) | ((with_reducible show HE _ _ (Expr.UnaryOp _ _ _) _); refine HE_un ?_) | ((with_reducible show HE _ _ (Expr.Compare _ [_] [_] _) _); refine HE_cmp ?_) | ((with_reducible show HE _ _ (Expr.Tuple _ _ _) _); refine HE_tuple ?_) | ((with_reducible show HE _ _ (Expr.List _ _) _); refine HE_list ?_) | ((with_reducible show HE _ _ (Expr.IfExp _ _ _ _) _); refine HE_ifexp ?_) | ((with_reducible show HL _ _ _ _); first | refine HL_cons ?_ | refine HL_nil ?_) | ((with_reducible show HT _ _ (Expr.Compare _ [_] [_] _) _); refine HT_cmp ?_) | ((with_reducible show HT _ _ (Expr.UnaryOp UnaryOp.Not _ _) _); refine HT_not ?_) | ((with_reducible show HT _ _ (Expr.BoolOp _ _ _) _); refine HT_bool ?_) | ((with_reducible show HT _ _ (Expr.Name _ _) _); refine HT_val ?_) | ((with_reducible show HA _ _ _ _ _); first | refine HA_and ?_ | refine HA_or ?_ | refine HA_nil ?_) | ((with_reducible show HG _ _ (Expr.Name _ _) _ _); refine HG_name ?_) | ((with_reducible show HG _ _ (Expr.Tuple _ _ _) (AV.tup _) _); refine HG_tup ?_) | ((with_reducible show HGl _ _ _ _ _); first | refine HGl_cons ?_ | refine HGl_nil ?_) | ((with_reducible show Op2 _ _ (binaryOp Operator.Add) (AV.int _) (AV.int _) _); refine op_add ?_) | ((with_reducible show Op2 _ _ (binaryOp Operator.Sub) (AV.int _) (AV.int _) _); refine op_sub ?_) | ((with_reducible show Op2 _ _ (inplaceOp Operator.Add) (AV.int _) (AV.int _) _); refine op_iadd ?_) | ((with_reducible show Op2 _ _ (inplaceOp Operator.Sub) (AV.int _) (AV.int _) _); refine op_isub ?_) | ((with_reducible show Op1 _ _ _ (AV.int _) _); first | refine op_neg ?_ | refine op_inv ?_) | ((with_reducible show Op2 _ _ (compareOp _) (AV.int _) (AV.int _) _); first | refine op_eq ?_ | refine op_ne ?_ | refine op_lt ?_ | refine op_le ?_ | refine op_gt ?_ | refine op_ge ?_) | ((with_reducible show Truth _ (AV.bool _) _); refine truth_bool ?_) | ((with_reducible show Truth _ (AV.int _) _); refine truth_int ?_) | ((with_reducible show Truth _ AV.none _); refine truth_none ?_)))
      refine op_mul (IntMulOk.of_left (small _ (by omega) (by omega))) ?_
      (repeat (first | ((with_reducible show HS _ _ _ _); first | refine HS_cons ?_ | refine HS_nil ?_) | ((with_reducible show HX _ _ (Stmt.Return (some _) _) _); refine HX_ret ?_) | ((with_reducible show HX _ _ (Stmt.Return none _) _); refine HX_ret0 ?_) | ((with_reducible show HX _ _ (Stmt.Break _) _); refine HX_brk ?_) | ((with_reducible show HX _ _ (Stmt.If _ _ _ _) _); refine HX_if ?_) | ((with_reducible show HX _ _ (Stmt.Assign [Expr.Name _ _] _ _) _); refine HX_assign ?_) | ((with_reducible show HX _ _ (Stmt.Assign [Expr.Tuple _ _ _] _ _) _); refine HX_unpack ?_) | ((with_reducible show HX _ _ (Stmt.AugAssign (Expr.Name _ _) _ _ _) _); refine HX_aug rfl ?_) | ((with_reducible show HE _ _ (Expr.Name _ _) _); refine HE_name rfl ?_) | ((with_reducible show HE _ _ (Expr.Constant (Const.int _) _ _) _); refine HE_int ?_) | ((with_reducible show HE _ _ (Expr.Constant (Const.str _) _ _) _); refine HE_str ?_) | ((with_reducible show HE _ _ (Expr.Constant Const.none _ _) _); refine HE_none ?_) | ((with_reducible show HE _ _ (Expr.Constant (Const.bool _) _ _) _); refine HE_bool ?_) | ((with_reducible show HE _ _ (Expr.BinOp _ _ _ _) _); refine HE_bin ?_) | ((with_reducible show HE _ _ (Expr.UnaryOp _ _ _) _); refine HE_un ?_) | ((with_reducible show HE _ _ (Expr.Compare _ [_] [_] _) _); refine HE_cmp ?_) | ((with_reducible show HE _ _ (Expr.Tuple _ _ _) _); refine HE_tuple ?_) | ((with_reducible show HE _ _ (Expr.List _ _) _); refine HE_list ?_) | ((with_reducible show HE _ _ (Expr.IfExp _ _ _ _) _); refine HE_ifexp ?_) | ((with_reducible show HL _ _ _ _); first | refine HL_cons ?_ | refine HL_nil ?_) | ((with_reducible show HT _ _ (Expr.Compare _ [_] [_] _) _); refine HT_cmp ?_) | ((with_reducible show HT _ _ (Expr.UnaryOp UnaryOp.Not _ _) _); refine HT_not ?_) | ((with_reducible show HT _ _ (Expr.BoolOp _ _ _) _); refine HT_bool ?_) | ((with_reducible show HT _ _ (Expr.Name _ _) _); refine HT_val ?_) | ((with_reducible show HA _ _ _ _ _); first | refine HA_and ?_ | refine HA_or ?_ | refine HA_nil ?_) | ((with_reducible show HG _ _ (Expr.Name _ _) _ _); refine HG_name ?_) | ((with_reducible show HG _ _ (Expr.Tuple _ _ _) (AV.tup _) _); refine HG_tup ?_) | ((with_reducible show HGl _ _ _ _ _); first | refine HGl_cons ?_ | refine HGl_nil ?_) | ((with_reducible show Op2 _ _ (binaryOp Operator.Add) (AV.int _) (AV.int _) _); refine op_add ?_) | ((with_reducible show Op2 _ _ (binaryOp Operator.Sub) (AV.int _) (AV.int _) _); refine op_sub ?_) | ((with_reducible show Op2 _ _ (inplaceOp Operator.Add) (AV.int _) (AV.int _) _); refine op_iadd ?_) | ((with_reducible show Op2 _ _ (inplaceOp Operator.Sub) (AV.int _) (AV.int _) _); refine op_isub ?_) | ((with_reducible show Op1 _ _ _ (AV.int _) _); first | refine op_neg ?_ | refine op_inv ?_) | ((with_reducible show Op2 _ _ (compareOp _) (AV.int _) (AV.int _) _); first | refine op_eq ?_ | refine op_ne ?_ | refine op_lt ?_ | refine op_le ?_ | refine op_gt ?_ | refine op_ge ?_) | ((with_reducible show Truth _ (AV.bool _) _); refine truth_bool ?_) | ((with_reducible show Truth _ (AV.int _) _); refine truth_int ?_) | ((with_reducible show Truth _ AV.none _); refine truth_none ?_)))
      refine op_mul (IntMulOk.of_left (small _ (by omega) (by omega))) ?_
      (repeat (first | ((with_reducible show HS _ _ _ _); first | refine HS_cons ?_ | refine HS_nil ?_) | ((with_reducible show HX _ _ (Stmt.Return (some _) _) _); refine HX_ret ?_) | ((with_reducible show HX _ _ (Stmt.Return none _) _); refine HX_ret0 ?_) | ((with_reducible show HX _ _ (Stmt.Break _) _); refine HX_brk ?_) | ((with_reducible show HX _ _ (Stmt.If _ _ _ _) _); refine HX_if ?_) | ((with_reducible show HX _ _ (Stmt.Assign [Expr.Name _ _] _ _) _); refine HX_assign ?_) | ((with_reducible show HX _ _ (Stmt.Assign [Expr.Tuple _ _ _] _ _) _); refine HX_unpack ?_) | ((with_reducible show HX _ _ (Stmt.AugAssign (Expr.Name _ _) _ _ _) _); refine HX_aug rfl ?_) | ((with_reducible show HE _ _ (Expr.Name _ _) _); refine HE_name rfl ?_) | ((with_reducible show HE _ _ (Expr.Constant (Const.int _) _ _) _); refine HE_int ?_) | ((with_reducible show HE _ _ (Expr.Constant (Const.str _) _ _) _); refine HE_str ?_) | ((with_reducible show HE _ _ (Expr.Constant Const.none _ _) _); refine HE_none ?_) | ((with_reducible show HE _ _ (Expr.Constant (Const.bool _) _ _) _); refine HE_bool ?_) | ((with_reducible show HE _ _ (Expr.BinOp _ _ _ _) _); refine HE_bin ?_) | ((with_reducible show HE _ _ (Expr.UnaryOp _ _ _) _); refine HE_un ?_) | ((with_reducible show HE _ _ (Expr.Compare _ [_] [_] _) _); refine HE_cmp ?_) | ((with_reducible show HE _ _ (Expr.Tuple _ _ _) _); refine HE_tuple ?_) | ((with_reducible show HE _ _ (Expr.List _ _) _); refine HE_list ?_) | ((with_reducible show HE _ _ (Expr.IfExp _ _ _ _) _); refine HE_ifexp ?_) | ((with_reducible show HL _ _ _ _); first | refine HL_cons ?_ | refine HL_nil ?_) | ((with_reducible show HT _ _ (Expr.Compare _ [_] [_] _) _); refine HT_cmp ?_) | ((with_reducible show HT _ _ (Expr.UnaryOp UnaryOp.Not _ _) _); refine HT_not ?_) | ((with_reducible show HT _ _ (Expr.BoolOp _ _ _) _); refine HT_bool ?_) | ((with_reducible show HT _ _ (Expr.Name _ _) _); refine HT_val ?_) | ((with_reducible show HA _ _ _ _ _); first | refine HA_and ?_ | refine HA_or ?_ | refine HA_nil ?_) | ((with_reducible show HG _ _ (Expr.Name _ _) _ _); refine HG_name ?_) | ((with_reducible show HG _ _ (Expr.Tuple _ _ _) (AV.tup _) _); refine HG_tup ?_) | ((with_reducible show HGl _ _ _ _ _); first | refine HGl_cons ?_ | refine HGl_nil ?_) | ((with_reducible show Op2 _ _ (binaryOp Operator.Add) (AV.int _) (AV.int _) _); refine op_add ?_) | ((with_reducible show Op2 _ _ (binaryOp Operator.Sub) (AV.int _) (AV.int _) _); refine op_sub ?_) | ((with_reducible show Op2 _ _ (inplaceOp Operator.Add) (AV.int _) (AV.int _) _); refine op_iadd ?_) | ((with_reducible show Op2 _ _ (inplaceOp Operator.Sub) (AV.int _) (AV.int _) _); refine op_isub ?_) | ((with_reducible show Op1 _ _ _ (AV.int _) _); first | refine op_neg ?_ | refine op_inv ?_) | ((with_reducible show Op2 _ _ (compareOp _) (AV.int _) (AV.int _) _); first | refine op_eq ?_ | refine op_ne ?_ | refine op_lt ?_ | refine op_le ?_ | refine op_gt ?_ | refine op_ge ?_) | ((with_reducible show Truth _ (AV.bool _) _); refine truth_bool ?_) | ((with_reducible show Truth _ (AV.int _) _); refine truth_int ?_) | ((with_reducible show Truth _ AV.none _); refine truth_none ?_)))
      rw [hd]
      refine Call.room (Call.mono (dm_share hK H (by omega) (by omega) hc0 (by omega)) ?_) (by decide)
      rintro _ rfl
      (repeat (first | ((with_reducible show HS _ _ _ _); first | refine HS_cons ?_ | refine HS_nil ?_) | ((with_reducible show HX _ _ (Stmt.Return (some _) _) _); refine HX_ret ?_) | ((with_reducible show HX _ _ (Stmt.Return none _) _); refine HX_ret0 ?_) | ((with_reducible show HX _ _ (Stmt.Break _) _); refine HX_brk ?_) | ((with_reducible show HX _ _ (Stmt.If _ _ _ _) _); refine HX_if ?_) | ((with_reducible show HX _ _ (Stmt.Assign [Expr.Name _ _] _ _) _); refine HX_assign ?_) | ((with_reducible show HX _ _ (Stmt.Assign [Expr.Tuple _ _ _] _ _) _); refine HX_unpack ?_) | ((with_reducible show HX _ _ (Stmt.AugAssign (Expr.Name _ _) _ _ _) _); refine HX_aug rfl ?_) | ((with_reducible show HE _ _ (Expr.Name _ _) _); refine HE_name rfl ?_) | ((with_reducible show HE _ _ (Expr.Constant (Const.int _) _ _) _); refine HE_int ?_) | ((with_reducible show HE _ _ (Expr.Constant (Const.str _) _ _) _); refine HE_str ?_) | ((with_reducible show HE _ _ (Expr.Constant Const.none _ _) _); refine HE_none ?_) | ((with_reducible show HE _ _ (Expr.Constant (Const.bool _) _ _) _); refine HE_bool ?_) | ((with_reducible show HE _ _ (Expr.BinOp _ _ _ _) _); refine HE_bin ?_) | ((with_reducible show HE _ _ (Expr.UnaryOp _ _ _) _); refine HE_un ?_) | ((with_reducible show HE _ _ (Expr.Compare _ [_] [_] _) _); refine HE_cmp ?_) | ((with_reducible show HE _ _ (Expr.Tuple _ _ _) _); refine HE_tuple ?_) | ((with_reducible show HE _ _ (Expr.List _ _) _); refine HE_list ?_) | ((with_reducible show HE _ _ (Expr.IfExp _ _ _ _) _); refine HE_ifexp ?_) | ((with_reducible show HL _ _ _ _); first | refine HL_cons ?_ | refine HL_nil ?_) | ((with_reducible show HT _ _ (Expr.Compare _ [_] [_] _) _); refine HT_cmp ?_) | ((with_reducible show HT _ _ (Expr.UnaryOp UnaryOp.Not _ _) _); refine HT_not ?_) | ((with_reducible show HT _ _ (Expr.BoolOp _ _ _) _); refine HT_bool ?_) | ((with_reducible show HT _ _ (Expr.Name _ _) _); refine HT_val ?_) | ((with_reducible show HA _ _ _ _ _); first | refine HA_and ?_ | refine HA_or ?_ | refine HA_nil ?_) | ((with_reducible show HG _ _ (Expr.Name _ _) _ _); refine HG_name ?_) | ((with_reducible show HG _ _ (Expr.Tuple _ _ _) (AV.tup _) _); refine HG_tup ?_) | ((with_reducible show HGl _ _ _ _ _); first | refine HGl_cons ?_ | refine HGl_nil ?_) | ((with_reducible show Op2 _ _ (binaryOp Operator.Add) (AV.int _) (AV.int _) _); refine op_add ?_) | ((with_reducible show Op2 _ _ (binaryOp Operator.Sub) (AV.int _) (AV.int _) _); refine op_sub ?_) | ((with_reducible show Op2 _ _ (inplaceOp Operator.Add) (AV.int _) (AV.int _) _); refine op_iadd ?_) | ((with_reducible show Op2 _ _ (inplaceOp Operator.Sub) (AV.int _) (AV.int _) _); refine op_isub ?_) | ((with_reducible show Op1 _ _ _ (AV.int _) _); first | refine op_neg ?_ | refine op_inv ?_) | ((with_reducible show Op2 _ _ (compareOp _) (AV.int _) (AV.int _) _); first | refine op_eq ?_ | refine op_ne ?_ | refine op_lt ?_ | refine op_le ?_ | refine op_gt ?_ | refine op_ge ?_) | ((with_reducible show Truth _ (AV.bool _) _); refine truth_bool ?_) | ((with_reducible show Truth _ (AV.int _) _); refine truth_int ?_) | ((with_reducible show Truth _ AV.none _); refine truth_none ?_)))
      refine sub_tup (by decide) (by simp) (by simp) rfl ?_
      (repeat (first | ((with_reducible show HS _ _ _ _); first | refine HS_cons ?_ | refine HS_nil ?_) | ((with_reducible show HX _ _ (Stmt.Return (some _) _) _); refine HX_ret ?_) | ((with_reducible show HX _ _ (Stmt.Return none _) _); refine HX_ret0 ?_) | ((with_reducible show HX _ _ (Stmt.Break _) _); refine HX_brk ?_) | ((with_reducible show HX _ _ (Stmt.If _ _ _ _) _); refine HX_if ?_) | ((with_reducible show HX _ _ (Stmt.Assign [Expr.Name _ _] _ _) _); refine HX_assign ?_) | ((with_reducible show HX _ _ (Stmt.Assign [Expr.Tuple _ _ _] _ _) _); refine HX_unpack ?_) | ((with_reducible show HX _ _ (Stmt.AugAssign (Expr.Name _ _) _ _ _) _); refine HX_aug rfl ?_) | ((with_reducible show HE _ _ (Expr.Name _ _) _); refine HE_name rfl ?_) | ((with_reducible show HE _ _ (Expr.Constant (Const.int _) _ _) _); refine HE_int ?_) | ((with_reducible show HE _ _ (Expr.Constant (Const.str _) _ _) _); refine HE_str ?_) | ((with_reducible show HE _ _ (Expr.Constant Const.none _ _) _); refine HE_none ?_) | ((with_reducible show HE _ _ (Expr.Constant (Const.bool _) _ _) _); refine HE_bool ?_) | ((with_reducible show HE _ _ (Expr.BinOp _ _ _ _) _); refine HE_bin ?_) | ((with_reducible show HE _ _ (Expr.UnaryOp _ _ _) _); refine HE_un ?_) | ((with_reducible show HE _ _ (Expr.Compare _ [_] [_] _) _); refine HE_cmp ?_) | ((with_reducible show HE _ _ (Expr.Tuple _ _ _) _); refine HE_tuple ?_) | ((with_reducible show HE _ _ (Expr.List _ _) _); refine HE_list ?_) | ((with_reducible show HE _ _ (Expr.IfExp _ _ _ _) _); refine HE_ifexp ?_) | ((with_reducible show HL _ _ _ _); first | refine HL_cons ?_ | refine HL_nil ?_) | ((with_reducible show HT _ _ (Expr.Compare _ [_] [_] _) _); refine HT_cmp ?_) | ((with_reducible show HT _ _ (Expr.UnaryOp UnaryOp.Not _ _) _); refine HT_not ?_) | ((with_reducible show HT _ _ (Expr.BoolOp _ _ _) _); refine HT_bool ?_) | ((with_reducible show HT _ _ (Expr.Name _ _) _); refine HT_val ?_) | ((with_reducible show HA _ _ _ _ _); first | refine HA_and ?_ | refine HA_or ?_ | refine HA_nil ?_) | ((with_reducible show HG _ _ (Expr.Name _ _) _ _); refine HG_name ?_) | ((with_reducible show HG _ _ (Expr.Tuple _ _ _) (AV.tup _) _); refine HG_tup ?_) | ((with_reducible show HGl _ _ _ _ _); first | refine HGl_cons ?_ | refine HGl_nil ?_) | ((with_reducible show Op2 _ _ (binaryOp Operator.Add) (AV.int _) (AV.int _) _); refine op_add ?_) | ((with_reducible show Op2 _ _ (binaryOp Operator.Sub) (AV.int _) (AV.int _) _); refine op_sub ?_) | ((with_reducible show Op2 _ _ (inplaceOp Operator.Add) (AV.int _) (AV.int _) _); refine op_iadd ?_) | ((with_reducible show Op2 _ _ (inplaceOp Operator.Sub) (AV.int _) (AV.int _) _); refine op_isub ?_) | ((with_reducible show Op1 _ _ _ (AV.int _) _); first | refine op_neg ?_ | refine op_inv ?_) | ((with_reducible show Op2 _ _ (compareOp _) (AV.int _) (AV.int _) _); first | refine op_eq ?_ | refine op_ne ?_ | refine op_lt ?_ | refine op_le ?_ | refine op_gt ?_ | refine op_ge ?_) | ((with_reducible show Truth _ (AV.bool _) _); refine truth_bool ?_) | ((with_reducible show Truth _ (AV.int _) _); refine truth_int ?_) | ((with_reducible show Truth _ AV.none _); refine truth_none ?_)))
      refine ⟨rfl, rfl, rfl, rfl, ?_, trivial⟩
      have e : cM first z (i + 1) = c - c.fdiv s := by
        show fM (first + i) (cM first z i) = _
        rw [← hce, show first + (i : Int) = s by omega]; rfl
      rw [e]; rfl
    intro st2 hst2
    rw [rangeL_len, hsteps] at hst2
    refine HS.has ?_ hst2
    clear hst2 st2
    obtain ⟨c, hce⟩ : ∃ c, c = cM first z (steps3 first last) := ⟨_, rfl⟩
    have hb := cM_bounds (first := first) (x := z) (by omega) hzb (steps3 first last)
    rw [← hce] at hb
    have k1 : placeM first last c ≤ z := (place_le (by omega) (by omega)).mpr (by omega)
    have k2 : z < placeM first last (c + 1) := by
      rcases Int.lt_or_le z (placeM first last (c + 1)) with h | h
      · exact h
      · have := (place_le (by omega) (by omega)).mp h; omega
    refine HS.has (st' := [(Str.ofString "first", .v (.int first)), (Str.ofString "last", .v (.int last)), (Str.ofString "factor", .v (.int fa)), (Str.ofString "number", .v (.int z)), (Str.ofString "count", .v (.int c))]) ?_ ⟨rfl, rfl, rfl, rfl, by rw [hce]; rfl, trivial⟩
    refine HS_cons (HX_unpack (HE_callD hfl ?_))
    (repeat (first | ((with_reducible show HS _ _ _ _); first | refine HS_cons ?_ | refine HS_nil ?_) | ((with_reducible show HX _ _ (Stmt.Return (some _) _) _); refine HX_ret ?_) | ((with_reducible show HX _ _ (Stmt.Return none _) _); refine HX_ret0 ?_) | ((with_reducible show HX _ _ (Stmt.Break _) _); refine HX_brk ?_) | ((with_reducible show HX _ _ (Stmt.If _ _ _ _) _); refine HX_if ?_) | ((with_reducible show HX _ _ (Stmt.Assign [Expr.Name _ _] _ _) _); refine HX_assign ?_) | ((with_reducible show HX _ _ (Stmt.Assign [Expr.Tuple _ _ _] _ _) _); refine HX_unpack ?_) | ((with_reducible show HX _ _ (Stmt.AugAssign (Expr.Name _ _) _ _ _) _); refine HX_aug rfl ?_) | ((with_reducible show HE _ _ (Expr.Name _ _) _); refine HE_name rfl ?_) | ((with_reducible show HE _ _ (Expr.Constant (Const.int _) _ _) _); refine HE_int ?_) | ((with_reducible show HE _ _ (Expr.Constant (Const.str _) _ _) _); refine HE_str ?_) | ((with_reducible show HE _ _ (Expr.Constant Const.none _ _) _); refine HE_none ?_) | ((with_reducible show HE _ _ (Expr.Constant (Const.bool _) _ _) _); refine HE_bool ?_) | ((with_reducible show HE _ _ (Expr.BinOp _ _ _ _) _); refine HE_bin ?_) | ((with_reducible show HE _ _ (Expr.UnaryOp _ _ _) _); refine HE_un ?_) | ((with_reducible show HE _ _ (Expr.Compare _ [_] [_] _) _); refine HE_cmp ?_) | ((with_reducible show HE _ _ (Expr.Tuple _ _ _) _); refine HE_tuple ?_) | ((with_reducible show HE _ _ (Expr.List _ _) _); refine HE_list ?_) | ((with_reducible show HE _ _ (Expr.IfExp _ _ _ _) _); refine HE_ifexp ?_) | ((with_reducible show HL _ _ _ _); first | refine HL_cons ?_ | refine HL_nil ?_) | ((with_reducible show HT _ _ (Expr.Compare _ [_] [_] _) _); refine HT_cmp ?_) | ((with_reducible show HT _ _ (Expr.UnaryOp UnaryOp.Not _ _) _); refine HT_not ?_) | ((with_reducible show HT _ _ (Expr.BoolOp _ _ _) _); refine HT_bool ?_) | ((with_reducible show HT _ _ (Expr.Name _ _) _); refine HT_val ?_) | ((with_reducible show HA _ _ _ _ _); first | refine HA_and ?_ | refine HA_or ?_ | refine HA_nil ?_) | ((with_reducible show HG _ _ (Expr.Name _ _) _ _); refine HG_name ?_) | ((with_reducible show HG _ _ (Expr.Tuple _ _ _) (AV.tup _) _); refine HG_tup ?_) | ((with_reducible show HGl _ _ _ _ _); first | refine HGl_cons ?_ | refine HGl_nil ?_) | ((with_reducible show Op2 _ _ (binaryOp Operator.Add) (AV.int _) (AV.int _) _); refine op_add ?_) | ((with_reducible show Op2 _ _ (binaryOp Operator.Sub) (AV.int _) (AV.int _) _); refine op_sub ?_) | ((with_reducible show Op2 _ _ (inplaceOp Operator.Add) (AV.int _) (AV.int _) _); refine op_iadd ?_) | ((with_reducible show Op2 _ _ (inplaceOp Operator.Sub) (AV.int _) (AV.int _) _); refine op_isub ?_) | ((with_reducible show Op1 _ _ _ (AV.int _) _); first | refine op_neg ?_ | refine op_inv ?_) | ((with_reducible show Op2 _ _ (compareOp _) (AV.int _) (AV.int _) _); first | refine op_eq ?_ | refine op_ne ?_ | refine op_lt ?_ | refine op_le ?_ | refine op_gt ?_ | refine op_ge ?_) | ((with_reducible show Truth _ (AV.bool _) _); refine truth_bool ?_) | ((with_reducible show Truth _ (AV.int _) _); refine truth_int ?_) | ((with_reducible show Truth _ AV.none _); refine truth_none ?_)))
    rw [hd]
    refine Call.room (Call.mono (place_ok hK H hfl (by omega) (by omega) (by omega) (by omega) hfac.1 hfac.2) ?_) (by decide)
    rintro _ rfl
    refine HG_tup (HGl_cons (HG_name (HGl_cons (HG_name (HGl_nil ?_)))))
    refine HS_cons (HX_unpack (HE_callD hfl ?_))
    (repeat (first | ((with_reducible show HS _ _ _ _); first | refine HS_cons ?_ | refine HS_nil ?_) | ((with_reducible show HX _ _ (Stmt.Return (some _) _) _); refine HX_ret ?_) | ((with_reducible show HX _ _ (Stmt.Return none _) _); refine HX_ret0 ?_) | ((with_reducible show HX _ _ (Stmt.Break _) _); refine HX_brk ?_) | ((with_reducible show HX _ _ (Stmt.If _ _ _ _) _); refine HX_if ?_) | ((with_reducible show HX _ _ (Stmt.Assign [Expr.Name _ _] _ _) _); refine HX_assign ?_) | ((with_reducible show HX _ _ (Stmt.Assign [Expr.Tuple _ _ _] _ _) _); refine HX_unpack ?_) | ((with_reducible show HX _ _ (Stmt.AugAssign (Expr.Name _ _) _ _ _) _); refine HX_aug rfl ?_) | ((with_reducible show HE _ _ (Expr.Name _ _) _); refine HE_name rfl ?_) | ((with_reducible show HE _ _ (Expr.Constant (Const.int _) _ _) _); refine HE_int ?_) | ((with_reducible show HE _ _ (Expr.Constant (Const.str _) _ _) _); refine HE_str ?_) | ((with_reducible show HE _ _ (Expr.Constant Const.none _ _) _); refine HE_none ?_) | ((with_reducible show HE _ _ (Expr.Constant (Const.bool _) _ _) _); refine HE_bool ?_) | ((with_reducible show HE _ _ (Expr.BinOp _ _ _ _) _); refine HE_bin ?_) | ((with_reducible show HE _ _ (Expr.UnaryOp _ _ _) _); refine HE_un ?_) | ((with_reducible show HE _ _ (Expr.Compare _ [_] [_] _) _); refine HE_cmp ?_) | ((with_reducible show HE _ _ (Expr.Tuple _ _ _) _); refine HE_tuple ?_) | ((with_reducible show HE _ _ (Expr.List _ _) _); refine HE_list ?_) | ((with_reducible show HE _ _ (Expr.IfExp _ _ _ _) _); refine HE_ifexp ?_) | ((with_reducible show HL _ _ _ _); first | refine HL_cons ?_ | refine HL_nil ?_) | ((with_reducible show HT _ _ (Expr.Compare _ [_] [_] _) _); refine HT_cmp ?_) | ((with_reducible show HT _ _ (Expr.UnaryOp UnaryOp.Not _ _) _); refine HT_not ?_) | ((with_reducible show HT _ _ (Expr.BoolOp _ _ _) _); refine HT_bool ?_) | ((with_reducible show HT _ _ (Expr.Name _ _) _); refine HT_val ?_) | ((with_reducible show HA _ _ _ _ _); first | refine HA_and ?_ | refine HA_or ?_ | refine HA_nil ?_) | ((with_reducible show HG _ _ (Expr.Name _ _) _ _); refine HG_name ?_) | ((with_reducible show HG _ _ (Expr.Tuple _ _ _) (AV.tup _) _); refine HG_tup ?_) | ((with_reducible show HGl _ _ _ _ _); first | refine HGl_cons ?_ | refine HGl_nil ?_) | ((with_reducible show Op2 _ _ (binaryOp Operator.Add) (AV.int _) (AV.int _) _); refine op_add ?_) | ((with_reducible show Op2 _ _ (binaryOp Operator.Sub) (AV.int _) (AV.int _) _); refine op_sub ?_) | ((with_reducible show Op2 _ _ (inplaceOp Operator.Add) (AV.int _) (AV.int _) _); refine op_iadd ?_) | ((with_reducible show Op2 _ _ (inplaceOp Operator.Sub) (AV.int _) (AV.int _) _); refine op_isub ?_) | ((with_reducible show Op1 _ _ _ (AV.int _) _); first | refine op_neg ?_ | refine op_inv ?_) | ((with_reducible show Op2 _ _ (compareOp _) (AV.int _) (AV.int _) _); first | refine op_eq ?_ | refine op_ne ?_ | refine op_lt ?_ | refine op_le ?_ | refine op_gt ?_ | refine op_ge ?_) | ((with_reducible show Truth _ (AV.bool _) _); refine truth_bool ?_) | ((with_reducible show Truth _ (AV.int _) _); refine truth_int ?_) | ((with_reducible show Truth _ AV.none _); refine truth_none ?_)))
    rw [hd]
    refine Call.room (Call.mono (place_ok hK H hfl (by omega) (by omega) (by omega) (by omega) hfac.1 hfac.2) ?_) (by decide)
    rintro _ rfl
    refine HG_tup (HGl_cons (HG_name (HGl_cons (HG_name (HGl_nil ?_)))))
    refine HS_cons (HX_ret (HE_and (HE_chain2 ?_)))
    (repeat (first | ((with_reducible show HS _ _ _ _); first | refine HS_cons ?_ | refine HS_nil ?_) | ((with_reducible show HX _ _ (Stmt.Return (some _) _) _); refine HX_ret ?_) | ((with_reducible show HX _ _ (Stmt.Return none _) _); refine HX_ret0 ?_) | ((with_reducible show HX _ _ (Stmt.Break _) _); refine HX_brk ?_) | ((with_reducible show HX _ _ (Stmt.If _ _ _ _) _); refine HX_if ?_) | ((with_reducible show HX _ _ (Stmt.Assign [Expr.Name _ _] _ _) _); refine HX_assign ?_) | ((with_reducible show HX _ _ (Stmt.Assign [Expr.Tuple _ _ _] _ _) _); refine HX_unpack ?_) | ((with_reducible show HX _ _ (Stmt.AugAssign (Expr.Name _ _) _ _ _) _); refine HX_aug rfl ?_) | ((with_reducible show HE _ _ (Expr.Name _ _) _); refine HE_name rfl ?_) | ((with_reducible show HE _ _ (Expr.Constant (Const.int _) _ _) _); refine HE_int ?_) | ((with_reducible show HE _ _ (Expr.Constant (Const.str _) _ _) _); refine HE_str ?_) | ((with_reducible show HE _ _ (Expr.Constant Const.none _ _) _); refine HE_none ?_) | ((with_reducible show HE _ _ (Expr.Constant (Const.bool _) _ _) _); refine HE_bool ?_) | ((with_reducible show HE _ _ (Expr.BinOp _ _ _ _) _); refine HE_bin ?_) | ((with_reducible show HE _ _ (Expr.UnaryOp _ _ _) _); refine HE_un ?_) | ((with_reducible show HE _ _ (Expr.Compare _ [_] [_] _) _); refine HE_cmp ?_) | ((with_reducible show HE _ _ (Expr.Tuple _ _ _) _); refine HE_tuple ?_) | ((with_reducible show HE _ _ (Expr.List _ _) _); refine HE_list ?_) | ((with_reducible show HE _ _ (Expr.IfExp _ _ _ _) _); refine HE_ifexp ?_) | ((with_reducible show HL _ _ _ _); first | refine HL_cons ?_ | refine HL_nil ?_) | ((with_reducible show HT _ _ (Expr.Compare _ [_] [_] _) _); refine HT_cmp ?_) | ((with_reducible show HT _ _ (Expr.UnaryOp UnaryOp.Not _ _) _); refine HT_not ?_) | ((with_reducible show HT _ _ (Expr.BoolOp _ _ _) _); refine HT_bool ?_) | ((with_reducible show HT _ _ (Expr.Name _ _) _); refine HT_val ?_) | ((with_reducible show HA _ _ _ _ _); first | refine HA_and ?_ | refine HA_or ?_ | refine HA_nil ?_) | ((with_reducible show HG _ _ (Expr.Name _ _) _ _); refine HG_name ?_) | ((with_reducible show HG _ _ (Expr.Tuple _ _ _) (AV.tup _) _); refine HG_tup ?_) | ((with_reducible show HGl _ _ _ _ _); first | refine HGl_cons ?_ | refine HGl_nil ?_) | ((with_reducible show Op2 _ _ (binaryOp Operator.Add) (AV.int _) (AV.int _) _); refine op_add ?_) | ((with_reducible show Op2 _ _ (binaryOp Operator.Sub) (AV.int _) (AV.int _) _); refine op_sub ?_) | ((with_reducible show Op2 _ _ (inplaceOp Operator.Add) (AV.int _) (AV.int _) _); refine op_iadd ?_) | ((with_reducible show Op2 _ _ (inplaceOp Operator.Sub) (AV.int _) (AV.int _) _); refine op_isub ?_) | ((with_reducible show Op1 _ _ _ (AV.int _) _); first | refine op_neg ?_ | refine op_inv ?_) | ((with_reducible show Op2 _ _ (compareOp _) (AV.int _) (AV.int _) _); first | refine op_eq ?_ | refine op_ne ?_ | refine op_lt ?_ | refine op_le ?_ | refine op_gt ?_ | refine op_ge ?_) | ((with_reducible show Truth _ (AV.bool _) _); refine truth_bool ?_) | ((with_reducible show Truth _ (AV.int _) _); refine truth_int ?_) | ((with_reducible show Truth _ AV.none _); refine truth_none ?_)))
    rw [decide_eq_true k1]
    show HE _ _ _ _
    (repeat (first | ((with_reducible show HS _ _ _ _); first | refine HS_cons ?_ | refine HS_nil ?_) | ((with_reducible show HX _ _ (Stmt.Return (some _) _) _); refine HX_ret ?_) | ((with_reducible show HX _ _ (Stmt.Return none _) _); refine HX_ret0 ?_) | ((with_reducible show HX _ _ (Stmt.Break _) _); refine HX_brk ?_) | ((with_reducible show HX _ _ (Stmt.If _ _ _ _) _); refine HX_if ?_) | ((with_reducible show HX _ _ (Stmt.Assign [Expr.Name _ _] _ _) _); refine HX_assign ?_) | ((with_reducible show HX _ _ (Stmt.Assign [Expr.Tuple _ _ _] _ _) _); refine HX_unpack ?_) | ((with_reducible show HX _ _ (Stmt.AugAssign (Expr.Name _ _) _ _ _) _); refine HX_aug rfl ?_) | ((with_reducible show HE _ _ (Expr.Name _ _) _); refine HE_name rfl ?_) | ((with_reducible show HE _ _ (Expr.Constant (Const.int _) _ _) _); refine HE_int ?_) | ((with_reducible show HE _ _ (Expr.Constant (Const.str _) _ _) _); refine HE_str ?_) | ((with_reducible show HE _ _ (Expr.Constant Const.none _ _) _); refine HE_none ?_) | ((with_reducible show HE _ _ (Expr.Constant (Const.bool _) _ _) _); refine HE_bool ?_) | ((with_reducible show HE _ _ (Expr.BinOp _ _ _ _) _); refine HE_bin ?_) | ((with_reducible show HE _ _ (Expr.UnaryOp _ _ _) _); refine HE_un ?_) | ((with_reducible show HE _ _ (Expr.Compare _ [_] [_] _) _); refine HE_cmp ?_) | ((with_reducible show HE _ _ (Expr.Tuple _ _ _) _); refine HE_tuple ?_) | ((with_reducible show HE _ _ (Expr.List _ _) _); refine HE_list ?_) | ((with_reducible show HE _ _ (Expr.IfExp _ _ _ _) _); refine HE_ifexp ?_) | ((with_reducible show HL _ _ _ _); first | refine HL_cons ?_ | refine HL_nil ?_) | ((with_reducible show HT _ _ (Expr.Compare _ [_] [_] _) _); refine HT_cmp ?_) | ((with_reducible show HT _ _ (Expr.UnaryOp UnaryOp.Not _ _) _); refine HT_not ?_) | ((with_reducible show HT _ _ (Expr.BoolOp _ _ _) _); refine HT_bool ?_) | ((with_reducible show HT _ _ (Expr.Name _ _) _); refine HT_val ?_) | ((with_reducible show HA _ _ _ _ _); first | refine HA_and ?_ | refine HA_or ?_ | refine HA_nil ?_) | ((with_reducible show HG _ _ (Expr.Name _ _) _ _); refine HG_name ?_) | ((with_reducible show HG _ _ (Expr.Tuple _ _ _) (AV.tup _) _); refine HG_tup ?_) | ((with_reducible show HGl _ _ _ _ _); first | refine HGl_cons ?_ | refine HGl_nil ?_) | ((with_reducible show Op2 _ _ (binaryOp Operator.Add) (AV.int _) (AV.int _) _); refine op_add ?_) | ((with_reducible show Op2 _ _ (binaryOp Operator.Sub) (AV.int _) (AV.int _) _); refine op_sub ?_) | ((with_reducible show Op2 _ _ (inplaceOp Operator.Add) (AV.int _) (AV.int _) _); refine op_iadd ?_) | ((with_reducible show Op2 _ _ (inplaceOp Operator.Sub) (AV.int _) (AV.int _) _); refine op_isub ?_) | ((with_reducible show Op1 _ _ _ (AV.int _) _); first | refine op_neg ?_ | refine op_inv ?_) | ((with_reducible show Op2 _ _ (compareOp _) (AV.int _) (AV.int _) _); first | refine op_eq ?_ | refine op_ne ?_ | refine op_lt ?_ | refine op_le ?_ | refine op_gt ?_ | refine op_ge ?_) | ((with_reducible show Truth _ (AV.bool _) _); refine truth_bool ?_) | ((with_reducible show Truth _ (AV.int _) _); refine truth_int ?_) | ((with_reducible show Truth _ AV.none _); refine truth_none ?_)))
    rw [decide_eq_true k2]
    show HE _ _ _ _
    refine HE_and ?_
    (repeat (first | ((with_reducible show HS _ _ _ _); first | refine HS_cons ?_ | refine HS_nil ?_) | ((with_reducible show HX _ _ (Stmt.Return (some _) _) _); refine HX_ret ?_) | ((with_reducible show HX _ _ (Stmt.Return none _) _); refine HX_ret0 ?_) | ((with_reducible show HX _ _ (Stmt.Break _) _); refine HX_brk ?_) | ((with_reducible show HX _ _ (Stmt.If _ _ _ _) _); refine HX_if ?_) | ((with_reducible show HX _ _ (Stmt.Assign [Expr.Name _ _] _ _) _); refine HX_assign ?_) | ((with_reducible show HX _ _ (Stmt.Assign [Expr.Tuple _ _ _] _ _) _); refine HX_unpack ?_) | ((with_reducible show HX _ _ (Stmt.AugAssign (Expr.Name _ _) _ _ _) _); refine HX_aug rfl ?_) | ((with_reducible show HE _ _ (Expr.Name _ _) _); refine HE_name rfl ?_) | ((with_reducible show HE _ _ (Expr.Constant (Const.int _) _ _) _); refine HE_int ?_) | ((with_reducible show HE _ _ (Expr.Constant (Const.str _) _ _) _); refine HE_str ?_) | ((with_reducible show HE _ _ (Expr.Constant Const.none _ _) _); refine HE_none ?_) | ((with_reducible show HE _ _ (Expr.Constant (Const.bool _) _ _) _); refine HE_bool ?_) | ((with_reducible show HE _ _ (Expr.BinOp _ _ _ _) _); refine HE_bin ?_) | ((with_reducible show HE _ _ (Expr.UnaryOp _ _ _) _); refine HE_un ?_) | ((with_reducible show HE _ _ (Expr.Compare _ [_] [_] _) _); refine HE_cmp ?_) | ((with_reducible show HE _ _ (Expr.Tuple _ _ _) _); refine HE_tuple ?_) | ((with_reducible show HE _ _ (Expr.List _ _) _); refine HE_list ?_) | ((with_reducible show HE _ _ (Expr.IfExp _ _ _ _) _); refine HE_ifexp ?_) | ((with_reducible show HL _ _ _ _); first | refine HL_cons ?_ | refine HL_nil ?_) | ((with_reducible show HT _ _ (Expr.Compare _ [_] [_] _) _); refine HT_cmp ?_) | ((with_reducible show HT _ _ (Expr.UnaryOp UnaryOp.Not _ _) _); refine HT_not ?_) | ((with_reducible show HT _ _ (Expr.BoolOp _ _ _) _); refine HT_bool ?_) | ((with_reducible show HT _ _ (Expr.Name _ _) _); refine HT_val ?_) | ((with_reducible show HA _ _ _ _ _); first | refine HA_and ?_ | refine HA_or ?_ | refine HA_nil ?_) | ((with_reducible show HG _ _ (Expr.Name _ _) _ _); refine HG_name ?_) | ((with_reducible show HG _ _ (Expr.Tuple _ _ _) (AV.tup _) _); refine HG_tup ?_) | ((with_reducible show HGl _ _ _ _ _); first | refine HGl_cons ?_ | refine HGl_nil ?_) | ((with_reducible show Op2 _ _ (binaryOp Operator.Add) (AV.int _) (AV.int _) _); refine op_add ?_) | ((with_reducible show Op2 _ _ (binaryOp Operator.Sub) (AV.int _) (AV.int _) _); refine op_sub ?_) | ((with_reducible show Op2 _ _ (inplaceOp Operator.Add) (AV.int _) (AV.int _) _); refine op_iadd ?_) | ((with_reducible show Op2 _ _ (inplaceOp Operator.Sub) (AV.int _) (AV.int _) _); refine op_isub ?_) | ((with_reducible show Op1 _ _ _ (AV.int _) _); first | refine op_neg ?_ | refine op_inv ?_) | ((with_reducible show Op2 _ _ (compareOp _) (AV.int _) (AV.int _) _); first | refine op_eq ?_ | refine op_ne ?_ | refine op_lt ?_ | refine op_le ?_ | refine op_gt ?_ | refine op_ge ?_) | ((with_reducible show Truth _ (AV.bool _) _); refine truth_bool ?_) | ((with_reducible show Truth _ (AV.int _) _); refine truth_int ?_) | ((with_reducible show Truth _ AV.none _); refine truth_none ?_)))
    show HE _ _ _ _
    refine HE_and1 ?_
    (repeat (first | ((with_reducible show HS _ _ _ _); first | refine HS_cons ?_ | refine HS_nil ?_) | ((with_reducible show HX _ _ (Stmt.Return (some _) _) _); refine HX_ret ?_) | ((with_reducible show HX _ _ (Stmt.Return none _) _); refine HX_ret0 ?_) | ((with_reducible show HX _ _ (Stmt.Break _) _); refine HX_brk ?_) | ((with_reducible show HX _ _ (Stmt.If _ _ _ _) _); refine HX_if ?_) | ((with_reducible show HX _ _ (Stmt.Assign [Expr.Name _ _] _ _) _); refine HX_assign ?_) | ((with_reducible show HX _ _ (Stmt.Assign [Expr.Tuple _ _ _] _ _) _); refine HX_unpack ?_) | ((with_reducible show HX _ _ (Stmt.AugAssign (Expr.Name _ _) _ _ _) _); refine HX_aug rfl ?_) | ((with_reducible show HE _ _ (Expr.Name _ _) _); refine HE_name rfl ?_) | ((with_reducible show HE _ _ (Expr.Constant (Const.int _) _ _) _); refine HE_int ?_) | ((with_reducible show HE _ _ (Expr.Constant (Const.str _) _ _) _); refine HE_str ?_) | ((with_reducible show HE _ _ (Expr.Constant Const.none _ _) _); refine HE_none ?_) | ((with_reducible show HE _ _ (Expr.Constant (Const.bool _) _ _) _); refine HE_bool ?_) | ((with_reducible show HE _ _ (Expr.BinOp _ _ _ _) _); refine HE_bin ?_) | ((with_reducible show HE _ _ (Expr.UnaryOp _ _ _) _); refine HE_un ?_) | ((with_reducible show HE _ _ (Expr.Compare _ [_] [_] _) _); refine HE_cmp ?_) | ((with_reducible show HE _ _ (Expr.Tuple _ _ _) _); refine HE_tuple ?_) | ((with_reducible show HE _ _ (Expr.List _ _) _); refine HE_list ?_) | ((with_reducible show HE _ _ (Expr.IfExp _ _ _ _) _); refine HE_ifexp ?_) | ((with_reducible show HL _ _ _ _); first | refine HL_cons ?_ | refine HL_nil ?_) | ((with_reducible show HT _ _ (Expr.Compare _ [_] [_] _) _); refine HT_cmp ?_) | ((with_reducible show HT _ _ (Expr.UnaryOp UnaryOp.Not _ _) _); refine HT_not ?_) | ((with_reducible show HT _ _ (Expr.BoolOp _ _ _) _); refine HT_bool ?_) | ((with_reducible show HT _ _ (Expr.Name _ _) _); refine HT_val ?_) | ((with_reducible show HA _ _ _ _ _); first | refine HA_and ?_ | refine HA_or ?_ | refine HA_nil ?_) | ((with_reducible show HG _ _ (Expr.Name _ _) _ _); refine HG_name ?_) | ((with_reducible show HG _ _ (Expr.Tuple _ _ _) (AV.tup _) _); refine HG_tup ?_) | ((with_reducible show HGl _ _ _ _ _); first | refine HGl_cons ?_ | refine HGl_nil ?_) | ((with_reducible show Op2 _ _ (binaryOp Operator.Add) (AV.int _) (AV.int _) _); refine op_add ?_) | ((with_reducible show Op2 _ _ (binaryOp Operator.Sub) (AV.int _) (AV.int _) _); refine op_sub ?_) | ((with_reducible show Op2 _ _ (inplaceOp Operator.Add) (AV.int _) (AV.int _) _); refine op_iadd ?_) | ((with_reducible show Op2 _ _ (inplaceOp Operator.Sub) (AV.int _) (AV.int _) _); refine op_isub ?_) | ((with_reducible show Op1 _ _ _ (AV.int _) _); first | refine op_neg ?_ | refine op_inv ?_) | ((with_reducible show Op2 _ _ (compareOp _) (AV.int _) (AV.int _) _); first | refine op_eq ?_ | refine op_ne ?_ | refine op_lt ?_ | refine op_le ?_ | refine op_gt ?_ | refine op_ge ?_) | ((with_reducible show Truth _ (AV.bool _) _); refine truth_bool ?_) | ((with_reducible show Truth _ (AV.int _) _); refine truth_int ?_) | ((with_reducible show Truth _ AV.none _); refine truth_none ?_)))
    rfl
  refine HS_cons (HX_forI (HE_callB hrange (fun _ q => nomatch q) ?_))
  (repeat (first | ((with_reducible show HS _ _ _ _); first | refine HS_cons ?_ | refine HS_nil ?_) | ((with_reducible show HX _ _ (Stmt.Return (some _) _) _); refine HX_ret ?_) | ((with_reducible show HX _ _ (Stmt.Return none _) _); refine HX_ret0 ?_) | ((with_reducible show HX _ _ (Stmt.Break _) _); refine HX_brk ?_) | ((with_reducible show HX _ _ (Stmt.If _ _ _ _) _); refine HX_if ?_) | ((with_reducible show HX _ _ (Stmt.Assign [Expr.Name _ _] _ _) _); refine HX_assign ?_) | ((with_reducible show HX _ _ (Stmt.Assign [Expr.Tuple _ _ _] _ _) _); refine HX_unpack ?_) | ((with_reducible show HX _ _ (Stmt.AugAssign (Expr.Name _ _) _ _ _) _); refine HX_aug rfl ?_) | ((with_reducible show HE _ _ (Expr.Name _ _) _); refine HE_name rfl ?_) | ((with_reducible show HE _ _ (Expr.Constant (Const.int _) _ _) _); refine HE_int ?_) | ((with_reducible show HE _ _ (Expr.Constant (Const.str _) _ _) _); refine HE_str ?_) | ((with_reducible show HE _ _ (Expr.Constant Const.none _ _) _); refine HE_none ?_) | ((with_reducible show HE _ _ (Expr.Constant (Const.bool _) _ _) _); refine HE_bool ?_) | ((with_reducible show HE _ _ (Expr.BinOp _ _ _ _) _); refine HE_bin ?_) | ((with_reducible show HE _ _ (Expr.UnaryOp _ _ _) _); refine HE_un ?_) | ((with_reducible show HE _ _ (Expr.Compare _ [_] [_] _) _); refine HE_cmp ?_) | ((with_reducible show HE _ _ (Expr.Tuple _ _ _) _); refine HE_tuple ?_) | ((with_reducible show HE _ _ (Expr.List _ _) _); refine HE_list ?_) | ((with_reducible show HE _ _ (Expr.IfExp _ _ _ _) _); refine HE_ifexp ?_) | ((with_reducible show HL _ _ _ _); first | refine HL_cons ?_ | refine HL_nil ?_) | ((with_reducible show HT _ _ (Expr.Compare _ [_] [_] _) _); refine HT_cmp ?_) | ((with_reducible show HT _ _ (Expr.UnaryOp UnaryOp.Not _ _) _); refine HT_not ?_) | ((with_reducible show HT _ _ (Expr.BoolOp _ _ _) _); refine HT_bool ?_) | ((with_reducible show HT _ _ (Expr.Name _ _) _); refine HT_val ?_) | ((with_reducible show HA _ _ _ _ _); first | refine HA_and ?_ | refine HA_or ?_ | refine HA_nil ?_) | ((with_reducible show HG _ _ (Expr.Name _ _) _ _); refine HG_name ?_) | ((with_reducible show HG _ _ (Expr.Tuple _ _ _) (AV.tup _) _); refine HG_tup ?_) | ((with_reducible show HGl _ _ _ _ _); first | refine HGl_cons ?_ | refine HGl_nil ?_) | ((with_reducible show Op2 _ _ (binaryOp Operator.Add) (AV.int _) (AV.int _) _); refine op_add ?_) | ((with_reducible show Op2 _ _ (binaryOp Operator.Sub) (AV.int _) (AV.int _) _); refine op_sub ?_) | ((with_reducible show Op2 _ _ (inplaceOp Operator.Add) (AV.int _) (AV.int _) _); refine op_iadd ?_) | ((with_reducible show Op2 _ _ (inplaceOp Operator.Sub) (AV.int _) (AV.int _) _); refine op_isub ?_) | ((with_reducible show Op1 _ _ _ (AV.int _) _); first | refine op_neg ?_ | refine op_inv ?_) | ((with_reducible show Op2 _ _ (compareOp _) (AV.int _) (AV.int _) _); first | refine op_eq ?_ | refine op_ne ?_ | refine op_lt ?_ | refine op_le ?_ | refine op_gt ?_ | refine op_ge ?_) | ((with_reducible show Truth _ (AV.bool _) _); refine truth_bool ?_) | ((with_reducible show Truth _ (AV.int _) _); refine truth_int ?_) | ((with_reducible show Truth _ AV.none _); refine truth_none ?_)))
  refine HE_callB hlen (fun _ q => nomatch q) (HL_cons (HE_name rfl (HL_nil (op_len_str (by rw [tx_length]; omega) ?_))))
  rw [tx_length, hll]
  (repeat (first | ((with_reducible show HS _ _ _ _); first | refine HS_cons ?_ | refine HS_nil ?_) | ((with_reducible show HX _ _ (Stmt.Return (some _) _) _); refine HX_ret ?_) | ((with_reducible show HX _ _ (Stmt.Return none _) _); refine HX_ret0 ?_) | ((with_reducible show HX _ _ (Stmt.Break _) _); refine HX_brk ?_) | ((with_reducible show HX _ _ (Stmt.If _ _ _ _) _); refine HX_if ?_) | ((with_reducible show HX _ _ (Stmt.Assign [Expr.Name _ _] _ _) _); refine HX_assign ?_) | ((with_reducible show HX _ _ (Stmt.Assign [Expr.Tuple _ _ _] _ _) _); refine HX_unpack ?_) | ((with_reducible show HX _ _ (Stmt.AugAssign (Expr.Name _ _) _ _ _) _); refine HX_aug rfl ?_) | ((with_reducible show HE _ _ (Expr.Name _ _) _); refine HE_name rfl ?_) | ((with_reducible show HE _ _ (Expr.Constant (Const.int _) _ _) _); refine HE_int ?_) | ((with_reducible show HE _ _ (Expr.Constant (Const.str _) _ _) _); refine HE_str ?_) | ((with_reducible show HE _ _ (Expr.Constant Const.none _ _) _); refine HE_none ?_) | ((with_reducible show HE _ _ (Expr.Constant (Const.bool _) _ _) _); refine HE_bool ?_) | ((with_reducible show HE _ _ (Expr.BinOp _ _ _ _) _); refine HE_bin ?_) | ((with_reducible show HE _ _ (Expr.UnaryOp _ _ _) _); refine HE_un ?_) | ((with_reducible show HE _ _ (Expr.Compare _ [_] [_] _) _); refine HE_cmp ?_) | ((with_reducible show HE _ _ (Expr.Tuple _ _ _) _); refine HE_tuple ?_) | ((with_reducible show HE _ _ (Expr.List _ _) _); refine HE_list ?_) | ((with_reducible show HE _ _ (Expr.IfExp _ _ _ _) _); refine HE_ifexp ?_) | ((with_reducible show HL _ _ _ _); first | refine HL_cons ?_ | refine HL_nil ?_) | ((with_reducible show HT _ _ (Expr.Compare _ [_] [_] _) _); refine HT_cmp ?_) | ((with_reducible show HT _ _ (Expr.UnaryOp UnaryOp.Not _ _) _); refine HT_not ?_) | ((with_reducible show HT _ _ (Expr.BoolOp _ _ _) _); refine HT_bool ?_) | ((with_reducible show HT _ _ (Expr.Name _ _) _); refine HT_val ?_) | ((with_reducible show HA _ _ _ _ _); first | refine HA_and ?_ | refine HA_or ?_ | refine HA_nil ?_) | ((with_reducible show HG _ _ (Expr.Name _ _) _ _); refine HG_name ?_) | ((with_reducible show HG _ _ (Expr.Tuple _ _ _) (AV.tup _) _); refine HG_tup ?_) | ((with_reducible show HGl _ _ _ _ _); first | refine HGl_cons ?_ | refine HGl_nil ?_) | ((with_reducible show Op2 _ _ (binaryOp Operator.Add) (AV.int _) (AV.int _) _); refine op_add ?_) | ((with_reducible show Op2 _ _ (binaryOp Operator.Sub) (AV.int _) (AV.int _) _); refine op_sub ?_) | ((with_reducible show Op2 _ _ (inplaceOp Operator.Add) (AV.int _) (AV.int _) _); refine op_iadd ?_) | ((with_reducible show Op2 _ _ (inplaceOp Operator.Sub) (AV.int _) (AV.int _) _); refine op_isub ?_) | ((with_reducible show Op1 _ _ _ (AV.int _) _); first | refine op_neg ?_ | refine op_inv ?_) | ((with_reducible show Op2 _ _ (compareOp _) (AV.int _) (AV.int _) _); first | refine op_eq ?_ | refine op_ne ?_ | refine op_lt ?_ | refine op_le ?_ | refine op_gt ?_ | refine op_ge ?_) | ((with_reducible show Truth _ (AV.bool _) _); refine truth_bool ?_) | ((with_reducible show Truth _ (AV.int _) _); refine truth_int ?_) | ((with_reducible show Truth _ AV.none _); refine truth_none ?_)))
  refine op_range2 ?_
  refine ⟨_, it_up (by omega) (by omega) (by omega) (by omega), fun i => [(Str.ofString "script", .v (.obj (scriptP ns))), (Str.ofString "first", .v (.int first)), (Str.ofString "last", .v (.int last)), (Str.ofString "factor", .v (.int fa)), (Str.ofString "signs", .v (.str (tx l))), (Str.ofString "left", .v (.str (tx D))), (Str.ofString "due", .v (.str (tx (accN first last l i))))], fun i => D = dueF first last l (k0 - i) i, ⟨hD, rfl, rfl, rfl, rfl, rfl, rfl, rfl, trivial⟩, ?_, ?_⟩
  · intro i x hx hI
    obtain ⟨hi, rfl⟩ := rangeL_get hx
    have hi : i < k0 := by omega
    obtain ⟨p, hp⟩ : ∃ p, p = placeM first last ((i : Int) + 1) := ⟨_, rfl⟩
    have hp1 := hpos i hi
    rw [← hp] at hp1
    refine HG_name ?_
    refine HS_cons (HX_unpack (HE_callD hfl (HL_cons (HE_name rfl (HL_cons (HE_name rfl (HL_cons (HE_name rfl (HL_cons (HE_name rfl (HL_nil ?_)))))))))))
    rw [hd]
    refine Call.room (Call.mono (place_ok hK H hfl (by omega) (by omega) (by omega) (by omega) hfac.1 hfac.2) ?_) (by decide)
    rintro _ rfl
    rw [show placeM first last (1 + (i : Int) * 1) = p by rw [hp]; congr 1; omega]
    refine HG_tup (HGl_cons (HG_name (HGl_cons (HG_name (HGl_nil ?_)))))
    (repeat (first | ((with_reducible show HS _ _ _ _); first | refine HS_cons ?_ | refine HS_nil ?_) | ((with_reducible show HX _ _ (Stmt.Return (some _) _) _); refine HX_ret ?_) | ((with_reducible show HX _ _ (Stmt.Return none _) _); refine HX_ret0 ?_) | ((with_reducible show HX _ _ (Stmt.Break _) _); refine HX_brk ?_) | ((with_reducible show HX _ _ (Stmt.If _ _ _ _) _); refine HX_if ?_) | ((with_reducible show HX _ _ (Stmt.Assign [Expr.Name _ _] _ _) _); refine HX_assign ?_) | ((with_reducible show HX _ _ (Stmt.Assign [Expr.Tuple _ _ _] _ _) _); refine HX_unpack ?_) | ((with_reducible show HX _ _ (Stmt.AugAssign (Expr.Name _ _) _ _ _) _); refine HX_aug rfl ?_) | ((with_reducible show HE _ _ (Expr.Name _ _) _); refine HE_name rfl ?_) | ((with_reducible show HE _ _ (Expr.Constant (Const.int _) _ _) _); refine HE_int ?_) | ((with_reducible show HE _ _ (Expr.Constant (Const.str _) _ _) _); refine HE_str ?_) | ((with_reducible show HE _ _ (Expr.Constant Const.none _ _) _); refine HE_none ?_) | ((with_reducible show HE _ _ (Expr.Constant (Const.bool _) _ _) _); refine HE_bool ?_) | ((with_reducible show HE _ _ (Expr.BinOp _ _ _ _) _); refine HE_bin ?_) | ((with_reducible show HE _ _ (Expr.UnaryOp _ _ _) _); refine HE_un ?_) | ((with_reducible show HE _ _ (Expr.Compare _ [_] [_] _) _); refine HE_cmp ?_) | ((with_reducible show HE _ _ (Expr.Tuple _ _ _) _); refine HE_tuple ?_) | ((with_reducible show HE _ _ (Expr.List _ _) _); refine HE_list ?_) | ((with_reducible show HE _ _ (Expr.IfExp _ _ _ _) _); refine HE_ifexp ?_) | ((with_reducible show HL _ _ _ _); first | refine HL_cons ?_ | refine HL_nil ?_) | ((with_reducible show HT _ _ (Expr.Compare _ [_] [_] _) _); refine HT_cmp ?_) | ((with_reducible show HT _ _ (Expr.UnaryOp UnaryOp.Not _ _) _); refine HT_not ?_) | ((with_reducible show HT _ _ (Expr.BoolOp _ _ _) _); refine HT_bool ?_) | ((with_reducible show HT _ _ (Expr.Name _ _) _); refine HT_val ?_) | ((with_reducible show HA _ _ _ _ _); first | refine HA_and ?_ | refine HA_or ?_ | refine HA_nil ?_) | ((with_reducible show HG _ _ (Expr.Name _ _) _ _); refine HG_name ?_) | ((with_reducible show HG _ _ (Expr.Tuple _ _ _) (AV.tup _) _); refine HG_tup ?_) | ((with_reducible show HGl _ _ _ _ _); first | refine HGl_cons ?_ | refine HGl_nil ?_) | ((with_reducible show Op2 _ _ (binaryOp Operator.Add) (AV.int _) (AV.int _) _); refine op_add ?_) | ((with_reducible show Op2 _ _ (binaryOp Operator.Sub) (AV.int _) (AV.int _) _); refine op_sub ?_) | ((with_reducible show Op2 _ _ (inplaceOp Operator.Add) (AV.int _) (AV.int _) _); refine op_iadd ?_) | ((with_reducible show Op2 _ _ (inplaceOp Operator.Sub) (AV.int _) (AV.int _) _); refine op_isub ?_) | ((with_reducible show Op1 _ _ _ (AV.int _) _); first | refine op_neg ?_ | refine op_inv ?_) | ((with_reducible show Op2 _ _ (compareOp _) (AV.int _) (AV.int _) _); first | refine op_eq ?_ | refine op_ne ?_ | refine op_lt ?_ | refine op_le ?_ | refine op_gt ?_ | refine op_ge ?_) | ((with_reducible show Truth _ (AV.bool _) _); refine truth_bool ?_) | ((with_reducible show Truth _ (AV.int _) _); refine truth_int ?_) | ((with_reducible show Truth _ AV.none _); refine truth_none ?_)))
    rw [show decide (p < 1) = false by simp; omega]
    refine HA_or ?_
    (repeat (first | ((with_reducible show HS _ _ _ _); first | refine HS_cons ?_ | refine HS_nil ?_) | ((with_reducible show HX _ _ (Stmt.Return (some _) _) _); refine HX_ret ?_) | ((with_reducible show HX _ _ (Stmt.Return none _) _); refine HX_ret0 ?_) | ((with_reducible show HX _ _ (Stmt.Break _) _); refine HX_brk ?_) | ((with_reducible show HX _ _ (Stmt.If _ _ _ _) _); refine HX_if ?_) | ((with_reducible show HX _ _ (Stmt.Assign [Expr.Name _ _] _ _) _); refine HX_assign ?_) | ((with_reducible show HX _ _ (Stmt.Assign [Expr.Tuple _ _ _] _ _) _); refine HX_unpack ?_) | ((with_reducible show HX _ _ (Stmt.AugAssign (Expr.Name _ _) _ _ _) _); refine HX_aug rfl ?_) | ((with_reducible show HE _ _ (Expr.Name _ _) _); refine HE_name rfl ?_) | ((with_reducible show HE _ _ (Expr.Constant (Const.int _) _ _) _); refine HE_int ?_) | ((with_reducible show HE _ _ (Expr.Constant (Const.str _) _ _) _); refine HE_str ?_) | ((with_reducible show HE _ _ (Expr.Constant Const.none _ _) _); refine HE_none ?_) | ((with_reducible show HE _ _ (Expr.Constant (Const.bool _) _ _) _); refine HE_bool ?_) | ((with_reducible show HE _ _ (Expr.BinOp _ _ _ _) _); refine HE_bin ?_) | ((with_reducible show HE _ _ (Expr.UnaryOp _ _ _) _); refine HE_un ?_) | ((with_reducible show HE _ _ (Expr.Compare _ [_] [_] _) _); refine HE_cmp ?_) | ((with_reducible show HE _ _ (Expr.Tuple _ _ _) _); refine HE_tuple ?_) | ((with_reducible show HE _ _ (Expr.List _ _) _); refine HE_list ?_) | ((with_reducible show HE _ _ (Expr.IfExp _ _ _ _) _); refine HE_ifexp ?_) | ((with_reducible show HL _ _ _ _); first | refine HL_cons ?_ | refine HL_nil ?_) | ((with_reducible show HT _ _ (Expr.Compare _ [_] [_] _) _); refine HT_cmp ?_) | ((with_reducible show HT _ _ (Expr.UnaryOp UnaryOp.Not _ _) _); refine HT_not ?_) | ((with_reducible show HT _ _ (Expr.BoolOp _ _ _) _); refine HT_bool ?_) | ((with_reducible show HT _ _ (Expr.Name _ _) _); refine HT_val ?_) | ((with_reducible show HA _ _ _ _ _); first | refine HA_and ?_ | refine HA_or ?_ | refine HA_nil ?_) | ((with_reducible show HG _ _ (Expr.Name _ _) _ _); refine HG_name ?_) | ((with_reducible show HG _ _ (Expr.Tuple _ _ _) (AV.tup _) _); refine HG_tup ?_) | ((with_reducible show HGl _ _ _ _ _); first | refine HGl_cons ?_ | refine HGl_nil ?_) | ((with_reducible show Op2 _ _ (binaryOp Operator.Add) (AV.int _) (AV.int _) _); refine op_add ?_) | ((with_reducible show Op2 _ _ (binaryOp Operator.Sub) (AV.int _) (AV.int _) _); refine op_sub ?_) | ((with_reducible show Op2 _ _ (inplaceOp Operator.Add) (AV.int _) (AV.int _) _); refine op_iadd ?_) | ((with_reducible show Op2 _ _ (inplaceOp Operator.Sub) (AV.int _) (AV.int _) _); refine op_isub ?_) | ((with_reducible show Op1 _ _ _ (AV.int _) _); first | refine op_neg ?_ | refine op_inv ?_) | ((with_reducible show Op2 _ _ (compareOp _) (AV.int _) (AV.int _) _); first | refine op_eq ?_ | refine op_ne ?_ | refine op_lt ?_ | refine op_le ?_ | refine op_gt ?_ | refine op_ge ?_) | ((with_reducible show Truth _ (AV.bool _) _); refine truth_bool ?_) | ((with_reducible show Truth _ (AV.int _) _); refine truth_int ?_) | ((with_reducible show Truth _ AV.none _); refine truth_none ?_)))
    refine HA_nil ?_
    refine HS_nil ?_
    refine HS_cons (HX_if (HT_cmp (HE_name rfl (HE_callB hlen (fun _ q => nomatch q) (HL_cons (HE_name rfl (HL_nil (op_len_str (by rw [tx_length]; omega) ?_))))))))
    rw [tx_length, hll]
    (repeat (first | ((with_reducible show HS _ _ _ _); first | refine HS_cons ?_ | refine HS_nil ?_) | ((with_reducible show HX _ _ (Stmt.Return (some _) _) _); refine HX_ret ?_) | ((with_reducible show HX _ _ (Stmt.Return none _) _); refine HX_ret0 ?_) | ((with_reducible show HX _ _ (Stmt.Break _) _); refine HX_brk ?_) | ((with_reducible show HX _ _ (Stmt.If _ _ _ _) _); refine HX_if ?_) | ((with_reducible show HX _ _ (Stmt.Assign [Expr.Name _ _] _ _) _); refine HX_assign ?_) | ((with_reducible show HX _ _ (Stmt.Assign [Expr.Tuple _ _ _] _ _) _); refine HX_unpack ?_) | ((with_reducible show HX _ _ (Stmt.AugAssign (Expr.Name _ _) _ _ _) _); refine HX_aug rfl ?_) | ((with_reducible show HE _ _ (Expr.Name _ _) _); refine HE_name rfl ?_) | ((with_reducible show HE _ _ (Expr.Constant (Const.int _) _ _) _); refine HE_int ?_) | ((with_reducible show HE _ _ (Expr.Constant (Const.str _) _ _) _); refine HE_str ?_) | ((with_reducible show HE _ _ (Expr.Constant Const.none _ _) _); refine HE_none ?_) | ((with_reducible show HE _ _ (Expr.Constant (Const.bool _) _ _) _); refine HE_bool ?_) | ((with_reducible show HE _ _ (Expr.BinOp _ _ _ _) _); refine HE_bin ?_) | ((with_reducible show HE _ _ (Expr.UnaryOp _ _ _) _); refine HE_un ?_) | ((with_reducible show HE _ _ (Expr.Compare _ [_] [_] _) _); refine HE_cmp ?_) | ((with_reducible show HE _ _ (Expr.Tuple _ _ _) _); refine HE_tuple ?_) | ((with_reducible show HE _ _ (Expr.List _ _) _); refine HE_list ?_) | ((with_reducible show HE _ _ (Expr.IfExp _ _ _ _) _); refine HE_ifexp ?_) | ((with_reducible show HL _ _ _ _); first | refine HL_cons ?_ | refine HL_nil ?_) | ((with_reducible show HT _ _ (Expr.Compare _ [_] [_] _) _); refine HT_cmp ?_) | ((with_reducible show HT _ _ (Expr.UnaryOp UnaryOp.Not _ _) _); refine HT_not ?_) | ((with_reducible show HT _ _ (Expr.BoolOp _ _ _) _); refine HT_bool ?_) | ((with_reducible show HT _ _ (Expr.Name _ _) _); refine HT_val ?_) | ((with_reducible show HA _ _ _ _ _); first | refine HA_and ?_ | refine HA_or ?_ | refine HA_nil ?_) | ((with_reducible show HG _ _ (Expr.Name _ _) _ _); refine HG_name ?_) | ((with_reducible show HG _ _ (Expr.Tuple _ _ _) (AV.tup _) _); refine HG_tup ?_) | ((with_reducible show HGl _ _ _ _ _); first | refine HGl_cons ?_ | refine HGl_nil ?_) | ((with_reducible show Op2 _ _ (binaryOp Operator.Add) (AV.int _) (AV.int _) _); refine op_add ?_) | ((with_reducible show Op2 _ _ (binaryOp Operator.Sub) (AV.int _) (AV.int _) _); refine op_sub ?_) | ((with_reducible show Op2 _ _ (inplaceOp Operator.Add) (AV.int _) (AV.int _) _); refine op_iadd ?_) | ((with_reducible show Op2 _ _ (inplaceOp Operator.Sub) (AV.int _) (AV.int _) _); refine op_isub ?_) | ((with_reducible show Op1 _ _ _ (AV.int _) _); first | refine op_neg ?_ | refine op_inv ?_) | ((with_reducible show Op2 _ _ (compareOp _) (AV.int _) (AV.int _) _); first | refine op_eq ?_ | refine op_ne ?_ | refine op_lt ?_ | refine op_le ?_ | refine op_gt ?_ | refine op_ge ?_) | ((with_reducible show Truth _ (AV.bool _) _); refine truth_bool ?_) | ((with_reducible show Truth _ (AV.int _) _); refine truth_int ?_) | ((with_reducible show Truth _ AV.none _); refine truth_none ?_)))
    by_cases hc : (k0 : Int) < p
    · rw [decide_eq_true hc]
      refine HS_cons (HX_brk ?_)
      have e : D = accN first last l i := by
        rw [hI, show k0 - i = (k0 - i - 1) + 1 by omega]
        unfold dueF
        rw [if_pos (by rw [← hp, hll]; exact hc)]
      refine HS.has rest ⟨rfl, rfl, rfl, rfl, rfl, by rw [e]; rfl, trivial⟩
    · rw [decide_eq_false hc]
      refine HS_nil ?_
      have hg : l[(p - 1).toNat]? = some (signAt l p) := by
        unfold signAt
        rw [List.getElem?_eq_getElem (by omega)]; rfl
      refine HS_cons (HX_aug rfl (HE_sub ?_))
      (repeat (first | ((with_reducible show HS _ _ _ _); first | refine HS_cons ?_ | refine HS_nil ?_) | ((with_reducible show HX _ _ (Stmt.Return (some _) _) _); refine HX_ret ?_) | ((with_reducible show HX _ _ (Stmt.Return none _) _); refine HX_ret0 ?_) | ((with_reducible show HX _ _ (Stmt.Break _) _); refine HX_brk ?_) | ((with_reducible show HX _ _ (Stmt.If _ _ _ _) _); refine HX_if ?_) | ((with_reducible show HX _ _ (Stmt.Assign [Expr.Name _ _] _ _) _); refine HX_assign ?_) | ((with_reducible show HX _ _ (Stmt.Assign [Expr.Tuple _ _ _] _ _) _); refine HX_unpack ?_) | ((with_reducible show HX _ _ (Stmt.AugAssign (Expr.Name _ _) _ _ _) _); refine HX_aug rfl ?_) | ((with_reducible show HE _ _ (Expr.Name _ _) _); refine HE_name rfl ?_) | ((with_reducible show HE _ _ (Expr.Constant (Const.int _) _ _) _); refine HE_int ?_) | ((with_reducible show HE _ _ (Expr.Constant (Const.str _) _ _) _); refine HE_str ?_) | ((with_reducible show HE _ _ (Expr.Constant Const.none _ _) _); refine HE_none ?_) | ((with_reducible show HE _ _ (Expr.Constant (Const.bool _) _ _) _); refine HE_bool ?_) | ((with_reducible show HE _ _ (Expr.BinOp _ _ _ _) _); refine HE_bin ?_) | ((with_reducible show HE _ _ (Expr.UnaryOp _ _ _) _); refine HE_un ?_) | ((with_reducible show HE _ _ (Expr.Compare _ [_] [_] _) _); refine HE_cmp ?_) | ((with_reducible show HE _ _ (Expr.Tuple _ _ _) _); refine HE_tuple ?_) | ((with_reducible show HE _ _ (Expr.List _ _) _); refine HE_list ?_) | ((with_reducible show HE _ _ (Expr.IfExp _ _ _ _) _); refine HE_ifexp ?_) | ((with_reducible show HL _ _ _ _); first | refine HL_cons ?_ | refine HL_nil ?_) | ((with_reducible show HT _ _ (Expr.Compare _ [_] [_] _) _); refine HT_cmp ?_) | ((with_reducible show HT _ _ (Expr.UnaryOp UnaryOp.Not _ _) _); refine HT_not ?_) | ((with_reducible show HT _ _ (Expr.BoolOp _ _ _) _); refine HT_bool ?_) | ((with_reducible show HT _ _ (Expr.Name _ _) _); refine HT_val ?_) | ((with_reducible show HA _ _ _ _ _); first | refine HA_and ?_ | refine HA_or ?_ | refine HA_nil ?_) | ((with_reducible show HG _ _ (Expr.Name _ _) _ _); refine HG_name ?_) | ((with_reducible show HG _ _ (Expr.Tuple _ _ _) (AV.tup _) _); refine HG_tup ?_) | ((with_reducible show HGl _ _ _ _ _); first | refine HGl_cons ?_ | refine HGl_nil ?_) | ((with_reducible show Op2 _ _ (binaryOp Operator.Add) (AV.int _) (AV.int _) _); refine op_add ?_) | ((with_reducible show Op2 _ _ (binaryOp Operator.Sub) (AV.int _) (AV.int _) _); refine op_sub ?_) | ((with_reducible show Op2 _ _ (inplaceOp Operator.Add) (AV.int _) (AV.int _) _); refine op_iadd ?_) | ((with_reducible show Op2 _ _ (inplaceOp Operator.Sub) (AV.int _) (AV.int _) _); refine op_isub ?_) | ((with_reducible show Op1 _ _ _ (AV.int _) _); first | refine op_neg ?_ | refine op_inv ?_) | ((with_reducible show Op2 _ _ (compareOp _) (AV.int _) (AV.int _) _); first | refine op_eq ?_ | refine op_ne ?_ | refine op_lt ?_ | refine op_le ?_ | refine op_gt ?_ | refine op_ge ?_) | ((with_reducible show Truth _ (AV.bool _) _); refine truth_bool ?_) | ((with_reducible show Truth _ (AV.int _) _); refine truth_int ?_) | ((with_reducible show Truth _ AV.none _); refine truth_none ?_)))
      refine sub_str (by omega) (by omega) hg ?_
      refine op_iadd_str (by rw [accN_len]; simp; omega) ?_
      refine HS_nil ⟨?_, rfl, rfl, rfl, rfl, rfl, rfl, ?_, trivial⟩
      · rw [hI, show k0 - i = (k0 - (i + 1)) + 1 by omega]
        show dueF first last l (k0 - (i + 1) + 1) i = _
        conv => lhs; unfold dueF
        rw [if_neg (by rw [← hp, hll]; exact hc)]
      · rw [hp]; rfl
  · intro st' hI hst'
    rw [rangeL_len] at hI hst'
    dsimp only at hI hst'
    rw [show ((k0 : Int) + 1 - 1).toNat = k0 by omega] at hI hst'
    rw [Nat.sub_self] at hI
    have e : D = accN first last l k0 := hI
    rw [← e] at hst'
    exact HS.has (HS.has rest ⟨rfl, rfl, rfl, rfl, rfl, rfl, trivial⟩) hst'
end
end Mine

end

section
open PySem PySem.W PyProof.Rows
set_option maxRecDepth 100000
set_option linter.unusedVariables false
namespace Mine
theorem hasDefT_of {C : Ctx} {n : Str} {f : Addr} {K : Frag} {oc pm ct : Value} {od : Option Addr} {osl : Array (Option Value)} {t : Tab} (hK : C.K = K) (ht : t ∈ C.tabs) (e1 : nsIn K mainGlobals n = some (some (.ref f)))
    (e2 : K.lookup f = some ⟨oc, od, .func (fnOf n n (dArgs n) (dBody n) (dScope n) .none .none .none pm none (.ref t.c) ct), osl⟩) (e3 : codeIn K (.ref t.c) n = true) : HasDefT C n f t.ents := by
  subst hK
  refine ⟨.inl (mg_of C.X C.T.g e1), t, ht, rfl, pm, ct, _, C.X _ _ e2, rfl, ?_⟩
  obtain ⟨c, o, vs, t, q1, q2, q3, q4⟩ := codeRec_of C.X e3
  exact ⟨c, o, vs, t, q1, q2, q3, q4⟩
theorem ints_repr {F : FMap} : ∀ {vs : List Value} {ns : List Int}, IntsAre vs ns → ReprL F (ns.map AV.int) vs
  | _, _, .nil => ReprL.nil
  | _, _, .cons n t h => ReprL.cons rInt (ints_repr h)
noncomputable def tabs3 : List Tab := [⟨65, 69, entsHit⟩, ⟨72, 76, entsProg⟩, ⟨37, 41, entsD2I⟩, ⟨30, 34, entsI2D⟩]
noncomputable def news3 : List (Addr × Obj) := [(30, tabObj #[]), (37, tabObj #[]), (65, tabObj #[]), (72, tabObj #[])]
theorem uni_of {l : List (Pos × Str)} (h : l.all (fun e => l.all fun e2 => !(e.1.line == e2.1.line && e.1.col == e2.1.col) || e.2 == e2.2) = true) : ∀ e₁ ∈ l, ∀ e₂ ∈ l, e₁.1.line = e₂.1.line → e₁.1.col = e₂.1.col → e₁.2 = e₂.2 := by
  intro e₁ h1 e₂ h2 q1 q2
  have := List.all_eq_true.mp (List.all_eq_true.mp h e₁ h1) e₂ h2
  simp only [q1, q2, beq_self_eq_true, Bool.and_true, Bool.not_true, Bool.false_or, beq_iff_eq] at this
  exact this
theorem join3 {w : World} {h₁ : Heap} {s : Shared} {mg mb m : Str → Option Value} {loose : List Str} {mean : ExcName → Option Value} {fa l L : Addr} {cd : Value} {vs : List Value} {ns : List Int} {Q : Flow → Shared → Prop} {E : Value → Shared → Prop} {P : Program}
    (X : (K0 w.params).In h₁) (T : Top P loose mean mg mb h₁) (F : Fr h₁ L s.heap m) (hm : m (Str.ofString "script") = some (.ref l)) (hl : h₁.IsList l vs.toArray) (hi : IntsAre vs ns) (hns : ns.length ≤ 63)
    (c1 : CodeHd h₁ 69 65) (c2 : CodeHd h₁ 76 72) (c3 : CodeHd h₁ 41 37) (c4 : CodeHd h₁ 34 30) (N : News h₁ L s.heap news3)
    (hq : ∀ s', (∀ b o, h₁.get? b = some o → s'.heap.get? b = some o) → (∃ h tk, s' = { s with heap := h, toks := tk }) → GrownAll [(34, 30), (41, 37), (69, 65), (76, 72)] s'.heap → Q (.ret (.bool true)) s') :
    wpAny (model pw w) (callerA.deeper (envOf (Str.ofString "law") (dScope (Str.ofString "law")) L fa cd)) (execs (dBody (Str.ofString "law")) (envOf (Str.ofString "law") (dScope (Str.ofString "law")) L fa cd)) Q E s := by
  let C : Ctx := { prog := pw, w := w, h₁ := h₁, p := P, loose := loose, mean := mean, mg := mg, mb := mb, T := T, K := K0 w.params, X := X, tabs := tabs3
                   hd := by
                    intro t ht
                    simp only [tabs3, List.mem_cons, List.not_mem_nil, or_false] at ht
                    rcases ht with rfl | rfl | rfl | rfl <;> assumption
                   nod := by
                    intro t ht u hu
                    simp only [tabs3, List.mem_cons, List.not_mem_nil, or_false] at ht hu
                    rcases ht with rfl | rfl | rfl | rfl <;> rcases hu with rfl | rfl | rfl | rfl <;> intro q <;> first | rfl | (exact absurd q (by decide))
                   uni := by
                    intro t ht
                    simp only [tabs3, List.mem_cons, List.not_mem_nil, or_false] at ht
                    rcases ht with rfl | rfl | rfl | rfl <;> exact uni_of (by decide +kernel) }
  have hK : C.K = K0 C.w.params := rfl
  have H : ∃ f f1 f2 f3 f4, Arith C f f1 f2 f3 f4 := ⟨_, _, _, _, _, hasDef_of hK rfl rfl rfl, hasDefT_of (t := ⟨30, 34, entsI2D⟩) hK (.tail _ (.tail _ (.tail _ (.head _)))) rfl rfl rfl, hasDefT_of (t := ⟨37, 41, entsD2I⟩) hK (.tail _ (.tail _ (.head _))) rfl rfl rfl, hasDef_of hK rfl rfl rfl, hasDef_of hK rfl rfl rfl⟩
  obtain ⟨f, f1, f2, f3, f4, H⟩ := H
  have G : ∃ fh fp fr, L3 C fh fp fr := ⟨_, _, _, hasDefT_of (t := ⟨65, 69, entsHit⟩) hK (.head _) rfl rfl rfl, hasDefT_of (t := ⟨72, 76, entsProg⟩) hK (.tail _ (.head _)) rfl rfl rfl, hasDef_of hK rfl rfl rfl⟩
  obtain ⟨fh, fp, fr, G⟩ := G
  have h1 : ∃ fs, HasDef C (Str.ofString "_law_struck") fs := ⟨_, hasDef_of hK rfl rfl rfl⟩
  obtain ⟨fs, h1⟩ := h1
  have h2 : ∃ fl, HasDef C (Str.ofString "_law_place") fl := ⟨_, hasDef_of hK rfl rfl rfl⟩
  obtain ⟨fl, h2⟩ := h2
  let fi : FI C ⟨Str.ofString "law", dScope (Str.ofString "law")⟩ := { A := callerA.deeper (envOf (Str.ofString "law") (dScope (Str.ofString "law")) L fa cd), L := L, f := fa, cd := cd, cl := [], s₀ := s, d := 200 }
  have nt : ∀ t ∈ tabs3, (t.P, tabObj #[]) ∈ news3 := by
    intro t ht
    simp only [tabs3, List.mem_cons, List.not_mem_nil, or_false] at ht
    rcases ht with rfl | rfl | rfl | rfl <;> simp [news3]
  have noc : ∀ x, (dScope (Str.ofString "law")).names.lookup x ≠ some .cell ∧ (dScope (Str.ofString "law")).names.lookup x ≠ some .free := by
    have key : (dScope (Str.ofString "law")).names.all (fun p => p.2 != .cell && p.2 != .free) = true := by decide +kernel
    intro x
    constructor <;> intro q <;> have := List.all_eq_true.mp key _ (mem_of_lk q) <;> simp at this
  have hFL : h₁.get? L = none := Heap.get?_none_of_le F.above
  have R : Rel fi (fun _ _ => False) h₁.get? [(Str.ofString "script", .v (.obj (scriptP ns)))] s := by
    refine ⟨⟨Sub.refl _, F.keep, fun t ht => ?_, rfl, by show 1 + claimMargin + 1 + 200 ≤ 1000; decide, by show 4 + 3 + 8 * 200 ≤ 9900; decide⟩, ⟨_, _, rfl⟩, fun _ _ q => q.elim, ⟨_, F.ns⟩, hFL, fun _ q => q, ?_, fun x c k => absurd k (noc x).1, fun x k => absurd k (noc x).1, fun x y c k => absurd k (noc x).1, fun x c k => absurd k (noc x).2, fun x sl e => ?_, fun x y xs ys a e => ?_⟩
    · have := N _ (nt t ht)
      exact ⟨this.2.2, #[], this.1, trivial, fun _ _ => .inl rfl⟩
    · rintro ⟨t, ht, hP⟩
      exact (N _ (nt t ht)).2.1 hP
    · have := mem_of_lk e
      simp only [List.mem_singleton, Prod.mk.injEq] at this
      obtain ⟨rfl, rfl⟩ := this
      refine ⟨.ref l, .inl ⟨rfl, _, F.ns, hm⟩, ?_⟩
      obtain ⟨o, q1, q2, n, q3⟩ := hl
      simp only [SlotOk, Repr]
      exact ⟨l, rfl, o, vs.toArray, n, q1, q2, q3, ints_repr hi⟩
    · have := mem_of_lk e
      simp at this
  refine law3_body hK H G h1 h2 hns fi rfl _ _ s Q E R ?_
  intro fl' st' f' F' s' q u R' r
  cases fl' with
  | next => cases q
  | brk => exact q.elim
  | cont => exact q.elim
  | ret a =>
    obtain ⟨v, rfl, r⟩ := r
    obtain rfl : a = .bool true := q
    simp only [Repr] at r
    subst r
    refine hq s' (fun b o e => R'.g.sub _ _ (R'.g.base _ _ e)) R'.only ?_
    have ga : ∀ t ∈ tabs3, GrownAt t.P s'.heap := fun t ht => let ⟨_, ps, e, _⟩ := R'.g.tab t ht; ⟨ps, e⟩
    exact ⟨ga _ (.tail _ (.tail _ (.tail _ (.head _)))), ga _ (.tail _ (.tail _ (.head _))), ga _ (.head _), ga _ (.tail _ (.head _)), trivial⟩
end Mine

end

open PySem PySem.W PyProof.Rows
set_option maxRecDepth 100000 in
theorem Mine.post3 (ns : List Int) : PySem.Challenge.rw_ph0101_03.row.claim.post [ofPy (PyData.list (List.map PyData.int ns))] (WData.bool true) [ofPy (PyData.list (List.map PyData.int ns))] = true := by kc_post
set_option maxRecDepth 100000 in
set_option maxHeartbeats 8000000 in
theorem PySem.Challenge.cw_ph0101_03_holds : PySem.Challenge.rw_ph0101_03.Holds := by
  w_on
  o_law
  o_head (kHook Mine.K0 Mine.K0as Mine.K0_at)
  case hw => w_witness2
  w_strict k_go0
  refine Mine.join3 (by assumption) (by assumption) (by assumption) rfl (by assumption) (by assumption) ?_ (by assumption) (by assumption) (by assumption) (by assumption) (by assumption) ?_
  · omega
  · rintro s' hk ⟨h, tk, rfl⟩ hgr
    exact ⟨⟨.inl ⟨.bool true, .bool true, [], rfl, fun _ => rfl, .bool true, Mine.post3 _, unshared_nil⟩, hk, rfl, by assumption⟩, hgr⟩
