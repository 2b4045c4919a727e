import PyProof.Rows.All
import Wide.All
import OpenK.AllK
import Wide.FinOn
import Flt.RightMore
import Lean
import PySem.Challenge.RW_wf0045_01
set_option Elab.async false
set_option linter.unusedVariables false
set_option linter.unusedSimpArgs false
noncomputable section
namespace Mine
theorem len1 {α : Type} : ∀ {l : List α}, l.length = 1 → ∃ a, l = [a]
  | [a], _ => ⟨a, rfl⟩
theorem len2 {α : Type} {l : List α} (h : l.length = 2) : ∃ a b, l = [a, b] := by
  cases l with
  | nil => cases h
  | cons a l => obtain ⟨b, rfl⟩ := len1 (Nat.succ.inj h); exact ⟨a, b, rfl⟩
theorem len3 {α : Type} {l : List α} (h : l.length = 3) : ∃ a b c, l = [a, b, c] := by
  cases l with
  | nil => cases h
  | cons a l => obtain ⟨b, c, rfl⟩ := len2 (Nat.succ.inj h); exact ⟨a, b, c, rfl⟩
theorem len4 {α : Type} {l : List α} (h : l.length = 4) : ∃ a b c d, l = [a, b, c, d] := by
  cases l with
  | nil => cases h
  | cons a l => obtain ⟨b, c, d, rfl⟩ := len3 (Nat.succ.inj h); exact ⟨a, b, c, d, rfl⟩
section
variable {α : Type} {p : α → Prop} {a : α} {l l' : List α}
theorem all_nil : ∀ b ∈ ([] : List α), p b := fun _ h => nomatch h
theorem all_cons (h : p a) (t : ∀ b ∈ l, p b) : ∀ b ∈ a :: l, p b := fun b hb => (List.mem_cons.mp hb).elim (fun e => e ▸ h) (t b)
theorem all_one (h : p a) : ∀ b ∈ [a], p b := all_cons h all_nil
theorem all_app (h : ∀ b ∈ l, p b) (t : ∀ b ∈ l', p b) : ∀ b ∈ l ++ l', p b := fun b hb => (List.mem_append.mp hb).elim (h b) (t b)
end
section
variable {α β : Type} {f : α → β} {l l' : List α} {k n m : Nat}
theorem lm (h : l.length ≤ n) : (l.map f).length ≤ n := (List.length_map f).symm ▸ h
theorem lml (h : l.length < n) : (l.map f).length < n := (List.length_map f).symm ▸ h
theorem lr (h : k ≤ n) : (List.range k).length ≤ n := List.length_range.symm ▸ h
theorem lk (h : l.length ≤ n) : (l.take k).length ≤ n := Nat.le_trans (List.length_take_le' k l) h
theorem lp (h : l.length ≤ n) : (l.drop k).length ≤ n := Nat.le_trans (List.length_drop ▸ Nat.sub_le _ _) h
theorem la (h : l.length ≤ n) (h' : l'.length ≤ m) : (l ++ l').length ≤ n + m := List.length_append ▸ Nat.add_le_add h h'
end
end Mine
end
noncomputable section
open PySem PySem.W PyProof.Rows
namespace Mine

noncomputable abbrev NE : Value → Shared → Prop := fun _ _ => False

/-- data of a run: what a value says, without addresses; a float by its 2^60-fold -/
inductive D where
  | none
  | int (i : Int)
  | flt (i : Int)
  | bool (b : Bool)
  | list (l : List D)
  | tup (l : List D)

noncomputable def FV (b : UInt64) (i : Int) : Prop := (∃ s m e, Float64.decode b = .fin s m e) ∧ Float64.val b = i * 2 ^ 1014

/-- a state with a ghost: which float was made under a token -/
structure Cf where
  s : Shared
  τ : Nat → UInt64
noncomputable abbrev Cf.heap (c : Cf) : Heap := c.s.heap
noncomputable abbrev Cf.put (c : Cf) (h : Heap) (tk : Nat) : Cf := ⟨{ c.s with heap := h, toks := tk }, c.τ⟩

mutual
noncomputable def Rep (H : List Addr) (c : Cf) : D → Value → Prop
  | .none, v => v = .none
  | .int i, v => ∃ t, v = .int i t
  | .flt i, v => ∃ b t, v = .float b t ∧ FV b i ∧ 0 < t ∧ t < c.s.toks ∧ c.τ t = b
  | .bool b, v => v = .bool b
  | .list l, v => ∃ a vs n, v = .ref a ∧ a ∉ H ∧ c.heap.get? a = some { cls := .type "list", data := .seq vs.toArray n } ∧ RepL H c l vs
  | .tup l, v => ∃ a vs n, v = .ref a ∧ a ∉ H ∧ c.heap.get? a = some { cls := .type "tuple", data := .seq vs.toArray n } ∧ RepL H c l vs
noncomputable def RepL (H : List Addr) (c : Cf) : List D → List Value → Prop
  | [], vs => vs = []
  | d :: ds, vs => ∃ v r, vs = v :: r ∧ Rep H c d v ∧ RepL H c ds r
end

structure Cm (H : List Addr) (c c' : Cf) : Prop where
  keep : ∀ b o, b ∉ H → c.heap.get? b = some o → c'.heap.get? b = some o
  tk : c.s.toks ≤ c'.s.toks
  gh : ∀ n, n < c.s.toks → c'.τ n = c.τ n

mutual
theorem Rep.move {H H' : List Addr} {c c' : Cf} (hk : Cm H c c') (hn : ∀ b ∈ H', b ∈ H ∨ c.heap.get? b = none) : ∀ {d : D} {v : Value}, Rep H c d v → Rep H' c' d v
  | .none, _, x => by rw [Rep] at x ⊢; exact x
  | .int _, _, x => by rw [Rep] at x ⊢; exact x
  | .flt _, _, x => by
    rw [Rep] at x ⊢
    obtain ⟨b, t, e, f, h0, h1, h2⟩ := x
    exact ⟨b, t, e, f, h0, Nat.lt_of_lt_of_le h1 hk.tk, by rw [hk.gh t h1, h2]⟩
  | .bool _, _, x => by rw [Rep] at x ⊢; exact x
  | .list l, v, x => by
    rw [Rep] at x ⊢
    obtain ⟨a, vs, n, e, ha, ho, r⟩ := x
    refine ⟨a, vs, n, e, fun q => ?_, hk.keep _ _ ha ho, RepL.move hk hn r⟩
    rcases hn _ q with z | z
    · exact ha z
    · rw [ho] at z; cases z
  | .tup l, v, x => by
    rw [Rep] at x ⊢
    obtain ⟨a, vs, n, e, ha, ho, r⟩ := x
    refine ⟨a, vs, n, e, fun q => ?_, hk.keep _ _ ha ho, RepL.move hk hn r⟩
    rcases hn _ q with z | z
    · exact ha z
    · rw [ho] at z; cases z
theorem RepL.move {H H' : List Addr} {c c' : Cf} (hk : Cm H c c') (hn : ∀ b ∈ H', b ∈ H ∨ c.heap.get? b = none) : ∀ {l : List D} {vs : List Value}, RepL H c l vs → RepL H' c' l vs
  | [], _, x => by rw [RepL] at x ⊢; exact x
  | d :: ds, vs, x => by
    rw [RepL] at x ⊢
    obtain ⟨v, r, e, x1, x2⟩ := x
    exact ⟨v, r, e, Rep.move hk hn x1, RepL.move hk hn x2⟩
end
theorem Rep.mono {H : List Addr} {c c' : Cf} (hk : Cm H c c') {d : D} {v : Value} (x : Rep H c d v) : Rep H c' d v := x.move hk fun _ q => .inl q
theorem RepL.mono {H : List Addr} {c c' : Cf} (hk : Cm H c c') {d : List D} {v : List Value} (x : RepL H c d v) : RepL H c' d v := x.move hk fun _ q => .inl q
theorem Cm.refl (H : List Addr) (c : Cf) : Cm H c c := ⟨fun _ _ _ e => e, Nat.le_refl _, fun _ _ => rfl⟩
theorem Cm.trans {H : List Addr} {a b c : Cf} (x : Cm H a b) (y : Cm H b c) : Cm H a c :=
  ⟨fun q o n e => y.keep q o n (x.keep q o n e), Nat.le_trans x.tk y.tk, fun n hn => (y.gh n (Nat.lt_of_lt_of_le hn x.tk)).trans (x.gh n hn)⟩
theorem Rep.sub {H H' : List Addr} {c : Cf} (hs : ∀ b, b ∈ H' → b ∈ H) {d : D} {v : Value} (x : Rep H c d v) : Rep H' c d v := x.move (.refl _ _) fun b q => .inl (hs b q)
theorem RepL.sub {H H' : List Addr} {c : Cf} (hs : ∀ b, b ∈ H' → b ∈ H) {d : List D} {v : List Value} (x : RepL H c d v) : RepL H' c d v := x.move (.refl _ _) fun b q => .inl (hs b q)

/-- the two tables of code that a run of the text changes -/
noncomputable def MUT : List Addr := [44, 51]
noncomputable def TabAt (H : List Addr) (h : Heap) (P : Addr) (ln : Int) (qual : Str) : Prop :=
  ∃ ps, h.get? P = some (tabObj ps) ∧ (ps = #[] ∨ ∃ c', c' ∉ H ∧ ps = #[rawInt ln, rawInt 4, .ref c'] ∧ h.CodeRec (.ref c') qual)
structure TabOk (H : List Addr) (h : Heap) : Prop where
  a : TabAt H h 44 73 "_int2digits.<locals>.inner"
  b : TabAt H h 51 88 "_digits2int.<locals>.inner"
theorem TabAt.move {H H' : List Addr} {h h' : Heap} {P : Addr} {ln : Int} {q : Str} (x : TabAt H h P ln q) (hP : ∀ o, h.get? P = some o → h'.get? P = some o) (hk : ∀ b o, b ∉ H → h.get? b = some o → h'.get? b = some o) (hn : ∀ b ∈ H', b ∈ H ∨ h.get? b = none) : TabAt H' h' P ln q := by
  obtain ⟨ps, e, r⟩ := x
  refine ⟨ps, hP _ e, r.imp id fun zz => ?_⟩
  obtain ⟨c, n, z, ⟨c₁, o, vs, t, e1, ho, hd, r1⟩⟩ := zz
  cases e1
  refine ⟨c, fun q => ?_, z, c, o, vs, t, rfl, hk _ _ n ho, hd, r1⟩
  rcases hn _ q with y | y
  · exact n y
  · rw [ho] at y; cases y
theorem TabOk.move {H H' : List Addr} {h h' : Heap} (x : TabOk H h) (hP : ∀ b ∈ MUT, ∀ o, h.get? b = some o → h'.get? b = some o) (hk : ∀ b o, b ∉ H → h.get? b = some o → h'.get? b = some o) (hn : ∀ b ∈ H', b ∈ H ∨ h.get? b = none) : TabOk H' h' :=
  ⟨x.a.move (hP 44 (by decide)) hk hn, x.b.move (hP 51 (by decide)) hk hn⟩
theorem TabOk.keeps {H : List Addr} {h h' : Heap} (x : TabOk H h) (hk : ∀ b o, h.get? b = some o → h'.get? b = some o) : TabOk H h' := x.move (fun b _ o e => hk b o e) (fun b o _ e => hk b o e) fun b q => .inl q

theorem TabOk.low {H : List Addr} {h : Heap} (x : TabOk H h) : ∀ b ∈ MUT, ∃ o, h.get? b = some o := fun b hb => by
  simp only [MUT, List.mem_cons, List.not_mem_nil, or_false] at hb
  rcases hb with rfl | rfl
  · obtain ⟨ps, e, _⟩ := x.a; exact ⟨_, e⟩
  · obtain ⟨ps, e, _⟩ := x.b; exact ⟨_, e⟩
/-- what a run leaves of a state: all but the two tables and what lies at X -/
structure Kx (X : List Addr) (c c' : Cf) : Prop where
  same : ∃ h tk, c'.s = { c.s with heap := h, toks := tk }
  kp : ∀ b o, b ∉ MUT → b ∉ X → c.heap.get? b = some o → c'.heap.get? b = some o
  tk : c.s.toks ≤ c'.s.toks
  gh : ∀ n, n < c.s.toks → c'.τ n = c.τ n
  al : ∀ b, (∃ o, c.heap.get? b = some o) → ∃ o, c'.heap.get? b = some o
  tab : ∀ H, (∀ b ∈ X, b ∈ H) → (∀ b ∈ H, ∃ o, c.heap.get? b = some o) → TabOk H c.heap → TabOk H c'.heap
noncomputable abbrev Kp (c c' : Cf) : Prop := Kx [] c c'
theorem Kx.refl (X : List Addr) (c : Cf) : Kx X c c := ⟨⟨_, _, rfl⟩, fun _ _ _ _ e => e, Nat.le_refl _, fun _ _ => rfl, fun _ h => h, fun _ _ _ t => t⟩
theorem Kx.trans {X : List Addr} {a b c : Cf} (x : Kx X a b) (y : Kx X b c) : Kx X a c :=
  ⟨by obtain ⟨h, tk, e⟩ := x.same; obtain ⟨h', tk', e'⟩ := y.same; rw [e', e]; exact ⟨_, _, rfl⟩, fun q o h1 h2 e => y.kp q o h1 h2 (x.kp q o h1 h2 e), Nat.le_trans x.tk y.tk,
   fun n hn => (y.gh n (Nat.lt_of_lt_of_le hn x.tk)).trans (x.gh n hn), fun q h => y.al q (x.al q h), fun H hX hl t => y.tab H hX (fun q hq => x.al q (hl q hq)) (x.tab H hX hl t)⟩
theorem Kx.mono {X Y : List Addr} {c c' : Cf} (k : Kx X c c') (h : ∀ b ∈ X, b ∈ Y) : Kx Y c c' := ⟨k.same, fun b o h1 h2 e => k.kp b o h1 (fun q => h2 (h _ q)) e, k.tk, k.gh, k.al, fun H hX => k.tab H fun b hb => hX b (h b hb)⟩
theorem Kx.put {X : List Addr} {c : Cf} {h : Heap} {tk : Nat} (hk : ∀ b o, b ∉ X → c.heap.get? b = some o → h.get? b = some o) (hX : ∀ b ∈ X, b ∉ MUT) (al : ∀ b ∈ X, ∃ o, h.get? b = some o) (ht : c.s.toks ≤ tk) : Kx X c (c.put h tk) :=
  ⟨⟨_, _, rfl⟩, fun q o _ h2 e => hk q o h2 e, ht, fun _ _ => rfl, fun b ⟨o, e⟩ => by
    by_cases hb : b ∈ X
    · exact al b hb
    · exact ⟨o, hk b o hb e⟩, fun H hX' hl t => t.move (fun b hb o e => hk b o (fun q => hX b q hb) e) (fun b o hb e => hk b o (fun q => hb (hX' b q)) e) fun b hb => .inl hb⟩
theorem Kp.refl (c : Cf) : Kp c c := Kx.refl [] c
theorem Kp.trans {a b c : Cf} (x : Kp a b) (y : Kp b c) : Kp a c := Kx.trans x y
theorem Kp.keep {c c' : Cf} (k : Kp c c') {b : Addr} {o : Obj} (hb : b ∉ MUT) (e : c.heap.get? b = some o) : c'.heap.get? b = some o := k.kp b o hb (by simp) e
theorem Kx.keep {c c' : Cf} (k : Kx [] c c') {b : Addr} {o : Obj} (hb : b ∉ MUT) (e : c.heap.get? b = some o) : c'.heap.get? b = some o := k.kp b o hb (by simp) e
theorem Kx.cm {X : List Addr} {c c' : Cf} (k : Kx X c c') {H : List Addr} (h1 : ∀ b ∈ MUT, b ∈ H) (h2 : ∀ b ∈ X, b ∈ H) : Cm H c c' := ⟨fun b o hb e => k.kp b o (fun q => hb (h1 b q)) (fun q => hb (h2 b q)) e, k.tk, k.gh⟩
theorem Kp.of {c : Cf} {h : Heap} {tk : Nat} (hk : ∀ b o, c.heap.get? b = some o → h.get? b = some o) (ht : c.s.toks ≤ tk) : Kp c (c.put h tk) := Kx.put (fun b o _ e => hk b o e) (fun _ h => by cases h) (fun _ h => by cases h) ht

structure SOk (g₀ : Heap) (H : List Addr) (c : Cf) : Prop where
  low : ∀ b ∈ H, ∃ o, c.heap.get? b = some o
  mt : ∀ b ∈ MUT, b ∈ H
  gm : ∀ b ∈ MUT, g₀.get? b = none
  base : ∀ b o, g₀.get? b = some o → c.heap.get? b = some o
  tab : TabOk H c.heap
  pos : 0 < c.s.toks
  nb : NoneBooked g₀
theorem SOk.kx {g₀ : Heap} {X H : List Addr} {c c' : Cf} (x : SOk g₀ H c) (k : Kx X c c') (hX : ∀ b ∈ X, b ∈ H) (hg : ∀ b ∈ X, g₀.get? b = none) : SOk g₀ H c' where
  low := fun b hb => k.al b (x.low b hb)
  mt := x.mt
  gm := x.gm
  base := fun b o e => k.kp b o (fun hm => by rw [x.gm b hm] at e; cases e) (fun hm => by rw [hg b hm] at e; cases e) (x.base b o e)
  tab := k.tab H hX x.low x.tab
  pos := Nat.lt_of_lt_of_le x.pos k.tk
  nb := x.nb
theorem SOk.kp {g₀ : Heap} {H : List Addr} {c c' : Cf} (x : SOk g₀ H c) (k : Kp c c') : SOk g₀ H c' := x.kx k (fun _ h => by cases h) fun _ h => by cases h
theorem Rep.kx {g₀ : Heap} {X H : List Addr} {c c' : Cf} (x : SOk g₀ H c) (k : Kx X c c') (hX : ∀ b ∈ X, b ∈ H) {d : D} {v : Value} (r : Rep H c d v) : Rep H c' d v := r.mono (k.cm x.mt hX)
theorem RepL.kx {g₀ : Heap} {X H : List Addr} {c c' : Cf} (x : SOk g₀ H c) (k : Kx X c c') (hX : ∀ b ∈ X, b ∈ H) {d : List D} {v : List Value} (r : RepL H c d v) : RepL H c' d v := r.mono (k.cm x.mt hX)
theorem Rep.kp {g₀ : Heap} {H : List Addr} {c c' : Cf} (x : SOk g₀ H c) (k : Kp c c') {d : D} {v : Value} (r : Rep H c d v) : Rep H c' d v := r.kx x k fun _ h => by cases h
theorem RepL.kp {g₀ : Heap} {H : List Addr} {c c' : Cf} (x : SOk g₀ H c) (k : Kp c c') {d : List D} {v : List Value} (r : RepL H c d v) : RepL H c' d v := r.kx x k fun _ h => by cases h
theorem SOk.fresh {g₀ : Heap} {H : List Addr} {c : Cf} (x : SOk g₀ H c) {b : Addr} (e : c.heap.get? b = none) : b ∉ H := fun hb => by
  obtain ⟨o, z⟩ := x.low b hb; rw [e] at z; cases z
theorem get_size (h : Heap) : h.get? h.objs.size = none := by
  cases e : h.get? h.objs.size with
  | none => rfl
  | some o => exact absurd (Heap.lt_size e) (Nat.lt_irrefl _)

/-! ## names -/
inductive LookL (env : Env) (h : Heap) (x : Str) (v : Value) : Prop
  | mk (e : env.kindOf x = some .local) (hM : env.locals ∉ MUT) (m : Str → Option Value) (hn : h.Ns env.locals m) (hx : m x = some v)
inductive LookC (env : Env) (h : Heap) (x : Str) (v : Value) : Prop
  | mk (e : env.kindOf x = some .cell ∨ env.kindOf x = some .free) (c : Addr) (hc : env.cells.lookup x = some c) (hM : c ∉ MUT) (hv : h.IsCell c (some v))
structure LookAt (env : Env) (h : Heap) (x : Str) (v : Value) : Prop where
  kind : env.scope.kind = .function
  lc : LookL env h x v ∨ LookC env h x v
theorem LookAt.keep {env : Env} {h h' : Heap} {x : Str} {v : Value} (l : LookAt env h x v) (hk : ∀ b o, b ∉ MUT → h.get? b = some o → h'.get? b = some o) : LookAt env h' x v := by
  obtain ⟨k, l⟩ := l
  refine ⟨k, ?_⟩
  rcases l with ⟨e, hL, m, ⟨o, es, ep, ho, r⟩, hm⟩ | ⟨e, c, hc, hcm, o, ho, hd⟩
  · exact .inl ⟨e, hL, m, ⟨o, es, ep, hk _ _ hL ho, r⟩, hm⟩
  · exact .inr ⟨e, c, hc, hcm, o, hk _ _ hcm ho, hd⟩
inductive VarAt (H : List Addr) (env : Env) (c : Cf) (x : Str) (d : D) : Prop
  | mk (v : Value) (l : LookAt env c.heap x v) (r : Rep H c d v)
theorem VarAt.kp {g₀ : Heap} {H : List Addr} {env : Env} {c c' : Cf} {x : Str} {d : D} (so : SOk g₀ H c) (k : Kp c c') (l : VarAt H env c x d) : VarAt H env c' x d :=
  let ⟨v, a, r⟩ := l; ⟨v, a.keep (fun b o hb e => k.keep hb e), r.kp so k⟩

section
variable {M : Model} {A : Around} {E : Value → Shared → Prop} {s : Shared}
theorem ne_any {α : Type} {t : Sem α} {Q : α → Shared → Prop} (h : wpAny M A t Q NE s) : wpAny M A t Q E s := wpAny_mono h (fun _ _ x => x) fun _ _ x => x.elim
theorem ne_mono {α : Type} {t : Sem α} {Q Q' : α → Shared → Prop} (h : wpAny M A t Q NE s) (hq : ∀ a s, Q a s → Q' a s) : wpAny M A t Q' NE s := wpAny_mono h hq fun _ _ x => x
theorem loadName_at {env : Env} {x : Str} {v : Value} {Q : Value → Shared → Prop} (l : LookAt env s.heap x v) (h : Q v s) (hn : (x == ("__classdict__" : Str)) = false := by rfl) : wpAny M A (loadName env x) Q E s := by
  obtain ⟨k, l⟩ := l
  rcases l with ⟨e, _, m, hns, hm⟩ | ⟨e | e, c, hc, _, hcell⟩
  · exact wpAny_loadName_local k e hns hm h
  · exact wpAny_loadName_cell k e hc hcell h
  · exact wpAny_loadName_free k e hc hcell h hn
end

/-! ## the judgement: an expression gives data -/
inductive Got (H : List Addr) (c : Cf) (d : D) (v : Value) (s' : Shared) : Prop
  | mk (c' : Cf) (es : c'.s = s') (k : Kp c c') (r : Rep H c' d v)
inductive Told (c : Cf) (P : Prop) (s' : Shared) : Prop
  | mk (c' : Cf) (es : c'.s = s') (k : Kp c c') (p : P)
theorem Got.here {H : List Addr} {c : Cf} {d : D} {v : Value} (r : Rep H c d v) : Got H c d v c.s := ⟨c, rfl, .refl _, r⟩
theorem Got.after {H : List Addr} {c c₁ : Cf} {d : D} {v : Value} {s : Shared} (k : Kp c c₁) (g : Got H c₁ d v s) : Got H c d v s := let ⟨c', e, k', r⟩ := g; ⟨c', e, k.trans k', r⟩
theorem Told.here {c : Cf} {P : Prop} (r : P) : Told c P c.s := ⟨c, rfl, .refl _, r⟩
theorem Told.after {c c₁ : Cf} {P : Prop} {s : Shared} (k : Kp c c₁) (g : Told c₁ P s) : Told c P s := let ⟨c', e, k', r⟩ := g; ⟨c', e, k.trans k', r⟩
theorem Got.put {H : List Addr} {c : Cf} {d : D} {v : Value} {h : Heap} {tk : Nat} (hk : ∀ b o, c.heap.get? b = some o → h.get? b = some o) (ht : c.s.toks ≤ tk) (r : Rep H (c.put h tk) d v) : Got H c d v { c.s with heap := h, toks := tk } :=
  ⟨c.put h tk, rfl, .of hk ht, r⟩
theorem Got.int {H : List Addr} {c : Cf} {i : Int} {t : Tok} : Got H c (.int i) (.int i t) { c.s with toks := c.s.toks + 1 } := Got.put (h := c.heap) (fun _ _ e => e) (Nat.le_succ _) (by rw [Rep]; exact ⟨_, rfl⟩)
theorem Got.int0 {H : List Addr} {c : Cf} {i : Int} {t : Tok} : Got H c (.int i) (.int i t) c.s := Got.here (by rw [Rep]; exact ⟨_, rfl⟩)
theorem Got.bool {H : List Addr} {c : Cf} {b : Bool} : Got H c (.bool b) (.bool b) c.s := Got.here (by rw [Rep])
theorem Got.flt {H : List Addr} {c : Cf} {b : UInt64} {i : Int} (f : FV b i) (h0 : 0 < c.s.toks) : Got H c (.flt i) (.float b c.s.toks) { c.s with toks := c.s.toks + 1 } :=
  ⟨⟨{ c.s with toks := c.s.toks + 1 }, fun n => if n = c.s.toks then b else c.τ n⟩, rfl,
    ⟨⟨_, _, rfl⟩, fun _ _ _ _ e => e, Nat.le_succ _, fun n hn => if_neg (Nat.ne_of_lt hn), fun _ h => h, fun _ _ _ t => t⟩, by rw [Rep]; exact ⟨b, _, rfl, f, h0, Nat.lt_succ_self _, if_pos rfl⟩⟩

noncomputable def EV (prog : Program) (w : World) (g₀ : Heap) (A : Around) (H : List Addr) (env : Env) (c : Cf) (e : Expr) (d : D) : Prop :=
  ∀ c', Kp c c' → SOk g₀ H c' → wpAny (model prog w) A (eval e env) (Got H c' d) NE c'.s
/-- an expression's truth -/
noncomputable def TV (prog : Program) (w : World) (g₀ : Heap) (A : Around) (H : List Addr) (env : Env) (c : Cf) (e : Expr) (b : Bool) : Prop :=
  ∀ c', Kp c c' → SOk g₀ H c' → wpAny (model prog w) A (isTrue e env (eval e env)) (fun x => Told c' (x = b)) NE c'.s
noncomputable def BOp (prog : Program) (w : World) (g₀ : Heap) (A : Around) (op : Operator) (d1 d2 d : D) : Prop :=
  ∀ H c v1 v2, SOk g₀ H c → Rep H c d1 v1 → Rep H c d2 v2 → wpAny (model prog w) A (binaryOp op v1 v2) (Got H c d) NE c.s
noncomputable def COp (prog : Program) (w : World) (g₀ : Heap) (A : Around) (op : CmpOp) (d1 d2 : D) (b : Bool) : Prop :=
  ∀ H c v1 v2, SOk g₀ H c → Rep H c d1 v1 → Rep H c d2 v2 → wpAny (model prog w) A (compareOp op v1 v2) (fun v => Told c (v = .bool b)) NE c.s

section
variable {prog : Program} {w : World} {g₀ : Heap} {A : Around} {H : List Addr} {env : Env} {c : Cf}
theorem EV.at {c' : Cf} {e : Expr} {d : D} (x : EV prog w g₀ A H env c e d) (k : Kp c c') : EV prog w g₀ A H env c' e d := fun s₂ k₂ so => x s₂ (k.trans k₂) so
theorem TV.at {c' : Cf} {e : Expr} {d : Bool} (x : TV prog w g₀ A H env c e d) (k : Kp c c') : TV prog w g₀ A H env c' e d := fun s₂ k₂ so => x s₂ (k.trans k₂) so
theorem EV.cast {e : Expr} {d d' : D} (x : EV prog w g₀ A H env c e d) (h : d = d') : EV prog w g₀ A H env c e d' := h ▸ x
theorem TV.cast {e : Expr} {d d' : Bool} (x : TV prog w g₀ A H env c e d) (h : d = d') : TV prog w g₀ A H env c e d' := h ▸ x
/-- an expression, and then what is done with its value -/
theorem ev_then {e : Expr} {d d' : D} {c' : Cf} {H' : List Addr} {k : Value → Shared → Prop} (x : EV prog w g₀ A H env c e d) (kp : Kp c c') (so : SOk g₀ H c')
    (h : ∀ v c₁, Kp c' c₁ → SOk g₀ H c₁ → Rep H c₁ d v → k v c₁.s) : wpAny (model prog w) A (eval e env) k NE c'.s :=
  ne_mono (x c' kp so) fun v s₁ ⟨c₁, e₁, k₁, r₁⟩ => by subst e₁; exact h v c₁ k₁ (so.kp k₁) r₁
theorem got_then {t : Sem Value} {d : D} {c' : Cf} {k : Value → Shared → Prop} (x : wpAny (model prog w) A t (Got H c' d) NE c'.s) (so : SOk g₀ H c')
    (h : ∀ v c₁, Kp c' c₁ → SOk g₀ H c₁ → Rep H c₁ d v → k v c₁.s) : wpAny (model prog w) A t k NE c'.s :=
  ne_mono x fun v s₁ ⟨c₁, e₁, k₁, r₁⟩ => by subst e₁; exact h v c₁ k₁ (so.kp k₁) r₁
theorem told_then {α : Type} {t : Sem α} {P : α → Prop} {c' : Cf} {k : α → Shared → Prop} (x : wpAny (model prog w) A t (fun a => Told c' (P a)) NE c'.s) (so : SOk g₀ H c')
    (h : ∀ v c₁, Kp c' c₁ → SOk g₀ H c₁ → P v → k v c₁.s) : wpAny (model prog w) A t k NE c'.s :=
  ne_mono x fun v s₁ ⟨c₁, e₁, k₁, r₁⟩ => by subst e₁; exact h v c₁ k₁ (so.kp k₁) r₁

theorem ev_name {x : Str} {p : Pos} {d : D} (l : VarAt H env c x d) (so : SOk g₀ H c) (hd : (x == ("__debug__" : Str)) = false := by rfl) (hn : (x == ("__classdict__" : Str)) = false := by rfl) :
    EV prog w g₀ A H env c (.Name x p) d := fun c' k _ => by
  obtain ⟨v, a, r⟩ := l.kp so k
  exact wpAny_Name (loadName_at a (Got.here r) hn) hd
theorem ev_int {i : Int} {k : Nat} {p : Pos} : EV prog w g₀ A H env c (.Constant (.int i) k p) (.int i) := fun c' _ _ => wpAny_Constant_int Got.int
theorem ev_bool {b : Bool} {k : Nat} {p : Pos} : EV prog w g₀ A H env c (.Constant (.bool b) k p) (.bool b) := fun c' _ _ => wpAny_Constant_bool Got.bool
theorem ev_flt {b : UInt64} {i : Int} {k : Nat} {p : Pos} (h : FV b i) : EV prog w g₀ A H env c (.Constant (.float b) k p) (.flt i) := fun c' _ so => AutoFloatOps.wpAny_Constant_float (Got.flt h so.pos)
theorem ev_bin {op : Operator} {l r : Expr} {p : Pos} {d1 d2 d : D} (h1 : EV prog w g₀ A H env c l d1) (h2 : EV prog w g₀ A H env c r d2) (h : BOp prog w g₀ A op d1 d2 d) :
    EV prog w g₀ A H env c (.BinOp l op r p) d := fun c' k so =>
  wpAny_BinOp (got_then (h1 c' k so) so fun v1 c1 k1 so1 r1 => got_then (h2 c1 (k.trans k1) so1) so1 fun v2 c2 k2 so2 r2 =>
    ne_mono (h H c2 v1 v2 so2 (r1.kp so1 k2) r2) fun v s3 g => Got.after (k1.trans k2) g)
theorem ev_cmp {op : CmpOp} {l r : Expr} {p : Pos} {d1 d2 : D} {b : Bool} (h1 : EV prog w g₀ A H env c l d1) (h2 : EV prog w g₀ A H env c r d2) (h : COp prog w g₀ A op d1 d2 b)
    (hm : behindInMarks op r = false := by with_unfolding_all rfl) : EV prog w g₀ A H env c (.Compare l [op] [r] p) (.bool b) := fun c' k so =>
  wpAny_Compare1 (got_then (h1 c' k so) so fun v1 c1 k1 so1 r1 => got_then (h2 c1 (k.trans k1) so1) so1 fun v2 c2 k2 so2 r2 =>
    ne_mono (h H c2 v1 v2 so2 (r1.kp so1 k2) r2) fun v s3 ⟨c3, e3, k3, r3⟩ => ⟨c3, e3, (k1.trans k2).trans k3, by rw [Rep]; exact r3⟩) hm
theorem tv_cmp {op : CmpOp} {l r : Expr} {p : Pos} {d1 d2 : D} {b : Bool} (h1 : EV prog w g₀ A H env c l d1) (h2 : EV prog w g₀ A H env c r d2) (h : COp prog w g₀ A op d1 d2 b)
    (hm : behindInMarks op r = false := by with_unfolding_all rfl) : TV prog w g₀ A H env c (.Compare l [op] [r] p) b := fun c' k so =>
  wpAny_isTrue_Compare1 (got_then (h1 c' k so) so fun v1 c1 k1 so1 r1 => got_then (h2 c1 (k.trans k1) so1) so1 fun v2 c2 k2 so2 r2 =>
    told_then (h H c2 v1 v2 so2 (r1.kp so1 k2) r2) so2 fun v c3 k3 so3 e3 => by subst e3; exact wpAny_truthy_bool ⟨c3, rfl, (k1.trans k2).trans k3, rfl⟩) hm
theorem tv_not {x : Expr} {p : Pos} {b : Bool} (h : TV prog w g₀ A H env c x b) : TV prog w g₀ A H env c (.UnaryOp .Not x p) (!b) := fun c' k so =>
  wpAny_isTrue_Not (ne_mono (h c' k so) fun x s1 ⟨c1, e1, k1, r1⟩ => ⟨c1, e1, k1, by rw [r1]⟩)
theorem ev_if {t x y : Expr} {p : Pos} {b : Bool} {d : D} (ht : TV prog w g₀ A H env c t b) (h1 : b = true → EV prog w g₀ A H env c x d) (h2 : b = false → EV prog w g₀ A H env c y d) :
    EV prog w g₀ A H env c (.IfExp t x y p) d := fun c' k so => by
  refine wpAny_IfExp (told_then (ht c' k so) so fun b' c1 k1 so1 e => ?_)
  subst e
  cases b' with
  | true => exact ne_mono (h1 rfl c1 (k.trans k1) so1) fun v s2 g => Got.after k1 g
  | false => exact ne_mono (h2 rfl c1 (k.trans k1) so1) fun v s2 g => Got.after k1 g
end
end Mine
end
noncomputable section
open PySem PySem.W PyProof.Rows
namespace Mine
open PySem.Float64

noncomputable def Fits (n : Int) : Prop := ∃ m k : Nat, n.natAbs = m * 2 ^ k ∧ m < 2 ^ 53 ∧ k ≤ 200
theorem fits_of {n : Int} (h : n.natAbs < 2 ^ 53) : Fits n := ⟨n.natAbs, 0, by simp, h, by lia⟩
theorem fits_k {n m : Int} (k : Nat) (e : n = m * 2 ^ k) (h : m.natAbs < 2 ^ 53) (hk : k ≤ 200) : Fits n := ⟨m.natAbs, k, by rw [e, Int.natAbs_mul, Int.natAbs_pow]; rfl, h, hk⟩

theorem V_ex : ∀ (k m : Nat), m < 2 ^ 53 → k ≤ 1500 → ∃ t, V t = m * 2 ^ k
  | 0, m, h, _ => ⟨0 * 2 ^ 52 + m, by rw [V_at (by lia) (.inr rfl)]⟩
  | k + 1, m, h, hk => by
    by_cases h2 : 2 ^ 52 ≤ m
    · exact ⟨(k + 1) * 2 ^ 52 + m, V_at (by lia) (.inl h2)⟩
    · obtain ⟨t, e⟩ := V_ex k (2 * m) (by lia) (by lia)
      exact ⟨t, by rw [e, Nat.pow_succ]; ac_rfl⟩

theorem fv_right {r : UInt64} {neg : Bool} {W D i : Nat} (h : Right r neg W D) (hD : 0 < D) (e : W = D * (i * 2 ^ 1014)) (f : ∃ m k : Nat, i = m * 2 ^ k ∧ m < 2 ^ 53 ∧ k ≤ 200) :
    (∃ s m e, decode r = .fin s m e) ∧ val r = sgn neg (i * 2 ^ 1014) := by
  obtain ⟨t, rfl, hle, hov, hn⟩ := h
  obtain ⟨m, k, rfl, hm, hk⟩ := f
  have hV : ∃ t', V t' = m * 2 ^ k * 2 ^ 1014 := by
    obtain ⟨t', e'⟩ := V_ex (k + 1014) m hm (by lia)
    exact ⟨t', by rw [e', Nat.pow_add, Nat.mul_assoc]⟩
  obtain ⟨t', ht'⟩ := hV
  have hlt : t < infMag := by
    rcases Nat.lt_or_ge t infMag with q | q
    · exact q
    · exfalso
      have ht : t = infMag := by lia
      have := hov.mp ht
      rw [e] at this
      have h1 : m * 2 ^ k * 2 ^ 1014 < 2 ^ 53 * 2 ^ 200 * 2 ^ 1014 := by
        have a1 : m * 2 ^ k < 2 ^ 53 * 2 ^ k := Nat.mul_lt_mul_of_pos_right hm (Nat.two_pow_pos _)
        have a2 : 2 ^ 53 * 2 ^ k ≤ 2 ^ 53 * 2 ^ 200 := Nat.mul_le_mul_left _ (Nat.pow_le_pow_right (by decide) hk)
        exact Nat.mul_lt_mul_of_pos_right (Nat.lt_of_lt_of_le a1 a2) (Nat.two_pow_pos _)
      have h2 : 2 * (2 ^ 53 * 2 ^ 200 * 2 ^ 1014) ≤ (2 ^ 54 - 1) * 2 ^ 2045 := by decide +kernel
      have h3 : 2 * (D * (m * 2 ^ k * 2 ^ 1014)) < D * ((2 ^ 54 - 1) * 2 ^ 2045) := by
        generalize m * 2 ^ k * 2 ^ 1014 = X at *
        generalize 2 ^ 53 * 2 ^ 200 * 2 ^ 1014 = Y at *
        generalize (2 ^ 54 - 1) * 2 ^ 2045 = Z at *
        have : D * (2 * X) < D * Z := Nat.mul_lt_mul_of_pos_left (by lia) hD
        have e2 : 2 * (D * X) = D * (2 * X) := by ac_rfl
        lia
      lia
  have hd := (hn hlt t').1
  have hz : dist W (D * V t') = 0 := by rw [ht', e]; simp [dist]
  have hv : W = D * V t := by unfold dist at hd hz; lia
  have hV : V t = m * 2 ^ k * 2 ^ 1014 := Nat.eq_of_mul_eq_mul_left hD (by rw [← hv, e])
  obtain ⟨m', e', hdec, _⟩ := decode_pack neg hlt
  exact ⟨⟨_, _, _, hdec⟩, by rw [val_pack neg hlt, hV]⟩

theorem sgn_int {neg : Bool} {n : Int} (h : n ≠ 0 → neg = decide (n < 0)) : sgn neg n.natAbs = n := by
  unfold sgn
  by_cases hz : n = 0
  · subst hz; simp
  · rw [h hz]
    by_cases hn : n < 0
    · simp [hn]; lia
    · simp [hn]; lia
theorem fv_of {r : UInt64} {neg : Bool} {W D : Nat} {n : Int} (h : Right r neg W D) (hD : 0 < D) (e : W = D * (n.natAbs * 2 ^ 1014)) (f : Fits n) (hs : n ≠ 0 → neg = decide (n < 0)) : FV r n := by
  obtain ⟨h1, h2⟩ := fv_right h hD e f
  refine ⟨h1, ?_⟩
  rw [h2, sgn_mul, sgn_int hs]
  congr 1
theorem fv_zero (s : Bool) : FV (zero s) 0 := by
  have hlt : 0 < infMag := by decide
  obtain ⟨m', e', hdec, _⟩ := decode_pack s hlt
  refine ⟨⟨_, _, _, hdec⟩, ?_⟩
  show val (pack s 0) = _
  rw [val_pack s hlt, V_zero]
  cases s <;> simp [sgn]

theorem K_pos : (0 : Int) < 2 ^ 1014 := by decide +kernel
theorem fv_add {a b : UInt64} {i j : Int} (ha : FV a i) (hb : FV b j) (f : Fits (i + j)) : FV (add a b) (i + j) := by
  obtain ⟨⟨s, m, e, da⟩, va⟩ := ha
  obtain ⟨⟨s', m', e', db⟩, vb⟩ := hb
  have h := add_right da db
  rw [va, vb, ← Int.add_mul] at h
  have hk := K_pos
  have hna : ((2 : Int) ^ 1014).natAbs = 2 ^ 1014 := by decide +kernel
  generalize hK : (2 : Int) ^ 1014 = K at *
  by_cases hz : i + j = 0
  · rw [h.1 (by rw [hz]; simp), hz]; exact fv_zero _
  · have hne : (i + j) * K ≠ 0 := Int.mul_ne_zero hz (by lia)
    refine fv_of (h.2 hne) (by decide) ?_ f fun _ => ?_
    · rw [Int.natAbs_mul, hna]; simp
    · apply decide_eq_decide.mpr
      constructor
      · intro q
        rcases Int.lt_or_le (i + j) 0 with z | z
        · exact z
        · have := Int.mul_nonneg z (Int.le_of_lt hk); lia
      · intro q; exact Int.mul_neg_of_neg_of_pos q hk
theorem fv_neg {b : UInt64} {j : Int} (hb : FV b j) : FV (neg b) (-j) := by
  obtain ⟨⟨s', m', e', db⟩, vb⟩ := hb
  exact ⟨⟨_, _, _, neg_decode db⟩, by rw [neg_val db, vb, Int.neg_mul]⟩
theorem fv_sub {a b : UInt64} {i j : Int} (ha : FV a i) (hb : FV b j) (f : Fits (i - j)) : FV (sub a b) (i - j) := by
  have := fv_add ha (fv_neg hb) (by rw [← Int.sub_eq_add_neg]; exact f)
  rw [← Int.sub_eq_add_neg] at this
  unfold PySem.Float64.sub
  exact this
theorem val_sign {x : UInt64} {a : Bool} {m : Nat} {e : Int} (h : decode x = .fin a m e) (hv : val x ≠ 0) : a = decide (val x < 0) := by
  rw [val_eq h] at hv ⊢
  generalize m * 2 ^ (e + 1074).toNat = W at *
  unfold sgn at *
  cases a <;> simp at hv ⊢ <;> lia
theorem fv_sign {x : UInt64} {i : Int} {a : Bool} {m : Nat} {e : Int} (h : FV x i) (d : decode x = .fin a m e) (hi : i ≠ 0) : a = decide (i < 0) := by
  have hk := K_pos
  have hv := h.2
  generalize hK : (2 : Int) ^ 1014 = K at *
  rw [val_sign d (by rw [hv]; exact Int.mul_ne_zero hi (by lia)), hv]
  apply decide_eq_decide.mpr
  constructor
  · intro q
    rcases Int.lt_or_le i 0 with z | z
    · exact z
    · have := Int.mul_nonneg z (Int.le_of_lt hk); lia
  · intro q; exact Int.mul_neg_of_neg_of_pos q hk
theorem fv_mul {a b : UInt64} {i j n : Int} (ha : FV a i) (hb : FV b j) (e : i * j = n * 2 ^ 60) (f : Fits n) : FV (mul a b) n := by
  obtain ⟨s, m, x, da⟩ := ha.1
  obtain ⟨s', m', x', db⟩ := hb.1
  have h := mul_right da db
  rw [ha.2, hb.2] at h
  refine fv_of h (Nat.two_pow_pos _) ?_ f fun hn => ?_
  · rw [Int.natAbs_mul, Int.natAbs_mul]
    have e1 : i.natAbs * j.natAbs = n.natAbs * 2 ^ 60 := by
      have := congrArg Int.natAbs e
      rw [Int.natAbs_mul, Int.natAbs_mul] at this
      exact this
    have hna : ((2 : Int) ^ 1014).natAbs = 2 ^ 1014 := by decide +kernel
    rw [hna]
    calc i.natAbs * 2 ^ 1014 * (j.natAbs * 2 ^ 1014) = (i.natAbs * j.natAbs) * 2 ^ 1014 * 2 ^ 1014 := by
          generalize (2 : Nat) ^ 1014 = K
          ac_rfl
      _ = n.natAbs * 2 ^ 60 * 2 ^ 1014 * 2 ^ 1014 := by rw [e1]
      _ = 2 ^ 1074 * (n.natAbs * 2 ^ 1014) := by
        have : (2 : Nat) ^ 1074 = 2 ^ 60 * 2 ^ 1014 := by rw [← Nat.pow_add]
        rw [this]
        generalize (2 : Nat) ^ 1014 = K
        generalize (2 : Nat) ^ 60 = P
        ac_rfl
  · have hij : i * j ≠ 0 := by rw [e]; exact Int.mul_ne_zero hn (by decide +kernel)
    have hi : i ≠ 0 := fun q => hij (by rw [q]; first | exact Int.zero_mul _ | exact Int.mul_zero _)
    have hj : j ≠ 0 := fun q => hij (by rw [q]; first | exact Int.zero_mul _ | exact Int.mul_zero _)
    rw [fv_sign ha da hi, fv_sign hb db hj]
    have hp : (0 : Int) < 2 ^ 60 := by decide +kernel
    generalize (2 : Int) ^ 60 = P at *
    rcases Int.lt_or_le i 0 with q1 | q1 <;> rcases Int.lt_or_le j 0 with q2 | q2
    · have := Int.mul_pos_of_neg_of_neg q1 q2
      have hn' : ¬ n < 0 := fun z => by have := Int.mul_neg_of_neg_of_pos z hp; lia
      simp [q1, q2, hn']
    · have := Int.mul_neg_of_neg_of_pos q1 (by lia : 0 < j)
      have hn' : n < 0 := by
        rcases Int.lt_or_le n 0 with z | z
        · exact z
        · have := Int.mul_nonneg z (Int.le_of_lt hp); lia
      have : ¬ j < 0 := by lia
      simp [q1, this, hn']
    · have := Int.mul_neg_of_pos_of_neg (by lia : 0 < i) q2
      have hn' : n < 0 := by
        rcases Int.lt_or_le n 0 with z | z
        · exact z
        · have := Int.mul_nonneg z (Int.le_of_lt hp); lia
      have : ¬ i < 0 := by lia
      simp [q2, this, hn']
    · have := Int.mul_pos (by lia : 0 < i) (by lia : 0 < j)
      have hn' : ¬ n < 0 := fun z => by have := Int.mul_neg_of_neg_of_pos z hp; lia
      have : ¬ i < 0 := by lia
      have : ¬ j < 0 := by lia
      simp [*]

theorem fv_div {a b : UInt64} {i j n : Int} (ha : FV a i) (hb : FV b j) (hj : j ≠ 0) (e : i * 2 ^ 60 = n * j) (f : Fits n) : FV (div a b) n := by
  obtain ⟨s, m, x, da⟩ := ha.1
  obtain ⟨s', m', x', db⟩ := hb.1
  have hm' : m' ≠ 0 := by
    rintro rfl
    have h1 := val_eq db
    rw [hb.2] at h1
    have h2 : sgn s' (0 * 2 ^ (x' + 1074).toNat) = 0 := by rw [Nat.zero_mul]; cases s' <;> rfl
    rw [h2] at h1
    rcases Int.mul_eq_zero.mp h1 with z | z
    · exact hj z
    · have := K_pos; lia
  have h := div_right da db hm'
  rw [ha.2, hb.2] at h
  have hna : ((2 : Int) ^ 1014).natAbs = 2 ^ 1014 := by decide +kernel
  refine fv_of h ?_ ?_ f fun hn => ?_
  · rw [Int.natAbs_mul, hna]; exact Nat.mul_pos (by lia) (Nat.two_pow_pos _)
  · rw [Int.natAbs_mul, Int.natAbs_mul, hna]
    have e1 : i.natAbs * 2 ^ 60 = n.natAbs * j.natAbs := by
      have := congrArg Int.natAbs e
      rw [Int.natAbs_mul, Int.natAbs_mul] at this
      exact this
    have e2 : (2 : Nat) ^ 1074 = 2 ^ 60 * 2 ^ 1014 := by rw [← Nat.pow_add]
    rw [e2]
    generalize (2 : Nat) ^ 1014 = K at *
    generalize (2 : Nat) ^ 60 = P at *
    calc i.natAbs * K * (P * K) = i.natAbs * P * K * K := by ac_rfl
      _ = n.natAbs * j.natAbs * K * K := by rw [e1]
      _ = j.natAbs * K * (n.natAbs * K) := by ac_rfl
  · have hnj : n * j ≠ 0 := Int.mul_ne_zero hn hj
    have hi : i ≠ 0 := fun q => hnj (by rw [← e, q]; exact Int.zero_mul _)
    rw [fv_sign ha da hi, fv_sign hb db hj]
    have hp : (0 : Int) < 2 ^ 60 := by decide +kernel
    generalize (2 : Int) ^ 60 = P at *
    have hs : (i < 0) ↔ (n * j < 0) := by
      rw [← e]
      constructor
      · intro q; exact Int.mul_neg_of_neg_of_pos q hp
      · intro q
        rcases Int.lt_or_le i 0 with z | z
        · exact z
        · have := Int.mul_nonneg z (Int.le_of_lt hp); lia
    rcases Int.lt_or_le n 0 with q1 | q1 <;> rcases Int.lt_or_le j 0 with q2 | q2
    · have := Int.mul_pos_of_neg_of_neg q1 q2
      have hi' : ¬ i < 0 := fun z => by have := hs.mp z; lia
      simp [q1, q2, hi']
    · have := Int.mul_neg_of_neg_of_pos q1 (by lia : 0 < j)
      have hi' : i < 0 := hs.mpr this
      have : ¬ j < 0 := by lia
      simp [q1, this, hi']
    · have := Int.mul_neg_of_pos_of_neg (by lia : 0 < n) q2
      have hi' : i < 0 := hs.mpr this
      have : ¬ n < 0 := by lia
      simp [q2, this, hi']
    · have := Int.mul_pos (by lia : 0 < n) (by lia : 0 < j)
      have hi' : ¬ i < 0 := fun z => by have := hs.mp z; lia
      have hn0 : ¬ n < 0 := by lia
      have hj0 : ¬ j < 0 := by lia
      rw [decide_eq_false hi', decide_eq_false hn0, decide_eq_false hj0]; rfl
theorem fv_ofInt {i : Int} (f : Fits (i * 2 ^ 60)) : FV (ofInt i) (i * 2 ^ 60) := by
  refine fv_of (ofInt_right i) (by decide) ?_ f fun h => ?_
  · rw [Int.natAbs_mul]
    have h6 : ((2 : Int) ^ 60).natAbs = 2 ^ 60 := by decide +kernel
    have e2 : (2 : Nat) ^ 1074 = 2 ^ 60 * 2 ^ 1014 := by rw [← Nat.pow_add]
    rw [h6, e2, Nat.one_mul, Nat.mul_assoc]
  · have hp : (0 : Int) < 2 ^ 60 := by decide +kernel
    generalize (2 : Int) ^ 60 = P at *
    apply decide_eq_decide.mpr
    constructor
    · intro q; exact Int.mul_neg_of_neg_of_pos q hp
    · intro q
      rcases Int.lt_or_le i 0 with z | z
      · exact z
      · have := Int.mul_nonneg z (Int.le_of_lt hp); lia
theorem fv_fin {a : UInt64} {i : Int} (ha : FV a i) : PySem.Float64.isInf a = false ∧ PySem.Float64.isNaN a = false ∧ (PySem.Float64.isZero a = decide (i = 0)) := by
  obtain ⟨s, m, x, da⟩ := ha.1
  refine ⟨by unfold PySem.Float64.isInf; rw [da], by unfold PySem.Float64.isNaN; rw [da], ?_⟩
  have hv := val_natAbs da
  rw [ha.2, Int.natAbs_mul] at hv
  have hna : ((2 : Int) ^ 1014).natAbs = 2 ^ 1014 := by decide +kernel
  rw [hna] at hv
  have h1 : 0 < (2 : Nat) ^ 1014 := Nat.two_pow_pos _
  have h2 : 0 < (2 : Nat) ^ (x + 1074).toNat := Nat.two_pow_pos _
  have hz : (i = 0) ↔ m = 0 := by
    generalize (2 : Nat) ^ 1014 = K at *
    generalize (2 : Nat) ^ (x + 1074).toNat = J at *
    constructor
    · intro q
      rw [q, Int.natAbs_zero, Nat.zero_mul] at hv
      rcases Nat.mul_eq_zero.mp hv.symm with z | z
      · exact z
      · lia
    · intro q
      rw [q, Nat.zero_mul] at hv
      rcases Nat.mul_eq_zero.mp hv with z | z
      · lia
      · lia
  unfold PySem.Float64.isZero
  rw [da]
  cases m with
  | zero => simp [hz.mpr rfl]
  | succ m => have : ¬ i = 0 := fun q => by have := hz.mp q; lia
              simp [this]
theorem cmp_scale (p q K : Int) (hK : 0 < K) : compare (p * K) (q * K) = compare p q := by
  rcases Int.lt_trichotomy p q with h | h | h
  · rw [Int.compare_eq_lt.mpr h, Int.compare_eq_lt.mpr (Int.mul_lt_mul_of_pos_right h hK)]
  · subst h; rw [Int.compare_eq_eq.mpr rfl, Int.compare_eq_eq.mpr rfl]
  · rw [Int.compare_eq_gt.mpr h, Int.compare_eq_gt.mpr (Int.mul_lt_mul_of_pos_right h hK)]
theorem fv_cmp {a b : UInt64} {i j : Int} (ha : FV a i) (hb : FV b j) : cmp a b = some (compare i j) := by
  obtain ⟨s, m, x, da⟩ := ha.1
  obtain ⟨s', m', x', db⟩ := hb.1
  rw [cmp_right da db, ha.2, hb.2, cmp_scale _ _ _ K_pos]
theorem fv_trunc {a : UInt64} {i : Int} {s : Bool} {m : Nat} {e : Int} (ha : FV a i) (h0 : 0 ≤ i) (d : decode a = .fin s m e) : truncOf s m e = i / 2 ^ 60 := by
  have hv := ha.2
  rw [val_eq d, sgn_mul] at hv
  have hge := decode_ge d
  have hK := K_pos
  have hp : (0 : Int) < ((2 ^ (e + 1074).toNat : Nat) : Int) := Int.ofNat_lt.mpr (Nat.two_pow_pos _)
  have hs0 : 0 ≤ sgn s m := by
    rcases Int.lt_or_le (sgn s m) 0 with q | q
    · exfalso
      have h1 := Int.mul_neg_of_neg_of_pos q hp
      rw [hv] at h1
      have := Int.mul_nonneg h0 (Int.le_of_lt hK)
      lia
    · exact q
  have hf : truncOf s m e = floorOf false (sgn s m).toNat e := by
    unfold truncOf
    cases s with
    | false => simp [sgn]
    | true =>
      have : m = 0 := by simp [sgn] at hs0; lia
      subst this
      unfold ceilOf floorOf sgn
      simp
  rw [hf]
  have hm : sgn false (sgn s m).toNat = sgn s m := by
    show ((sgn s m).toNat : Int) = sgn s m
    exact Int.toNat_of_nonneg hs0
  unfold floorOf
  rw [hm]
  generalize sgn s m = p at *
  have hpow : ∀ n : Nat, ((2 ^ n : Nat) : Int) = (2 : Int) ^ n := fun n => by rw [Int.natCast_pow]; rfl
  rw [hpow] at hv hp
  split
  · rename_i h
    have e1 : (e + 1074).toNat = e.toNat + 60 + 1014 := by lia
    rw [e1, Int.pow_add, Int.pow_add] at hv
    have hv2 : p * (2 ^ e.toNat * 2 ^ 60) = i := by
      refine Int.eq_of_mul_eq_mul_right (Int.ne_of_gt hK) ?_
      rw [← hv]
      generalize (2 : Int) ^ 1014 = K
      generalize (2 : Int) ^ 60 = P
      ac_rfl
    rw [← hv2, ← Int.mul_assoc, Int.mul_ediv_cancel _ (by decide +kernel)]
  · rename_i h
    rw [Int.fdiv_eq_ediv_of_nonneg _ (by exact Int.le_of_lt (Int.pow_pos (by decide)))]
    by_cases h6 : -60 ≤ e
    · have e1 : (e + 1074).toNat = (e + 60).toNat + 1014 := by lia
      rw [e1, Int.pow_add] at hv
      have hv2 : p * 2 ^ (e + 60).toNat = i := by
        refine Int.eq_of_mul_eq_mul_right (Int.ne_of_gt hK) ?_
        rw [← hv]
        generalize (2 : Int) ^ 1014 = K
        ac_rfl
      have e2 : (2 : Int) ^ 60 = 2 ^ (-e).toNat * 2 ^ (e + 60).toNat := by rw [← Int.pow_add]; congr 1; lia
      rw [← hv2, e2, Int.mul_ediv_mul_of_pos_left _ _ (Int.pow_pos (by decide))]
    · have e1 : (1014 : Nat) = (e + 1074).toNat + (-(e + 60)).toNat := by lia
      have hv2 : p = i * 2 ^ (-(e + 60)).toNat := by
        refine Int.eq_of_mul_eq_mul_right (Int.ne_of_gt hp) ?_
        rw [hv]
        have : (2 : Int) ^ 1014 = 2 ^ (e + 1074).toNat * 2 ^ (-(e + 60)).toNat := by rw [← Int.pow_add, ← e1]
        rw [this]
        ac_rfl
      have e2 : (2 : Int) ^ (-e).toNat = 2 ^ 60 * 2 ^ (-(e + 60)).toNat := by rw [← Int.pow_add]; congr 1; lia
      rw [hv2, e2, Int.mul_ediv_mul_of_pos_left _ _ (Int.pow_pos (by decide))]

theorem fv_ofBin {neg : Bool} {m : Nat} {g n : Int} (hg : -1074 ≤ g) (e : m * 2 ^ (g + 1074).toNat = n.natAbs * 2 ^ 1014) (f : Fits n) (hs : n ≠ 0 → neg = decide (n < 0)) : FV (ofBin neg m g) n := by
  unfold ofBin
  refine fv_of (W := m * 2 ^ (g + 1074).toNat) (D := 1) (ofFrac_right (shift_pos _ _ _ (by decide)) ?_ (by decide)) (by decide) (by rw [e, Nat.one_mul]) f hs
  rw [Nat.mul_one]
  exact shift_one m g 1074 (by lia)
theorem fv_fmod {a b : UInt64} {i : Int} (ha : FV a i) (hb : FV b (2 ^ 60)) (f : Fits (i.tmod (2 ^ 60))) : FV (fmod a b) (i.tmod (2 ^ 60)) := by
  obtain ⟨s, m, x, da⟩ := ha.1
  obtain ⟨s', k, y, db⟩ := hb.1
  have hk : k ≠ 0 := by
    rintro rfl
    have := (fv_fin hb).2.2
    unfold PySem.Float64.isZero at this
    rw [db] at this
    rw [decide_eq_false (by decide +kernel : ¬ (2 : Int) ^ 60 = 0)] at this
    cases this
  have hx := decode_ge da
  have hy := decode_ge db
  have va := val_natAbs da
  have vb := val_natAbs db
  rw [ha.2, Int.natAbs_mul] at va
  rw [hb.2, Int.natAbs_mul] at vb
  have hna : ((2 : Int) ^ 1014).natAbs = 2 ^ 1014 := by decide +kernel
  have hn6 : ((2 : Int) ^ 60).natAbs = 2 ^ 60 := by decide +kernel
  rw [hna] at va vb
  rw [hn6] at vb
  have hf : fmod a b = ofBin s ((m * 2 ^ (x - min x y).toNat) % (k * 2 ^ (y - min x y).toNat)) (min x y) := by
    unfold fmod
    rw [da, db]
    simp only
    rw [if_neg (by simpa using hk)]
    rfl
  rw [hf]
  have hab : (i.tmod (2 ^ 60)).natAbs = i.natAbs % 2 ^ 60 := by rw [Int.natAbs_tmod, hn6]
  refine fv_ofBin (by lia) ?_ f fun hz => ?_
  · have e1 : m * 2 ^ (x - min x y).toNat * 2 ^ (min x y + 1074).toNat = i.natAbs * 2 ^ 1014 := by
      rw [va, Nat.mul_assoc, ← Nat.pow_add, show (x - min x y).toNat + (min x y + 1074).toNat = (x + 1074).toNat by lia]
    have e2 : k * 2 ^ (y - min x y).toNat * 2 ^ (min x y + 1074).toNat = 2 ^ 60 * 2 ^ 1014 := by
      rw [vb, Nat.mul_assoc, ← Nat.pow_add, show (y - min x y).toNat + (min x y + 1074).toNat = (y + 1074).toNat by lia]
    rw [← Nat.mul_mod_mul_right, e1, e2, hab, Nat.mul_mod_mul_right]
  · have hi : i ≠ 0 := fun q => hz (by rw [q]; exact Int.zero_tmod _)
    rw [fv_sign ha da hi]
    apply decide_eq_decide.mpr
    have hp : (0 : Int) < 2 ^ 60 := by decide +kernel
    constructor
    · intro q
      rcases Int.lt_or_le (i.tmod (2 ^ 60)) 0 with z | z
      · exact z
      · exfalso
        have := Int.neg_tmod i (2 ^ 60)
        have h2 := Int.tmod_nonneg (2 ^ 60) (show 0 ≤ -i by lia)
        lia
    · intro q
      rcases Int.lt_or_le i 0 with z | z
      · exact z
      · have := Int.tmod_nonneg (2 ^ 60) z; lia
theorem fv_mod1 {a b : UInt64} {i : Int} (ha : FV a i) (hb : FV b (2 ^ 60)) (f : Fits (i.tmod (2 ^ 60))) (f' : Fits (i % 2 ^ 60)) : FV (divmod a b).2 (i % 2 ^ 60) := by
  have hm := fv_fmod ha hb f
  have hp : (0 : Int) < 2 ^ 60 := by decide +kernel
  have hz := (fv_fin hm).2.2
  have hbn := (fv_fin hb).2.1
  unfold divmod
  simp only
  by_cases h0 : i.tmod (2 ^ 60) = 0
  · have he : i % 2 ^ 60 = 0 := Int.emod_eq_zero_of_dvd (Int.dvd_of_tmod_eq_zero h0)
    rw [h0] at hz
    rw [if_pos (by rw [hz]; rfl), he]
    show FV (copysign (zero false) b) 0
    have hc : copysign (zero false) b = zero (signBit b) := by
      unfold copysign
      have h1 : PySem.Float64.isNaN (zero false) = false := by decide +kernel
      rw [if_neg (by rw [h1]; decide)]
      have h2 : (zero false).toNat % 2 ^ 63 = 0 := by decide +kernel
      rw [h2]; rfl
    rw [hc]; exact fv_zero _
  · rw [if_neg (by rw [hz, decide_eq_false h0]; decide)]
    have hl1 : PySem.Float64.lt b (zero false) = false := by
      unfold PySem.Float64.lt
      rw [fv_cmp hb (fv_zero false)]
      rw [Int.compare_eq_gt.mpr hp]; rfl
    have hl2 : PySem.Float64.lt (fmod a b) (zero false) = decide (i.tmod (2 ^ 60) < 0) := by
      unfold PySem.Float64.lt
      rw [fv_cmp hm (fv_zero false)]
      rcases Int.lt_trichotomy (i.tmod (2 ^ 60)) 0 with q | q | q
      · rw [Int.compare_eq_lt.mpr q, decide_eq_true q]; rfl
      · exact absurd q h0
      · rw [Int.compare_eq_gt.mpr q, decide_eq_false (by lia)]; rfl
    rw [hl1, hl2]
    by_cases hneg : i.tmod (2 ^ 60) < 0
    · rw [decide_eq_true hneg, if_pos (by decide)]
      show FV (add (fmod a b) b) (i % 2 ^ 60)
      have he : i.tmod (2 ^ 60) + 2 ^ 60 = i % 2 ^ 60 := by
        have := @Int.emod_eq_tmod i (2 ^ 60)
        have hi : ¬ 0 ≤ i := fun z => by have := Int.tmod_nonneg (2 ^ 60) z; lia
        have hd : ¬ ((2 : Int) ^ 60 ∣ i) := fun z => h0 (Int.tmod_eq_zero_of_dvd z)
        rw [this, if_neg (by lia)]
        rfl
      rw [← he]
      exact fv_add hm hb (by rw [he]; exact f')
    · rw [decide_eq_false hneg, if_neg (by decide)]
      show FV (fmod a b) (i % 2 ^ 60)
      have he : i.tmod (2 ^ 60) = i % 2 ^ 60 := by
        have hi : 0 ≤ i := by
          rcases Int.lt_or_le i 0 with z | z
          · exfalso
            have := Int.neg_tmod i (2 ^ 60)
            have h2 := Int.tmod_nonneg (2 ^ 60) (show 0 ≤ -i by lia)
            lia
          · exact z
        exact Int.tmod_eq_emod_of_nonneg hi
      rw [← he]; exact hm
end Mine
end
noncomputable section
open PySem PySem.W PyProof.Rows
namespace Mine

/-! ## lists of data -/
section
variable {H : List Addr} {c : Cf} {g₀ : Heap}
theorem RepL.nil : RepL H c [] [] := by rw [RepL]
theorem RepL.cons {d : D} {ds : List D} {v : Value} {vs : List Value} (h : Rep H c d v) (r : RepL H c ds vs) : RepL H c (d :: ds) (v :: vs) := by rw [RepL]; exact ⟨v, vs, rfl, h, r⟩
theorem RepL.nil_inv {vs : List Value} (r : RepL H c [] vs) : vs = [] := by rw [RepL] at r; exact r
theorem RepL.cons_inv {d : D} {ds : List D} {vs : List Value} (r : RepL H c (d :: ds) vs) : ∃ v r, vs = v :: r ∧ Rep H c d v ∧ RepL H c ds r := by rw [RepL] at r; exact r
theorem RepL.length : ∀ {l : List D} {vs : List Value}, RepL H c l vs → vs.length = l.length
  | [], vs, r => by rw [r.nil_inv]; rfl
  | d :: ds, vs, r => by obtain ⟨v, q, rfl, _, r'⟩ := r.cons_inv; rw [List.length_cons, List.length_cons, RepL.length r']
theorem RepL.get : ∀ {l : List D} {vs : List Value} {i : Nat} {d : D}, RepL H c l vs → l[i]? = some d → ∃ v, vs[i]? = some v ∧ Rep H c d v
  | [], vs, i, d, r, e => by simp at e
  | d :: ds, vs, 0, d', r, e => by obtain ⟨v, q, rfl, h, r'⟩ := r.cons_inv; simp at e; subst e; exact ⟨v, rfl, h⟩
  | d :: ds, vs, i + 1, d', r, e => by obtain ⟨v, q, rfl, h, r'⟩ := r.cons_inv; simp at e; simpa using RepL.get r' e
theorem RepL.get' : ∀ {l : List D} {vs : List Value} {i : Nat} {v : Value}, RepL H c l vs → vs[i]? = some v → ∃ d, l[i]? = some d ∧ Rep H c d v
  | [], vs, i, d, r, e => by rw [r.nil_inv] at e; simp at e
  | d :: ds, vs, 0, d', r, e => by obtain ⟨v, q, rfl, h, r'⟩ := r.cons_inv; simp at e; subst e; exact ⟨d, rfl, h⟩
  | d :: ds, vs, i + 1, d', r, e => by obtain ⟨v, q, rfl, h, r'⟩ := r.cons_inv; simp at e; simpa using RepL.get' r' e
theorem RepL.of : ∀ {l : List D} {vs : List Value}, vs.length = l.length → (∀ (i : Nat) d v, l[i]? = some d → vs[i]? = some v → Rep H c d v) → RepL H c l vs
  | [], [], _, _ => .nil
  | [], _ :: _, e, _ => by simp at e
  | _ :: _, [], e, _ => by simp at e
  | d :: ds, v :: vs, e, h => .cons (h 0 d v rfl rfl) (RepL.of (by simpa using e) fun i d v e1 e2 => h (i + 1) d v (by simpa using e1) (by simpa using e2))
theorem RepL.append : ∀ {l l' : List D} {vs vs' : List Value}, RepL H c l vs → RepL H c l' vs' → RepL H c (l ++ l') (vs ++ vs')
  | [], l', vs, vs', r, r' => by rw [r.nil_inv]; exact r'
  | d :: ds, l', vs, vs', r, r' => by obtain ⟨v, q, rfl, h, r₁⟩ := r.cons_inv; exact .cons h (RepL.append r₁ r')
theorem RepL.take {l : List D} {vs : List Value} (r : RepL H c l vs) (n : Nat) : RepL H c (l.take n) (vs.take n) :=
  .of (by rw [List.length_take, List.length_take, r.length]) fun i d v e1 e2 => by
    rw [List.getElem?_take] at e1 e2
    split at e1
    · rename_i hi; rw [if_pos hi] at e2; obtain ⟨v', e, h⟩ := r.get e1; rw [e] at e2; cases e2; exact h
    · cases e1
theorem RepL.drop {l : List D} {vs : List Value} (r : RepL H c l vs) (n : Nat) : RepL H c (l.drop n) (vs.drop n) :=
  .of (by rw [List.length_drop, List.length_drop, r.length]) fun i d v e1 e2 => by
    rw [List.getElem?_drop] at e1 e2
    obtain ⟨v', e, h⟩ := r.get e1; rw [e] at e2; cases e2; exact h
theorem RepL.reverse {l : List D} {vs : List Value} (r : RepL H c l vs) : RepL H c l.reverse vs.reverse := by
  induction l generalizing vs with
  | nil => rw [r.nil_inv]; exact .nil
  | cons d ds ih => obtain ⟨v, q, rfl, h, r₁⟩ := r.cons_inv; rw [List.reverse_cons, List.reverse_cons]; exact (ih r₁).append (.cons h .nil)
theorem RepL.replicate {l : List D} {vs : List Value} (r : RepL H c l vs) : ∀ n, RepL H c (List.replicate n l).flatten (List.replicate n vs).flatten
  | 0 => .nil
  | n + 1 => by rw [List.replicate_succ, List.replicate_succ, List.flatten_cons, List.flatten_cons]; exact r.append (r.replicate n)
theorem Rep.list_inv {l : List D} {v : Value} (r : Rep H c (.list l) v) : ∃ a vs n, v = .ref a ∧ a ∉ H ∧ c.heap.get? a = some { cls := .type "list", data := .seq vs.toArray n } ∧ RepL H c l vs := by rw [Rep] at r; exact r
theorem Rep.tup_inv {l : List D} {v : Value} (r : Rep H c (.tup l) v) : ∃ a vs n, v = .ref a ∧ a ∉ H ∧ c.heap.get? a = some { cls := .type "tuple", data := .seq vs.toArray n } ∧ RepL H c l vs := by rw [Rep] at r; exact r
theorem Rep.int_inv {i : Int} {v : Value} (r : Rep H c (.int i) v) : ∃ t, v = .int i t := by rw [Rep] at r; exact r
theorem Rep.flt_inv {i : Int} {v : Value} (r : Rep H c (.flt i) v) : ∃ b t, v = .float b t ∧ FV b i ∧ 0 < t ∧ t < c.s.toks ∧ c.τ t = b := by rw [Rep] at r; exact r
theorem Rep.bool_inv {b : Bool} {v : Value} (r : Rep H c (.bool b) v) : v = .bool b := by rw [Rep] at r; exact r
theorem Rep.none_inv {v : Value} (r : Rep H c .none v) : v = .none := by rw [Rep] at r; exact r
theorem Rep.int {i : Int} {t : Tok} : Rep H c (.int i) (.int i t) := by rw [Rep]; exact ⟨_, rfl⟩
theorem Rep.bool {b : Bool} : Rep H c (.bool b) (.bool b) := by rw [Rep]
theorem Rep.none : Rep H c .none .none := by rw [Rep]
theorem Rep.list {l : List D} {a : Addr} {vs : List Value} {n : Nat} (h1 : a ∉ H) (h2 : c.heap.get? a = some { cls := .type "list", data := .seq vs.toArray n }) (h3 : RepL H c l vs) : Rep H c (.list l) (.ref a) := by
  rw [Rep]; exact ⟨a, vs, n, rfl, h1, h2, h3⟩
theorem Rep.tup {l : List D} {a : Addr} {vs : List Value} {n : Nat} (h1 : a ∉ H) (h2 : c.heap.get? a = some { cls := .type "tuple", data := .seq vs.toArray n }) (h3 : RepL H c l vs) : Rep H c (.tup l) (.ref a) := by
  rw [Rep]; exact ⟨a, vs, n, rfl, h1, h2, h3⟩
theorem Got.newList {l : List D} {its : Array Value} (so : SOk g₀ H c) (r : RepL H c l its.toList) : Got H c (.list l) (.ref c.heap.objs.size) { c.s with heap := c.heap.push { cls := .type "list", data := .seq its } } := by
  have k : Kp c (c.put (c.heap.push { cls := .type "list", data := .seq its }) c.s.toks) := .of (fun _ _ e => Heap.get?_push_of_some _ e) (Nat.le_refl _)
  refine ⟨_, rfl, k, Rep.list (vs := its.toList) (n := 0) (so.fresh (get_size _)) ?_ (r.kp so k)⟩
  rw [Array.toArray_toList]
  exact Heap.get?_push_size _ rfl
theorem Got.newTup {l : List D} {its : Array Value} (so : SOk g₀ H c) (r : RepL H c l its.toList) : Got H c (.tup l) (.ref c.heap.objs.size) { c.s with heap := c.heap.push { cls := .type "tuple", data := .seq its } } := by
  have k : Kp c (c.put (c.heap.push { cls := .type "tuple", data := .seq its }) c.s.toks) := .of (fun _ _ e => Heap.get?_push_of_some _ e) (Nat.le_refl _)
  refine ⟨_, rfl, k, Rep.tup (vs := its.toList) (n := 0) (so.fresh (get_size _)) ?_ (r.kp so k)⟩
  rw [Array.toArray_toList]
  exact Heap.get?_push_size _ rfl
end

/-! ## operators -/
section
variable {prog : Program} {w : World} {g₀ : Heap} {A : Around} {a b : Int}
theorem op_add : BOp prog w g₀ A .Add (.int a) (.int b) (.int (a + b)) := fun H c v1 v2 so r1 r2 => by
  obtain ⟨t, rfl⟩ := r1.int_inv; obtain ⟨u, rfl⟩ := r2.int_inv; exact PyProof.Rows.add_int Got.int
theorem op_sub : BOp prog w g₀ A .Sub (.int a) (.int b) (.int (a - b)) := fun H c v1 v2 so r1 r2 => by
  obtain ⟨t, rfl⟩ := r1.int_inv; obtain ⟨u, rfl⟩ := r2.int_inv; exact PyProof.Rows.sub_int Got.int
theorem op_mul (hm : IntMulOk a b) : BOp prog w g₀ A .Mult (.int a) (.int b) (.int (a * b)) := fun H c v1 v2 so r1 r2 => by
  obtain ⟨t, rfl⟩ := r1.int_inv; obtain ⟨u, rfl⟩ := r2.int_inv; exact PyProof.Rows.mul_int Got.int hm
theorem mul_ok_left (h1 : -(2 ^ 64) < a) (h2 : a < 2 ^ 64) : IntMulOk a b := .of_left (intBits_le_64 h1 h2)
theorem mul_ok_right (h1 : -(2 ^ 64) < b) (h2 : b < 2 ^ 64) : IntMulOk a b := .of_right (intBits_le_64 h1 h2)
theorem op_mod (hb : b ≠ 0) : BOp prog w g₀ A .Mod (.int a) (.int b) (.int (a.fmod b)) := fun H c v1 v2 so r1 r2 => by
  obtain ⟨t, rfl⟩ := r1.int_inv; obtain ⟨u, rfl⟩ := r2.int_inv; exact PyProof.Rows.mod_int hb Got.int
theorem op_modp (hb : 0 < b) : BOp prog w g₀ A .Mod (.int a) (.int b) (.int (a % b)) := by
  have := op_mod (prog := prog) (w := w) (g₀ := g₀) (A := A) (a := a) (b := b) (by lia)
  rw [Int.fmod_eq_emod_of_nonneg _ (by lia)] at this; exact this
theorem op_fdiv (hb : b ≠ 0) (hs : b.natAbs < 1073741824) : BOp prog w g₀ A .FloorDiv (.int a) (.int b) (.int (a.fdiv b)) := fun H c v1 v2 so r1 r2 => by
  obtain ⟨t, rfl⟩ := r1.int_inv; obtain ⟨u, rfl⟩ := r2.int_inv; exact PyProof.Rows.floordiv_int hb Got.int (.inl (PyProof.noPylong_small hs))
theorem op_fdivp (hb : 0 < b) (hs : b < 1073741824) : BOp prog w g₀ A .FloorDiv (.int a) (.int b) (.int (a / b)) := by
  have := op_fdiv (prog := prog) (w := w) (g₀ := g₀) (A := A) (a := a) (b := b) (by lia) (by lia)
  rw [Int.fdiv_eq_ediv_of_nonneg _ (by lia)] at this; exact this
theorem op_pow (hn : 0 ≤ b) (hsz : (Builtin.Int.intBits a : Int) * b ≤ 2 ^ 27) : BOp prog w g₀ A .Pow (.int a) (.int b) (.int (a ^ b.toNat)) := fun H c v1 v2 so r1 r2 => by
  obtain ⟨t, rfl⟩ := r1.int_inv; obtain ⟨u, rfl⟩ := r2.int_inv; exact PyProof.Rows.pow_int hn hsz Got.int
theorem op_shl (hn : 0 ≤ b) (hsz : (Builtin.Int.intBits a : Int) + b ≤ 2 ^ 27) : BOp prog w g₀ A .LShift (.int a) (.int b) (.int (a * 2 ^ b.toNat)) := fun H c v1 v2 so r1 r2 => by
  obtain ⟨t, rfl⟩ := r1.int_inv; obtain ⟨u, rfl⟩ := r2.int_inv; exact PyProof.Rows.lshift_int hn hsz Got.int
theorem op_shr (hn : 0 ≤ b) : BOp prog w g₀ A .RShift (.int a) (.int b) (.int (a.fdiv (2 ^ b.toNat))) := fun H c v1 v2 so r1 r2 => by
  obtain ⟨t, rfl⟩ := r1.int_inv; obtain ⟨u, rfl⟩ := r2.int_inv; exact PyProof.Rows.rshift_int hn Got.int
theorem op_and : BOp prog w g₀ A .BitAnd (.int a) (.int b) (.int (Builtin.bitAnd a b)) := fun H c v1 v2 so r1 r2 => by
  obtain ⟨t, rfl⟩ := r1.int_inv; obtain ⟨u, rfl⟩ := r2.int_inv; exact PyProof.Rows.and_int Got.int
theorem op_or : BOp prog w g₀ A .BitOr (.int a) (.int b) (.int (Builtin.bitOr a b)) := fun H c v1 v2 so r1 r2 => by
  obtain ⟨t, rfl⟩ := r1.int_inv; obtain ⟨u, rfl⟩ := r2.int_inv; exact PyProof.Rows.or_int Got.int
theorem op_xor : BOp prog w g₀ A .BitXor (.int a) (.int b) (.int (Builtin.bitXor a b)) := fun H c v1 v2 so r1 r2 => by
  obtain ⟨t, rfl⟩ := r1.int_inv; obtain ⟨u, rfl⟩ := r2.int_inv; exact PyProof.Rows.xor_int Got.int

theorem op_addf (f : Fits (a + b)) : BOp prog w g₀ A .Add (.flt a) (.flt b) (.flt (a + b)) := fun H c v1 v2 so r1 r2 => by
  obtain ⟨x, t, rfl, h1, _⟩ := r1.flt_inv; obtain ⟨y, u, rfl, h2, _⟩ := r2.flt_inv; exact PyProof.Rows.add_float (Got.flt (fv_add h1 h2 f) so.pos)
theorem op_subf (f : Fits (a - b)) : BOp prog w g₀ A .Sub (.flt a) (.flt b) (.flt (a - b)) := fun H c v1 v2 so r1 r2 => by
  obtain ⟨x, t, rfl, h1, _⟩ := r1.flt_inv; obtain ⟨y, u, rfl, h2, _⟩ := r2.flt_inv; exact PyProof.Rows.sub_float (Got.flt (fv_sub h1 h2 f) so.pos)
theorem op_mulf {n : Int} (e : a * b = n * 2 ^ 60) (f : Fits n) : BOp prog w g₀ A .Mult (.flt a) (.flt b) (.flt n) := fun H c v1 v2 so r1 r2 => by
  obtain ⟨x, t, rfl, h1, _⟩ := r1.flt_inv; obtain ⟨y, u, rfl, h2, _⟩ := r2.flt_inv; exact PyProof.Rows.mul_float (Got.flt (fv_mul h1 h2 e f) so.pos)
theorem op_divf {n : Int} (hb : b ≠ 0) (e : a * 2 ^ 60 = n * b) (f : Fits n) : BOp prog w g₀ A .Div (.flt a) (.flt b) (.flt n) := fun H c v1 v2 so r1 r2 => by
  obtain ⟨x, t, rfl, h1, _⟩ := r1.flt_inv; obtain ⟨y, u, rfl, h2, _⟩ := r2.flt_inv
  have hz : ¬ Float64.isZero y = true := by rw [(fv_fin h2).2.2, decide_eq_false hb]; decide
  exact AutoFloatOps.truediv_1 hz (Got.flt (fv_div h1 h2 hb e f) so.pos)
theorem op_div_if {n : Int} (hb : b ≠ 0) (f1 : Fits (a * 2 ^ 60)) (e : a * 2 ^ 60 * 2 ^ 60 = n * b) (f : Fits n) : BOp prog w g₀ A .Div (.int a) (.flt b) (.flt n) := fun H c v1 v2 so r1 r2 => by
  obtain ⟨t, rfl⟩ := r1.int_inv; obtain ⟨y, u, rfl, h2, _⟩ := r2.flt_inv
  have hz : ¬ Float64.isZero y = true := by rw [(fv_fin h2).2.2, decide_eq_false hb]; decide
  have h1 := fv_ofInt f1
  have hi : ¬ Float64.isInf (Float64.ofInt a) = true := by rw [(fv_fin h1).1]; decide
  exact AutoFloatOps.truediv_if_2 hi hz (Got.flt (fv_div h1 h2 hb e f) so.pos)
theorem op_mod1 (f : Fits (a.tmod (2 ^ 60))) (f' : Fits (a % 2 ^ 60)) : BOp prog w g₀ A .Mod (.flt a) (.flt (2 ^ 60)) (.flt (a % 2 ^ 60)) := fun H c v1 v2 so r1 r2 => by
  obtain ⟨x, t, rfl, h1, _⟩ := r1.flt_inv; obtain ⟨y, u, rfl, h2, _⟩ := r2.flt_inv
  have hz : ¬ Float64.isZero y = true := by rw [(fv_fin h2).2.2, decide_eq_false (by decide +kernel)]; decide
  exact AutoFloatOps.mod_1 hz (Got.flt (fv_mod1 h1 h2 f f') so.pos)
theorem op_addl {l l' : List D} (hs : l.length + l'.length ≤ sizeLine) : BOp prog w g₀ A .Add (.list l) (.list l') (.list (l ++ l')) := fun H c v1 v2 so r1 r2 => by
  obtain ⟨x, vs, n, rfl, _, h1, q1⟩ := r1.list_inv; obtain ⟨y, ws, m, rfl, _, h2, q2⟩ := r2.list_inv
  refine PySem.P.add_list (items := vs.toArray) (items2 := ws.toArray) h1 h2 (Got.newList so ?_) (by simp [q1.length, q2.length]; exact hs)
  simpa using q1.append q2

theorem cop_eq : COp prog w g₀ A .Eq (.int a) (.int b) (a == b) := fun H c v1 v2 so r1 r2 => by
  obtain ⟨t, rfl⟩ := r1.int_inv; obtain ⟨u, rfl⟩ := r2.int_inv; exact PyProof.Rows.eq_int (Told.here rfl)
theorem cop_ne : COp prog w g₀ A .NotEq (.int a) (.int b) (a != b) := fun H c v1 v2 so r1 r2 => by
  obtain ⟨t, rfl⟩ := r1.int_inv; obtain ⟨u, rfl⟩ := r2.int_inv; exact PyProof.Rows.ne_int (Told.here rfl)
theorem cop_lt : COp prog w g₀ A .Lt (.int a) (.int b) (decide (a < b)) := fun H c v1 v2 so r1 r2 => by
  obtain ⟨t, rfl⟩ := r1.int_inv; obtain ⟨u, rfl⟩ := r2.int_inv; exact PyProof.Rows.lt_int (Told.here rfl)
theorem cop_gt : COp prog w g₀ A .Gt (.int a) (.int b) (decide (b < a)) := fun H c v1 v2 so r1 r2 => by
  obtain ⟨t, rfl⟩ := r1.int_inv; obtain ⟨u, rfl⟩ := r2.int_inv; exact PyProof.Rows.gt_int (Told.here rfl)
theorem cop_le : COp prog w g₀ A .LtE (.int a) (.int b) (decide (a ≤ b)) := fun H c v1 v2 so r1 r2 => by
  obtain ⟨t, rfl⟩ := r1.int_inv; obtain ⟨u, rfl⟩ := r2.int_inv; exact PyProof.Rows.le_int (Told.here rfl)
theorem cop_ge : COp prog w g₀ A .GtE (.int a) (.int b) (decide (b ≤ a)) := fun H c v1 v2 so r1 r2 => by
  obtain ⟨t, rfl⟩ := r1.int_inv; obtain ⟨u, rfl⟩ := r2.int_inv; exact PyProof.Rows.ge_int (Told.here rfl)
theorem cop_neb {a b : Bool} : COp prog w g₀ A .NotEq (.bool a) (.bool b) (a != b) := fun H c v1 v2 so r1 r2 => by
  obtain rfl := r1.bool_inv; obtain rfl := r2.bool_inv; exact PyProof.Rows.ne_bool (Told.here rfl)
theorem cmp_b {x y : UInt64} (h1 : FV x a) (h2 : FV y b) : (Float64.cmp x y == some Ordering.eq) = decide (a = b) ∧ (Float64.cmp x y == some Ordering.lt) = decide (a < b) ∧ (Float64.cmp x y == some Ordering.gt) = decide (b < a) := by
  rw [fv_cmp h1 h2]
  rcases Int.lt_trichotomy a b with h | h | h
  · rw [Int.compare_eq_lt.mpr h, decide_eq_false (by lia), decide_eq_true h, decide_eq_false (by lia)]; decide
  · rw [Int.compare_eq_eq.mpr h, decide_eq_true h, decide_eq_false (by lia), decide_eq_false (by lia)]; decide
  · rw [Int.compare_eq_gt.mpr h, decide_eq_false (by lia), decide_eq_false (by lia), decide_eq_true h]; decide
theorem cop_eqf : COp prog w g₀ A .Eq (.flt a) (.flt b) (decide (a = b)) := fun H c v1 v2 so r1 r2 => by
  obtain ⟨x, t, rfl, h1, _⟩ := r1.flt_inv; obtain ⟨y, u, rfl, h2, _⟩ := r2.flt_inv; exact AutoFloatOps.eq_0 (Told.here (by rw [(cmp_b h1 h2).1]))
theorem cop_ltf : COp prog w g₀ A .Lt (.flt a) (.flt b) (decide (a < b)) := fun H c v1 v2 so r1 r2 => by
  obtain ⟨x, t, rfl, h1, _⟩ := r1.flt_inv; obtain ⟨y, u, rfl, h2, _⟩ := r2.flt_inv; exact AutoFloatOps.lt_0 (Told.here (by rw [(cmp_b h1 h2).2.1]))
theorem cop_gtf : COp prog w g₀ A .Gt (.flt a) (.flt b) (decide (b < a)) := fun H c v1 v2 so r1 r2 => by
  obtain ⟨x, t, rfl, h1, _⟩ := r1.flt_inv; obtain ⟨y, u, rfl, h2, _⟩ := r2.flt_inv; exact AutoFloatOps.gt_0 (Told.here (by rw [(cmp_b h1 h2).2.2]))
end
end Mine
end
noncomputable section
open PySem PySem.W PyProof.Rows
namespace Mine
open PySem.SeqAt (EqAt RcAt)

/-! ## equality of data -/
inductive EqD : D → D → Bool → Prop
  | int (a b : Int) : EqD (.int a) (.int b) (a == b)
  | flt (a b : Int) : EqD (.flt a) (.flt b) (decide (a = b))
theorem nb_keeps {h h' : Heap} (x : NoneBooked h) (hk : ∀ b o, h.get? b = some o → h'.get? b = some o) : NoneBooked h' := let ⟨mc, a, r⟩ := x; ⟨mc, a.keeps hk, r⟩
theorem fv_inj {b : UInt64} {i j : Int} (h1 : FV b i) (h2 : FV b j) : i = j := by
  have e := h1.2.symm.trans h2.2
  exact Int.eq_of_mul_eq_mul_right (Int.ne_of_gt K_pos) e
section
variable {A : Around} {H : List Addr} {c : Cf} {g₀ : Heap}
theorem eqAt_flt {a b : Int} {v1 v2 : Value} (so : SOk g₀ H c) (r1 : Rep H c (.flt a) v1) (r2 : Rep H c (.flt b) v2) : EqAt A c.s v1 v2 (decide (a = b)) := fun prog w E Q hq => by
  obtain ⟨x, t, rfl, h1, p1, l1, z1⟩ := r1.flt_inv; obtain ⟨y, u, rfl, h2, p2, l2, z2⟩ := r2.flt_inv
  have hb : NoneBooked c.s.heap := nb_keeps so.nb so.base
  have fin : ∀ {s' : Shared}, s' = c.s → wpAny (model prog w) A (do PySem.truthOfDropped (← richCompare .Eq (.float x t) (.float y u))) Q E s' := by
    rintro _ rfl
    refine wpAny_bind ?_
    have h := AutoFloatOps.eq_0 (prog := prog) (w := w) (A := A) (E := E) (s := c.s) (a := x) (b := y) (t := t) (u := u) (Q := fun v s' => wpAny (model prog w) A (PySem.truthOfDropped v) Q E s')
    refine h ?_
    rw [(cmp_b h1 h2).1]
    exact wpAny_truthy_bool hq
  unfold eqBool
  refine wpAny_holding ?_
  show wpAny _ _ (if (Value.float x t == Value.float y u) = true then _ else _) Q E c.s
  by_cases hab : (Value.float x t == Value.float y u) = true
  · rw [if_pos hab]
    have e := eq_of_beq hab
    injection e with e1 e2
    subst e1
    have : a = b := fv_inj h1 h2
    exact wpAny_bind (wpAny_rule (wpAny_pure (by simpa [this] using hq)))
  · rw [if_neg hab]
    show wpAny _ _ (isSame (.float x t) (.float y u) >>= _) Q E c.s
    refine wpAny_bind ?_
    show wpAny _ _ (isSame.created (x == y && !Float64.isNaN x) t u) _ E c.s
    unfold isSame.created
    have hne : (t == u) = false := by
      cases q : t == u with
      | false => rfl
      | true =>
        exfalso
        have e2 : t = u := eq_of_beq q
        subst e2
        rw [z1] at z2
        subst z2
        exact hab (beq_self_eq_true _)
    have h0 : (t == 0 || u == 0) = false := by
      have a1 : (t == 0) = false := by rw [beq_eq_false_iff_ne]; exact Nat.ne_of_gt p1
      have a2 : (u == 0) = false := by rw [beq_eq_false_iff_ne]; exact Nat.ne_of_gt p2
      rw [a1, a2]; rfl
    rw [h0, hne]
    simp only [Bool.false_eq_true, if_false]
    by_cases hc : (x == y && !Float64.isNaN x) = true
    · rw [hc]
      simp only [Bool.not_true, Bool.false_eq_true, if_false]
      refine wpAny_bind (wpAny_sharingNotTold_none hb ?_)
      simp only [Bool.false_eq_true, if_false]
      refine wpAny_bind (wpAny_sharingNotTold_none hb ?_)
      simp only [Bool.false_eq_true, if_false]
      refine wpAny_bind (wpAny_rule (wpAny_bind (wpAny_askSetting (wpAny_pure ?_))))
      have hxy : x = y := by
        have := (Bool.and_eq_true_iff.mp hc).1
        exact eq_of_beq this
      subst hxy
      have hij : a = b := fv_inj h1 h2
      generalize ((model prog w).w.params.mergeTok t == (model prog w).w.params.mergeTok u) = q
      cases q with
      | true => simp only [if_true]; exact wpAny_pure (by simpa [hij] using hq)
      | false => simp only [Bool.false_eq_true, if_false]; exact fin rfl
    · have hc' : (x == y && !Float64.isNaN x) = false := by simpa using hc
      rw [hc']
      simp only [Bool.not_false, if_true]
      exact wpAny_pure (by simp only [Bool.false_eq_true, if_false]; exact fin rfl)
theorem eqAt_of {d1 d2 : D} {b : Bool} {v1 v2 : Value} (e : EqD d1 d2 b) (so : SOk g₀ H c) (r1 : Rep H c d1 v1) (r2 : Rep H c d2 v2) : EqAt A c.s v1 v2 b := by
  cases e with
  | int a b => obtain ⟨t, rfl⟩ := r1.int_inv; obtain ⟨u, rfl⟩ := r2.int_inv; exact (MeetsSeq.EqGives.int a b t u).at A c.s
  | flt a b => exact eqAt_flt so r1 r2
end

section
variable {prog : Program} {w : World} {A : Around} {H : List Addr} {c : Cf} {g₀ : Heap}
theorem cop_eql {l l' : List D} {e : Nat → Bool} (hu : A.units < cLine) (hlen : l.length = l'.length) (he : ∀ j d d', l[j]? = some d → l'[j]? = some d' → EqD d d' (e j)) :
    COp prog w g₀ A .Eq (.list l) (.list l') ((List.range l.length).all e) := fun H c v1 v2 so r1 r2 => by
  obtain ⟨x, vs, n, rfl, _, h1, q1⟩ := r1.list_inv; obtain ⟨y, ws, m, rfl, _, h2, q2⟩ := r2.list_inv
  refine SeqAt.eq_listAt (items := vs.toArray) (items2 := ws.toArray) (e := e) ⟨_, h1, rfl, n, rfl⟩ ⟨_, h2, rfl, m, rfl⟩ (by simp [q1.length, q2.length, hlen]) hu (fun j j1 j2 => ?_) (Told.here (by simp [q1.length]))
  have l1 : vs[j]? = some vs.toArray[j] := by simp at j1; simp [j1]
  have l2 : ws[j]? = some ws.toArray[j] := by simp at j2; simp [j2]
  obtain ⟨d, e1, s1⟩ := q1.get' l1
  obtain ⟨d', e2, s2⟩ := q2.get' l2
  exact eqAt_of (he j d d' e1 e2) so s1 s2
theorem cop_eql_len {l l' : List D} (hu : A.units < cLine) (hlen : l.length ≠ l'.length) : COp prog w g₀ A .Eq (.list l) (.list l') false := fun H c v1 v2 so r1 r2 => by
  obtain ⟨x, vs, n, rfl, _, h1, q1⟩ := r1.list_inv; obtain ⟨y, ws, m, rfl, _, h2, q2⟩ := r2.list_inv
  exact SeqAt.eq_list_lengthsAt (items := vs.toArray) (items2 := ws.toArray) ⟨_, h1, rfl, n, rfl⟩ ⟨_, h2, rfl, m, rfl⟩ (by simp [q1.length, q2.length, hlen]) hu (Told.here rfl)
theorem all_range_eq {α : Type} [DecidableEq α] (ns ms : List α) (h : ns.length = ms.length) (e : Nat → Bool) (he : ∀ j a b, ns[j]? = some a → ms[j]? = some b → e j = decide (a = b)) : (List.range ns.length).all e = decide (ns = ms) := by
  rw [Bool.eq_iff_iff, List.all_eq_true, decide_eq_true_eq]
  constructor
  · intro q
    refine List.ext_getElem h fun j h1 h2 => ?_
    have := q j (List.mem_range.mpr h1)
    rw [he j ns[j] ms[j] (by simp [h1]) (by simp [h2])] at this
    simpa using this
  · rintro rfl j hj
    have hj' := List.mem_range.mp hj
    rw [he j ns[j] ns[j] (by simp [hj']) (by simp [hj'])]
    simp
theorem cop_eqi {ns ms : List Int} (hu : A.units < cLine) (hlen : ns.length = ms.length) : COp prog w g₀ A .Eq (.list (ns.map .int)) (.list (ms.map .int)) (decide (ns = ms)) := by
  have h := cop_eql (prog := prog) (w := w) (A := A) (g₀ := g₀) (l := ns.map D.int) (l' := ms.map D.int) (e := fun j => decide (ns[j]? = ms[j]?)) hu (by simpa using hlen) (fun j d d' e1 e2 => by
    simp only [List.getElem?_map, Option.map_eq_some_iff] at e1 e2
    obtain ⟨a, ea, rfl⟩ := e1
    obtain ⟨b, eb, rfl⟩ := e2
    rw [ea, eb]
    have : decide (some a = some b) = (a == b) := by rw [Bool.eq_iff_iff]; simp
    rw [this]; exact .int a b)
  rw [List.length_map, all_range_eq ns ms hlen _ (fun j a b ea eb => by rw [ea, eb]; simp)] at h
  exact h
theorem cop_eqfl {ns ms : List Int} (hu : A.units < cLine) (hlen : ns.length = ms.length) : COp prog w g₀ A .Eq (.list (ns.map .flt)) (.list (ms.map .flt)) (decide (ns = ms)) := by
  have h := cop_eql (prog := prog) (w := w) (A := A) (g₀ := g₀) (l := ns.map D.flt) (l' := ms.map D.flt) (e := fun j => decide (ns[j]? = ms[j]?)) hu (by simpa using hlen) (fun j d d' e1 e2 => by
    simp only [List.getElem?_map, Option.map_eq_some_iff] at e1 e2
    obtain ⟨a, ea, rfl⟩ := e1
    obtain ⟨b, eb, rfl⟩ := e2
    rw [ea, eb]
    have : decide (some a = some b) = decide (a = b) := by simp
    rw [this]; exact .flt a b)
  rw [List.length_map, all_range_eq ns ms hlen _ (fun j a b ea eb => by rw [ea, eb]; simp)] at h
  exact h
theorem cop_eqt2 {a b a' b' : Int} (hu : A.units < cLine) : COp prog w g₀ A .Eq (.tup [.flt a, .flt b]) (.tup [.flt a', .flt b']) (decide (a = a') && decide (b = b')) := fun H c v1 v2 so r1 r2 => by
  obtain ⟨x, vs, n, rfl, _, h1, q1⟩ := r1.tup_inv; obtain ⟨y, ws, m, rfl, _, h2, q2⟩ := r2.tup_inv
  obtain ⟨v1, r, rfl, s1, q1⟩ := q1.cons_inv
  obtain ⟨v2, r, rfl, s2, q1⟩ := q1.cons_inv
  obtain rfl := q1.nil_inv
  obtain ⟨w1, r, rfl, t1, q2⟩ := q2.cons_inv
  obtain ⟨w2, r, rfl, t2, q2⟩ := q2.cons_inv
  obtain rfl := q2.nil_inv
  refine SeqAt.eq_tupleAt (items := #[v1, v2]) (items2 := #[w1, w2]) (e := fun j => if j = 0 then decide (a = a') else decide (b = b')) ⟨_, h1, rfl, n, rfl⟩ ⟨_, h2, rfl, m, rfl⟩ hu (fun j j1 j2 => ?_) (Told.here ?_)
  · match j, j1, j2 with
    | 0, _, _ => exact eqAt_flt so s1 t1
    | 1, _, _ => exact eqAt_flt so s2 t2
  · simp [List.range_succ]
/-- a list of ints and another, by value -/
theorem ints_inj {ns ms : List Int} {vs : List Value} (h1 : RepL H c (ns.map .int) vs) (h2 : RepL H c (ms.map .int) vs) : ns = ms := by
  induction ns generalizing ms vs with
  | nil =>
    cases ms with
    | nil => rfl
    | cons m ms => have := h1.nil_inv; subst this; obtain ⟨v, r, e, _⟩ := h2.cons_inv; cases e
  | cons n ns ih =>
    obtain ⟨v, r, rfl, s1, q1⟩ := h1.cons_inv
    cases ms with
    | nil => have := h2.nil_inv; cases this
    | cons m ms =>
      obtain ⟨v', r', e, s2, q2⟩ := h2.cons_inv
      cases e
      obtain ⟨t, rfl⟩ := s1.int_inv
      obtain ⟨u, e⟩ := s2.int_inv
      cases e
      rw [ih q1 q2]
theorem rep_ints_inj {ns ms : List Int} {v : Value} (h1 : Rep H c (.list (ns.map .int)) v) (h2 : Rep H c (.list (ms.map .int)) v) : ns = ms := by
  obtain ⟨x, vs, n, rfl, _, e1, q1⟩ := h1.list_inv
  obtain ⟨y, ws, m, e, _, e2, q2⟩ := h2.list_inv
  cases e
  rw [e1] at e2
  have : vs = ws := by
    have := Option.some.inj e2
    injection this with _ _ d _
    injection d with d _
    simpa using d
  subst this
  exact ints_inj q1 q2
theorem eqAt_ints {ns ms : List Int} {v1 v2 : Value} (hu : A.units < cLine) (so : SOk g₀ H c) (r1 : Rep H c (.list (ns.map .int)) v1) (r2 : Rep H c (.list (ms.map .int)) v2) : EqAt A c.s v1 v2 (decide (ns = ms)) := by
  obtain ⟨x, vs, n, rfl, _, e1, q1⟩ := id r1.list_inv
  obtain ⟨y, ws, m, rfl, _, e2, q2⟩ := id r2.list_inv
  by_cases hxy : x = y
  · subst hxy
    have := rep_ints_inj r1 r2
    rw [decide_eq_true this]
    exact EqAt.same _
  · refine EqAt.of_refs hxy ?_
    by_cases hlen : ns.length = ms.length
    · have h := RcAt.lists (A := A) (s := c.s) (l := x) (b := y) (items := vs.toArray) (items2 := ws.toArray) (e := fun j => decide (ns[j]? = ms[j]?)) ⟨_, e1, rfl, n, rfl⟩ ⟨_, e2, rfl, m, rfl⟩ (by simp [q1.length, q2.length, hlen]) hu (fun j j1 j2 => by
        have l1 : vs[j]? = some vs.toArray[j] := by simp at j1; simp [j1]
        have l2 : ws[j]? = some ws.toArray[j] := by simp at j2; simp [j2]
        obtain ⟨d, f1, s1⟩ := q1.get' l1
        obtain ⟨d', f2, s2⟩ := q2.get' l2
        simp only [List.getElem?_map, Option.map_eq_some_iff] at f1 f2
        obtain ⟨a, ea, rfl⟩ := f1
        obtain ⟨b, eb, rfl⟩ := f2
        have := eqAt_of (A := A.in1) (EqD.int a b) so s1 s2
        have e3 : decide (ns[j]? = ms[j]?) = (a == b) := by rw [ea, eb, Bool.eq_iff_iff]; simp
        simp only [e3]
        exact this)
      have e4 : (List.range vs.toArray.size).all (fun j => decide (ns[j]? = ms[j]?)) = decide (ns = ms) := by
        have : vs.toArray.size = ns.length := by simp [q1.length]
        rw [this]
        exact all_range_eq ns ms hlen _ (fun j a b ea eb => by rw [ea, eb]; simp)
      rw [e4] at h
      exact h
    · rw [decide_eq_false (fun q => hlen (by rw [q]))]
      exact RcAt.lists_lengths (items := vs.toArray) (items2 := ws.toArray) ⟨_, e1, rfl, n, rfl⟩ ⟨_, e2, rfl, m, rfl⟩ (by simp [q1.length, q2.length, hlen]) hu
theorem cop_in {ns : List Int} {ls : List (List Int)} (hu : A.units + 1 < cLine) : COp prog w g₀ A .In (.list (ns.map .int)) (.list (ls.map fun l => .list (l.map .int))) (decide (ns ∈ ls)) := fun H c v1 v2 so r1 r2 => by
  obtain ⟨y, ws, m, rfl, _, h2, q2⟩ := id r2.list_inv
  classical
  have key : ∀ z, z ∈ ws.toArray → ∃ ms, ms ∈ ls ∧ Rep H c (.list (ms.map .int)) z := fun z hz => by
    have hz' : z ∈ ws := by simpa using hz
    obtain ⟨j, hj⟩ := List.getElem?_of_mem hz'
    obtain ⟨d, e, s⟩ := q2.get' hj
    simp only [List.getElem?_map, Option.map_eq_some_iff] at e
    obtain ⟨ms, em, rfl⟩ := e
    exact ⟨ms, List.mem_of_getElem? em, s⟩
  refine SeqAt.in_listAt (items := ws.toArray) (fun z => decide (Rep H c (.list (ns.map .int)) z)) ⟨_, h2, rfl, m, rfl⟩ (fun z hz => ?_) (Told.here ?_)
  · obtain ⟨ms, hm, s⟩ := key z hz
    have := eqAt_ints (A := A.in1) hu so s r1
    have e : decide (Rep H c (.list (ns.map .int)) z) = decide (ms = ns) := by
      apply decide_eq_decide.mpr
      exact ⟨fun q => rep_ints_inj s q, fun q => q ▸ s⟩
    rw [e]; exact this
  · congr 1
    rw [Bool.eq_iff_iff, Array.any_eq_true', decide_eq_true_eq]
    constructor
    · rintro ⟨z, hz, e⟩
      obtain ⟨ms, hm, s⟩ := key z hz
      have := rep_ints_inj s (of_decide_eq_true e)
      exact this ▸ hm
    · intro hm
      obtain ⟨j, hj⟩ := List.getElem?_of_mem hm
      obtain ⟨v, ev, s⟩ := q2.get (i := j) (d := .list (ns.map .int)) (by simp [hj])
      exact ⟨v, by simpa using List.mem_of_getElem? ev, decide_eq_true s⟩
end
end Mine
end
noncomputable section
open PySem PySem.W PyProof.Rows
namespace Mine
open PySem.Calls

section
variable {prog : Program} {w : World} {g₀ : Heap} {A : Around} {H : List Addr} {env : Env} {c : Cf}

theorem flat_fold (items : Array Value) : ∀ (k : Nat) (a : Array Value), (List.foldl (fun x1 x2 => x1 ++ x2) a (List.replicate k items)).toList = a.toList ++ (List.replicate k items.toList).flatten
  | 0, a => by simp
  | k + 1, a => by rw [List.replicate_succ, List.foldl_cons, flat_fold items k, List.replicate_succ, List.flatten_cons]; simp
theorem op_rep {l : List D} {k : Int} (hl : l ≠ []) (hk : -(2 ^ 63) ≤ k) (hk2 : k < 2 ^ 20) (hsz : l.length * k.toNat ≤ 2 ^ 24) : BOp prog w g₀ A .Mult (.list l) (.int k) (.list (List.replicate k.toNat l).flatten) := fun H c v1 v2 so r1 r2 => by
  obtain ⟨x, vs, n, rfl, _, h1, q1⟩ := r1.list_inv; obtain ⟨u, rfl⟩ := r2.int_inv
  have hn : vs.toArray.size = l.length := by simp [q1.length]
  have he : vs.toArray.isEmpty = false := by
    rw [Array.isEmpty_eq_false_iff]
    intro q
    have : vs.toArray.size = 0 := by rw [q]; rfl
    rw [hn] at this
    exact hl (List.eq_nil_of_length_eq_zero this)
  refine wpAny_binaryOp_repeat_ref (T := "list") (U := "int") (by decide) ⟨_, h1, rfl⟩ (fun s' => typeIs_int s' k u) noFill_list_mul F.fills_int_mul F.slot_int_rmul repeat_list F.slot_int_index.lookup ?_
  refine call_meets F.slot_int_rmul (typeIs_int c.s k u) F.entry_int_rmul (F.args_int_rmul_2 _ _) (int___rmul___int_list k u x vs.toArray n) ⟨h1, rfl, ⟨_, h1, rfl⟩, ?_⟩
  refine call_meets F.slot_list_mul ⟨_, h1, rfl⟩ F.entry_list_mul (F.args_list_mul_2 _ _) (AutoListH.list___mul___list_int_3 x vs.toArray n k u ?_ ?_ ?_) ⟨h1, ?_⟩
  · simp [Builtin.List.listFitsIndex]; lia
  · rw [hn]; lia
  · rw [hn]; simp [Builtin.List.listTooLong, sizeLine]; lia
  · refine Got.newList so ?_
    rw [flat_fold, he]
    simpa using q1.replicate k.toNat

theorem ev_tail {value slice : Expr} {pos : Pos} {d1 d2 d : D} (h1 : EV prog w g₀ A H env c value d1) (h2 : EV prog w g₀ A H env c slice d2)
    (h : ∀ c' v1 v2, SOk g₀ H c' → Rep H c' d1 v1 → Rep H c' d2 v2 → wpAny (model prog w) A (subscriptTail value slice v1 v2) (Got H c' d) NE c'.s) : EV prog w g₀ A H env c (.Subscript value slice pos) d := fun c' k so =>
  Subscript_ (got_then (h1 c' k so) so fun v1 c1 k1 so1 r1 => got_then (h2 c1 (k.trans k1) so1) so1 fun v2 c2 k2 so2 r2 =>
    ne_mono (h c2 v1 v2 so2 (r1.kp so1 k2) r2) fun v s3 g => Got.after (k1.trans k2) g)
theorem ev_item {value slice : Expr} {pos : Pos} {l : List D} {k : Int} {d : D} (h1 : EV prog w g₀ A H env c value (.list l)) (h2 : EV prog w g₀ A H env c slice (.int k)) (h0 : 0 ≤ k) (hx : l[k.toNat]? = some d) (hk : k < 2 ^ 63)
    (hs : ∀ o i, subscripted slice false o i = operate [o, i] (getItem o i) := by intro _ _; with_unfolding_all rfl) : EV prog w g₀ A H env c (.Subscript value slice pos) d :=
  ev_tail h1 h2 fun c' v1 v2 so r1 r2 => by
    obtain ⟨x, vs, n, rfl, _, e1, q1⟩ := r1.list_inv; obtain ⟨u, rfl⟩ := r2.int_inv
    obtain ⟨v, ev, rv⟩ := q1.get hx
    have hL : c'.s.heap.IsList x vs.toArray := ⟨_, e1, rfl, n, rfl⟩
    exact tail_any hL.typeIs slot_list_getitem.lookup (wpAny_getItem_list (x := v) hL h0 hk (by simpa using ev) (Got.here rv)) (hs _ _)
theorem ev_item_neg {value slice : Expr} {pos : Pos} {l : List D} {k : Int} {d : D} (h1 : EV prog w g₀ A H env c value (.list l)) (h2 : EV prog w g₀ A H env c slice (.int k)) (h0 : k < 0) (hl : -(l.length : Int) ≤ k) (hx : l[(k + l.length).toNat]? = some d) (hk : -(2 ^ 63) ≤ k)
    (hs : ∀ o i, subscripted slice false o i = operate [o, i] (getItem o i) := by intro _ _; with_unfolding_all rfl) : EV prog w g₀ A H env c (.Subscript value slice pos) d :=
  ev_tail h1 h2 fun c' v1 v2 so r1 r2 => by
    obtain ⟨x, vs, n, rfl, _, e1, q1⟩ := r1.list_inv; obtain ⟨u, rfl⟩ := r2.int_inv
    obtain ⟨v, ev, rv⟩ := q1.get hx
    have hL : c'.s.heap.IsList x vs.toArray := ⟨_, e1, rfl, n, rfl⟩
    have hn : vs.toArray.size = l.length := by simp [q1.length]
    exact tail_any hL.typeIs slot_list_getitem.lookup (wpAny_getItem_list_neg (x := v) hL h0 (by rw [hn]; exact hl) hk (by rw [hn]; simpa using ev) (Got.here rv)) (hs _ _)
theorem ev_titem {value slice : Expr} {pos : Pos} {l : List D} {k : Int} {d : D} (h1 : EV prog w g₀ A H env c value (.tup l)) (h2 : EV prog w g₀ A H env c slice (.int k)) (h0 : 0 ≤ k) (hx : l[k.toNat]? = some d) (hk : k < 2 ^ 63)
    (hs : ∀ o i, subscripted slice false o i = operate [o, i] (getItem o i) := by intro _ _; with_unfolding_all rfl) : EV prog w g₀ A H env c (.Subscript value slice pos) d :=
  ev_tail h1 h2 fun c' v1 v2 so r1 r2 => by
    obtain ⟨x, vs, n, rfl, _, e1, q1⟩ := r1.tup_inv; obtain ⟨u, rfl⟩ := r2.int_inv
    obtain ⟨v, ev, rv⟩ := q1.get hx
    have hT : IsTup c'.s.heap x vs.toArray := ⟨_, e1, rfl, n, rfl⟩
    have hlt : k.toNat < l.length := (List.getElem?_eq_some_iff.mp hx).1
    refine tail_any hT.typeIs slot_tuple_getitem.lookup (getItem_tuple (x := v) (j := k.toNat) hT (by lia) hk ?_ (by simpa using ev) (Got.here rv)) (hs _ _)
    unfold seqIndex?
    have hn : vs.toArray.size = l.length := by simp [q1.length]
    rw [hn]
    simp only [if_neg (show ¬ k < 0 by lia)]
    rw [if_pos (by simp; lia)]

/-! slices -/
noncomputable def PV (prog : Program) (w : World) (g₀ : Heap) (A : Around) (H : List Addr) (env : Env) (c : Cf) (e : Option Expr) (x : Option Int) : Prop :=
  ∀ c', Kp c c' → SOk g₀ H c' → wpAny (model prog w) A (evalPart e env) (fun v => Told c' (IsPart v x)) NE c'.s
theorem pv_none : PV prog w g₀ A H env c none none := fun c' _ _ => evalPart_none_step (Told.here .none)
theorem pv_some {e : Expr} {k : Int} (h : EV prog w g₀ A H env c e (.int k)) : PV prog w g₀ A H env c (some e) (some k) := fun c' k so =>
  evalPart_some_step (ne_mono (h c' k so) fun v s ⟨c1, e1, k1, r1⟩ => ⟨c1, e1, k1, by obtain ⟨t, rfl⟩ := r1.int_inv; exact .int _ _⟩)
theorem ev_slice {value : Expr} {lo hi : Option Expr} {p pos : Pos} {l l' : List D} {a b : Option Int} (h1 : EV prog w g₀ A H env c value (.list l)) (h2 : PV prog w g₀ A H env c lo a) (h3 : PV prog w g₀ A H env c hi b)
    (hsz : l.length ≤ sizeLine) (hl : ∀ (H : List Addr) (c : Cf) (vs : List Value), RepL H c l vs → RepL H c l' (slicePick vs.toArray a b none).toList) : EV prog w g₀ A H env c (.Subscript value (.Slice lo hi none p) pos) (.list l') := fun c' k so => by
  refine Subscript_ (got_then (h1 c' k so) so fun v1 c1 k1 so1 r1 => wpAny_Slice (told_then (h2 c1 (k.trans k1) so1) so1 fun v2 c2 k2 so2 i2 => told_then (h3 c2 ((k.trans k1).trans k2) so2) so2 fun v3 c3 k3 so3 i3 => evalPart_none_step ?_))
  obtain ⟨x, vs, n, rfl, _, e1, q1⟩ := ((r1.kp so1 k2).kp so2 k3).list_inv
  have hL : c3.s.heap.IsList x vs.toArray := ⟨_, e1, rfl, n, rfl⟩
  have kc : Kp c3 (c3.put (c3.heap.push { cls := .type "slice", data := .fields #[v2, v3, .none] }) c3.s.toks) := .of (fun _ _ e => Heap.get?_push_of_some _ e) (Nat.le_refl _)
  have so4 := so3.kp kc
  refine tail_any (s := (c3.put (c3.heap.push { cls := .type "slice", data := .fields #[v2, v3, .none] }) c3.s.toks).s) (ops := [.ref c3.s.heap.objs.size, .ref x]) (hL.push _).typeIs slot_list_getitem.lookup
    (wpAny_getItem_list_slice (hL.push _) (Heap.IsSliceOf.new ..) i2 i3 .none (by simp) ?_ (by simpa [q1.length] using hsz)) rfl
  have g := Got.newList (H := H) so4 (l := l') (its := slicePick vs.toArray a b none) ((hl _ _ _ q1).kp so3 kc)
  exact Got.after (((k1.trans k2).trans k3).trans kc) g
theorem ev_upto {value e : Expr} {p pos : Pos} {l : List D} {k : Int} (h1 : EV prog w g₀ A H env c value (.list l)) (h3 : EV prog w g₀ A H env c e (.int k)) (h0 : 0 ≤ k) (hsz : l.length ≤ sizeLine) :
    EV prog w g₀ A H env c (.Subscript value (.Slice none (some e) none p) pos) (.list (l.take k.toNat)) :=
  ev_slice h1 pv_none (pv_some h3) hsz fun H c vs r => by
    obtain ⟨n, rfl⟩ := Int.eq_ofNat_of_zero_le h0
    have := slicePick_upto' vs.toArray n
    simp only [this]
    simpa using r.take n
theorem ev_from {value e : Expr} {p pos : Pos} {l : List D} {k : Int} (h1 : EV prog w g₀ A H env c value (.list l)) (h3 : EV prog w g₀ A H env c e (.int k)) (h0 : 0 ≤ k) (hsz : l.length ≤ sizeLine) :
    EV prog w g₀ A H env c (.Subscript value (.Slice (some e) none none p) pos) (.list (l.drop k.toNat)) :=
  ev_slice h1 (pv_some h3) pv_none hsz fun H c vs r => by
    obtain ⟨n, rfl⟩ := Int.eq_ofNat_of_zero_le h0
    have := slicePick_from' vs.toArray n
    simp only [this]
    simpa using r.drop n
theorem ev_mid {value e e' : Expr} {p pos : Pos} {l : List D} {j k : Int} (h1 : EV prog w g₀ A H env c value (.list l)) (h2 : EV prog w g₀ A H env c e (.int j)) (h3 : EV prog w g₀ A H env c e' (.int k)) (h0 : 0 ≤ j) (hjk : j ≤ k) (hk : k.toNat ≤ l.length) (hsz : l.length ≤ sizeLine) :
    EV prog w g₀ A H env c (.Subscript value (.Slice (some e) (some e') none p) pos) (.list ((l.drop j.toNat).take (k.toNat - j.toNat))) :=
  ev_slice h1 (pv_some h2) (pv_some h3) hsz fun H c vs r => by
    obtain ⟨n, rfl⟩ := Int.eq_ofNat_of_zero_le h0
    obtain ⟨m, rfl⟩ := Int.eq_ofNat_of_zero_le (show 0 ≤ k by lia)
    have := slicePick_run vs.toArray n m (by simp [r.length]; simpa using hk) (by lia)
    simp only [this]
    simpa using (r.drop n).take (m - n)

/-! displays -/
noncomputable def EVs (prog : Program) (w : World) (g₀ : Heap) (A : Around) (H : List Addr) (env : Env) (c : Cf) (es : List Expr) (ds : List D) : Prop :=
  ∀ c' pos, Kp c c' → SOk g₀ H c' → wpAny (model prog w) A (spliced (backTo pos (starEach es env))) (fun vs s' => ∃ c'', c''.s = s' ∧ Kp c' c'' ∧ RepL H c'' ds vs) NE c'.s
theorem evs_nil : EVs prog w g₀ A H env c [] [] := fun c' pos _ _ => wpAny_items_nil ⟨c', rfl, .refl _, .nil⟩
theorem evs_cons {e : Expr} {es : List Expr} {d : D} {ds : List D} (h1 : EV prog w g₀ A H env c e d) (h2 : EVs prog w g₀ A H env c es ds) (he : ∀ rest, starEach (e :: rest) env = (false, eval e env) :: starEach rest env := by intro _; rfl) :
    EVs prog w g₀ A H env c (e :: es) (d :: ds) := fun c' pos k so =>
  wpAny_items_cons (got_then (h1 c' k so) so fun v1 c1 k1 so1 r1 => ne_mono (h2 c1 pos (k.trans k1) so1) fun vs s2 ⟨c2, e2, k2, r2⟩ => ⟨c2, e2, k1.trans k2, .cons (r1.kp so1 k2) r2⟩) (he _)
theorem ev_tuple {es : List Expr} {ds : List D} {k : Nat} {pos : Pos} (h : EVs prog w g₀ A H env c es ds) (hsz : ds.length ≤ sizeLine) : EV prog w g₀ A H env c (.Tuple es k pos) (.tup ds) := fun c' k so =>
  wpAny_Tuple (ne_mono (h c' pos k so) fun vs s2 ⟨c2, e2, k2, r2⟩ => by
    subst e2
    exact ⟨by rw [r2.length]; exact hsz, Got.after k2 (Got.newTup (so.kp k2) (by simpa using r2))⟩)
theorem ev_list {es : List Expr} {ds : List D} {pos : Pos} (h : EVs prog w g₀ A H env c es ds) (hsz : ds.length ≤ sizeLine) : EV prog w g₀ A H env c (.List es pos) (.list ds) := fun c' k so =>
  wpAny_List (ne_mono (h c' pos k so) fun vs s2 ⟨c2, e2, k2, r2⟩ => by
    subst e2
    exact ⟨by rw [r2.length]; exact hsz, Got.after k2 (Got.newList (so.kp k2) (by simpa using r2))⟩)
end
end Mine
end
noncomputable section
open PySem PySem.W PyProof.Rows
namespace Mine
open PySem.Calls

structure AOk (n : Nat) (A : Around) : Prop where
  h : A.handled = none
  d : A.depth + n < recursionLimit
  u : A.units + 16 * n + 16 < cLine
theorem AOk.deeper {n : Nat} {A : Around} (x : AOk (n + 1) A) (env : Env) : AOk n (A.deeper env) := ⟨x.h, by show A.depth + 1 + n < _; have := x.d; lia, by show A.units + 3 + 16 * n + 16 < _; have := x.u; lia⟩
theorem AOk.le {n m : Nat} {A : Around} (x : AOk n A) (h : m ≤ n) : AOk m A := ⟨x.h, by have := x.d; lia, by have := x.u; lia⟩
theorem AOk.un {n : Nat} {A : Around} (x : AOk n A) : A.units < cLine := by have := x.u; lia
theorem AOk.un1 {n : Nat} {A : Around} (x : AOk n A) : A.units + 1 < cLine := by have := x.u; lia

/-- what was new behind c₀ may be turned -/
theorem Kx.kp_of {X Z : List Addr} {c₀ c₂ c₃ : Cf} (k₀ : Kp c₀ c₂) (k : Kx X c₂ c₃) (hX : ∀ b ∈ X, b ∉ MUT → c₀.heap.get? b = none) (ht : ∀ H, (∀ b ∈ H, ∃ o, c₀.heap.get? b = some o) → TabOk H c₀.heap → TabOk H c₃.heap) : Kp c₀ c₃ :=
  ⟨by obtain ⟨h, tk, e⟩ := k₀.same; obtain ⟨h', tk', e'⟩ := k.same; rw [e', e]; exact ⟨_, _, rfl⟩,
   fun b o hb _ e => k.kp b o hb (fun q => by have := hX b q hb; rw [e] at this; cases this) (k₀.keep hb e), Nat.le_trans k₀.tk k.tk, fun n hn => (k.gh n (Nat.lt_of_lt_of_le hn k₀.tk)).trans (k₀.gh n hn),
   fun b h => k.al b (k₀.al b h), fun H _ hl t => ht H hl t⟩
theorem TabOk.sub {H H' : List Addr} {h : Heap} (x : TabOk H h) (hs : ∀ b ∈ H', b ∈ H) : TabOk H' h := x.move (fun _ _ _ e => e) (fun _ _ _ e => e) fun b hb => .inl (hs b hb)
theorem SOk.sub {g₀ : Heap} {H H' : List Addr} {c : Cf} (x : SOk g₀ H' c) (hs : ∀ b ∈ H, b ∈ H') (hm : ∀ b ∈ MUT, b ∈ H) : SOk g₀ H c := ⟨fun b hb => x.low b (hs b hb), hm, x.gm, x.base, x.tab.sub hs, x.pos, x.nb⟩

/-! ## targets -/
inductive Tgt : Expr → List Str → Prop
  | one (x : Str) (p : Pos) : Tgt (.Name x p) [x]
  | two (x y : Str) (p q r : Pos) (k : Nat) : Tgt (.Tuple [.Name x p, .Name y q] k r) [x, y]
inductive Shape : Value → List Value → Heap → Prop
  | one (v : Value) (h : Heap) : Shape v [v] h
  | two {T : Addr} {a b : Value} {h : Heap} (e : h.IsTuple T #[a, b]) : Shape (.ref T) [a, b] h
noncomputable def binds (m : Str → Option Value) : List Str → List Value → Str → Option Value
  | x :: xs, v :: vs => binds (fun y => if y = x then some v else m y) xs vs
  | _, _ => m

section
variable {prog : Program} {w : World} {g₀ : Heap} {A : Around} {H : List Addr} {env : Env} {c : Cf} {s : Shared} {E : Value → Shared → Prop}
theorem assign_tgt {target : Expr} {names : List Str} (T : Tgt target names) (hh : A.handled = none) {cenv : Env} (hx : ∀ x ∈ names, cenv.kindOf x = some .local) (hk : cenv.scope.kind = .function)
    {v : Value} {ws : List Value} {m : Str → Option Value} {Q : Unit → Shared → Prop} (S : Shape v ws s.heap) (hl : ws.length = names.length) (hn : s.heap.Ns cenv.locals m)
    (h : ∀ h' tk', s.toks ≤ tk' → h'.Ns cenv.locals (binds m names ws) → (∀ b o, b ≠ cenv.locals → s.heap.get? b = some o → h'.get? b = some o) → Q () { s with heap := h', toks := tk' }) :
    wpAny (model prog w) A (assign target cenv v) Q E s := by
  have hp : (cenv.scope.kind == .class || (cenv.scope.kind == .module && cenv.locals != cenv.globals)) = false := by rw [hk]; rfl
  cases T with
  | one x p =>
    cases S with
    | one v =>
      exact wpAny_assign_Name (wpAny_storeName_local (hx x (by simp)) hn (fun h₂ hn₂ hs₂ => h h₂ _ (Nat.le_succ _) hn₂ fun b o hb e => hs₂.extBut b o hb e) hp)
    | two e => simp at hl
  | two x y p q r k =>
    cases S with
    | one v => simp at hl
    | two e =>
      refine wpAny_assign_Tuple hh e rfl rfl fun h₁ he₁ => ?_
      have hn₁ : h₁.Ns cenv.locals m := hn.keeps fun b o z => he₁ b o (Nat.ne_of_lt (Heap.lt_size z)) z
      show wpAny _ _ (assignInOrder [assign (.Name x p) cenv, assign (.Name y q) cenv] [_, _]) _ _ _
      refine assignInOrder_cons (wpAny_assign_Name (wpAny_storeName_local (hx x (by simp)) hn₁ (fun h₂ hn₂ hs₂ => ?_) hp))
      refine assignInOrder_cons (wpAny_assign_Name (wpAny_storeName_local (hx y (by simp)) hn₂ (fun h₃ hn₃ hs₃ => ?_) hp))
      refine assignInOrder_nil ?_
      exact h h₃ _ (Nat.le_succ_of_le (Nat.le_succ _)) hn₃ fun b o hb z => hs₃.extBut b o hb (hs₂.extBut b o hb (he₁ b o (Nat.ne_of_lt (Heap.lt_size z)) z))
end
end Mine
end
noncomputable section
open PySem PySem.W PyProof.Rows
namespace Mine
open PySem.Calls

/-- what is walked: n turns, the values of each by Vt -/
structure Itr (prog : Program) (w : World) (A : Around) (target : Expr) (I : Addr) (fp wr : List Addr) (n : Nat) (Vt : Nat → List Value → Prop) (St : Nat → Heap → Prop) : Prop where
  ex : ∃ P Md, KTurns prog w A target I fp wr n P Md St ∧ ∀ i v h, P i v h → ∃ ws, Shape v ws h ∧ Vt i ws
  al : ∀ i h, St i h → ∀ b ∈ wr, ∃ o, h.get? b = some o
  self : ∀ i (s : Shared) (Q : Value → Shared → Prop) (E : Value → Shared → Prop), St i s.heap → Q (.ref I) s → wpAny (model prog w) A (pyIter (.ref I)) Q E s

/-- what is walked, as it lies in a state -/
inductive ItAt (prog : Program) (w : World) (A : Around) (H : List Addr) (c' : Cf) (target : Expr) (items : List (List D)) (it : Value) (s₂ : Shared) : Prop
  | mk (c₂ : Cf) (I : Addr) (fp wr : List Addr) (Vt : Nat → List Value → Prop) (St : Nat → Heap → Prop) (es : c₂.s = s₂) (k : Kp c' c₂) (ei : it = .ref I) (W : Itr prog w A target I fp wr items.length Vt St) (st : St 0 c₂.heap)
      (hfp : ∀ b ∈ fp, b ∉ H ∧ ∃ o, c₂.heap.get? b = some o) (hwr : ∀ b ∈ wr, c'.heap.get? b = none)
      (htw : ∀ Hx, (∀ b ∈ Hx, ∃ o, c'.heap.get? b = some o) → TabOk Hx c'.heap → TabOk (wr ++ Hx) c₂.heap)
      (hVt : ∀ i ws ds, Vt i ws → items[i]? = some ds → RepL (wr ++ H) c₂ ds ws)
/-- an expression to be walked -/
noncomputable def IS (prog : Program) (w : World) (g₀ : Heap) (A : Around) (H : List Addr) (env : Env) (c : Cf) (iter target : Expr) (items : List (List D)) : Prop :=
  ∀ c', Kp c c' → SOk g₀ H c' → wpAny (model prog w) A (eval iter env) (fun xv s₁ => wpAny (model prog w) A (pyIter xv) (ItAt prog w A H c' target items) NE s₁) NE c'.s

/-- a place within, where more is hidden -/
structure Inner (H H' : List Addr) (c c₁ : Cf) : Prop where
  sub : ∀ b ∈ H, b ∈ H'
  new : ∀ b ∈ H', b ∈ H ∨ c.heap.get? b = none
  k : Kp c c₁
theorem Inner.rep {g₀ : Heap} {H H' : List Addr} {c c₁ : Cf} (x : Inner H H' c c₁) (so : SOk g₀ H c) {d : D} {v : Value} (r : Rep H c d v) : Rep H' c₁ d v :=
  r.move (x.k.cm so.mt (fun _ q => by cases q)) x.new
theorem Inner.after {H H' : List Addr} {c₀ c c₁ : Cf} (k : Kp c₀ c) (x : Inner H H' c c₁) : Inner H H' c₀ c₁ := by
  refine ⟨x.sub, fun b hb => (x.new b hb).imp id fun e => ?_, k.trans x.k⟩
  cases q : c₀.heap.get? b with
  | none => rfl
  | some o => obtain ⟨o', e'⟩ := k.al b ⟨o, q⟩; rw [e] at e'; cases e'

noncomputable def Bnd (H : List Addr) (env : Env) (c : Cf) : List Str → List D → Prop
  | x :: xs, d :: ds => VarAt H env c x d ∧ Bnd H env c xs ds
  | _, _ => True

section
variable {prog : Program} {w : World} {g₀ : Heap} {A : Around} {H : List Addr} {env : Env} {c : Cf} {s : Shared} {E : Value → Shared → Prop}
theorem binds_other {x : Str} : ∀ {names : List Str} {ws : List Value} {m : Str → Option Value}, x ∉ names → binds m names ws x = m x
  | [], _, m, _ => rfl
  | y :: ys, [], m, _ => rfl
  | y :: ys, v :: vs, m, h => by
    rw [binds, binds_other (fun q => h (List.mem_cons_of_mem _ q))]
    exact if_neg fun q => h (by rw [q]; exact List.mem_cons_self)
theorem bnd_of {c : Cf} : ∀ {names : List Str} {ds : List D} {ws : List Value} {m m' : Str → Option Value}, names.Nodup → (∀ x ∈ names, env.kindOf x = some .local) → env.scope.kind = .function → env.locals ∉ MUT → c.heap.Ns env.locals m' → (∀ x ∈ names, m' x = binds m names ws x) → RepL H c ds ws → Bnd H env c names ds
  | [], _, _, _, _, _, _, _, _, _, _, _ => trivial
  | _ :: _, [], _, _, _, _, _, _, _, _, _, _ => trivial
  | x :: xs, d :: ds, ws, m, m', nd, hx, hk, hL, hn, hm, r => by
    obtain ⟨v, q, rfl, h1, h2⟩ := r.cons_inv
    have nd' := List.nodup_cons.mp nd
    refine ⟨⟨v, ⟨hk, .inl ⟨hx x List.mem_cons_self, hL, m', hn, ?_⟩⟩, h1⟩, ?_⟩
    · rw [hm x List.mem_cons_self, binds, binds_other nd'.1]; exact if_pos rfl
    · exact bnd_of (m := fun y => if y = x then some v else m y) nd'.2 (fun y hy => hx y (List.mem_cons_of_mem _ hy)) hk hL hn (fun y hy => by rw [hm y (List.mem_cons_of_mem _ hy)]; rfl) h2
end

section
variable {prog : Program} {w : World} {g₀ : Heap} {A : Around} {H : List Addr} {env : Env} {c : Cf} {E : Value → Shared → Prop}
theorem loop_turn {elt target iter : Expr} {ifs : List Expr} {scope : Scope} {pos : Pos} {it acc : Value} {cenv : Env} {R : Result → Shared → Prop} {s : Shared} (J : Nat → Shared → Prop)
    (turn : ∀ n s, J n s → wpAny (model prog w) A (pyNext it) (fun r s₁ => match r with
      | none => R (.ok .next) s₁
      | some v => wpAny (model prog w) A (letOwnedTupleGo target it v) (fun _ s₁' => wpAny (model prog w) A (assign target cenv v) (fun _ s₂ =>
          wpAny (model prog w) A (forIn ifs true fun c r => if r = true then do let ok ← isTrue c cenv (eval c cenv); pure (ForInStep.yield ok) else pure (ForInStep.yield r)) (fun ok s₃ =>
            if ok = true then wpAny (model prog w) A (eval elt cenv) (fun x s₄ =>
              wpAny (model prog w) A (call (.builtin "list.append") [acc, x]) (fun _ s₅ => ∃ m, m < n ∧ J m s₅) NE s₄) NE s₃
            else ∃ m, m < n ∧ J m s₃) NE s₂) NE s₁') NE s₁) NE s)
    (n : Nat) (h : J n s) : codeAny (model prog w) A (.compLoop (.ListComp elt [⟨target, iter, ifs, 0⟩] scope pos) 0 it acc cenv) R s := by
  refine codeAny_loop rfl J (fun n s hI => ?_) n h
  show wpAny _ A ((compTurn (.ListComp elt [⟨target, iter, ifs, 0⟩] scope pos) 0 it acc cenv).onRaise (fun x => do noteFrame x cenv; theTreesLotGoes x)) _ _ s
  refine wpAny_noted (ne_any ?_)
  rw [compTurn_list]
  refine wpAny_bind (wpAny_standAt (wpAny_bind (ne_mono (turn n s hI) fun r s₁ h₁ => ?_)))
  cases r with
  | none => exact wpAny_pure h₁
  | some v =>
    refine wpAny_bind (ne_mono h₁ fun _ s₁' h₁' => ?_)
    refine wpAny_bind (ne_mono h₁' fun _ s₂ h₂ => wpAny_bind (ne_mono h₂ fun ok s₃ h₃ => ?_))
    cases ok with
    | false => exact wpAny_pure ⟨rfl, h₃⟩
    | true => exact wpAny_bind (wpAny_bind (ne_mono h₃ fun x s₄ h₄ => wpAny_bind (ne_mono h₄ fun _ s₅ h₅ => wpAny_pure (wpAny_pure ⟨rfl, h₅⟩))))

/-- the turns' results so far -/
noncomputable def picks (p : Nat → Bool) (f : Nat → D) (k : Nat) : List D := ((List.range k).filter p).map f
theorem picks_succ_true {p : Nat → Bool} {f : Nat → D} {k : Nat} (h : p k = true) : picks p f (k + 1) = picks p f k ++ [f k] := by
  unfold picks; rw [List.range_succ, List.filter_append, List.map_append]; simp [h]
theorem picks_succ_false {p : Nat → Bool} {f : Nat → D} {k : Nat} (h : p k = false) : picks p f (k + 1) = picks p f k := by
  unfold picks; rw [List.range_succ, List.filter_append, List.map_append]; simp [h]
theorem picks_len {p : Nat → Bool} {f : Nat → D} {k : Nat} : (picks p f k).length ≤ k := by
  unfold picks; rw [List.length_map]; exact Nat.le_trans (List.length_filter_le _ _) (by simp)

noncomputable def TVs (prog : Program) (w : World) (g₀ : Heap) (A : Around) (H : List Addr) (env : Env) (c : Cf) (ifs : List Expr) (b : Bool) : Prop :=
  match ifs with
  | [] => b = true
  | [t] => TV prog w g₀ A H env c t b
  | _ => False

/-- an expression's value behind changes at Z -/
inductive GotZ (Z H : List Addr) (c : Cf) (d : D) (J : Heap → Prop) (v : Value) (s' : Shared) : Prop
  | mk (c' : Cf) (es : c'.s = s') (k : Kx Z c c') (r : Rep H c' d v) (j : J c'.heap)
inductive TurnG (Y H : List Addr) (C E : Addr) (ca : Cf) (n : Nat) (l : Nat → List D) (St J : Nat → Heap → Prop) (k : Nat) (s' : Shared) : Prop
  | mk (i : Nat) (c₁ : Cf) (es : c₁.s = s') (hi : i ≤ n) (hk : k = n + 1 - i) (kx : Kx Y ca c₁) (st : St i c₁.heap) (j : J i c₁.heap) (ns : ∃ m, c₁.heap.Ns C m) (vs : List Value) (hD : c₁.heap.PlainList E vs.toArray) (r : RepL H c₁ (l i) vs)
theorem tests_told {ifs : List Expr} {b : Bool} (hb : TVs prog w g₀ A H env c ifs b) (so : SOk g₀ H c) :
    wpAny (model prog w) A (forIn ifs true fun c r => if r = true then do let ok ← isTrue c env (eval c env); pure (ForInStep.yield ok) else pure (ForInStep.yield r)) (fun x => Told c (x = b)) NE c.s := by
  cases ifs with
  | nil => exact wpAny_tests_nil ⟨c, rfl, Kx.refl _ _, (show b = true from hb).symm⟩
  | cons t r =>
    cases r with
    | nil => exact wpAny_tests_one (hb c (Kx.refl _ _) so)
    | cons _ _ => exact hb.elim

theorem ns_at {h : Heap} {a : Addr} {m : Str → Option Value} (x : h.Ns a m) : ∃ o, h.get? a = some o := let ⟨o, _, _, e, _⟩ := x; ⟨o, e⟩
theorem plain_at {h : Heap} {a : Addr} {vs : Array Value} (x : h.PlainList a vs) : ∃ o, h.get? a = some o := let ⟨_, e⟩ := x; ⟨_, e⟩
theorem compG_core {elt target iter : Expr} {ifs : List Expr} {scope : Scope} {pos : Pos} {names : List Str} {cl : List (Str × Addr)} {items : List (List D)} {p : Nat → Bool} {f : Nat → D} {Z jf : List Addr} {J : Nat → Heap → Prop} {c₀ c₂ : Cf} {I : Addr} {fp wr : List Addr} {Vt : Nat → List Value → Prop} {St : Nat → Heap → Prop}
    {RR : Value → Addr → Result → Shared → Prop}
    (T : Tgt target names) (hA : A.handled = none) (hcell : ∀ y ∈ scope.names, y.2 ≠ .cell) (hkind : scope.kind = .function) (hx : ∀ x ∈ names, scope.names.lookup x = some .local) (nd : names.Nodup) (hsz : items.length ≤ sizeLine) (hds : ∀ ds ∈ items, ds.length = names.length)
    (so₀ : SOk g₀ H c₀) (k₀ : Kp c₀ c₂) (W : Itr prog w A target I fp wr items.length Vt St) (hst : St 0 c₂.heap) (hfp : ∀ b ∈ fp, b ∉ H ∧ ∃ o, c₂.heap.get? b = some o) (hwr : ∀ b ∈ wr, c₀.heap.get? b = none)
    (htw : ∀ Hx, (∀ b ∈ Hx, ∃ o, c₀.heap.get? b = some o) → TabOk Hx c₀.heap → TabOk (wr ++ Hx) c₂.heap)
    (hVt : ∀ i ws ds, Vt i ws → items[i]? = some ds → RepL (wr ++ H) c₂ ds ws)
    (hZ : ∀ b ∈ Z, b ∈ H) (hZM : ∀ b ∈ Z, b ∉ MUT) (hZg : ∀ b ∈ Z, g₀.get? b = none) (hjf : ∀ b ∈ jf, b ∉ MUT ∧ ∃ o, c₀.heap.get? b = some o) (hJf : ∀ i h h', J i h → (∀ b ∈ jf, ∀ o, h.get? b = some o → h'.get? b = some o) → J i h') (hJ₀ : J 0 c₀.heap)
    (hbody : ∀ i ds, items[i]? = some ds → ∀ H' C c₁, (∀ b ∈ H, b ∈ H') → (∀ b ∈ H', b ∈ H ∨ c₀.heap.get? b = none) → Kx Z c₀ c₁ → SOk g₀ H' c₁ → Bnd H' (compEnvC scope cl C env) c₁ names ds →
      TVs prog w g₀ A H' (compEnvC scope cl C env) c₁ ifs (p i) ∧ (p i = true → ∀ c₂, Kp c₁ c₂ → SOk g₀ H' c₂ → J i c₂.heap → wpAny (model prog w) A (eval elt (compEnvC scope cl C env)) (GotZ Z H' c₂ (f i) (J (i + 1))) NE c₂.s))
    (hJp : ∀ i h, p i = false → J i h → J (i + 1) h)
    (hfin : ∀ C D c₃ m', Kx Z c₀ c₃ → C ≠ D → c₀.heap.get? C = none → c₀.heap.get? D = none → SOk g₀ (C :: H) c₃ → c₃.heap.Ns C m' → Rep (C :: H) c₃ (.list (picks p f items.length)) (.ref D) →
      (∀ Hx, (∀ b ∈ Z, b ∈ Hx) → (∀ b ∈ Hx, ∃ o, c₀.heap.get? b = some o) → TabOk Hx c₀.heap → TabOk (C :: Hx) c₃.heap) → RR (.ref D) C (.ok .next) c₃.s) :
    wpAny (model prog w) A (newList []) (fun acc s₃ => wpAny (model prog w) A (newFunctionEnv scope env.globals cl [] env.qual none .none (some env)) (fun cenv s₄ =>
      codeAny (model prog w) A (.compStart (.ListComp elt [⟨target, iter, ifs, 0⟩] scope pos) 0 (.ref I) acc { cenv with scope := relabel scope env }) (RR acc cenv.locals) s₄) NE s₃) NE c₂.s := by
  obtain ⟨⟨P, Md, K, hP⟩, hal, hself⟩ := W
  have so₂ := so₀.kp k₀
  refine wpAny_newObj_type (wpAny_newFunctionEnv hcell (by intro y hy; simp at hy) (fun h₁ hns₁ hsb₁ => ?_) hkind)
  dsimp only at hns₁ hsb₁ ⊢
  generalize hH2 : c₂.s.heap.push { cls := .type "list", dict := none, data := .seq ([] : List Value).toArray } = H2 at hns₁ hsb₁ ⊢
  have hC : H2.objs.size = c₂.s.heap.objs.size + 1 := by rw [← hH2, Heap.size_push]
  have hDC : c₂.s.heap.objs.size ≠ H2.objs.size := by rw [hC]; exact Nat.ne_of_lt (Nat.lt_succ_self _)
  have below : ∀ b, b < c₂.s.heap.objs.size → b ≠ H2.objs.size ∧ b ≠ c₂.s.heap.objs.size := fun b hb => ⟨by rw [hC]; exact Nat.ne_of_lt (Nat.lt_succ_of_lt hb), Nat.ne_of_lt hb⟩
  have fresh₂ : ∀ a, c₂.s.heap.objs.size ≤ a → c₂.heap.get? a = none := fun a ha => by
    cases e : c₂.heap.get? a with
    | none => rfl
    | some o' => exact absurd (Heap.lt_size e) (Nat.not_lt.mpr ha)
  have fresh₀ : ∀ a, c₂.heap.get? a = none → c₀.heap.get? a = none := fun a ha => by
    cases e : c₀.heap.get? a with
    | none => rfl
    | some o' => obtain ⟨o, e2⟩ := k₀.al a ⟨o', e⟩; rw [ha] at e2; cases e2
  have old : ∀ b o, c₂.heap.get? b = some o → h₁.get? b = some o := fun b o e => hsb₁.extBut b o (below b (Heap.lt_size e)).1 (Heap.get?_push_of_some _ (hH2 ▸ Heap.get?_push_of_some _ e))
  have hacc : h₁.PlainList c₂.s.heap.objs.size #[] := ⟨_, hsb₁.extBut _ _ hDC (Heap.get?_push_of_some _ (hH2 ▸ Heap.get?_push_size _ rfl))⟩
  have hst₁ : St 0 h₁ := K.frame _ _ _ hst fun b _ o e => old b o e
  have nD := fresh₂ c₂.s.heap.objs.size (Nat.le_refl _)
  have nC := fresh₂ H2.objs.size (by lia)
  generalize c₂.s.heap.objs.size = D at *
  generalize H2.objs.size = C at *
  have hDf : D ∉ fp := fun q => by obtain ⟨_, o, e⟩ := hfp _ q; rw [nD] at e; cases e
  have hCf : C ∉ fp := fun q => by obtain ⟨_, o, e⟩ := hfp _ q; rw [nC] at e; cases e
  have hMf : ∀ b ∈ fp, b ∉ MUT := fun b hb q => (hfp b hb).1 (so₀.mt b q)
  have wrf : ∀ b ∈ wr, b ∈ fp := K.sub
  have hX₀ : ∀ b ∈ C :: D :: wr, c₀.heap.get? b = none := all_cons (fresh₀ _ nC) (all_cons (fresh₀ _ nD) hwr)
  have hXH : ∀ b ∈ C :: D :: wr, b ∉ H := fun b hb => so₀.fresh (hX₀ b hb)
  have hXM : ∀ b ∈ C :: D :: wr, b ∉ MUT := fun b hb q => hXH b hb (so₀.mt b q)
  have hXg : ∀ b ∈ C :: D :: wr, g₀.get? b = none := fun b hb => by
    cases e : g₀.get? b with
    | none => rfl
    | some o => have := so₀.base _ _ e; rw [hX₀ b hb] at this; cases this
  have CX : C ∈ C :: D :: wr := List.mem_cons_self
  have DX : D ∈ C :: D :: wr := List.mem_cons_of_mem _ List.mem_cons_self
  have wX : ∀ b ∈ wr, b ∈ C :: D :: wr := fun b hb => List.mem_cons_of_mem _ (List.mem_cons_of_mem _ hb)
  have CW : C ∉ wr := fun q => hCf (wrf _ q)
  have DW : D ∉ wr := fun q => hDf (wrf _ q)
  -- the state where all is laid
  have hka : Kp c₂ (c₂.put h₁ c₂.s.toks) := .of old (Nat.le_refl _)
  generalize hca : c₂.put h₁ c₂.s.toks = ca at hka
  have eca : ca.heap = h₁ := by rw [← hca]
  have hta : ∀ Hx, (∀ b ∈ Hx, ∃ o, c₀.heap.get? b = some o) → TabOk Hx c₀.heap → TabOk (C :: D :: wr ++ Hx) ca.heap := fun Hx hl t => by
    have t2 := htw Hx hl t
    rw [eca]
    exact t2.move (fun b hb o e => old b o e) (fun b o _ e => old b o e) (all_app (all_cons (.inr nC) (all_cons (.inr nD) fun b q => .inl (List.mem_append_left _ q))) fun b q => .inl (List.mem_append_right _ q))
  have alX : ∀ b ∈ C :: D :: wr, ∃ o, ca.heap.get? b = some o := by
    rw [eca]
    exact all_cons (ns_at hns₁) (all_cons (plain_at hacc) fun b hb => (hfp b (wrf b hb)).2.elim fun o e => ⟨o, old _ _ e⟩)
  have soa : SOk g₀ (C :: D :: wr ++ H) ca := ⟨all_app alX (so₂.kp hka).low, fun b hb => List.mem_append_right _ (so₀.mt b hb), so₀.gm, (so₂.kp hka).base, hta H so₀.low so₀.tab, (so₂.kp hka).pos, so₀.nb⟩
  have XH' : ∀ b ∈ C :: D :: wr, b ∈ C :: D :: wr ++ H := fun b hb => List.mem_append_left _ hb
  have hYM : ∀ b ∈ C :: D :: wr ++ Z, b ∉ MUT := fun b hb => (List.mem_append.mp hb).elim (hXM b) (hZM b)
  have hYg : ∀ b ∈ C :: D :: wr ++ Z, g₀.get? b = none := fun b hb => (List.mem_append.mp hb).elim (hXg b) (hZg b)
  have YH' : ∀ b ∈ C :: D :: wr ++ Z, b ∈ C :: D :: wr ++ H := fun b hb => (List.mem_append.mp hb).elim (XH' b) fun q => List.mem_append_right _ (hZ b q)
  have XY : ∀ b ∈ C :: D :: wr, b ∈ C :: D :: wr ++ Z := fun b hb => List.mem_append_left _ hb
  have ZY : ∀ b ∈ Z, b ∈ C :: D :: wr ++ Z := fun b hb => List.mem_append_right _ hb
  have nZ : ∀ b ∈ C :: D :: wr, b ∉ Z := fun b hb q => hXH b hb (hZ b q)
  have ktab : ∀ {c₃}, Kx (C :: D :: wr ++ Z) ca c₃ → ∀ Hx, (∀ b ∈ Z, b ∈ Hx) → (∀ b ∈ Hx, ∃ o, c₀.heap.get? b = some o) → TabOk Hx c₀.heap → TabOk (C :: D :: wr ++ Hx) c₃.heap := fun {c₃} k Hx hz hl t =>
    k.tab (C :: D :: wr ++ Hx) (fun b hb => (List.mem_append.mp hb).elim (List.mem_append_left _) fun q => List.mem_append_right _ (hz b q)) (all_app alX fun b q => hka.al b (k₀.al b (hl b q))) (hta Hx hl t)
  have kfin : ∀ {c₃}, Kx (C :: D :: wr ++ Z) ca c₃ → Kx Z c₀ c₃ := fun {c₃} k => by
    have k0 := k₀.trans hka
    refine ⟨by obtain ⟨h, tk, e⟩ := k0.same; obtain ⟨h', tk', e'⟩ := k.same; rw [e', e]; exact ⟨_, _, rfl⟩, fun b o hM hb e => k.kp b o hM (fun q => (List.mem_append.mp q).elim (fun q => by have := hX₀ b q; rw [e] at this; cases this) hb) (k0.keep hM e),
      Nat.le_trans k0.tk k.tk, fun n hn => (k.gh n (Nat.lt_of_lt_of_le hn k0.tk)).trans (k0.gh n hn), fun b h => k.al b (k0.al b h), fun Hx hz hl t => (ktab k Hx hz hl t).sub fun b hb => List.mem_append_right _ hb⟩
  have jX : ∀ b ∈ jf, b ∉ C :: D :: wr := fun b hb q => by obtain ⟨_, o, e⟩ := hjf b hb; rw [hX₀ b q] at e; cases e
  have hJ₁ : J 0 h₁ := hJf _ _ _ hJ₀ fun b hb o e => old b o (k₀.keep (hjf b hb).1 e)
  have loop : ∀ s₃ : Shared, s₃ = ca.s →
      codeAny (model prog w) A (.compLoop (.ListComp elt [⟨target, iter, ifs, 0⟩] scope pos) 0 (.ref I) (.ref D) (compEnvC scope cl C env)) (RR (.ref D) C) s₃ := by
    rintro s₃ rfl
    have fin : ∀ (c₁ : Cf) (h₂ : Heap) (tk₂ : Nat), Kx (C :: D :: wr ++ Z) ca c₁ → (∃ m, c₁.heap.Ns C m) → (∃ vs, c₁.heap.PlainList D vs.toArray ∧ RepL (C :: D :: wr ++ H) c₁ (picks p f items.length) vs) → c₁.s.toks ≤ tk₂ → (∀ b o, b ∉ wr → c₁.heap.get? b = some o → h₂.get? b = some o) →
        RR (.ref D) C (.ok .next) (c₁.put h₂ tk₂).s := by
      rintro c₁ h₂ tk₂ k ⟨m, hn⟩ ⟨vs, ⟨n, hD⟩, r⟩ ht hk
      have so := soa.kx k YH' hYg
      have kc := kfin k
      have sub : ∀ {Hx : List Addr}, ∀ b ∈ C :: Hx, b ∈ C :: D :: wr ++ Hx := fun {Hx} => all_cons List.mem_cons_self fun b hb => List.mem_append_right _ hb
      have notwr : ∀ b o, c₀.heap.get? b = some o → b ∉ wr := fun b o e q => by have := hwr b q; rw [e] at this; cases this
      have tab₃ : ∀ Hx, (∀ b ∈ Z, b ∈ Hx) → (∀ b ∈ Hx, ∃ o, c₀.heap.get? b = some o) → TabOk Hx c₀.heap → TabOk (C :: Hx) h₂ := fun Hx hz hl t =>
        (ktab k Hx hz hl t).move (fun b hb o e => hk b o (fun q => hXM b (wX b q) hb) e) (fun b o hb e => hk b o (fun q => hb (List.mem_append_left _ (wX b q))) e) fun b hb => .inl (sub b hb)
      have al₃ : ∀ b, (∃ o, c₀.heap.get? b = some o) → ∃ o, h₂.get? b = some o := fun b h => by
        obtain ⟨o, e⟩ := h
        obtain ⟨o', e'⟩ := kc.al b ⟨o, e⟩
        exact ⟨o', hk b o' (notwr b o e) e'⟩
      have k₃ : Kx Z c₀ (c₁.put h₂ tk₂) := ⟨by obtain ⟨h, tk, e⟩ := kc.same; exact ⟨h₂, tk₂, by show ({ c₁.s with heap := h₂, toks := tk₂ } : Shared) = _; rw [e]⟩,
        fun b o hb hz e => hk b o (notwr b o e) (kc.kp b o hb hz e), Nat.le_trans kc.tk ht, fun n hn => kc.gh n hn, al₃, fun Hx hz hl t => (tab₃ Hx hz hl t).sub fun b hb => List.mem_cons_of_mem _ hb⟩
      have hn₃ : h₂.Ns C m := hn.at' fun o e => hk _ o CW e
      refine hfin C D (c₁.put h₂ tk₂) m k₃ (Ne.symm hDC) (hX₀ C CX) (hX₀ D DX) ⟨all_cons (ns_at hn₃) fun b hb => al₃ b (so₀.low b hb), fun b hb => List.mem_cons_of_mem _ (so₀.mt b hb), so₀.gm, fun b o e => ?_, tab₃ H hZ so₀.low so₀.tab, Nat.lt_of_lt_of_le so.pos ht, so₀.nb⟩ hn₃ ?_ tab₃
      · exact hk b o (fun q => by have := hXg b (wX b q); rw [e] at this; cases this) (so.base b o e)
      · refine Rep.list (n := n) (fun q => ?_) (hk _ _ DW hD) (r.move (H' := C :: H) (c' := c₁.put h₂ tk₂) ⟨fun b o hb e => hk b o (fun q => hb (List.mem_append_left _ (wX b q))) e, ht, fun _ _ => rfl⟩ fun b hb => .inl (sub b hb))
        rcases List.mem_cons.mp q with z | z
        · exact hDC z
        · exact hXH D DX z
    refine loop_turn (TurnG (C :: D :: wr ++ Z) (C :: D :: wr ++ H) C D ca items.length (picks p f) St J) ?_ (items.length + 1)
      ⟨0, ca, rfl, Nat.zero_le _, rfl, .refl _ _, by rw [eca]; exact hst₁, by rw [eca]; exact hJ₁, ⟨_, by rw [eca]; exact hns₁⟩, [], by rw [eca]; exact hacc, .nil⟩
    rintro k s' ⟨i, c₁, rfl, hi, rfl, kx, st, jj, ⟨m, hn⟩, vs, hD, r⟩
    have so := soa.kx kx YH' hYg
    by_cases hlt : i < items.length
    · obtain ⟨ds, hdsi⟩ : ∃ ds, items[i]? = some ds := ⟨_, List.getElem?_eq_getElem hlt⟩
      refine wpAny_with_toks (n := c₁.s.toks) (Nat.le_refl _) (K.item i _ _ _ hlt st fun v h₂ tk₂ hMd hk₂ htk₂ => ?_)
      refine ne_any (K.go i v _ _ _ hMd fun h₃ hPv st₃ hk₃ => ?_)
      obtain ⟨ws, sh, hv⟩ := hP i v h₃ hPv
      have hrep := hVt i ws ds hv hdsi
      have hwl : ws.length = names.length := by rw [hrep.length]; exact hds _ (List.mem_of_getElem? hdsi)
      have keep₃ : ∀ b o, b ∉ wr → c₁.heap.get? b = some o → h₃.get? b = some o := fun b o hb e => hk₃ b o hb (hk₂ b o hb e)
      have hn₃ : h₃.Ns C m := hn.at' fun o e => keep₃ _ o CW e
      refine assign_tgt T hA (cenv := compEnvC scope cl C env) (fun x hx' => lookup_relabel_local (hx x hx')) hkind sh hwl hn₃ fun h₄ tk₄ htk₄ hn₄ hk₄ => ?_
      have st₄ : St (i + 1) h₄ := K.frame _ _ _ st₃ fun b hb o e => hk₄ b o (fun q => hCf (by have q' : b = C := q; rw [← q']; exact hb)) e
      have k₄ : Kx (C :: D :: wr) c₁ (c₁.put h₄ tk₄) := Kx.put (fun b o hb e => hk₄ b o (fun q => hb (q ▸ CX)) (keep₃ b o (fun q => hb (wX b q)) e)) hXM (all_cons (ns_at hn₄) (all_cons (hD.elim fun n e => ⟨_, hk₄ _ _ hDC (keep₃ _ _ DW e)⟩) (hal _ _ st₄))) (Nat.le_trans htk₂ htk₄)
      generalize hc₄ : c₁.put h₄ tk₄ = c₄ at k₄
      have e₄ : c₄.heap = h₄ := by rw [← hc₄]
      have so₄ := so.kx k₄ XH' hXg
      have hrep₄ : RepL (C :: D :: wr ++ H) c₄ ds ws := ((hrep.move (H' := C :: D :: wr ++ H) (hka.cm (fun b hb => List.mem_append_right _ (so₀.mt b hb)) (fun _ q => by cases q)) (all_app (all_cons (.inr nC) (all_cons (.inr nD) fun b q => .inl (List.mem_append_left _ q))) fun b q => .inl (List.mem_append_right _ q))).kx soa kx YH').kx so k₄ XH'
      have hbnd : Bnd (C :: D :: wr ++ H) (compEnvC scope cl C env) c₄ names ds := bnd_of nd (fun x hx' => lookup_relabel_local (hx x hx')) hkind (hXM C CX) (by rw [e₄]; exact hn₄) (fun x _ => rfl) hrep₄
      have j₄ : J i c₄.heap := by
        rw [e₄]
        exact hJf _ _ _ jj fun b hb o e => hk₄ b o (fun q => jX b hb (by have q' : b = C := q; rw [q']; exact CX)) (keep₃ b o (fun q => jX b hb (wX b q)) e)
      obtain ⟨hb1, hb2⟩ := hbody i ds hdsi (C :: D :: wr ++ H) C c₄ (fun b hb => List.mem_append_right _ hb) (fun b hb => (List.mem_append.mp hb).elim (fun q => .inr (hX₀ b q)) .inl) (kfin (kx.trans (k₄.mono XY))) so₄ hbnd
      have hs₄ : ({ c₁.s with heap := h₄, toks := tk₄ } : Shared) = c₄.s := by rw [← hc₄]
      show wpAny _ _ _ _ _ ({ c₁.s with heap := h₄, toks := tk₄ } : Shared)
      rw [hs₄]
      refine told_then (tests_told hb1 so₄) so₄ fun b c₅ k₅ so₅ eb => ?_
      subst eb
      have kx₅ : Kx (C :: D :: wr ++ Z) ca c₅ := (kx.trans (k₄.mono XY)).trans (k₅.mono fun _ q => by cases q)
      have fr₅ : ∀ {b : Addr} {o : Obj}, b ∉ MUT → h₄.get? b = some o → c₅.heap.get? b = some o := fun hb e => k₅.keep hb (by rw [e₄]; exact e)
      have st₅ : St (i + 1) c₅.heap := K.frame _ _ _ st₄ fun b hb o e => fr₅ (hMf b hb) e
      have hn₅ : c₅.heap.Ns C _ := hn₄.at' fun o e => fr₅ (hXM C CX) e
      have hD₅ : c₅.heap.PlainList D vs.toArray := hD.at fun o e => fr₅ (hXM D DX) (hk₄ _ _ hDC (keep₃ _ _ DW e))
      have r₅ : RepL (C :: D :: wr ++ H) c₅ (picks p f i) vs := (r.kx so k₄ XH').kp so₄ k₅
      have j₅ : J i c₅.heap := hJf _ _ _ j₄ fun b hb o e => k₅.keep (hjf b hb).1 e
      cases hp : p i with
      | false =>
        simp only [Bool.false_eq_true, if_false]
        exact ⟨items.length + 1 - (i + 1), Nat.sub_lt_sub_left (Nat.lt_succ_of_lt hlt) (Nat.lt_succ_self i), i + 1, c₅, rfl, hlt, rfl, kx₅, st₅, hJp _ _ hp j₅, ⟨_, hn₅⟩, vs, hD₅, by rw [picks_succ_false hp]; exact r₅⟩
      | true =>
      simp only [if_true]
      refine ne_mono (hb2 hp c₅ k₅ so₅ j₅) fun y s₆ h₆ => ?_
      obtain ⟨c₆, rfl, k₆, ry, j₆⟩ := h₆
      have k₆Y : Kx (C :: D :: wr ++ Z) c₅ c₆ := k₆.mono ZY
      have so₆ := so₅.kx k₆Y YH' hYg
      have st₆ : St (i + 1) c₆.heap := K.frame _ _ _ st₅ fun b hb o e => k₆.kp _ _ (hMf b hb) (fun q => (hfp b hb).1 (hZ b q)) e
      have hn₆ : c₆.heap.Ns C _ := hn₅.at' fun o e => k₆.kp _ _ (hXM C CX) (nZ C CX) e
      have hD₆ : c₆.heap.PlainList D vs.toArray := hD₅.at fun o e => k₆.kp _ _ (hXM D DX) (nZ D DX) e
      have r₆ : RepL (C :: D :: wr ++ H) c₆ (picks p f i) vs := r₅.kx so₅ k₆Y YH'
      have hvl : vs.toArray.size ≤ sizeLine := by
        rw [List.size_toArray, r₆.length]
        exact Nat.le_trans picks_len (Nat.le_trans hi hsz)
      refine wpAny_list_append_plain (hsz := hvl) hD₆ fun h₇ hl₇ hs₇ => ?_
      have k₇ : Kx (C :: D :: wr) c₆ (c₆.put h₇ c₆.s.toks) := Kx.put (fun b o hb e => hs₇.extBut b o (fun q => hb (q ▸ DX)) e) hXM (fun b hb => by
        by_cases q : b = D
        · subst q; obtain ⟨n, e⟩ := hl₇; exact ⟨_, e⟩
        · obtain ⟨o, e⟩ := so₆.low b (XH' b hb); exact ⟨o, hs₇.extBut b o q e⟩) (Nat.le_refl _)
      have st₇ : St (i + 1) h₇ := K.frame _ _ _ st₆ fun b hb o e => hs₇.extBut b o (fun q => hDf (q ▸ hb)) e
      have hn₇ : h₇.Ns C _ := hn₆.sameBut hs₇ (Ne.symm hDC)
      have j₇ : J (i + 1) h₇ := hJf _ _ _ j₆ fun b hb o e => hs₇.extBut b o (fun q => jX b hb (by rw [q]; exact DX)) e
      refine ⟨items.length + 1 - (i + 1), Nat.sub_lt_sub_left (Nat.lt_succ_of_lt hlt) (Nat.lt_succ_self i), i + 1, c₆.put h₇ c₆.s.toks, rfl, hlt, rfl, (kx₅.trans k₆Y).trans (k₇.mono XY), st₇, j₇, ⟨_, hn₇⟩, vs ++ [y], ?_, ?_⟩
      · have : (vs ++ [y]).toArray = vs.toArray.push y := by simp
        rw [this]; exact hl₇
      · rw [picks_succ_true hp]
        exact (r₆.append (.cons ry .nil)).kx so₆ k₇ XH'
    · have hin : i = items.length := Nat.le_antisymm hi (Nat.not_lt.mp hlt)
      subst hin
      exact wpAny_with_toks (n := c₁.s.toks) (Nat.le_refl _) (K.done _ _ _ st fun h₂ tk₂ hk₂ htk₂ => fin c₁ h₂ tk₂ kx ⟨m, hn⟩ ⟨vs, hD, r⟩ htk₂ hk₂)
  have es : ({ c₂.s with heap := h₁, toks := c₂.s.toks + ([] : List (Str × Value)).length } : Shared) = ca.s := by rw [← hca]; rfl
  exact codeAny_compStart_list (loop _ es) (hself 0 _ _ _ hst₁ (loop _ es))
theorem comp_core {elt target iter : Expr} {ifs : List Expr} {scope : Scope} {pos : Pos} {names : List Str} {cl : List (Str × Addr)} {items : List (List D)} {p : Nat → Bool} {f : Nat → D} {c₀ c₂ : Cf} {I : Addr} {fp wr : List Addr} {Vt : Nat → List Value → Prop} {St : Nat → Heap → Prop}
    {RR : Value → Addr → Result → Shared → Prop}
    (T : Tgt target names) (hA : A.handled = none) (hcell : ∀ y ∈ scope.names, y.2 ≠ .cell) (hkind : scope.kind = .function) (hx : ∀ x ∈ names, scope.names.lookup x = some .local) (nd : names.Nodup) (hsz : items.length ≤ sizeLine) (hds : ∀ ds ∈ items, ds.length = names.length)
    (so₀ : SOk g₀ H c₀) (k₀ : Kp c₀ c₂) (W : Itr prog w A target I fp wr items.length Vt St) (hst : St 0 c₂.heap) (hfp : ∀ b ∈ fp, b ∉ H ∧ ∃ o, c₂.heap.get? b = some o) (hwr : ∀ b ∈ wr, c₀.heap.get? b = none)
    (htw : ∀ Hx, (∀ b ∈ Hx, ∃ o, c₀.heap.get? b = some o) → TabOk Hx c₀.heap → TabOk (wr ++ Hx) c₂.heap)
    (hVt : ∀ i ws ds, Vt i ws → items[i]? = some ds → RepL (wr ++ H) c₂ ds ws)
    (hbody : ∀ i ds, items[i]? = some ds → ∀ H' C c₁, Inner H H' c₀ c₁ → SOk g₀ H' c₁ → Bnd H' (compEnvC scope cl C env) c₁ names ds →
      TVs prog w g₀ A H' (compEnvC scope cl C env) c₁ ifs (p i) ∧ (p i = true → EV prog w g₀ A H' (compEnvC scope cl C env) c₁ elt (f i)))
    (hfin : ∀ C D c₃ m', Kp c₀ c₃ → C ≠ D → c₀.heap.get? C = none → c₀.heap.get? D = none → SOk g₀ (C :: H) c₃ → c₃.heap.Ns C m' → Rep (C :: H) c₃ (.list (picks p f items.length)) (.ref D) →
      (∀ Hx, (∀ b ∈ Hx, ∃ o, c₀.heap.get? b = some o) → TabOk Hx c₀.heap → TabOk (C :: Hx) c₃.heap) → RR (.ref D) C (.ok .next) c₃.s) :
    wpAny (model prog w) A (newList []) (fun acc s₃ => wpAny (model prog w) A (newFunctionEnv scope env.globals cl [] env.qual none .none (some env)) (fun cenv s₄ =>
      codeAny (model prog w) A (.compStart (.ListComp elt [⟨target, iter, ifs, 0⟩] scope pos) 0 (.ref I) acc { cenv with scope := relabel scope env }) (RR acc cenv.locals) s₄) NE s₃) NE c₂.s :=
  compG_core (Z := []) (jf := []) (J := fun _ _ => True) (p := p) (f := f) (RR := RR) T hA hcell hkind hx nd hsz hds so₀ k₀ W hst hfp hwr htw hVt (fun _ q => by cases q) (fun _ q => by cases q) (fun _ q => by cases q) (fun _ q => by cases q) (fun _ _ _ _ _ => trivial) trivial
    (fun i ds e H' C c₁ h1 h2 k so b => ⟨(hbody i ds e H' C c₁ ⟨h1, h2, k⟩ so b).1, fun hp c₂ k₂ so₂ _ => ne_mono ((hbody i ds e H' C c₁ ⟨h1, h2, k⟩ so b).2 hp c₂ k₂ so₂) fun v s g => by
      obtain ⟨c', es, k', r⟩ := g
      exact ⟨c', es, k', r, trivial⟩⟩) (fun _ _ _ _ => trivial) fun C D c₃ m' k h1 h2 h3 so n r t => hfin C D c₃ m' k h1 h2 h3 so n r fun Hx => t Hx fun _ q => by cases q

theorem ev_compI {elt target iter : Expr} {ifs : List Expr} {scope : Scope} {pos : Pos} {names : List Str} {cl : List (Str × Addr)} {items : List (List D)} {p : Nat → Bool} {f : Nat → D}
    (T : Tgt target names) (hA : A.handled = none) (hs : ∀ x, foldedSetIterable iter env x = pure x) (hclos : closureFor scope env = pure cl) (hcell : ∀ y ∈ scope.names, y.2 ≠ .cell) (hkind : scope.kind = .function)
    (hnames : ∀ x ∈ scope.names, x.2 = .local → scope.names.lookup x.1 = some .local) (hx : ∀ x ∈ names, scope.names.lookup x = some .local) (nd : names.Nodup) (hsz : items.length ≤ sizeLine) (hds : ∀ ds ∈ items, ds.length = names.length)
    (hI : IS prog w g₀ A H env c iter target items)
    (hbody : ∀ i ds, items[i]? = some ds → ∀ H' C c₁, Inner H H' c c₁ → SOk g₀ H' c₁ → Bnd H' (compEnvC scope cl C env) c₁ names ds →
      TVs prog w g₀ A H' (compEnvC scope cl C env) c₁ ifs (p i) ∧ (p i = true → EV prog w g₀ A H' (compEnvC scope cl C env) c₁ elt (f i))) :
    EV prog w g₀ A H env c (.ListComp elt [⟨target, iter, ifs, 0⟩] scope pos) (.list (picks p f items.length)) := fun c' kc so => by
  rw [eval_ListComp]
  refine wpAny_comprehension_free (use := none) rfl hs hclos hkind hnames (ne_mono (hI c' kc so) fun xv s₁ h₁ => ne_mono h₁ fun it s₂ h₂ => ?_)
  obtain ⟨c₂, I, fp, wr, Vt, St, rfl, k₂, rfl, W, hst, hfp, hwr, htw, hVt⟩ := h₂
  refine comp_core (RR := fun acc C => compPost (model prog w) A NE none (Got H c' (.list (picks p f items.length))) acc C) T hA hcell hkind hx nd hsz hds so k₂ W hst hfp hwr htw hVt (fun i ds e H' C c₁ h1 h3 h4 => hbody i ds e H' C c₁ (h1.after kc) h3 h4) fun C D c₃ m' k₃ hCD nC nD so₃ hn r ht => ?_
  refine ⟨m', hn, fun h'' hs'' => ?_⟩
  have hCH : C ∉ H := so.fresh nC
  have al : ∀ b, (∃ o, c₃.heap.get? b = some o) → b ≠ C → ∃ o, h''.get? b = some o := fun b ⟨o, e⟩ q => ⟨o, hs''.extBut b o q e⟩
  have ne : ∀ b o, c'.heap.get? b = some o → b ≠ C := fun b o e q => by rw [q, nC] at e; cases e
  refine ⟨c₃.put h'' c₃.s.toks, rfl, ⟨by obtain ⟨h, tk, e⟩ := k₃.same; exact ⟨h'', c₃.s.toks, by show ({ c₃.s with heap := h'', toks := c₃.s.toks } : Shared) = _; rw [e]⟩, fun b o hb _ e => hs''.extBut b o (ne b o e) (k₃.kp b o hb (by simp) e), k₃.tk, k₃.gh,
    fun b ⟨o, e⟩ => al b (k₃.al b ⟨o, e⟩) (ne b o e), fun Hx _ hl t => (ht Hx hl t).move (fun b hb o e => hs''.extBut b o (fun q => hCH (so.mt b hb |> fun z => q ▸ z)) e) (fun b o hb e => hs''.extBut b o (fun q => hb (by rw [q]; exact List.mem_cons_self)) e) fun b hb => .inl (List.mem_cons_of_mem _ hb)⟩, ?_⟩
  exact r.move (H' := H) (c' := c₃.put h'' c₃.s.toks) ⟨fun b o hb e => hs''.extBut b o (fun q => hb (by rw [q]; exact List.mem_cons_self)) e, Nat.le_refl _, fun _ _ => rfl⟩ fun b hb => .inl (List.mem_cons_of_mem _ hb)
end
end Mine
end
noncomputable section
open PySem PySem.W PyProof.Rows
namespace Mine
open PySem.Calls

structure Gd (K : Frag) (g₀ : Heap) : Prop where
  kin : K.In g₀
  ns : ∃ mg mb, g₀.Ns mainGlobals mg ∧ g₀.Ns builtinsNs mb ∧ ∀ x : Str, x ≠ "__name__" → mb x = bootBuiltins x
  nolimit : g₀.NoLimit
noncomputable def GName (K : Frag) (env : Env) (x : Str) (v : Value) : Prop :=
  env.scope.kind = .function ∧ env.kindOf x = some .globalImplicit ∧ env.globals = mainGlobals ∧ env.builtins = builtinsNs ∧ (x == ("__debug__" : Str)) = false ∧
    (nsIn K mainGlobals x = some (some v) ∨ (nsIn K mainGlobals x = some none ∧ bootBuiltins x = some v ∧ x ≠ "__name__"))

section
variable {prog : Program} {w : World} {g₀ : Heap} {A : Around} {H : List Addr} {env : Env} {c : Cf} {K : Frag}
theorem name_g {x : Str} {p : Pos} {v : Value} {Q : Value → Shared → Prop} {M : Model} {E : Value → Shared → Prop} (G : Gd K g₀) (so : SOk g₀ H c) (n : GName K env x v) (h : Q v c.s) : wpAny M A (eval (.Name x p) env) Q E c.s := by
  obtain ⟨hk, hx, hg, hb, hd, hv⟩ := n
  obtain ⟨mg, mb, n1, n2, hbo⟩ := G.ns
  have n1' : c.heap.Ns mainGlobals mg := n1.keeps so.base
  have n2' : c.heap.Ns builtinsNs mb := n2.keeps so.base
  refine Name_function_global hk hx ?_ hd
  rcases hv with e | ⟨e, e2, e3⟩
  · exact loadGlobal_global (by rw [hg]; exact n1') (mg_of G.kin n1 e) h
  · exact loadGlobal_builtin (by rw [hg]; exact n1') (mg_none_of G.kin n1 e) (by rw [hb]; exact n2') ((hbo x e3).trans e2) h
theorem ev_gname {x : Str} {p : Pos} {v : Value} {d : D} (G : Gd K g₀) (n : GName K env x v) (r : ∀ H c, Rep H c d v) : EV prog w g₀ A H env c (.Name x p) d := fun c' k so => name_g G so n (Got.here (r _ _))
inductive Callee (K : Frag) : Value → Prop
  | builtin (id : String) : Callee K (.builtin id)
  | type (T : String) : Callee K (.type T)
  | ref {f : Value} (h : keepIn K f = true) : Callee K f
theorem call_gen {x : Str} {p pos : Pos} {e : Expr} {es : List Expr} {f : Value} {ds : List D} {Q : Value → Shared → Prop} {c' : Cf} (G : Gd K g₀) (n : GName K env x f) (hk : Callee K f) (k : Kp c c') (so : SOk g₀ H c') (h : EVs prog w g₀ A H env c (e :: es) ds)
    (hc : ∀ c₁ vs, Kp c' c₁ → SOk g₀ H c₁ → RepL H c₁ ds vs → wpAny (model prog w) A (call f vs) Q NE c₁.s)
    (he : starEach (e :: es) env = (false, eval e env) :: starEach es env := by rfl) (hplain : (backTo pos (starEach es env)).any (·.1) = false := by rfl) :
    wpAny (model prog w) A (eval (.Call (.Name x p) (e :: es) [] pos) env) Q NE c'.s := by
  refine Call_Name rfl (name_g G so n ?_)
  cases hk with
  | builtin id =>
    refine PyProof.Rows.callWith_builtin1 (ne_mono (h c' pos k so) fun vs s₁ ⟨c₁, e₁, k₁, r₁⟩ => ?_) he hplain
    subst e₁
    exact hc c₁ vs k₁ (so.kp k₁) r₁
  | type T =>
    refine PyProof.Rows.callWith_type1 (ne_mono (h c' pos k so) fun vs s₁ ⟨c₁, e₁, k₁, r₁⟩ => ?_) he hplain
    subst e₁
    exact hc c₁ vs k₁ (so.kp k₁) r₁
  | ref hk =>
    refine callWith_K G.kin hk (ne_mono (h c' pos k so) fun vs s₁ ⟨c₁, e₁, k₁, r₁⟩ => ?_) he hplain
    subst e₁
    exact ⟨G.kin.keeps (so.kp k₁).base, hc c₁ vs k₁ (so.kp k₁) r₁⟩
/-- a callable gives data -/
noncomputable def Fn (prog : Program) (w : World) (g₀ : Heap) (A : Around) (f : Value) (ds : List D) (d : D) : Prop :=
  ∀ H c vs, SOk g₀ H c → RepL H c ds vs → wpAny (model prog w) A (call f vs) (Got H c d) NE c.s
theorem ev_call {x : Str} {p pos : Pos} {e : Expr} {es : List Expr} {f : Value} {ds : List D} {d : D} (G : Gd K g₀) (n : GName K env x f) (hk : Callee K f) (h : EVs prog w g₀ A H env c (e :: es) ds) (hf : Fn prog w g₀ A f ds d)
    (he : starEach (e :: es) env = (false, eval e env) :: starEach es env := by rfl) (hplain : (backTo pos (starEach es env)).any (·.1) = false := by rfl) : EV prog w g₀ A H env c (.Call (.Name x p) (e :: es) [] pos) d :=
  fun c' k so => call_gen G n hk k so h (fun c₁ vs k₁ so₁ r₁ => ne_mono (hf H c₁ vs so₁ r₁) fun v s g => Got.after k₁ g) he hplain

/-! ## what is walked -/
/-- the same, behind a state where the walked thing was made -/
inductive It1 (prog : Program) (w : World) (A : Around) (H : List Addr) (c' c₁ : Cf) (target : Expr) (items : List (List D)) (it : Value) (s₂ : Shared) : Prop
  | mk (c₂ : Cf) (I : Addr) (fp wr : List Addr) (Vt : Nat → List Value → Prop) (St : Nat → Heap → Prop) (es : c₂.s = s₂) (k : Kp c' c₂) (ei : it = .ref I) (W : Itr prog w A target I fp wr items.length Vt St) (st : St 0 c₂.heap)
      (hfp : ∀ b ∈ fp, b ∉ H ∧ ∃ o, c₂.heap.get? b = some o) (hwr : ∀ b ∈ wr, c₁.heap.get? b = none)
      (hVt : ∀ i ws ds, Vt i ws → items[i]? = some ds → RepL (wr ++ H) c₂ ds ws) (hk : ∀ b o, c₁.heap.get? b = some o → c₂.heap.get? b = some o)
theorem is_of {iter target : Expr} {items : List (List D)} (h : ∀ c', Kp c c' → SOk g₀ H c' → wpAny (model prog w) A (eval iter env) (fun xv s₁ => ∃ c₁, Kp c' c₁ ∧ wpAny (model prog w) A (pyIter xv) (It1 prog w A H c' c₁ target items) NE s₁) NE c'.s) : IS prog w g₀ A H env c iter target items := fun c' k so =>
  ne_mono (h c' k so) fun xv s₁ h₀ => by
    obtain ⟨c₁, k₁, h₁⟩ := h₀
    refine ne_mono h₁ fun it s₂ h₂ => ?_
    obtain ⟨c₂, I, fp, wr, Vt, St, e₂, k₂, hI, W, hst, hfp, hwr, hVt, hk⟩ := h₂
    refine ⟨c₂, I, fp, wr, Vt, St, e₂, k₂, hI, W, hst, hfp, fun b hb => ?_, fun Hx hl t => ?_, hVt⟩
    · cases e : c'.heap.get? b with
      | none => rfl
      | some o => obtain ⟨o', e'⟩ := k₁.al b ⟨o, e⟩; rw [hwr b hb] at e'; cases e'
    · have t1 := k₁.tab Hx (fun _ q => by cases q) hl t
      exact t1.move (fun b _ o e => hk b o e) (fun b o _ e => hk b o e) fun b hb => by
        revert b; exact all_app (fun b q => .inr (hwr b q)) (fun b q => .inl q)
theorem Itr.name {x : Str} {px : Pos} {I : Addr} {fp wr : List Addr} {n : Nat} {P : Nat → Value → Prop} {St : Nat → Heap → Prop} (W : Walks prog w A I fp wr n P St) (al : ∀ i h, St i h → ∀ b ∈ wr, ∃ o, h.get? b = some o) :
    Itr prog w A (.Name x px) I fp wr n (fun i ws => ∃ v, P i v ∧ ws = [v]) St :=
  ⟨⟨_, _, KTurns.ofWalks W fun i v s Q E _ hQ => (wpAny_pure hQ : wpAny _ _ (pure ()) Q E s), fun i v h hP => ⟨[v], .one v h, v, hP, rfl⟩⟩, al, W.self⟩
theorem Itr.pair {x y : Str} {p q r : Pos} {k : Nat} {I : Addr} {fp wr : List Addr} {n : Nat} {Pt : Nat → Array Value → Prop} {St : Nat → Heap → Prop} {Mid : Nat → Addr → Heap → Prop} (W : WalksT prog w A I fp wr n Pt St Mid) (al : ∀ i h, St i h → ∀ b ∈ wr, ∃ o, h.get? b = some o)
    (two : ∀ i vals, Pt i vals → ∃ a b, vals = #[a, b]) : Itr prog w A (.Tuple [.Name x p, .Name y q] k r) I fp wr n (fun i ws => Pt i ws.toArray) St :=
  ⟨⟨_, _, KTurns.ofWalksU W.toU, fun i v h ⟨T, vals, e, hP, hT⟩ => by
    obtain ⟨a, b, rfl⟩ := two i vals hP
    subst e
    exact ⟨[a, b], .two hT, hP⟩⟩, al, W.self⟩
theorem is_list {iter : Expr} {x : Str} {px : Pos} {l : List D} (hA : A.handled = none) (h : EV prog w g₀ A H env c iter (.list l)) : IS prog w g₀ A H env c iter (.Name x px) (l.map fun d => [d]) :=
  is_of fun c' k so => got_then (h c' k so) so fun v c₁ k₁ so₁ r₁ => by
    obtain ⟨a, vs, n, rfl, ha, ho, r⟩ := r₁.list_inv
    refine ⟨c₁, k₁, ?_⟩
    have hl : c₁.s.heap.IsList a vs.toArray := ⟨_, ho, rfl, n, rfl⟩
    refine wpAny_pyIter_list hl ?_
    have k₂ : Kp c₁ (c₁.put (c₁.s.heap.push { cls := .type "list_iterator", data := .fields #[.ref a, .int 0 0] }) c₁.s.toks) := .of (fun _ _ e => Heap.get?_push_of_some _ e) (Nat.le_refl _)
    have hne : a ≠ c₁.s.heap.objs.size := fun q => by rw [q, get_size] at ho; cases ho
    have hlen : vs.toArray.size = (l.map fun d => [d]).length := by simp [r.length]
    have W := Walks.list (prog := prog) (w := w) hA c₁.s.heap.objs.size a hne vs.toArray
    rw [hlen] at W
    refine ⟨_, _, _, _, _, _, rfl, k₁.trans k₂, rfl, Itr.name W fun i h st b hb => ?_, ⟨⟨_, Heap.get?_push_size _ rfl, rfl, rfl⟩, hl.push _⟩, fun b hb => ?_, fun b hb => ?_, fun i ws ds hv hd => ?_, fun b o e => Heap.get?_push_of_some _ e⟩
    · revert b; exact all_one (by obtain ⟨⟨o, e, _⟩, _⟩ := st; exact ⟨o, e⟩)
    · revert b; refine all_cons (⟨so₁.fresh (get_size _), _, Heap.get?_push_size _ rfl⟩) fun b hb => ?_
      · revert b; exact all_one (⟨ha, _, Heap.get?_push_of_some _ ho⟩)
    · revert b; exact all_one (get_size _)
    · obtain ⟨v, hv, rfl⟩ := hv
      simp only [List.getElem?_map, Option.map_eq_some_iff] at hd
      obtain ⟨d, hd, rfl⟩ := hd
      obtain ⟨v', hv', rv⟩ := r.get hd
      have : v = v' := by simp at hv; rw [hv] at hv'; cases hv'; rfl
      subst this
      refine .cons (rv.move (k₂.cm so.mt (fun _ q => by cases q)) fun b hb => ?_) .nil
      revert b; exact all_app (all_one (.inr (get_size _))) (fun b q => .inl q)
theorem rangeSize_nat (n : Int) : Builtin.Range.rangeSize 0 n 1 = ((n.toNat : Nat) : Int) := by
  unfold Builtin.Range.rangeSize
  rw [if_pos (by decide)]
  split <;> lia
theorem range_small {n : Int} (h0 : 0 ≤ n) (hn : n < 2 ^ 62) : Builtin.Range.small 0 n 1 = true := by
  unfold Builtin.Range.small
  rw [rangeSize_nat]
  have f : ∀ k : Int, 0 ≤ k → k < 2 ^ 62 → Builtin.Range.rangeFitsLong k = true := fun k h1 h2 => by unfold Builtin.Range.rangeFitsLong; simp; lia
  rw [f 0 (by lia) (by lia), f n h0 hn, f 1 (by lia) (by lia), f _ (by lia) (by lia), if_pos (by decide), show n + (1 - 1) = n by lia, f n h0 hn]
  simp
theorem is_range {x : Str} {px p pos : Pos} {e : Expr} {n : Int} {y : Str} (hA : A.handled = none) (G : Gd K g₀) (nm : GName K env y (.type "range")) (h0 : 0 ≤ n) (hn : n < 2 ^ 62) (h : EV prog w g₀ A H env c e (.int n))
    (hes : ∀ rest, starEach (e :: rest) env = (false, eval e env) :: starEach rest env := by intro _; rfl) :
    IS prog w g₀ A H env c (.Call (.Name y p) [e] [] pos) (.Name x px) ((List.range n.toNat).map fun (i : Nat) => [.int (i : Int)]) :=
  is_of fun c' k so => call_gen G nm (.type _) k so (evs_cons h evs_nil hes) (fun c₁ vs k₁ so₁ r₁ => by
    obtain ⟨v, q, rfl, rv, r'⟩ := r₁.cons_inv
    obtain rfl := r'.nil_inv
    obtain ⟨t, rfl⟩ := rv.int_inv
    refine call_range_1 ?_
    have k₂ : Kp c₁ (c₁.put (c₁.s.heap.push { cls := .type "range", data := .fields #[.int 0 c₁.s.toks, .int n t, .int 1 (c₁.s.toks + 1)] }) (c₁.s.toks + 1 + 1)) := .of (fun _ _ e => Heap.get?_push_of_some _ e) (by lia)
    generalize hc₂ : c₁.put (c₁.s.heap.push { cls := .type "range", data := .fields #[.int 0 c₁.s.toks, .int n t, .int 1 (c₁.s.toks + 1)] }) (c₁.s.toks + 1 + 1) = c₂ at k₂
    have hR : IsRange c₂.s.heap c₁.s.heap.objs.size 0 n 1 c₁.s.toks t (c₁.s.toks + 1) := by rw [← hc₂]; exact Heap.get?_push_size _ rfl
    have es : ({ c₁.s with heap := c₁.s.heap.push { cls := .type "range", data := .fields #[.int 0 c₁.s.toks, .int n t, .int 1 (c₁.s.toks + 1)] }, toks := c₁.s.toks + 1 + 1 } : Shared) = c₂.s := by rw [← hc₂]
    rw [es]
    refine ⟨c₂, k₁.trans k₂, wpAny_pyIter_range hR (range_small h0 hn) ?_⟩
    have k₃ : Kp c₂ (c₂.put (c₂.s.heap.push { cls := .type "range_iterator", data := .fields #[rawInt 0, rawInt (Builtin.Range.rangeSize 0 n 1), rawInt 1] }) c₂.s.toks) := .of (fun _ _ e => Heap.get?_push_of_some _ e) (Nat.le_refl _)
    have W := LCg.range_walks (prog := prog) (w := w) (I := c₂.s.heap.objs.size) hA 0 ((List.range n.toNat).map fun (i : Nat) => [D.int (i : Int)]).length
    refine ⟨_, _, _, _, _, _, rfl, (k₁.trans k₂).trans k₃, rfl, Itr.name W fun i h st b hb => ?_, ?_, fun b hb => ?_, fun b hb => ?_, fun i ws ds hv hd => ?_, fun b o e => Heap.get?_push_of_some _ e⟩
    · revert b; exact all_one (⟨_, st⟩)
    · show IsRangeIter _ _ _ _ _
      have e1 : (((List.range n.toNat).map fun (i : Nat) => [D.int (i : Int)]).length : Int) = Builtin.Range.rangeSize 0 n 1 := by rw [rangeSize_nat]; simp
      rw [e1]
      simpa using Heap.get?_push_size _ rfl
    · revert b; exact all_one (⟨((so₁.kp k₂)).fresh (get_size _), _, Heap.get?_push_size _ rfl⟩)
    · revert b; exact all_one (get_size _)
    · obtain ⟨v, ⟨t, rfl⟩, rfl⟩ := hv
      simp only [List.getElem?_map, Option.map_eq_some_iff] at hd
      obtain ⟨j, hj, rfl⟩ := hd
      have : j = i := by obtain ⟨h1, e1⟩ := List.getElem?_eq_some_iff.mp hj; rw [← e1, List.getElem_range]
      subst this
      rw [Int.zero_add]
      exact .cons Rep.int .nil) (hes []) rfl

theorem is_pairs {iter : Expr} {x y : Str} {p q r : Pos} {kk : Nat} {l : List (D × D)} (hA : A.handled = none) (h : EV prog w g₀ A H env c iter (.list (l.map fun d => .tup [d.1, d.2]))) :
    IS prog w g₀ A H env c iter (.Tuple [.Name x p, .Name y q] kk r) (l.map fun d => [d.1, d.2]) :=
  is_of fun c' k so => got_then (h c' k so) so fun v c₁ k₁ so₁ r₁ => by
    obtain ⟨a, vs, n, rfl, ha, ho, rr⟩ := r₁.list_inv
    refine ⟨c₁, k₁, ?_⟩
    have hl : c₁.s.heap.IsList a vs.toArray := ⟨_, ho, rfl, n, rfl⟩
    refine wpAny_pyIter_list hl ?_
    have k₂ : Kp c₁ (c₁.put (c₁.s.heap.push { cls := .type "list_iterator", data := .fields #[.ref a, .int 0 0] }) c₁.s.toks) := .of (fun _ _ e => Heap.get?_push_of_some _ e) (Nat.le_refl _)
    have hne : a ≠ c₁.s.heap.objs.size := fun q => by rw [q, get_size] at ho; cases ho
    have hlen : vs.toArray.size = (l.map fun d => [d.1, d.2]).length := by simp [rr.length]
    have W := Walks.list (prog := prog) (w := w) hA c₁.s.heap.objs.size a hne vs.toArray
    -- the tuples lie where they lay
    have tup : ∀ (i : Nat) (v : Value), vs.toArray[i]? = some v → ∃ T a b d m, v = .ref T ∧ T ∉ H ∧ c₁.heap.get? T = some { cls := .type "tuple", data := .seq [a, b].toArray m } ∧ l[i]? = some d ∧ RepL H c₁ [d.1, d.2] [a, b] := fun i v hv => by
      obtain ⟨d, hd, rv⟩ := rr.get' (i := i) (v := v) (by simpa using hv)
      simp only [List.getElem?_map, Option.map_eq_some_iff] at hd
      obtain ⟨dd, hdd, rfl⟩ := hd
      obtain ⟨T, ws, m, rfl, hT, hTo, rw⟩ := rv.tup_inv
      obtain ⟨a, q1, rfl, ra, rw1⟩ := rw.cons_inv
      obtain ⟨b, q2, rfl, rb, rw2⟩ := rw1.cons_inv
      obtain rfl := rw2.nil_inv
      exact ⟨T, a, b, dd, m, rfl, hT, hTo, hdd, .cons ra (.cons rb .nil)⟩
    have hI : ∀ T o, c₁.heap.get? T = some o → T ≠ c₁.s.heap.objs.size := fun T o e q => by rw [q, get_size] at e; cases e
    -- what is walked, and what is read
    let fp : List Addr := c₁.s.heap.objs.size :: a :: vs.filterMap fun v => match v with | .ref T => some T | _ => none
    have K : KTurns prog w A (.Tuple [.Name x p, .Name y q] kk r) c₁.s.heap.objs.size fp [c₁.s.heap.objs.size] (l.map fun d => [d.1, d.2]).length (fun i v h => ∃ T a b m, v = .ref T ∧ h.get? T = some { cls := .type "tuple", data := .seq [a, b].toArray m } ∧ c₁.heap.get? T = some { cls := .type "tuple", data := .seq [a, b].toArray m } ∧ vs.toArray[i]? = some v)
        (fun i v h => (∃ T a b m, v = .ref T ∧ h.get? T = some { cls := .type "tuple", data := .seq [a, b].toArray m } ∧ c₁.heap.get? T = some { cls := .type "tuple", data := .seq [a, b].toArray m } ∧ vs.toArray[i]? = some v) ∧ (h.IsListIter c₁.s.heap.objs.size a (i + 1) ∧ h.IsList a vs.toArray) ∧ ∀ T o, T ∈ fp → T ≠ c₁.s.heap.objs.size → c₁.heap.get? T = some o → h.get? T = some o)
        (fun i h => (h.IsListIter c₁.s.heap.objs.size a i ∧ h.IsList a vs.toArray) ∧ ∀ T o, T ∈ fp → T ≠ c₁.s.heap.objs.size → c₁.heap.get? T = some o → h.get? T = some o) := by
      rw [← hlen]
      refine ⟨fun b hb => by rw [List.mem_singleton.mp hb]; exact List.mem_cons_self, fun i h h' st hk => ⟨W.frame i h h' st.1 fun b hb o e => hk b (by
          clear e; revert b; refine all_cons (List.mem_cons_self) fun b hb => ?_
          · rw [List.mem_singleton.mp hb]; exact List.mem_cons_of_mem _ List.mem_cons_self) o e, fun T o hT hn e => hk T hT o (st.2 T o hT hn e)⟩, fun i s Q E hi st hQ => ?_, fun i v s Q E hm hQ => ?_, fun s Q E st hQ => W.done s Q E st.1 hQ⟩
      · refine W.item i s Q E hi st.1 fun v h' tk hP st' hk => hQ v h' tk ⟨?_, st', fun T o hT hn e => hk T o (fun q => hn (List.mem_singleton.mp q)) (st.2 T o hT hn e)⟩ hk
        obtain ⟨T, a', b', d, m, rfl, hT, hTo, _, _⟩ := tup i v hP
        refine ⟨T, a', b', m, rfl, hk T _ (fun q => hI T _ hTo (List.mem_singleton.mp q)) (st.2 T _ ?_ (hI T _ hTo) hTo), hTo, hP⟩
        refine List.mem_cons_of_mem _ (List.mem_cons_of_mem _ (List.mem_filterMap.mpr ⟨.ref T, ?_, rfl⟩))
        simpa using Array.mem_of_getElem? hP
      · obtain ⟨hp, st, hr⟩ := hm
        have hit := st.1
        exact letGo_listiter hit (hQ s.heap hp ⟨st, hr⟩ fun _ _ _ e => e)
    refine ⟨_, _, _, _, fun i ws => ∃ v T m, vs.toArray[i]? = some v ∧ v = .ref T ∧ c₁.heap.get? T = some { cls := .type "tuple", data := .seq ws.toArray m }, _, rfl, k₁.trans k₂, rfl, ⟨⟨_, _, K, fun i v h hP => ?_⟩, fun i h st b hb => ?_, fun i s Q E st hQ => W.self i s Q E st.1 hQ⟩, ⟨⟨⟨_, Heap.get?_push_size _ rfl, rfl, rfl⟩, hl.push _⟩, fun T o _ _ e => Heap.get?_push_of_some _ e⟩, fun b hb => ?_, fun b hb => ?_, fun i ws ds hv hd => ?_, fun b o e => Heap.get?_push_of_some _ e⟩
    · obtain ⟨T, a', b', m, rfl, hTo, hTc, hv⟩ := hP
      exact ⟨[a', b'], .two ⟨_, hTo, rfl, m, rfl⟩, .ref T, T, m, hv, rfl, hTc⟩
    · revert b; exact all_one (by obtain ⟨⟨⟨o, e, _⟩, _⟩, _⟩ := st; exact ⟨o, e⟩)
    · revert b; refine all_cons (⟨so₁.fresh (get_size _), _, Heap.get?_push_size _ rfl⟩) fun b hb => ?_
      · revert b; refine all_cons (⟨ha, _, Heap.get?_push_of_some _ ho⟩) fun b hb => ?_
        · obtain ⟨v, hv, e⟩ := List.mem_filterMap.mp hb
          obtain ⟨i, hi⟩ := List.mem_iff_getElem?.mp hv
          obtain ⟨T, a2, b2, d, m2, rfl, hT, hTo, _, _⟩ := tup i v (by simpa using hi)
          cases e
          exact ⟨hT, _, Heap.get?_push_of_some _ hTo⟩
    · revert b; exact all_one (get_size _)
    · obtain ⟨v, T, m, hv, rfl, hTo⟩ := hv
      obtain ⟨T', a2, b2, d, m2, e, hT', hTo', hd', rr2⟩ := tup i _ hv
      cases e
      rw [hTo] at hTo'
      have ew : ws = [a2, b2] := by
        have := congrArg (fun o : Option Obj => o.map (·.data)) hTo'
        simp at this
        exact this.1
      simp only [List.getElem?_map, hd', Option.map_some, Option.some.injEq] at hd
      subst hd; subst ew
      refine rr2.move (k₂.cm so.mt (fun _ q => by cases q)) fun b hb => ?_
      revert b; exact all_app (all_one (.inr (get_size _))) (fun b q => .inl q)
end
end Mine
end
noncomputable section
open PySem PySem.W PyProof.Rows
namespace Mine
open PySem.Calls

section
variable {prog : Program} {w : World} {g₀ : Heap} {A : Around} {H : List Addr} {env : Env} {c : Cf} {K : Frag}
theorem frees {h : Heap} {b : Addr} (hb : h.objs.size ≤ b) : h.get? b = none := by
  cases e : h.get? b with
  | none => rfl
  | some o => exact absurd (Heap.lt_size e) (Nat.not_lt.mpr hb)
theorem is_enum {x y f : Str} {p q r pf pos : Pos} {kk : Nat} {e : Expr} {l : List D} (hA : A.handled = none) (G : Gd K g₀) (nm : GName K env f (.type "enumerate")) (h : EV prog w g₀ A H env c e (.list l))
    (hes : ∀ rest, starEach (e :: rest) env = (false, eval e env) :: starEach rest env := by intro _; rfl) :
    IS prog w g₀ A H env c (.Call (.Name f pf) [e] [] pos) (.Tuple [.Name x p, .Name y q] kk r) (l.mapIdx fun i d => [.int i, d]) :=
  is_of fun c' k so => call_gen G nm (.type _) k so (evs_cons h evs_nil hes) (fun c₁ vs k₁ so₁ r₁ => by
    obtain ⟨v, q, rfl, rv, r'⟩ := r₁.cons_inv
    obtain rfl := r'.nil_inv
    obtain ⟨a, vs, n, rfl, ha, ho, rr⟩ := rv.list_inv
    have hl : c₁.s.heap.IsList a vs.toArray := ⟨_, ho, rfl, n, rfl⟩
    refine call_enumerate_list hl fun h' hE hI hsz hk => ?_
    have k₂ : Kp c₁ (c₁.put h' c₁.s.toks) := .of hk (Nat.le_refl _)
    have ean : @LT.lt Nat _ a c₁.s.heap.objs.size := Heap.lt_size ho
    have W := WalksT.enumerate (prog := prog) (w := w) hA (c₁.s.heap.objs.size + 1) c₁.s.heap.objs.size a (by show @Ne Nat _ _; lia) (by show @Ne Nat _ _; lia) (by show @Ne Nat _ _; lia) vs.toArray
    have hlen : vs.toArray.size = (l.mapIdx fun i d => [D.int i, d]).length := by simp [rr.length]
    rw [hlen] at W
    have f1 : c₁.s.heap.get? c₁.s.heap.objs.size = none := get_size _
    have f2 : c₁.s.heap.get? (c₁.s.heap.objs.size + 1) = none := frees (Nat.le_succ _)
    refine ⟨c₁, k₁, wpAny_pyIter_enum hE ?_⟩
    refine ⟨c₁.put h' c₁.s.toks, _, _, _, _, _, rfl, k₁.trans k₂, rfl, Itr.pair W (fun i h st b hb => ?_) (fun i vals ⟨t, x, _, e⟩ => ⟨_, _, e⟩), ⟨⟨_, hE⟩, hI, hl.at fun o e => hk _ o e⟩, fun b hb => ?_, fun b hb => ?_, fun i ws ds hv hd => ?_, fun b o e => hk b o e⟩
    · obtain ⟨⟨old, he⟩, ⟨o, e, _⟩, _⟩ := st
      rcases List.mem_cons.mp hb with rfl | hb
      · exact ⟨_, he⟩
      · rw [List.mem_singleton.mp hb]; exact ⟨o, e⟩
    · rcases List.mem_cons.mp hb with rfl | hb
      · exact ⟨so₁.fresh f2, _, hE⟩
      · rcases List.mem_cons.mp hb with rfl | hb
        · obtain ⟨o, e, _⟩ := hI; exact ⟨so₁.fresh f1, o, e⟩
        · rw [List.mem_singleton.mp hb]; exact ⟨ha, _, hk _ _ ho⟩
    · rcases List.mem_cons.mp hb with rfl | hb
      · exact f2
      · rw [List.mem_singleton.mp hb]; exact f1
    · obtain ⟨t, x, hx, e⟩ := hv
      have : ws = [.int i t, x] := by have := congrArg Array.toList e; simpa using this
      subst this
      simp only [List.getElem?_mapIdx, Option.map_eq_some_iff] at hd
      obtain ⟨d, hd, rfl⟩ := hd
      obtain ⟨v', hv', rv'⟩ := rr.get hd
      have : x = v' := by simp at hx; rw [hx] at hv'; cases hv'; rfl
      subst this
      refine .cons Rep.int (.cons (rv'.move (k₂.cm so.mt (fun _ q => by cases q)) fun b hb => ?_) .nil)
      rcases List.mem_append.mp hb with q | q
      · rcases List.mem_cons.mp q with rfl | q
        · exact .inr f2
        · rw [List.mem_singleton.mp q]; exact .inr f1
      · exact .inl q) (hes []) rfl

theorem is_zip {x y f : Str} {p q r pf pos : Pos} {kk : Nat} {e e' : Expr} {l l' : List D} (hA : A.handled = none) (G : Gd K g₀) (nm : GName K env f (.type "zip")) (h : EV prog w g₀ A H env c e (.list l)) (h' : EV prog w g₀ A H env c e' (.list l'))
    (hes : ∀ rest, starEach (e :: rest) env = (false, eval e env) :: starEach rest env := by intro _; rfl) (hes' : ∀ rest, starEach (e' :: rest) env = (false, eval e' env) :: starEach rest env := by intro _; rfl) :
    IS prog w g₀ A H env c (.Call (.Name f pf) [e, e'] [] pos) (.Tuple [.Name x p, .Name y q] kk r) ((l.zip l').map fun d => [d.1, d.2]) :=
  is_of fun c' k so => call_gen G nm (.type _) k so (evs_cons h (evs_cons h' evs_nil hes') hes) (fun c₁ vs k₁ so₁ r₁ => by
    obtain ⟨v, q, rfl, rv, r'⟩ := r₁.cons_inv
    obtain ⟨v2, q2, rfl, rv2, r'⟩ := r'.cons_inv
    obtain rfl := r'.nil_inv
    obtain ⟨a, vs, n, rfl, ha, ho, rr⟩ := rv.list_inv
    obtain ⟨a2, vs2, n2, rfl, ha2, ho2, rr2⟩ := rv2.list_inv
    have hl : c₁.s.heap.IsList a vs.toArray := ⟨_, ho, rfl, n, rfl⟩
    have hl2 : c₁.s.heap.IsList a2 vs2.toArray := ⟨_, ho2, rfl, n2, rfl⟩
    refine call_zip_2 hl hl2 fun h' hZ hTI hTO hI hI2 hsz hk => ?_
    have k₂ : Kp c₁ (c₁.put h' c₁.s.toks) := .of hk (Nat.le_refl _)
    have ean : @LT.lt Nat _ a c₁.s.heap.objs.size := Heap.lt_size ho
    have ean2 : @LT.lt Nat _ a2 c₁.s.heap.objs.size := Heap.lt_size ho2
    generalize hs : c₁.s.heap.objs.size = S at *
    have W := WalksT.zip2 (prog := prog) (w := w) hA (S + 4) (S + 2) (S + 3) S (S + 1) a a2 (by constructor <;> (show @Ne Nat _ _; lia)) vs.toArray vs2.toArray
    have hlen : min vs.toArray.size vs2.toArray.size = ((l.zip l').map fun d => [d.1, d.2]).length := by simp [rr.length, rr2.length]
    rw [hlen] at W
    have f : ∀ j, S ≤ j → c₁.s.heap.get? j = none := fun j hj => frees (by rw [hs]; exact hj)
    refine ⟨c₁, k₁, wpAny_pyIter_zip hZ ?_⟩
    refine ⟨c₁.put h' c₁.s.toks, _, _, _, _, _, rfl, k₁.trans k₂, rfl, Itr.pair W (fun i h st b hb => ?_) (fun i vals ⟨x, y, _, _, e⟩ => ⟨_, _, e⟩), ⟨hZ, hTI, ⟨_, _, hTO⟩, hI, hI2, hl.at fun o e => hk _ o e, hl2.at fun o e => hk _ o e⟩, fun b hb => ?_, fun b hb => ?_, fun i ws ds hv hd => ?_, fun b o e => hk b o e⟩
    · obtain ⟨hz, _, ⟨u, u', hto⟩, ⟨o, e, _⟩, ⟨o', e', _⟩, _⟩ := st
      simp only [List.mem_cons, List.not_mem_nil, or_false] at hb
      rcases hb with rfl | rfl | rfl | rfl
      · exact ⟨_, hz⟩
      · exact ⟨_, hto⟩
      · exact ⟨_, e⟩
      · exact ⟨_, e'⟩
    · simp only [List.mem_cons, List.not_mem_nil, or_false] at hb
      rcases hb with rfl | rfl | rfl | rfl | rfl | rfl | rfl
      · exact ⟨so₁.fresh (f _ (by lia)), _, hZ⟩
      · exact ⟨so₁.fresh (f _ (by lia)), _, hTI⟩
      · exact ⟨so₁.fresh (f _ (by lia)), _, hTO⟩
      · obtain ⟨o, e, _⟩ := hI; exact ⟨so₁.fresh (f _ (by lia)), o, e⟩
      · obtain ⟨o, e, _⟩ := hI2; exact ⟨so₁.fresh (f _ (by lia)), o, e⟩
      · exact ⟨ha, _, hk _ _ ho⟩
      · exact ⟨ha2, _, hk _ _ ho2⟩
    · simp only [List.mem_cons, List.not_mem_nil, or_false] at hb
      rcases hb with rfl | rfl | rfl | rfl <;> exact f _ (by lia)
    · obtain ⟨x, y, hx, hy, e⟩ := hv
      have : ws = [x, y] := by have := congrArg Array.toList e; simpa using this
      subst this
      simp only [List.getElem?_map, Option.map_eq_some_iff] at hd
      obtain ⟨d, hd, rfl⟩ := hd
      obtain ⟨hd1, hd2⟩ := List.getElem?_zip_eq_some.mp hd
      obtain ⟨v', hv', rv'⟩ := rr.get hd1
      obtain ⟨v2', hv2', rv2'⟩ := rr2.get hd2
      have : x = v' := by simp at hx; rw [hx] at hv'; cases hv'; rfl
      subst this
      have : y = v2' := by simp at hy; rw [hy] at hv2'; cases hv2'; rfl
      subst this
      have hn : ∀ b ∈ [S + 4, S + 3, S, S + 1] ++ H, b ∈ H ∨ c₁.heap.get? b = none := fun b hb => by
        rcases List.mem_append.mp hb with q | q
        · simp only [List.mem_cons, List.not_mem_nil, or_false] at q
          rcases q with rfl | rfl | rfl | rfl <;> exact .inr (f _ (by lia))
        · exact .inl q
      exact .cons (rv'.move (k₂.cm so.mt (fun _ q => by cases q)) hn) (.cons (rv2'.move (k₂.cm so.mt (fun _ q => by cases q)) hn) .nil)) (hes _) (by rw [hes' []]; rfl)

theorem is_rev {x f : Str} {p pf pos : Pos} {e : Expr} {l : List D} (hA : A.handled = none) (G : Gd K g₀) (nm : GName K env f (.type "reversed")) (h : EV prog w g₀ A H env c e (.list l))
    (hes : ∀ rest, starEach (e :: rest) env = (false, eval e env) :: starEach rest env := by intro _; rfl) :
    IS prog w g₀ A H env c (.Call (.Name f pf) [e] [] pos) (.Name x p) (l.reverse.map fun d => [d]) :=
  is_of fun c' k so => call_gen G nm (.type _) k so (evs_cons h evs_nil hes) (fun c₁ vs k₁ so₁ r₁ => by
    obtain ⟨v, q, rfl, rv, r'⟩ := r₁.cons_inv
    obtain rfl := r'.nil_inv
    obtain ⟨a, vs, n, rfl, ha, ho, rr⟩ := rv.list_inv
    have hl : c₁.s.heap.IsList a vs.toArray := ⟨_, ho, rfl, n, rfl⟩
    refine call_reversed_list hl ?_
    have k₂ : Kp c₁ (c₁.put (c₁.s.heap.push (revObj a ((vs.toArray.size : Int) - 1))) c₁.s.toks) := .of (fun _ _ e => Heap.get?_push_of_some _ e) (Nat.le_refl _)
    have ean : @LT.lt Nat _ a c₁.s.heap.objs.size := Heap.lt_size ho
    have W := Walks.listRev (prog := prog) (w := w) hA c₁.s.heap.objs.size a (by show @Ne Nat _ _; lia) vs.toArray
    have hlen : vs.toArray.size = (l.reverse.map fun d => [d]).length := by simp [rr.length]
    have hit : (c₁.s.heap.push (revObj a ((vs.toArray.size : Int) - 1))).IsRevIter c₁.s.heap.objs.size a ((vs.toArray.size : Int) - 1) := ⟨_, Heap.get?_push_size _ rfl, rfl, rfl⟩
    rw [hlen] at W
    refine ⟨c₁, k₁, wpAny_pyIter_revIter hit ?_⟩
    refine ⟨c₁.put _ c₁.s.toks, _, _, _, _, _, rfl, k₁.trans k₂, rfl, Itr.name W (fun i h st b hb => ?_), ⟨Nat.zero_le _, by rw [← hlen]; simpa using hit, hl.push _⟩, fun b hb => ?_, fun b hb => ?_, fun i ws ds hv hd => ?_, fun b o e => Heap.get?_push_of_some _ e⟩
    · rw [List.mem_singleton.mp hb]; obtain ⟨_, ⟨o, e, _⟩, _⟩ := st; exact ⟨o, e⟩
    · rcases List.mem_cons.mp hb with rfl | hb
      · obtain ⟨o, e, _⟩ := hit; exact ⟨so₁.fresh (get_size _), o, e⟩
      · rw [List.mem_singleton.mp hb]; exact ⟨ha, _, Heap.get?_push_of_some _ ho⟩
    · rw [List.mem_singleton.mp hb]; exact get_size _
    · obtain ⟨v, hv, rfl⟩ := hv
      simp only [List.getElem?_map, Option.map_eq_some_iff] at hd
      obtain ⟨d, hd, rfl⟩ := hd
      have hi : i < l.length := by have := (List.getElem?_eq_some_iff.mp hd).1; simpa using this
      rw [List.getElem?_reverse hi] at hd
      obtain ⟨v', hv', rv'⟩ := rr.get hd
      have : v = v' := by
        simp at hv; rw [hv] at hv'; cases hv'; rfl
      subst this
      refine .cons (rv'.move (k₂.cm so.mt (fun _ q => by cases q)) fun b hb => ?_) .nil
      rcases List.mem_append.mp hb with q | q
      · rw [List.mem_singleton.mp q]; exact .inr (get_size _)
      · exact .inl q) (hes []) rfl
end
end Mine
end
noncomputable section
open PySem PySem.W PyProof.Rows
namespace Mine
open PySem.Calls

/-- the frame of a call: X is its own, c₀ is where the call began -/
structure Frm (g₀ : Heap) (H₀ X : List Addr) (env : Env) (c₀ c : Cf) : Prop where
  kind : env.scope.kind = .function
  so₀ : SOk g₀ H₀ c₀
  k : Kp c₀ c
  so : SOk g₀ (X ++ H₀) c
  new : ∀ b ∈ X, c₀.heap.get? b = none
  tab : ∀ Hx, (∀ b ∈ Hx, ∃ o, c₀.heap.get? b = some o) → TabOk Hx c₀.heap → TabOk (X ++ Hx) c.heap
  L : env.locals ∈ X
  own : ∀ x, env.kindOf x = some .cell → ∃ a ov, env.cells.lookup x = some a ∧ a ∈ X ∧ c.heap.IsCell a ov
  apart : ∀ x a, env.cells.lookup x = some a → a ≠ env.locals ∧ ∀ y, env.cells.lookup y = some a → y = x
  ns : ∃ m, c.heap.Ns env.locals m
  cal : ∀ x a, env.cells.lookup x = some a → ∃ o, c.heap.get? a = some o
  cM : ∀ x a, env.cells.lookup x = some a → a ∉ MUT
noncomputable def Vars (H : List Addr) (env : Env) (c : Cf) (ρ : List (Str × D)) : Prop := ∀ x d, ρ.lookup x = some d → VarAt H env c x d
/-- what a store into the names xs leaves -/
noncomputable def slots (env : Env) (xs : List Str) : List Addr := env.locals :: xs.filterMap fun x => if env.kindOf x = some .cell then env.cells.lookup x else none
structure Stp (env : Env) (xs : List Str) (c c' : Cf) : Prop where
  kx : Kx (slots env xs) c c'
  obj : ∀ b o, b ∉ MUT → b ≠ env.locals → (∀ x ∈ xs, env.cells.lookup x ≠ some b) → c.heap.get? b = some o → c'.heap.get? b = some o
  look : ∀ y v, y ∉ xs → LookAt env c.heap y v → LookAt env c'.heap y v

section
variable {prog : Program} {w : World} {g₀ : Heap} {A : Around} {H H₀ X : List Addr} {env : Env} {c₀ c c' : Cf} {K : Frag} {ρ : List (Str × D)}
theorem ns_unique {h : Heap} {a : Addr} {m m' : Str → Option Value} (x : h.Ns a m) (y : h.Ns a m') (z : Str) : m z = m' z := by
  obtain ⟨o, es, ep, e, hd, _, hf⟩ := x
  obtain ⟨o', es', ep', e', hd', _, hf'⟩ := y
  rw [e] at e'; cases e'
  rw [hd] at hd'; cases hd'
  rw [← hf, hf']
theorem Frm.nm (F : Frm g₀ H₀ X env c₀ c) : ∀ b ∈ X, b ∉ MUT := fun b hb q => by
  obtain ⟨o, e⟩ := F.so₀.low b (F.so₀.mt b q); rw [F.new b hb] at e; cases e
theorem Frm.ng (F : Frm g₀ H₀ X env c₀ c) : ∀ b ∈ X, g₀.get? b = none := fun b hb => by
  cases e : g₀.get? b with
  | none => rfl
  | some o => have := F.so₀.base _ _ e; rw [F.new b hb] at this; cases this
theorem Frm.kx (F : Frm g₀ H₀ X env c₀ c) (k : Kx X c c') (hL : ∃ m, c'.heap.Ns env.locals m) (hc : ∀ x a, env.kindOf x = some .cell → env.cells.lookup x = some a → ∃ ov, c'.heap.IsCell a ov) : Frm g₀ H₀ X env c₀ c' := by
  have t : ∀ Hx, (∀ b ∈ Hx, ∃ o, c₀.heap.get? b = some o) → TabOk Hx c₀.heap → TabOk (X ++ Hx) c'.heap := fun Hx hl t => k.tab (X ++ Hx) (fun b hb => List.mem_append_left _ hb) (fun b hb => by
      rcases List.mem_append.mp hb with q | q
      · exact F.so.low b (List.mem_append_left _ q)
      · exact F.k.al b (hl b q)) (F.tab Hx hl t)
  refine ⟨F.kind, F.so₀, Kx.kp_of (Z := []) F.k k (fun b hb _ => F.new b hb) (fun Hx hl q => (t Hx hl q).sub fun b hb => List.mem_append_right _ hb), F.so.kx k (fun b hb => List.mem_append_left _ hb) F.ng, F.new, t, F.L, fun x hx => ?_, F.apart, hL, fun x a h => k.al a (F.cal x a h), F.cM⟩
  obtain ⟨a, ov, h1, h2, _⟩ := F.own x hx
  obtain ⟨ov', h3⟩ := hc x a hx h1
  exact ⟨a, ov', h1, h2, h3⟩
theorem cell_keep {h h' : Heap} {a : Addr} {ov : Option Value} (x : h.IsCell a ov) (k : ∀ o, h.get? a = some o → h'.get? a = some o) : h'.IsCell a ov := let ⟨o, e, d⟩ := x; ⟨o, k _ e, d⟩
theorem ns_keep {h h' : Heap} {a : Addr} {m : Str → Option Value} (x : h.Ns a m) (k : ∀ o, h.get? a = some o → h'.get? a = some o) : h'.Ns a m := x.at' k
theorem Frm.kp (F : Frm g₀ H₀ X env c₀ c) (k : Kp c c') : Frm g₀ H₀ X env c₀ c' := by
  refine F.kx (k.mono fun _ q => by cases q) ?_ fun x a hx ha => ?_
  · obtain ⟨m, hm⟩ := F.ns; exact ⟨m, ns_keep hm fun o e => k.keep (F.nm _ F.L) e⟩
  · obtain ⟨a', ov, h1, h2, h3⟩ := F.own x hx
    rw [ha] at h1; cases h1
    exact ⟨ov, cell_keep h3 fun o e => k.keep (F.nm _ h2) e⟩
theorem Vars.kp (V : Vars H env c ρ) (so : SOk g₀ H c) (k : Kp c c') : Vars H env c' ρ := fun x d e => (V x d e).kp so k
theorem Frm.hid (F : Frm g₀ H₀ X env c₀ c) : ∀ b ∈ X, b ∈ X ++ H₀ := fun b hb => List.mem_append_left _ hb

theorem slots_mem {xs : List Str} {b : Addr} (h : b ∈ slots env xs) : b = env.locals ∨ ∃ x ∈ xs, env.kindOf x = some .cell ∧ env.cells.lookup x = some b := by
  rcases List.mem_cons.mp h with h | h
  · exact .inl h
  · obtain ⟨x, hx, e⟩ := List.mem_filterMap.mp h
    split at e
    · rename_i hk; exact .inr ⟨x, hx, hk, e⟩
    · cases e
theorem slots_cell {xs : List Str} {b : Addr} {x : Str} (hx : x ∈ xs) (hk : env.kindOf x = some .cell) (hb : env.cells.lookup x = some b) : b ∈ slots env xs :=
  List.mem_cons_of_mem _ (List.mem_filterMap.mpr ⟨x, hx, by rw [if_pos hk, hb]⟩)
theorem slots_sub {xs ys : List Str} (h : ∀ x ∈ xs, x ∈ ys) : ∀ b ∈ slots env xs, b ∈ slots env ys := fun b hb => by
  rcases slots_mem hb with rfl | ⟨x, hx, hk, e⟩
  · exact List.mem_cons_self
  · exact slots_cell (h x hx) hk e
theorem Frm.slot (F : Frm g₀ H₀ X env c₀ c) (xs : List Str) : ∀ b ∈ slots env xs, b ∈ X := fun b hb => by
  rcases slots_mem hb with rfl | ⟨x, _, hk, e⟩
  · exact F.L
  · obtain ⟨a, _, e', h, _⟩ := F.own x hk
    rw [e] at e'; cases e'; exact h
theorem Frm.sh (F : Frm g₀ H₀ X env c₀ c) (xs : List Str) : ∀ b ∈ slots env xs, b ∈ X ++ H₀ := fun b hb => List.mem_append_left _ (F.slot xs b hb)
theorem Vars.stp {xs : List Str} (F : Frm g₀ H₀ X env c₀ c) (V : Vars (X ++ H₀) env c ρ) (S : Stp env xs c c') {x : Str} {d : D} (hx : x ∉ xs) (h : VarAt (X ++ H₀) env c x d) : VarAt (X ++ H₀) env c' x d :=
  let ⟨v, l, r⟩ := h; ⟨v, S.look x v hx l, r.kx F.so S.kx (F.sh _)⟩

/-- a store into a name -/
theorem store_raw {x : Str} {v : Value} {Q : Unit → Shared → Prop} {E : Value → Shared → Prop} (F : Frm g₀ H₀ X env c₀ c) (hx : env.kindOf x = some .local ∨ env.kindOf x = some .cell)
    (h : ∀ c', Stp env [x] c c' → Frm g₀ H₀ X env c₀ c' → LookAt env c'.heap x v → Q () c'.s) : wpAny (model prog w) A (storeName env x v) Q E c.s := by
  have hp : (env.scope.kind == .class || (env.scope.kind == .module && env.locals != env.globals)) = false := by rw [F.kind]; rfl
  have LM := F.nm _ F.L
  obtain ⟨m, hm⟩ := F.ns
  rcases hx with hx | hx
  · refine wpAny_storeName_local hx hm (fun h' hn hs => ?_) hp
    have k0 : Kx (slots env [x]) c (c.put h' (c.s.toks + 1)) := Kx.put (fun b o hb e => hs.extBut b o (fun q => hb (by rw [q]; exact List.mem_cons_self)) e) (fun b hb => F.nm b (F.slot _ b hb)) (fun b hb => by
      by_cases q : b = env.locals
      · subst q; obtain ⟨o, _, _, e, _⟩ := hn; exact ⟨o, e⟩
      · obtain ⟨o, e⟩ := F.so.low b (F.sh _ b hb); exact ⟨o, hs.extBut b o q e⟩) (Nat.le_succ _)
    have k : Kx X c (c.put h' (c.s.toks + 1)) := k0.mono (F.slot _)
    refine h (c.put h' (c.s.toks + 1)) ⟨k0, fun b o _ hb _ e => hs.extBut b o hb e, fun y u hy l => ?_⟩ (F.kx k ⟨_, hn⟩ fun y a hy ha => ?_) ⟨F.kind, .inl ⟨hx, LM, _, hn, if_pos rfl⟩⟩
    · obtain ⟨k1, l⟩ := l
      refine ⟨k1, ?_⟩
      rcases l with ⟨e, hL, m', hm', hy'⟩ | ⟨e, a, ha, haM, hc⟩
      · refine .inl ⟨e, hL, _, hn, ?_⟩
        have : m' y = m y := ns_unique hm' hm y
        rw [if_neg (fun q => hy (by rw [q]; exact List.mem_cons_self)), ← this, hy']
      · exact .inr ⟨e, a, ha, haM, cell_keep hc fun o e => hs.extBut a o (F.apart y a ha).1 e⟩
    · obtain ⟨a', ov, h1, _, h3⟩ := F.own y hy
      rw [ha] at h1; cases h1
      exact ⟨ov, cell_keep h3 fun o e => hs.extBut a o (F.apart y a ha).1 e⟩
  · obtain ⟨a, ov, ha, haX, hc⟩ := F.own x hx
    refine wpAny_storeName_cell F.kind hx ha hc fun h' hv hs => ?_
    have k0 : Kx (slots env [x]) c (c.put h' c.s.toks) := Kx.put (fun b o hb e => hs.extBut b o (fun q => hb (by rw [q]; exact slots_cell List.mem_cons_self hx ha)) e) (fun b hb => F.nm b (F.slot _ b hb)) (fun b hb => by
      by_cases q : b = a
      · subst q; obtain ⟨o, e, _⟩ := hv; exact ⟨o, e⟩
      · obtain ⟨o, e⟩ := F.so.low b (F.sh _ b hb); exact ⟨o, hs.extBut b o q e⟩) (Nat.le_refl _)
    have k : Kx X c (c.put h' c.s.toks) := k0.mono (F.slot _)
    have Lne : env.locals ≠ a := fun q => (F.apart x a ha).1 q.symm
    refine h (c.put h' c.s.toks) ⟨k0, fun b o _ _ hb e => hs.extBut b o (fun q => hb x List.mem_cons_self (q ▸ ha)) e, fun y u hy l => ?_⟩ (F.kx k ⟨m, ns_keep hm fun o e => hs.extBut _ o Lne e⟩ fun y b hy hb => ?_) ⟨F.kind, .inr ⟨.inl hx, a, ha, F.nm a haX, hv⟩⟩
    · obtain ⟨k1, l⟩ := l
      refine ⟨k1, ?_⟩
      rcases l with ⟨e, hL, m', hm', hy'⟩ | ⟨e, b, hb, hbM, hcb⟩
      · exact .inl ⟨e, hL, m', ns_keep hm' fun o e => hs.extBut _ o Lne e, hy'⟩
      · refine .inr ⟨e, b, hb, hbM, cell_keep hcb fun o e => hs.extBut b o (fun q => ?_) e⟩
        subst q
        exact hy (by rw [(F.apart y b hb).2 x ha]; exact List.mem_cons_self)
    · obtain ⟨a', ov', h1, _, h3⟩ := F.own y hy
      rw [hb] at h1; cases h1
      by_cases q : b = a
      · subst q; exact ⟨_, hv⟩
      · exact ⟨ov', cell_keep h3 fun o e => hs.extBut b o q e⟩
theorem Vars.cons {xs : List Str} {x : Str} {d : D} {v : Value} (V : Vars H env c' ρ) (l : LookAt env c'.heap x v) (r : Rep H c' d v) : Vars H env c' ((x, d) :: ρ) := fun y d' e => by
  rw [List.lookup_cons] at e
  cases hy : y == x with
  | true => rw [hy] at e; cases e; rw [eq_of_beq hy]; exact ⟨v, l, r⟩
  | false => rw [hy] at e; exact V y d' e
theorem Vars.set {x : Str} {d : D} {v : Value} (F : Frm g₀ H₀ X env c₀ c) (V : Vars (X ++ H₀) env c ρ) (S : Stp env [x] c c') (l : LookAt env c'.heap x v) (r : Rep (X ++ H₀) c d v) : Vars (X ++ H₀) env c' ((x, d) :: ρ) := fun y d' e => by
  rw [List.lookup_cons] at e
  cases hy : y == x with
  | true => rw [hy] at e; cases e; rw [eq_of_beq hy]; exact ⟨v, l, r.kx F.so S.kx (F.sh _)⟩
  | false =>
    rw [hy] at e
    refine V.stp F S (fun q => ?_) (V y d' e)
    rw [List.mem_singleton.mp q] at hy
    simp at hy
theorem store_var {x : Str} {v : Value} {d : D} {Q : Unit → Shared → Prop} {E : Value → Shared → Prop} (F : Frm g₀ H₀ X env c₀ c) (V : Vars (X ++ H₀) env c ρ) (hx : env.kindOf x = some .local ∨ env.kindOf x = some .cell) (r : Rep (X ++ H₀) c d v)
    (h : ∀ c', Stp env [x] c c' → Frm g₀ H₀ X env c₀ c' → Vars (X ++ H₀) env c' ((x, d) :: ρ) → Q () c'.s) : wpAny (model prog w) A (storeName env x v) Q E c.s :=
  store_raw F hx fun c' S F' l => h c' S F' (V.set F S l r)
theorem Stp.trans {xs ys : List Str} {c'' : Cf} (a : Stp env xs c c') (b : Stp env ys c' c'') : Stp env (xs ++ ys) c c'' :=
  ⟨(a.kx.mono (slots_sub fun x hx => List.mem_append_left _ hx)).trans (b.kx.mono (slots_sub fun x hx => List.mem_append_right _ hx)), fun q o h1 h2 h3 e => b.obj q o h1 h2 (fun x hx => h3 x (List.mem_append_right _ hx)) (a.obj q o h1 h2 (fun x hx => h3 x (List.mem_append_left _ hx)) e),
   fun y v hy l => b.look y v (fun q => hy (List.mem_append_right _ q)) (a.look y v (fun q => hy (List.mem_append_left _ q)) l)⟩
theorem Stp.kp {xs : List Str} {c'' : Cf} (F : Frm g₀ H₀ X env c₀ c) (k : Kp c c') (b : Stp env xs c' c'') : Stp env xs c c'' :=
  ⟨(k.mono fun _ q => by cases q).trans b.kx, fun q o h1 h2 h3 e => b.obj q o h1 h2 h3 (k.keep h1 e), fun y v hy l => b.look y v hy (l.keep fun q o h e => k.keep h e)⟩
theorem Stp.refl {xs : List Str} : Stp env xs c c := ⟨Kx.refl _ _, fun _ _ _ _ _ e => e, fun _ _ _ l => l⟩

/-! ## statements -/
noncomputable abbrev SX (prog : Program) (w : World) (A : Around) (env : Env) (ss : List Stmt) (Q : Flow → Shared → Prop) (c : Cf) : Prop := wpAny (model prog w) A (execs ss env) Q NE c.s
noncomputable def Aft (prog : Program) (w : World) (A : Around) (env : Env) (rest : List Stmt) (Q : Flow → Shared → Prop) : Flow → Shared → Prop := fun f s' => match f with
  | .next => wpAny (model prog w) A (execs rest env) Q NE s'
  | f => Q f s'
theorem sx_nil {Q : Flow → Shared → Prop} (h : Q .next c.s) : SX prog w A env [] Q c := wpAny_execs_nil h
theorem sx_cons {st : Stmt} {rest : List Stmt} {Q : Flow → Shared → Prop} (h : wpAny (model prog w) A (exec st env) (Aft prog w A env rest Q) NE c.s) : SX prog w A env (st :: rest) Q c :=
  wpAny_execs_cons (ne_mono h fun f s' hf => by cases f <;> exact hf)
theorem sx_ret {e : Expr} {pos : Pos} {rest : List Stmt} {Q : Flow → Shared → Prop} {d : D} (F : Frm g₀ H₀ X env c₀ c) (h : EV prog w g₀ A (X ++ H₀) env c e d)
    (hq : ∀ v c', Kp c c' → Frm g₀ H₀ X env c₀ c' → Rep (X ++ H₀) c' d v → Q (.ret v) c'.s) : SX prog w A env (.Return (some e) pos :: rest) Q c :=
  sx_cons (wpAny_Return_some (got_then (h c (.refl _) F.so) F.so fun v c' k so r => hq v c' k (F.kp k) r))
theorem sx_retn {pos : Pos} {rest : List Stmt} {Q : Flow → Shared → Prop} (hq : Q (.ret .none) c.s) : SX prog w A env (.Return none pos :: rest) Q c := sx_cons (wpAny_Return_none hq)
theorem sx_if {test : Expr} {body orelse rest : List Stmt} {pos : Pos} {b : Bool} {Q : Flow → Shared → Prop} (F : Frm g₀ H₀ X env c₀ c) (V : Vars (X ++ H₀) env c ρ) (h : TV prog w g₀ A (X ++ H₀) env c test b)
    (h1 : b = true → ∀ c', Kp c c' → Frm g₀ H₀ X env c₀ c' → Vars (X ++ H₀) env c' ρ → SX prog w A env body (Aft prog w A env rest Q) c')
    (h2 : b = false → ∀ c', Kp c c' → Frm g₀ H₀ X env c₀ c' → Vars (X ++ H₀) env c' ρ → SX prog w A env orelse (Aft prog w A env rest Q) c') : SX prog w A env (.If test body orelse pos :: rest) Q c :=
  sx_cons (wpAny_If (told_then (h c (.refl _) F.so) F.so fun b' c' k so e => by
    subst e
    cases b' with
    | true => exact h1 rfl c' k (F.kp k) (V.kp F.so k)
    | false => exact h2 rfl c' k (F.kp k) (V.kp F.so k)))
theorem sx_assign {x : Str} {e : Expr} {p pos : Pos} {rest : List Stmt} {d : D} {Q : Flow → Shared → Prop} (F : Frm g₀ H₀ X env c₀ c) (V : Vars (X ++ H₀) env c ρ) (h : EV prog w g₀ A (X ++ H₀) env c e d)
    (hn : ∀ c', Stp env [x] c c' → Frm g₀ H₀ X env c₀ c' → Vars (X ++ H₀) env c' ((x, d) :: ρ) → SX prog w A env rest Q c')
    (hx : env.kindOf x = some .local ∨ env.kindOf x = some .cell := by first | exact .inl rfl | exact .inr rfl) (hs : swapsWith e (some (.Name x p)) pos.line env = pure false := by rfl) :
    SX prog w A env (.Assign [.Name x p] e pos :: rest) Q c :=
  sx_cons (wpAny_Assign_Name (got_then (h c (.refl _) F.so) F.so fun v c' k so r =>
    store_var (F.kp k) (V.kp F.so k) hx r fun c'' S F' V' => hn c'' (Stp.kp F k S) F' V') hs)
theorem stores {Q : Unit → Shared → Prop} {E : Value → Shared → Prop} : ∀ {nps : List (Str × Pos)} {ds : List D} {vs : List Value} {c : Cf} {ρ : List (Str × D)}, Frm g₀ H₀ X env c₀ c → Vars (X ++ H₀) env c ρ →
    (∀ x ∈ nps, env.kindOf x.1 = some .local ∨ env.kindOf x.1 = some .cell) → nps.length = ds.length → RepL (X ++ H₀) c ds vs →
    (∀ c', Stp env (nps.map (·.1)) c c' → Frm g₀ H₀ X env c₀ c' → Vars (X ++ H₀) env c' (((nps.map (·.1)).zip ds).reverse ++ ρ) → Q () c'.s) →
    wpAny (model prog w) A (assignInOrder (nps.map fun q => assign (.Name q.1 q.2) env) vs) Q E c.s := fun {nps} => by
  induction nps with
  | nil =>
    intro ds vs c ρ F V hx hl r h
    obtain rfl : ds = [] := List.eq_nil_of_length_eq_zero hl.symm
    obtain rfl := r.nil_inv
    exact assignInOrder_nil (h c .refl F V)
  | cons q nps ih =>
    intro ds vs c ρ F V hx hl r h
    cases ds with
    | nil => cases hl
    | cons d ds =>
      obtain ⟨v, q, rfl, r1, r2⟩ := r.cons_inv
      refine assignInOrder_cons (wpAny_assign_Name (store_var F V (hx _ List.mem_cons_self) r1 fun c' S F' V' => ?_))
      refine ih F' V' (fun y hy => hx y (List.mem_cons_of_mem _ hy)) (Nat.succ.inj hl) (r2.kx F.so S.kx (F.sh _)) fun c'' S' F'' V'' => h c'' (S.trans S') F'' ?_
      rw [List.map_cons, List.zip_cons_cons, List.reverse_cons, List.append_assoc]
      exact V''
theorem sx_tuple {nps : List (Str × Pos)} {elts : List Expr} {e : Expr} {k : Nat} {tp pos : Pos} {rest : List Stmt} {ds : List D} {Q : Flow → Shared → Prop} (hA : A.handled = none) (F : Frm g₀ H₀ X env c₀ c) (V : Vars (X ++ H₀) env c ρ)
    (h : EV prog w g₀ A (X ++ H₀) env c e (.tup ds))
    (hn : ∀ c', Stp env (nps.map (·.1)) c c' → Frm g₀ H₀ X env c₀ c' → Vars (X ++ H₀) env c' (((nps.map (·.1)).zip ds).reverse ++ ρ) → SX prog w A env rest Q c')
    (he : (assignEach elts env).map (·.2) = nps.map fun q => assign (.Name q.1 q.2) env) (hl : nps.length = ds.length)
    (hx : ∀ x ∈ nps, env.kindOf x.1 = some .local ∨ env.kindOf x.1 = some .cell)
    (hstar : (assignEach elts env).findIdx? (·.1) = none := by rfl)
    (hs : swapsWithSole [.Tuple elts k tp] e pos.line env = pure false := by rfl) (hw : swappedStores [.Tuple elts k tp] e env = pure none := by rfl) :
    SX prog w A env (.Assign [.Tuple elts k tp] e pos :: rest) Q c :=
  sx_cons (Assign_Tuple (got_then (h c (.refl _) F.so) F.so fun v c' kk so r => by
    obtain ⟨a, vs, n, rfl, ha, ho, rr⟩ := r.tup_inv
    have hT : c'.s.heap.IsTuple a vs.toArray := ⟨_, ho, rfl, n, rfl⟩
    have hlen : (assignEach elts env).length = vs.toArray.size := by
      have := congrArg List.length he
      simp at this
      rw [this]; simp [rr.length]; exact hl
    refine wpAny_assign_Tuple hA hT hlen hstar fun h' hk => ?_
    have k₂ : Kp c' (c'.put h' c'.s.toks) := .of (fun b o e => hk b o (Nat.ne_of_lt (Heap.lt_size e)) e) (Nat.le_refl _)
    have F₂ := (F.kp kk).kp k₂
    rw [he]
    have rr2 := rr.kp so k₂
    have V₂ := (V.kp F.so kk).kp so k₂
    show wpAny _ _ _ _ _ (c'.put h' c'.s.toks).s
    refine stores (vs := vs) F₂ V₂ hx hl rr2 fun c'' S F' V' => ?_
    exact hn c'' (Stp.kp F (kk.trans k₂) S) F' V') hs hw)
end
end Mine
end
noncomputable section
open PySem PySem.W PyProof.Rows
namespace Mine
open PySem.Calls

noncomputable def Ret (H : List Addr) (c₀ : Cf) (d : D) : Flow → Shared → Prop := fun fl s' => Got H c₀ d (match fl with | .ret v => v | _ => .none) s'

section
variable {prog : Program} {w : World} {g₀ : Heap} {A : Around} {H H₀ X : List Addr} {env : Env} {c₀ c c' : Cf} {K : Frag} {ρ : List (Str × D)}
theorem ret_of {d : D} {v : Value} (F : Frm g₀ H₀ X env c₀ c) (r : Rep (X ++ H₀) c d v) : Ret H₀ c₀ d (.ret v) c.s := ⟨c, rfl, F.k, r.sub fun b hb => List.mem_append_right _ hb⟩
theorem sx_return {e : Expr} {pos : Pos} {rest : List Stmt} {d : D} (F : Frm g₀ H₀ X env c₀ c) (h : EV prog w g₀ A (X ++ H₀) env c e d) : SX prog w A env (.Return (some e) pos :: rest) (Ret H₀ c₀ d) c :=
  sx_ret F h fun v c' k F' r => ret_of F' r
theorem sx_return' {e : Expr} {pos : Pos} {rest rest' : List Stmt} {d : D} (F : Frm g₀ H₀ X env c₀ c) (h : EV prog w g₀ A (X ++ H₀) env c e d) : SX prog w A env (.Return (some e) pos :: rest) (Aft prog w A env rest' (Ret H₀ c₀ d)) c :=
  sx_ret F h fun v c' k F' r => ret_of F' r

theorem bindL_other {ko : Str → Option NameKind} {x : Str} : ∀ {binds : List (Str × Value)} {m : Str → Option Value}, x ∉ binds.map (·.1) → bindL ko binds m x = m x
  | [], m, _ => rfl
  | (n, v) :: r, m, h => by
    rw [bindL, bindL_other fun q => h (List.mem_cons_of_mem _ q)]
    split
    · exact if_neg fun q => h (by rw [q]; exact List.mem_cons_self)
    · rfl
theorem bindC_other {ko : Str → Option NameKind} {x : Str} : ∀ {binds : List (Str × Value)} {m : Str → Option Value}, x ∉ binds.map (·.1) → bindC ko binds m x = m x
  | [], m, _ => rfl
  | (n, v) :: r, m, h => by
    rw [bindC, bindC_other fun q => h (List.mem_cons_of_mem _ q)]
    split
    · rfl
    · exact if_neg fun q => h (by rw [q]; exact List.mem_cons_self)
theorem bindL_get {ko : Str → Option NameKind} {x : Str} {v : Value} (hx : ko x = some .local) : ∀ {binds : List (Str × Value)} {m : Str → Option Value}, (binds.map (·.1)).Nodup → (x, v) ∈ binds → bindL ko binds m x = some v
  | (n, u) :: r, m, nd, h => by
    rw [List.map_cons, List.nodup_cons] at nd
    rw [bindL]
    rcases List.mem_cons.mp h with e | h
    · cases e
      rw [bindL_other nd.1, if_pos hx]; exact if_pos rfl
    · exact bindL_get hx nd.2 h
theorem bindC_get {ko : Str → Option NameKind} {x : Str} {v : Value} (hx : ko x ≠ some .local) : ∀ {binds : List (Str × Value)} {m : Str → Option Value}, (binds.map (·.1)).Nodup → (x, v) ∈ binds → bindC ko binds m x = some v
  | (n, u) :: r, m, nd, h => by
    rw [List.map_cons, List.nodup_cons] at nd
    rw [bindC]
    rcases List.mem_cons.mp h with e | h
    · cases e
      rw [bindC_other nd.1, if_neg hx]; exact if_pos rfl
    · exact bindC_get hx nd.2 h
theorem zip_get {c : Cf} {H : List Addr} {x : Str} {d : D} : ∀ {names : List Str} {ds : List D} {vs : List Value}, RepL H c ds vs → (names.zip ds).lookup x = some d → ∃ v, (x, v) ∈ names.zip vs ∧ Rep H c d v
  | [], _, _, _, e => by simp at e
  | _ :: _, [], _, _, e => by simp at e
  | n :: names, d' :: ds, vs, r, e => by
    obtain ⟨v, q, rfl, r1, r2⟩ := r.cons_inv
    rw [List.zip_cons_cons, List.lookup_cons] at e
    rw [List.zip_cons_cons]
    cases hx : x == n with
    | true => rw [hx] at e; cases e; rw [eq_of_beq hx]; exact ⟨v, List.mem_cons_self, r1⟩
    | false =>
      rw [hx] at e
      obtain ⟨v', h1, h2⟩ := zip_get r2 e
      exact ⟨v', List.mem_cons_of_mem _ h1, h2⟩
theorem pw_key : ∀ {cs : List (Str × Addr)} {y z : Str} {a : Addr}, cs.Pairwise (fun x y => x.2 ≠ y.2) → (z, a) ∈ cs → (y, a) ∈ cs → z = y
  | (n, b) :: cs, y, z, a, pw, hz, hy => by
    rw [List.pairwise_cons] at pw
    rcases List.mem_cons.mp hz with e | hz <;> rcases List.mem_cons.mp hy with e' | hy
    · cases e; cases e'; rfl
    · cases e; exact absurd rfl (pw.1 (y, b) hy)
    · cases e'; exact absurd rfl (pw.1 (z, b) hz)
    · exact pw_key pw.2 hz hy
theorem cellsFrom_acc : ∀ {names : List (Str × NameKind)} {n : Nat} {acc : List (Str × Addr)} {x : Str}, x ∈ acc.map (·.1) → x ∈ (cellsFrom n names acc).map (·.1)
  | [], _, _, _, h => h
  | (name, kind) :: r, n, acc, x, h => by
    unfold cellsFrom
    split
    · exact cellsFrom_acc (List.mem_cons_of_mem _ h)
    · exact cellsFrom_acc h
theorem cellsFrom_mem : ∀ {names : List (Str × NameKind)} {n : Nat} {acc : List (Str × Addr)} {x : Str}, (x, NameKind.cell) ∈ names → x ∈ (cellsFrom n names acc).map (·.1)
  | (name, kind) :: r, n, acc, x, h => by
    unfold cellsFrom
    rcases List.mem_cons.mp h with e | h
    · cases e
      exact cellsFrom_acc List.mem_cons_self
    · split
      · exact cellsFrom_mem h
      · exact cellsFrom_mem h
theorem isSome_of_mem : ∀ {cs : List (Str × Addr)} {x : Str}, x ∈ cs.map (·.1) → (cs.lookup x).isSome = true
  | (n, a) :: cs, x, h => by
    rw [List.lookup_cons]
    cases hx : x == n with
    | true => rfl
    | false =>
      rcases List.mem_cons.mp h with e | h
      · simp at hx; exact absurd e hx
      · exact isSome_of_mem h
/-- a def is entered -/
theorem entry_raw {f : Addr} {o : Obj} {fd : FuncData} {body : List Stmt} {vs : List Value} {names : List Str} {Q : Value → Shared → Prop}
    (G : Gd K g₀) {n : Nat} (hAk : AOk (n + 1) A) (ho : K.lookup f = some o) (hd : o.data = .func fd) (hb : fd.body = .stmts body)
    (hcd : ∃ c oc vs t, fd.code = .ref c ∧ K.lookup c = some oc ∧ oc.data = .fields vs ∧ vs[1]? = some (.str fd.qualname t)) (hclo : fd.closure = [])
    (hbind : bindArgs fd ⟨vs, []⟩ = pure (names.zip vs)) (hn : names.length = vs.length) (nd : names.Nodup)
    (hkind' : (names.all fun x => fd.scope.names.lookup x == some .local || fd.scope.names.lookup x == some .cell) = true)
    (hnd' : ((cellsFrom 0 fd.scope.names []).map (·.1)).Nodup)
    (so : SOk g₀ H c₀)
    (h : ∀ A', AOk n A' → ∀ c X L, Frm g₀ H X (callEnvC fd L f) c₀ c → (∀ q ∈ names.zip vs, LookAt (callEnvC fd L f) c.heap q.1 q.2) → SX prog w A' (callEnvC fd L f) body (fun fl s' => Q (match fl with | .ret v => v | _ => .none) s') c)
    (hco : fd.scope.isCoroutine = false := by rfl) (hgen : fd.scope.isGenerator = false := by rfl) (hk : fd.scope.kind = .function := by rfl) : wpAny (model prog w) A (call (.ref f) vs) Q NE c₀.s := by
  have hA : A.depth < recursionLimit := by have := hAk.d; lia
  have hcells : ∀ x, fd.scope.names.lookup x = some .cell → ∀ n, ((cellsFrom n fd.scope.names []).lookup x).isSome = true := fun x hx n => isSome_of_mem (cellsFrom_mem (mem_of_lookup_some hx))
  have hkind : ∀ x ∈ names, fd.scope.names.lookup x = some .local ∨ (fd.scope.names.lookup x = some .cell ∧ ∀ n, ((cellsFrom n fd.scope.names []).lookup x).isSome = true) := fun x hx => by
    have := List.all_eq_true.mp hkind' x hx
    simp only [Bool.or_eq_true, beq_iff_eq] at this
    exact this.imp id fun z => ⟨z, hcells x z⟩
  have hnd : ∀ n, ((cellsFrom n fd.scope.names []).map (·.1)).Nodup := fun n => by rw [cellsFrom_names fd.scope.names n 0 [] [] rfl]; exact hnd'
  have ho' : c₀.heap.get? f = some o := G.kin.keeps so.base f o ho
  have hcd' : c₀.heap.CodeRec fd.code fd.qualname := by
    obtain ⟨c, oc, us, t, e1, e2, e3, e4⟩ := hcd
    exact ⟨c, oc, us, t, e1, G.kin.keeps so.base c oc e2, e3, e4⟩
  have hlim : c₀.heap.NoLimit := G.nolimit.keeps so.base
  refine wpAny_call (codeAny_call_function hA ho' hd hco hgen hb hcd' ?_)
  rw [hbind, hclo]
  refine wpAny_pure ?_
  have mem : ∀ x ∈ names.zip vs, x.1 ∈ names := fun x hx => (List.of_mem_zip hx).1
  refine wpAny_with_toks (n := c₀.s.toks) (Nat.le_refl _) (wpAny_newFunctionEnv_cells hk (fun x hx => (hkind x.1 (mem x hx)).imp id fun z => ⟨z.1, z.2 _⟩) fun env he s' x htk => ?_)
  subst he
  refine ⟨hlim.keeps x.toInCall.keep, codeAny_func ?_⟩
  obtain ⟨h₁, tk, rfl, _⟩ := x.done
  have hk₁ := x.toInCall.keep
  generalize hE : newEnv fd.scope c₀.s.heap.objs.size fd.globals (cellsFrom (c₀.s.heap.objs.size + 1) fd.scope.names []) (fd.qualname ++ ".<locals>.") (some f) fd.code none fd.builtins = env at *
  have eL : env.locals = c₀.s.heap.objs.size := by subst hE; rfl
  have eC : env.cells = cellsFrom (c₀.s.heap.objs.size + 1) fd.scope.names [] := by subst hE; rfl
  have eS : env.scope = fd.scope := by subst hE; rfl
  have eK : ∀ y, env.kindOf y = fd.scope.names.lookup y := fun y => by subst hE; rfl
  have hfr : ∀ b, env.locals ≤ b → c₀.heap.get? b = none := fun b hb => frees (by rw [eL] at hb; exact hb)
  have hcm : ∀ a ∈ env.cells.map (·.2), env.locals < a := fun a ha => by
    obtain ⟨⟨n, a'⟩, hm, rfl⟩ := List.mem_map.mp ha
    exact x.above n a' hm
  have k₀ : Kp c₀ (c₀.put h₁ tk) := .of hk₁ htk
  have hnew : ∀ b ∈ env.locals :: env.cells.map (·.2), c₀.heap.get? b = none := fun b hb => by
    rcases List.mem_cons.mp hb with rfl | hb
    · exact hfr _ (Nat.le_refl _)
    · exact hfr _ (Nat.le_of_lt (hcm b hb))
  have ndc : (env.cells.map (·.1)).Nodup := by rw [eC]; exact hnd _
  have hlk : ∀ n a, (n, a) ∈ env.cells → env.cells.lookup n = some a := fun n a h => lookup_of_mem_nodup ndc h
  have tab : ∀ Hx, (∀ b ∈ Hx, ∃ o, c₀.heap.get? b = some o) → TabOk Hx c₀.heap → TabOk ((env.locals :: env.cells.map (·.2)) ++ Hx) h₁ := fun Hx hl t =>
    t.move (fun b _ o e => hk₁ b o e) (fun b o _ e => hk₁ b o e) fun b hb => (List.mem_append.mp hb).elim (fun q => .inr (hnew b q)) .inl
  have al : ∀ b ∈ env.locals :: env.cells.map (·.2), ∃ o, h₁.get? b = some o := fun b hb => by
    rcases List.mem_cons.mp hb with rfl | hb
    · obtain ⟨o, _, _, e, _⟩ := x.toInCall.ns; exact ⟨o, e⟩
    · obtain ⟨⟨n, a'⟩, hm, rfl⟩ := List.mem_map.mp hb
      obtain ⟨o, e, _⟩ := x.cell n a' (hlk n a' hm); exact ⟨o, e⟩
  have zn : ((names.zip vs).map (·.1)) = names := List.map_fst_zip (by lia)
  have F : Frm g₀ H (env.locals :: env.cells.map (·.2)) env c₀ (c₀.put h₁ tk) := by
    refine ⟨by rw [eS, hk], so, k₀, ⟨fun b hb => ?_, fun b hb => List.mem_append_right _ (so.mt b hb), so.gm, fun b o e => hk₁ b o (so.base b o e), tab H so.low so.tab, Nat.lt_of_lt_of_le so.pos htk, so.nb⟩, hnew, tab, List.mem_cons_self, fun y hy => ?_, fun y a ha => ⟨?_, fun z hz => ?_⟩, ⟨_, x.toInCall.ns⟩, fun y a ha => al a (List.mem_cons_of_mem _ (List.mem_map_of_mem (f := (·.2)) (mem_of_lookup_some ha))), fun y a ha q => by
      obtain ⟨o, e⟩ := so.low a (so.mt a q)
      rw [hnew a (List.mem_cons_of_mem _ (List.mem_map_of_mem (f := (·.2)) (mem_of_lookup_some ha)))] at e; cases e⟩
    · rcases List.mem_append.mp hb with q | q
      · exact al b q
      · obtain ⟨o, e⟩ := so.low b q; exact ⟨o, hk₁ b o e⟩
    · rw [eK] at hy
      have := hcells y hy (c₀.s.heap.objs.size + 1)
      rw [← eC] at this
      obtain ⟨a, ha⟩ := Option.isSome_iff_exists.mp this
      exact ⟨a, _, ha, List.mem_cons_of_mem _ (List.mem_map_of_mem (f := (·.2)) (mem_of_lookup_some ha)), x.cell y a ha⟩
    · exact fun q => absurd (x.above y a (mem_of_lookup_some ha)) (by rw [q]; exact Nat.lt_irrefl _)
    · have pw := x.apart
      exact pw_key pw (mem_of_lookup_some hz) (mem_of_lookup_some ha)
  have V : ∀ q ∈ names.zip vs, LookAt env h₁ q.1 q.2 := fun ⟨y, v⟩ hv => by
    have hyn := mem _ hv
    refine ⟨by rw [eS, hk], ?_⟩
    rcases hkind y hyn with hy | ⟨hy, hy2⟩
    · refine .inl ⟨by rw [eK]; exact hy, F.nm _ F.L, _, x.toInCall.ns, bindL_get (by rw [eK]; exact hy) (by rw [zn]; exact nd) hv⟩
    · have := hy2 (c₀.s.heap.objs.size + 1)
      rw [← eC] at this
      obtain ⟨a, ha⟩ := Option.isSome_iff_exists.mp this
      have haX : a ∈ env.locals :: env.cells.map (·.2) := List.mem_cons_of_mem _ (List.mem_map_of_mem (f := (·.2)) (mem_of_lookup_some ha))
      refine .inr ⟨.inl (by rw [eK]; exact hy), a, ha, F.nm _ haX, ?_⟩
      have hc := x.cell y a ha
      rw [bindC_get (by rw [eK, hy]; decide) (by rw [zn]; exact nd) hv] at hc
      exact hc
  have e0 : env = callEnvC fd c₀.s.heap.objs.size f := hE.symm
  have h1 := h (A.deeper env) (hAk.deeper env) (c₀.put h₁ tk) (env.locals :: env.cells.map (·.2)) c₀.s.heap.objs.size (e0 ▸ F) (e0 ▸ V)
  rw [← e0] at h1
  exact ne_any h1
theorem fn_entry {f : Addr} {o : Obj} {fd : FuncData} {body : List Stmt} {ds : List D} {d : D} {names : List Str}
    (G : Gd K g₀) {n : Nat} (hAk : AOk (n + 1) A) (ho : K.lookup f = some o) (hd : o.data = .func fd) (hb : fd.body = .stmts body)
    (hcd : ∃ c oc vs t, fd.code = .ref c ∧ K.lookup c = some oc ∧ oc.data = .fields vs ∧ vs[1]? = some (.str fd.qualname t)) (hclo : fd.closure = [])
    (hbind : ∀ vs, vs.length = ds.length → bindArgs fd ⟨vs, []⟩ = pure (names.zip vs)) (hn : names.length = ds.length) (nd : names.Nodup)
    (hkind' : (names.all fun x => fd.scope.names.lookup x == some .local || fd.scope.names.lookup x == some .cell) = true)
    (hnd' : ((cellsFrom 0 fd.scope.names []).map (·.1)).Nodup)
    (h : ∀ A', AOk n A' → ∀ H c₀ c X L, Frm g₀ H X (callEnvC fd L f) c₀ c → Vars (X ++ H) (callEnvC fd L f) c (names.zip ds) → SX prog w A' (callEnvC fd L f) body (Ret H c₀ d) c)
    (hco : fd.scope.isCoroutine = false := by rfl) (hgen : fd.scope.isGenerator = false := by rfl) (hk : fd.scope.kind = .function := by rfl) : Fn prog w g₀ A (.ref f) ds d := by
  intro H c₀ vs so r
  have hlen := r.length
  refine entry_raw G hAk ho hd hb hcd hclo (hbind vs hlen) (by rw [hlen]; exact hn) nd hkind' hnd' so (fun A' hA' c X L F lk => ?_) hco hgen hk
  refine h A' hA' H c₀ c X L F fun y d' e => ?_
  obtain ⟨v, hv, hr⟩ := zip_get r e
  refine ⟨v, lk _ hv, hr.move (F.k.cm so.mt (fun _ q => by cases q)) fun b hb => (List.mem_append.mp hb).elim (fun q => .inr (F.new b q)) .inl⟩
end
end Mine
end
noncomputable section
open PySem PySem.W PyProof.Rows
namespace Mine
open PySem.Calls

section
variable {prog : Program} {w : World} {g₀ : Heap} {A : Around} {H H₀ X : List Addr} {env : Env} {c₀ c c' : Cf} {K : Frag} {ρ : List (Str × D)}
theorem ev_var {x : Str} {p : Pos} {d : D} (F : Frm g₀ H₀ X env c₀ c) (V : Vars (X ++ H₀) env c ρ) (h : ρ.lookup x = some d := by rfl) (hd : (x == ("__debug__" : Str)) = false := by rfl) (hn : (x == ("__classdict__" : Str)) = false := by rfl) :
    EV prog w g₀ A (X ++ H₀) env c (.Name x p) d := ev_name (V x d h) F.so hd hn
theorem ev_v {x : Str} {p : Pos} {d : D} (V : Vars H env c ρ) (so : SOk g₀ H c) (h : ρ.lookup x = some d := by rfl) (hd : (x == ("__debug__" : Str)) = false := by rfl) (hn : (x == ("__classdict__" : Str)) = false := by rfl) :
    EV prog w g₀ A H env c (.Name x p) d := ev_name (V x d h) so hd hn
theorem tv_val {e : Expr} {b : Bool} (h : EV prog w g₀ A H env c e (.bool b)) (he : isTrue e env (eval e env) = (do let v ← eval e env; standAt e.pos; holding [v] (truthy v)) := by rfl) : TV prog w g₀ A H env c e b := fun c' k so =>
  wpAny_isTrue_value (got_then (h c' k so) so fun v c₁ k₁ so₁ r => by
    obtain rfl := r.bool_inv; exact wpAny_truthy_bool ⟨c₁, rfl, k₁, rfl⟩) he
theorem tv_int {e : Expr} {i : Int} (h : EV prog w g₀ A H env c e (.int i)) (he : isTrue e env (eval e env) = (do let v ← eval e env; standAt e.pos; holding [v] (truthy v)) := by rfl) : TV prog w g₀ A H env c e (i != 0) := fun c' k so =>
  wpAny_isTrue_value (got_then (h c' k so) so fun v c₁ k₁ so₁ r => by
    obtain ⟨t, rfl⟩ := r.int_inv; exact PyProof.Rows.truthy_int ⟨c₁, rfl, k₁, rfl⟩) he
theorem tv_list {e : Expr} {l : List D} (h : EV prog w g₀ A H env c e (.list l)) (hl : l.length < 2 ^ 62) (he : isTrue e env (eval e env) = (do let v ← eval e env; standAt e.pos; holding [v] (truthy v)) := by rfl) : TV prog w g₀ A H env c e (!l.isEmpty) := fun c' k so =>
  wpAny_isTrue_value (got_then (h c' k so) so fun v c₁ k₁ so₁ r => by
    obtain ⟨a, vs, n, rfl, ha, ho, rr⟩ := r.list_inv
    refine wpAny_truthy_list (items := vs.toArray) ⟨_, ho, rfl, n, rfl⟩ (by simp [rr.length]; lia) ?_
    have e1 := rr.length
    have : vs.toArray.isEmpty = l.isEmpty := by
      cases l with
      | nil => rw [rr.nil_inv]; rfl
      | cons d ds => obtain ⟨v, q, rfl, _⟩ := rr.cons_inv; simp
    exact ⟨⟨{ c₁.s with toks := c₁.s.toks + 1 + 1 }, c₁.τ⟩, rfl, k₁.trans (Kp.of (h := c₁.heap) (tk := c₁.s.toks + 1 + 1) (fun _ _ e => e) (by lia)), by rw [this]⟩) he
theorem ev_and {x y : Expr} {p : Pos} {a b : Bool} (h1 : EV prog w g₀ A H env c x (.bool a)) (h2 : a = true → EV prog w g₀ A H env c y (.bool b)) : EV prog w g₀ A H env c (.BoolOp .And [x, y] p) (.bool (a && b)) := fun c' k so =>
  wpAny_And2 (got_then (h1 c' k so) so fun v c₁ k₁ so₁ r => by
    obtain rfl := r.bool_inv
    refine wpAny_truthy_bool ?_
    cases a with
    | true => exact ne_mono (h2 rfl c₁ (k.trans k₁) so₁) fun v s g => Got.after k₁ g
    | false => exact Got.after k₁ (Got.here r))
theorem ev_or {x y : Expr} {p : Pos} {a b : Bool} (h1 : EV prog w g₀ A H env c x (.bool a)) (h2 : a = false → EV prog w g₀ A H env c y (.bool b)) : EV prog w g₀ A H env c (.BoolOp .Or [x, y] p) (.bool (a || b)) := fun c' k so =>
  wpAny_Or2 (got_then (h1 c' k so) so fun v c₁ k₁ so₁ r => by
    obtain rfl := r.bool_inv
    refine wpAny_truthy_bool ?_
    cases a with
    | false => exact ne_mono (h2 rfl c₁ (k.trans k₁) so₁) fun v s g => Got.after k₁ g
    | true => exact Got.after k₁ (Got.here r))
theorem And3_ {x y z : Expr} {p : Pos} {M : Model} {E : Value → Shared → Prop} {s : Shared} {Q : Value → Shared → Prop}
    (h : wpAny M A (eval x env) (fun v s₁ => wpAny M A (truthy v) (fun t s₂ => if t then wpAny M A (eval (.BoolOp .And [y, z] p) env) Q E s₂ else Q v s₂) E s₁) E s) :
    wpAny M A (eval (.BoolOp .And [x, y, z] p) env) Q E s := by
  show wpAny M A (do
    let v ← eval x env
    standAt p
    let t ← holding [v] (truthy v)
    match BoolOp.And, t with
    | .And, false | .Or, true => pure v
    | _, _ => boolOp p .And [eval y env, eval z env]) Q E s
  refine wpAny_bind (wpAny_mono h (fun v s₁ h₁ => wpAny_bind (wpAny_standAt (wpAny_bind (wpAny_holding (wpAny_mono h₁ (fun t s₂ h₂ => ?_) fun _ _ x => x))))) fun _ _ x => x)
  cases t with
  | false => exact wpAny_pure h₂
  | true => exact h₂
theorem ev_and3 {x y z : Expr} {p : Pos} {a b : Bool} (h1 : EV prog w g₀ A H env c x (.bool a)) (h2 : a = true → EV prog w g₀ A H env c (.BoolOp .And [y, z] p) (.bool b)) : EV prog w g₀ A H env c (.BoolOp .And [x, y, z] p) (.bool (a && b)) := fun c' k so =>
  And3_ (got_then (h1 c' k so) so fun v c₁ k₁ so₁ r => by
    obtain rfl := r.bool_inv
    refine wpAny_truthy_bool ?_
    cases a with
    | true => exact ne_mono (h2 rfl c₁ (k.trans k₁) so₁) fun v s g => Got.after k₁ g
    | false => exact Got.after k₁ (Got.here r))
theorem ev_not {x : Expr} {p : Pos} {b : Bool} (h : EV prog w g₀ A H env c x (.bool b)) : EV prog w g₀ A H env c (.UnaryOp .Not x p) (.bool (!b)) := fun c' k so =>
  wpAny_UnaryOp (got_then (h c' k so) so fun v c₁ k₁ so₁ r => by
    obtain rfl := r.bool_inv
    exact not_value (wpAny_truthy_bool ⟨c₁, rfl, k₁, Rep.bool⟩))
theorem tv_or {x y : Expr} {p : Pos} {a b : Bool} (h1 : TV prog w g₀ A H env c x a) (h2 : a = false → TV prog w g₀ A H env c y b) : TV prog w g₀ A H env c (.BoolOp .Or [x, y] p) (a || b) := fun c' k so =>
  wpAny_isTrue_BoolOp (wpAny_allTrue_Or_cons (told_then (h1 c' k so) so fun v c₁ k₁ so₁ e => by
    subst e
    cases v with
    | true => exact ⟨c₁, rfl, k₁, rfl⟩
    | false => exact wpAny_allTrue_Or_cons (told_then (h2 rfl c₁ (k.trans k₁) so₁) so₁ fun v c₂ k₂ so₂ e => by
        subst e
        cases v with
        | true => exact ⟨c₂, rfl, k₁.trans k₂, rfl⟩
        | false => exact wpAny_allTrue_Or_nil ⟨c₂, rfl, k₁.trans k₂, rfl⟩)))
end
end Mine
end
noncomputable section
open PySem PySem.W PyProof.Rows
namespace Mine
open PySem.Calls

noncomputable def clOf (env : Env) : List (Str × NameKind) → List (Str × Addr) → List (Str × Addr)
  | [], acc => acc
  | (n, k) :: r, acc => if k == .free then clOf env r ((n, (env.cells.lookup n).getD 0) :: acc) else clOf env r acc
theorem closure_loop {env : Env} : ∀ (names : List (Str × NameKind)) (acc : List (Str × Addr)), (∀ x ∈ names, x.2 = .free → (env.cells.lookup x.1).isSome = true) →
    (forIn names acc fun (x : Str × NameKind) (cs : List (Str × Addr)) => (if x.2 == .free then (do let r ← cellOf env x.1; pure (ForInStep.yield ((x.1, r) :: cs))) else pure (ForInStep.yield cs) : Sem (ForInStep (List (Str × Addr))))) = pure (clOf env names acc)
  | [], acc, _ => rfl
  | (n, k) :: r, acc, h => by
    rw [List.forIn_cons, clOf]
    cases hk : k == NameKind.free with
    | true =>
      obtain ⟨a, ha⟩ := Option.isSome_iff_exists.mp (h (n, k) List.mem_cons_self (by simpa using hk))
      have hc : cellOf env n = pure a := by unfold cellOf; rw [show env.cells.lookup n = some a from ha]
      simp only [hk, if_true, hc, pure_bind, show env.cells.lookup n = some a from ha, Option.getD_some]
      exact closure_loop r _ fun x hx => h x (List.mem_cons_of_mem _ hx)
    | false =>
      simp only [hk, Bool.false_eq_true, if_false, pure_bind]
      exact closure_loop r _ fun x hx => h x (List.mem_cons_of_mem _ hx)
theorem closure_eq {env : Env} {scope : Scope} (h : ∀ x ∈ scope.names, x.2 = .free → (env.cells.lookup x.1).isSome = true) : closureFor scope env = pure (clOf env scope.names []) := by
  have e := closure_loop (env := env) scope.names [] h
  unfold closureFor
  refine Eq.trans ?_ (show (pure (clOf env scope.names []) >>= fun cs => (pure cs : Sem (List (Str × Addr)))) = _ from pure_bind _ _)
  rw [← e]
theorem clOf_lookup {env : Env} {x : Str} : ∀ {names : List (Str × NameKind)} {acc : List (Str × Addr)}, (env.cells.lookup x).isSome = true → ((x, NameKind.free) ∈ names ∨ acc.lookup x = env.cells.lookup x) → (acc.lookup x = none ∨ acc.lookup x = env.cells.lookup x) →
    (clOf env names acc).lookup x = env.cells.lookup x
  | [], acc, hs, h, _ => by rcases h with h | h; cases h; exact h
  | (n, k) :: r, acc, hs, h, h2 => by
    rw [clOf]
    obtain ⟨a, ha⟩ := Option.isSome_iff_exists.mp hs
    cases hk : k == NameKind.free with
    | true =>
      rw [if_pos rfl]
      by_cases hx : x = n
      · subst hx
        have : List.lookup x ((x, (env.cells.lookup x).getD 0) :: acc) = env.cells.lookup x := by rw [List.lookup_cons]; simp [ha]
        exact clOf_lookup hs (.inr this) (.inr this)
      · have hx' : (x == n) = false := by simpa using hx
        have e : List.lookup x ((n, (env.cells.lookup n).getD 0) :: acc) = acc.lookup x := by rw [List.lookup_cons, hx']
        refine clOf_lookup hs ?_ (by rw [e]; exact h2)
        rw [e]
        rcases h with h | h
        · rcases List.mem_cons.mp h with q | q
          · cases q; exact absurd rfl hx
          · exact .inl q
        · exact .inr h
    | false =>
      rw [if_neg (by decide)]
      refine clOf_lookup hs ?_ h2
      rcases h with h | h
      · rcases List.mem_cons.mp h with q | q
        · cases q; cases hk
        · exact .inl q
      · exact .inr h
theorem lookup_relabel_free {env : Env} : ∀ {names : List (Str × NameKind)} {x : Str}, names.lookup x = some .free →
    (names.map fun (n, k) => if (k == NameKind.free && env.scope.kind == .function && env.kindOf n == some .cell) then (n, NameKind.cell) else (n, k)).lookup x = some .cell ∨
    (names.map fun (n, k) => if (k == NameKind.free && env.scope.kind == .function && env.kindOf n == some .cell) then (n, NameKind.cell) else (n, k)).lookup x = some .free
  | [], _, h => by simp at h
  | (n, k) :: r, x, h => by
    have ih := @lookup_relabel_free env r x
    show List.lookup x ((if (k == NameKind.free && env.scope.kind == .function && env.kindOf n == some .cell) = true then (n, NameKind.cell) else (n, k)) :: _) = _ ∨ List.lookup x ((if (k == NameKind.free && env.scope.kind == .function && env.kindOf n == some .cell) = true then (n, NameKind.cell) else (n, k)) :: _) = _
    by_cases hc : (k == NameKind.free && env.scope.kind == .function && env.kindOf n == some .cell) = true
    · rw [if_pos hc]
      simp only [List.lookup_cons] at h ⊢
      cases hx : x == n with
      | true => simp
      | false => rw [hx] at h; exact ih h
    · rw [if_neg hc]
      simp only [List.lookup_cons] at h ⊢
      cases hx : x == n with
      | true => rw [hx] at h; right; exact h
      | false => rw [hx] at h; exact ih h

noncomputable def cchk (env : Env) (scope : Scope) (names fr : List Str) : Bool :=
  scope.names.all (fun x => x.2 != .free || (env.cells.lookup x.1).isSome) && scope.names.all (fun x => x.2 != .cell) && scope.names.all (fun x => x.2 != .local || scope.names.lookup x.1 == some .local) &&
  names.all (fun x => scope.names.lookup x == some .local) && fr.all (fun x => (env.kindOf x == some .cell || env.kindOf x == some .free) && scope.names.lookup x == some .free)

section
variable {prog : Program} {w : World} {g₀ : Heap} {A : Around} {H H₀ X : List Addr} {env : Env} {c₀ c c' : Cf} {K : Frag} {ρ : List (Str × D)}
noncomputable abbrev cEnv (env : Env) (scope : Scope) (C : Addr) : Env := compEnvC scope (clOf env scope.names []) C env
theorem VarAt.into {H' : List Addr} {c₁ : Cf} {scope : Scope} {C : Addr} {x : Str} {d : D} (l : VarAt H env c x d) (so : SOk g₀ H c) (I : Inner H H' c c₁) (hkind : scope.kind = .function)
    (h1 : (env.kindOf x == some .cell || env.kindOf x == some .free) = true) (h2 : scope.names.lookup x = some .free) : VarAt H' (cEnv env scope C) c₁ x d := by
  obtain ⟨v, ⟨k, l⟩, r⟩ := l
  simp only [Bool.or_eq_true, beq_iff_eq] at h1
  refine ⟨v, ⟨hkind, ?_⟩, I.rep so r⟩
  rcases l with ⟨e, _⟩ | ⟨e, a, ha, hM, hc⟩
  · rw [e] at h1; rcases h1 with q | q <;> cases q
  · refine .inr ⟨lookup_relabel_free h2, a, ?_, hM, cell_keep hc fun o e => I.k.keep hM e⟩
    show (clOf env scope.names []).lookup x = some a
    rw [clOf_lookup (by rw [ha]; rfl) (.inl (mem_of_lookup_some h2)) (.inl rfl), ha]
noncomputable def inVars (names : List Str) (ds : List D) (fr : List Str) (ρ : List (Str × D)) : List (Str × D) := names.zip ds ++ fr.filterMap fun x => (ρ.lookup x).map fun d => (x, d)
theorem lookup_filterMap {x : Str} {d : D} : ∀ {fr : List Str}, (fr.filterMap fun x => (ρ.lookup x).map fun d => (x, d)).lookup x = some d → x ∈ fr ∧ ρ.lookup x = some d
  | [], h => by simp at h
  | y :: fr, h => by
    rw [List.filterMap_cons] at h
    cases hy : ρ.lookup y with
    | none =>
      rw [hy] at h
      obtain ⟨h1, h2⟩ := lookup_filterMap (fr := fr) h
      exact ⟨List.mem_cons_of_mem _ h1, h2⟩
    | some d' =>
      rw [hy] at h
      simp only [Option.map_some, List.lookup_cons] at h
      cases hx : x == y with
      | true => rw [hx] at h; cases h; rw [eq_of_beq hx]; exact ⟨List.mem_cons_self, hy⟩
      | false =>
        rw [hx] at h
        obtain ⟨h1, h2⟩ := lookup_filterMap (fr := fr) h
        exact ⟨List.mem_cons_of_mem _ h1, h2⟩
theorem bnd_get {c : Cf} {x : Str} {d : D} : ∀ {names : List Str} {ds : List D}, Bnd H env c names ds → (names.zip ds).lookup x = some d → VarAt H env c x d
  | [], _, _, e => by simp at e
  | _ :: _, [], _, e => by simp at e
  | n :: names, d' :: ds, b, e => by
    rw [List.zip_cons_cons, List.lookup_cons] at e
    cases hx : x == n with
    | true => rw [hx] at e; cases e; rw [eq_of_beq hx]; exact b.1
    | false => rw [hx] at e; exact bnd_get b.2 e
theorem lookup_append {l l' : List (Str × D)} {x : Str} {d : D} (h : (l ++ l').lookup x = some d) : l.lookup x = some d ∨ l'.lookup x = some d := by
  induction l with
  | nil => exact .inr h
  | cons a l ih =>
    obtain ⟨n, d'⟩ := a
    rw [List.cons_append, List.lookup_cons] at h
    rw [List.lookup_cons]
    cases hx : x == n with
    | true => rw [hx] at h; exact .inl h
    | false => rw [hx] at h; exact ih h
theorem vars_in {H' : List Addr} {c₁ : Cf} {scope : Scope} {C : Addr} {names fr : List Str} {ds : List D} (V : Vars H env c ρ) (so : SOk g₀ H c) (I : Inner H H' c c₁) (hkind : scope.kind = .function)
    (hc : cchk env scope names fr = true) (b : Bnd H' (cEnv env scope C) c₁ names ds) : Vars H' (cEnv env scope C) c₁ (inVars names ds fr ρ) := fun x d e => by
  rcases lookup_append e with e | e
  · exact bnd_get b e
  · obtain ⟨h1, h2⟩ := lookup_filterMap e
    unfold cchk at hc
    simp only [Bool.and_eq_true] at hc
    have := List.all_eq_true.mp hc.2 x h1
    simp only [Bool.and_eq_true] at this
    exact (V x d h2).into so I hkind this.1 (eq_of_beq this.2)

theorem ev_comp {elt target iter : Expr} {ifs : List Expr} {scope : Scope} {pos : Pos} {names : List Str} {items : List (List D)} {p : Nat → Bool} {f : Nat → D}
    (V : Vars H env c ρ) (so₀ : SOk g₀ H c) (T : Tgt target names) (fr : List Str) (hA : A.handled = none) (hI : IS prog w g₀ A H env c iter target items) (hsz : items.length ≤ sizeLine) (hds : ∀ ds ∈ items, ds.length = names.length)
    (hbody : ∀ i ds, items[i]? = some ds → ∀ H' C c₁, SOk g₀ H' c₁ → Vars H' (cEnv env scope C) c₁ (inVars names ds fr ρ) →
      TVs prog w g₀ A H' (cEnv env scope C) c₁ ifs (p i) ∧ (p i = true → EV prog w g₀ A H' (cEnv env scope C) c₁ elt (f i)))
    (hc : cchk env scope names fr = true := by rfl) (nd : names.Nodup := by decide) (hs : ∀ x, foldedSetIterable iter env x = pure x := by intro _; rfl) (hkind : scope.kind = .function := by rfl) :
    EV prog w g₀ A H env c (.ListComp elt [⟨target, iter, ifs, 0⟩] scope pos) (.list (picks p f items.length)) := by
  have hc' := hc
  unfold cchk at hc'
  simp only [Bool.and_eq_true] at hc'
  obtain ⟨⟨⟨⟨h1, h2⟩, h3⟩, h4⟩, h5⟩ := hc'
  refine ev_compI T hA hs (closure_eq fun x hx hf => ?_) (fun y hy q => ?_) hkind (fun x hx hl => ?_) (fun x hx => ?_) nd hsz hds hI fun i ds e H' C c₁ I so b => hbody i ds e H' C c₁ so (vars_in V so₀ I hkind hc b)
  · have := List.all_eq_true.mp h1 x hx
    simp [hf] at this; simpa using this
  · have := List.all_eq_true.mp h2 y hy
    simp [q] at this
  · have := List.all_eq_true.mp h3 x hx
    simpa [hl] using this
  · simpa using List.all_eq_true.mp h4 x hx
end
end Mine
end
noncomputable section
open PySem PySem.W PyProof.Rows
namespace Mine
open PySem.Calls

section
variable {prog : Program} {w : World} {g₀ : Heap} {A : Around} {H H₀ X : List Addr} {env : Env} {c₀ c c' : Cf} {K : Frag} {ρ : List (Str × D)}
theorem look_but {C : Addr} {h h'' : Heap} {m : Str → Option Value} (hn : h.Ns C m) (hs : Heap.SameBut C h h'') (hL : C ≠ env.locals) {x : Str} {v : Value} (l : LookAt env h x v) : LookAt env h'' x v := by
  obtain ⟨k, l⟩ := l
  refine ⟨k, ?_⟩
  rcases l with ⟨e, hM, m', hm, hx⟩ | ⟨e, a, ha, hM, ⟨o, ho, hd⟩⟩
  · exact .inl ⟨e, hM, m', ns_keep hm fun o e => hs.extBut _ o (Ne.symm hL) e, hx⟩
  · refine .inr ⟨e, a, ha, hM, o, hs.extBut a o (fun q => ?_) ho, hd⟩
    subst q
    obtain ⟨o', es, ep, e', hd', _⟩ := hn
    rw [ho] at e'; cases e'
    rw [hd] at hd'; cases hd'

theorem comp_store {elt target iter : Expr} {ifs : List Expr} {scope : Scope} {y : Str} {py pos : Pos} {P : Shared → Prop} {names : List Str} {items : List (List D)} {p : Nat → Bool} {f : Nat → D} {it : Value} {s₂ : Shared}
    (F : Frm g₀ H₀ X env c₀ c) (V : Vars (X ++ H₀) env c ρ) (T : Tgt target names) (fr : List Str) (hA : A.handled = none) (h₂ : ItAt prog w A (X ++ H₀) c target items it s₂) (hsz : items.length ≤ sizeLine) (hds : ∀ ds ∈ items, ds.length = names.length)
    (hbody : ∀ i ds, items[i]? = some ds → ∀ H' C c₁, SOk g₀ H' c₁ → Vars H' (cEnv env scope C) c₁ (inVars names ds fr ρ) →
      TVs prog w g₀ A H' (cEnv env scope C) c₁ ifs (p i) ∧ (p i = true → EV prog w g₀ A H' (cEnv env scope C) c₁ elt (f i)))
    (hn : ∀ c', Stp env [y] c c' → Frm g₀ H₀ X env c₀ c' → Vars (X ++ H₀) env c' ((y, .list (picks p f items.length)) :: ρ) → P c'.s)
    (hy : env.kindOf y = some .local) (hyc : env.cells.lookup y = none) (hc : cchk env scope names fr = true) (nd : names.Nodup) (hkind : scope.kind = .function) :
    wpAny (model prog w) A (newList []) (fun acc s₃ => wpAny (model prog w) A (newFunctionEnv scope env.globals (clOf env scope.names []) [] env.qual none .none (some env)) (fun cenv s₄ =>
      codeAny (model prog w) A (.compStart (.ListComp elt [⟨target, iter, ifs, 0⟩] scope pos) 0 it acc { cenv with scope := relabel scope env }) (compPost (model prog w) A NE (some (assign (.Name y py) env)) (fun _ s' => P s') acc cenv.locals) s₄) NE s₃) NE s₂ := by
  have hc' := hc
  unfold cchk at hc'
  simp only [Bool.and_eq_true] at hc'
  obtain ⟨⟨⟨⟨h1, h2⟩, h3⟩, h4⟩, h5⟩ := hc'
  obtain ⟨c₂, I, fp, wr, Vt, St, rfl, k₂, rfl, W, hst, hfp, hwr, htw, hVt⟩ := h₂
  refine comp_core (RR := fun acc C => compPost (model prog w) A NE (some (assign (.Name y py) env)) (fun _ s' => P s') acc C) T hA (fun y hy q => ?_) hkind (fun x hx => ?_) nd hsz hds F.so k₂ W hst hfp hwr htw hVt
    (fun i ds e H' C c₁ I so b => hbody i ds e H' C c₁ so (vars_in V F.so I hkind hc b)) fun C D c₃ m' k₃ hCD nC nD so₃ hnC r ht => ?_
  · have := List.all_eq_true.mp h2 y hy
    simp [q] at this
  · simpa using List.all_eq_true.mp h4 x hx
  -- the store, and the letting go
  have nC₀ : c₀.heap.get? C = none := by
    cases e : c₀.heap.get? C with
    | none => rfl
    | some o => obtain ⟨o', e'⟩ := F.k.al C ⟨o, e⟩; rw [nC] at e'; cases e'
  have CM : C ∉ MUT := fun q => by obtain ⟨o, e⟩ := F.so₀.low C (F.so₀.mt C q); rw [nC₀] at e; cases e
  have CL : C ≠ env.locals := fun q => by obtain ⟨m, o, _, _, e, _⟩ := F.ns; rw [q, e] at nC; cases nC
  have F₃ : Frm g₀ H₀ (C :: X) env c₀ c₃ := by
    refine ⟨F.kind, F.so₀, F.k.trans k₃, so₃, fun b hb => ?_, fun Hx hl t => ?_, List.mem_cons_of_mem _ F.L, fun x hx => ?_, F.apart, ?_, fun x a h => k₃.al a (F.cal x a h), F.cM⟩
    · rcases List.mem_cons.mp hb with rfl | hb
      · exact nC₀
      · exact F.new b hb
    · exact ht (X ++ Hx) (fun b hb => by
        rcases List.mem_append.mp hb with q | q
        · exact F.so.low b (F.hid b q)
        · exact F.k.al b (hl b q)) (F.tab Hx hl t)
    · obtain ⟨a, ov, e1, e2, e3⟩ := F.own x hx
      exact ⟨a, ov, e1, List.mem_cons_of_mem _ e2, cell_keep e3 fun o e => k₃.keep (F.nm a e2) e⟩
    · obtain ⟨m, hm⟩ := F.ns; exact ⟨m, ns_keep hm fun o e => k₃.keep (F.nm _ F.L) e⟩
  have V₃ : Vars ((C :: X) ++ H₀) env c₃ ρ := fun x d e => by
    obtain ⟨v, l, rr⟩ := V x d e
    refine ⟨v, l.keep fun b o hb e => k₃.keep hb e, rr.move (k₃.cm F.so.mt (fun _ q => by cases q)) fun b hb => ?_⟩
    rcases List.mem_cons.mp hb with rfl | hb
    · exact .inr nC
    · exact .inl hb
  show wpAny _ _ (assign (.Name y py) env (.ref D)) _ _ _
  refine wpAny_assign_Name (store_var F₃ V₃ (.inl hy) r fun c₄ S F₄ V₄ => ?_)
  have hnC₄ : c₄.heap.Ns C m' := ns_keep hnC fun o e => S.obj C o CM CL (fun x hx => by rw [List.mem_singleton.mp hx, hyc]; intro q; cases q) e
  refine ⟨m', hnC₄, fun h'' hs'' => ?_⟩
  have tm : ∀ {Y : List Addr}, C ∈ Y → TabOk Y c₄.heap → TabOk Y h'' := fun {Y} hC t => t.move (fun b hb o e => hs''.extBut b o (fun q => CM (q ▸ hb)) e) (fun b o hb e => hs''.extBut b o (fun q => hb (q ▸ hC)) e) fun b hb => .inl hb
  have lk : ∀ {x v}, LookAt env c₄.heap x v → LookAt env h'' x v := fun l => look_but hnC₄ hs'' CL l
  have neC : ∀ {b o}, c.heap.get? b = some o → b ≠ C := fun e q => by rw [q, nC] at e; cases e
  have neC₀ : ∀ {b o}, c₀.heap.get? b = some o → b ≠ C := fun e q => by rw [q, nC₀] at e; cases e
  have aX : ∀ b ∈ X ++ H₀, ∃ o, h''.get? b = some o := fun b hb => by
    obtain ⟨o, e⟩ := F.so.low b hb
    obtain ⟨o', e'⟩ := F₄.so.low b (List.mem_cons_of_mem _ hb)
    exact ⟨o', hs''.extBut b o' (neC e) e'⟩
  have t₅ : ∀ Hx, (∀ b ∈ Hx, ∃ o, c₀.heap.get? b = some o) → TabOk Hx c₀.heap → TabOk ((C :: X) ++ Hx) h'' := fun Hx hl t => tm List.mem_cons_self (F₄.tab Hx hl t)
  have sm : ∃ h tk, ({ c₄.s with heap := h'', toks := c₄.s.toks } : Shared) = { c₀.s with heap := h, toks := tk } := by
    obtain ⟨h', tk', e'⟩ := F₄.k.same
    exact ⟨h'', c₄.s.toks, by rw [e']⟩
  have F₆ : Frm g₀ H₀ X env c₀ (c₄.put h'' c₄.s.toks) := ⟨F.kind, F.so₀,
    ⟨sm, fun b o hM _ e => hs''.extBut b o (neC₀ e) (F₄.k.keep hM e), F₄.k.tk, F₄.k.gh, fun b ⟨o, e⟩ => by
      obtain ⟨o', e'⟩ := F₄.k.al b ⟨o, e⟩; exact ⟨o', hs''.extBut b o' (neC₀ e) e'⟩, fun Hx _ hl t => (t₅ Hx hl t).sub fun b hb => List.mem_append_right _ hb⟩,
    ⟨aX, F.so.mt, F.so.gm, fun b o e => hs''.extBut b o (fun q => by have := F.so₀.base b o e; rw [q, nC₀] at this; cases this) (F₄.so.base b o e), (tm List.mem_cons_self F₄.so.tab).sub fun b hb => List.mem_cons_of_mem _ hb, F₄.so.pos, F₄.so.nb⟩,
    F.new, fun Hx hl t => (t₅ Hx hl t).sub fun b hb => List.mem_cons_of_mem _ hb, F.L, fun x hx => by
      obtain ⟨a, ov, e1, _, e3⟩ := F₄.own x hx
      obtain ⟨a', ov', e1', e2', e3'⟩ := F.own x hx
      rw [e1] at e1'; cases e1'
      obtain ⟨oo, ee, _⟩ := e3'
      exact ⟨a, ov, e1, e2', cell_keep e3 fun o e => hs''.extBut a o (neC ee) e⟩, F.apart, by
      obtain ⟨m, hm⟩ := F₄.ns; exact ⟨m, ns_keep hm fun o e => hs''.extBut _ o (Ne.symm CL) e⟩, fun x a h => by
      obtain ⟨o, e⟩ := F.cal x a h
      obtain ⟨o', e'⟩ := F₄.cal x a h
      exact ⟨o', hs''.extBut a o' (neC e) e'⟩, F.cM⟩
  have V₆ : Vars (X ++ H₀) env (c₄.put h'' c₄.s.toks) ((y, .list (picks p f items.length)) :: ρ) := fun x d e => by
    obtain ⟨v, l, rr⟩ := V₄ x d e
    exact ⟨v, lk l, rr.move (H' := X ++ H₀) (c' := c₄.put h'' c₄.s.toks) ⟨fun b o hb e => hs''.extBut b o (fun q => hb (by rw [q]; exact List.mem_cons_self)) e, Nat.le_refl _, fun _ _ => rfl⟩ fun b hb => .inl (List.mem_cons_of_mem _ hb)⟩
  refine hn (c₄.put h'' c₄.s.toks) ⟨⟨?_, fun b o hM hX e => ?_, ?_, ?_, ?_, fun Hx hX hl t => ?_⟩, fun b o hM hL hb e => ?_, fun x v hx l => ?_⟩ F₆ V₆
  · obtain ⟨h, tk, e⟩ := k₃.same
    obtain ⟨h', tk', e'⟩ := S.kx.same
    exact ⟨h'', c₄.s.toks, by show ({ c₄.s with heap := h'', toks := c₄.s.toks } : Shared) = _; rw [e', e]⟩
  · exact hs''.extBut b o (neC e) (S.kx.kp b o hM hX (k₃.keep hM e))
  · exact Nat.le_trans k₃.tk S.kx.tk
  · exact fun n hn => (S.kx.gh n (Nat.lt_of_lt_of_le hn k₃.tk)).trans (k₃.gh n hn)
  · exact fun b ⟨o, e⟩ => by
      obtain ⟨o', e'⟩ := S.kx.al b (k₃.al b ⟨o, e⟩)
      exact ⟨o', hs''.extBut b o' (neC e) e'⟩
  · have t1 := ht Hx hl t
    have t2 := S.kx.tab (C :: Hx) (fun b hb => List.mem_cons_of_mem _ (hX b hb)) (fun b hb => (List.mem_cons.mp hb).elim (fun q => by rw [q]; obtain ⟨o, _, _, e, _⟩ := hnC; exact ⟨o, e⟩) fun q => k₃.al b (hl b q)) t1
    have t3 := tm List.mem_cons_self t2
    exact t3.sub fun b hb => List.mem_cons_of_mem _ hb
  · exact hs''.extBut b o (neC e) (S.obj b o hM hL hb (k₃.keep hM e))
  · exact lk (S.look x v hx (l.keep fun b o hb e => k₃.keep hb e))
theorem sx_comp {elt target iter : Expr} {ifs : List Expr} {scope : Scope} {y : Str} {py cpos pos : Pos} {rest : List Stmt} {Q : Flow → Shared → Prop} {names : List Str} {items : List (List D)} {p : Nat → Bool} {f : Nat → D}
    (F : Frm g₀ H₀ X env c₀ c) (V : Vars (X ++ H₀) env c ρ) (T : Tgt target names) (fr : List Str) (hA : A.handled = none) (hI : IS prog w g₀ A (X ++ H₀) env c iter target items) (hsz : items.length ≤ sizeLine) (hds : ∀ ds ∈ items, ds.length = names.length)
    (hbody : ∀ i ds, items[i]? = some ds → ∀ H' C c₁, SOk g₀ H' c₁ → Vars H' (cEnv env scope C) c₁ (inVars names ds fr ρ) →
      TVs prog w g₀ A H' (cEnv env scope C) c₁ ifs (p i) ∧ (p i = true → EV prog w g₀ A H' (cEnv env scope C) c₁ elt (f i)))
    (hn : ∀ c', Stp env [y] c c' → Frm g₀ H₀ X env c₀ c' → Vars (X ++ H₀) env c' ((y, .list (picks p f items.length)) :: ρ) → SX prog w A env rest Q c')
    (hy : env.kindOf y = some .local := by rfl) (hyc : env.cells.lookup y = none := by rfl)
    (hsw : swapsWith (.ListComp elt [⟨target, iter, ifs, 0⟩] scope cpos) (some (.Name y py)) pos.line env = pure true := by rfl)
    (hc : cchk env scope names fr = true := by rfl) (nd : names.Nodup := by decide) (hs : ∀ x, foldedSetIterable iter env x = pure x := by intro _; rfl) (hkind : scope.kind = .function := by rfl) :
    SX prog w A env (.Assign [.Name y py] (.ListComp elt [⟨target, iter, ifs, 0⟩] scope cpos) pos :: rest) Q c := by
  have hc' := hc
  unfold cchk at hc'
  simp only [Bool.and_eq_true] at hc'
  obtain ⟨⟨⟨⟨h1, h2⟩, h3⟩, h4⟩, h5⟩ := hc'
  refine sx_cons ?_
  rw [exec_Assign_Name_used _ _ _ _ hsw]
  refine wpAny_bind (wpAny_standAt (wpAny_bind ?_))
  show wpAny _ A (do let _ ← comprehension (.ListComp elt [⟨target, iter, ifs, 0⟩] scope cpos) scope env _ (newList []) false (eval iter env) (some (assign (.Name y py) env))) _ _ _
  refine wpAny_bind (ne_mono (wpAny_comprehension_free (use := some (assign (.Name y py) env)) (Q := fun _ s' => SX prog w A env rest Q ⟨s', c.τ⟩) rfl hs
    (closure_eq (env := env) (scope := scope) fun x hx hf => ?_) hkind (fun x hx hl => ?_) ?_) (fun _ s' hq => wpAny_pure (wpAny_pure hq)))
  · have := List.all_eq_true.mp h1 x hx
    simp [hf] at this; simpa using this
  · have := List.all_eq_true.mp h3 x hx
    simpa [hl] using this
  refine ne_mono (hI c (.refl _) F.so) fun xv s₁ h₁ => ne_mono h₁ fun it s₂ h₂ => ?_
  exact comp_store F V T fr hA h₂ hsz hds hbody hn hy hyc hc nd hkind
end
end Mine
end
noncomputable section
open PySem PySem.W PyProof.Rows
namespace Mine
open PySem.Calls

section
variable {prog : Program} {w : World} {g₀ : Heap} {A : Around} {H H₀ X : List Addr} {env : Env} {c₀ c c' : Cf} {K : Frag} {ρ : List (Str × D)}
theorem Got.toks {d : D} {v : Value} {tk : Nat} (h : c.s.toks ≤ tk) (r : Rep H (c.put c.heap tk) d v) : Got H c d v { c.s with toks := tk } := Got.put (h := c.heap) (fun _ _ e => e) h r
theorem fn_len {l : List D} (hl : l.length < 2 ^ 62) : Fn prog w g₀ A (.builtin "len") [.list l] (.int l.length) := fun H c vs so r => by
  obtain ⟨v, q, rfl, r1, r2⟩ := r.cons_inv
  obtain rfl := r2.nil_inv
  obtain ⟨a, vs, n, rfl, ha, ho, rr⟩ := r1.list_inv
  refine call_len_list (items := vs.toArray) ⟨_, ho, rfl, n, rfl⟩ (by simp [rr.length]; lia) ?_
  have : (vs.toArray.size : Int) = l.length := by simp [rr.length]
  rw [this]
  exact Got.toks (by lia) Rep.int
theorem picks_eq {α : Type} {p : α → Bool} {f : α → D} (xs : List α) : picks (fun i => (xs[i]?.map p).getD false) (fun i => (xs[i]?.map f).getD .none) xs.length = (xs.filter p).map f := by
  suffices ∀ k, k ≤ xs.length → picks (fun i => (xs[i]?.map p).getD false) (fun i => (xs[i]?.map f).getD .none) k = ((xs.take k).filter p).map f by
    have := this xs.length (Nat.le_refl _)
    rwa [List.take_length] at this
  intro k
  induction k with
  | zero => intro _; rfl
  | succ k ih =>
    intro hk
    have hlt : k < xs.length := hk
    have e : xs[k]? = some xs[k] := List.getElem?_eq_getElem hlt
    rw [List.take_succ_eq_append_getElem hlt, List.filter_append, List.map_append]
    by_cases hp : p xs[k] = true
    · rw [picks_succ_true (by simp [e, hp]), ih (by lia)]
      simp [e, hp]
    · rw [picks_succ_false (by simp [e, hp]), ih (by lia)]
      simp [hp]
section
variable {α : Type} {xs : List α} {it : α → List D} {p : α → Bool} {f : α → D} {names : List Str} {elt target iter : Expr} {scope : Scope} {ifs : List Expr}
theorem ev_compL {pos : Pos} (fr : List Str) (V : Vars H env c ρ) (so₀ : SOk g₀ H c) (T : Tgt target names) (hA : A.handled = none) (hI : IS prog w g₀ A H env c iter target (xs.map it)) (hsz : xs.length ≤ sizeLine) (hds : ∀ a, (it a).length = names.length)
    (hbody : ∀ a ∈ xs, ∀ H' C c₁, SOk g₀ H' c₁ → Vars H' (cEnv env scope C) c₁ (inVars names (it a) fr ρ) →
      TVs prog w g₀ A H' (cEnv env scope C) c₁ ifs (p a) ∧ (p a = true → EV prog w g₀ A H' (cEnv env scope C) c₁ elt (f a)))
    (hc : cchk env scope names fr = true := by rfl) (nd : names.Nodup := by decide) (hs : ∀ x, foldedSetIterable iter env x = pure x := by intro _; rfl) (hkind : scope.kind = .function := by rfl) :
    EV prog w g₀ A H env c (.ListComp elt [⟨target, iter, ifs, 0⟩] scope pos) (.list ((xs.filter p).map f)) := by
  have := ev_comp (pos := pos) (p := fun i => (xs[i]?.map p).getD false) (f := fun i => (xs[i]?.map f).getD .none) V so₀ T fr hA hI (by simpa using hsz) (fun ds h => by obtain ⟨a, _, rfl⟩ := List.mem_map.mp h; exact hds a)
    (fun i ds e H' C c₁ so V => by
      rw [List.getElem?_map, Option.map_eq_some_iff] at e
      obtain ⟨a, ea, rfl⟩ := e
      simp only [ea, Option.map_some, Option.getD_some]
      exact hbody a (List.mem_of_getElem? ea) H' C c₁ so V) hc nd hs hkind
  rw [List.length_map, picks_eq] at this
  exact this
theorem ev_map {pos : Pos} (fr : List Str) (V : Vars H env c ρ) (so₀ : SOk g₀ H c) (T : Tgt target names) (hA : A.handled = none) (hI : IS prog w g₀ A H env c iter target (xs.map it)) (hsz : xs.length ≤ sizeLine) (hds : ∀ a, (it a).length = names.length)
    (hbody : ∀ a ∈ xs, ∀ H' C c₁, SOk g₀ H' c₁ → Vars H' (cEnv env scope C) c₁ (inVars names (it a) fr ρ) → EV prog w g₀ A H' (cEnv env scope C) c₁ elt (f a))
    (hc : cchk env scope names fr = true := by rfl) (nd : names.Nodup := by decide) (hs : ∀ x, foldedSetIterable iter env x = pure x := by intro _; rfl) (hkind : scope.kind = .function := by rfl) :
    EV prog w g₀ A H env c (.ListComp elt [⟨target, iter, [], 0⟩] scope pos) (.list (xs.map f)) := by
  have := ev_compL (pos := pos) (p := fun _ => true) (ifs := []) fr V so₀ T hA hI hsz hds (fun a h H' C c₁ so V => ⟨(rfl : true = true), fun _ => hbody a h H' C c₁ so V⟩) hc nd hs hkind
  rw [List.filter_eq_self.mpr (fun _ _ => rfl)] at this
  exact this
theorem sx_compL {y : Str} {py cpos pos : Pos} {rest : List Stmt} {Q : Flow → Shared → Prop} (fr : List Str)
    (F : Frm g₀ H₀ X env c₀ c) (V : Vars (X ++ H₀) env c ρ) (T : Tgt target names) (hA : A.handled = none) (hI : IS prog w g₀ A (X ++ H₀) env c iter target (xs.map it)) (hsz : xs.length ≤ sizeLine) (hds : ∀ a, (it a).length = names.length)
    (hbody : ∀ a ∈ xs, ∀ H' C c₁, SOk g₀ H' c₁ → Vars H' (cEnv env scope C) c₁ (inVars names (it a) fr ρ) →
      TVs prog w g₀ A H' (cEnv env scope C) c₁ ifs (p a) ∧ (p a = true → EV prog w g₀ A H' (cEnv env scope C) c₁ elt (f a)))
    (hn : ∀ c', Stp env [y] c c' → Frm g₀ H₀ X env c₀ c' → Vars (X ++ H₀) env c' ((y, .list ((xs.filter p).map f)) :: ρ) → SX prog w A env rest Q c')
    (hy : env.kindOf y = some .local := by rfl) (hyc : env.cells.lookup y = none := by rfl)
    (hsw : swapsWith (.ListComp elt [⟨target, iter, ifs, 0⟩] scope cpos) (some (.Name y py)) pos.line env = pure true := by rfl)
    (hc : cchk env scope names fr = true := by rfl) (nd : names.Nodup := by decide) (hs : ∀ x, foldedSetIterable iter env x = pure x := by intro _; rfl) (hkind : scope.kind = .function := by rfl) :
    SX prog w A env (.Assign [.Name y py] (.ListComp elt [⟨target, iter, ifs, 0⟩] scope cpos) pos :: rest) Q c :=
  sx_comp (p := fun i => (xs[i]?.map p).getD false) (f := fun i => (xs[i]?.map f).getD .none) F V T fr hA hI (by simpa using hsz) (fun ds h => by obtain ⟨a, _, rfl⟩ := List.mem_map.mp h; exact hds a)
    (fun i ds e H' C c₁ so V => by
      rw [List.getElem?_map, Option.map_eq_some_iff] at e
      obtain ⟨a, ea, rfl⟩ := e
      simp only [ea, Option.map_some, Option.getD_some]
      exact hbody a (List.mem_of_getElem? ea) H' C c₁ so V)
    (fun c' S F' V' => hn c' S F' (by rw [List.length_map, picks_eq] at V'; exact V')) hy hyc hsw hc nd hs hkind
theorem sx_map {y : Str} {py cpos pos : Pos} {rest : List Stmt} {Q : Flow → Shared → Prop} (fr : List Str)
    (F : Frm g₀ H₀ X env c₀ c) (V : Vars (X ++ H₀) env c ρ) (T : Tgt target names) (hA : A.handled = none) (hI : IS prog w g₀ A (X ++ H₀) env c iter target (xs.map it)) (hsz : xs.length ≤ sizeLine) (hds : ∀ a, (it a).length = names.length)
    (hbody : ∀ a ∈ xs, ∀ H' C c₁, SOk g₀ H' c₁ → Vars H' (cEnv env scope C) c₁ (inVars names (it a) fr ρ) → EV prog w g₀ A H' (cEnv env scope C) c₁ elt (f a))
    (hn : ∀ c', Stp env [y] c c' → Frm g₀ H₀ X env c₀ c' → Vars (X ++ H₀) env c' ((y, .list (xs.map f)) :: ρ) → SX prog w A env rest Q c')
    (hy : env.kindOf y = some .local := by rfl) (hyc : env.cells.lookup y = none := by rfl)
    (hsw : swapsWith (.ListComp elt [⟨target, iter, [], 0⟩] scope cpos) (some (.Name y py)) pos.line env = pure true := by rfl)
    (hc : cchk env scope names fr = true := by rfl) (nd : names.Nodup := by decide) (hs : ∀ x, foldedSetIterable iter env x = pure x := by intro _; rfl) (hkind : scope.kind = .function := by rfl) :
    SX prog w A env (.Assign [.Name y py] (.ListComp elt [⟨target, iter, [], 0⟩] scope cpos) pos :: rest) Q c :=
  sx_compL (p := fun _ => true) (ifs := []) fr F V T hA hI hsz hds (fun a h H' C c₁ so V => ⟨(rfl : true = true), fun _ => hbody a h H' C c₁ so V⟩)
    (fun c' S F' V' => hn c' S F' (by rw [List.filter_eq_self.mpr (fun _ _ => rfl)] at V'; exact V')) hy hyc hsw hc nd hs hkind
end

/-! the iterables, with typed data -/
section
variable {α β : Type} {xs : List α} {ys : List β} {g : α → D} {g' : β → D}
theorem ia_list {iter : Expr} {x : Str} {px : Pos} (hA : A.handled = none) (h : EV prog w g₀ A H env c iter (.list (xs.map g))) : IS prog w g₀ A H env c iter (.Name x px) (xs.map fun a => [g a]) := by
  have := is_list (x := x) (px := px) hA h
  rw [List.map_map] at this; exact this
theorem ia_range {x : Str} {px p pos : Pos} {e : Expr} {n : Nat} {y : Str} (hA : A.handled = none) (G : Gd K g₀) (nm : GName K env y (.type "range")) (hn : n < 2 ^ 61) (h : EV prog w g₀ A H env c e (.int n))
    (hes : ∀ rest, starEach (e :: rest) env = (false, eval e env) :: starEach rest env := by intro _; rfl) :
    IS prog w g₀ A H env c (.Call (.Name y p) [e] [] pos) (.Name x px) ((List.range n).map fun (i : Nat) => [.int (i : Int)]) := by
  have := is_range (x := x) (px := px) (p := p) (pos := pos) (n := (n : Int)) hA G nm (by lia) (by lia) h hes
  exact this
theorem ia_enum {x y f : Str} {p q r pf pos : Pos} {kk : Nat} {e : Expr} (hA : A.handled = none) (G : Gd K g₀) (nm : GName K env f (.type "enumerate")) (h : EV prog w g₀ A H env c e (.list (xs.map g)))
    (hes : ∀ rest, starEach (e :: rest) env = (false, eval e env) :: starEach rest env := by intro _; rfl) :
    IS prog w g₀ A H env c (.Call (.Name f pf) [e] [] pos) (.Tuple [.Name x p, .Name y q] kk r) (xs.zipIdx.map fun a => [.int (a.2 : Nat), g a.1]) := by
  have h1 := is_enum (x := x) (y := y) (p := p) (q := q) (r := r) (pf := pf) (pos := pos) (kk := kk) hA G nm h hes
  have : ((xs.map g).mapIdx fun i d => [D.int (i : Nat), d]) = xs.zipIdx.map fun a => [D.int (a.2 : Nat), g a.1] := by
    apply List.ext_getElem?
    intro i
    simp [List.getElem?_mapIdx]
    cases xs[i]? <;> simp
  rw [this] at h1; exact h1
theorem ia_zip {x y f : Str} {p q r pf pos : Pos} {kk : Nat} {e e' : Expr} (hA : A.handled = none) (G : Gd K g₀) (nm : GName K env f (.type "zip")) (h : EV prog w g₀ A H env c e (.list (xs.map g))) (h' : EV prog w g₀ A H env c e' (.list (ys.map g')))
    (hes : ∀ rest, starEach (e :: rest) env = (false, eval e env) :: starEach rest env := by intro _; rfl) (hes' : ∀ rest, starEach (e' :: rest) env = (false, eval e' env) :: starEach rest env := by intro _; rfl) :
    IS prog w g₀ A H env c (.Call (.Name f pf) [e, e'] [] pos) (.Tuple [.Name x p, .Name y q] kk r) ((xs.zip ys).map fun d => [g d.1, g' d.2]) := by
  have h1 := is_zip (x := x) (y := y) (p := p) (q := q) (r := r) (pf := pf) (pos := pos) (kk := kk) hA G nm h h' hes hes'
  have : (((xs.map g).zip (ys.map g')).map fun d => [d.1, d.2]) = (xs.zip ys).map fun d => [g d.1, g' d.2] := by
    rw [List.zip_map, List.map_map]; rfl
  rw [this] at h1; exact h1
theorem ia_rev {x f : Str} {p pf pos : Pos} {e : Expr} (hA : A.handled = none) (G : Gd K g₀) (nm : GName K env f (.type "reversed")) (h : EV prog w g₀ A H env c e (.list (xs.map g)))
    (hes : ∀ rest, starEach (e :: rest) env = (false, eval e env) :: starEach rest env := by intro _; rfl) :
    IS prog w g₀ A H env c (.Call (.Name f pf) [e] [] pos) (.Name x p) (xs.reverse.map fun a => [g a]) := by
  have h1 := is_rev (x := x) (p := p) (pf := pf) (pos := pos) hA G nm h hes
  rw [← List.map_reverse, List.map_map] at h1; exact h1
theorem ia_pairs {γ : Type} {zs : List γ} {g1 g2 : γ → D} {iter : Expr} {x y : Str} {p q r : Pos} {kk : Nat} (hA : A.handled = none) (h : EV prog w g₀ A H env c iter (.list (zs.map fun d => .tup [g1 d, g2 d]))) :
    IS prog w g₀ A H env c iter (.Tuple [.Name x p, .Name y q] kk r) (zs.map fun d => [g1 d, g2 d]) := by
  have h1 := is_pairs (x := x) (y := y) (p := p) (q := q) (r := r) (kk := kk) (l := zs.map fun d => (g1 d, g2 d)) hA (by rw [List.map_map]; exact h)
  rw [List.map_map] at h1; exact h1
end
end
end Mine
end
noncomputable section
open PySem PySem.W PyProof.Rows
namespace Mine
open PySem.Calls

noncomputable def srt (ns : List Int) : List Int := ns.mergeSort (fun a b => decide (a ≤ b))
theorem srt_perm (ns : List Int) : (srt ns).Perm ns := List.mergeSort_perm _ _
theorem srt_pw (ns : List Int) : (srt ns).Pairwise (· ≤ ·) := by
  have := List.pairwise_mergeSort (le := fun a b : Int => decide (a ≤ b)) (fun a b c h1 h2 => by simp at *; lia) (fun a b => by simp; lia) ns
  exact this.imp fun h => by simpa using h

section
variable {prog : Program} {w : World} {g₀ : Heap} {A : Around} {H H₀ X : List Addr} {env : Env} {c₀ c c' : Cf} {K : Frag} {ρ : List (Str × D)}
theorem intsAre_of : ∀ {ns : List Int} {vs : List Value}, RepL H c (ns.map .int) vs → IntsAre vs ns
  | [], vs, r => by rw [r.nil_inv]; exact .nil
  | n :: ns, vs, r => by
    obtain ⟨v, q, rfl, r1, r2⟩ := r.cons_inv
    obtain ⟨t, rfl⟩ := r1.int_inv
    exact .cons n t (intsAre_of r2)
theorem rep_intsAre {ns : List Int} {vs : List Value} (h : IntsAre vs ns) : RepL H c (ns.map .int) vs := by
  induction h with
  | nil => exact .nil
  | cons n t _ ih => exact .cons Rep.int ih
theorem fn_sorted {ns : List Int} (hl : ns.length < 64) : Fn prog w g₀ A (.builtin "sorted") [.list (ns.map .int)] (.list ((srt ns).map .int)) := fun H c vs so r => by
  obtain ⟨v, q, rfl, r1, r2⟩ := r.cons_inv
  obtain rfl := r2.nil_inv
  obtain ⟨a, vs, n, rfl, ha, ho, rr⟩ := r1.list_inv
  have hlen : vs.length = ns.length := by rw [rr.length]; simp
  refine PyProof.Rows.sorted_ints ⟨_, ho, rfl, n, rfl⟩ (intsAre_of rr) (by lia) fun out ns' h1 h2 h3 => ?_
  have e : ns' = srt ns := ksm_same (h2.trans (srt_perm ns).symm) h3 (srt_pw ns)
  subst e
  obtain ⟨k, hk⟩ := sortedAll_at c.s.heap vs out
  have kp : Kp c (c.put (sortedAll c.s.heap vs out) c.s.toks) := .of (fun b o e => sortedAll_old e) (Nat.le_refl _)
  refine ⟨_, rfl, kp, Rep.list (vs := out.toList) (n := k) (so.fresh (frees (Nat.le_succ _))) (by simpa using hk) (rep_intsAre h1)⟩

/-! sums -/
noncomputable def valAt (ns : List Int) (i : Nat) : Int := ns.getD i 0
theorem preSum_valAt (ns : List Int) : ∀ k, k ≤ ns.length → preSum (valAt ns) k = (ns.take k).sum
  | 0, _ => by simp [preSum]
  | k + 1, h => by
    have hlt : k < ns.length := h
    have e : ns.take (k + 1) = ns.take k ++ [ns[k]] := List.take_succ_eq_append_getElem hlt
    rw [preSum, preSum_valAt ns k (by lia), e, List.sum_append]
    simp [valAt, List.getElem?_eq_getElem hlt]
theorem fn_sum {ns : List Int} (hA : A.handled = none) : Fn prog w g₀ A (.builtin "sum") [.list (ns.map .int)] (.int ns.sum) := fun H c vs so r => by
  obtain ⟨v, q, rfl, r1, r2⟩ := r.cons_inv
  obtain rfl := r2.nil_inv
  obtain ⟨a, vs, n, rfl, ha, ho, rr⟩ := r1.list_inv
  have hlen : vs.length = ns.length := by rw [rr.length]; simp
  have hl : c.s.heap.IsList a vs.toArray := ⟨_, ho, rfl, n, rfl⟩
  refine wpAny_with_toks (n := c.s.toks) (Nat.le_refl _) (call_sum_walkG (wpAny_pyIter_list hl ?_))
  have hne : a ≠ c.s.heap.objs.size := fun q => by rw [q, get_size] at ho; cases ho
  refine ⟨_, _, _, _, _, _, valAt ns, rfl, Walks.list (A := A.in1) hA c.s.heap.objs.size a hne vs.toArray, ⟨⟨_, Heap.get?_push_size _ rfl, rfl, rfl⟩, hl.push _⟩, fun b hb => ?_, fun i v hv => ?_, fun h' tk t' hk htk => ?_⟩
  · rw [Heap.size_push]
    rcases List.mem_cons.mp hb with rfl | hb
    · exact Nat.lt_succ_self _
    · rw [List.mem_singleton.mp hb]; exact Nat.lt_succ_of_lt (Heap.lt_size ho)
  · obtain ⟨d, hd, rv⟩ := rr.get' (i := i) (v := v) (by simpa using hv)
    simp only [List.getElem?_map, Option.map_eq_some_iff] at hd
    obtain ⟨m, hm, rfl⟩ := hd
    obtain ⟨t, rfl⟩ := rv.int_inv
    exact ⟨t, by simp [valAt, hm]⟩
  · have e : preSum (valAt ns) vs.toArray.size = ns.sum := by
      rw [show vs.toArray.size = ns.length by simp [hlen], preSum_valAt ns _ (Nat.le_refl _), List.take_length]
    rw [e]
    refine Got.put (fun b o e => hk b o (fun q => ?_) (Heap.get?_push_of_some _ e)) htk Rep.int
    rw [List.mem_singleton.mp q, get_size] at e; cases e

/-- list(range(e)) -/
theorem ev_list_range {x y : Str} {p p2 pos pos2 : Pos} {e : Expr} {n : Nat} (hA : A.handled = none) (G : Gd K g₀) (nl : GName K env x (.type "list")) (nr : GName K env y (.type "range")) (hn : n ≤ 2 ^ 20) (h : EV prog w g₀ A H env c e (.int n))
    (hes : ∀ rest, starEach (e :: rest) env = (false, eval e env) :: starEach rest env := by intro _; rfl) (hes2 : ∀ rest, starEach (.Call (.Name y p2) [e] [] pos2 :: rest) env = (false, eval (.Call (.Name y p2) [e] [] pos2) env) :: starEach rest env := by intro _; rfl) :
    EV prog w g₀ A H env c (.Call (.Name x p) [.Call (.Name y p2) [e] [] pos2] [] pos) (.list ((List.range n).map fun (i : Nat) => .int (i : Int))) := fun c' k so => by
  refine Call_Name rfl (name_g G so nl ?_)
  refine PyProof.Rows.callWith_type1 ?_ (hes2 []) rfl
  refine wpAny_items_cons ?_ (hes2 [])
  refine call_gen G nr (.type _) k so (evs_cons h evs_nil hes) (fun c₁ vs k₁ so₁ r₁ => ?_) (hes []) rfl
  obtain ⟨v, q, rfl, rv, r'⟩ := r₁.cons_inv
  obtain rfl := r'.nil_inv
  obtain ⟨t, rfl⟩ := rv.int_inv
  refine call_range_1 (wpAny_items_nil ?_)
  have hR : IsRange (c₁.s.heap.push { cls := .type "range", data := .fields #[.int 0 c₁.s.toks, .int n t, .int 1 (c₁.s.toks + 1)] }) c₁.s.heap.objs.size 0 n 1 c₁.s.toks t (c₁.s.toks + 1) := Heap.get?_push_size _ rfl
  refine wpAny_with_toks (n := c₁.s.toks + 1 + 1) (Nat.le_refl _) (call_list_range (n := n) hA hR (range_small (by lia) (by lia)) (by rw [rangeSize_nat]; simp) (by lia) fun h' tk acc c₂ hk hl hi htk => ?_)
  have k₂ : Kp c₁ (c₁.put h' tk) := .of (fun b o e => hk b o (Heap.get?_push_of_some _ e)) (by have : c₁.s.toks + 1 + 1 ≤ tk := htk; lia)
  refine Got.after k₁ ⟨_, rfl, k₂, Rep.list (vs := acc.toList) (n := c₂) (so₁.fresh (frees (by rw [Heap.size_push]; exact Nat.le_succ _))) (by simpa using hl) ?_⟩
  refine RepL.of (by simp [hi.1]) fun i d v e1 e2 => ?_
  simp only [List.getElem?_map, Option.map_eq_some_iff] at e1
  obtain ⟨j, hj, rfl⟩ := e1
  have : j = i := by obtain ⟨h1, e1⟩ := List.getElem?_eq_some_iff.mp hj; rw [← e1, List.getElem_range]
  subst this
  obtain ⟨t', rfl⟩ := hi.2 _ _ (by simpa using e2)
  have : (0 : Int) + j * 1 = j := by lia
  rw [this]
  exact Rep.int

theorem gnB {x : Str} {v : Value} (h1 : env.scope.kind = .function := by rfl) (h2 : env.kindOf x = some .globalImplicit := by rfl) (h3 : env.globals = mainGlobals := by rfl) (h4 : env.builtins = builtinsNs := by rfl) (h5 : (x == ("__debug__" : Str)) = false := by rfl)
    (h6 : nsIn K mainGlobals x = some none := by rfl) (h7 : bootBuiltins x = some v := by rfl) (h8 : (x == ("__name__" : Str)) = false := by rfl) : GName K env x v := ⟨h1, h2, h3, h4, h5, .inr ⟨h6, h7, ne_of_beq_false h8⟩⟩
theorem gnF {x : Str} {v : Value} (h1 : env.scope.kind = .function := by rfl) (h2 : env.kindOf x = some .globalImplicit := by rfl) (h3 : env.globals = mainGlobals := by rfl) (h4 : env.builtins = builtinsNs := by rfl) (h5 : (x == ("__debug__" : Str)) = false := by rfl)
    (h6 : nsIn K mainGlobals x = some (some v) := by rfl) : GName K env x v := ⟨h1, h2, h3, h4, h5, .inl h6⟩
/-- a call of a builtin by name -/
theorem ev_cb {x : Str} {p pos : Pos} {e : Expr} {es : List Expr} {id : String} {ds : List D} {d : D} (G : Gd K g₀) (n : GName K env x (.builtin id)) (h : EVs prog w g₀ A H env c (e :: es) ds) (hf : Fn prog w g₀ A (.builtin id) ds d)
    (he : starEach (e :: es) env = (false, eval e env) :: starEach es env := by rfl) (hplain : (backTo pos (starEach es env)).any (·.1) = false := by rfl) : EV prog w g₀ A H env c (.Call (.Name x p) (e :: es) [] pos) d :=
  ev_call G n (.builtin _) h hf he hplain
theorem ev_ct {x : Str} {p pos : Pos} {e : Expr} {es : List Expr} {id : String} {ds : List D} {d : D} (G : Gd K g₀) (n : GName K env x (.type id)) (h : EVs prog w g₀ A H env c (e :: es) ds) (hf : Fn prog w g₀ A (.type id) ds d)
    (he : starEach (e :: es) env = (false, eval e env) :: starEach es env := by rfl) (hplain : (backTo pos (starEach es env)).any (·.1) = false := by rfl) : EV prog w g₀ A H env c (.Call (.Name x p) (e :: es) [] pos) d :=
  ev_call G n (.type _) h hf he hplain
theorem ev_cf {x : Str} {p pos : Pos} {e : Expr} {es : List Expr} {f : Addr} {ds : List D} {d : D} (G : Gd K g₀) (n : GName K env x (.ref f)) (h : EVs prog w g₀ A H env c (e :: es) ds) (hf : Fn prog w g₀ A (.ref f) ds d) (hk : keepIn K (.ref f) = true := by rfl)
    (he : starEach (e :: es) env = (false, eval e env) :: starEach es env := by rfl) (hplain : (backTo pos (starEach es env)).any (·.1) = false := by rfl) : EV prog w g₀ A H env c (.Call (.Name x p) (e :: es) [] pos) d :=
  ev_call G n (.ref hk) h hf he hplain
section
variable {α γ : Type} {xs : List α} {it : α → List D} {q : α → Bool} {names : List Str} {elt target iter : Expr} {scope : Scope} {ifs : List Expr}
theorem ev_mapC {pos : Pos} (k : γ → D) (g : α → γ) (fr : List Str) (V : Vars H env c ρ) (so₀ : SOk g₀ H c) (T : Tgt target names) (hA : A.handled = none) (hI : IS prog w g₀ A H env c iter target (xs.map it)) (hsz : xs.length ≤ 1000) (hds : ∀ a, (it a).length = names.length)
    (hbody : ∀ a ∈ xs, ∀ H' C c₁, SOk g₀ H' c₁ → Vars H' (cEnv env scope C) c₁ (inVars names (it a) fr ρ) → EV prog w g₀ A H' (cEnv env scope C) c₁ elt (k (g a)))
    (hc : cchk env scope names fr = true := by rfl) (nd : names.Nodup := by decide) (hs : ∀ x, foldedSetIterable iter env x = pure x := by intro _; rfl) (hkind : scope.kind = .function := by rfl) :
    EV prog w g₀ A H env c (.ListComp elt [⟨target, iter, [], 0⟩] scope pos) (.list ((xs.map g).map k)) :=
  EV.cast (ev_map (f := fun a => k (g a)) fr V so₀ T hA hI (Nat.le_trans hsz (by rw [sizeLine_eq]; decide)) hds hbody hc nd hs hkind) (by rw [List.map_map]; rfl)
theorem sx_mapC {y : Str} {py cpos pos : Pos} {rest : List Stmt} {Q : Flow → Shared → Prop} (k : γ → D) (g : α → γ) (fr : List Str)
    (F : Frm g₀ H₀ X env c₀ c) (V : Vars (X ++ H₀) env c ρ) (T : Tgt target names) (hA : A.handled = none) (hI : IS prog w g₀ A (X ++ H₀) env c iter target (xs.map it)) (hsz : xs.length ≤ 1000) (hds : ∀ a, (it a).length = names.length)
    (hbody : ∀ a ∈ xs, ∀ H' C c₁, SOk g₀ H' c₁ → Vars H' (cEnv env scope C) c₁ (inVars names (it a) fr ρ) → EV prog w g₀ A H' (cEnv env scope C) c₁ elt (k (g a)))
    (hn : ∀ c', Stp env [y] c c' → Frm g₀ H₀ X env c₀ c' → Vars (X ++ H₀) env c' ((y, .list ((xs.map g).map k)) :: ρ) → SX prog w A env rest Q c')
    (hy : env.kindOf y = some .local := by rfl) (hyc : env.cells.lookup y = none := by rfl)
    (hsw : swapsWith (.ListComp elt [⟨target, iter, [], 0⟩] scope cpos) (some (.Name y py)) pos.line env = pure true := by rfl)
    (hc : cchk env scope names fr = true := by rfl) (nd : names.Nodup := by decide) (hs : ∀ x, foldedSetIterable iter env x = pure x := by intro _; rfl) (hkind : scope.kind = .function := by rfl) :
    SX prog w A env (.Assign [.Name y py] (.ListComp elt [⟨target, iter, [], 0⟩] scope cpos) pos :: rest) Q c :=
  sx_map (f := fun a => k (g a)) fr F V T hA hI (Nat.le_trans hsz (by rw [sizeLine_eq]; decide)) hds hbody (fun c' S F' V' => hn c' S F' (by rw [List.map_map]; exact V')) hy hyc hsw hc nd hs hkind
end
end
end Mine
end
noncomputable section
open PySem PySem.W PyProof.Rows
namespace Mine
open PySem.Calls

section
variable {prog : Program} {w : World} {g₀ : Heap} {A : Around} {H H₀ X : List Addr} {env : Env} {c₀ c c' : Cf} {K : Frag} {ρ : List (Str × D)}

/-! joins -/
noncomputable def pickN (ρ : List (Str × D)) : List (Str × D) → List (Str × D)
  | [] => []
  | (x, _) :: r => (match ρ.lookup x with | some d => [(x, d)] | none => []) ++ pickN ρ r
noncomputable def Has (ρ r : List (Str × D)) : Prop := pickN ρ r = r
theorem pick_get {x : Str} {d : D} {r : List (Str × D)} (q : (pickN ρ r).lookup x = some d) : ρ.lookup x = some d := by
  induction r with
  | nil => cases q
  | cons p r ih =>
    obtain ⟨y, e⟩ := p
    rw [pickN] at q
    cases h : ρ.lookup y with
    | none => rw [h] at q; exact ih q
    | some d' =>
      rw [h, List.cons_append, List.lookup_cons] at q
      cases hx : x == y with
      | true => rw [hx] at q; cases q; rw [eq_of_beq hx]; exact h
      | false => rw [hx] at q; exact ih q
theorem Has.get {x : Str} {d : D} {r : List (Str × D)} (h : Has ρ r) (q : r.lookup x = some d) : ρ.lookup x = some d := pick_get (r := r) (h.symm ▸ q)
theorem has_cons {x : Str} {d : D} {r : List (Str × D)} (e : ρ.lookup x = some d) (h : Has ρ r) : Has ρ ((x, d) :: r) := by
  unfold Has; rw [pickN, e, h]; rfl
theorem Vars.has {r : List (Str × D)} (V : Vars H env c ρ) (h : Has ρ r) : Vars H env c r := fun x d e => V x d (h.get e)
/-- where a branch ends -/
inductive Jn (g₀ : Heap) (H₀ X : List Addr) (env : Env) (c₀ : Cf) (ρ : List (Str × D)) (f : Flow) (s' : Shared) : Prop
  | mk (ef : f = .next) (c' : Cf) (es : c'.s = s') (F : Frm g₀ H₀ X env c₀ c') (V : Vars (X ++ H₀) env c' ρ)
theorem sx_jn {r : List (Str × D)} (F : Frm g₀ H₀ X env c₀ c) (V : Vars (X ++ H₀) env c ρ) (h : Has ρ r) : SX prog w A env [] (Jn g₀ H₀ X env c₀ r) c := sx_nil ⟨rfl, c, rfl, F, V.has h⟩
theorem sx_ifj {test : Expr} {body orelse rest : List Stmt} {pos : Pos} {b : Bool} {Q : Flow → Shared → Prop} (r : List (Str × D)) (F : Frm g₀ H₀ X env c₀ c) (V : Vars (X ++ H₀) env c ρ) (h : TV prog w g₀ A (X ++ H₀) env c test b)
    (h1 : b = true → ∀ c', Frm g₀ H₀ X env c₀ c' → Vars (X ++ H₀) env c' ρ → SX prog w A env body (Jn g₀ H₀ X env c₀ r) c')
    (h2 : b = false → ∀ c', Frm g₀ H₀ X env c₀ c' → Vars (X ++ H₀) env c' ρ → SX prog w A env orelse (Jn g₀ H₀ X env c₀ r) c')
    (hn : ∀ c', Frm g₀ H₀ X env c₀ c' → Vars (X ++ H₀) env c' r → SX prog w A env rest Q c') : SX prog w A env (.If test body orelse pos :: rest) Q c := by
  have fin : ∀ f s', Jn g₀ H₀ X env c₀ r f s' → Aft prog w A env rest Q f s' := by
    rintro f s' ⟨rfl, c', rfl, F', V'⟩
    exact hn c' F' V'
  exact sx_if F V h (fun e c' k F' V' => ne_mono (h1 e c' F' V') fin) (fun e c' k F' V' => ne_mono (h2 e c' F' V') fin)

/-! a list of the frame's own -/
structure Own (H₀ X : List Addr) (env : Env) (c : Cf) (x : Str) (D : Addr) (l : List Mine.D) : Prop where
  look : LookAt env c.heap x (.ref D)
  mem : D ∈ X
  nl : D ≠ env.locals
  nc : ∀ y, env.cells.lookup y ≠ some D
  at' : ∃ vs n, c.heap.get? D = some { cls := .type "list", data := .seq vs.toArray n } ∧ RepL (X ++ H₀) c l vs
theorem Own.stp {x : Str} {D : Addr} {l : List Mine.D} {xs : List Str} (O : Own H₀ X env c x D l) (F : Frm g₀ H₀ X env c₀ c) (S : Stp env xs c c') (hx : x ∉ xs) : Own H₀ X env c' x D l := by
  obtain ⟨vs, n, e, r⟩ := O.at'
  exact ⟨S.look x _ hx O.look, O.mem, O.nl, O.nc, vs, n, S.obj D _ (F.nm D O.mem) O.nl (fun y _ => O.nc y) e, r.kx F.so S.kx (F.sh _)⟩
theorem Own.kp {x : Str} {D : Addr} {l : List Mine.D} (O : Own H₀ X env c x D l) (F : Frm g₀ H₀ X env c₀ c) (k : Kp c c') : Own H₀ X env c' x D l := by
  obtain ⟨vs, n, e, r⟩ := O.at'
  exact ⟨O.look.keep fun b o hb e => k.keep hb e, O.mem, O.nl, O.nc, vs, n, k.keep (F.nm D O.mem) e, r.kp F.so k⟩
/-- a fresh object becomes the frame's own -/
theorem Frm.grow {D : Addr} (F : Frm g₀ H₀ X env c₀ c) (k : Kp c c') (hk : ∀ b o, c.heap.get? b = some o → c'.heap.get? b = some o) (hD : c.heap.get? D = none) (hD' : ∃ o, c'.heap.get? D = some o) : Frm g₀ H₀ (D :: X) env c₀ c' := by
  have F' := F.kp k
  have n₀ : c₀.heap.get? D = none := by
    cases e : c₀.heap.get? D with
    | none => rfl
    | some o => obtain ⟨o', e'⟩ := F.k.al D ⟨o, e⟩; rw [hD] at e'; cases e'
  have t : ∀ Y, TabOk Y c.heap → TabOk (D :: Y) c'.heap := fun Y t => t.move (fun b _ o e => hk b o e) (fun b o _ e => hk b o e) fun b hb => (List.mem_cons.mp hb).elim (fun q => .inr (q ▸ hD)) .inl
  refine ⟨F.kind, F.so₀, F'.k, ⟨fun b hb => ?_, fun b hb => List.mem_cons_of_mem _ (F.so.mt b hb), F.so.gm, F'.so.base, t _ F.so.tab, F'.so.pos, F'.so.nb⟩, fun b hb => ?_, fun Hx hl q => t _ (F.tab Hx hl q), List.mem_cons_of_mem _ F.L, fun x hx => ?_, F.apart, F'.ns, F'.cal, F.cM⟩
  · rcases List.mem_cons.mp hb with rfl | hb
    · exact hD'
    · exact F'.so.low b hb
  · rcases List.mem_cons.mp hb with rfl | hb
    · exact n₀
    · exact F.new b hb
  · obtain ⟨a, ov, h1, h2, h3⟩ := F'.own x hx
    exact ⟨a, ov, h1, List.mem_cons_of_mem _ h2, h3⟩
theorem Vars.grow {D : Addr} (V : Vars (X ++ H₀) env c ρ) (F : Frm g₀ H₀ X env c₀ c) (k : Kp c c') (hD : c.heap.get? D = none) : Vars ((D :: X) ++ H₀) env c' ρ := fun x d e => by
  obtain ⟨v, l, r⟩ := V x d e
  exact ⟨v, l.keep fun b o hb e => k.keep hb e, r.move (k.cm F.so.mt fun _ q => by cases q) fun b hb => (List.mem_cons.mp hb).elim (fun q => .inr (q ▸ hD)) .inl⟩
theorem lookup_filter {x y : Str} {d : D} : ∀ {ρ : List (Str × D)}, (ρ.filter fun q => q.1 != x).lookup y = some d → y ≠ x ∧ ρ.lookup y = some d
  | [], h => by simp at h
  | (z, e) :: r, h => by
    rw [List.filter_cons] at h
    split at h
    · rename_i hz
      rw [List.lookup_cons] at h ⊢
      cases hy : y == z with
      | true => rw [hy] at h; cases h; refine ⟨fun q => ?_, rfl⟩; rw [eq_of_beq hy] at q; simp [q] at hz
      | false => rw [hy] at h; exact lookup_filter h
    · rename_i hz
      obtain ⟨h1, h2⟩ := lookup_filter h
      refine ⟨h1, ?_⟩
      rw [List.lookup_cons]
      cases hy : y == z with
      | true => exfalso; rw [eq_of_beq hy] at h1; simp at hz; exact h1 hz
      | false => exact h2
/-- x = [] -/
theorem sx_own {x : Str} {p lp pos : Pos} {rest : List Stmt} {Q : Flow → Shared → Prop} (F : Frm g₀ H₀ X env c₀ c) (V : Vars (X ++ H₀) env c ρ)
    (hn : ∀ D c', Frm g₀ H₀ (D :: X) env c₀ c' → Vars ((D :: X) ++ H₀) env c' (ρ.filter fun q => q.1 != x) → Own H₀ (D :: X) env c' x D [] → SX prog w A env rest Q c')
    (hx : env.kindOf x = some .local := by rfl) (hs : swapsWith (.List [] lp) (some (.Name x p)) pos.line env = pure false := by rfl) : SX prog w A env (.Assign [.Name x p] (.List [] lp) pos :: rest) Q c := by
  refine sx_cons (wpAny_Assign_Name (wpAny_List (wpAny_items_nil ⟨by simp, ?_⟩)) hs)
  have hk : ∀ b o, c.heap.get? b = some o → (c.heap.push { cls := .type "list", data := .seq (#[] : Array Value) }).get? b = some o := fun b o e => Heap.get?_push_of_some _ e
  have k : Kp c (c.put (c.heap.push { cls := .type "list", data := .seq (#[] : Array Value) }) c.s.toks) := .of hk (Nat.le_refl _)
  have e₁ : (c.heap.push { cls := .type "list", data := .seq (#[] : Array Value) }).get? c.heap.objs.size = some { cls := .type "list", data := .seq ([] : List Value).toArray 0 } := Heap.get?_push_size _ rfl
  have F₁ := F.grow (c' := c.put (c.heap.push { cls := .type "list", data := .seq (#[] : Array Value) }) c.s.toks) k hk (get_size _) ⟨_, e₁⟩
  have V₁ := V.grow F k (get_size c.heap)
  show wpAny _ _ _ _ _ (c.put (c.heap.push { cls := .type "list", data := .seq (#[] : Array Value) }) c.s.toks).s
  refine store_raw F₁ (.inl hx) fun c₂ S F₂ l => ?_
  have nl : c.heap.objs.size ≠ env.locals := fun q => by obtain ⟨m, o, _, _, e, _⟩ := F.ns; rw [← q, get_size] at e; cases e
  have nc : ∀ y, env.cells.lookup y ≠ some c.heap.objs.size := fun y q => by
    obtain ⟨o, e⟩ := F.cal y _ q; rw [get_size] at e; cases e
  refine hn _ c₂ F₂ (fun y d e => ?_) ⟨l, List.mem_cons_self, nl, nc, [], 0, S.obj _ _ (F₁.nm _ List.mem_cons_self) nl (fun y _ => nc y) e₁, .nil⟩
  obtain ⟨h1, h2⟩ := lookup_filter e
  obtain ⟨v, l', r⟩ := V₁ y d h2
  exact ⟨v, S.look y v (fun q => h1 (List.mem_singleton.mp q)) l', r.kx F₁.so S.kx (F₁.sh _)⟩
end
end Mine
end
noncomputable section
open PySem PySem.W PyProof.Rows
namespace Mine
open PySem.Calls

section
variable {prog : Program} {w : World} {g₀ : Heap} {A : Around} {H H₀ X : List Addr} {env : Env} {c₀ c c' : Cf} {K : Frag} {ρ : List (Str × D)}
theorem look_seq {C : Addr} {h h'' : Heap} {o : Obj} {its : Array Value} {n : Nat} (hC : h.get? C = some o) (hd : o.data = .seq its n) (hs : ∀ b o, b ≠ C → h.get? b = some o → h''.get? b = some o) {x : Str} {v : Value} (l : LookAt env h x v) : LookAt env h'' x v := by
  obtain ⟨k, l⟩ := l
  refine ⟨k, ?_⟩
  rcases l with ⟨e, hM, m', ⟨o', es, ep, e', hd', r⟩, hx⟩ | ⟨e, a, ha, hM, ⟨o', ho, hd'⟩⟩
  · refine .inl ⟨e, hM, m', ⟨o', es, ep, hs _ o' (fun q => ?_) e', hd', r⟩, hx⟩
    rw [q, hC] at e'; cases e'; rw [hd] at hd'; cases hd'
  · refine .inr ⟨e, a, ha, hM, o', hs a o' (fun q => ?_) ho, hd'⟩
    rw [q, hC] at ho; cases ho; rw [hd] at hd'; cases hd'
/-- what a change of the frame's own things leaves -/
noncomputable def mine (env : Env) (D : Addr) : List Addr := D :: slots env (env.scope.names.map (·.1))
theorem slots_all {xs : List Str} : ∀ b ∈ slots env xs, b ∈ slots env (env.scope.names.map (·.1)) := fun b hb => by
  rcases slots_mem hb with rfl | ⟨x, hx, hk, e⟩
  · exact List.mem_cons_self
  · exact slots_cell (List.mem_map_of_mem (f := (·.1)) (mem_of_lookup_some hk)) hk e
theorem Stp.mine {xs : List Str} {D : Addr} (S : Stp env xs c c') : Kx (mine env D) c c' := S.kx.mono fun b hb => List.mem_cons_of_mem _ (slots_all b hb)
/-- the own list is changed -/
theorem own_set {x : Str} {D : Addr} {l l' : List Mine.D} {h' : Heap} {vs' : List Value} {n' : Nat} (F : Frm g₀ H₀ X env c₀ c) (V : Vars (X ++ H₀) env c ρ) (O : Own H₀ X env c x D l)
    (hk : ∀ b o, b ≠ D → c.heap.get? b = some o → h'.get? b = some o) (hD : h'.get? D = some { cls := .type "list", data := .seq vs'.toArray n' }) (r : RepL (X ++ H₀) c l' vs') :
    Kx [D] c (c.put h' c.s.toks) ∧ Frm g₀ H₀ X env c₀ (c.put h' c.s.toks) ∧ Vars (X ++ H₀) env (c.put h' c.s.toks) ρ ∧ Own H₀ X env (c.put h' c.s.toks) x D l' := by
  obtain ⟨vs, n, e, r0⟩ := O.at'
  have k : Kx [D] c (c.put h' c.s.toks) := Kx.put (fun b o hb e => hk b o (fun q => hb (by rw [q]; exact List.mem_cons_self)) e) (fun b hb => by rw [List.mem_singleton.mp hb]; exact F.nm D O.mem) (fun b hb => by rw [List.mem_singleton.mp hb]; exact ⟨_, hD⟩) (Nat.le_refl _)
  have kX : Kx X c (c.put h' c.s.toks) := k.mono fun b hb => by rw [List.mem_singleton.mp hb]; exact O.mem
  have hs : ∀ b ∈ [D], b ∈ X ++ H₀ := fun b hb => by rw [List.mem_singleton.mp hb]; exact List.mem_append_left _ O.mem
  have lk : ∀ {y v}, LookAt env c.heap y v → LookAt env h' y v := fun l => look_seq e rfl hk l
  refine ⟨k, F.kx kX ?_ fun y a hy ha => ?_, fun y d q => ?_, lk O.look, O.mem, O.nl, O.nc, vs', n', hD, r.kx F.so k hs⟩
  · obtain ⟨m, hm⟩ := F.ns; exact ⟨m, ns_keep hm fun o e => hk _ o (Ne.symm O.nl) e⟩
  · obtain ⟨a', ov, h1, _, h3⟩ := F.own y hy
    rw [ha] at h1; cases h1
    exact ⟨ov, cell_keep h3 fun o e => hk a o (fun q => O.nc y (q ▸ ha)) e⟩
  · obtain ⟨v, l, rr⟩ := V y d q
    exact ⟨v, lk l, rr.kx F.so k hs⟩

/-- a call of a method of the own list, as a statement -/
theorem sx_meth {x name : Str} {id : String} {D : Addr} {l l' : List Mine.D} {es : List Expr} {ds : List Mine.D} {p ap cp pos : Pos} {rest : List Stmt} {Q : Flow → Shared → Prop} (F : Frm g₀ H₀ X env c₀ c) (V : Vars (X ++ H₀) env c ρ) (O : Own H₀ X env c x D l)
    (slot : Slot "list" name id) (hty : typeOf (.builtin id) = pure (.type "method_descriptor"))
    (hes : wpAny (model prog w) A (evalArgs (.builtin id) true (backTo cp (starEach es env)) []) (fun a s₁ => ∃ c₁ vs, a = ⟨vs, []⟩ ∧ c₁.s = s₁ ∧ Kp c c₁ ∧ RepL (X ++ H₀) c₁ ds vs) NE c.s)
    (hcall : ∀ c₁ vs ws n, Frm g₀ H₀ X env c₀ c₁ → RepL (X ++ H₀) c₁ ds vs → c₁.heap.get? D = some { cls := .type "list", data := .seq ws.toArray n } → RepL (X ++ H₀) c₁ l ws →
      ∀ (Q' : Value → Shared → Prop), (∀ h' ws' n', (∀ b o, b ≠ D → c₁.heap.get? b = some o → h'.get? b = some o) → h'.get? D = some { cls := .type "list", data := .seq ws'.toArray n' } → RepL (X ++ H₀) c₁ l' ws' → Q' .none { c₁.s with heap := h' }) →
      wpAny (model prog w) A (call (.builtin id) (.ref D :: vs)) Q' NE c₁.s)
    (hn : ∀ c', Kx [D] c c' → Frm g₀ H₀ X env c₀ c' → Vars (X ++ H₀) env c' ρ → Own H₀ X env c' x D l' → SX prog w A env rest Q c')
    (hbase : attributeBase (.Name x p) name env (eval (.Name x p) env) = eval (.Name x p) env := by rfl)
    (hfew : ((backTo cp (starEach es env)).all (fun x => !x.1) && (backToKw cp (keywordEach [] env)).all (fun x => x.1.isSome)
      && decide (es.length + ([] : List Keyword).length + (if ([] : List Keyword).isEmpty then 0 else 1) < 30)) = true := by rfl)
    (hline : (ap.endLine == cp.line) = true := by rfl) (hpl : (backTo cp (starEach es env)).any (·.1) = false := by rfl)
    (hi : interactive env = false := by rfl) (hs : swapsWith (.Call (.Attribute (.Name x p) name ap) es [] cp) none pos.line env = pure false := by rfl) (hdbg : (x == ("__debug__" : Str)) = false := by rfl) (hcd : (x == ("__classdict__" : Str)) = false := by rfl) :
    SX prog w A env (.Expr (.Call (.Attribute (.Name x p) name ap) es [] cp) pos :: rest) Q c := by
  refine sx_cons (wpAny_Expr (wpAny_Call_method hbase hfew hline PySem.F.plainAttrs_list slot hty (wpAny_Name (loadName_at O.look ?_ hcd) hdbg)) hi hs)
  obtain ⟨vs, n, e, r⟩ := O.at'
  refine ⟨⟨_, e, rfl⟩, fun a q => by cases q; exact ⟨_, e, rfl⟩, ?_⟩
  refine Calls.callWith_builtin hpl (ne_mono hes fun a s₁ h => ?_)
  obtain ⟨c₁, us, rfl, rfl, k₁, r₁⟩ := h
  have F₁ := F.kp k₁
  have O₁ := O.kp F k₁
  have V₁ := V.kp F.so k₁
  obtain ⟨vs₁, n₁, e₁, r₁'⟩ := O₁.at'
  refine hcall c₁ us vs₁ n₁ F₁ r₁ e₁ r₁' _ fun h' ws' n' hk hD hr => ?_
  obtain ⟨k2, F2, V2, O2⟩ := own_set F₁ V₁ O₁ hk hD hr
  exact hn _ ((k₁.mono fun _ q => by cases q).trans k2) F2 V2 O2

theorem sx_append {x : Str} {D : Addr} {l : List Mine.D} {e : Expr} {d : Mine.D} {p ap cp pos : Pos} {rest : List Stmt} {Q : Flow → Shared → Prop} (F : Frm g₀ H₀ X env c₀ c) (V : Vars (X ++ H₀) env c ρ) (O : Own H₀ X env c x D l) (hl : l.length ≤ 1000)
    (hes : EV prog w g₀ A (X ++ H₀) env c e d) (hn : ∀ c', Kx [D] c c' → Frm g₀ H₀ X env c₀ c' → Vars (X ++ H₀) env c' ρ → Own H₀ X env c' x D (l ++ [d]) → SX prog w A env rest Q c')
    (hst : ∀ rest, starEach (e :: rest) env = (false, eval e env) :: starEach rest env := by intro _; rfl)
    (hbase : attributeBase (.Name x p) "append" env (eval (.Name x p) env) = eval (.Name x p) env := by rfl) (hline : (ap.endLine == cp.line) = true := by rfl)
    (hi : interactive env = false := by rfl) (hs : swapsWith (.Call (.Attribute (.Name x p) "append" ap) [e] [] cp) none pos.line env = pure false := by rfl) (hdbg : (x == ("__debug__" : Str)) = false := by rfl) (hcd : (x == ("__classdict__" : Str)) = false := by rfl) :
    SX prog w A env (.Expr (.Call (.Attribute (.Name x p) "append" ap) [e] [] cp) pos :: rest) Q c := by
  refine sx_meth F V O slot_list_append type_list_append (by have h := evs_cons hes evs_nil hst c cp (.refl _) F.so; rw [hst []] at h ⊢; exact Calls.evalArgs_plain (ne_mono h fun vs s₁ ⟨c₁, e, k, r⟩ => ⟨c₁, vs, rfl, e, k, r⟩)) (fun c₁ vs ws n F₁ r₁ e₁ r₂ Q' hq => ?_) hn hbase (by rw [hst []]; rfl) hline (by rw [hst []]; rfl) hi hs hdbg hcd
  obtain ⟨v, q, rfl, r3, r4⟩ := r₁.cons_inv
  obtain rfl := r4.nil_inv
  refine wpAny_list_append_plain (items := ws.toArray) ⟨n, e₁⟩ (fun h' ⟨n', hl'⟩ hs' => ?_) (by have := r₂.length; rw [sizeLine_eq]; simp; lia)
  exact hq h' (ws ++ [v]) n' (fun b o hb e => hs'.extBut b o hb e) (by simpa using hl') (r₂.append (.cons r3 .nil))
theorem sx_extend {x : Str} {D : Addr} {l l2 : List Mine.D} {e : Expr} {p ap cp pos : Pos} {rest : List Stmt} {Q : Flow → Shared → Prop} (F : Frm g₀ H₀ X env c₀ c) (V : Vars (X ++ H₀) env c ρ) (O : Own H₀ X env c x D l) (hl : l.length + l2.length ≤ 1000)
    (hes : EV prog w g₀ A (X ++ H₀) env c e (.list l2)) (hn : ∀ c', Kx [D] c c' → Frm g₀ H₀ X env c₀ c' → Vars (X ++ H₀) env c' ρ → Own H₀ X env c' x D (l ++ l2) → SX prog w A env rest Q c')
    (hst : ∀ rest, starEach (e :: rest) env = (false, eval e env) :: starEach rest env := by intro _; rfl)
    (hbase : attributeBase (.Name x p) "extend" env (eval (.Name x p) env) = eval (.Name x p) env := by rfl) (hline : (ap.endLine == cp.line) = true := by rfl)
    (hi : interactive env = false := by rfl) (hs : swapsWith (.Call (.Attribute (.Name x p) "extend" ap) [e] [] cp) none pos.line env = pure false := by rfl) (hdbg : (x == ("__debug__" : Str)) = false := by rfl) (hcd : (x == ("__classdict__" : Str)) = false := by rfl) :
    SX prog w A env (.Expr (.Call (.Attribute (.Name x p) "extend" ap) [e] [] cp) pos :: rest) Q c := by
  refine sx_meth F V O PySem.F.slot_list_extend PySem.F.type_list_extend (by have h := evs_cons hes evs_nil hst c cp (.refl _) F.so; rw [hst []] at h ⊢; exact Calls.evalArgs_plain (ne_mono h fun vs s₁ ⟨c₁, e, k, r⟩ => ⟨c₁, vs, rfl, e, k, r⟩)) (fun c₁ vs ws n F₁ r₁ e₁ r₂ Q' hq => ?_) hn hbase (by rw [hst []]; rfl) hline (by rw [hst []]; rfl) hi hs hdbg hcd
  obtain ⟨v, q, rfl, r3, r4⟩ := r₁.cons_inv
  obtain rfl := r4.nil_inv
  obtain ⟨a, us, m, rfl, ha, ho, rr⟩ := r3.list_inv
  have h1 := r₂.length
  have h2 := rr.length
  obtain ⟨k, e2⟩ : ∃ k, (c₁.heap.update D (Obj.mapSeq fun x => x ++ us.toArray)).get? D = some { cls := .type "list", data := .seq (ws ++ us).toArray k } := by
    have h := get?_update_seq (n := n) (c := "list") e₁ (fun x => x ++ us.toArray)
    rw [show ws.toArray ++ us.toArray = (ws ++ us).toArray by simp] at h
    exact ⟨_, h⟩
  refine call_meets PySem.F.slot_list_extend ⟨_, e₁, rfl⟩ PySem.F.entry_list_extend (PySem.F.args_list_extend_2 _ _) (PySem.AutoSeq1.list_extend_list_list_0 D ws.toArray n a us.toArray m ?_ ?_ ?_) ⟨e₁, ho, hq _ (ws ++ us) _ (fun b o hb e => (Heap.get?_update_other _ _ (Ne.symm hb)).trans e) e2 (r₂.append rr)⟩
  · simp [Builtin.List.listTooLong, sizeLine]; lia
  · rw [sizeLine_eq]; simp; lia
  · rw [sizeLine_eq]; simp; lia
theorem sx_reverse {x : Str} {D : Addr} {l : List Mine.D} {p ap cp pos : Pos} {rest : List Stmt} {Q : Flow → Shared → Prop} (F : Frm g₀ H₀ X env c₀ c) (V : Vars (X ++ H₀) env c ρ) (O : Own H₀ X env c x D l) (hl : l.length ≤ 1000)
    (hn : ∀ c', Kx [D] c c' → Frm g₀ H₀ X env c₀ c' → Vars (X ++ H₀) env c' ρ → Own H₀ X env c' x D l.reverse → SX prog w A env rest Q c')
    (hbase : attributeBase (.Name x p) "reverse" env (eval (.Name x p) env) = eval (.Name x p) env := by rfl) (hline : (ap.endLine == cp.line) = true := by rfl)
    (hi : interactive env = false := by rfl) (hs : swapsWith (.Call (.Attribute (.Name x p) "reverse" ap) [] [] cp) none pos.line env = pure false := by rfl) (hdbg : (x == ("__debug__" : Str)) = false := by rfl) (hcd : (x == ("__classdict__" : Str)) = false := by rfl) :
    SX prog w A env (.Expr (.Call (.Attribute (.Name x p) "reverse" ap) [] [] cp) pos :: rest) Q c := by
  refine sx_meth F V O PySem.F.slot_list_reverse PySem.F.type_list_reverse (PySem.evalArgs_none ⟨c, [], rfl, rfl, .refl _, .nil⟩) (fun c₁ vs ws n F₁ r₁ e₁ r₂ Q' hq => ?_) hn hbase rfl hline rfl hi hs hdbg hcd
  obtain rfl := r₁.nil_inv
  have h1 := r₂.length
  obtain ⟨k, e2⟩ : ∃ k, (c₁.heap.update D (Obj.mapSeq fun x => x.reverse)).get? D = some { cls := .type "list", data := .seq ws.reverse.toArray k } := by
    have h := get?_update_seq (n := n) (c := "list") e₁ (fun x => x.reverse)
    rw [show ws.toArray.reverse = ws.reverse.toArray by simp] at h
    exact ⟨_, h⟩
  refine call_meets PySem.F.slot_list_reverse ⟨_, e₁, rfl⟩ PySem.F.entry_list_reverse (PySem.F.args_list_reverse_1 _) (PySem.AutoSeq1.list_reverse_list_0 D ws.toArray n ?_) ⟨e₁, hq _ ws.reverse _ (fun b o hb e => (Heap.get?_update_other _ _ (Ne.symm hb)).trans e) e2 r₂.reverse⟩
  · rw [sizeLine_eq]; simp; lia
end
end Mine
end
noncomputable section
open PySem PySem.W PyProof.Rows
namespace Mine
open PySem.Calls

section
variable {prog : Program} {w : World} {g₀ : Heap} {A : Around} {H H₀ X : List Addr} {env : Env} {c₀ c c' : Cf} {K : Frag} {ρ : List (Str × D)}
/-- what was hidden beside is let go -/
theorem Frm.leave {Y : List Addr} {h' : Heap} {tk : Nat} (F' : Frm g₀ H₀ (Y ++ X) env c₀ c') (F : Frm g₀ H₀ X env c₀ c) (k : Kx (Y ++ X) c c') (hY : ∀ b ∈ Y, c.heap.get? b = none) (hk : ∀ b o, b ∉ Y → c'.heap.get? b = some o → h'.get? b = some o) (ht : c'.s.toks ≤ tk) : Frm g₀ H₀ X env c₀ (c'.put h' tk) := by
  have ne : ∀ {b : Addr}, (∃ o, c.heap.get? b = some o) → b ∉ Y := fun ⟨o, e⟩ q => by rw [hY _ q] at e; cases e
  have ne₀ : ∀ {b : Addr} {o}, c₀.heap.get? b = some o → b ∉ Y := fun e => ne (F.k.al _ ⟨_, e⟩)
  have tm : ∀ {Z : List Addr}, (∀ b ∈ Y, b ∈ Z) → TabOk Z c'.heap → TabOk Z h' := fun {Z} hZ t => t.move (fun b hb o e => hk b o (fun q => F'.nm b (List.mem_append_left _ q) hb) e) (fun b o hb e => hk b o (fun q => hb (hZ b q)) e) fun b hb => .inl hb
  have t₅ : ∀ Hx, (∀ b ∈ Hx, ∃ o, c₀.heap.get? b = some o) → TabOk Hx c₀.heap → TabOk ((Y ++ X) ++ Hx) h' := fun Hx hl t => tm (fun b hb => List.mem_append_left _ (List.mem_append_left _ hb)) (F'.tab Hx hl t)
  refine ⟨F.kind, F.so₀, ⟨?_, fun b o hM _ e => hk b o (ne₀ e) (F'.k.keep hM e), Nat.le_trans F'.k.tk ht, F'.k.gh, fun b ⟨o, e⟩ => ?_, fun Hx _ hl t => (t₅ Hx hl t).sub fun b hb => List.mem_append_right _ hb⟩,
    ⟨fun b hb => ?_, F.so.mt, F.so.gm, fun b o e => hk b o (ne₀ (F.so₀.base b o e)) (F'.so.base b o e), (tm (fun b hb => List.mem_append_left _ (List.mem_append_left _ hb)) F'.so.tab).sub fun b hb => (List.mem_append.mp hb).elim (fun q => List.mem_append_left _ (List.mem_append_right _ q)) (List.mem_append_right _), Nat.lt_of_lt_of_le F'.so.pos ht, F.so.nb⟩,
    F.new, fun Hx hl t => (t₅ Hx hl t).sub fun b hb => (List.mem_append.mp hb).elim (fun q => List.mem_append_left _ (List.mem_append_right _ q)) (List.mem_append_right _), F.L, fun x hx => ?_, F.apart, ?_, fun x a h => ?_, F.cM⟩
  · obtain ⟨h, t, e⟩ := F'.k.same; exact ⟨h', tk, by show ({ c'.s with heap := h', toks := tk } : Shared) = _; rw [e]⟩
  · obtain ⟨o', e'⟩ := F'.k.al b ⟨o, e⟩; exact ⟨o', hk b o' (ne₀ e) e'⟩
  · have a := F.so.low b hb
    obtain ⟨o', e'⟩ := k.al b a
    exact ⟨o', hk b o' (ne a) e'⟩
  · obtain ⟨a, ov, h1, h2, h3⟩ := F.own x hx
    obtain ⟨a', ov', h1', h2', h3'⟩ := F'.own x hx
    rw [h1] at h1'; cases h1'
    obtain ⟨o, e, _⟩ := h3
    exact ⟨a, ov', h1, h2, cell_keep h3' fun o' e' => hk a o' (ne ⟨o, e⟩) e'⟩
  · obtain ⟨m, hm⟩ := F'.ns
    exact ⟨m, ns_keep hm fun o e => hk _ o (ne (F.so.low _ (F.hid _ F.L))) e⟩
  · have a' := F.cal x a h
    obtain ⟨o', e'⟩ := k.al a a'
    exact ⟨o', hk a o' (ne a') e'⟩
theorem look_leave {Y : List Addr} {h' : Heap} {x : Str} {v : Value} (F : Frm g₀ H₀ X env c₀ c) (hY : ∀ b ∈ Y, c.heap.get? b = none) (hk : ∀ b o, b ∉ Y → c'.heap.get? b = some o → h'.get? b = some o) (l : LookAt env c'.heap x v) : LookAt env h' x v := by
  have ne : ∀ {b : Addr}, (∃ o, c.heap.get? b = some o) → b ∉ Y := fun ⟨o, e⟩ q => by rw [hY _ q] at e; cases e
  obtain ⟨k, l⟩ := l
  refine ⟨k, ?_⟩
  rcases l with ⟨e, hM, m', hm, hx⟩ | ⟨e, a, ha, hM, hc⟩
  · exact .inl ⟨e, hM, m', ns_keep hm fun o e => hk _ o (ne (F.so.low _ (F.hid _ F.L))) e, hx⟩
  · exact .inr ⟨e, a, ha, hM, cell_keep hc fun o e => hk a o (ne (F.cal x a ha)) e⟩
theorem Vars.leave {Y : List Addr} {h' : Heap} {tk : Nat} (V : Vars ((Y ++ X) ++ H₀) env c' ρ) (F : Frm g₀ H₀ X env c₀ c) (hY : ∀ b ∈ Y, c.heap.get? b = none) (hk : ∀ b o, b ∉ Y → c'.heap.get? b = some o → h'.get? b = some o) (ht : c'.s.toks ≤ tk) : Vars (X ++ H₀) env (c'.put h' tk) ρ := fun x d e => by
  obtain ⟨v, l, r⟩ := V x d e
  exact ⟨v, look_leave F hY hk l, r.move (H' := X ++ H₀) (c' := c'.put h' tk) ⟨fun b o hb e => hk b o (fun q => hb (List.mem_append_left _ (List.mem_append_left _ q))) e, ht, fun _ _ => rfl⟩ fun b hb => .inl ((List.mem_append.mp hb).elim (fun q => List.mem_append_left _ (List.mem_append_right _ q)) (List.mem_append_right _))⟩
theorem Own.leave {Y : List Addr} {h' : Heap} {tk : Nat} {x : Str} {D : Addr} {l : List Mine.D} (O : Own H₀ (Y ++ X) env c' x D l) (F : Frm g₀ H₀ X env c₀ c) (hD : D ∈ X) (hY : ∀ b ∈ Y, c.heap.get? b = none) (hk : ∀ b o, b ∉ Y → c'.heap.get? b = some o → h'.get? b = some o) (ht : c'.s.toks ≤ tk) : Own H₀ X env (c'.put h' tk) x D l := by
  obtain ⟨vs, n, e, r⟩ := O.at'
  refine ⟨look_leave F hY hk O.look, hD, O.nl, O.nc, vs, n, hk D _ (fun q => ?_) e, r.move (H' := X ++ H₀) (c' := c'.put h' tk) ⟨fun b o hb e => hk b o (fun q => hb (List.mem_append_left _ (List.mem_append_left _ q))) e, ht, fun _ _ => rfl⟩ fun b hb => .inl ((List.mem_append.mp hb).elim (fun q => List.mem_append_left _ (List.mem_append_right _ q)) (List.mem_append_right _))⟩
  obtain ⟨o, eo⟩ := F.so.low D (F.hid D hD)
  rw [hY D q] at eo; cases eo
/-- Y is hidden beside -/
theorem Frm.beside {Y : List Addr} (F : Frm g₀ H₀ X env c₀ c) (k : Kp c c') (hY : ∀ b ∈ Y, c.heap.get? b = none) (hY' : ∀ b ∈ Y, ∃ o, c'.heap.get? b = some o) (ht : ∀ Hx, (∀ b ∈ Hx, ∃ o, c.heap.get? b = some o) → TabOk Hx c.heap → TabOk (Y ++ Hx) c'.heap) : Frm g₀ H₀ (Y ++ X) env c₀ c' := by
  have F' := F.kp k
  have ni : ∀ b ∈ Y, c₀.heap.get? b = none := fun b hb => by
    cases e : c₀.heap.get? b with
    | none => rfl
    | some o => obtain ⟨o', e'⟩ := F.k.al b ⟨o, e⟩; rw [hY b hb] at e'; cases e'
  refine ⟨F.kind, F.so₀, F'.k, ⟨fun b hb => ?_, fun b hb => List.mem_append_right _ (F.so₀.mt b hb), F.so.gm, F'.so.base, ?_, F'.so.pos, F'.so.nb⟩, fun b hb => ?_, fun Hx hl q => ?_, List.mem_append_right _ F.L, fun x hx => ?_, F.apart, F'.ns, F'.cal, F.cM⟩
  · rw [List.append_assoc] at hb
    rcases List.mem_append.mp hb with hb | hb
    · exact hY' b hb
    · exact F'.so.low b hb
  · rw [List.append_assoc]; exact ht _ F.so.low F.so.tab
  · rcases List.mem_append.mp hb with hb | hb
    · exact ni b hb
    · exact F.new b hb
  · rw [List.append_assoc]
    exact ht _ (fun b hb => (List.mem_append.mp hb).elim (fun q => F.so.low b (F.hid b q)) fun q => F.k.al b (hl b q)) (F.tab Hx hl q)
  · obtain ⟨a, ov, h1, h2, h3⟩ := F'.own x hx
    exact ⟨a, ov, h1, List.mem_append_right _ h2, h3⟩
theorem Vars.beside {Y : List Addr} (V : Vars (X ++ H₀) env c ρ) (F : Frm g₀ H₀ X env c₀ c) (k : Kp c c') (hY : ∀ b ∈ Y, c.heap.get? b = none) : Vars ((Y ++ X) ++ H₀) env c' ρ := fun x d e => by
  obtain ⟨v, l, r⟩ := V x d e
  exact ⟨v, l.keep fun b o hb e => k.keep hb e, r.move (k.cm F.so.mt fun _ q => by cases q) fun b hb => by
    rw [List.append_assoc] at hb
    exact (List.mem_append.mp hb).elim (fun q => .inr (hY b q)) .inl⟩
theorem Own.beside {Y : List Addr} {x : Str} {D : Addr} {l : List Mine.D} (O : Own H₀ X env c x D l) (F : Frm g₀ H₀ X env c₀ c) (k : Kp c c') (hY : ∀ b ∈ Y, c.heap.get? b = none) : Own H₀ (Y ++ X) env c' x D l := by
  obtain ⟨vs, n, e, r⟩ := O.at'
  exact ⟨O.look.keep fun b o hb e => k.keep hb e, List.mem_append_right _ O.mem, O.nl, O.nc, vs, n, k.keep (F.nm D O.mem) e, r.move (k.cm F.so.mt fun _ q => by cases q) fun b hb => by
    rw [List.append_assoc] at hb
    exact (List.mem_append.mp hb).elim (fun q => .inr (hY b q)) .inl⟩

/-- where a turn of a loop ends -/
inductive Tn (g₀ : Heap) (H₀ X : List Addr) (env : Env) (c₀ c₁ : Cf) (D : Addr) (x : Str) (ρ : List (Str × Mine.D)) (l : List Mine.D) (f : Flow) (s' : Shared) : Prop
  | mk (ef : f = .next) (c' : Cf) (es : c'.s = s') (k : Kx (mine env D) c₁ c') (F : Frm g₀ H₀ X env c₀ c') (V : Vars (X ++ H₀) env c' ρ) (O : Own H₀ X env c' x D l)

theorem sx_for {iter : Expr} {x : Str} {px pos : Pos} {body rest : List Stmt} {items : List (List Mine.D)} {dI : Nat → Mine.D} {Q : Flow → Shared → Prop} {ox : Str} {D : Addr} (ρI : Nat → List (Str × Mine.D)) (oI : Nat → List Mine.D) (hA : A.handled = none)
    (F : Frm g₀ H₀ X env c₀ c) (V : Vars (X ++ H₀) env c (ρI 0)) (O : Own H₀ X env c ox D (oI 0)) (hI : IS prog w g₀ A (X ++ H₀) env c iter (.Name x px) items) (hd : ∀ i ds, items[i]? = some ds → ds = [dI i])
    (step : ∀ i, i < items.length → ∀ Y c', Frm g₀ H₀ (Y ++ X) env c₀ c' → Vars ((Y ++ X) ++ H₀) env c' ((x, dI i) :: ρI i) → Own H₀ (Y ++ X) env c' ox D (oI i) → SX prog w A env body (Tn g₀ H₀ (Y ++ X) env c₀ c' D ox (ρI (i + 1)) (oI (i + 1))) c')
    (hn : ∀ c', Frm g₀ H₀ X env c₀ c' → Vars (X ++ H₀) env c' (ρI items.length) → Own H₀ X env c' ox D (oI items.length) → SX prog w A env rest Q c')
    (hx : env.kindOf x = some .local := by rfl) (hox : ox ≠ x := by decide) (hs : ∀ z, foldedSetIterable iter env z = pure z := by intro _; rfl) : SX prog w A env (.For (.Name x px) iter body [] pos :: rest) Q c := by
  refine sx_cons (wpAny_For (ne_mono (hI c (.refl _) F.so) fun xv s₁ h₁ => ne_mono h₁ fun it s₂ h₂ => ?_) hs)
  obtain ⟨c₂, I, fp, wr, Vt, St, rfl, k₂, rfl, ⟨⟨P, Md, KT, hP⟩, hal, hself⟩, hst, hfp, hwr, htw, hVt⟩ := h₂
  have alw : ∀ b ∈ wr, ∃ o, c₂.heap.get? b = some o := hal 0 _ hst
  have F₂ := F.beside k₂ hwr alw htw
  have V₂ := V.beside F k₂ hwr
  have O₂ := O.beside F k₂ hwr
  have wrf : ∀ b ∈ wr, b ∈ fp := KT.sub
  have mX : ∀ b ∈ mine env D, b ∈ X := fun b hb => (List.mem_cons.mp hb).elim (fun q => q ▸ O.mem) fun q => F.slot _ b q
  have mfp : ∀ b ∈ fp, b ∉ mine env D := fun b hb q => (hfp b hb).1 (F.hid b (mX b q))
  have Mfp : ∀ b ∈ fp, b ∉ MUT := fun b hb q => (hfp b hb).1 (F.so.mt b q)
  have wM : ∀ b ∈ wr, b ∉ MUT := fun b hb => Mfp b (wrf b hb)
  have hid2 : ∀ b ∈ wr ++ mine env D, b ∈ (wr ++ X) ++ H₀ := fun b hb => List.mem_append_left _ ((List.mem_append.mp hb).elim (List.mem_append_left _) fun q => List.mem_append_right _ (mX b q))
  -- the iterator turned
  have turned : ∀ {c₁ : Cf} {i : Nat} {h' : Heap} {tk : Nat}, Frm g₀ H₀ (wr ++ X) env c₀ c₁ → St i h' → (∀ b o, b ∉ wr → c₁.heap.get? b = some o → h'.get? b = some o) → c₁.s.toks ≤ tk →
      Kx wr c₁ (c₁.put h' tk) ∧ Frm g₀ H₀ (wr ++ X) env c₀ (c₁.put h' tk) ∧ (∀ ρ, Vars ((wr ++ X) ++ H₀) env c₁ ρ → Vars ((wr ++ X) ++ H₀) env (c₁.put h' tk) ρ) ∧ (∀ l, Own H₀ (wr ++ X) env c₁ ox D l → Own H₀ (wr ++ X) env (c₁.put h' tk) ox D l) := by
    intro c₁ i h' tk F₁ hst' hk ht
    have kx : Kx wr c₁ (c₁.put h' tk) := Kx.put hk wM (hal i h' hst') ht
    have kX : Kx (wr ++ X) c₁ (c₁.put h' tk) := kx.mono fun b hb => List.mem_append_left _ hb
    have lw : ∀ {b : Addr}, b ∈ X → b ∉ wr := fun {b} hb q => (hfp b (wrf b q)).1 (F.hid b hb)
    have lc : ∀ {x a}, env.cells.lookup x = some a → a ∉ wr := fun {x a} h q => by obtain ⟨o, e⟩ := F.cal x a h; rw [hwr a q] at e; cases e
    have lk : ∀ {x v}, LookAt env c₁.heap x v → LookAt env h' x v := fun {x v} l => by
      obtain ⟨k, l⟩ := l
      refine ⟨k, ?_⟩
      rcases l with ⟨e, hM, m', hm, hx⟩ | ⟨e, a, ha, hM, hc⟩
      · exact .inl ⟨e, hM, m', ns_keep hm fun o e => hk _ o (lw F.L) e, hx⟩
      · exact .inr ⟨e, a, ha, hM, cell_keep hc fun o e => hk a o (lc ha) e⟩
    have hw : ∀ b ∈ wr, b ∈ (wr ++ X) ++ H₀ := fun b hb => List.mem_append_left _ (List.mem_append_left _ hb)
    refine ⟨kx, F₁.kx kX ?_ fun y a hy ha => ?_, fun ρ V y d e => ?_, fun l O => ?_⟩
    · obtain ⟨m, hm⟩ := F₁.ns; exact ⟨m, ns_keep hm fun o e => hk _ o (lw F.L) e⟩
    · obtain ⟨a', ov, h1, _, h3⟩ := F₁.own y hy
      rw [ha] at h1; cases h1
      exact ⟨ov, cell_keep h3 fun o e => hk a o (lc ha) e⟩
    · obtain ⟨v, l, r⟩ := V y d e
      exact ⟨v, lk l, r.kx F₁.so kx hw⟩
    · obtain ⟨vs, n, e, r⟩ := O.at'
      exact ⟨lk O.look, O.mem, O.nl, O.nc, vs, n, hk D _ (lw (by exact (by have := (‹Own H₀ X env c ox D (oI 0)›).mem; exact this))) e, r.kx F₁.so kx hw⟩
  refine codeAny_forLoop_any (fun k s' => ∃ i c₁, c₁.s = s' ∧ i ≤ items.length ∧ k = items.length + 1 - i ∧ St i c₁.heap ∧ Kx (wr ++ mine env D) c₂ c₁ ∧ Frm g₀ H₀ (wr ++ X) env c₀ c₁ ∧ Vars ((wr ++ X) ++ H₀) env c₁ (ρI i) ∧ Own H₀ (wr ++ X) env c₁ ox D (oI i)) ?_ (items.length + 1)
    ⟨0, c₂, rfl, Nat.zero_le _, rfl, hst, .refl _ _, F₂, V₂, O₂⟩
  rintro k s' ⟨i, c₁, rfl, hi, rfl, hst₁, kx₁, F₁, V₁, O₁⟩
  by_cases hlt : i < items.length
  · refine wpAny_with_toks (n := c₁.s.toks) (Nat.le_refl _) (KT.item i _ _ _ hlt hst₁ fun v h₂ tk₂ hMd hk₂ htk₂ => ?_)
    refine ne_any (KT.go i v _ _ _ hMd fun h₃ hPv st₃ hk₃ => ?_)
    obtain ⟨ws, sh, hv⟩ := hP i v h₃ hPv
    obtain ⟨ds, hdsi⟩ : ∃ ds, items[i]? = some ds := ⟨_, List.getElem?_eq_getElem hlt⟩
    have hrep := hVt i ws ds hv hdsi
    obtain rfl := hd i ds hdsi
    obtain ⟨u, q, rfl, r1, r2⟩ := hrep.cons_inv
    obtain rfl := r2.nil_inv
    have huv : u = v := by cases sh with | one => rfl
    subst huv
    obtain ⟨kx₃, F₃, V₃, O₃⟩ := turned (tk := tk₂) F₁ st₃ (fun b o hb e => hk₃ b o hb (hk₂ b o hb e)) htk₂
    have V₃ := V₃ _ V₁
    have O₃ := O₃ _ O₁
    have e₃ : ({ c₁.s with heap := h₃, toks := tk₂ } : Shared) = (c₁.put h₃ tk₂).s := rfl
    have r₂ : Rep ((wr ++ X) ++ H₀) c₂ (dI i) u := r1.move (.refl _ _) fun b hb => by rw [List.append_assoc] at hb; exact .inl hb
    have r₃ : Rep ((wr ++ X) ++ H₀) (c₁.put h₃ tk₂) (dI i) u := (r₂.kx F₂.so kx₁ hid2).kx F₁.so kx₃ fun b hb => List.mem_append_left _ (List.mem_append_left _ hb)
    refine wpAny_assign_Name ?_
    show wpAny _ _ _ _ _ (c₁.put h₃ tk₂).s
    refine store_var F₃ V₃ (.inl hx) r₃ fun c₄ S₄ F₄ V₄ => ?_
    have O₄ := O₃.stp F₃ S₄ (fun q => hox (List.mem_singleton.mp q))
    refine ne_any (ne_mono (step i hlt wr c₄ F₄ V₄ O₄) fun f s₅ h₅ => ?_)
    obtain ⟨rfl, c₅, rfl, k₅, F₅, V₅, O₅⟩ := h₅
    have k₄₅ : Kx (mine env D) (c₁.put h₃ tk₂) c₅ := S₄.mine.trans k₅
    refine ⟨items.length + 1 - (i + 1), by lia, i + 1, c₅, rfl, hlt, rfl, KT.frame _ _ _ st₃ fun b hb o e => k₄₅.kp b o (Mfp b hb) (mfp b hb) e, ?_, F₅, V₅, O₅⟩
    exact (kx₁.trans (kx₃.mono fun b hb => List.mem_append_left _ hb)).trans (k₄₅.mono fun b hb => List.mem_append_right _ hb)
  · have hin : i = items.length := Nat.le_antisymm hi (Nat.not_lt.mp hlt)
    subst hin
    refine wpAny_with_toks (n := c₁.s.toks) (Nat.le_refl _) (KT.done _ _ _ hst₁ fun h₂ tk₂ hk₂ htk₂ => ?_)
    refine wpAny_execs_nil ?_
    have kk : Kx (wr ++ X) c c₁ := (k₂.mono fun _ q => by cases q).trans (kx₁.mono fun b hb => (List.mem_append.mp hb).elim (List.mem_append_left _) fun q => List.mem_append_right _ (mX b q))
    exact hn (c₁.put h₂ tk₂) (F₁.leave F kk hwr hk₂ htk₂) (V₁.leave F hwr hk₂ htk₂) (O₁.leave F O.mem hwr hk₂ htk₂)
end
end Mine
end
noncomputable section
open PySem PySem.W PyProof.Rows
namespace Mine
open PySem.Calls

section
variable {prog : Program} {w : World} {g₀ : Heap} {A : Around} {H H₀ X : List Addr} {env : Env} {c₀ c c' : Cf} {K : Frag} {ρ : List (Str × D)}

/-! dyadic floats in units of 2 ^ -44 -/
noncomputable def FL (m : Int) : D := .flt (m * 65536)
theorem fitsL {m : Int} (h : m.natAbs < 2 ^ 53) : Fits (m * 65536) := fits_k 16 rfl h (by lia)
theorem FL_one : FL 17592186044416 = .flt (2 ^ 60) := rfl
section
variable {a b n : Int}
theorem sc_lt : decide (a * 65536 < b * 65536) = decide (a < b) := decide_eq_decide.mpr ⟨fun h => Int.lt_of_mul_lt_mul_right h (by decide), fun h => Int.mul_lt_mul_of_pos_right h (by decide)⟩
theorem sc_eq : decide (a * 65536 = b * 65536) = decide (a = b) := decide_eq_decide.mpr ⟨fun h => Int.eq_of_mul_eq_mul_right (by decide) h, fun h => by rw [h]⟩
theorem opL_add (h : (a + b).natAbs < 2 ^ 53) : BOp prog w g₀ A .Add (FL a) (FL b) (FL (a + b)) := by
  have := op_addf (prog := prog) (w := w) (g₀ := g₀) (A := A) (a := a * 65536) (b := b * 65536) (by rw [← Int.add_mul]; exact fitsL h)
  rw [← Int.add_mul] at this; exact this
theorem opL_sub (h : (a - b).natAbs < 2 ^ 53) : BOp prog w g₀ A .Sub (FL a) (FL b) (FL (a - b)) := by
  have := op_subf (prog := prog) (w := w) (g₀ := g₀) (A := A) (a := a * 65536) (b := b * 65536) (by rw [← Int.sub_mul]; exact fitsL h)
  rw [← Int.sub_mul] at this; exact this
theorem opL_mul (e : a * b = n * 17592186044416) (h : n.natAbs < 2 ^ 53) : BOp prog w g₀ A .Mult (FL a) (FL b) (FL n) :=
  op_mulf (by rw [show a * 65536 * (b * 65536) = (a * b) * (65536 * 65536) by simp only [Int.mul_assoc, Int.mul_comm, Int.mul_left_comm], e]; simp only [Int.mul_assoc]; rfl) (fitsL h)
theorem opL_div (hb : b ≠ 0) (e : a * 17592186044416 = n * b) (h : n.natAbs < 2 ^ 53) : BOp prog w g₀ A .Div (FL a) (FL b) (FL n) :=
  op_divf (by lia) (by
    have : a * 65536 * 2 ^ 60 = (a * 17592186044416) * (65536 * 65536) := by simp only [Int.mul_assoc]; rfl
    rw [this, e]; simp only [Int.mul_assoc, Int.mul_comm, Int.mul_left_comm]) (fitsL h)
theorem opL_div_if (hb : b ≠ 0) (e : a * 17592186044416 * 17592186044416 = n * b) (ha : a.natAbs < 2 ^ 53) (h : n.natAbs < 2 ^ 53) : BOp prog w g₀ A .Div (.int a) (FL b) (FL n) :=
  op_div_if (by lia) (fits_k 60 rfl ha (by lia)) (by
    have : a * 2 ^ 60 * 2 ^ 60 = (a * 17592186044416 * 17592186044416) * (65536 * 65536) := by simp only [Int.mul_assoc]; rfl
    rw [this, e]; simp only [Int.mul_assoc, Int.mul_comm, Int.mul_left_comm]) (fitsL h)
theorem nab_pos {a : Int} {n : Nat} (h0 : 0 ≤ a) (h : a < (n : Int)) : a.natAbs < n := Int.ofNat_lt.mp (by rw [Int.natAbs_of_nonneg h0]; exact h)
theorem opL_mod1 (h : a.natAbs < 2 ^ 53) : BOp prog w g₀ A .Mod (FL a) (FL 17592186044416) (FL (a % 17592186044416)) := by
  have e1 : (a * 65536).tmod (2 ^ 60) = a.tmod 17592186044416 * 65536 := by
    rw [show (2 : Int) ^ 60 = 65536 * 17592186044416 by decide, Int.mul_comm a, Int.mul_tmod_mul_of_pos _ _ (by decide : (0 : Int) < 65536), Int.mul_comm]
  have e2 : (a * 65536) % (2 ^ 60) = a % 17592186044416 * 65536 := by
    rw [show (2 : Int) ^ 60 = 65536 * 17592186044416 by decide, Int.mul_comm a, Int.mul_emod_mul_of_pos _ _ (by decide : (0 : Int) < 65536), Int.mul_comm]
  have := op_mod1 (prog := prog) (w := w) (g₀ := g₀) (A := A) (a := a * 65536) (by rw [e1]; refine fitsL ?_; rw [Int.natAbs_tmod]; exact Nat.lt_of_le_of_lt (Nat.mod_le _ _) h)
    (by rw [e2]; exact fitsL (nab_pos (Int.emod_nonneg a (by decide)) (Int.lt_trans (Int.emod_lt_of_pos a (by decide)) (by decide))))
  rw [e2] at this
  exact this
theorem opL_sub_fi (hb : b.natAbs < 2 ^ 53) (h : (a - b * 17592186044416).natAbs < 2 ^ 53) : BOp prog w g₀ A .Sub (FL a) (.int b) (FL (a - b * 17592186044416)) := fun H c v1 v2 so r1 r2 => by
  obtain ⟨x, t, rfl, h1, _⟩ := Rep.flt_inv r1; obtain ⟨u, rfl⟩ := r2.int_inv
  have hf : FV (Float64.ofInt b) (b * 2 ^ 60) := fv_ofInt (fits_k 60 rfl hb (by lia))
  have hi : ¬ Float64.isInf (Float64.ofInt b) = true := by rw [(fv_fin hf).1]; decide
  have e : a * 65536 - b * 2 ^ 60 = (a - b * 17592186044416) * 65536 := by rw [Int.sub_mul, Int.mul_assoc]; rfl
  have h2 := fv_sub h1 hf (by rw [e]; exact fitsL h)
  rw [e] at h2
  exact AutoFloatOps.sub_fi_1 hi (Got.flt h2 so.pos)
theorem copL_eq : COp prog w g₀ A .Eq (FL a) (FL b) (decide (a = b)) := by
  have := cop_eqf (prog := prog) (w := w) (g₀ := g₀) (A := A) (a := a * 65536) (b := b * 65536)
  rw [sc_eq] at this
  exact this
theorem copL_lt : COp prog w g₀ A .Lt (FL a) (FL b) (decide (a < b)) := by
  have := cop_ltf (prog := prog) (w := w) (g₀ := g₀) (A := A) (a := a * 65536) (b := b * 65536)
  rw [sc_lt] at this
  exact this
theorem copL_gt : COp prog w g₀ A .Gt (FL a) (FL b) (decide (b < a)) := by
  have := cop_gtf (prog := prog) (w := w) (g₀ := g₀) (A := A) (a := a * 65536) (b := b * 65536)
  rw [sc_lt] at this
  exact this
end
theorem fn_intL {a : Int} (h0 : 0 ≤ a) : Fn prog w g₀ A (.type "int") [FL a] (.int (a / 17592186044416)) := fun H c vs so r => by
  obtain ⟨v, q, rfl, r1, r2⟩ := r.cons_inv
  obtain rfl := r2.nil_inv
  obtain ⟨x, t, rfl, h1, _⟩ := Rep.flt_inv r1
  obtain ⟨s, m, e, hd⟩ := h1.1
  refine call_int_float hd ?_
  rw [fv_trunc h1 (by lia) hd, show a * 65536 / 2 ^ 60 = a / 17592186044416 by lia]
  exact Got.int
theorem fn_int {a : Int} : Fn prog w g₀ A (.type "int") [.int a] (.int a) := fun H c vs so r => by
  obtain ⟨v, q, rfl, r1, r2⟩ := r.cons_inv
  obtain rfl := r2.nil_inv
  obtain ⟨t, rfl⟩ := r1.int_inv
  exact call_int_int (Got.here Rep.int)
/-- a float literal -/
theorem evL {b : UInt64} {m : Int} {k : Nat} {p : Pos} (h : FV b (m * 65536)) : EV prog w g₀ A H env c (.Constant (.float b) k p) (FL m) := ev_flt h

theorem best2 {g : Nat → Nat → Bool} {i j : Nat} (h1 : argBest g 1 = i) (h2 : (if g 2 i = true then 2 else i) = j) : argBest g 2 = j := by
  subst h1; exact h2
theorem three_max {f : Nat → Int} : ∃ i, argBest (fun i j => decide (f j < f i)) 2 = i ∧ i < 3 ∧ f i = max (max (f 0) (f 1)) (f 2) := by
  rcases Int.lt_or_le (f 0) (f 1) with c | c
  · rw [Int.max_eq_right (Int.le_of_lt c)]
    rcases Int.lt_or_le (f 1) (f 2) with c2 | c2
    · exact ⟨2, best2 (if_pos (decide_eq_true c)) (if_pos (decide_eq_true c2)), by decide, (Int.max_eq_right (Int.le_of_lt c2)).symm⟩
    · exact ⟨1, best2 (if_pos (decide_eq_true c)) (if_neg fun q => Int.not_lt.mpr c2 (of_decide_eq_true q)), by decide, (Int.max_eq_left c2).symm⟩
  · rw [Int.max_eq_left c]
    rcases Int.lt_or_le (f 0) (f 2) with c2 | c2
    · exact ⟨2, best2 (if_neg fun q => Int.not_lt.mpr c (of_decide_eq_true q)) (if_pos (decide_eq_true c2)), by decide, (Int.max_eq_right (Int.le_of_lt c2)).symm⟩
    · exact ⟨0, best2 (if_neg fun q => Int.not_lt.mpr c (of_decide_eq_true q)) (if_neg fun q => Int.not_lt.mpr c2 (of_decide_eq_true q)), by decide, (Int.max_eq_left c2).symm⟩
theorem three_min {f : Nat → Int} : ∃ i, argBest (fun i j => decide (f i < f j)) 2 = i ∧ i < 3 ∧ f i = min (min (f 0) (f 1)) (f 2) := by
  rcases Int.lt_or_le (f 1) (f 0) with c | c
  · rw [Int.min_eq_right (Int.le_of_lt c)]
    rcases Int.lt_or_le (f 2) (f 1) with c2 | c2
    · exact ⟨2, best2 (if_pos (decide_eq_true c)) (if_pos (decide_eq_true c2)), by decide, (Int.min_eq_right (Int.le_of_lt c2)).symm⟩
    · exact ⟨1, best2 (if_pos (decide_eq_true c)) (if_neg fun q => Int.not_lt.mpr c2 (of_decide_eq_true q)), by decide, (Int.min_eq_left c2).symm⟩
  · rw [Int.min_eq_left c]
    rcases Int.lt_or_le (f 2) (f 0) with c2 | c2
    · exact ⟨2, best2 (if_neg fun q => Int.not_lt.mpr c (of_decide_eq_true q)) (if_pos (decide_eq_true c2)), by decide, (Int.min_eq_right (Int.le_of_lt c2)).symm⟩
    · exact ⟨0, best2 (if_neg fun q => Int.not_lt.mpr c (of_decide_eq_true q)) (if_neg fun q => Int.not_lt.mpr c2 (of_decide_eq_true q)), by decide, (Int.min_eq_left c2).symm⟩
theorem rep_at {l : List Int} {vs : List Value} (r : RepL H c (l.map FL) vs) {i : Nat} {v : Value} (h : vs[i]? = some v) : ∃ x t, v = .float x t ∧ FV x (l.getD i 0 * 65536) := by
  obtain ⟨d, hd, rv⟩ := r.get' h
  simp only [List.getElem?_map, Option.map_eq_some_iff] at hd
  obtain ⟨m, hm, rfl⟩ := hd
  obtain ⟨x, t, rfl, h1, _⟩ := Rep.flt_inv rv
  exact ⟨x, t, rfl, by simpa [hm] using h1⟩
theorem rep_pick {l : List Int} {vs : List Value} {x : Int} (r : RepL H c (l.map FL) vs) {i : Nat} {v : Value} (h : vs[i]? = some v) (e : l.getD i 0 = x) : Rep H c (FL x) v := by
  obtain ⟨d, hd, rv⟩ := r.get' h
  rw [List.getElem?_map] at hd
  obtain ⟨m, hm, rfl⟩ := Option.map_eq_some_iff.mp hd
  rw [List.getD_eq_getElem?_getD, hm] at e
  exact e ▸ rv
theorem fn_max3 {a b d : Int} (hA : A.handled = none) : Fn prog w g₀ A (.builtin "max") [FL a, FL b, FL d] (FL (max (max a b) d)) := fun H c vs so r => by
  have hlen := r.length
  obtain ⟨v1, v2, v3, rfl⟩ := len3 hlen
  have hT : (c.s.heap.push { cls := .type "tuple", data := .seq #[v1, v2, v3] }).IsTuple c.s.heap.objs.size [v1, v2, v3].toArray := ⟨_, Heap.get?_push_size _ rfl, rfl, 0, rfl⟩
  have hsz : (c.s.heap.push { cls := .type "tuple", data := .seq #[v1, v2, v3] }).objs.size = c.s.heap.objs.size + 1 := Heap.size_push ..
  refine wpAny_with_toks (n := c.s.toks) (Nat.le_refl _) (call_max_three (wpAny_pyIter_tuple hT ?_))
  have r' : RepL H c ([a, b, d].map FL) [v1, v2, v3] := r
  refine ⟨_, [_, c.s.heap.objs.size], [_], _, _, _, fun i j => decide ([a, b, d].getD j 0 < [a, b, d].getD i 0), rfl, Walks.tuple (A := A.in1) hA _ c.s.heap.objs.size (by rw [hsz]; exact Nat.ne_of_lt (Nat.lt_succ_self _)) [v1, v2, v3].toArray,
    ⟨⟨_, Heap.get?_push_size _ rfl, rfl, rfl⟩, hT.push _⟩, fun b hb => ?_, by simp, fun i j vi vj s Q E hi hj h => ?_, fun v h' tk hP hk htk => ?_⟩
  · show b < ((c.s.heap.push _).push _).objs.size
    rw [Heap.size_push, hsz]
    rcases List.mem_cons.mp hb with rfl | hb
    · rw [hsz]; exact Nat.lt_succ_self _
    · rw [List.mem_singleton.mp hb]; exact Nat.lt_succ_of_lt (Nat.lt_succ_self _)
  · obtain ⟨x, t, rfl, h1⟩ := rep_at r' (by simpa using hi)
    obtain ⟨y, u, rfl, h2⟩ := rep_at r' (by simpa using hj)
    refine AutoFloatOps.gt_0 ?_
    rw [(cmp_b h1 h2).2.2]
    rw [sc_lt]
    exact h
  · obtain ⟨i, hi, h3, hv⟩ := three_max (f := fun i => [a, b, d].getD i 0)
    have hP' : [v1, v2, v3][i]? = some v := by
      rw [← hi]; simpa using hP
    have rv := rep_pick r' hP' hv
    have kk : Kp c (c.put h' tk) := .of (fun q o e => hk q o (fun hm => by
      rw [List.mem_singleton.mp hm, hsz] at e; exact absurd (Heap.lt_size e) (Nat.not_lt.mpr (Nat.le_succ _))) (Heap.get?_push_of_some _ (Heap.get?_push_of_some _ e))) htk
    exact ⟨_, rfl, kk, rv.kp so kk⟩
theorem fn_min3 {a b d : Int} (hA : A.handled = none) : Fn prog w g₀ A (.builtin "min") [FL a, FL b, FL d] (FL (min (min a b) d)) := fun H c vs so r => by
  have hlen := r.length
  obtain ⟨v1, v2, v3, rfl⟩ := len3 hlen
  have hT : (c.s.heap.push { cls := .type "tuple", data := .seq #[v1, v2, v3] }).IsTuple c.s.heap.objs.size [v1, v2, v3].toArray := ⟨_, Heap.get?_push_size _ rfl, rfl, 0, rfl⟩
  have hsz : (c.s.heap.push { cls := .type "tuple", data := .seq #[v1, v2, v3] }).objs.size = c.s.heap.objs.size + 1 := Heap.size_push ..
  refine wpAny_with_toks (n := c.s.toks) (Nat.le_refl _) (call_min_three (wpAny_pyIter_tuple hT ?_))
  have r' : RepL H c ([a, b, d].map FL) [v1, v2, v3] := r
  refine ⟨_, [_, c.s.heap.objs.size], [_], _, _, _, fun i j => decide ([a, b, d].getD i 0 < [a, b, d].getD j 0), rfl, Walks.tuple (A := A.in1) hA _ c.s.heap.objs.size (by rw [hsz]; exact Nat.ne_of_lt (Nat.lt_succ_self _)) [v1, v2, v3].toArray,
    ⟨⟨_, Heap.get?_push_size _ rfl, rfl, rfl⟩, hT.push _⟩, fun b hb => ?_, by simp, fun i j vi vj s Q E hi hj h => ?_, fun v h' tk hP hk htk => ?_⟩
  · show b < ((c.s.heap.push _).push _).objs.size
    rw [Heap.size_push, hsz]
    rcases List.mem_cons.mp hb with rfl | hb
    · rw [hsz]; exact Nat.lt_succ_self _
    · rw [List.mem_singleton.mp hb]; exact Nat.lt_succ_of_lt (Nat.lt_succ_self _)
  · obtain ⟨x, t, rfl, h1⟩ := rep_at r' (by simpa using hi)
    obtain ⟨y, u, rfl, h2⟩ := rep_at r' (by simpa using hj)
    refine AutoFloatOps.lt_0 ?_
    rw [(cmp_b h1 h2).2.1]
    rw [sc_lt]
    exact h
  · obtain ⟨i, hi, h3, hv⟩ := three_min (f := fun i => [a, b, d].getD i 0)
    have hP' : [v1, v2, v3][i]? = some v := by
      rw [← hi]; simpa using hP
    have rv := rep_pick r' hP' hv
    have kk : Kp c (c.put h' tk) := .of (fun q o e => hk q o (fun hm => by
      rw [List.mem_singleton.mp hm, hsz] at e; exact absurd (Heap.lt_size e) (Nat.not_lt.mpr (Nat.le_succ _))) (Heap.get?_push_of_some _ (Heap.get?_push_of_some _ e))) htk
    exact ⟨_, rfl, kk, rv.kp so kk⟩
end
end Mine
end
noncomputable section
open PySem PySem.W PyProof.Rows
namespace Mine
open PySem.Calls
theorem lit_fin {b : UInt64} (h1 : Float64.isNaN b = false) (h2 : Float64.isInf b = false) : ∃ s m e, Float64.decode b = .fin s m e := by
  cases h : Float64.decode b with
  | fin s m e => exact ⟨s, m, e, rfl⟩
  | nan => simp [Float64.isNaN, h] at h1
  | inf s => simp [Float64.isInf, h] at h2
theorem lit {b : UInt64} {m : Int} (h1 : Float64.isNaN b = false) (h2 : Float64.isInf b = false) (h3 : Float64.val b = m * 65536 * 2 ^ 1014) : FV b (m * 65536) := ⟨lit_fin h1 h2, h3⟩
theorem lit_1 : FV 0x3ff0000000000000 (17592186044416 * 65536) := lit (by decide +kernel) (by decide +kernel) (by decide +kernel)
theorem lit_0 : FV 0 (0 * 65536) := lit (by decide +kernel) (by decide +kernel) (by decide +kernel)
theorem lit_h : FV 0x3fe0000000000000 (8796093022208 * 65536) := lit (by decide +kernel) (by decide +kernel) (by decide +kernel)
theorem lit_2 : FV 0x4000000000000000 (35184372088832 * 65536) := lit (by decide +kernel) (by decide +kernel) (by decide +kernel)
theorem lit_4 : FV 0x4010000000000000 (70368744177664 * 65536) := lit (by decide +kernel) (by decide +kernel) (by decide +kernel)
theorem lit_6 : FV 0x4018000000000000 (105553116266496 * 65536) := lit (by decide +kernel) (by decide +kernel) (by decide +kernel)
theorem lit_36 : FV 0x4230000000000000 (2 ^ 36 * 17592186044416 * 65536) := lit (by decide +kernel) (by decide +kernel) (by decide +kernel)
theorem lit_42 : FV 0x4290000000000000 (2 ^ 42 * 17592186044416 * 65536) := lit (by decide +kernel) (by decide +kernel) (by decide +kernel)
section
variable {prog : Program} {w : World} {g₀ : Heap} {A : Around} {H H₀ X : List Addr} {env : Env} {c₀ c c' : Cf} {K : Frag} {ρ : List (Str × D)}
theorem sx_ifr {test : Expr} {body rest : List Stmt} {pos : Pos} {b : Bool} {Q : Flow → Shared → Prop} (F : Frm g₀ H₀ X env c₀ c) (V : Vars (X ++ H₀) env c ρ) (h : TV prog w g₀ A (X ++ H₀) env c test b)
    (h1 : b = true → ∀ c', Frm g₀ H₀ X env c₀ c' → Vars (X ++ H₀) env c' ρ → SX prog w A env body (Aft prog w A env rest Q) c')
    (h2 : b = false → ∀ c', Frm g₀ H₀ X env c₀ c' → Vars (X ++ H₀) env c' ρ → SX prog w A env rest Q c') : SX prog w A env (.If test body [] pos :: rest) Q c :=
  sx_if F V h (fun e c' k F' V' => h1 e c' F' V') (fun e c' k F' V' => sx_nil (h2 e c' F' V'))
end
end Mine
end
noncomputable section
open PySem PySem.W PyProof.Rows
namespace Mine
open PySem.Calls

section
variable {prog : Program} {w : World} {g₀ : Heap} {A : Around} {H H₀ X : List Addr} {env : Env} {c₀ c c' : Cf} {K : Frag} {ρ : List (Str × D)}
theorem ev_tfrom {value e : Expr} {p pos : Pos} {l : List D} {k : Nat} (h1 : EV prog w g₀ A H env c value (.tup l)) (h3 : EV prog w g₀ A H env c e (.int k)) (hk : 1 ≤ k) (hl : k ≤ l.length) (hsz : l.length ≤ 1000) :
    EV prog w g₀ A H env c (.Subscript value (.Slice (some e) none none p) pos) (.tup (l.drop k)) := fun c' kk so => by
  refine Subscript_ (got_then (h1 c' kk so) so fun v1 c1 k1 so1 r1 => wpAny_Slice (evalPart_some_step (got_then (h3 c1 (kk.trans k1) so1) so1 fun v2 c2 k2 so2 i2 => evalPart_none_step (evalPart_none_step ?_))))
  obtain ⟨x, vs, n, rfl, _, e1, q1⟩ := (r1.kp so1 k2).tup_inv
  obtain ⟨u, rfl⟩ := i2.int_inv
  have hT : IsTup c2.s.heap x vs.toArray := ⟨_, e1, rfl, n, rfl⟩
  have kc : Kp c2 (c2.put (c2.heap.push { cls := .type "slice", data := .fields #[.int k u, .none, .none] }) c2.s.toks) := .of (fun _ _ e => Heap.get?_push_of_some _ e) (Nat.le_refl _)
  have so3 := so2.kp kc
  have hT' : IsTup (c2.heap.push { cls := .type "slice", data := .fields #[.int k u, .none, .none] }) x vs.toArray := ⟨_, Heap.get?_push_of_some _ e1, rfl, n, rfl⟩
  refine tail_any (s := (c2.put (c2.heap.push { cls := .type "slice", data := .fields #[.int k u, .none, .none] }) c2.s.toks).s) (ops := [.ref c2.s.heap.objs.size, .ref x]) hT'.typeIs slot_tuple_getitem.lookup
    (getItem_tuple_from hT' (Heap.IsSliceOf.new ..) hk (by simp [q1.length]; exact hl) ?_ (by rw [sizeLine_eq]; simp [q1.length]; lia)) rfl
  have g := Got.newTup (H := H) so3 (l := l.drop k) (its := (vs.toArray.toList.drop k).toArray) (by simpa using (q1.kp so2 kc).drop k)
  exact Got.after ((k1.trans k2).trans kc) g
end
end Mine
end
noncomputable section
open PySem PySem.W PyProof.Rows
namespace Mine
open PySem.Calls

section
variable {prog : Program} {w : World} {g₀ : Heap} {A : Around} {H H₀ X : List Addr} {env : Env} {c₀ c c' : Cf} {K : Frag} {ρ : List (Str × D)}
theorem compZ_core {elt target iter : Expr} {scope : Scope} {pos : Pos} {names : List Str} {cl : List (Str × Addr)} {items : List (List D)} {f : Nat → D} {Z jf : List Addr} {J : Nat → Heap → Prop} {c₀ c₂ : Cf} {I : Addr} {fp wr : List Addr} {Vt : Nat → List Value → Prop} {St : Nat → Heap → Prop}
    {RR : Value → Addr → Result → Shared → Prop}
    (T : Tgt target names) (hA : A.handled = none) (hcell : ∀ y ∈ scope.names, y.2 ≠ .cell) (hkind : scope.kind = .function) (hx : ∀ x ∈ names, scope.names.lookup x = some .local) (nd : names.Nodup) (hsz : items.length ≤ sizeLine) (hds : ∀ ds ∈ items, ds.length = names.length)
    (so₀ : SOk g₀ H c₀) (k₀ : Kp c₀ c₂) (W : Itr prog w A target I fp wr items.length Vt St) (hst : St 0 c₂.heap) (hfp : ∀ b ∈ fp, b ∉ H ∧ ∃ o, c₂.heap.get? b = some o) (hwr : ∀ b ∈ wr, c₀.heap.get? b = none)
    (htw : ∀ Hx, (∀ b ∈ Hx, ∃ o, c₀.heap.get? b = some o) → TabOk Hx c₀.heap → TabOk (wr ++ Hx) c₂.heap)
    (hVt : ∀ i ws ds, Vt i ws → items[i]? = some ds → RepL (wr ++ H) c₂ ds ws)
    (hZ : ∀ b ∈ Z, b ∈ H) (hZM : ∀ b ∈ Z, b ∉ MUT) (hZg : ∀ b ∈ Z, g₀.get? b = none) (hjf : ∀ b ∈ jf, b ∉ MUT ∧ ∃ o, c₀.heap.get? b = some o) (hJf : ∀ i h h', J i h → (∀ b ∈ jf, ∀ o, h.get? b = some o → h'.get? b = some o) → J i h') (hJ₀ : J 0 c₀.heap)
    (hbody : ∀ i, i < items.length → ∀ H' C c₁, (∀ b ∈ H, b ∈ H') → SOk g₀ H' c₁ → J i c₁.heap →
      wpAny (model prog w) A (eval elt (compEnvC scope cl C env)) (GotZ Z H' c₁ (f i) (J (i + 1))) NE c₁.s)
    (hfin : ∀ C D c₃ m', Kx Z c₀ c₃ → C ≠ D → c₀.heap.get? C = none → c₀.heap.get? D = none → SOk g₀ (C :: H) c₃ → c₃.heap.Ns C m' → Rep (C :: H) c₃ (.list (picks (fun _ => true) f items.length)) (.ref D) →
      (∀ Hx, (∀ b ∈ Z, b ∈ Hx) → (∀ b ∈ Hx, ∃ o, c₀.heap.get? b = some o) → TabOk Hx c₀.heap → TabOk (C :: Hx) c₃.heap) → RR (.ref D) C (.ok .next) c₃.s) :
    wpAny (model prog w) A (newList []) (fun acc s₃ => wpAny (model prog w) A (newFunctionEnv scope env.globals cl [] env.qual none .none (some env)) (fun cenv s₄ =>
      codeAny (model prog w) A (.compStart (.ListComp elt [⟨target, iter, [], 0⟩] scope pos) 0 (.ref I) acc { cenv with scope := relabel scope env }) (RR acc cenv.locals) s₄) NE s₃) NE c₂.s :=
  compG_core (J := J) (p := fun _ => true) (f := f) (RR := RR) T hA hcell hkind hx nd hsz hds so₀ k₀ W hst hfp hwr htw hVt hZ hZM hZg hjf hJf hJ₀
    (fun i ds e H' C c₁ h1 _ _ _ _ => ⟨rfl, fun _ c₂ _ so₂ j => hbody i (List.getElem?_eq_some_iff.mp e).1 H' C c₂ h1 so₂ j⟩) (fun _ _ q => by cases q) hfin

theorem picks_true {f : Nat → D} {n : Nat} : picks (fun _ => true) f n = (List.range n).map f := by
  unfold picks; rw [List.filter_eq_self.mpr fun _ _ => rfl]
/-- a comprehension whose turns change what lies at Z -/
theorem ev_compZ {elt target iter : Expr} {scope : Scope} {pos : Pos} {names : List Str} {items : List (List D)} {f : Nat → D} {Z jf : List Addr} {J : Nat → Heap → Prop}
    (so : SOk g₀ H c) (T : Tgt target names) (hA : A.handled = none) (hI : IS prog w g₀ A H env c iter target items) (hsz : items.length ≤ sizeLine) (hds : ∀ ds ∈ items, ds.length = names.length)
    (hZ : ∀ b ∈ Z, b ∈ H) (hZM : ∀ b ∈ Z, b ∉ MUT) (hZg : ∀ b ∈ Z, g₀.get? b = none) (hjf : ∀ b ∈ jf, b ∉ MUT ∧ ∃ o, c.heap.get? b = some o) (hJf : ∀ i h h', J i h → (∀ b ∈ jf, ∀ o, h.get? b = some o → h'.get? b = some o) → J i h') (hJ₀ : J 0 c.heap)
    (hbody : ∀ i, i < items.length → ∀ H' C c₁, (∀ b ∈ H, b ∈ H') → SOk g₀ H' c₁ → J i c₁.heap →
      wpAny (model prog w) A (eval elt (cEnv env scope C)) (GotZ Z H' c₁ (f i) (J (i + 1))) NE c₁.s)
    (hc : cchk env scope names [] = true := by rfl) (nd : names.Nodup := by decide) (hs : ∀ x, foldedSetIterable iter env x = pure x := by intro _; rfl) (hkind : scope.kind = .function := by rfl) :
    wpAny (model prog w) A (eval (.ListComp elt [⟨target, iter, [], 0⟩] scope pos) env) (fun v s' => ∃ c', c'.s = s' ∧ Kx Z c c' ∧ Rep H c' (.list ((List.range items.length).map f)) v) NE c.s := by
  have hc' := hc
  unfold cchk at hc'
  simp only [Bool.and_eq_true] at hc'
  obtain ⟨⟨⟨⟨h1, h2⟩, h3⟩, h4⟩, h5⟩ := hc'
  rw [eval_ListComp]
  refine wpAny_comprehension_free (use := none) rfl hs (closure_eq (env := env) (scope := scope) fun x hx hf => ?_) hkind (fun x hx hl => ?_) (ne_mono (hI c (.refl _) so) fun xv s₁ h₁ => ne_mono h₁ fun it s₂ h₂ => ?_)
  · have := List.all_eq_true.mp h1 x hx
    simp [hf] at this; simpa using this
  · have := List.all_eq_true.mp h3 x hx
    simpa [hl] using this
  obtain ⟨c₂, I, fp, wr, Vt, St, rfl, k₂, rfl, W, hst, hfp, hwr, htw, hVt⟩ := h₂
  refine compZ_core (RR := fun acc C => compPost (model prog w) A NE none (fun v s' => ∃ c', c'.s = s' ∧ Kx Z c c' ∧ Rep H c' (.list ((List.range items.length).map f)) v) acc C) T hA (fun y hy q => ?_) hkind (fun x hx => ?_) nd hsz hds so k₂ W hst hfp hwr htw hVt hZ hZM hZg hjf hJf hJ₀
    (fun i hi H' C c₁ h1 h3 h4 => hbody i hi H' C c₁ h1 h3 h4) fun C D c₃ m' k₃ hCD nC nD so₃ hn r ht => ?_
  · have := List.all_eq_true.mp h2 y hy
    simp [q] at this
  · simpa using List.all_eq_true.mp h4 x hx
  refine ⟨m', hn, fun h'' hs'' => ?_⟩
  have hCH : C ∉ H := so.fresh nC
  have al : ∀ b, (∃ o, c₃.heap.get? b = some o) → b ≠ C → ∃ o, h''.get? b = some o := fun b ⟨o, e⟩ q => ⟨o, hs''.extBut b o q e⟩
  have ne : ∀ b o, c.heap.get? b = some o → b ≠ C := fun b o e q => by rw [q, nC] at e; cases e
  rw [picks_true] at r
  refine ⟨c₃.put h'' c₃.s.toks, rfl, ⟨by obtain ⟨h, tk, e⟩ := k₃.same; exact ⟨h'', c₃.s.toks, by show ({ c₃.s with heap := h'', toks := c₃.s.toks } : Shared) = _; rw [e]⟩, fun b o hb hz e => hs''.extBut b o (ne b o e) (k₃.kp b o hb hz e), k₃.tk, k₃.gh,
    fun b ⟨o, e⟩ => al b (k₃.al b ⟨o, e⟩) (ne b o e), fun Hx hz hl t => (ht Hx hz hl t).move (fun b hb o e => hs''.extBut b o (fun q => hCH (so.mt b hb |> fun z => q ▸ z)) e) (fun b o hb e => hs''.extBut b o (fun q => hb (by rw [q]; exact List.mem_cons_self)) e) fun b hb => .inl (List.mem_cons_of_mem _ hb)⟩, ?_⟩
  exact r.move (H' := H) (c' := c₃.put h'' c₃.s.toks) ⟨fun b o hb e => hs''.extBut b o (fun q => hb (by rw [q]; exact List.mem_cons_self)) e, Nat.le_refl _, fun _ _ => rfl⟩ fun b hb => .inl (List.mem_cons_of_mem _ hb)
end
end Mine
end
noncomputable section
open PySem PySem.W PyProof.Rows
namespace Mine
open PySem.Calls

section
variable {prog : Program} {w : World} {g₀ : Heap} {A : Around} {H H₀ X : List Addr} {env : Env} {c₀ c c' : Cf} {K : Frag} {ρ : List (Str × D)}
theorem vars_nil : Vars H env c [] := fun x d e => by cases e
theorem call_next_list {it l : Addr} {i : Nat} {items : Array Value} {x : Value} {s : Shared} {E : Value → Shared → Prop} {Q : Value → Shared → Prop} (hit : s.heap.IsListIter it l i) (hl : s.heap.IsList l items) (hx : items[i]? = some x)
    (hQ : ∀ h', h'.IsListIter it l (i + 1) → Heap.SameBut it s.heap h' → Q x { s with heap := h' }) : wpAny (model prog w) A (call (.builtin "next") [.ref it]) Q E s := by
  obtain ⟨o, ho, hc, hd⟩ := id hit
  obtain ⟨ol, hol, _, nl, hdl⟩ := hl
  refine call_function_entry (by decide +kernel) (by decide +kernel) kdk_entry_next (kdk_args_next _) ?_
  unfold Builtin.«next»
  refine wpAny_bind (m := someArgs "next" 1 2 _) (wpAny_of_eq (a := [Value.ref it]) (by first | rfl | kernel_rfl!) ?_)
  dsimp only
  refine wpAny_bind (wpAny_specialOf (name := Str.ofString "__next__") hit.typeIs slot_listiter_next.lookup ?_)
  refine wpAny_ite_split (fun hab => absurd hab (by decide)) (fun _ => ?_)
  refine wpAny_bind (wpAny_callSpecial?_slot (name := Str.ofString "__next__") hit.typeIs slot_listiter_next
    (wpAny_call_entry slot_listiter_next hit.typeIs entry_listiter_next ?_ (args_listiter_next _)))
  show wpAny _ _ (field (.ref it) 0 >>= _) _ _ s
  refine wpAny_bind (wpAny_field ho hd (x := .ref l) rfl ?_)
  show wpAny _ _ (if (Value.ref l == Value.none) = true then _ else _) _ _ s
  rw [if_neg (show ¬ ((Value.ref l == Value.none) = true) from Bool.false_ne_true)]
  show wpAny _ _ (field (.ref it) 1 >>= _) _ _ s
  refine wpAny_bind (wpAny_field ho hd (x := .int i 0) rfl ?_)
  show wpAny _ _ (seqItems? (.ref l) >>= _) _ _ s
  refine wpAny_bind (wpAny_seqItems hol hdl ?_)
  simp only [Int.toNat_natCast, hx]
  refine wpAny_bind (wpAny_setField ho hd (by simp) (wpAny_pure ⟨x, rfl, wpAny_pure ⟨_, rfl, hQ _ ?_ (Heap.SameBut.update ..)⟩⟩))
  exact ⟨_, Heap.get?_update_self _ ho (Obj.isFreed_of_fields (Obj.data_mapFields hd _)), (Obj.cls_mapFields ..).trans hc, by
    rw [Obj.data_mapFields hd]; simp [rawInt]⟩
theorem call_iter_list {l : Addr} {items : Array Value} {s : Shared} {E : Value → Shared → Prop} {Q : Value → Shared → Prop} (hl : s.heap.IsList l items)
    (hQ : Q (.ref s.heap.objs.size) { s with heap := s.heap.push { cls := .type "list_iterator", data := .fields #[.ref l, .int 0 0] } }) : wpAny (model prog w) A (call (.builtin "iter") [.ref l]) Q E s := by
  refine call_function_entry (by decide +kernel) (by decide +kernel) kdk_entry_iter (kdk_args_iter _) ?_
  unfold Builtin.«iter»
  refine wpAny_bind (m := someArgs "iter" 1 2 _) (wpAny_of_eq (a := [Value.ref l]) (by first | rfl | kernel_rfl!) ?_)
  show wpAny _ _ (pyIter (.ref l) >>= _) _ _ _
  refine wpAny_bind (wpAny_pyIter_list hl ?_)
  exact wpAny_pure ⟨_, rfl, hQ⟩

/-- an iterator over a list of ints, under a name -/
structure Tape (X : List Addr) (env : Env) (c : Cf) (x : Str) (I l : Addr) (os : List Int) (k : Nat) : Prop where
  look : LookAt env c.heap x (.ref I)
  mem : I ∈ X
  nl : I ≠ env.locals
  nc : ∀ y, env.cells.lookup y ≠ some I
  it : c.heap.IsListIter I l k
  lM : l ∉ MUT
  ll : l ≠ env.locals
  lc : ∀ y, env.cells.lookup y ≠ some l
  lI : l ≠ I
  li : ∃ vs, c.heap.IsList l vs.toArray ∧ IntsAre vs os
theorem Tape.stp {x : Str} {I l : Addr} {os : List Int} {k : Nat} {xs : List Str} (T : Tape X env c x I l os k) (F : Frm g₀ H₀ X env c₀ c) (S : Stp env xs c c') (hx : x ∉ xs) : Tape X env c' x I l os k := by
  obtain ⟨vs, h1, h2⟩ := T.li
  exact ⟨S.look x _ hx T.look, T.mem, T.nl, T.nc, T.it.at fun o e => S.obj I o (F.nm I T.mem) T.nl (fun y _ => T.nc y) e, T.lM, T.ll, T.lc, T.lI, vs, h1.at fun o e => S.obj l o T.lM T.ll (fun y _ => T.lc y) e, h2⟩
theorem Tape.kp {x : Str} {I l : Addr} {os : List Int} {k : Nat} (T : Tape X env c x I l os k) (F : Frm g₀ H₀ X env c₀ c) (kk : Kp c c') : Tape X env c' x I l os k := by
  obtain ⟨vs, h1, h2⟩ := T.li
  exact ⟨T.look.keep fun b o hb e => kk.keep hb e, T.mem, T.nl, T.nc, T.it.at fun o e => kk.keep (F.nm I T.mem) e, T.lM, T.ll, T.lc, T.lI, vs, h1.at fun o e => kk.keep T.lM e, h2⟩
theorem look_iter {C l : Addr} {k : Nat} {h h'' : Heap} (hC : h.IsListIter C l k) (hs : ∀ b o, b ≠ C → h.get? b = some o → h''.get? b = some o) {x : Str} {v : Value} (lk : LookAt env h x v) : LookAt env h'' x v := by
  obtain ⟨oC, hC, _, hd⟩ := hC
  obtain ⟨kk, lk⟩ := lk
  refine ⟨kk, ?_⟩
  rcases lk with ⟨e, hM, m', ⟨o', es, ep, e', hd', r⟩, hx⟩ | ⟨e, a, ha, hM, ⟨o', ho, hd'⟩⟩
  · refine .inl ⟨e, hM, m', ⟨o', es, ep, hs _ o' (fun q => ?_) e', hd', r⟩, hx⟩
    rw [q, hC] at e'; cases e'; rw [hd] at hd'; cases hd'
  · refine .inr ⟨e, a, ha, hM, o', hs a o' (fun q => ?_) ho, hd'⟩
    rw [q, hC] at ho; cases ho; rw [hd] at hd'; cases hd'
theorem int_at {vs : List Value} {os : List Int} {k : Nat} {o : Int} (r : IntsAre vs os) (e : os[k]? = some o) : ∃ t, vs[k]? = some (.int o t) := by
  induction r generalizing k with
  | nil => cases e
  | cons n t _ ih =>
    cases k with
    | zero => cases e; exact ⟨t, rfl⟩
    | succ k => exact ih e
/-- b = next(x) -/
theorem sx_next {x b : Str} {p pn pa pos : Pos} {cp : Pos} {rest : List Stmt} {Q : Flow → Shared → Prop} {nn : Str} {I l : Addr} {os : List Int} {k : Nat} {o : Int} (G : Gd K g₀) (nm : GName K env nn (.builtin "next"))
    (F : Frm g₀ H₀ X env c₀ c) (V : Vars (X ++ H₀) env c ρ) (T : Tape X env c x I l os k) (hk : os[k]? = some o)
    (hn : ∀ c', Kx (I :: slots env [b]) c c' → Frm g₀ H₀ X env c₀ c' → Vars (X ++ H₀) env c' ((b, .int o) :: ρ) → Tape X env c' x I l os (k + 1) → SX prog w A env rest Q c')
    (hx : env.kindOf b = some .local ∨ env.kindOf b = some .cell := by first | exact .inl rfl | exact .inr rfl) (hs : swapsWith (.Call (.Name nn pn) [.Name x pa] [] cp) (some (.Name b p)) pos.line env = pure false := by rfl)
    (hxb : x ≠ b := by decide) (hd : (x == ("__debug__" : Str)) = false := by rfl) (hcd : (x == ("__classdict__" : Str)) = false := by rfl) :
    SX prog w A env (.Assign [.Name b p] (.Call (.Name nn pn) [.Name x pa] [] cp) pos :: rest) Q c := by
  refine sx_cons (wpAny_Assign_Name ?_ hs)
  refine Call_Name rfl (name_g G F.so nm ?_)
  refine PyProof.Rows.callWith_builtin1 (wpAny_items_cons (wpAny_Name (loadName_at T.look (wpAny_items_nil ?_) hcd) hd) rfl) rfl rfl
  obtain ⟨vs, hl, hi⟩ := T.li
  obtain ⟨t, ht⟩ := int_at hi hk
  refine call_next_list T.it hl (by simpa using ht) fun h' hit' hs' => ?_
  have keep : ∀ b o, b ≠ I → c.heap.get? b = some o → h'.get? b = some o := fun b o hb e => hs'.extBut b o hb e
  have kI : Kx [I] c (c.put h' c.s.toks) := Kx.put (fun b o hb e => keep b o (fun q => hb (by rw [q]; exact List.mem_cons_self)) e) (fun b hb => by rw [List.mem_singleton.mp hb]; exact F.nm I T.mem)
    (fun b hb => by rw [List.mem_singleton.mp hb]; obtain ⟨o, e, _⟩ := hit'; exact ⟨o, e⟩) (Nat.le_refl _)
  have hs1 : ∀ b ∈ [I], b ∈ X ++ H₀ := fun b hb => by rw [List.mem_singleton.mp hb]; exact List.mem_append_left _ T.mem
  have F' : Frm g₀ H₀ X env c₀ (c.put h' c.s.toks) := by
    refine F.kx (kI.mono fun b hb => by rw [List.mem_singleton.mp hb]; exact T.mem) ?_ fun y a hy ha => ?_
    · obtain ⟨m, hm⟩ := F.ns; exact ⟨m, ns_keep hm fun o e => keep _ o (Ne.symm T.nl) e⟩
    · obtain ⟨a', ov, h1, _, h3⟩ := F.own y hy
      rw [ha] at h1; cases h1
      exact ⟨ov, cell_keep h3 fun o e => keep a o (fun q => T.nc y (q ▸ ha)) e⟩
  have V' : Vars (X ++ H₀) env (c.put h' c.s.toks) ρ := fun y d q => by
    obtain ⟨v, lk, rr⟩ := V y d q
    exact ⟨v, look_iter T.it keep lk, rr.kx F.so kI hs1⟩
  have T' : Tape X env (c.put h' c.s.toks) x I l os (k + 1) := ⟨look_iter T.it keep T.look, T.mem, T.nl, T.nc, hit', T.lM, T.ll, T.lc, T.lI, vs, hl.at fun o e => keep l o T.lI e, hi⟩
  show wpAny _ _ _ _ _ (c.put h' c.s.toks).s
  refine store_var F' V' hx (Rep.int (i := o) (t := t)) fun c₂ S₂ F₂ V₂ => ?_
  exact hn c₂ ((kI.mono fun b hb => by rw [List.mem_singleton.mp hb]; exact List.mem_cons_self).trans (S₂.kx.mono fun b hb => List.mem_cons_of_mem _ hb)) F₂ V₂ (T'.stp F' S₂ (fun q => hxb (List.mem_singleton.mp q)))
noncomputable def IOp (prog : Program) (w : World) (g₀ : Heap) (A : Around) (op : Operator) (d1 d2 d : D) : Prop :=
  ∀ H c v1 v2, SOk g₀ H c → Rep H c d1 v1 → Rep H c d2 v2 → wpAny (model prog w) A (inplaceOp op v1 v2) (Got H c d) NE c.s
theorem iop_shl {a b : Int} (hn : 0 ≤ b) (hsz : (Builtin.Int.intBits a : Int) + b ≤ 2 ^ 27) : IOp prog w g₀ A .LShift (.int a) (.int b) (.int (a * 2 ^ b.toNat)) := fun H c v1 v2 so r1 r2 => by
  obtain ⟨t, rfl⟩ := r1.int_inv; obtain ⟨u, rfl⟩ := r2.int_inv; exact PyProof.Rows.ilshift_int hn hsz Got.int
theorem iop_or {a b : Int} : IOp prog w g₀ A .BitOr (.int a) (.int b) (.int (Builtin.bitOr a b)) := fun H c v1 v2 so r1 r2 => by
  obtain ⟨t, rfl⟩ := r1.int_inv; obtain ⟨u, rfl⟩ := r2.int_inv; exact PyProof.Rows.ior_int Got.int
theorem sx_aug {x : Str} {e : Expr} {op : Operator} {p pos : Pos} {rest : List Stmt} {d1 d2 d : D} {Q : Flow → Shared → Prop} (F : Frm g₀ H₀ X env c₀ c) (V : Vars (X ++ H₀) env c ρ) (hv : ρ.lookup x = some d1) (h : EV prog w g₀ A (X ++ H₀) env c e d2) (ho : IOp prog w g₀ A op d1 d2 d)
    (hn : ∀ c', Stp env [x] c c' → Frm g₀ H₀ X env c₀ c' → Vars (X ++ H₀) env c' ((x, d) :: ρ) → SX prog w A env rest Q c')
    (hx : env.kindOf x = some .local ∨ env.kindOf x = some .cell := by first | exact .inl rfl | exact .inr rfl) (hcd : (x == ("__classdict__" : Str)) = false := by rfl) :
    SX prog w A env (.AugAssign (.Name x p) op e pos :: rest) Q c := by
  obtain ⟨v, lk, r⟩ := V x d1 hv
  refine sx_cons (wpAny_AugAssign_Name (loadName_at lk (got_then (h c (.refl _) F.so) F.so fun u c' k so r' => ?_) hcd))
  refine got_then (ho (X ++ H₀) c' v u so (r.kp F.so k) r') so fun y c₂ k₂ so₂ r₂ => ?_
  exact store_var ((F.kp k).kp k₂) ((V.kp F.so k).kp so k₂) hx r₂ fun c'' S F' V' => hn c'' (Stp.kp F (k.trans k₂) S) F' V'

/-- the base of a frame without one object, which becomes the frame's own -/
theorem Frm.hide {I : Addr} (F : Frm g₀ H X env c₀ c) (hI : I ∈ H) (hM : I ∉ MUT) (hg : g₀.get? I = none) : Frm g₀ (H.filter (· != I)) (I :: X) env ⟨{ c₀.s with heap := hideAll c₀.heap [I] }, c₀.τ⟩ c := by
  have hn : (hideAll c₀.heap [I]).get? I = none := hideAll_none _ (List.mem_cons_self)
  have hk : ∀ b o, b ≠ I → c₀.heap.get? b = some o → (hideAll c₀.heap [I]).get? b = some o := fun b o hb e => hideAll_get _ e (fun q => hb (List.mem_singleton.mp q))
  have ho : ∀ b o, (hideAll c₀.heap [I]).get? b = some o → c₀.heap.get? b = some o := fun b o e => of_hideAll _ e
  have ne : ∀ {b : Addr} {o}, (hideAll c₀.heap [I]).get? b = some o → b ≠ I := fun e q => by rw [q, hn] at e; cases e
  have tb : ∀ Hx, TabOk Hx (hideAll c₀.heap [I]) → TabOk (I :: Hx) c₀.heap := fun Hx t => t.move (fun b _ o e => ho b o e) (fun b o _ e => ho b o e) fun b hb => (List.mem_cons.mp hb).elim (fun q => .inr (q ▸ hn)) .inl
  have mf : ∀ {b}, b ∈ H → b ≠ I → b ∈ H.filter (· != I) := fun hb q => List.mem_filter.mpr ⟨hb, by simpa using q⟩
  have fm : ∀ {b}, b ∈ H.filter (· != I) → b ∈ H ∧ b ≠ I := fun hb => ⟨(List.mem_filter.mp hb).1, by simpa using (List.mem_filter.mp hb).2⟩
  refine ⟨F.kind, ⟨fun b hb => ?_, fun b hb => mf (F.so₀.mt b hb) (fun q => hM (q ▸ hb)), F.so₀.gm, fun b o e => hk b o (fun q => by rw [q, hg] at e; cases e) (F.so₀.base b o e), ?_, F.so₀.pos, F.so₀.nb⟩, ⟨?_, fun b o hb _ e => F.k.keep hb (ho b o e), F.k.tk, F.k.gh, fun b ⟨o, e⟩ => F.k.al b ⟨o, ho b o e⟩, fun Hx _ hl t => ?_⟩, ?_, fun b hb => ?_, fun Hx hl t => ?_, List.mem_cons_of_mem _ F.L, fun x hx => ?_, F.apart, F.ns, F.cal, F.cM⟩
  · obtain ⟨h1, h2⟩ := fm hb
    obtain ⟨o, e⟩ := F.so₀.low b h1
    exact ⟨o, hk b o h2 e⟩
  · exact F.so₀.tab.move (fun b hb o e => hk b o (fun q => hM (q ▸ hb)) e) (fun b o hb e => hk b o (fun q => hb (q ▸ hI)) e) fun b hb => .inl (fm hb).1
  · obtain ⟨h, tk, e⟩ := F.k.same; exact ⟨h, tk, by rw [e]⟩
  · have t1 := F.k.tab (I :: Hx) (fun _ q => by cases q) (fun b hb => (List.mem_cons.mp hb).elim (fun q => q ▸ F.so₀.low I hI) fun q => by obtain ⟨o, e⟩ := hl b q; exact ⟨o, ho b o e⟩) (tb Hx t)
    exact t1.sub fun b hb => List.mem_cons_of_mem _ hb
  · refine F.so.sub (fun b hb => ?_) fun b hb => List.mem_append_right _ (mf (F.so₀.mt b hb) fun q => hM (q ▸ hb))
    rcases List.mem_append.mp hb with q | q
    · rcases List.mem_cons.mp q with rfl | q
      · exact List.mem_append_right _ hI
      · exact List.mem_append_left _ q
    · exact List.mem_append_right _ (fm q).1
  · rcases List.mem_cons.mp hb with rfl | hb
    · exact hn
    · cases e : (hideAll c₀.heap [I]).get? b with
      | none => rfl
      | some o => have := ho b o e; rw [F.new b hb] at this; cases this
  · have t1 := F.tab (I :: Hx) (fun b hb => (List.mem_cons.mp hb).elim (fun q => q ▸ F.so₀.low I hI) fun q => by obtain ⟨o, e⟩ := hl b q; exact ⟨o, ho b o e⟩) (tb Hx t)
    exact t1.sub fun b hb => (List.mem_append.mp hb).elim (fun q => (List.mem_cons.mp q).elim (fun q => List.mem_append_right _ (by rw [q]; exact List.mem_cons_self)) (List.mem_append_left _)) fun q => List.mem_append_right _ (List.mem_cons_of_mem _ q)
  · obtain ⟨a, ov, h1, h2, h3⟩ := F.own x hx
    exact ⟨a, ov, h1, List.mem_cons_of_mem _ h2, h3⟩
theorem TabAt.add {I : Addr} {Hx : List Addr} {h : Heap} {P : Addr} {ln : Int} {q : Str} (t : TabAt (Hx.filter (· != I)) h P ln q) (hnc : ∀ q, ¬ h.CodeRec (.ref I) q) : TabAt Hx h P ln q := by
  obtain ⟨ps, e, r⟩ := t
  refine ⟨ps, e, r.imp id fun zz => ?_⟩
  obtain ⟨c', h1, h2, h3⟩ := zz
  refine ⟨c', fun hc => h1 (List.mem_filter.mpr ⟨hc, ?_⟩), h2, h3⟩
  simp only [bne_iff_ne, ne_eq]
  intro q'
  exact hnc _ (q' ▸ h3)
/-- back to the true base -/
theorem Kp.unhide {I : Addr} (k : Kp ⟨{ c₀.s with heap := hideAll c₀.heap [I] }, c₀.τ⟩ c) (hI' : ∃ o, c.heap.get? I = some o) (hM : I ∉ MUT) (hnc : ∀ q, ¬ c.heap.CodeRec (.ref I) q) : Kx [I] c₀ c := by
  have hn : (hideAll c₀.heap [I]).get? I = none := hideAll_none _ (List.mem_cons_self)
  have hk : ∀ b o, b ≠ I → c₀.heap.get? b = some o → (hideAll c₀.heap [I]).get? b = some o := fun b o hb e => hideAll_get _ e (fun q => hb (List.mem_singleton.mp q))
  refine ⟨?_, fun b o hb hX e => k.keep hb (hk b o (fun q => hX (by rw [q]; exact List.mem_cons_self)) e), k.tk, k.gh, fun b ⟨o, e⟩ => ?_, fun Hx hX hl t => ?_⟩
  · obtain ⟨h, tk, e⟩ := k.same; exact ⟨h, tk, by rw [e]⟩
  · by_cases q : b = I
    · rw [q]; exact hI'
    · exact k.al b ⟨o, hk b o q e⟩
  · have hIx : I ∈ Hx := hX I List.mem_cons_self
    have t1 : TabOk (Hx.filter (· != I)) (hideAll c₀.heap [I]) := t.move (fun b hb o e => hk b o (fun q => hM (q ▸ hb)) e) (fun b o hb e => hk b o (fun q => hb (q ▸ hIx)) e) fun b hb => .inl (List.mem_filter.mp hb).1
    have t2 := k.tab (Hx.filter (· != I)) (fun _ q => by cases q) (fun b hb => by
      obtain ⟨h1, h2⟩ := List.mem_filter.mp hb
      obtain ⟨o, e⟩ := hl b h1
      exact ⟨o, hk b o (by simpa using h2) e⟩) t1
    exact ⟨t2.a.add hnc, t2.b.add hnc⟩
theorem iter_noCode {h : Heap} {I l : Addr} {k : Nat} (x : h.IsListIter I l k) : ∀ q, ¬ h.CodeRec (.ref I) q := fun q zz => by
  obtain ⟨c, o, vs, t, e, e1, e2, e3⟩ := zz
  cases e
  obtain ⟨o', e1', _, e2'⟩ := x
  rw [e1] at e1'; cases e1'
  rw [e2] at e2'; cases e2'
  simp at e3

/-- where a turn of a reading loop ends -/
inductive TnT (g₀ : Heap) (H₀ X : List Addr) (env : Env) (c₀ : Cf) (x : Str) (I l : Addr) (os : List Int) (ρ : List (Str × D)) (k : Nat) (f : Flow) (s' : Shared) : Prop
  | mk (ef : f = .next) (c' : Cf) (es : c'.s = s') (F : Frm g₀ H₀ X env c₀ c') (V : Vars (X ++ H₀) env c' ρ) (T : Tape X env c' x I l os k)
theorem sx_whileT {test : Expr} {body rest : List Stmt} {pos : Pos} {Q : Flow → Shared → Prop} {x : Str} {I l : Addr} {os : List Int} (ρI : Nat → List (Str × D)) (kI : Nat → Nat) (N : Nat)
    (F : Frm g₀ H₀ X env c₀ c) (V : Vars (X ++ H₀) env c (ρI 0)) (T : Tape X env c x I l os (kI 0))
    (htest : ∀ j, j ≤ N → ∀ c', Frm g₀ H₀ X env c₀ c' → Vars (X ++ H₀) env c' (ρI j) → TV prog w g₀ A (X ++ H₀) env c' test (decide (j < N)))
    (hbody : ∀ j, j < N → ∀ c', Frm g₀ H₀ X env c₀ c' → Vars (X ++ H₀) env c' (ρI j) → Tape X env c' x I l os (kI j) → SX prog w A env body (TnT g₀ H₀ X env c₀ x I l os (ρI (j + 1)) (kI (j + 1))) c')
    (hn : ∀ c', Frm g₀ H₀ X env c₀ c' → Vars (X ++ H₀) env c' (ρI N) → Tape X env c' x I l os (kI N) → SX prog w A env rest Q c') : SX prog w A env (.While test body [] pos :: rest) Q c := by
  refine sx_cons (wpAny_While (codeAny_whileLoop (fun m s' => ∃ j c', c'.s = s' ∧ j ≤ N ∧ m = N + 1 - j ∧ Frm g₀ H₀ X env c₀ c' ∧ Vars (X ++ H₀) env c' (ρI j) ∧ Tape X env c' x I l os (kI j)) ?_ (N + 1) ⟨0, c, rfl, Nat.zero_le _, rfl, F, V, T⟩))
  rintro m s' ⟨j, c', rfl, hj, rfl, F, V, T⟩
  refine ne_any (told_then (htest j hj c' F V c' (.refl _) F.so) F.so fun b c₂ k₂ so₂ hb => ?_)
  subst hb
  by_cases h : j < N
  · rw [decide_eq_true h]
    simp only [if_true]
    refine ne_any (ne_mono (hbody j h c₂ (F.kp k₂) (V.kp F.so k₂) (T.kp F k₂)) fun f s₃ h₃ => ?_)
    obtain ⟨rfl, c₃, rfl, F₃, V₃, T₃⟩ := h₃
    exact ⟨N + 1 - (j + 1), by lia, j + 1, c₃, rfl, h, rfl, F₃, V₃, T₃⟩
  · rw [decide_eq_false h]
    simp only [Bool.false_eq_true, if_false]
    obtain rfl : j = N := by lia
    exact wpAny_execs_nil (hn c₂ (F.kp k₂) (V.kp F.so k₂) (T.kp F k₂))

theorem intsAre_rep : ∀ {os : List Int} {vs : List Value}, RepL H c (os.map .int) vs → IntsAre vs os := fun r => intsAre_of r
/-- y = iter(x), x a list of the frame's own -/
theorem sx_iter {x y : Str} {p pn pa cp pos : Pos} {rest : List Stmt} {Q : Flow → Shared → Prop} {nn : Str} {l : Addr} {os : List Int} (G : Gd K g₀) (nm : GName K env nn (.builtin "iter"))
    (F : Frm g₀ H₀ X env c₀ c) (V : Vars (X ++ H₀) env c ρ) (O : Own H₀ X env c x l (os.map .int))
    (hn : ∀ I c', Frm g₀ H₀ (I :: X) env c₀ c' → Vars ((I :: X) ++ H₀) env c' (ρ.filter fun q => q.1 != y) → Tape (I :: X) env c' y I l os 0 → SX prog w A env rest Q c')
    (hy : env.kindOf y = some .local ∨ env.kindOf y = some .cell := by first | exact .inl rfl | exact .inr rfl) (hs : swapsWith (.Call (.Name nn pn) [.Name x pa] [] cp) (some (.Name y p)) pos.line env = pure false := by rfl)
    (hd : (x == ("__debug__" : Str)) = false := by rfl) (hcd : (x == ("__classdict__" : Str)) = false := by rfl) :
    SX prog w A env (.Assign [.Name y p] (.Call (.Name nn pn) [.Name x pa] [] cp) pos :: rest) Q c := by
  refine sx_cons (wpAny_Assign_Name ?_ hs)
  refine Call_Name rfl (name_g G F.so nm ?_)
  refine PyProof.Rows.callWith_builtin1 (wpAny_items_cons (wpAny_Name (loadName_at O.look (wpAny_items_nil ?_) hcd) hd) rfl) rfl rfl
  obtain ⟨vs, n, e, r⟩ := O.at'
  refine call_iter_list (items := vs.toArray) ⟨_, e, rfl, n, rfl⟩ ?_
  have hk : ∀ b o, c.heap.get? b = some o → (c.heap.push { cls := .type "list_iterator", data := .fields #[.ref l, .int 0 0] }).get? b = some o := fun b o e => Heap.get?_push_of_some _ e
  have k : Kp c (c.put (c.heap.push { cls := .type "list_iterator", data := .fields #[.ref l, .int 0 0] }) c.s.toks) := .of hk (Nat.le_refl _)
  have e₁ : (c.heap.push { cls := .type "list_iterator", data := .fields #[.ref l, .int 0 0] }).IsListIter c.heap.objs.size l 0 := ⟨_, Heap.get?_push_size _ rfl, rfl, rfl⟩
  have F₁ := F.grow (c' := c.put (c.heap.push { cls := .type "list_iterator", data := .fields #[.ref l, .int 0 0] }) c.s.toks) k hk (get_size _) ⟨_, Heap.get?_push_size _ rfl⟩
  have V₁ := V.grow F k (get_size c.heap)
  have ne : ∀ {b o}, c.heap.get? b = some o → b ≠ c.heap.objs.size := fun e q => by rw [q, get_size] at e; cases e
  have nl : c.heap.objs.size ≠ env.locals := fun q => by obtain ⟨m, o, _, _, e, _⟩ := F.ns; exact ne e q.symm
  have nc : ∀ y, env.cells.lookup y ≠ some c.heap.objs.size := fun y q => by obtain ⟨o, e⟩ := F.cal y _ q; exact ne e rfl
  show wpAny _ _ _ _ _ (c.put (c.heap.push { cls := .type "list_iterator", data := .fields #[.ref l, .int 0 0] }) c.s.toks).s
  refine store_raw F₁ hy fun c₂ S F₂ lk => ?_
  refine hn _ c₂ F₂ (fun z d q => ?_) ⟨lk, List.mem_cons_self, nl, nc, e₁.at fun o e => S.obj _ o (F₁.nm _ List.mem_cons_self) nl (fun y _ => nc y) e, F.nm l O.mem, O.nl, O.nc, ne e, vs,
    (show (c.heap.push { cls := .type "list_iterator", data := .fields #[.ref l, .int 0 0] }).IsList l vs.toArray from ⟨_, hk _ _ e, rfl, n, rfl⟩).at fun o e => S.obj l o (F.nm l O.mem) O.nl (fun y _ => O.nc y) e, intsAre_of r⟩
  obtain ⟨h1, h2⟩ := lookup_filter q
  obtain ⟨v, l', r⟩ := V₁ z d h2
  exact ⟨v, S.look z v (fun q => h1 (List.mem_singleton.mp q)) l', r.kx F₁.so S.kx (F₁.sh _)⟩
end
end Mine
end
noncomputable section
open PySem PySem.W PyProof.Rows
namespace Mine
open PySem.Calls

theorem bits_le {a : Int} {k : Nat} (h : a.natAbs < 2 ^ k) : Builtin.Int.intBits a ≤ k := by
  unfold Builtin.Int.intBits
  by_cases h0 : a = 0
  · simp [h0]
  · have : (a == 0) = false := by simpa using h0
    rw [this]
    simp only [Bool.false_eq_true, if_false]
    have := (Nat.log2_lt (n := a.natAbs) (k := k) (by lia)).mpr h
    lia

/-- what the two nested defs need -/
structure Gn (g₀ : Heap) : Prop where
  c1 : CodeHd g₀ 48 44
  c2 : CodeHd g₀ 55 51
  bm : ∀ P ∈ MUT, ∃ mg, g₀.Ns mainGlobals mg ∧ g₀.BuiltinsAt mg P

section
variable {prog : Program} {w : World} {g₀ : Heap} {A : Around} {H H₀ X : List Addr} {env : Env} {c₀ c c' : Cf} {K : Frag} {ρ : List (Str × D)}
theorem tab_noCode {H : List Addr} {h : Heap} {P : Addr} {ln : Int} {q : Str} (t : TabAt H h P ln q) : ∀ q', ¬ h.CodeRec (.ref P) q' := fun q' zz => by
  obtain ⟨c, o, vs, t', e, e1, e2, e3⟩ := zz
  cases e
  obtain ⟨ps, e4, r⟩ := t
  rw [e4] at e1; cases e1
  cases e2
  rcases r with rfl | ⟨c', _, rfl, _⟩
  · simp at e3
  · simp [rawInt] at e3
theorem TabAt.keepBut {H : List Addr} {h h' : Heap} {P P' : Addr} {ln : Int} {q : Str} (x : TabAt H h P' ln q) (hne : P' ≠ P) (hk : ∀ b o, b ≠ P → h.get? b = some o → h'.get? b = some o) (hnc : ∀ q, ¬ h.CodeRec (.ref P) q) : TabAt H h' P' ln q := by
  obtain ⟨ps, e, r⟩ := x
  refine ⟨ps, hk _ _ hne e, r.imp id fun zz => ?_⟩
  obtain ⟨c', h1, h2, h3⟩ := zz
  refine ⟨c', h1, h2, ?_⟩
  have hc : c' ≠ P := fun z => hnc q (z ▸ h3)
  obtain ⟨c, o, vs, t, e1, e2, e3⟩ := h3
  cases e1
  exact ⟨c', o, vs, t, rfl, hk _ _ hc e2, e3⟩
structure IsTab (P cc : Addr) (ln : Int) (qual : Str) : Prop where
  mem : P ∈ MUT
  at' : ∀ {H h}, TabOk H h → TabAt H h P ln qual
  upd : ∀ {H h h'}, TabOk H h → (∀ b o, b ≠ P → h.get? b = some o → h'.get? b = some o) → TabAt H h' P ln qual → TabOk H h'
  hd : ∀ {h}, Gn h → CodeHd h cc P
theorem isTab1 : IsTab 44 48 73 "_int2digits.<locals>.inner" := ⟨by decide, fun t => t.a, fun t hk x => ⟨x, t.b.keepBut (by decide) hk (tab_noCode t.a)⟩, fun g => g.c1⟩
theorem isTab2 : IsTab 51 55 88 "_digits2int.<locals>.inner" := ⟨by decide, fun t => t.b, fun t hk x => ⟨t.a.keepBut (by decide) hk (tab_noCode t.b), x⟩, fun g => g.c2⟩

/-- a nested def -/
theorem sx_def {name : Str} {params : Arguments} {fbody rest : List Stmt} {scope : Scope} {pos : Pos} {P cc : Addr} {ln : Int} {qual : Str} {Q : Flow → Shared → Prop} (gn : Gn g₀) (T : IsTab P cc ln qual)
    (F : Frm g₀ H₀ X env c₀ c) (V : Vars (X ++ H₀) env c ρ) (hcode : env.code = .ref cc) (hln : (pos.line : Int) = ln) (hcol : (pos.col : Int) = 4)
    (hn : ∀ f cd ctv doc pm c', Stp env [name] c c' → Frm g₀ H₀ X env c₀ c' → Vars (X ++ H₀) env c' (ρ.filter fun q => q.1 != name) → LookAt env c'.heap name (.ref f) → c.heap.get? f = none →
      c'.heap.get? f = some { cls := .type "function", data := .func (fnX name qual params fbody scope (clOf env scope.names []) .none .none doc pm none (.ref cd) ctv) } → c'.heap.CodeRec (.ref cd) qual → cd ∉ MUT → SX prog w A env rest Q c')
    (hge : env.globals = mainGlobals := by rfl) (hq : qualnameIn env name name = qual := by rfl) (hd0 : params.defaults = [] := by rfl) (hk0 : params.kw_defaults = [] := by rfl) (ha : annTrees params none env = [] := by rfl)
    (hfr : scope.names.all (fun x => x.2 != .free || (env.cells.lookup x.1).isSome) = true := by rfl)
    (hx : env.kindOf name = some .cell := by rfl) :
    SX prog w A env (.FunctionDef name params fbody [] none [] scope none name pos :: rest) Q c := by
  refine sx_cons (nestDef_K hd0 hk0 ha ?_)
  rw [hq]
  have hcl : closureFor scope env = pure (clOf env scope.names []) := closure_eq fun x hx hf => by
    have := List.all_eq_true.mp hfr x hx
    simp [hf] at this; simpa using this
  obtain ⟨mg, hg, hb⟩ := gn.bm P T.mem
  have hg' : c.heap.Ns mainGlobals mg := hg.keeps F.so.base
  have hb' : c.heap.BuiltinsAt mg P := by
    obtain ⟨bm, o, h1, h2, h3, h4, h5, h6⟩ := hb
    exact ⟨bm, o, h1, h2, h3, h4, F.so.base _ _ h5, h6⟩
  have C : CodeHd c.heap cc P := (T.hd gn).keeps F.so.base
  have PX : P ∉ X := fun q => F.nm P q T.mem
  have hPH : P ∈ X ++ H₀ := F.so.mt P T.mem
  have hgP : mainGlobals ≠ P := fun q => by
    obtain ⟨o, es, ep, e, _⟩ := hg
    rw [q, F.so.gm P T.mem] at e; cases e
  -- what comes after the making
  have fin : ∀ (c₁ : Cf) (f cd : Addr) (ctv doc pm : Value), Kp c c₁ → c.heap.get? f = none → c₁.heap.get? f = some { cls := .type "function", data := .func (fnX name qual params fbody scope (clOf env scope.names []) .none .none doc pm none (.ref cd) ctv) } →
      c₁.heap.CodeRec (.ref cd) qual → cd ∉ MUT → wpAny (model prog w) A (storeName env name (.ref f)) (fun _ s'' => Aft prog w A env rest Q .next s'') NE c₁.s := by
    intro c₁ f cd ctv doc pm k nf ef ec hcd
    have F₁ := F.kp k
    have V₁ := V.kp F.so k
    have fM : f ∉ MUT := fun q => by obtain ⟨o, e⟩ := F.so.low f (F.so.mt f q); rw [nf] at e; cases e
    have fL : f ≠ env.locals := fun q => by obtain ⟨m, o, _, _, e, _⟩ := F.ns; rw [q, e] at nf; cases nf
    have fC : ∀ y, env.cells.lookup y ≠ some f := fun y q => by obtain ⟨o, e⟩ := F.cal y f q; rw [nf] at e; cases e
    refine store_raw F₁ (.inr hx) fun c₂ S F₂ lk => ?_
    refine hn f cd ctv doc pm c₂ (Stp.kp F k S) F₂ (fun z d q => ?_) lk nf (S.obj f _ fM fL (fun y _ => fC y) ef) ?_ hcd
    · obtain ⟨h1, h2⟩ := lookup_filter q
      obtain ⟨v, l', r⟩ := V₁ z d h2
      exact ⟨v, S.look z v (fun q => h1 (List.mem_singleton.mp q)) l', r.kx F₁.so S.kx (F₁.sh _)⟩
    · obtain ⟨c', o, vs, t, e1, e2, e3, e4⟩ := ec
      cases e1
      have ne : ∀ {b}, (∃ es ep, ∃ o, c₁.heap.get? b = some o ∧ o.data = .dict es ep) → cd ≠ b := fun ⟨es, ep, o', e', hd'⟩ q => by
        rw [← q, e2] at e'; cases e'; rw [e3] at hd'; cases hd'
      refine ⟨cd, o, vs, t, rfl, S.obj cd o hcd (fun q => ?_) (fun y _ q => ?_) e2, e3, e4⟩
      · obtain ⟨m, o', es, ep, e', hd', _⟩ := F₁.ns
        rw [← q, e2] at e'; cases e'; rw [e3] at hd'; cases hd'
      · rw [List.mem_singleton.mp ‹y ∈ [name]›] at q
        obtain ⟨a, ov, h1, _, ⟨o', e', hd'⟩⟩ := F₁.own name hx
        rw [q] at h1; cases h1
        rw [e2] at e'; cases e'; rw [e3] at hd'; cases hd'
  obtain ⟨ps, hP, hps⟩ := T.at' F.so.tab
  rcases hps with rfl | ⟨cd, hcd, rfl, hrec⟩
  · refine wpAny_with_toks (n := c.s.toks) (Nat.le_refl _) (makeFunction_K hcl hge hg' hcode C hP trivial rfl hgP hb' fun c' ctv doc h' tk hx' hge' hlt hrec htb htk => ?_)
    have nc : c.heap.get? c' = none := frees hge'
    have nf : c.heap.get? h'.objs.size = none := frees (Nat.le_trans hge' (Nat.le_of_lt hlt))
    have hk : ∀ (o' : Obj) b o, b ≠ P → c.heap.get? b = some o → (h'.push o').get? b = some o := fun o' b o hb e => Heap.get?_push_of_some _ (hx' b o hb e)
    refine fin (c.put _ tk) h'.objs.size c' ctv doc _ ⟨⟨_, _, rfl⟩, fun b o hb _ e => hk _ b o (fun q => hb (q ▸ T.mem)) e, htk, fun _ _ => rfl, fun b ⟨o, e⟩ => ?_, fun Hx _ hl t => T.upd t (fun b o hb e => hk _ b o hb e) ⟨_, Heap.get?_push_of_some _ htb, .inr ⟨c', fun q => ?_, ?_, hrec.push _⟩⟩⟩ nf (Heap.get?_push_size _ rfl) (hrec.push _) fun q => ?_
    · by_cases hb : b = P
      · rw [hb]; exact ⟨_, Heap.get?_push_of_some _ htb⟩
      · exact ⟨o, hk _ b o hb e⟩
    · obtain ⟨o, e⟩ := hl c' q; rw [nc] at e; cases e
    · simp [rawInt, hln, hcol]
    · obtain ⟨o, e⟩ := F.so.low c' (F.so.mt c' q); rw [nc] at e; cases e
  · refine wpAny_with_toks (n := c.s.toks) (Nat.le_refl _) (makeFunction_hit hcl hge hg' hcode C hP ?_ (cv := .ref cd) ?_ hb' fun ctv doc h' tk hk hsz htk => ?_)
    · simp [TriplesOk, rawInt]
    · simp [codeAmong, rawInt, hln, hcol]
    · exact fin (c.put _ tk) h'.objs.size cd ctv doc _ (.of (fun b o e => Heap.get?_push_of_some _ (hk b o e)) htk) (frees hsz) (Heap.get?_push_size _ rfl) ((hrec.keeps hk).push _) fun q => hcd (F.so.mt cd q)
end
end Mine
end
noncomputable section
open PySem PySem.W PyProof.Rows
namespace Mine
open PySem.Calls

section
variable {prog : Program} {w : World} {g₀ : Heap} {A : Around} {H H₀ X : List Addr} {env : Env} {c₀ c c' : Cf} {K : Frag} {ρ : List (Str × D)}
theorem lookup_nodup {cs : List (Str × Value)} {n : Str} {v : Value} (hnd : (cs.map (·.1)).Nodup) (hm : (n, v) ∈ cs) : cs.lookup n = some v := by
  induction cs with
  | nil => cases hm
  | cons q cs ih =>
    obtain ⟨n', v'⟩ := q
    rw [List.map_cons, List.nodup_cons] at hnd
    rw [List.lookup_cons]
    rcases List.mem_cons.mp hm with e | hm
    · cases e; rw [beq_self_eq_true]
    · rw [beq_false_of_ne fun q : n = n' => hnd.1 (q ▸ List.mem_map.mpr ⟨(n, v), hm, rfl⟩)]
      exact ih hnd.2 hm
theorem entry_clo {f : Addr} {o : Obj} {fd : FuncData} {body : List Stmt} {vs : List Value} {names : List Str} {Q : Value → Shared → Prop} {n : Nat} (G : Gd K g₀) (hAk : AOk (n + 1) A) (so : SOk g₀ H c₀) (ho : c₀.heap.get? f = some o) (hd : o.data = .func fd) (hb : fd.body = .stmts body)
    (hcd : c₀.heap.CodeRec fd.code fd.qualname) (hbind : bindArgs fd ⟨vs, []⟩ = pure (names.zip vs)) (hn : names.length = vs.length) (nd : names.Nodup) (hloc : (names.all fun x => fd.scope.names.lookup x == some .local) = true) (hnc : (fd.scope.names.all fun x => x.2 != .cell) = true)
    (hcl : ∀ x a, fd.closure.lookup x = some a → a ∉ MUT ∧ ∃ o, c₀.heap.get? a = some o) (hap : ∀ x y a, fd.closure.lookup x = some a → fd.closure.lookup y = some a → y = x)
    (h : ∀ A', AOk n A' → ∀ c X L, Frm g₀ H X (callEnv fd L f) c₀ c → (∀ q ∈ names.zip vs, LookAt (callEnv fd L f) c.heap q.1 q.2) → (∀ b o, c₀.heap.get? b = some o → c.heap.get? b = some o) → SX prog w A' (callEnv fd L f) body (fun fl s' => Q (match fl with | .ret v => v | _ => .none) s') c)
    (hco : fd.scope.isCoroutine = false := by rfl) (hgen : fd.scope.isGenerator = false := by rfl) (hk : fd.scope.kind = .function := by rfl) : wpAny (model prog w) A (call (.ref f) vs) Q NE c₀.s := by
  have hlim : c₀.heap.NoLimit := G.nolimit.keeps so.base
  have hloc' : ∀ x ∈ names, fd.scope.names.lookup x = some .local := fun x hx => by simpa using List.all_eq_true.mp hloc x hx
  have mem : ∀ x ∈ names.zip vs, x.1 ∈ names := fun x hx => (List.of_mem_zip hx).1
  have zn : ((names.zip vs).map (·.1)) = names := List.map_fst_zip (by lia)
  refine wpAny_call (codeAny_call_def (binds := names.zip vs) (by have := hAk.d; lia) ho hd hlim hcd hb (.of_eq hbind) (fun x hx q => ?_) (fun x hx => hloc' x.1 (mem x hx)) (fun h₁ hns hk₁ => ?_) hco hgen hk)
  · have := List.all_eq_true.mp hnc x hx
    simp [q] at this
  generalize hL : c₀.s.heap.objs.size = L at *
  have nL : c₀.heap.get? L = none := by rw [← hL]; exact get_size _
  have htk : c₀.s.toks ≤ c₀.s.toks + (names.zip vs).length := by lia
  have k₀ : Kp c₀ (c₀.put h₁ (c₀.s.toks + (names.zip vs).length)) := .of hk₁ htk
  have LM : L ∉ MUT := fun q => by obtain ⟨o, e⟩ := so.low L (so.mt L q); rw [nL] at e; cases e
  have tab : ∀ Hx, (∀ b ∈ Hx, ∃ o, c₀.heap.get? b = some o) → TabOk Hx c₀.heap → TabOk ([L] ++ Hx) h₁ := fun Hx hl t =>
    t.move (fun b _ o e => hk₁ b o e) (fun b o _ e => hk₁ b o e) fun b hb => (List.mem_cons.mp hb).elim (fun q => .inr (q ▸ nL)) .inl
  have alL : ∃ o, h₁.get? L = some o := by obtain ⟨o, _, _, e, _⟩ := hns; exact ⟨o, e⟩
  have F : Frm g₀ H [L] (callEnv fd L f) c₀ (c₀.put h₁ (c₀.s.toks + (names.zip vs).length)) := by
    refine ⟨hk, so, k₀, ⟨fun b hb => ?_, fun b hb => List.mem_append_right _ (so.mt b hb), so.gm, fun b o e => hk₁ b o (so.base b o e), tab H so.low so.tab, Nat.lt_of_lt_of_le so.pos htk, so.nb⟩, fun b hb => by rw [List.mem_singleton.mp hb]; exact nL, tab, List.mem_cons_self,
      fun x hx => ?_, fun x a ha => ⟨fun q => ?_, fun y hy => hap x y a ha hy⟩, ⟨_, hns⟩, fun x a ha => ?_, fun x a ha => (hcl x a ha).1⟩
    · rcases List.mem_cons.mp hb with rfl | hb
      · exact alL
      · obtain ⟨o, e⟩ := so.low b hb; exact ⟨o, hk₁ b o e⟩
    · have := List.all_eq_true.mp hnc (x, .cell) (mem_of_lookup_some hx)
      simp at this
    · obtain ⟨_, o, e⟩ := hcl x a ha
      have q' : a = L := q
      rw [q', nL] at e; cases e
    · obtain ⟨_, o, e⟩ := hcl x a ha; exact ⟨o, hk₁ a o e⟩
  refine ne_any (h (A.deeper (callEnv fd L f)) (hAk.deeper _) (c₀.put h₁ (c₀.s.toks + (names.zip vs).length)) [L] L F (fun q hq => ?_) hk₁)
  refine ⟨hk, .inl ⟨hloc' q.1 (mem q hq), LM, _, hns, ?_⟩⟩
  refine lookup_nodup (by rw [List.map_reverse, zn]; exact ((List.reverse_perm names).nodup_iff).mpr nd) (List.mem_reverse.mpr hq)
/-- a name's value in a def within -/
theorem LookAt.clo {env' : Env} {h : Heap} {x : Str} {v : Value} (l : LookAt env h x v) (hk : env'.scope.kind = .function) (h1 : env.kindOf x ≠ some .local) (h2 : env'.kindOf x = some .free) (h3 : env'.cells.lookup x = env.cells.lookup x) : LookAt env' h x v := by
  obtain ⟨k, l⟩ := l
  refine ⟨hk, ?_⟩
  rcases l with ⟨e, _⟩ | ⟨e, a, ha, hM, hc⟩
  · exact absurd e h1
  · exact .inr ⟨.inr h2, a, by rw [h3, ha], hM, hc⟩
/-- a call of a function under a cell's name -/
theorem call_cell {x : Str} {p pos : Pos} {e : Expr} {es : List Expr} {f : Addr} {o : Obj} {fd : FuncData} {ds : List D} {Q : Value → Shared → Prop} (so : SOk g₀ H c) (lk : LookAt env c.heap x (.ref f)) (fM : f ∉ MUT) (hf : c.heap.get? f = some o) (hd : o.data = .func fd) (h : EVs prog w g₀ A H env c (e :: es) ds)
    (hc : ∀ c₁ vs, Kp c c₁ → SOk g₀ H c₁ → RepL H c₁ ds vs → wpAny (model prog w) A (call (.ref f) vs) Q NE c₁.s)
    (he : starEach (e :: es) env = (false, eval e env) :: starEach es env := by rfl) (hplain : (backTo pos (starEach es env)).any (·.1) = false := by rfl) (hdb : (x == ("__debug__" : Str)) = false := by rfl) (hcd : (x == ("__classdict__" : Str)) = false := by rfl) :
    wpAny (model prog w) A (eval (.Call (.Name x p) (e :: es) [] pos) env) Q NE c.s := by
  have fa : ∀ {h : Heap}, h.get? f = some o → FnAt f h := fun e => by
    obtain ⟨oc, od, dt, sl⟩ := o
    cases hd
    exact ⟨oc, od, fd, sl, e⟩
  refine Call_Name rfl (wpAny_Name (loadName_at lk ?_ hcd) hdb)
  refine callWith_F (fa hf) (ne_mono (h c pos (.refl _) so) fun vs s₁ ⟨c₁, e₁, k₁, r₁⟩ => ?_) he hplain
  subst e₁
  exact ⟨fa (k₁.keep fM hf), hc c₁ vs k₁ (so.kp k₁) r₁⟩
end
end Mine
end
noncomputable section
open PySem PySem.W PyProof.Rows
namespace Mine
open PySem.Calls

section
variable {prog : Program} {w : World} {g₀ : Heap} {A : Around} {H H₀ X : List Addr} {env : Env} {c₀ c c' : Cf} {K : Frag} {ρ : List (Str × D)}
theorem ev_bitlen {e : Expr} {ap pos : Pos} {a : Int} (h : EV prog w g₀ A H env c e (.int a)) (hbase : attributeBase e "bit_length" env (eval e env) = eval e env := by rfl) (hline : (ap.endLine == pos.line) = true := by rfl) :
    EV prog w g₀ A H env c (.Call (.Attribute e "bit_length" ap) [] [] pos) (.int (Builtin.Int.intBits a)) := fun c' k so => by
  refine wpAny_Call_method hbase rfl hline PySem.F.plainAttrs_int PySem.F.slot_int_bit_length PySem.F.type_int_bit_length (got_then (h c' k so) so fun v c₁ k₁ so₁ r => ?_)
  obtain ⟨t, rfl⟩ := r.int_inv
  refine ⟨typeIs_int _ _ _, (fun a q => by cases q), ?_⟩
  exact Calls.callWith_builtin rfl (PySem.evalArgs_none (call_int_bit_length (Got.after k₁ Got.int)))
theorem rep_fresh {l : List D} {k : Int} {v1 v2 : Value} (hl : l ≠ []) (hk : -(2 ^ 63) ≤ k) (hk2 : k < 2 ^ 20) (hsz : l.length * k.toNat ≤ 2 ^ 24) (so : SOk g₀ H c) (r1 : Rep H c (.list l) v1) (r2 : Rep H c (.int k) v2) :
    wpAny (model prog w) A (binaryOp .Mult v1 v2) (fun v s' => ∃ its : Array Value, v = .ref c.heap.objs.size ∧ s' = { c.s with heap := c.heap.push { cls := .type "list", data := .seq its } } ∧ RepL H c (List.replicate k.toNat l).flatten its.toList) NE c.s := by
  obtain ⟨x, vs, n, rfl, _, h1, q1⟩ := r1.list_inv; obtain ⟨u, rfl⟩ := r2.int_inv
  have hn : vs.toArray.size = l.length := by simp [q1.length]
  have he : vs.toArray.isEmpty = false := by
    rw [Array.isEmpty_eq_false_iff]
    intro q
    have : vs.toArray.size = 0 := by rw [q]; rfl
    rw [hn] at this
    exact hl (List.eq_nil_of_length_eq_zero this)
  refine wpAny_binaryOp_repeat_ref (T := "list") (U := "int") (by decide) ⟨_, h1, rfl⟩ (fun s' => typeIs_int s' k u) noFill_list_mul PySem.F.fills_int_mul PySem.F.slot_int_rmul repeat_list PySem.F.slot_int_index.lookup ?_
  refine call_meets PySem.F.slot_int_rmul (typeIs_int c.s k u) PySem.F.entry_int_rmul (PySem.F.args_int_rmul_2 _ _) (int___rmul___int_list k u x vs.toArray n) ⟨h1, rfl, ⟨_, h1, rfl⟩, ?_⟩
  refine call_meets PySem.F.slot_list_mul ⟨_, h1, rfl⟩ PySem.F.entry_list_mul (PySem.F.args_list_mul_2 _ _) (AutoListH.list___mul___list_int_3 x vs.toArray n k u ?_ ?_ ?_) ⟨h1, ?_⟩
  · simp [Builtin.List.listFitsIndex]; lia
  · rw [hn]; lia
  · rw [hn]; simp [Builtin.List.listTooLong, sizeLine]; lia
  · refine ⟨_, rfl, rfl, ?_⟩
    rw [flat_fold, he]
    simpa using q1.replicate k.toNat
/-- x = [e] * k, a list of the frame's own -/
theorem sx_own_rep {x : Str} {p lp bp pos : Pos} {e0 e2 : Expr} {d0 : D} {k : Nat} {rest : List Stmt} {Q : Flow → Shared → Prop} (F : Frm g₀ H₀ X env c₀ c) (V : Vars (X ++ H₀) env c ρ) (h0 : EV prog w g₀ A (X ++ H₀) env c e0 d0) (h2 : EV prog w g₀ A (X ++ H₀) env c e2 (.int k)) (hk : k ≤ 1000)
    (hn : ∀ D c', Frm g₀ H₀ (D :: X) env c₀ c' → Vars ((D :: X) ++ H₀) env c' (ρ.filter fun q => q.1 != x) → Own H₀ (D :: X) env c' x D (List.replicate k d0) → SX prog w A env rest Q c')
    (hst : ∀ rest, starEach (e0 :: rest) env = (false, eval e0 env) :: starEach rest env := by intro _; rfl)
    (hx : env.kindOf x = some .local ∨ env.kindOf x = some .cell := by first | exact .inl rfl | exact .inr rfl) (hs : swapsWith (.BinOp (.List [e0] lp) .Mult e2 bp) (some (.Name x p)) pos.line env = pure false := by rfl) :
    SX prog w A env (.Assign [.Name x p] (.BinOp (.List [e0] lp) .Mult e2 bp) pos :: rest) Q c := by
  refine sx_cons (wpAny_Assign_Name (wpAny_BinOp (got_then (ev_list (evs_cons h0 evs_nil hst) (by rw [sizeLine_eq]; simp) c (.refl _) F.so) F.so fun v1 c1 k1 so1 r1 => got_then (h2 c1 k1 so1) so1 fun v2 c2 k2 so2 r2 =>
    ne_mono (rep_fresh (by simp) (by lia) (by lia) (by simp; lia) so2 (r1.kp so1 k2) r2) fun v s' ⟨its, ev, es, rr⟩ => ?_)) hs)
  subst ev; subst es
  have F2 := F.kp (k1.trans k2)
  have V2 := V.kp F.so (k1.trans k2)
  have hkp : ∀ b o, c2.heap.get? b = some o → (c2.heap.push { cls := .type "list", data := .seq its }).get? b = some o := fun b o e => Heap.get?_push_of_some _ e
  have k : Kp c2 (c2.put (c2.heap.push { cls := .type "list", data := .seq its }) c2.s.toks) := .of hkp (Nat.le_refl _)
  have e₁ : (c2.heap.push { cls := .type "list", data := .seq its }).get? c2.heap.objs.size = some { cls := .type "list", data := .seq its.toList.toArray 0 } := by
    rw [Array.toArray_toList]; exact Heap.get?_push_size _ rfl
  have F₁ := F2.grow (c' := c2.put (c2.heap.push { cls := .type "list", data := .seq its }) c2.s.toks) k hkp (get_size _) ⟨_, e₁⟩
  have V₁ := V2.grow F2 k (get_size c2.heap)
  show wpAny _ _ _ _ _ (c2.put (c2.heap.push { cls := .type "list", data := .seq its }) c2.s.toks).s
  refine store_raw F₁ hx fun c₃ S F₃ l => ?_
  have nl : c2.heap.objs.size ≠ env.locals := fun q => by obtain ⟨m, o, _, _, e, _⟩ := F2.ns; rw [← q, get_size] at e; cases e
  have nc : ∀ y, env.cells.lookup y ≠ some c2.heap.objs.size := fun y q => by
    obtain ⟨o, e⟩ := F2.cal y _ q; rw [get_size] at e; cases e
  have rr' : RepL (c2.heap.objs.size :: X ++ H₀) (c2.put (c2.heap.push { cls := .type "list", data := .seq its }) c2.s.toks) (List.replicate ‹Nat› d0) its.toList := by
    have : (List.replicate ((‹Nat› : Nat) : Int).toNat [d0]).flatten = List.replicate ‹Nat› d0 := by simp
    rw [this] at rr
    exact rr.move (k.cm F2.so.mt fun _ q => by cases q) fun b hb => (List.mem_cons.mp hb).elim (fun q => .inr (by rw [q]; exact get_size _)) .inl
  refine hn _ c₃ F₃ (fun y d e => ?_) ⟨l, List.mem_cons_self, nl, nc, its.toList, 0, S.obj _ _ (F₁.nm _ List.mem_cons_self) nl (fun y _ => nc y) e₁, rr'.kx F₁.so S.kx (F₁.sh _)⟩
  obtain ⟨h1, h2⟩ := lookup_filter e
  obtain ⟨v, l', r⟩ := V₁ y d h2
  exact ⟨v, S.look y v (fun q => h1 (List.mem_singleton.mp q)) l', r.kx F₁.so S.kx (F₁.sh _)⟩

theorem setItem_plain {l : Addr} {vs : List Value} {n : Nat} {j : Nat} {k : Int} {t : Tok} {v : Value} {s : Shared} {E : Value → Shared → Prop} {Q : Unit → Shared → Prop} (hkj : k = (j : Int)) (ho : s.heap.get? l = some { cls := .type "list", data := .seq vs.toArray n }) (hj : j < vs.length) (h0 : 0 ≤ k) (hfit : k < 2 ^ 63)
    (hQ : ∀ h' n', h'.get? l = some { cls := .type "list", data := .seq (vs.set j v).toArray n' } → (∀ b o, b ≠ l → s.heap.get? b = some o → h'.get? b = some o) → Q () { s with heap := h' }) :
    wpAny (model prog w) A (setItem (.ref l) (.int k t) v) Q E s := by
  have hl : s.heap.IsList l vs.toArray := ⟨_, ho, rfl, n, rfl⟩
  unfold setItem
  try with_reducible refine wpAny_holding ?_
  first | refine wpAny_bind (wpAny_pure ?_) | skip
  refine wpAny_bind (wpAny_sequenceKey hl.typeIs (by decide) ?_)
  refine wpAny_bind (wpAny_callSpecial?_slot (name := Str.ofString "__setitem__") hl.typeIs slot_list_setitem
    (wpAny_call_entry slot_list_setitem hl.typeIs entry_list_setitem ?_ (args_list_setitem _ _ _)))
  show wpAny _ _ (Builtin.List.listSubscript? (.int k t) >>= _) _ _ s
  refine wpAny_bind (wpAny_listSubscript_int (fitsIndex_of h0 hfit) ?_)
  clear hfit
  subst hkj
  have hj' : j < vs.toArray.size := by simpa using hj
  have hx' : vs.toArray[j]? = some vs.toArray[j] := Array.getElem?_eq_getElem hj'
  show wpAny _ _ ((seqItemAt l j >>= fun r => pure (r.map (j, ·))) >>= _) _ _ s
  refine wpAny_bind (wpAny_bind (wpAny_seqItemAt ho rfl (wpAny_pure ?_)))
  rw [hx']
  show wpAny _ _ (setSeqItemAt l j v >>= _) _ _ s
  have hfin := get?_update_seq (n := n) (c := "list") ho (fun x => x.setIfInBounds j v)
  rw [show vs.toArray.setIfInBounds j v = (vs.set j v).toArray by simp] at hfin
  have hq := hQ (s.heap.update l (Obj.mapSeq (·.setIfInBounds j v))) _ hfin fun b o hb e => (Heap.get?_update_other _ _ (Ne.symm hb)).trans e
  refine wpAny_bind (wpAny_setSeqItemAt ho rfl ?_)
  first
    | exact wpAny_bind (wpAny_pure (wpAny_pure ⟨.none, rfl, wpAny_pure hq⟩))
    | exact wpAny_pure ⟨.none, rfl, wpAny_pure hq⟩
theorem RepL.set : ∀ {l : List D} {vs : List Value} {d : D} {v : Value} {j : Nat}, RepL H c l vs → Rep H c d v → RepL H c (l.set j d) (vs.set j v)
  | [], vs, d, v, j, r, h => by rw [r.nil_inv]; simpa using RepL.nil
  | a :: l, vs, d, v, 0, r, h => by obtain ⟨u, q, rfl, r1, r2⟩ := r.cons_inv; exact .cons h r2
  | a :: l, vs, d, v, j + 1, r, h => by obtain ⟨u, q, rfl, r1, r2⟩ := r.cons_inv; exact .cons r1 (RepL.set r2 h)
/-- x[i] = e, x a list of the frame's own -/
theorem sx_setitem {x : Str} {e i : Expr} {px sp pos : Pos} {D : Addr} {l : List Mine.D} {d : Mine.D} {j : Nat} {rest : List Stmt} {Q : Flow → Shared → Prop} (F : Frm g₀ H₀ X env c₀ c) (V : Vars (X ++ H₀) env c ρ) (O : Own H₀ X env c x D l) (he : EV prog w g₀ A (X ++ H₀) env c e d) (hi : EV prog w g₀ A (X ++ H₀) env c i (.int j)) (hj : j < l.length) (hl : l.length ≤ 1000)
    (hn : ∀ c', Frm g₀ H₀ X env c₀ c' → Vars (X ++ H₀) env c' ρ → Own H₀ X env c' x D (l.set j d) → SX prog w A env rest Q c')
    (hs : swapsWith e (some (.Subscript (.Name x px) i sp)) pos.line env = pure false := by rfl) (hdbg : (x == ("__debug__" : Str)) = false := by decide) (hcd : (x == ("__classdict__" : Str)) = false := by rfl) :
    SX prog w A env (.Assign [.Subscript (.Name x px) i sp] e pos :: rest) Q c := by
  refine sx_cons (wpAny_Assign_Subscript (got_then (he c (.refl _) F.so) F.so fun v c₁ k₁ so₁ r₁ => ?_) hs)
  have O₁ := O.kp F k₁
  refine wpAny_Name (loadName_at O₁.look ?_ hcd) hdbg
  refine got_then (hi c₁ k₁ so₁) so₁ fun u c₂ k₂ so₂ r₂ => ?_
  have k12 := k₁.trans k₂
  have F₂ := F.kp k12
  have V₂ := V.kp F.so k12
  have O₂ := O.kp F k12
  obtain ⟨t, rfl⟩ := r₂.int_inv
  obtain ⟨vs, n, ho, rr⟩ := O₂.at'
  refine setItem_plain rfl ho (by rw [rr.length]; exact hj) (by lia) (by lia) fun h' n' hD hk => ?_
  obtain ⟨_, F3, V3, O3⟩ := own_set F₂ V₂ O₂ hk hD (rr.set (r₁.kp so₁ k₂))
  exact hn _ F3 V3 O3
end
end Mine
end
noncomputable section
open PySem PySem.W PyProof.Rows
namespace Mine

/-! ## the sorting tree, answered by a strict order -/
noncomputable def KH {α : Type} (lt : Nat → Nat → Bool) (N : Nat) : KasT α → (α → Prop) → Prop
  | .ret a, Q => Q a
  | .ask i j k, Q => i < N ∧ j < N ∧ KH lt N (k (lt i j)) Q
theorem KH.bind {α β : Type} {lt : Nat → Nat → Bool} {N : Nat} {f : α → KasT β} {Q : β → Prop} : ∀ {t : KasT α}, KH lt N t (fun a => KH lt N (f a) Q) → KH lt N (t.bind f) Q
  | .ret _, h => h
  | .ask _ _ k, h => ⟨h.1, h.2.1, KH.bind (t := k _) h.2.2⟩
theorem KH.mono {α : Type} {lt : Nat → Nat → Bool} {N : Nat} {Q Q' : α → Prop} (hq : ∀ a, Q a → Q' a) : ∀ {t : KasT α}, KH lt N t Q → KH lt N t Q'
  | .ret _, h => hq _ h
  | .ask _ _ k, h => ⟨h.1, h.2.1, KH.mono hq (t := k _) h.2.2⟩
theorem KH.wp {α : Type} {lt : Nat → Nat → Bool} {N : Nat} {cmp : Nat → Nat → (Bool → Shared → Prop) → Shared → Prop} {s : Shared} (hc : ∀ i j, i < N → j < N → ∀ C : Bool → Shared → Prop, C (lt i j) s → cmp i j C s) {Q : α → Prop} {R : α → Shared → Prop} (hq : ∀ a, Q a → R a s) :
    ∀ {t : KasT α}, KH lt N t Q → t.kasWp cmp R s
  | .ret _, h => hq _ h
  | .ask i j k, h => hc i j h.1 h.2.1 _ (KH.wp hc hq (t := k _) h.2.2)

structure LtO (lt : Nat → Nat → Bool) : Prop where
  trans : ∀ i j k, lt i j = true → lt j k = true → lt i k = true
  tot : ∀ i j, i ≠ j → lt i j = false → lt j i = true
  asym : ∀ i j, lt i j = true → lt j i = false
/-- an ordering of the places -/
structure Pm (N : Nat) (p : Array Nat) : Prop where
  sz : p.size = N
  bd : ∀ i, i < N → p.getD i 0 < N
  inj : ∀ i j, i < N → j < N → p.getD i 0 = p.getD j 0 → i = j
noncomputable def Asc (lt : Nat → Nat → Bool) (p : Array Nat) (k : Nat) : Prop := ∀ i j, i < j → j < k → lt (p.getD i 0) (p.getD j 0) = true
noncomputable def Desc (lt : Nat → Nat → Bool) (p : Array Nat) (k : Nat) : Prop := ∀ i j, i < j → j < k → lt (p.getD j 0) (p.getD i 0) = true
section
variable {lt : Nat → Nat → Bool} {N : Nat} {p : Array Nat}
theorem Asc.one : Asc lt p 1 := fun i j h1 h2 => absurd (Nat.lt_of_lt_of_le h1 (Nat.le_of_lt_succ h2)) (Nat.not_lt_zero _)
theorem Asc.succ (O : LtO lt) {n : Nat} (hn : 1 ≤ n) (h : Asc lt p n) (h1 : lt (p.getD (n - 1) 0) (p.getD n 0) = true) : Asc lt p (n + 1) := fun i j hij hj => by
  rcases Nat.eq_or_lt_of_le (Nat.le_of_lt_succ hj) with hjn | hjn
  · subst hjn
    rcases Nat.eq_or_lt_of_le (Nat.le_sub_one_of_lt hij) with hi | hi
    · subst hi; exact h1
    · exact O.trans _ _ _ (h i (j - 1) hi (Nat.sub_lt hn Nat.one_pos)) h1
  · exact h i j hij hjn
theorem Desc.succ (O : LtO lt) {n : Nat} (hn : 1 ≤ n) (h : Desc lt p n) (h1 : lt (p.getD n 0) (p.getD (n - 1) 0) = true) : Desc lt p (n + 1) := fun i j hij hj => by
  rcases Nat.eq_or_lt_of_le (Nat.le_of_lt_succ hj) with hjn | hjn
  · subst hjn
    rcases Nat.eq_or_lt_of_le (Nat.le_sub_one_of_lt hij) with hi | hi
    · subst hi; exact h1
    · exact O.trans _ _ _ h1 (h i (j - 1) hi (Nat.sub_lt hn Nat.one_pos))
  · exact h i j hij hjn
theorem getD_of {p : Array Nat} {i : Nat} {v : Option Nat} (h : p[i]? = v) : p.getD i 0 = v.getD 0 := by
  rw [← h]; simp [Array.getD_eq_getD_getElem?]
theorem Pm.map {q : Array Nat} (P : Pm N p) (hs : q.size = p.size) (f g : Nat → Nat) (hf : ∀ i, i < N → f i < N) (hg : ∀ i, g (f i) = i) (hq : ∀ i, q.getD i 0 = p.getD (f i) 0) : Pm N q :=
  ⟨hs.trans P.sz, fun i hi => (hq i).symm ▸ P.bd _ (hf i hi), fun i j hi hj e => (hg i).symm.trans ((congrArg g (P.inj _ _ (hf i hi) (hf j hj) ((hq i).symm.trans (e.trans (hq j))))).trans (hg j))⟩
/-- the places behind a turning round -/
noncomputable def rv (n i : Nat) : Nat := if i < n then n - 1 - i else i
theorem rv_in {n i : Nat} (h : i < n) : rv n i = n - 1 - i := if_pos h
theorem rv_rv (n i : Nat) : rv n (rv n i) = i := by
  by_cases h : i < n
  · rw [rv_in h, rv_in (Nat.sub_one_sub_lt_of_lt h)]; exact Nat.sub_sub_self (Nat.le_sub_one_of_lt h)
  · have e : rv n i = i := if_neg h
    rw [e, e]
theorem rv_lt {n i : Nat} (hn : n ≤ N) (h : i < N) : rv n i < N := by
  by_cases hi : i < n
  · rw [rv_in hi]; exact Nat.lt_of_lt_of_le (Nat.sub_one_sub_lt_of_lt hi) hn
  · rw [show rv n i = i from if_neg hi]; exact h
theorem rev_at (P : Pm N p) {n : Nat} (hn : n ≤ N) (i : Nat) : (kas_rev p 0 n).getD i 0 = p.getD (rv n i) 0 := by
  have h : (kas_rev p 0 n)[i]? = if 0 ≤ i ∧ i < n then p[0 + n - 1 - i]? else p[i]? := getElem?_mirror_all (xs := p) (i := 0) (j := n) (by rw [P.sz]; exact hn) i
  rw [getD_of h, Array.getD_eq_getD_getElem?]
  by_cases hi : i < n
  · rw [if_pos ⟨Nat.zero_le _, hi⟩, rv_in hi, Nat.zero_add]
  · rw [if_neg (fun q => hi q.2), show rv n i = i from if_neg hi]
theorem Pm.rev (P : Pm N p) {n : Nat} (hn : n ≤ N) : Pm N (kas_rev p 0 n) := P.map (kas_rev_size _ _) (rv n) (rv n) (fun _ => rv_lt hn) (rv_rv n) (rev_at P hn)
theorem asc_ok (O : LtO lt) (P : Pm N p) : ∀ (f n : Nat), 1 ≤ n → n + f ≤ N → Asc lt p n → KH lt N (kas_asc p f n) (fun m => n ≤ m ∧ m ≤ n + f ∧ Asc lt p m ∧ (m < n + f → lt (p.getD m 0) (p.getD (m - 1) 0) = true))
  | 0, n, h1, hf, h => ⟨Nat.le_refl _, Nat.le_refl _, h, fun q => absurd q (Nat.lt_irrefl _)⟩
  | f + 1, n, h1, hf, h => by
    have hn : n < N := Nat.lt_of_lt_of_le (Nat.lt_add_of_pos_right (Nat.succ_pos f)) hf
    have hn1 : n - 1 < N := Nat.lt_of_le_of_lt (Nat.sub_le n 1) hn
    refine ⟨P.bd _ hn, P.bd _ hn1, ?_⟩
    cases hc : lt (p.getD n 0) (p.getD (n - 1) 0) with
    | true => exact ⟨Nat.le_refl _, Nat.le_add_right _ _, h, fun _ => hc⟩
    | false =>
      have hs := h.succ O h1 (O.tot _ _ (fun e => Nat.ne_of_gt (Nat.sub_lt h1 Nat.one_pos) (P.inj _ _ hn hn1 e)) hc)
      exact KH.mono (fun m hm => ⟨Nat.le_of_lt hm.1, Nat.le_trans hm.2.1 (Nat.le_of_eq (Nat.succ_add n f)), hm.2.2.1, fun q => hm.2.2.2 (Nat.lt_of_lt_of_eq q (Nat.succ_add n f).symm)⟩) (asc_ok O P f (n + 1) (Nat.succ_pos n) (Nat.le_trans (Nat.le_of_eq (Nat.succ_add n f)) hf) hs)
theorem desc_ok (O : LtO lt) (P : Pm N p) : ∀ (f n : Nat), 1 ≤ n → n + f ≤ N → Desc lt p n → KH lt N (kas_desc f p n 0) (fun r => r.1 = p ∧ r.2.2 = 0 ∧ n ≤ r.2.1 ∧ r.2.1 ≤ n + f ∧ Desc lt p r.2.1)
  | 0, n, h1, hf, h => ⟨rfl, rfl, Nat.le_refl _, Nat.le_refl _, h⟩
  | f + 1, n, h1, hf, h => by
    have hn : n < N := Nat.lt_of_lt_of_le (Nat.lt_add_of_pos_right (Nat.succ_pos f)) hf
    have hn1 : n - 1 < N := Nat.lt_of_le_of_lt (Nat.sub_le n 1) hn
    refine ⟨P.bd _ hn, P.bd _ hn1, ?_⟩
    cases hc : lt (p.getD n 0) (p.getD (n - 1) 0) with
    | true =>
      show KH lt N (ite _ _ _) _
      rw [if_pos rfl, if_neg (by decide)]
      exact KH.mono (fun r hr => ⟨hr.1, hr.2.1, Nat.le_of_lt hr.2.2.1, Nat.le_trans hr.2.2.2.1 (Nat.le_of_eq (Nat.succ_add n f)), hr.2.2.2.2⟩) (desc_ok O P f (n + 1) (Nat.succ_pos n) (Nat.le_trans (Nat.le_of_eq (Nat.succ_add n f)) hf) (h.succ O h1 hc))
    | false =>
      refine ⟨P.bd _ hn1, P.bd _ hn, ?_⟩
      rw [O.tot _ _ (fun e => Nat.ne_of_gt (Nat.sub_lt h1 Nat.one_pos) (P.inj _ _ hn hn1 e)) hc]
      exact ⟨rfl, rfl, Nat.le_refl _, Nat.le_add_right _ _, h⟩
noncomputable def RunOk (lt : Nat → Nat → Bool) (N : Nat) (r : Nat × Array Nat) : Prop := 1 ≤ r.1 ∧ r.1 ≤ N ∧ Pm N r.2 ∧ Asc lt r.2 r.1
theorem tail3_ok (O : LtO lt) (P : Pm N p) {n : Nat} (h1 : 1 ≤ n) (hn : n ≤ N) (h : Desc lt p n) : KH lt N (kas_tail3 n N p) (RunOk lt N) := by
  unfold kas_tail3
  have A : Asc lt (kas_rev p 0 n) n := fun i j hij hj => by
    have hi := Nat.lt_trans hij hj
    rw [rev_at P hn, rev_at P hn, rv_in hi, rv_in hj]
    exact h _ _ (Nat.sub_lt_sub_left (Nat.lt_of_lt_of_le hij (Nat.le_sub_one_of_lt hj)) hij) (Nat.sub_one_sub_lt_of_lt hi)
  have e : n + (N - n) = N := Nat.add_sub_cancel' hn
  exact KH.bind (KH.mono (fun m hm => ⟨Nat.le_trans h1 hm.1, Nat.le_trans hm.2.1 (Nat.le_of_eq e), P.rev hn, hm.2.2.1⟩) (asc_ok O (P.rev hn) (N - n) n h1 (Nat.le_of_eq e) A))
theorem descPart_ok (O : LtO lt) (P : Pm N p) {n : Nat} (h1 : 1 ≤ n) (hn : n + 1 ≤ N) (h : Desc lt p (n + 1)) : KH lt N (kas_descPart n N p) (RunOk lt N) := by
  unfold kas_descPart
  have e : n + 1 + (N - (n + 1)) = N := Nat.add_sub_cancel' hn
  refine KH.bind (KH.mono (fun r hr => ?_) (desc_ok O P (N - (n + 1)) (n + 1) (Nat.succ_pos n) (Nat.le_of_eq e) h))
  obtain ⟨p', m, q⟩ := r
  obtain ⟨e1, e2, e3, e4, e5⟩ := hr
  dsimp only at e1 e2 e3 e4 e5 ⊢
  subst e1; subst e2
  rw [if_neg (by decide)]
  exact tail3_ok O P (Nat.le_trans (Nat.succ_pos n) e3) (Nat.le_trans e4 (Nat.le_of_eq e)) e5
theorem count_ok (O : LtO lt) (P : Pm N p) (h1 : 1 ≤ N) : KH lt N (kas_count N p) (RunOk lt N) := by
  unfold kas_count
  have e : 1 + (N - 1) = N := Nat.add_sub_cancel' h1
  refine KH.bind (KH.mono (fun n hn => ?_) (asc_ok O P (N - 1) 1 (Nat.le_refl _) (Nat.le_of_eq e) .one))
  rw [e] at hn
  obtain ⟨e1, e2, e3, e4⟩ := hn
  by_cases hN : n = N
  · subst hN
    rw [if_pos (beq_self_eq_true _)]
    exact ⟨e1, Nat.le_refl _, P, e3⟩
  · have hlt := Nat.lt_of_le_of_ne e2 hN
    rw [if_neg (fun q => hN (eq_of_beq q))]
    by_cases h2 : n > 1
    · have hn1 : n - 1 < n := Nat.sub_lt e1 Nat.one_pos
      rw [if_pos h2]
      refine ⟨P.bd _ h1, P.bd _ (Nat.lt_of_lt_of_le hn1 e2), ?_⟩
      rw [e3 0 (n - 1) (Nat.sub_pos_of_lt h2) hn1]
      exact ⟨e1, e2, P, e3⟩
    · rw [if_neg h2]
      obtain rfl : n = 1 := Nat.le_antisymm (Nat.not_lt.mp h2) e1
      refine descPart_ok O P (Nat.le_refl _) hlt fun i j hij hj => ?_
      have hj1 : j = 1 := Nat.le_antisymm (Nat.le_of_lt_succ hj) (Nat.lt_of_le_of_lt (Nat.zero_le i) hij)
      subst hj1
      obtain rfl : i = 0 := Nat.lt_one_iff.mp hij
      exact e4 hlt
theorem mid_in {l r f : Nat} (h : l < r) (hf : r - l ≤ f + 1) : l ≤ (l + r) / 2 ∧ (l + r) / 2 < r ∧ (l + r) / 2 - l ≤ f ∧ r - ((l + r) / 2 + 1) ≤ f := by lia
theorem place_ok (O : LtO lt) (P : Pm N p) {k : Nat} (hk : k < N) (A : Asc lt p k) : ∀ (f l r : Nat), l ≤ r → r ≤ k → r - l ≤ f → (∀ i, i < l → lt (p.getD i 0) (p.getD k 0) = true) → (∀ i, r ≤ i → i < k → lt (p.getD k 0) (p.getD i 0) = true) →
    KH lt N (kas_place p k f l r) (fun l => l ≤ k ∧ (∀ i, i < l → lt (p.getD i 0) (p.getD k 0) = true) ∧ ∀ i, l ≤ i → i < k → lt (p.getD k 0) (p.getD i 0) = true) := by
  intro f
  induction f with
  | zero => exact fun l r hl hr hf h1 h2 => ⟨Nat.le_trans hl hr, h1, fun i hi => h2 i (Nat.le_trans (Nat.le_of_sub_eq_zero (Nat.le_zero.mp hf)) hi)⟩
  | succ f ih =>
    intro l r hl hr hf h1 h2
    unfold kas_place
    by_cases hlr : l ≥ r
    · rw [if_pos hlr]
      exact ⟨Nat.le_trans hl hr, h1, fun i hi => h2 i (Nat.le_trans hlr hi)⟩
    · obtain ⟨c1, c2, c3, c4⟩ := mid_in (Nat.not_le.mp hlr) hf
      rw [if_neg hlr]
      generalize (l + r) / 2 = m at *
      have hm := Nat.lt_of_lt_of_le c2 hr
      refine ⟨P.bd _ hk, P.bd _ (Nat.lt_trans hm hk), ?_⟩
      cases hc : lt (p.getD k 0) (p.getD m 0) with
      | true =>
        refine ih l m c1 (Nat.le_of_lt hm) c3 h1 fun i hi hik => ?_
        rcases Nat.eq_or_lt_of_le hi with he | he
        · exact he ▸ hc
        · exact O.trans _ _ _ hc (A _ _ he hik)
      | false =>
        have hm' := O.tot _ _ (fun e => Nat.ne_of_gt hm (P.inj _ _ hk (Nat.lt_trans hm hk) e)) hc
        refine ih (m + 1) r c2 hr c4 (fun i hi => ?_) h2
        rcases Nat.eq_or_lt_of_le (Nat.le_of_lt_succ hi) with he | he
        · exact he ▸ hm'
        · exact O.trans _ _ _ (A _ _ he hm) hm'
/-- the places behind a bubbling up -/
noncomputable def bb (k l i : Nat) : Nat := if i = l then k else if l < i ∧ i ≤ k then i - 1 else i
noncomputable def ib (k l i : Nat) : Nat := if i = k then l else if l ≤ i ∧ i < k then i + 1 else i
theorem bb_cases (k l i : Nat) : (i = l ∧ bb k l i = k) ∨ (l < i ∧ i ≤ k ∧ bb k l i = i - 1) ∨ (i ≠ l ∧ ¬ (l < i ∧ i ≤ k) ∧ bb k l i = i) := by
  by_cases h : i = l
  · exact .inl ⟨h, if_pos h⟩
  · by_cases h2 : l < i ∧ i ≤ k
    · exact .inr (.inl ⟨h2.1, h2.2, (if_neg h).trans (if_pos h2)⟩)
    · exact .inr (.inr ⟨h, h2, (if_neg h).trans (if_neg h2)⟩)
theorem ib_bb {k l : Nat} (hl : l ≤ k) (i : Nat) : ib k l (bb k l i) = i := by
  rcases bb_cases k l i with ⟨h, e⟩ | ⟨h1, h2, e⟩ | ⟨h1, h2, e⟩ <;> rw [e]
  · exact (if_pos rfl).trans h.symm
  · have h0 := Nat.zero_lt_of_lt h1
    have h3 := Nat.lt_of_lt_of_le (Nat.sub_lt h0 Nat.one_pos) h2
    exact ((if_neg (Nat.ne_of_lt h3)).trans (if_pos ⟨Nat.le_sub_one_of_lt h1, h3⟩)).trans (Nat.sub_add_cancel h0)
  · exact (if_neg (fun q : i = k => (Nat.eq_or_lt_of_le hl).elim (fun z => h1 (q.trans z.symm)) fun z => h2 ⟨q ▸ z, Nat.le_of_eq q⟩)).trans (if_neg fun q : l ≤ i ∧ i < k => h2 ⟨Nat.lt_of_le_of_ne q.1 (Ne.symm h1), Nat.le_of_lt q.2⟩)
theorem bb_lt {k l i : Nat} (hk : k < N) (h : i < N) : bb k l i < N := by
  rcases bb_cases k l i with ⟨_, e⟩ | ⟨_, _, e⟩ | ⟨_, _, e⟩ <;> rw [e]
  · exact hk
  · exact Nat.lt_of_le_of_lt (Nat.sub_le _ _) h
  · exact h
theorem bub_at (P : Pm N p) {k l : Nat} (hk : k < N) (hl : l ≤ k) (i : Nat) : (bubble p k (k - l)).getD i 0 = p.getD (bb k l i) 0 := by
  have h := getElem?_bubble (xs := p) (src := k) (by rw [P.sz]; exact hk) (k - l) (Nat.sub_le _ _) i
  rw [Nat.sub_sub_self hl] at h
  rw [getD_of h, Array.getD_eq_getD_getElem?]
  unfold bb
  split
  · rfl
  · split <;> rfl
theorem Pm.bub (P : Pm N p) {k l : Nat} (hk : k < N) (hl : l ≤ k) : Pm N (bubble p k (k - l)) := P.map (bubble_size _ _ _) (bb k l) (ib k l) (fun _ => bb_lt hk) (ib_bb hl) (bub_at P hk hl)
theorem bin_ok (O : LtO lt) : ∀ (f : Nat) (p : Array Nat) (k : Nat), Pm N p → 1 ≤ k → k + f = N → Asc lt p k → KH lt N (kas_bin f p k) (fun p => Pm N p ∧ Asc lt p N) := by
  intro f
  induction f with
  | zero => exact fun p k P h1 hf h => ⟨P, hf ▸ h⟩
  | succ f ih =>
    intro p k P h1 hf h
    have hk : k < N := hf ▸ Nat.lt_add_of_pos_right (Nat.succ_pos f)
    refine KH.bind (KH.mono (fun l hl => ?_) (place_ok O P hk h k 0 k (Nat.zero_le _) (Nat.le_refl _) (Nat.le_refl _) (fun i hi => absurd hi (Nat.not_lt_zero _)) fun i hi hik => absurd hi (Nat.not_le.mpr hik)))
    obtain ⟨e1, e2, e3⟩ := hl
    refine ih _ (k + 1) (P.bub hk e1) (Nat.succ_pos k) ((Nat.succ_add k f).trans hf) fun i j hij hj => ?_
    have hj' := Nat.le_of_lt_succ hj
    rw [bub_at P hk e1, bub_at P hk e1]
    rcases bb_cases k l i with ⟨hi, e⟩ | ⟨hi1, hi2, e⟩ | ⟨hi1, hi2, e⟩ <;> rcases bb_cases k l j with ⟨hj1, e'⟩ | ⟨hj1, hj2, e'⟩ | ⟨hj1, hj2, e'⟩ <;> rw [e, e']
    · exact absurd (hi.trans hj1.symm) (Nat.ne_of_lt hij)
    · exact e3 _ (Nat.le_sub_one_of_lt hj1) (Nat.lt_of_lt_of_le (Nat.sub_lt (Nat.zero_lt_of_lt hj1) Nat.one_pos) hj2)
    · exact absurd ⟨hi ▸ hij, hj'⟩ hj2
    · exact absurd (Nat.lt_trans hij (hj1 ▸ hi1)) (Nat.lt_irrefl _)
    · exact h _ _ (Nat.sub_lt_sub_right (Nat.succ_le_of_lt (Nat.zero_lt_of_lt hi1)) hij) (Nat.lt_of_lt_of_le (Nat.sub_lt (Nat.zero_lt_of_lt hj1) Nat.one_pos) hj2)
    · exact absurd ⟨Nat.lt_trans hi1 hij, hj'⟩ hj2
    · exact e2 _ (hj1 ▸ hij)
    · have hil : i < l := Nat.lt_of_le_of_ne (Nat.not_lt.mp fun q => hi2 ⟨q, Nat.le_trans (Nat.le_of_lt hij) hj2⟩) hi1
      exact h _ _ (Nat.lt_of_lt_of_le hil (Nat.le_sub_one_of_lt hj1)) (Nat.lt_of_lt_of_le (Nat.sub_lt (Nat.zero_lt_of_lt hj1) Nat.one_pos) hj2)
    · have hjl : j < l := Nat.lt_of_le_of_ne (Nat.not_lt.mp fun q => hj2 ⟨q, hj'⟩) hj1
      exact h _ _ hij (Nat.lt_of_lt_of_le hjl e1)
theorem sort_ok (O : LtO lt) (hN : 1 ≤ N) : KH lt N (kas_sort N) (fun p => Pm N p ∧ Asc lt p N) := by
  unfold kas_sort
  have g : ∀ i, i < N → (List.toArray (List.range N)).getD i 0 = i := fun i hi => by
    rw [getD_of (v := some i) (by simp [hi])]; rfl
  have P0 : Pm N (List.toArray (List.range N)) := ⟨by simp, fun i hi => by rw [g i hi]; exact hi, fun i j hi hj e => by rw [g i hi, g j hj] at e; exact e⟩
  refine KH.bind (KH.mono (fun r hr => ?_) (count_ok O P0 hN))
  obtain ⟨m, p⟩ := r
  obtain ⟨e1, e2, e3, e4⟩ := hr
  dsimp only at e1 e2 e3 e4 ⊢
  have em : max m 1 = m := Nat.max_eq_left e1
  by_cases h : m < N
  · rw [if_pos h, em]
    exact bin_ok O _ _ _ e3 e1 (Nat.add_sub_cancel' e2) e4
  · rw [if_neg h]
    obtain rfl : m = N := Nat.le_antisymm e2 (Nat.not_lt.mp h)
    exact ⟨e3, e4⟩
/-- the answer as a list of places -/
theorem pm_list (P : Pm N p) (A : Asc lt p N) : p.toList.length = N ∧ (∀ i ∈ p.toList, i < N) ∧ p.toList.Nodup ∧ p.toList.Pairwise (fun i j => lt i j = true) := by
  have hl : p.toList.length = N := by rw [Array.length_toList]; exact P.sz
  have g : ∀ i (h : i < p.toList.length), p.toList[i] = p.getD i 0 := fun i h => by
    rw [getD_of (p := p) (i := i) (v := some p.toList[i]) (by simp)]; rfl
  refine ⟨hl, fun i hi => ?_, ?_, ?_⟩
  · obtain ⟨k, hk, rfl⟩ := List.getElem_of_mem hi
    rw [g]; exact P.bd _ (hl ▸ hk)
  · rw [List.Nodup, List.pairwise_iff_getElem]
    intro i j hi hj hij e
    rw [g, g] at e
    exact Nat.ne_of_lt hij (P.inj _ _ (hl ▸ hi) (hl ▸ hj) e)
  · rw [List.pairwise_iff_getElem]
    intro i j hi hj hij
    rw [g, g]
    exact A _ _ hij (hl ▸ hj)
end
end Mine
end
noncomputable section
namespace Mine
theorem nodup_len : ∀ {l l' : List Nat}, l.Nodup → (∀ x ∈ l, x ∈ l') → l.length ≤ l'.length
  | [], _, _, _ => Nat.zero_le _
  | a :: l, l', nd, h => by
    rw [List.nodup_cons] at nd
    have ha := h a List.mem_cons_self
    have h2 : l.length ≤ (l'.erase a).length := nodup_len nd.2 fun x hx => by
      have hxa : x ≠ a := fun q => nd.1 (q ▸ hx)
      exact (List.mem_erase_of_ne hxa).mpr (h x (List.mem_cons_of_mem _ hx))
    rw [List.length_erase_of_mem ha] at h2
    have : 0 < l'.length := List.length_pos_of_mem ha
    rw [List.length_cons]; lia
theorem nodup_full {l : List Nat} {N : Nat} (nd : l.Nodup) (hl : l.length = N) (hb : ∀ x ∈ l, x < N) {k : Nat} (hk : k < N) : k ∈ l := by
  refine Decidable.byContradiction fun hn => ?_
  have := nodup_len (l := k :: l) (l' := List.range N) (List.nodup_cons.mpr ⟨hn, nd⟩) fun x hx => by
    rcases List.mem_cons.mp hx with rfl | hx
    · exact List.mem_range.mpr hk
    · exact List.mem_range.mpr (hb x hx)
  rw [List.length_cons, List.length_range] at this; lia
theorem perm_range {l : List Nat} {N : Nat} (nd : l.Nodup) (hl : l.length = N) (hb : ∀ x ∈ l, x < N) : l.Perm (List.range N) :=
  (List.perm_ext_iff_of_nodup nd List.nodup_range).mpr fun k => ⟨fun h => List.mem_range.mpr (hb k h), fun h => nodup_full nd hl hb (List.mem_range.mp h)⟩
/-- an order told by hues, then by places -/
noncomputable def hlt (ts : List Int) (i j : Nat) : Bool := decide (ts.getD i 0 < ts.getD j 0 ∨ (ts.getD i 0 = ts.getD j 0 ∧ i < j))
theorem hlt_trans {ts : List Int} {i j k : Nat} (h1 : hlt ts i j = true) (h2 : hlt ts j k = true) : hlt ts i k = true := by
  unfold hlt at *; rw [decide_eq_true_eq] at *; lia
theorem hlt_tot {ts : List Int} {i j : Nat} (h : i ≠ j) (h1 : hlt ts i j = false) : hlt ts j i = true := by
  unfold hlt at *; rw [decide_eq_true_eq]; rw [decide_eq_false_iff_not] at h1; lia
theorem hlt_asym {ts : List Int} {i j : Nat} (h1 : hlt ts i j = true) : hlt ts j i = false := by
  unfold hlt at *; rw [decide_eq_true_eq] at h1; rw [decide_eq_false_iff_not]; lia
noncomputable def hle (ts : List Int) (i j : Nat) : Bool := decide (ts.getD i 0 < ts.getD j 0 ∨ (ts.getD i 0 = ts.getD j 0 ∧ i ≤ j))
noncomputable def ordOf (ts : List Int) : List Nat := (List.range ts.length).mergeSort (hle ts)
theorem ord_perm (ts : List Int) : (ordOf ts).Perm (List.range ts.length) := List.mergeSort_perm _ _
theorem ord_pw (ts : List Int) : (ordOf ts).Pairwise (fun i j => hlt ts i j = true) := by
  have h1 : (ordOf ts).Pairwise (fun i j => hle ts i j = true) := List.pairwise_mergeSort (le := hle ts) (fun a b c h1 h2 => by unfold hle at *; rw [decide_eq_true_eq] at *; lia)
    (fun a b => by unfold hle; rw [Bool.or_eq_true, decide_eq_true_eq, decide_eq_true_eq]; lia) (List.range ts.length)
  have h2 : (ordOf ts).Nodup := (ord_perm ts).nodup_iff.mpr List.nodup_range
  refine (h1.and h2).imp fun {a b} h => ?_
  have := h.1; have := h.2
  unfold hle at *; unfold hlt; rw [decide_eq_true_eq] at *; lia
theorem ord_unique {ts : List Int} {l : List Nat} (hl : l.length = ts.length) (hb : ∀ x ∈ l, x < ts.length) (nd : l.Nodup) (pw : l.Pairwise (fun i j => hlt ts i j = true)) : l = ordOf ts := by
  refine List.Perm.eq_of_pairwise (le := fun i j => hlt ts i j = true) (fun a b _ _ h1 h2 => ?_) pw (ord_pw ts) ((perm_range nd hl hb).trans (ord_perm ts).symm)
  rw [hlt_asym h1] at h2; cases h2
end Mine
end
noncomputable section
open PySem PySem.W PyProof.Rows
namespace Mine

section
variable {prog : Program} {w : World} {A : Around} {E : Value → Shared → Prop} {s : Shared}
theorem call_float_lt {a b : UInt64} {t u : Tok} {Q : Value → Shared → Prop} (h : Q (.bool (Float64.cmp a b == some Ordering.lt)) s) : wpAny (model prog w) A (call (.builtin "float.__lt__") [.float a t, .float b u]) Q E s :=
  call_gives F.slot_float_lt (AutoFloatOps.typeIs_float s a t) F.entry_float_lt (F.args_float_lt_2 _ _) (AutoFloatG5.float___lt___float_float_0 a t b u) h
theorem oneLt_flt {a b : UInt64} {t u : Tok} {Q : Bool → Shared → Prop} (h : Q (Float64.cmp a b == some Ordering.lt) s) : wpAny (model prog w) A (oneLt' true (.float a t) (.float b u)) Q E s := by
  rw [oneLt'_eq]
  simp only [if_true]
  refine wpAny_bind (wpAny_cRoomFor_byValue rfl ?_)
  refine wpAny_bind (wpAny_callSpecialIfBound?_slot (AutoFloatOps.typeIs_float s a t) F.slot_float_lt (call_float_lt ?_))
  exact wpAny_truthy_bool h
/-- a sort of objects whose questions change nothing -/
theorem lsort_still {a : Addr} {vs : List Value} {n : Nat} {P : PySem.Fin → Shared → Prop} {κ : SortKind} {lt : Nat → Nat → Bool} (O : LtO lt) (ho : s.heap.get? a = some (seqObj "list" vs.toArray n)) (h2 : 2 ≤ vs.length) (h64 : vs.length < 64)
    (hk : ∀ h', (∀ b o, b ≠ a → s.heap.get? b = some o → h'.get? b = some o) → wpAny (model prog w) A (keyKind' vs.toArray) (fun κ' s' => κ' = κ ∧ s' = { s with heap := h' }) E { s with heap := h' })
    (hc : ∀ h', (∀ b o, b ≠ a → s.heap.get? b = some o → h'.get? b = some o) → ∀ i j, i < vs.length → j < vs.length → ∀ C : Bool → Shared → Prop, C (lt i j) { s with heap := h' } → wpAny (model prog w) A (keyLt' κ (vs.getD i .none) (vs.getD j .none)) C (fun _ _ => False) { s with heap := h' })
    (h : ∀ p : Array Nat, Pm vs.length p → Asc lt p vs.length → P (.done (.ret .none)) { s with heap := sortedHeap s.heap a vs (List.toArray (p.toList.map fun i => vs.getD i Value.none)) }) :
    wpAny (model prog w) A (Builtin.«list.sort» ⟨[.ref a], []⟩) P E s := by
  rw [list_sort_plain]
  have ha : a < s.heap.objs.size := Heap.lt_size ho
  refine wpAny_bind (listItems_at ho rfl ?_)
  refine wpAny_bind (listUpdate_at ho rfl ?_ (by rw [List.size_toArray, sizeLine_eq]; lia) (Nat.zero_le _))
  obtain ⟨e1, ho1⟩ : ∃ e1, (s.heap.update a (Obj.mapSeq fun _ => (#[] : Array Value))).get? a = some (seqObj "list" #[] e1) := ⟨_, get?_update_seq ho (fun _ => #[])⟩
  refine wpAny_bind (seqEpoch_at ho1 rfl ?_)
  refine wpAny_bind (wpAny_newTuple ?_ (by show vs.length ≤ _; rw [sizeLine_eq]; lia))
  refine wpAny_bind (wpAny_newList ?_ (Nat.zero_le _))
  refine wpAny_holding ?_
  have s1 := Heap.SameBut.update s.heap a (Obj.mapSeq fun _ => (#[] : Array Value))
  have keep : ∀ b o, b ≠ a → s.heap.get? b = some o → (((s.heap.update a (Obj.mapSeq fun _ => (#[] : Array Value))).push (seqObj "tuple" vs.toArray 0)).push (seqObj "list" #[] 0)).get? b = some o := fun b o hb e =>
    Heap.get?_push_of_some _ (Heap.get?_push_of_some _ (s1.extBut b o hb e))
  have ho6 : (((s.heap.update a (Obj.mapSeq fun _ => (#[] : Array Value))).push (seqObj "tuple" vs.toArray 0)).push (seqObj "list" #[] 0)).get? a = some (seqObj "list" #[] e1) :=
    Heap.get?_push_of_some _ (Heap.get?_push_of_some _ ho1)
  show wpAny (model prog w) A _ P E { s with heap := ((s.heap.update a (Obj.mapSeq fun _ => (#[] : Array Value))).push (seqObj "tuple" vs.toArray 0)).push (seqObj "list" #[] 0) }
  dsimp only
  have hn2 : ¬ vs.toArray.size < 2 := by rw [List.size_toArray]; lia
  rw [if_neg hn2, if_neg hn2]
  refine wpAny_bind (wpAny_mono (hk _ keep) (fun κ' s0 hk' => ?_) fun _ _ x => x)
  obtain ⟨rfl, rfl⟩ := hk'
  have T : (kas_sort vs.length).kasWp (kas_ask prog w A κ' vs) (fun p s' => (Pm vs.length p ∧ Asc lt p vs.length) ∧ s' = { s with heap := ((s.heap.update a (Obj.mapSeq fun _ => (#[] : Array Value))).push (seqObj "tuple" vs.toArray 0)).push (seqObj "list" #[] 0) })
      { s with heap := ((s.heap.update a (Obj.mapSeq fun _ => (#[] : Array Value))).push (seqObj "tuple" vs.toArray 0)).push (seqObj "list" #[] 0) } :=
    KH.wp (N := vs.length) (fun i j hi hj C hC => hc _ keep i j hi hj C hC) (fun p hp => ⟨hp, rfl⟩) (sort_ok O (by lia))
  refine wpAny_bind (wpAny_mono (kat_run (Q := fun st' s' => ∃ p : Array Nat, arrOf st' = p.map (kas_item (vs.toArray.zip vs.toArray)) ∧ failedOf st' = none ∧ (Pm vs.length p ∧ Asc lt p vs.length) ∧ s' = { s with heap := ((s.heap.update a (Obj.mapSeq fun _ => (#[] : Array Value))).push (seqObj "tuple" vs.toArray 0)).push (seqObj "list" #[] 0) })
    rfl h2 h64 (fun p' st' s' a1 a2 a3 a4 => ⟨p', a2, a3, a4⟩) T) ?_ fun _ _ e => e)
  rintro ⟨⟨⟩, st'⟩ s' ⟨p, har, hf, ⟨hp, hA⟩, rfl⟩
  dsimp only
  have hout := kat_snds (vs := vs) (ks := vs) rfl har
  refine wpAny_bind (seqEpoch_at ho6 rfl ?_)
  rw [hout]
  refine wpAny_bind (listUpdate_at ho6 rfl ?_ (Nat.zero_le _) (by rw [List.size_toArray, List.length_map, Array.length_toList, hp.sz, sizeLine_eq]; lia))
  rw [hf]
  simp only [bne_self_eq_false, Bool.false_eq_true, if_false]
  exact wpAny_pure (h p hp hA)
theorem sorted_still {l : Addr} {vs : List Value} {Q : Value → Shared → Prop} {κ : SortKind} {lt : Nat → Nat → Bool} (O : LtO lt) (hl : s.heap.IsList l vs.toArray) (h2 : 2 ≤ vs.length) (h64 : vs.length < 64)
    (hk : ∀ A E h', (∀ b o, s.heap.get? b = some o → h'.get? b = some o) → wpAny (model prog w) A (keyKind' vs.toArray) (fun κ' s' => κ' = κ ∧ s' = { s with heap := h' }) E { s with heap := h' })
    (hc : ∀ A h', (∀ b o, s.heap.get? b = some o → h'.get? b = some o) → ∀ i j, i < vs.length → j < vs.length → ∀ C : Bool → Shared → Prop, C (lt i j) { s with heap := h' } → wpAny (model prog w) A (keyLt' κ (vs.getD i .none) (vs.getD j .none)) C (fun _ _ => False) { s with heap := h' })
    (h : ∀ p : Array Nat, Pm vs.length p → Asc lt p vs.length → Q (.ref (s.heap.objs.size + 1)) { s with heap := sortedAll s.heap vs (List.toArray (p.toList.map fun i => vs.getD i Value.none)) }) :
    wpAny (model prog w) A (call (.builtin "sorted") [.ref l]) Q E s := by
  refine Calls.call_function_entry kind_sorted plain_sorted entry_sorted (args_sorted1 _) ?_
  unfold Builtin.«sorted»
  refine wpAny_bind (m := checkCount "sorted" 1 1 _) (wpAny_pure ?_)
  refine wpAny_bind (collect_list hl ?_ (by rw [sizeLine_eq]; lia))
  refine wpAny_bind (wpAny_newList ?_ (by rw [sizeLine_eq]; lia))
  have hsz : ((s.heap.push (seqObj "list" #[] 0)).update s.heap.objs.size (Obj.mapSeq (· ++ vs.toArray))).objs.size = s.heap.objs.size + 1 := by
    rw [Heap.size_update, size_push']
  have hoL : (((s.heap.push (seqObj "list" #[] 0)).update s.heap.objs.size (Obj.mapSeq (· ++ vs.toArray))).push (seqObj "list" vs.toArray 0)).get? (s.heap.objs.size + 1) = some (seqObj "list" vs.toArray 0) := by
    rw [← hsz]; exact Heap.get?_push_size _ rfl
  have keep : ∀ b o, s.heap.get? b = some o → b ≠ s.heap.objs.size + 1 ∧ (((s.heap.push (seqObj "list" #[] 0)).update s.heap.objs.size (Obj.mapSeq (· ++ vs.toArray))).push (seqObj "list" vs.toArray 0)).get? b = some o := fun b o q => by
    have hlt : b < s.heap.objs.size := Heap.lt_size q
    refine ⟨Nat.ne_of_lt (Nat.lt_succ_of_lt hlt), ?_⟩
    rw [Heap.get?_push_ne _ _ _ (by rw [hsz]; exact Nat.ne_of_lt (Nat.lt_succ_of_lt hlt)), Heap.get?_update_ne _ _ _ _ (Nat.ne_of_lt hlt), Heap.get?_push_ne _ _ _ (Nat.ne_of_lt hlt)]
    exact q
  show wpAny _ _ _ _ _ { s with heap := ((s.heap.push (seqObj "list" #[] 0)).update s.heap.objs.size (Obj.mapSeq (· ++ vs.toArray))).push (seqObj "list" vs.toArray 0) }
  rw [hsz]
  refine wpAny_bind (wpAny_holding (wpAny_call_entry slot_list_sort ⟨_, hoL, rfl⟩ entry_list_sort ?body (args_list_sort _)))
  case body =>
    refine lsort_still (s := { s with heap := ((s.heap.push (seqObj "list" #[] 0)).update s.heap.objs.size (Obj.mapSeq (· ++ vs.toArray))).push (seqObj "list" vs.toArray 0) }) O hoL h2 h64
      (fun h' k => hk _ _ h' fun b o e => k b o (keep b o e).1 (keep b o e).2) (fun h' k => hc _ h' fun b o e => k b o (keep b o e).1 (keep b o e).2) fun p hp hA => ⟨_, rfl, wpAny_pure ⟨_, rfl, h p hp hA⟩⟩
end

theorem hlt_o (ts : List Int) : LtO (hlt ts) := ⟨fun _ _ _ => hlt_trans, fun _ _ => hlt_tot, fun _ _ => hlt_asym⟩
noncomputable def hp (ts : List Int) (i : Nat) : D := .tup [FL (ts.getD i 0), .int i]
section
variable {prog : Program} {w : World} {g₀ : Heap} {A : Around} {H : List Addr} {c : Cf}
theorem firsts_of {ts : List Int} (so : SOk g₀ H c) : ∀ {is : List Nat} {vs : List Value}, RepL H c (is.map (hp ts)) vs → ∃ fs, KatTups c.heap vs fs ∧ fs.length = vs.length ∧ ∀ v ∈ fs, ∃ b t, v = .float b t
  | [], vs, r => by obtain rfl := r.nil_inv; exact ⟨[], trivial, rfl, fun _ h => by cases h⟩
  | i :: is, vs, r => by
    obtain ⟨v, q, rfl, r1, r2⟩ := r.cons_inv
    obtain ⟨fs, h1, h2, h3⟩ := firsts_of so r2
    obtain ⟨a, us, n, rfl, ha, ho, rr⟩ := r1.tup_inv
    obtain ⟨f, q', rfl, s1, s2⟩ := rr.cons_inv
    obtain ⟨b, t, rfl, _⟩ := s1.flt_inv
    refine ⟨.float b t :: fs, KatTups.cons ho rfl rfl (by simp) h1, by simp [h2], fun v hv => ?_⟩
    rcases List.mem_cons.mp hv with rfl | hv
    · exact ⟨b, t, rfl⟩
    · exact h3 v hv
theorem lt_tups {ts : List Int} {i j : Nat} {v1 v2 : Value} {C : Bool → Shared → Prop} {E : Value → Shared → Prop} (so : SOk g₀ H c) (r1 : Rep H c (hp ts i) v1) (r2 : Rep H c (hp ts j) v2) (h : C (hlt ts i j) c.s) :
    wpAny (model prog w) A (keyLt' (tuples' true) v1 v2) C E c.s := by
  obtain ⟨a, us, n, rfl, ha, ho, rr⟩ := r1.tup_inv
  obtain ⟨f, q', rfl, s1, s2⟩ := rr.cons_inv
  obtain ⟨i1, q'', rfl, s3, s4⟩ := s2.cons_inv
  obtain rfl := s4.nil_inv
  obtain ⟨a', us', n', rfl, ha', ho', rr'⟩ := r2.tup_inv
  obtain ⟨f', q', rfl, s1', s2'⟩ := rr'.cons_inv
  obtain ⟨i1', q'', rfl, s3', s4'⟩ := s2'.cons_inv
  obtain rfl := s4'.nil_inv
  have b1 : FL (ts.getD i 0) = .flt (ts.getD i 0 * 65536) := rfl
  have b2 : FL (ts.getD j 0) = .flt (ts.getD j 0 * 65536) := rfl
  rw [b1] at s1
  rw [b2] at s1'
  refine kat_lt ho rfl ho' rfl ?_
  rw [show decide (#[f, i1].size < #[f', i1'].size) = false from rfl]
  show KatLex prog w A true false C [(f, f'), (i1, i1')] 0 c.s
  refine kat_cons (eqAt_flt (A := A) so s1 s1' prog w _ _ ?_)
  by_cases he : ts.getD i 0 = ts.getD j 0
  · rw [show decide (ts.getD i 0 * 65536 = ts.getD j 0 * 65536) = true from decide_eq_true (by rw [he])]
    refine kat_yes (kat_cons ?_)
    obtain ⟨t, rfl⟩ := s3.int_inv
    obtain ⟨u, rfl⟩ := s3'.int_inv
    refine wpAny_eqBool_int ?_
    by_cases hij : i = j
    · have e1 : (((i : Nat) : Int) == ((j : Nat) : Int)) = true := by rw [hij]; simp
      rw [e1]
      refine kat_yes (kat_nil ?_)
      have : hlt ts i j = false := by unfold hlt; rw [decide_eq_false_iff_not]; lia
      rw [this] at h; exact h
    · have e1 : (((i : Nat) : Int) == ((j : Nat) : Int)) = false := by simp; lia
      rw [e1]
      refine kat_no (kat_one _ _ (PyProof.Rows.lt_int ?_))
      have : hlt ts i j = decide ((i : Int) < (j : Int)) := by unfold hlt; exact decide_eq_decide.mpr (by lia)
      rw [this] at h; exact h
  · rw [show decide (ts.getD i 0 * 65536 = ts.getD j 0 * 65536) = false from decide_eq_false (by lia)]
    refine kat_no ?_
    obtain ⟨x, t, rfl, h1, _⟩ := s1.flt_inv
    obtain ⟨y, u, rfl, h2, _⟩ := s1'.flt_inv
    refine oneLt_flt ?_
    rw [(cmp_b h1 h2).2.1]
    have : hlt ts i j = decide (ts.getD i 0 * 65536 < ts.getD j 0 * 65536) := by unfold hlt; exact decide_eq_decide.mpr (by lia)
    rw [this] at h; exact h
theorem fn_sorted_tup {ts : List Int} (h2 : 2 ≤ ts.length) (hl : ts.length < 64) : Fn prog w g₀ A (.builtin "sorted") [.list ((List.range ts.length).map (hp ts))] (.list ((ordOf ts).map (hp ts))) := fun H c vs so r => by
  obtain ⟨v, q, rfl, r1, r2⟩ := r.cons_inv
  obtain rfl := r2.nil_inv
  obtain ⟨a, vs, n, rfl, ha, ho, rr⟩ := r1.list_inv
  have hlen : vs.length = ts.length := by rw [rr.length]; simp
  have kp' : ∀ h', (∀ b o, c.heap.get? b = some o → h'.get? b = some o) → Kp c (c.put h' c.s.toks) := fun h' k => .of k (Nat.le_refl _)
  have at' : ∀ i, i < vs.length → ∀ h', (∀ b o, c.heap.get? b = some o → h'.get? b = some o) → Rep H (c.put h' c.s.toks) (hp ts i) (vs.getD i .none) := fun i hi h' k => by
    obtain ⟨v, e, rv⟩ := rr.get (i := i) (d := hp ts i) (by rw [List.getElem?_map, List.getElem?_range (by lia)]; rfl)
    have : vs.getD i .none = v := by simp [e]
    rw [this]
    exact rv.kp so (kp' h' k)
  refine sorted_still (κ := tuples' true) (hlt_o ts) ⟨_, ho, rfl, n, rfl⟩ (by lia) (by lia) (fun A E h' k => ?_) (fun A h' k i j hi hj C hC => ?_) fun p P As => ?_
  · have so' := so.kp (kp' h' k)
    obtain ⟨fs, f1, f2, f3⟩ := firsts_of so' (rr.kp so (kp' h' k))
    refine kat_kind (T := .type "float") f1 (by lia) (fun v hv => ?_) (by rfl) ⟨rfl, rfl⟩
    obtain ⟨b, t, rfl⟩ := f3 v hv
    exact Looks.of_pure rfl
  · exact lt_tups (c := c.put h' c.s.toks) (so.kp (kp' h' k)) (at' i hi h' k) (at' j hj h' k) hC
  · obtain ⟨e1, e2, e3, e4⟩ := pm_list P As
    have e5 : p.toList = ordOf ts := ord_unique (by rw [e1, hlen]) (fun x hx => by rw [← hlen]; exact e2 x hx) e3 e4
    obtain ⟨k, hk⟩ := sortedAll_at c.s.heap vs (List.toArray (p.toList.map fun i => vs.getD i Value.none))
    have kp := kp' (sortedAll c.s.heap vs (List.toArray (p.toList.map fun i => vs.getD i Value.none))) fun b o e => sortedAll_old e
    refine ⟨_, rfl, kp, Rep.list (vs := p.toList.map fun i => vs.getD i Value.none) (n := k) (so.fresh (frees (Nat.le_succ _))) hk ?_⟩
    rw [← e5]
    have all : ∀ is : List Nat, (∀ i ∈ is, i < vs.length) → RepL H (c.put (sortedAll c.s.heap vs (List.toArray (p.toList.map fun i => vs.getD i Value.none))) c.s.toks) (is.map (hp ts)) (is.map fun i => vs.getD i Value.none) := by
      intro is
      induction is with
      | nil => intro _; exact .nil
      | cons i is ih => intro hb; exact .cons (at' i (hb i List.mem_cons_self) _ fun b o e => sortedAll_old e) (ih fun j hj => hb j (List.mem_cons_of_mem _ hj))
    exact all _ e2
end
end Mine
end
noncomputable section
open PySem PySem.W PyProof.Rows
namespace Mine
open PySem.Calls

theorem nolen_lri : typeLookup (.type "list_reverseiterator") "__len__" = pure none := by rw [typeLookup_type, builtinLookup_eq_fast]; kernel_rfl
theorem hint_lri : typeLookup (.type "list_reverseiterator") "__length_hint__" = pure (some (.builtin "list_reverseiterator.__length_hint__")) := by rw [typeLookup_type, builtinLookup_eq_fast]; kernel_rfl
section
variable {prog : Program} {w : World} {A : Around} {s : Shared}
theorem lenhint_lri {E : Value → Shared → Prop} {r : Addr} {Q : Bool → Shared → Prop} (hT : s.TypeIs (.ref r) "list_reverseiterator") (h : Q false s) : wpAny (model prog w) A (Builtin.List.listLengthHint (.ref r)) Q E s := by
  unfold Builtin.List.listLengthHint
  refine wpAny_bind (wpAny_specialOf hT nolen_lri ?_)
  show wpAny _ _ (specialOf (Value.ref r) (Str.ofString "__length_hint__") >>= _) _ _ _
  refine wpAny_bind (wpAny_specialOf hT hint_lri ?_)
  generalize hid : ("list_reverseiterator.__length_hint__" : String) = id0
  wp_delta
  rw [show splitId id0 = some ("list_reverseiterator", "__length_hint__") from by subst hid; decide +kernel]
  subst hid
  refine wpAny_bind (wpAny_isInstance (b := true) hT (by rw [isSubtype_type]; kernel_rfl) ?_)
  exact wpAny_pure h
theorem call_list_rev {E : Value → Shared → Prop} {Q : Value → Shared → Prop} {I l : Addr} {items : Array Value} (hh : A.handled = none) (hne : l ≠ I) (hit : s.heap.IsRevIter I l ((items.size : Int) - 1)) (hl : s.heap.IsList l items) (hn : items.size ≤ sizeLine)
    (hQ : ∀ h' tk acc' c', (∀ b o, b ≠ I → s.heap.get? b = some o → h'.get? b = some o) → s.toks ≤ tk → h'.get? s.heap.objs.size = some { cls := .type "list", dict := none, data := .seq acc' c', slots := #[] } → ItemsOf (fun i v => items[items.size - 1 - i]? = some v) acc' items.size → Q (.ref s.heap.objs.size) { s with heap := h', toks := tk }) :
    wpAny (model prog w) A (call (.type "list") [.ref I]) Q E s := by
  have W := (Walks.listRev (prog := prog) (w := w) (A := A.in1.in1) hh I l hne items).toS
  have Il : I < s.heap.objs.size := by obtain ⟨o, e, _⟩ := hit; exact Heap.lt_size e
  have ll : l < s.heap.objs.size := by obtain ⟨o, e, _⟩ := hl; exact Heap.lt_size e
  have hSf : s.heap.objs.size ∉ [I, l] := fun hm => by
    rcases List.mem_cons.mp hm with e | hm
    · rw [e] at Il; exact Nat.lt_irrefl _ Il
    · rw [List.mem_singleton.mp hm] at ll; exact Nat.lt_irrefl _ ll
  have hSI : s.heap.objs.size ≠ I := fun e => hSf (by rw [e]; exact List.mem_cons_self)
  refine callType_codes (Q₁ := fun obj s₁ => obj = .ref s.heap.objs.size ∧ s₁ = { s with heap := s.heap.push { cls := .type "list", data := .seq #[] } }) PySem.F.called_list (PySem.F.typeCall_list_1 _) PySem.F.entry_list_init
    (code_list_new _ ⟨rfl, rfl⟩) fun obj s₁ h₁ => ?_
  obtain ⟨rfl, rfl⟩ := h₁
  have hS : (s.heap.push { cls := .type "list", data := .seq #[] }).get? s.heap.objs.size = some { cls := .type "list", data := .seq #[] } := Heap.get?_push_size _ rfl
  refine ⟨⟨_, hS, rfl⟩, PySem.F.args_list_init_2 _ _, ?_⟩
  show wpAny _ _ (do let old ← Builtin.List.listItems (.ref s.heap.objs.size); Builtin.List.listUpdate (.ref s.heap.objs.size) (fun _ => #[]); letGo old.toList.reverse; Builtin.List.listExtendWith (.ref s.heap.objs.size) (.ref I) .none) _ _ _
  refine wpAny_bind ?_
  unfold Builtin.List.listItems
  refine wpAny_bind (wpAny_seqItems hS rfl (wpAny_pure ?_))
  show wpAny _ _ (updateSeq s.heap.objs.size (fun _ => #[]) >>= fun _ => letGo (#[] : Array Value).toList.reverse >>= fun _ => Builtin.List.listExtendWith (.ref s.heap.objs.size) (.ref I) .none) _ _ _
  refine wpAny_bind (wpAny_updateSeq hS rfl ?_)
  have hS₂ := Heap.get?_update_self (Obj.mapSeq (fun _ => (#[] : Array Value))) hS rfl
  have oth : ∀ b o, b ≠ s.heap.objs.size → s.heap.get? b = some o → ((s.heap.push { cls := .type "list", data := .seq #[] }).update s.heap.objs.size (Obj.mapSeq (fun _ => (#[] : Array Value)))).get? b = some o :=
    fun b o hb e => (Heap.get?_update_other _ _ (Ne.symm hb)).trans (Heap.get?_push_of_some _ e)
  refine wpAny_bind (wpAny_letGo ?_)
  unfold Builtin.List.listExtendWith
  have hit₂ := hit.at fun o e => oth I o hSI.symm e
  have hl₂ := hl.at fun o e => oth l o (Nat.ne_of_lt ll) e
  have hT : Shared.TypeIs { s with heap := (s.heap.push { cls := .type "list", data := .seq #[] }).update s.heap.objs.size (Obj.mapSeq (fun _ => (#[] : Array Value))) } (.ref I) "list_reverseiterator" := let ⟨o, ho, hc, _⟩ := hit₂; ⟨o, ho, hc⟩
  refine wpAny_bind (wpAny_typeOf hT ?_)
  have h1 : Builtin.List.listSameRef (.ref s.heap.objs.size) (.ref I) = false := by simp [Builtin.List.listSameRef, hSI]
  rw [if_neg (by rw [h1]; decide)]
  refine wpAny_bind (wpAny_pyIter_revIter hit₂ ?_)
  refine wpAny_bind (wpAny_holding (lenhint_lri hT ?_))
  rw [if_neg (by decide)]
  refine wpAny_pure ⟨plainId_quiet PySem.F.plain_extend_loop _, codeAny_extend_loopS (A := A.in1) W hn _ hSf _ items.size 0 _ _ _ rfl (Nat.zero_le _) ⟨Nat.zero_le _, by simpa using hit₂, hl₂⟩ hS₂ (ItemsOf.nil _) fun s' acc' c' hm hS' hacc => ?_⟩
  rw [Moved.eq_with hm]
  refine ⟨rfl, hQ s'.heap s'.toks acc' c' (fun b o hb e => hm.heap b o (fun hmem => ?_) (oth b o (Nat.ne_of_lt (Heap.lt_size e)) e)) hm.toks hS' hacc⟩
  rcases List.mem_cons.mp hmem with e' | hmem
  · exact absurd (Heap.lt_size e) (by rw [e']; exact Nat.lt_irrefl _)
  · exact hb (List.mem_singleton.mp hmem)
end
section
variable {prog : Program} {w : World} {g₀ : Heap} {A : Around} {H H₀ X : List Addr} {env : Env} {c₀ c c' : Cf} {K : Frag} {ρ : List (Str × D)}
/-- list(reversed(e)) -/
theorem ev_list_rev {x y : Str} {p p2 pos pos2 : Pos} {e : Expr} {l : List D} (hA : A.handled = none) (G : Gd K g₀) (nl : GName K env x (.type "list")) (nr : GName K env y (.type "reversed")) (hn : l.length ≤ 1000) (h : EV prog w g₀ A H env c e (.list l))
    (hes : ∀ rest, starEach (e :: rest) env = (false, eval e env) :: starEach rest env := by intro _; rfl) (hes2 : ∀ rest, starEach (.Call (.Name y p2) [e] [] pos2 :: rest) env = (false, eval (.Call (.Name y p2) [e] [] pos2) env) :: starEach rest env := by intro _; rfl) :
    EV prog w g₀ A H env c (.Call (.Name x p) [.Call (.Name y p2) [e] [] pos2] [] pos) (.list l.reverse) := fun c' k so => by
  refine Call_Name rfl (name_g G so nl ?_)
  refine PyProof.Rows.callWith_type1 ?_ (hes2 []) rfl
  refine wpAny_items_cons ?_ (hes2 [])
  refine call_gen G nr (.type _) k so (evs_cons h evs_nil hes) (fun c₁ vs k₁ so₁ r₁ => ?_) (hes []) rfl
  obtain ⟨v, q, rfl, rv, r'⟩ := r₁.cons_inv
  obtain rfl := r'.nil_inv
  obtain ⟨a, vs, n, rfl, ha, ho, rr⟩ := rv.list_inv
  have hl : c₁.s.heap.IsList a vs.toArray := ⟨_, ho, rfl, n, rfl⟩
  have hlen : vs.length = l.length := rr.length
  refine call_reversed_list hl (wpAny_items_nil ?_)
  have ean : @LT.lt Nat _ a c₁.s.heap.objs.size := Heap.lt_size ho
  refine call_list_rev hA (by show @Ne Nat _ _; lia) ⟨_, Heap.get?_push_size _ rfl, rfl, rfl⟩ (hl.push _) (by rw [sizeLine_eq]; simp; lia) fun h' tk acc c₂ hk htk hl' hi => ?_
  have k₂ : Kp c₁ (c₁.put h' tk) := .of (fun b o e => hk b o (Nat.ne_of_lt (Heap.lt_size e)) (Heap.get?_push_of_some _ e)) htk
  have hfr : c₁.heap.get? (c₁.s.heap.push (revObj a ((vs.toArray.size : Int) - 1))).objs.size = none := frees (by rw [Heap.size_push]; exact Nat.le_succ _)
  refine Got.after k₁ ⟨_, rfl, k₂, Rep.list (vs := acc.toList) (n := c₂) (so₁.fresh hfr) (by simpa using hl') ?_⟩
  refine RepL.of (by simp [hi.1, hlen]) fun i d v e1 e2 => ?_
  have hi1 : i < l.length := by have := (List.getElem?_eq_some_iff.mp e1).1; simpa using this
  rw [List.getElem?_reverse hi1] at e1
  obtain ⟨v', hv', rv'⟩ := (rr.kp so₁ k₂).get e1
  have e3 := hi.2 _ _ (by simpa using e2)
  simp only [List.size_toArray, List.getElem?_toArray, hlen] at e3
  rw [hv'] at e3
  cases e3
  exact rv'
end
end Mine
end
noncomputable section
open PySem PySem.W PyProof.Rows
namespace Mine
open PySem.Calls
section
variable {prog : Program} {w : World} {g₀ : Heap} {A : Around} {H H₀ X : List Addr} {env : Env} {c₀ c c' : Cf} {K : Frag} {ρ : List (Str × D)}
/-- x, y = ([], b) -/
theorem sx_own_pair {x y : Str} {p q lp pb tp tp2 pos : Pos} {k k2 kb : Nat} {b : Bool} {rest : List Stmt} {Q : Flow → Shared → Prop} (hA : A.handled = none) (F : Frm g₀ H₀ X env c₀ c) (V : Vars (X ++ H₀) env c ρ)
    (hn : ∀ D c', Frm g₀ H₀ (D :: X) env c₀ c' → Vars ((D :: X) ++ H₀) env c' (((y, .bool b) :: ρ).filter fun q => q.1 != x) → Own H₀ (D :: X) env c' x D [] → SX prog w A env rest Q c')
    (hx : env.kindOf x = some .local := by rfl) (hy : env.kindOf y = some .local := by rfl)
    (hs : swapsWithSole [.Tuple [.Name x p, .Name y q] k tp] (.Tuple [.List [] lp, .Constant (.bool b) kb pb] k2 tp2) pos.line env = pure false := by rfl)
    (hw : swappedStores [.Tuple [.Name x p, .Name y q] k tp] (.Tuple [.List [] lp, .Constant (.bool b) kb pb] k2 tp2) env = pure (some [x, y]) := by rfl) :
    SX prog w A env (.Assign [.Tuple [.Name x p, .Name y q] k tp] (.Tuple [.List [] lp, .Constant (.bool b) kb pb] k2 tp2) pos :: rest) Q c := by
  refine sx_cons (Assign_Tuple_swapped (names := [x, y]) (wpAny_Tuple (wpAny_items_cons (wpAny_List (wpAny_items_nil ⟨by simp, wpAny_items_cons (wpAny_Constant_bool (wpAny_items_nil ⟨by rw [sizeLine_eq]; simp, ?_⟩)) rfl⟩)) rfl)) hs hw)
  generalize ht : Heap.push (c.s.heap.push { cls := .type "list", data := .seq ([] : List Value).toArray }) { cls := .type "tuple", data := .seq [Value.ref c.s.heap.objs.size, Value.bool b].toArray } = h₂
  have hk : ∀ a o, c.heap.get? a = some o → h₂.get? a = some o := fun a o e => by rw [← ht]; exact Heap.get?_push_of_some _ (Heap.get?_push_of_some _ e)
  have e₁ : h₂.get? c.heap.objs.size = some { cls := .type "list", data := .seq ([] : List Value).toArray 0 } := by rw [← ht]; exact Heap.get?_push_of_some _ (Heap.get?_push_size _ rfl)
  have e₂ : h₂.get? (c.s.heap.push { cls := .type "list", data := .seq ([] : List Value).toArray }).objs.size = some { cls := .type "tuple", data := .seq #[.ref c.heap.objs.size, .bool b] 0 } := by rw [← ht]; exact Heap.get?_push_size _ rfl
  refine unpackItems_tuple (items := #[.ref c.heap.objs.size, .bool b]) hA ⟨_, e₂, rfl, 0, rfl⟩ fun h' he => ?_
  have hlt : ∀ a o, h₂.get? a = some o → h'.get? a = some o := fun a o e => he a o (Nat.ne_of_lt (Heap.lt_size e)) e
  have k : Kp c (c.put h' c.s.toks) := .of (fun a o e => hlt a o (hk a o e)) (Nat.le_refl _)
  have F₁ := F.grow (c' := c.put h' c.s.toks) k (fun a o e => hlt a o (hk a o e)) (get_size _) ⟨_, hlt _ _ e₁⟩
  have V₁ := V.grow F k (get_size c.heap)
  show wpAny _ _ (assignInOrder [bindName env y, bindName env x] [.bool b, .ref c.heap.objs.size]) _ _ (c.put h' c.s.toks).s
  refine assignInOrder_cons (bindName_ (store_var (d := .bool b) F₁ V₁ (.inl hy) Rep.bool fun c₂ S₂ F₂ V₂ => assignInOrder_cons (bindName_ (store_raw F₂ (.inl hx) fun c₃ S₃ F₃ l => assignInOrder_nil ?_))))
  have nl : c.heap.objs.size ≠ env.locals := fun q => by obtain ⟨m, o, _, _, e, _⟩ := F.ns; rw [← q, get_size] at e; cases e
  have nc : ∀ y, env.cells.lookup y ≠ some c.heap.objs.size := fun y q => by
    obtain ⟨o, e⟩ := F.cal y _ q; rw [get_size] at e; cases e
  have DM := F₁.nm _ List.mem_cons_self
  refine hn _ c₃ F₃ (fun z d e => ?_) ⟨l, List.mem_cons_self, nl, nc, [], 0, S₃.obj _ _ DM nl (fun y _ => nc y) (S₂.obj _ _ DM nl (fun y _ => nc y) (hlt _ _ e₁)), .nil⟩
  obtain ⟨h1, h2⟩ := lookup_filter e
  obtain ⟨v, l', r⟩ := V₂ z d h2
  exact ⟨v, S₃.look z v (fun q => h1 (List.mem_singleton.mp q)) l', r.kx F₂.so S₃.kx (F₂.sh _)⟩
end
end Mine
end
noncomputable section
open PySem PySem.W PyProof.Rows
namespace Mine
open PySem.Calls
section
variable {prog : Program} {w : World} {g₀ : Heap} {A : Around} {H H₀ X : List Addr} {env : Env} {c₀ c c' : Cf} {K : Frag} {ρ : List (Str × D)}
noncomputable def ISb (prog : Program) (w : World) (A : Around) (H : List Addr) (c' : Cf) (target : Expr) (items : List (List D)) (xv : Value) : Prop :=
  wpAny (model prog w) A (pyIter xv) (ItAt prog w A H c' target items) NE c'.s
/-- a comprehension whose iterable is walked by hand: the frame is known behind it -/
theorem sx_compX {elt target iter : Expr} {ifs : List Expr} {scope : Scope} {y : Str} {py cpos pos : Pos} {rest : List Stmt} {Q : Flow → Shared → Prop} {names : List Str} {items : List (List D)} {p : Nat → Bool} {f : Nat → D} {s₀ : Shared} {R : Cf → Prop}
    (T : Tgt target names) (fr : List Str) (hA : A.handled = none) (hE : wpAny (model prog w) A (eval iter env) (fun xv s₁ => ∃ c₀ c, c.s = s₁ ∧ R c₀ ∧ Frm g₀ H₀ X env c₀ c ∧ Vars (X ++ H₀) env c ρ ∧ ISb prog w A (X ++ H₀) c target items xv) NE s₀) (hsz : items.length ≤ sizeLine) (hds : ∀ ds ∈ items, ds.length = names.length)
    (hbody : ∀ i ds, items[i]? = some ds → ∀ H' C c₁, SOk g₀ H' c₁ → Vars H' (cEnv env scope C) c₁ (inVars names ds fr ρ) →
      TVs prog w g₀ A H' (cEnv env scope C) c₁ ifs (p i) ∧ (p i = true → EV prog w g₀ A H' (cEnv env scope C) c₁ elt (f i)))
    (hn : ∀ c₀ c', R c₀ → Frm g₀ H₀ X env c₀ c' → Vars (X ++ H₀) env c' ((y, .list (picks p f items.length)) :: ρ) → SX prog w A env rest Q c')
    (hy : env.kindOf y = some .local := by rfl) (hyc : env.cells.lookup y = none := by rfl)
    (hsw : swapsWith (.ListComp elt [⟨target, iter, ifs, 0⟩] scope cpos) (some (.Name y py)) pos.line env = pure true := by rfl)
    (hc : cchk env scope names fr = true := by rfl) (nd : names.Nodup := by decide) (hs : ∀ x, foldedSetIterable iter env x = pure x := by intro _; rfl) (hkind : scope.kind = .function := by rfl) :
    wpAny (model prog w) A (execs (.Assign [.Name y py] (.ListComp elt [⟨target, iter, ifs, 0⟩] scope cpos) pos :: rest) env) Q NE s₀ := by
  have hc' := hc
  unfold cchk at hc'
  simp only [Bool.and_eq_true] at hc'
  obtain ⟨⟨⟨⟨h1, h2⟩, h3⟩, h4⟩, h5⟩ := hc'
  refine sx_cons (c := ⟨s₀, fun _ => 0⟩) ?_
  rw [exec_Assign_Name_used _ _ _ _ hsw]
  refine wpAny_bind (wpAny_standAt (wpAny_bind ?_))
  show wpAny _ A (do let _ ← comprehension (.ListComp elt [⟨target, iter, ifs, 0⟩] scope cpos) scope env _ (newList []) false (eval iter env) (some (assign (.Name y py) env))) _ _ _
  refine wpAny_bind (ne_mono (wpAny_comprehension_free (use := some (assign (.Name y py) env)) (Q := fun _ s' => SX prog w A env rest Q ⟨s', fun _ => 0⟩) rfl hs
    (closure_eq (env := env) (scope := scope) fun x hx hf => ?_) hkind (fun x hx hl => ?_) ?_) (fun _ s' hq => wpAny_pure (wpAny_pure hq)))
  · have := List.all_eq_true.mp h1 x hx
    simp [hf] at this; simpa using this
  · have := List.all_eq_true.mp h3 x hx
    simpa [hl] using this
  refine ne_mono hE fun xv s₁ zz => ?_
  obtain ⟨c₀, c, ec, hR, F, V, h₁⟩ := zz
  subst ec
  refine ne_mono h₁ fun it s₂ h₂ => ?_
  exact comp_store F V T fr hA h₂ hsz hds hbody (fun c' _ F V => hn c₀ c' hR F V) hy hyc hc nd hkind
end
end Mine
end
noncomputable section
open PySem PySem.W PyProof.Rows
namespace Mine
open PySem.Calls
section
variable {prog : Program} {w : World} {g₀ : Heap} {A : Around} {H H₀ X : List Addr} {env : Env} {c₀ c c' : Cf} {K : Frag} {ρ : List (Str × D)}
theorem isb_list {x : Str} {px : Pos} {l : List D} {v : Value} (hA : A.handled = none) (so : SOk g₀ H c) (r₁ : Rep H c (.list l) v) : ISb prog w A H c (.Name x px) (l.map fun d => [d]) v := by
  obtain ⟨a, vs, n, rfl, ha, ho, r⟩ := r₁.list_inv
  have hl : c.s.heap.IsList a vs.toArray := ⟨_, ho, rfl, n, rfl⟩
  refine wpAny_pyIter_list hl ?_
  have k₂ : Kp c (c.put (c.s.heap.push { cls := .type "list_iterator", data := .fields #[.ref a, .int 0 0] }) c.s.toks) := .of (fun _ _ e => Heap.get?_push_of_some _ e) (Nat.le_refl _)
  have hne : a ≠ c.s.heap.objs.size := fun q => by rw [q, get_size] at ho; cases ho
  have hlen : vs.toArray.size = (l.map fun d => [d]).length := by simp [r.length]
  have W := Walks.list (prog := prog) (w := w) hA c.s.heap.objs.size a hne vs.toArray
  rw [hlen] at W
  refine ⟨_, _, _, _, _, _, rfl, k₂, rfl, Itr.name W fun i h st b hb => ?_, ⟨⟨_, Heap.get?_push_size _ rfl, rfl, rfl⟩, hl.push _⟩, fun b hb => ?_, fun b hb => ?_, fun Hx hlx t => ?_, fun i ws ds hv hd => ?_⟩
  · rw [List.mem_singleton.mp hb]; obtain ⟨⟨o, e, _⟩, _⟩ := st; exact ⟨o, e⟩
  · rcases List.mem_cons.mp hb with rfl | hb
    · exact ⟨so.fresh (get_size _), _, Heap.get?_push_size _ rfl⟩
    · rw [List.mem_singleton.mp hb]; exact ⟨ha, _, Heap.get?_push_of_some _ ho⟩
  · rw [List.mem_singleton.mp hb]; exact get_size _
  · exact t.move (fun b _ o e => Heap.get?_push_of_some _ e) (fun b o _ e => Heap.get?_push_of_some _ e) fun b hb => by
      rcases List.mem_append.mp hb with q | q
      · rw [List.mem_singleton.mp q]; exact .inr (get_size _)
      · exact .inl q
  · obtain ⟨v, hv, rfl⟩ := hv
    simp only [List.getElem?_map, Option.map_eq_some_iff] at hd
    obtain ⟨d, hd, rfl⟩ := hd
    obtain ⟨v', hv', rv⟩ := r.get hd
    have : v = v' := by simp at hv; rw [hv] at hv'; cases hv'; rfl
    subst this
    refine .cons (rv.move (k₂.cm so.mt (fun _ q => by cases q)) fun b hb => ?_) .nil
    rcases List.mem_append.mp hb with q | q
    · rw [List.mem_singleton.mp q]; exact .inr (get_size _)
    · exact .inl q
/-- the frame of the law's own call -/
theorem frm_entry {nm : Str} {C : Addr} {h₁ : Heap} {m : Str → Option Value} {ob : Obj} {ov : Option Value} {s : Shared}
    (hk : env.scope.kind = .function) (hcells : env.cells = [(nm, C)]) (hown : ∀ x, env.kindOf x = some .cell → x = nm)
    (F : Fr g₀ env.locals h₁ m) (N : News g₀ env.locals h₁ [(C, ob), (44, tabObj #[]), (51, tabObj #[])]) (hob : ob.data = .cell ov)
    (nb : NoneBooked g₀) (hs : ∀ b o, h₁.get? b = some o → s.heap.get? b = some o) (tp : 0 < s.toks) :
    Frm g₀ MUT [env.locals, C] env ⟨{ s with heap := hideAll s.heap [env.locals, C] }, fun _ => 0⟩ ⟨s, fun _ => 0⟩ := by
  obtain ⟨n1, n2, n3⟩ := N (C, ob) List.mem_cons_self
  obtain ⟨a1, a2, a3⟩ := N (44, tabObj #[]) (List.mem_cons_of_mem _ List.mem_cons_self)
  obtain ⟨b1, b2, b3⟩ := N (51, tabObj #[]) (List.mem_cons_of_mem _ (List.mem_cons_of_mem _ List.mem_cons_self))
  have gL : g₀.get? env.locals = none := Heap.get?_none_of_le F.above
  have c44 : C ≠ 44 := fun q => by rw [q] at n1; rw [show h₁.get? 44 = some (tabObj #[]) from a1] at n1; cases n1; cases hob
  have c51 : C ≠ 51 := fun q => by rw [q] at n1; rw [show h₁.get? 51 = some (tabObj #[]) from b1] at n1; cases n1; cases hob
  have mu : ∀ b ∈ MUT, b ∉ [env.locals, C] ∧ h₁.get? b = some (tabObj #[]) ∧ g₀.get? b = none := fun b hb => by
    simp only [MUT, List.mem_cons, List.not_mem_nil, or_false] at hb
    rcases hb with rfl | rfl
    · exact ⟨fun q => by
        rcases List.mem_cons.mp q with q | q
        · exact a2 q
        · exact c44 (List.mem_singleton.mp q).symm, a1, a3⟩
    · exact ⟨fun q => by
        rcases List.mem_cons.mp q with q | q
        · exact b2 q
        · exact c51 (List.mem_singleton.mp q).symm, b1, b3⟩
  have hid : ∀ b o, b ∉ [env.locals, C] → s.heap.get? b = some o → (hideAll s.heap [env.locals, C]).get? b = some o := fun b o hb e => hideAll_get _ e hb
  have gap : ∀ b o, g₀.get? b = some o → b ∉ [env.locals, C] := fun b o e q => by
    rcases List.mem_cons.mp q with q | q
    · rw [q, gL] at e; cases e
    · rw [List.mem_singleton.mp q, show g₀.get? C = none from n3] at e; cases e
  have base : ∀ b o, g₀.get? b = some o → s.heap.get? b = some o := fun b o e => hs b o (F.keep b o e)
  have t44 : s.heap.get? 44 = some (tabObj #[]) := hs _ _ a1
  have t51 : s.heap.get? 51 = some (tabObj #[]) := hs _ _ b1
  have h44 : (hideAll s.heap [env.locals, C]).get? 44 = some (tabObj #[]) := hid _ _ (mu 44 (by simp [MUT])).1 t44
  have h51 : (hideAll s.heap [env.locals, C]).get? 51 = some (tabObj #[]) := hid _ _ (mu 51 (by simp [MUT])).1 t51
  obtain ⟨oL, esL, epL, eL, rL⟩ := id F.ns
  have lC : ∀ x a, env.cells.lookup x = some a → x = nm ∧ a = C := fun x a h => by
    rw [hcells, List.lookup_cons] at h
    cases hx : x == nm with
    | true => rw [hx] at h; cases h; exact ⟨eq_of_beq hx, rfl⟩
    | false => rw [hx] at h; cases h
  have hn : ∀ b, b ∈ [env.locals, C] → (hideAll s.heap [env.locals, C]).get? b = none := fun b hb => hideAll_none _ hb
  have keepH : ∀ b o, (hideAll s.heap [env.locals, C]).get? b = some o → s.heap.get? b = some o := fun b o e => of_hideAll _ e
  have tb : ∀ Hx, TabOk Hx (hideAll s.heap [env.locals, C]) → TabOk ([env.locals, C] ++ Hx) s.heap := fun Hx t => t.move (fun b _ o e => keepH b o e) (fun b o _ e => keepH b o e) fun b hb => (List.mem_append.mp hb).elim (fun q => .inr (hn b q)) .inl
  have so₀ : SOk g₀ MUT ⟨{ s with heap := hideAll s.heap [env.locals, C] }, fun _ => 0⟩ := ⟨fun b hb => ⟨_, hid b _ (mu b hb).1 (hs b _ (mu b hb).2.1)⟩, fun b hb => hb, fun b hb => (mu b hb).2.2, fun b o e => hid b o (gap b o e) (base b o e), ⟨⟨_, h44, .inl rfl⟩, ⟨_, h51, .inl rfl⟩⟩, tp, nb⟩
  refine ⟨hk, so₀, ?_, ⟨fun b hb => ?_, fun b hb => List.mem_append_right _ hb, fun b hb => (mu b hb).2.2, base, ⟨⟨_, t44, .inl rfl⟩, ⟨_, t51, .inl rfl⟩⟩, tp, nb⟩, hn, fun Hx _ t => tb Hx t, List.mem_cons_self, fun x hx => ?_, fun x a h => ?_, ⟨m, F.ns.at' fun o e => hs _ o e⟩, fun x a h => ?_, fun x a h => ?_⟩
  · exact ⟨⟨_, _, rfl⟩, fun b o _ _ e => keepH b o e, Nat.le_refl _, fun _ _ => rfl, fun b ⟨o, e⟩ => ⟨o, keepH b o e⟩, fun Hx _ _ t => (tb Hx t).sub fun b hb => List.mem_append_right _ hb⟩
  · rcases List.mem_append.mp hb with q | q
    · rcases List.mem_cons.mp q with q | q
      · rw [q]; exact ⟨_, hs _ _ eL⟩
      · rw [List.mem_singleton.mp q]; exact ⟨_, hs _ _ n1⟩
    · exact ⟨_, hs b _ (mu b q).2.1⟩
  · refine ⟨C, ov, by rw [hcells, hown x hx, List.lookup_cons]; simp, List.mem_cons_of_mem _ List.mem_cons_self, ob, hs _ _ n1, hob⟩
  · obtain ⟨e1, e2⟩ := lC x a h
    exact ⟨by rw [e2]; exact n2, fun y hy => by rw [(lC y a hy).1, e1]⟩
  · obtain ⟨e1, e2⟩ := lC x a h
    exact ⟨ob, by rw [e2]; exact hs _ _ n1⟩
  · obtain ⟨e1, e2⟩ := lC x a h
    rw [e2]
    exact fun q => by
      have := (mu C q).1
      exact this (List.mem_cons_of_mem _ List.mem_cons_self)
theorem frm_entry' {L : Addr} {nm : Str} {C : Addr} {h₁ : Heap} {m : Str → Option Value} {ob : Obj} {ov : Option Value} {s : Shared} (hL : env.locals = L)
    (hk : env.scope.kind = .function) (hcells : env.cells = [(nm, C)]) (hown : ∀ x, env.kindOf x = some .cell → x = nm)
    (F : Fr g₀ L h₁ m) (N : News g₀ L h₁ [(C, ob), (44, tabObj #[]), (51, tabObj #[])]) (hob : ob.data = .cell ov)
    (nb : NoneBooked g₀) (hs : ∀ b o, h₁.get? b = some o → s.heap.get? b = some o) (tp : 0 < s.toks) :
    Frm g₀ MUT [L, C] env ⟨{ s with heap := hideAll s.heap [L, C] }, fun _ => 0⟩ ⟨s, fun _ => 0⟩ := by
  subst hL; exact frm_entry hk hcells hown F N hob nb hs tp
/-- x[:k] from a state of which no token is known -/
theorem slice_raw {x : Str} {i : Int} {k : Nat} {kk : Nat} {a : Addr} {us : List Value} {px pk p pos : Pos} {s : Shared} {Q : Value → Shared → Prop} (hi : i = (k : Int)) (lk : LookAt env s.heap x (.ref a)) (hl : s.heap.IsList a us.toArray) (hsz : us.length ≤ sizeLine)
    (h : ∀ D n h' tk, (∀ b o, s.heap.get? b = some o → h'.get? b = some o) → 0 < tk → s.heap.get? D = none → h'.get? D = some { cls := .type "list", data := .seq (us.take k).toArray n } → Q (.ref D) { s with heap := h', toks := tk })
    (hd : (x == ("__debug__" : Str)) = false := by rfl) (hn : (x == ("__classdict__" : Str)) = false := by rfl) :
    wpAny (model prog w) A (eval (.Subscript (.Name x px) (.Slice none (some (.Constant (.int i) kk pk)) none p) pos) env) Q NE s := by
  subst hi
  refine Subscript_ (wpAny_Name (loadName_at lk (wpAny_Slice (evalPart_none_step (evalPart_some_step (wpAny_Constant_int (evalPart_none_step ?_))))) hn) hd)
  refine tail_any (s := { s with toks := s.toks + 1, heap := s.heap.push { cls := .type "slice", data := .fields #[.none, .int k s.toks, .none] } }) (ops := [.ref s.heap.objs.size, .ref a]) (hl.push _).typeIs slot_list_getitem.lookup
    (wpAny_getItem_list_slice (hl.push _) (Heap.IsSliceOf.new ..) .none (.int _ _) .none (by simp) ?_ (by simpa using hsz)) rfl
  refine h _ 0 _ _ (fun b o e => Heap.get?_push_of_some _ (Heap.get?_push_of_some _ e)) (Nat.succ_pos _) (frees (by rw [Heap.size_push]; exact Nat.le_succ _)) ?_
  have e := slicePick_upto' us.toArray k
  rw [e]
  have := Heap.get?_push_size (Heap.push s.heap { cls := .type "slice", data := .fields #[.none, .int k s.toks, .none] }) (o := { cls := .type "list", data := .seq (us.toArray.toList.take k).toArray }) rfl
  simpa using this
end
end Mine
end
noncomputable section
open PySem PySem.W PyProof.Rows
namespace Mine
/-! The objects that stand behind the texts' tops, as written constants (hd.heap_1): the head's own first step, its goal left to a False. -/
section
local macro_rules
  | `(tactic| o_head $_) => `(tactic| exact False.elim (by assumption))
set_option maxRecDepth 100000 in
theorem hd (h : False) : PySem.Challenge.rw_wf0045_01.row.Holds := by k_head
end
end Mine
end
noncomputable section
open PySem PySem.W PyProof.Rows
namespace Mine
open PySem.Calls

section
variable {prog : Program} {w : World} {g₀ : Heap} {A : Around} {P : Params} {n : Nat}
theorem turned_ok (G : Gd (hd.heap_1 P) g₀) (hA : AOk (n + 1) A) {l : List D} {k : Int} (h0 : 0 ≤ k) (hs : l.length ≤ 100) (hk : k.toNat ≤ l.length) : Fn prog w g₀ A (.ref 99) [.list l, .int k] (.list (l.drop k.toNat ++ l.take k.toNat)) := by
  refine fn_entry (names := ["ring", "place"]) G hA rfl rfl rfl ⟨_, _, _, _, rfl, rfl, rfl, rfl⟩ rfl ?_ rfl ?_ ?_ ?_ ?_
  · intro vs h
    obtain ⟨a, b, rfl⟩ := len2 h; rfl
  · decide
  · rfl
  · decide
  · intro A' hA H c₀ c X L F V
    refine sx_return F ?_
    refine ev_bin (ev_from (k := k) (ev_var F V) (ev_var F V) h0 ?_) (ev_upto (k := k) (ev_var F V) (ev_var F V) h0 ?_) (op_addl ?_)
    all_goals simp only [List.length_drop, List.length_take, sizeLine]; lia
end
end Mine
end
noncomputable section
open PySem PySem.W PyProof.Rows
namespace Mine
open PySem.Calls

section
variable {prog : Program} {w : World} {g₀ : Heap} {A : Around} {P : Params} {n : Nat}
/-- the ring made of ordered figures by a step -/
noncomputable def figs (rises : List Int) (k : Nat) : List Int := rises.zipIdx.map fun q => q.1 + (if rises.length ≤ q.2 + k then 1 else 0)
noncomputable def made (rises : List Int) (k : Nat) : List Int := (List.range rises.length).map fun i => (figs rises k).getD (i * k % rises.length) 0
theorem figs_length {l : List Int} {k : Nat} : (figs l k).length = l.length := by simp [figs]
theorem lookupN {l : List Int} {i : Nat} (h : i < l.length) : (l.map D.int)[i]? = some (.int (l.getD i 0)) := by
  simp [List.getElem?_eq_getElem h]
set_option pp.deepTerms false in
set_option maxHeartbeats 1000000 in
theorem made_ok (G : Gd (hd.heap_1 P) g₀) (hA : AOk (n + 1) A) {l : List Int} {k : Nat} (hs : l.length ≤ 100) (hk : k ≤ 100) : Fn prog w g₀ A (.ref 82) [.list (l.map .int), .int k] (.list ((made l k).map .int)) := by
  refine fn_entry (names := ["rises", "step"]) G hA rfl rfl rfl ⟨_, _, _, _, rfl, rfl, rfl, rfl⟩ rfl ?_ rfl ?_ ?_ ?_ ?_
  · intro vs h
    obtain ⟨a, b, rfl⟩ := len2 h; rfl
  · decide
  · rfl
  · decide
  · intro A' hA H c₀ c X L F V
    refine sx_assign F V (ev_call G ⟨rfl, rfl, rfl, rfl, rfl, .inr ⟨rfl, rfl, by decide⟩⟩ (.builtin _) (evs_cons (ev_var F V) evs_nil) (fn_len ?_)) fun c₁ S₁ F V => ?_
    · simp; lia
    rw [List.length_map] at V
    refine sx_assign F V (ev_map (f := fun q : Int × Nat => .int (q.1 + (if l.length ≤ q.2 + k then 1 else 0))) ["size", "step"] V F.so (.two _ _ _ _ _ _) hA.h (ia_enum hA.h G ⟨rfl, rfl, rfl, rfl, rfl, .inr ⟨rfl, rfl, by decide⟩⟩ (ev_var F V)) ?_ (fun _ => rfl) ?_) fun c₂ S₂ F V => ?_
    · simp [sizeLine]; lia
    · intro q hq H' C c₂ so V
      refine ev_bin (d2 := .int (if l.length ≤ q.2 + k then 1 else 0)) (ev_v V so) (ev_if (tv_cmp (ev_v V so) (ev_bin (ev_v V so) (ev_v V so) op_sub) cop_ge) ?_ ?_) op_add
      · intro h
        rw [if_pos (by simp at h; lia)]
        exact ev_int
      · intro h
        rw [if_neg (by simp at h; lia)]
        exact ev_int
    refine sx_return F (EV.cast (ev_map (f := fun i : Nat => .int ((figs l k).getD (i * k % l.length) 0)) ["figures", "size", "step"] V F.so (.one _ _) hA.h (ia_range hA.h G ⟨rfl, rfl, rfl, rfl, rfl, .inr ⟨rfl, rfl, by decide⟩⟩ ?_ (ev_var F V)) ?_ (fun _ => rfl) ?_) ?_)
    · lia
    · simp [sizeLine]; lia
    · intro i hi H' C c₂ so V
      have hi' : i < l.length := by simpa using hi
      have hm : i * k % l.length < l.length := Nat.mod_lt _ (by lia)
      refine ev_item (l := (figs l k).map .int) (k := ((i * k % l.length : Nat) : Int)) (EV.cast (ev_v V so) ?_) (EV.cast (ev_bin (ev_bin (ev_v V so) (ev_v V so) (op_mul (mul_ok_right (by lia) (by lia)))) (ev_v V so) (op_modp (by lia))) (by simp)) (by lia) ?_ (by lia)
      · simp [figs]
      · rw [Int.toNat_natCast]
        exact lookupN (by rw [figs_length]; exact hm)
    · simp [made]
end
end Mine
end
noncomputable section
open PySem PySem.W PyProof.Rows
namespace Mine
open PySem.Calls

section
variable {prog : Program} {w : World} {g₀ : Heap} {A : Around} {P : Params} {n : Nat}
noncomputable def allK (k n : Nat) : Bool := decide (srt ((List.range n).map fun i => ((i * k % n : Nat) : Int)) = (List.range n).map fun (i : Nat) => (i : Int))
set_option pp.deepTerms false in
theorem all_ok (G : Gd (hd.heap_1 P) g₀) (hA : AOk (n + 1) A) {k m : Nat} (hk : k ≤ 100) (hm0 : 0 < m) (hm : m ≤ 60) : Fn prog w g₀ A (.ref 87) [.int k, .int m] (.bool (allK k m)) := by
  refine fn_entry (names := ["step", "size"]) G hA rfl rfl rfl ⟨_, _, _, _, rfl, rfl, rfl, rfl⟩ rfl ?_ rfl ?_ ?_ ?_ ?_
  · intro vs h
    obtain ⟨a, b, rfl⟩ := len2 h; rfl
  · decide
  · rfl
  · decide
  · intro A' hA H c₀ c X L F V
    refine sx_return F (ev_cmp (ev_cb G gnB (evs_cons (ev_mapC .int (fun i : Nat => ((i * k % m : Nat) : Int)) ["step", "size"] V F.so (.one _ _) hA.h (ia_range hA.h G gnB (by lia) (ev_var F V)) ?_ (fun _ => rfl) ?_) evs_nil) (fn_sorted ?_))
      (EV.cast (ev_list_range (n := m) hA.h G gnB gnB (by lia) (ev_var F V)) (d' := .list (((List.range m).map fun (i : Nat) => (i : Int)).map .int)) ?_) (cop_eqi hA.un ?_))
    · simp; lia
    · intro i hi H' C c₂ so V
      exact EV.cast (ev_bin (ev_bin (ev_v V so) (ev_v V so) (op_mul (mul_ok_right (by lia) (by lia)))) (ev_v V so) (op_modp (by lia))) (by simp)
    · simp; lia
    · simp
    · simp [srt]
end
end Mine
end
noncomputable section
open PySem PySem.W PyProof.Rows
namespace Mine
open PySem.Calls

section
variable {prog : Program} {w : World} {g₀ : Heap} {A : Around} {P : Params} {n : Nat}
noncomputable def spreadOf (shape : Nat) : Nat := if shape / 144 % 2 ≠ 0 then 3 else 63
noncomputable def swapAt (l : List Int) (k : Nat) : List Int := l.take k ++ [l.getD (k + 1) 0, l.getD k 0] ++ l.drop (k + 2)
noncomputable def risesOf (shape : Nat) (ns : List Int) : List Int := srt (ns.map fun x => x % (spreadOf shape : Int))
noncomputable def ring1 (shape : Nat) (ns : List Int) (step : Nat) : List Int :=
  if shape / 36 % 4 = 2 then swapAt (made (risesOf shape ns) step) (shape / 288 % (ns.length - 1)) else made (risesOf shape ns) step
noncomputable def ringOf (shape : Nat) (ns : List Int) (step : Nat) : List Int :=
  if shape / 36 % 4 = 3 then ns.map fun x => x % ((spreadOf shape : Int) + 1) else ring1 shape ns step
noncomputable def madeOf (shape : Nat) (ns : List Int) (step : Nat) : Bool := decide (shape / 36 % 4 < 2) && allK step ns.length
theorem srt_length (l : List Int) : (srt l).length = l.length := by simp [srt]
theorem made_length (l : List Int) (k : Nat) : (made l k).length = l.length := by simp [made]
theorem risesOf_length (shape : Nat) (ns : List Int) : (risesOf shape ns).length = ns.length := by simp [risesOf, srt_length]
theorem swapAt_length {l : List Int} {k : Nat} (h : k + 1 < l.length) : (swapAt l k).length = l.length := by simp [swapAt]; lia
theorem ring1_length {shape : Nat} {ns : List Int} {step : Nat} (h : 2 ≤ ns.length) : (ring1 shape ns step).length = ns.length := by
  unfold ring1
  split
  · rw [swapAt_length, made_length, risesOf_length]
    rw [made_length, risesOf_length]
    have := Nat.mod_lt (shape / 288) (show 0 < ns.length - 1 by lia)
    lia
  · rw [made_length, risesOf_length]
theorem ringOf_length {shape : Nat} {ns : List Int} {step : Nat} (h : 2 ≤ ns.length) : (ringOf shape ns step).length = ns.length := by
  unfold ringOf
  split
  · simp
  · exact ring1_length h
set_option pp.deepTerms false in
set_option maxHeartbeats 1000000 in
theorem ring_ok (G : Gd (hd.heap_1 P) g₀) (hA : AOk (n + 2) A) {shape step : Nat} {ns : List Int} (h2 : 2 ≤ ns.length) (h7 : ns.length ≤ 7) (hk : step ≤ 100) :
    Fn prog w g₀ A (.ref 92) [.int shape, .list (ns.map .int), .int step] (.tup [.list ((ringOf shape ns step).map .int), .list ((risesOf shape ns).map .int), .bool (madeOf shape ns step)]) := by
  refine fn_entry (names := ["shape", "numbers", "step"]) G hA rfl rfl rfl ⟨_, _, _, _, rfl, rfl, rfl, rfl⟩ rfl ?_ rfl ?_ ?_ ?_ ?_
  · intro vs h
    obtain ⟨a, b, c, rfl⟩ := len3 h; rfl
  · decide
  · rfl
  · decide
  · intro A' hA H c₀ c X L F V
    refine sx_assign (d := .int ((shape / 36 % 4 : Nat) : Int)) F V (EV.cast (ev_bin (ev_bin (ev_var F V) ev_int (op_fdivp (by decide) (by decide))) ev_int (op_modp (by decide))) (by simp)) fun c₁ S₁ F V => ?_
    refine sx_assign (d := .int (spreadOf shape : Int)) F V (ev_if (tv_int (ev_bin (ev_bin (ev_var F V) ev_int (op_fdivp (by decide) (by decide))) ev_int (op_modp (by decide)))) ?_ ?_) fun c₁ S₁ F V => ?_
    · intro h
      rw [show (spreadOf shape : Int) = 3 by unfold spreadOf; rw [if_pos (by simp at h; lia)]; rfl]
      exact ev_int
    · intro h
      rw [show (spreadOf shape : Int) = 63 by unfold spreadOf; rw [if_neg (by simp at h; lia)]; rfl]
      exact ev_int
    have hsp : 0 < (spreadOf shape : Int) := by unfold spreadOf; split <;> decide
    refine sx_assign F V (ev_cb G gnB (evs_cons (ev_mapC .int (fun x : Int => x % (spreadOf shape : Int)) ["spread"] V F.so (.one _ _) hA.h (ia_list (g := D.int) hA.h (ev_var F V)) (by lia) (fun _ => rfl) ?_) evs_nil) (fn_sorted (by first | exact lm (Nat.le_trans (by assumption) (by decide)) | exact lr (Nat.le_trans (by assumption) (by decide)) | exact lm (lr (Nat.le_trans (by assumption) (by decide))) | exact lm (lm (lr (Nat.le_trans (by assumption) (by decide)))) | exact lml (Nat.lt_of_le_of_lt (by assumption) (by decide)) | exact Nat.lt_of_le_of_lt (lm (Nat.le_refl _)) (Nat.lt_of_le_of_lt (by assumption) (by decide)) | (simp; lia)))) fun c₁ S₁ F V => ?_
    · intro x hx H' C c₂ so V
      exact ev_bin (ev_v V so) (ev_v V so) (op_modp hsp)
    refine sx_assign F V (ev_cf G gnF (evs_cons (ev_var F V) (evs_cons (ev_var F V) evs_nil)) (made_ok (l := risesOf shape ns) G hA (by rw [risesOf_length]; lia) hk)) fun c₁ S₁ F V => ?_
    refine sx_ifj [("ring", .list ((ring1 shape ns step).map .int)), ("rises", .list ((risesOf shape ns).map .int)), ("kind", .int ((shape / 36 % 4 : Nat) : Int)), ("spread", .int (spreadOf shape : Int)), ("numbers", .list (ns.map .int)), ("step", .int step)] F V (tv_cmp (ev_var F V) ev_int cop_eq) ?_ ?_ ?_
    · intro hb c' F V
      have hk2 : shape / 36 % 4 = 2 := by simp at hb; lia
      have hml : (made (risesOf shape ns) step).length = ns.length := by rw [made_length, risesOf_length]
      refine sx_assign (d := .int ((shape / 288 % (ns.length - 1) : Nat) : Int)) F V (EV.cast (ev_bin (ev_bin (ev_var F V) ev_int (op_fdivp (by decide) (by decide))) (ev_bin (ev_cb G gnB (evs_cons (ev_var F V) evs_nil) (fn_len (by first | exact lm (Nat.le_trans (by assumption) (by decide)) | exact lr (Nat.le_trans (by assumption) (by decide)) | exact lm (lr (Nat.le_trans (by assumption) (by decide))) | exact lm (lm (lr (Nat.le_trans (by assumption) (by decide)))) | exact lml (Nat.lt_of_le_of_lt (by assumption) (by decide)) | exact Nat.lt_of_le_of_lt (lm (Nat.le_refl _)) (Nat.lt_of_le_of_lt (by assumption) (by decide)) | (simp; lia)))) ev_int op_sub) (op_modp (by first | exact lm (Nat.le_trans (by assumption) (by decide)) | exact lr (Nat.le_trans (by assumption) (by decide)) | exact lm (lr (Nat.le_trans (by assumption) (by decide))) | exact lm (lm (lr (Nat.le_trans (by assumption) (by decide)))) | exact lml (Nat.lt_of_le_of_lt (by assumption) (by decide)) | exact Nat.lt_of_le_of_lt (lm (Nat.le_refl _)) (Nat.lt_of_le_of_lt (by assumption) (by decide)) | (simp; lia)))) ?_) fun c₁ S₁ F V => ?_
      · rw [List.length_map, hml]; congr 1; rw [Int.natCast_emod, Int.natCast_ediv, Int.natCast_sub (by lia)]; rfl
      have hsp2 : shape / 288 % (ns.length - 1) + 1 < ns.length := by
        have := Nat.mod_lt (shape / 288) (show 0 < ns.length - 1 by lia)
        lia
      generalize hs : shape / 288 % (ns.length - 1) = s at hsp2 V ⊢
      refine sx_assign (d := .list ((swapAt (made (risesOf shape ns) step) s).map .int)) F V (EV.cast (ev_bin (ev_bin (ev_upto (k := s) (ev_var F V) (ev_var F V) (by lia) ?_)
        (ev_list (evs_cons (ev_item (k := ((s + 1 : Nat) : Int)) (ev_var F V) (EV.cast (ev_bin (ev_var F V) ev_int op_add) (by simp)) (by lia) (by rw [Int.toNat_natCast]; exact lookupN (by lia)) (by lia))
          (evs_cons (ev_item (k := ((s : Nat) : Int)) (ev_var F V) (ev_var F V) (by lia) (by rw [Int.toNat_natCast]; exact lookupN (by lia)) (by lia)) evs_nil)) ?_) (op_addl ?_))
        (ev_from (k := ((s + 2 : Nat) : Int)) (ev_var F V) (EV.cast (ev_bin (ev_var F V) ev_int op_add) (by simp)) (by lia) ?_) (op_addl ?_)) ?_) fun c₁ S₁ F V => ?_
      · first | exact lm (Nat.le_trans (by assumption) (by decide)) | exact lr (Nat.le_trans (by assumption) (by decide)) | exact lm (lr (Nat.le_trans (by assumption) (by decide))) | exact lm (lm (lr (Nat.le_trans (by assumption) (by decide)))) | exact lml (Nat.lt_of_le_of_lt (by assumption) (by decide)) | exact Nat.lt_of_le_of_lt (lm (Nat.le_refl _)) (Nat.lt_of_le_of_lt (by assumption) (by decide)) | (rw [sizeLine_eq]; simp; lia)
      · first | exact Nat.le_of_ble_eq_true rfl | (rw [sizeLine_eq]; simp)
      · first | exact lm (Nat.le_trans (by assumption) (by decide)) | exact lr (Nat.le_trans (by assumption) (by decide)) | exact lm (lr (Nat.le_trans (by assumption) (by decide))) | exact lm (lm (lr (Nat.le_trans (by assumption) (by decide)))) | exact lml (Nat.lt_of_le_of_lt (by assumption) (by decide)) | exact Nat.lt_of_le_of_lt (lm (Nat.le_refl _)) (Nat.lt_of_le_of_lt (by assumption) (by decide)) | (rw [sizeLine_eq]; simp; lia)
      · first | exact lm (Nat.le_trans (by assumption) (by decide)) | exact lr (Nat.le_trans (by assumption) (by decide)) | exact lm (lr (Nat.le_trans (by assumption) (by decide))) | exact lm (lm (lr (Nat.le_trans (by assumption) (by decide)))) | exact lml (Nat.lt_of_le_of_lt (by assumption) (by decide)) | exact Nat.lt_of_le_of_lt (lm (Nat.le_refl _)) (Nat.lt_of_le_of_lt (by assumption) (by decide)) | (rw [sizeLine_eq]; simp; lia)
      · first | exact lm (Nat.le_trans (by assumption) (by decide)) | exact lr (Nat.le_trans (by assumption) (by decide)) | exact lm (lr (Nat.le_trans (by assumption) (by decide))) | exact lm (lm (lr (Nat.le_trans (by assumption) (by decide)))) | exact lml (Nat.lt_of_le_of_lt (by assumption) (by decide)) | exact Nat.lt_of_le_of_lt (lm (Nat.le_refl _)) (Nat.lt_of_le_of_lt (by assumption) (by decide)) | (rw [sizeLine_eq]; simp; lia)
      · rw [Int.toNat_natCast, Int.toNat_natCast]; simp [swapAt]
      refine sx_jn F V (has_cons ?_ rfl)
      unfold ring1; rw [if_pos hk2, hs]; rfl
    · intro hb c' F V
      have hk2 : shape / 36 % 4 ≠ 2 := by simp at hb; lia
      refine sx_jn F V (has_cons ?_ rfl)
      unfold ring1; rw [if_neg hk2]; rfl
    · intro c' F V
      refine sx_ifj [("ring", .list ((ringOf shape ns step).map .int)), ("rises", .list ((risesOf shape ns).map .int)), ("kind", .int ((shape / 36 % 4 : Nat) : Int)), ("step", .int step)] F V (tv_cmp (ev_var F V) ev_int cop_eq) ?_ ?_ ?_
      · intro hb c' F V
        have hk3 : shape / 36 % 4 = 3 := by simp at hb; lia
        refine sx_mapC .int (fun x : Int => x % ((spreadOf shape : Int) + 1)) ["spread"] F V (.one _ _) hA.h (ia_list (g := D.int) hA.h (ev_var F V)) (by lia) (fun _ => rfl) ?_ fun c₁ S₁ F V => ?_
        · intro x hx H' C c₂ so V
          exact ev_bin (ev_v V so) (ev_bin (ev_v V so) ev_int op_add) (op_modp (by lia))
        refine sx_jn F V (has_cons ?_ rfl)
        unfold ringOf; rw [if_pos hk3]; rfl
      · intro hb c' F V
        have hk3 : shape / 36 % 4 ≠ 3 := by simp at hb; lia
        refine sx_jn F V (has_cons ?_ rfl)
        unfold ringOf; rw [if_neg hk3]; rfl
      · intro c' F V
        have hrl : (ringOf shape ns step).length = ns.length := ringOf_length h2
        refine sx_return F (EV.cast (ev_tuple (evs_cons (ev_var F V) (evs_cons (ev_var F V) (evs_cons (ev_and (b := allK step ns.length) (ev_cmp (ev_var F V) ev_int cop_lt) fun _ =>
          ev_cf G gnF (evs_cons (ev_var F V) (evs_cons (EV.cast (ev_cb G gnB (evs_cons (ev_var F V) evs_nil) (fn_len (by first | exact lm (Nat.le_trans (by assumption) (by decide)) | exact lr (Nat.le_trans (by assumption) (by decide)) | exact lm (lr (Nat.le_trans (by assumption) (by decide))) | exact lm (lm (lr (Nat.le_trans (by assumption) (by decide)))) | exact lml (Nat.lt_of_le_of_lt (by assumption) (by decide)) | exact Nat.lt_of_le_of_lt (lm (Nat.le_refl _)) (Nat.lt_of_le_of_lt (by assumption) (by decide)) | (simp; lia)))) ?_) evs_nil)) (all_ok (m := ns.length) G hA hk (by lia) (by lia))) evs_nil))) ?_) ?_)
        · simp [hrl]
        · first | exact Nat.le_of_ble_eq_true rfl | (rw [sizeLine_eq]; simp)
        · unfold madeOf
          congr 4
          have : ((shape / 36 % 4 : Nat) : Int) < 2 ↔ shape / 36 % 4 < 2 := by lia
          simp only [decide_eq_decide.mpr this]
end
end Mine
end
noncomputable section
open PySem PySem.W PyProof.Rows
namespace Mine
open PySem.Calls

/-- what is known of a hue, a share and a level -/
structure Sv (h s v k F wd e sf st : Int) : Prop where
  hk : 6 * h = k * 17592186044416 + F
  h1 : 0 ≤ h ∧ h < 2 ^ 50
  f0 : 0 ≤ F
  f1 : F < 17592186044416
  s0 : 0 < s
  s1 : s ≤ 17592186044416
  v1 : v ≤ 17592186044416
  w0 : 0 < wd
  wv : wd ≤ v
  e0 : 0 ≤ e
  e1 : e < wd
  vs : v * s = wd * 17592186044416
  sF : s * F = sf * 17592186044416
  sG : s * (17592186044416 - F) = st * 17592186044416
  vf : v * sf = e * 17592186044416
  vt : v * st = (wd - e) * 17592186044416
  eF : F * wd = e * 17592186044416
  sfb : 0 ≤ sf ∧ sf ≤ 17592186044416
  stb : 0 ≤ st ∧ st ≤ 17592186044416
theorem sv_of {h s v : Int} (h0 : 0 ≤ h) (h1 : h < 2 ^ 50) (h4 : h % 4 = 0) (hs : s = 17592186044416 ∨ s = 8796093022208) (hv : v = 17592186044416 ∨ v = 8796093022208) :
    ∃ k F wd e sf st, Sv h s v k F wd e sf st := by
  have hF : 0 ≤ 6 * h % 17592186044416 ∧ 6 * h % 17592186044416 < 17592186044416 ∧ 6 * h % 17592186044416 % 4 = 0 ∧ 6 * h = 6 * h / 17592186044416 * 17592186044416 + 6 * h % 17592186044416 := by lia
  obtain ⟨f0, f1, f8, hk⟩ := hF
  refine ⟨6 * h / 17592186044416, 6 * h % 17592186044416, ?_⟩
  generalize 6 * h % 17592186044416 = F at *
  generalize 6 * h / 17592186044416 = k at *
  obtain ⟨f, rfl⟩ : ∃ f, F = 4 * f := ⟨F / 4, by clear hk h0 h1 h4 hs hv; lia⟩
  clear f8 h4
  have m : ∀ a b : Int, a * b = b * a := Int.mul_comm
  rcases hs with rfl | rfl <;> rcases hv with rfl | rfl
  · exact ⟨17592186044416, 4 * f, 4 * f, 17592186044416 - 4 * f, hk, ⟨h0, h1⟩, f0, f1, by decide, by decide, by decide, by decide, by decide, f0, f1, rfl, m _ _, m _ _, m _ _, m _ _, rfl, ⟨f0, Int.le_of_lt f1⟩, by clear hk h0 h1; lia⟩
  · exact ⟨8796093022208, 2 * f, 4 * f, 17592186044416 - 4 * f, hk, ⟨h0, h1⟩, f0, f1, by decide, by decide, by decide, by decide, by decide, by clear hk h0 h1; lia, by clear hk h0 h1; lia, by decide, m _ _, m _ _, by clear hk h0 h1; lia, by clear hk h0 h1; lia, by clear hk h0 h1; lia, ⟨f0, Int.le_of_lt f1⟩, by clear hk h0 h1; lia⟩
  · exact ⟨8796093022208, 2 * f, 2 * f, 8796093022208 - 2 * f, hk, ⟨h0, h1⟩, f0, f1, by decide, by decide, by decide, by decide, by decide, by clear hk h0 h1; lia, by clear hk h0 h1; lia, by decide, by clear hk h0 h1; lia, by clear hk h0 h1; lia, m _ _, m _ _, by clear hk h0 h1; lia, by clear hk h0 h1; lia, by clear hk h0 h1; lia⟩
  · exact ⟨4398046511104, f, 2 * f, 8796093022208 - 2 * f, hk, ⟨h0, h1⟩, f0, f1, by decide, by decide, by decide, by decide, by decide, by clear hk h0 h1; lia, by clear hk h0 h1; lia, by decide, by clear hk h0 h1; lia, by clear hk h0 h1; lia, by clear hk h0 h1; lia, by clear hk h0 h1; lia, by clear hk h0 h1; lia, by clear hk h0 h1; lia, by clear hk h0 h1; lia⟩
noncomputable def pick (r v p q t : Int) : Int × Int × Int := if r = 0 then (v, t, p) else if r = 1 then (q, v, p) else if r = 2 then (p, v, t) else if r = 3 then (p, q, v) else if r = 4 then (t, p, v) else (v, p, q)
theorem nab {a : Int} (h0 : 0 ≤ a) (h1 : a ≤ 17592186044416) : a.natAbs < 2 ^ 53 := by lia
theorem nab' {a : Int} (h0 : 0 ≤ a) (h1 : a ≤ 17592186044416) : (17592186044416 - a).natAbs < 2 ^ 53 := by lia
theorem mul_sub' {v a b : Int} (h : v * a = b * 17592186044416) : v * (17592186044416 - a) = (v - b) * 17592186044416 := by rw [Int.mul_sub, h, Int.sub_mul]
theorem six_bd {h : Int} (h1 : 0 ≤ h ∧ h < 2 ^ 50) : (6 * h).natAbs < 2 ^ 53 := by lia
theorem no_six {r : Int} (hr : r < 6 ∧ 0 ≤ r) (h0 : r ≠ 0) (h1 : r ≠ 1) (h2 : r ≠ 2) (h3 : r ≠ 3) (h4 : r ≠ 4) (h5 : r ≠ 5) : False := by lia
theorem six_lit (h : Int) : h * 105553116266496 = 6 * h * 17592186044416 := by lia
section
variable {h s v k F wd e sf st : Int}
theorem Sv.kd (S : Sv h s v k F wd e sf st) : 6 * h / 17592186044416 = k := by have := S.hk; have := S.f0; have := S.f1; lia
theorem Sv.kb (S : Sv h s v k F wd e sf st) : k.natAbs < 2 ^ 53 := by have := S.hk; have := S.f0; have := S.f1; have := S.h1; lia
theorem Sv.f (S : Sv h s v k F wd e sf st) : 6 * h - k * 17592186044416 = F := by have := S.hk; lia
theorem Sv.vb (S : Sv h s v k F wd e sf st) {x : Int} (h0 : 0 ≤ x) (h1 : x ≤ wd) : (v - x).natAbs < 2 ^ 53 := by have := S.v1; have := S.wv; lia
theorem Sv.h0 (S : Sv h s v k F wd e sf st) : 0 ≤ 6 * h := by have := S.h1; lia
theorem Sv.el (S : Sv h s v k F wd e sf st) : e ≤ wd := Int.le_of_lt S.e1
theorem Sv.e2 (S : Sv h s v k F wd e sf st) : 0 ≤ wd - e := by have := S.e1; lia
theorem Sv.e3 (S : Sv h s v k F wd e sf st) : wd - e ≤ wd := by have := S.e0; lia
end
section
variable {prog : Program} {w : World} {g₀ : Heap} {A : Around} {P : Params} {n : Nat}
theorem sx_pick {H₀ X : List Addr} {env : Env} {c₀ c : Cf} {ρ : List (Str × D)} {r m : Int} {x y z o : D} {test : Expr} {ea eb ec : Expr} {kk : Nat} {p1 p2 p3 : Pos} {rest : List Stmt} (F : Frm g₀ H₀ X env c₀ c) (V : Vars (X ++ H₀) env c ρ)
    (ht : TV prog w g₀ A (X ++ H₀) env c test (r == m)) (ha : ∀ c, Frm g₀ H₀ X env c₀ c → Vars (X ++ H₀) env c ρ → EVs prog w g₀ A (X ++ H₀) env c [ea, eb, ec] [x, y, z])
    (hq : r = m → o = .tup [x, y, z]) (h2 : r ≠ m → ∀ c', Frm g₀ H₀ X env c₀ c' → Vars (X ++ H₀) env c' ρ → SX prog w A env rest (Ret H₀ c₀ o) c') :
    SX prog w A env (.If test [.Return (some (.Tuple [ea, eb, ec] kk p1)) p2] [] p3 :: rest) (Ret H₀ c₀ o) c :=
  sx_ifr F V ht (fun hb c' F' V' => by
    rw [hq (eq_of_beq hb)]
    exact sx_return' F' (ev_tuple (ha c' F' V') (by rw [sizeLine_eq]; exact (by decide : 3 ≤ 16777216)))) fun hb c' F' V' => h2 (fun q => by rw [q, beq_self_eq_true] at hb; cases hb) c' F' V'
set_option pp.deepTerms false in
theorem hsv_ok (G : Gd (hd.heap_1 P) g₀) (hA : AOk (n + 1) A) {h s v k F wd e sf st : Int} (S : Sv h s v k F wd e sf st) :
    Fn prog w g₀ A (.ref 28) [FL h, FL s, FL v] (.tup [FL (pick (k % 6) v (v - wd) (v - e) (v - (wd - e))).1, FL (pick (k % 6) v (v - wd) (v - e) (v - (wd - e))).2.1, FL (pick (k % 6) v (v - wd) (v - e) (v - (wd - e))).2.2]) := by
  refine fn_entry (names := ["h", "s", "v"]) G hA rfl rfl rfl ⟨_, _, _, _, rfl, rfl, rfl, rfl⟩ rfl ?_ rfl ?_ ?_ ?_ ?_
  · intro vs h
    obtain ⟨a, b, c, rfl⟩ := len3 h; rfl
  · decide
  · rfl
  · decide
  · intro A' hA H c₀ c X L Fm V
    have six := six_lit h
    have b6 := six_bd S.h1
    refine sx_ifr Fm V (TV.cast (tv_cmp (ev_var Fm V) (evL lit_0) copL_eq) (d' := false) (decide_eq_false (Int.ne_of_gt S.s0))) (fun hb => by cases hb) fun _ c₁ Fm V => ?_
    refine sx_assign (d := .int k) Fm V (EV.cast (ev_ct G gnB (evs_cons (ev_bin (ev_var Fm V) (evL lit_6) (opL_mul six b6)) evs_nil) (fn_intL S.h0)) (by rw [S.kd])) fun c₁ _ Fm V => ?_
    refine sx_assign (d := FL F) Fm V (EV.cast (ev_bin (ev_bin (ev_var Fm V) (evL lit_6) (opL_mul six b6)) (ev_var Fm V) (opL_sub_fi S.kb (by rw [S.f]; exact nab S.f0 (Int.le_of_lt S.f1)))) (by rw [S.f])) fun c₁ _ Fm V => ?_
    refine sx_assign (d := FL (v - wd)) Fm V (ev_bin (ev_var Fm V) (ev_bin (evL lit_1) (ev_var Fm V) (opL_sub (nab' (Int.le_of_lt S.s0) S.s1))) (opL_mul (mul_sub' S.vs) (S.vb (Int.le_of_lt S.w0) (Int.le_refl _)))) fun c₁ _ Fm V => ?_
    refine sx_assign (d := FL (v - e)) Fm V (ev_bin (ev_var Fm V) (ev_bin (evL lit_1) (ev_bin (ev_var Fm V) (ev_var Fm V) (opL_mul S.sF (nab S.sfb.1 S.sfb.2))) (opL_sub (nab' S.sfb.1 S.sfb.2))) (opL_mul (mul_sub' S.vf) (S.vb S.e0 S.el))) fun c₁ _ Fm V => ?_
    refine sx_assign (d := FL (v - (wd - e))) Fm V (ev_bin (ev_var Fm V) (ev_bin (evL lit_1) (ev_bin (ev_var Fm V) (ev_bin (evL lit_1) (ev_var Fm V) (opL_sub (nab' S.f0 (Int.le_of_lt S.f1)))) (opL_mul S.sG (nab S.stb.1 S.stb.2))) (opL_sub (nab' S.stb.1 S.stb.2))) (opL_mul (mul_sub' S.vt) (S.vb S.e2 S.e3))) fun c₁ _ Fm V => ?_
    refine sx_assign (d := .int (k % 6)) Fm V (ev_bin (ev_var Fm V) ev_int (op_modp (by decide))) fun c₁ _ Fm V => ?_
    have hr : k % 6 < 6 ∧ 0 ≤ k % 6 := ⟨Int.emod_lt_of_pos _ (by decide), Int.emod_nonneg _ (by decide)⟩
    have V : Vars _ _ c₁ [("i", .int (k % 6)), ("v", FL v), ("p", FL (v - wd)), ("q", FL (v - e)), ("t", FL (v - (wd - e)))] := V.has rfl
    generalize k % 6 = r at *
    generalize v - wd = p at *
    generalize v - e = q at *
    generalize v - (wd - e) = t at *
    refine sx_pick Fm V (tv_cmp (ev_var Fm V) ev_int cop_eq) (fun c Fm V => evs_cons (ev_var Fm V) (evs_cons (ev_var Fm V) (evs_cons (ev_var Fm V) evs_nil))) (fun hb => by rw [hb]; rfl) fun h0 c₁ Fm V => ?_
    refine sx_pick Fm V (tv_cmp (ev_var Fm V) ev_int cop_eq) (fun c Fm V => evs_cons (ev_var Fm V) (evs_cons (ev_var Fm V) (evs_cons (ev_var Fm V) evs_nil))) (fun hb => by rw [hb]; rfl) fun h1 c₁ Fm V => ?_
    refine sx_pick Fm V (tv_cmp (ev_var Fm V) ev_int cop_eq) (fun c Fm V => evs_cons (ev_var Fm V) (evs_cons (ev_var Fm V) (evs_cons (ev_var Fm V) evs_nil))) (fun hb => by rw [hb]; rfl) fun h2 c₁ Fm V => ?_
    refine sx_pick Fm V (tv_cmp (ev_var Fm V) ev_int cop_eq) (fun c Fm V => evs_cons (ev_var Fm V) (evs_cons (ev_var Fm V) (evs_cons (ev_var Fm V) evs_nil))) (fun hb => by rw [hb]; rfl) fun h3 c₁ Fm V => ?_
    refine sx_pick Fm V (tv_cmp (ev_var Fm V) ev_int cop_eq) (fun c Fm V => evs_cons (ev_var Fm V) (evs_cons (ev_var Fm V) (evs_cons (ev_var Fm V) evs_nil))) (fun hb => by rw [hb]; rfl) fun h4 c₁ Fm V => ?_
    refine sx_pick Fm V (tv_cmp (ev_var Fm V) ev_int cop_eq) (fun c Fm V => evs_cons (ev_var Fm V) (evs_cons (ev_var Fm V) (evs_cons (ev_var Fm V) evs_nil))) (fun hb => by rw [hb]; rfl) fun h5 c₁ Fm V => ?_
    exact (no_six hr h0 h1 h2 h3 h4 h5).elim

/-- a colour's part: how far below the level, as a share of the width -/
structure Col (v wd c a : Int) : Prop where
  e : (v - c) * 17592186044416 = a * wd
  a0 : 0 ≤ a
  a1 : a ≤ 17592186044416
  lo : v - wd ≤ c
  hi : c ≤ v
theorem col_bd {v wd c a : Int} (C : Col v wd c a) (hv : v ≤ 17592186044416) (hw : wd ≤ v) : (v - c).natAbs < 2 ^ 53 := by
  have := C.lo; have := C.hi; clear C; lia
theorem col_ab {v wd c a v' wd' c' a' : Int} (C : Col v wd c a) (C' : Col v' wd' c' a') : (a - a').natAbs < 2 ^ 53 := by
  have := C.a0; have := C.a1; have := C'.a0; have := C'.a1; clear C C'; lia
theorem col_ab2 {v wd c a v' wd' c' a' b : Int} (hb : b = 35184372088832 ∨ b = 70368744177664) (C : Col v wd c a) (C' : Col v' wd' c' a') : (b + a).natAbs < 2 ^ 53 ∧ (b + a - a').natAbs < 2 ^ 53 := by
  have := C.a0; have := C.a1; have := C'.a0; have := C'.a1; clear C C'; lia
theorem max3_of {v r g b : Int} (h1 : r ≤ v) (h2 : g ≤ v) (h3 : b ≤ v) (h : r = v ∨ g = v ∨ b = v) : max (max r g) b = v :=
  Int.le_antisymm (Int.max_le.mpr ⟨Int.max_le.mpr ⟨h1, h2⟩, h3⟩) (h.elim (fun q => Int.le_trans (q ▸ Int.le_max_left _ _) (Int.le_max_left _ _)) fun h => h.elim (fun q => Int.le_trans (q ▸ Int.le_max_right _ _) (Int.le_max_left _ _)) fun q => q ▸ Int.le_max_right _ _)
theorem min3_of {v r g b : Int} (h1 : v ≤ r) (h2 : v ≤ g) (h3 : v ≤ b) (h : r = v ∨ g = v ∨ b = v) : min (min r g) b = v :=
  Int.le_antisymm (h.elim (fun q => Int.le_trans (Int.min_le_left _ _) (q ▸ Int.min_le_left _ _)) fun h => h.elim (fun q => Int.le_trans (Int.min_le_left _ _) (q ▸ Int.min_le_right _ _)) fun q => q ▸ Int.min_le_right _ _) (Int.le_min.mpr ⟨Int.le_min.mpr ⟨h1, h2⟩, h3⟩)
theorem m_bd {m a b c x : Int} (ha : 0 ≤ a ∧ a ≤ 17592186044416) (hb : 0 ≤ b ∧ b ≤ 17592186044416) (hc : 0 ≤ c ∧ c ≤ 17592186044416) (hx : x = c - b ∨ x = 35184372088832 + a - c ∨ x = 70368744177664 + b - a) (h : x = 6 * m) : m.natAbs < 2 ^ 53 := by lia
theorem six_div (m : Int) : 6 * m * 17592186044416 = m * 105553116266496 := by lia
theorem six_cases (k : Int) : k % 6 = 0 ∨ k % 6 = 1 ∨ k % 6 = 2 ∨ k % 6 = 3 ∨ k % 6 = 4 ∨ k % 6 = 5 := by lia
theorem pk0 (F : Int) : 17592186044416 - (17592186044416 - F) = 0 * 17592186044416 + F := by lia
theorem pk1 (F : Int) : 35184372088832 + F - 17592186044416 = 1 * 17592186044416 + F := by lia
theorem pk2 (F : Int) : 35184372088832 + 17592186044416 - (17592186044416 - F) = 2 * 17592186044416 + F := by lia
theorem pk3 (F : Int) : 70368744177664 + F - 17592186044416 = 3 * 17592186044416 + F := by lia
theorem pk4 (F : Int) : 70368744177664 + 17592186044416 - (17592186044416 - F) = 4 * 17592186044416 + F := by lia
theorem pk5 (F : Int) : F - 17592186044416 = 5 * 17592186044416 + F - 105553116266496 := by lia
theorem wd_id {v wd : Int} : v - (v - wd) = wd := by lia
set_option pp.deepTerms false in
theorem rgb_gen (G : Gd (hd.heap_1 P) g₀) (hA : AOk (n + 1) A) {r g b v s wd a1 b1 c1 m : Int} (hs0 : 0 < wd) (hv0 : wd ≤ v) (hv1 : v ≤ 17592186044416) (hs : wd * 17592186044416 = s * v) (hs2 : s.natAbs < 2 ^ 53)
    (hr : Col v wd r a1) (hg : Col v wd g b1) (hbl : Col v wd b c1) (htop : r = v ∨ g = v ∨ b = v) (hbot : r = v - wd ∨ g = v - wd ∨ b = v - wd)
    (hm : (if r = v then c1 - b1 else if g = v then 35184372088832 + a1 - c1 else 70368744177664 + b1 - a1) = 6 * m) :
    Fn prog w g₀ A (.ref 21) [FL r, FL g, FL b] (.tup [FL (m % 17592186044416), FL s, FL v]) := by
  refine fn_entry (names := ["r", "g", "b"]) G hA rfl rfl rfl ⟨_, _, _, _, rfl, rfl, rfl, rfl⟩ rfl ?_ rfl ?_ ?_ ?_ ?_
  · intro vs h
    obtain ⟨a, b, c, rfl⟩ := len3 h; rfl
  · decide
  · rfl
  · decide
  · intro A' hA H c₀ c X L F V
    have hmx := max3_of hr.hi hg.hi hbl.hi htop
    have hmn := min3_of hr.lo hg.lo hbl.lo hbot
    have hwid : v - (v - wd) = wd := wd_id
    have hv0' : v ≠ 0 := Int.ne_of_gt (Int.lt_of_lt_of_le hs0 hv0)
    have hw0' : wd ≠ 0 := Int.ne_of_gt hs0
    have hmb : m.natAbs < 2 ^ 53 := by
      refine m_bd ⟨hr.a0, hr.a1⟩ ⟨hg.a0, hg.a1⟩ ⟨hbl.a0, hbl.a1⟩ ?_ hm
      split
      · exact .inl rfl
      · split
        · exact .inr (.inl rfl)
        · exact .inr (.inr rfl)
    refine sx_assign (d := FL v) F V (EV.cast (ev_cb G gnB (evs_cons (ev_var F V) (evs_cons (ev_var F V) (evs_cons (ev_var F V) evs_nil))) (fn_max3 hA.h)) (by rw [hmx])) fun c₁ _ F V => ?_
    refine sx_assign (d := FL (v - wd)) F V (EV.cast (ev_cb G gnB (evs_cons (ev_var F V) (evs_cons (ev_var F V) (evs_cons (ev_var F V) evs_nil))) (fn_min3 hA.h)) (by rw [hmn])) fun c₁ _ F V => ?_
    refine sx_assign (d := FL wd) F V (EV.cast (ev_bin (ev_var F V) (ev_var F V) (opL_sub (by rw [hwid]; exact nab (Int.le_of_lt hs0) (Int.le_trans hv0 hv1)))) (by rw [hwid])) fun c₁ _ F V => ?_
    refine sx_assign F V (ev_var F V) fun c₁ _ F V => ?_
    refine sx_ifr F V (TV.cast (tv_cmp (ev_var F V) (ev_var F V) copL_eq) (d' := false) (decide_eq_false (Int.ne_of_lt (Int.sub_lt_self _ hs0)))) (fun hb => by cases hb) fun hb c₁ F V => ?_
    refine sx_assign (d := FL s) F V (ev_bin (ev_var F V) (ev_var F V) (opL_div hv0' hs hs2)) fun c₁ _ F V => ?_
    refine sx_assign (d := FL a1) F V (ev_bin (ev_bin (ev_var F V) (ev_var F V) (opL_sub (col_bd hr hv1 hv0))) (ev_var F V) (opL_div hw0' hr.e (nab hr.a0 hr.a1))) fun c₁ _ F V => ?_
    refine sx_assign (d := FL b1) F V (ev_bin (ev_bin (ev_var F V) (ev_var F V) (opL_sub (col_bd hg hv1 hv0))) (ev_var F V) (opL_div hw0' hg.e (nab hg.a0 hg.a1))) fun c₁ _ F V => ?_
    refine sx_assign (d := FL c1) F V (ev_bin (ev_bin (ev_var F V) (ev_var F V) (opL_sub (col_bd hbl hv1 hv0))) (ev_var F V) (opL_div hw0' hbl.e (nab hbl.a0 hbl.a1))) fun c₁ _ F V => ?_
    have V : Vars _ _ c₁ [("r", FL r), ("g", FL g), ("maxc", FL v), ("rc", FL a1), ("gc", FL b1), ("bc", FL c1), ("s", FL s), ("v", FL v)] := V.has rfl
    refine sx_ifj [("h", FL (6 * m)), ("s", FL s), ("v", FL v)] F V (tv_cmp (ev_var F V) (ev_var F V) copL_eq) (fun hb c₁ F V => ?_) (fun hb c₁ F V => ?_) fun c₁ F V => ?_
    · rw [if_pos (of_decide_eq_true hb)] at hm
      refine sx_assign F V (ev_bin (ev_var F V) (ev_var F V) (opL_sub (col_ab hbl hg))) fun c₁ _ F V => ?_
      rw [hm] at V
      exact sx_jn F V rfl
    · rw [if_neg (of_decide_eq_false hb)] at hm
      refine sx_ifj [("h", FL (6 * m)), ("s", FL s), ("v", FL v)] F V (tv_cmp (ev_var F V) (ev_var F V) copL_eq) (fun hb c₁ F V => ?_) (fun hb c₁ F V => ?_) fun c₁ F V => sx_jn F V rfl
      · rw [if_pos (of_decide_eq_true hb)] at hm
        have ab := col_ab2 (.inl rfl) hr hbl
        refine sx_assign F V (ev_bin (ev_bin (evL lit_2) (ev_var F V) (opL_add ab.1)) (ev_var F V) (opL_sub ab.2)) fun c₁ _ F V => ?_
        rw [hm] at V
        exact sx_jn F V rfl
      · rw [if_neg (of_decide_eq_false hb)] at hm
        have ab := col_ab2 (.inr rfl) hg hr
        refine sx_assign F V (ev_bin (ev_bin (evL lit_4) (ev_var F V) (opL_add ab.1)) (ev_var F V) (opL_sub ab.2)) fun c₁ _ F V => ?_
        rw [hm] at V
        exact sx_jn F V rfl
    · refine sx_assign (d := FL (m % 17592186044416)) F V (ev_bin (ev_bin (ev_var F V) (evL lit_6) (opL_div (n := m) (by decide) (six_div m) hmb)) (evL lit_1) (opL_mod1 hmb)) fun c₁ _ F V => ?_
      exact sx_return F (ev_tuple (evs_cons (ev_var F V) (evs_cons (ev_var F V) (evs_cons (ev_var F V) evs_nil))) (by rw [sizeLine_eq]; exact (by decide : 3 ≤ 16777216)))

section
variable {h s v k F wd e sf st : Int}
theorem Sv.top (S : Sv h s v k F wd e sf st) : Col v wd v 0 := ⟨by rw [Int.sub_self, Int.zero_mul, Int.zero_mul], Int.le_refl _, by decide, by have := S.w0; clear S; lia, Int.le_refl _⟩
theorem Sv.bot (S : Sv h s v k F wd e sf st) : Col v wd (v - wd) 17592186044416 := ⟨by rw [wd_id, Int.mul_comm], by decide, Int.le_refl _, Int.le_refl _, by have := S.w0; clear S; lia⟩
theorem Sv.cq (S : Sv h s v k F wd e sf st) : Col v wd (v - e) F := ⟨by rw [wd_id, S.eF], S.f0, Int.le_of_lt S.f1, by have := S.el; clear S; lia, by have := S.e0; clear S; lia⟩
theorem Sv.ct (S : Sv h s v k F wd e sf st) : Col v wd (v - (wd - e)) (17592186044416 - F) := ⟨by rw [wd_id, Int.sub_mul, Int.sub_mul, S.eF, Int.mul_comm wd], by have := S.f1; clear S; lia, by have := S.f0; clear S; lia, by have := S.e0; clear S; lia, by have := S.e1; clear S; lia⟩
theorem Sv.ez (S : Sv h s v k F wd e sf st) (h0 : v - e = v) : F = 0 := by
  have h1 := S.eF
  rw [show e = 0 by clear S h1; lia, Int.zero_mul] at h1
  rcases Int.mul_eq_zero.mp h1 with q | q
  · exact q
  · have := S.w0; rw [q] at this; cases this
theorem Sv.nt (S : Sv h s v k F wd e sf st) : v - (wd - e) ≠ v := by have := S.e1; clear S; lia
theorem Sv.nb (S : Sv h s v k F wd e sf st) : v - wd ≠ v := by have := S.w0; clear S; lia
theorem Sv.six (S : Sv h s v k F wd e sf st) {r j : Int} (hr : k % 6 = r) (hj : k / 6 = j) : 6 * (h - j * 17592186044416) = r * 17592186044416 + F := by
  have := S.hk; clear S; lia
end
theorem mod_sub (h j : Int) : (h - j * 17592186044416) % 17592186044416 = h % 17592186044416 := by rw [Int.sub_mul_emod_self_right]
theorem sub_one_six (h j : Int) : 6 * (h - (j + 1) * 17592186044416) = 6 * (h - j * 17592186044416) - 105553116266496 := by lia
theorem rgb_ok (G : Gd (hd.heap_1 P) g₀) (hA : AOk (n + 1) A) {h s v k F wd e sf st : Int} (S : Sv h s v k F wd e sf st) :
    Fn prog w g₀ A (.ref 21) [FL (pick (k % 6) v (v - wd) (v - e) (v - (wd - e))).1, FL (pick (k % 6) v (v - wd) (v - e) (v - (wd - e))).2.1, FL (pick (k % 6) v (v - wd) (v - e) (v - (wd - e))).2.2] (.tup [FL (h % 17592186044416), FL s, FL v]) := by
  have hs : wd * 17592186044416 = s * v := by rw [← S.vs, Int.mul_comm]
  have hs2 := nab (Int.le_of_lt S.s0) S.s1
  have hr6 : k % 6 = 0 ∨ k % 6 = 1 ∨ k % 6 = 2 ∨ k % 6 = 3 ∨ k % 6 = 4 ∨ k % 6 = 5 := six_cases k
  obtain ⟨r, hr⟩ : ∃ r, k % 6 = r := ⟨_, rfl⟩
  obtain ⟨j, hj⟩ : ∃ j, k / 6 = j := ⟨_, rfl⟩
  have six := S.six hr hj
  have ez := S.ez
  rw [hr] at hr6 ⊢
  rw [← mod_sub h j]
  rcases hr6 with rfl | rfl | rfl | rfl | rfl | rfl
  · exact rgb_gen (r := v) (g := v - (wd - e)) (b := v - wd) G hA S.w0 S.wv S.v1 hs hs2 S.top S.ct S.bot (.inl rfl) (.inr (.inr rfl)) (by rw [if_pos rfl, six]; exact pk0 F)
  · refine rgb_gen (r := v - e) (g := v) (b := v - wd) G hA S.w0 S.wv S.v1 hs hs2 S.cq S.top S.bot (.inr (.inl rfl)) (.inr (.inr rfl)) ?_
    rw [six]
    split
    · rw [ez (by assumption)]; rfl
    · rw [if_pos rfl]; exact pk1 F
  · refine rgb_gen (r := v - wd) (g := v) (b := v - (wd - e)) G hA S.w0 S.wv S.v1 hs hs2 S.bot S.top S.ct (.inr (.inl rfl)) (.inl rfl) ?_
    rw [six, if_neg S.nb, if_pos rfl]; exact pk2 F
  · refine rgb_gen (r := v - wd) (g := v - e) (b := v) G hA S.w0 S.wv S.v1 hs hs2 S.bot S.cq S.top (.inr (.inr rfl)) (.inl rfl) ?_
    rw [six, if_neg S.nb]
    split
    · rw [ez (by assumption)]; rfl
    · exact pk3 F
  · refine rgb_gen (r := v - (wd - e)) (g := v - wd) (b := v) G hA S.w0 S.wv S.v1 hs hs2 S.ct S.bot S.top (.inr (.inr rfl)) (.inr (.inl rfl)) ?_
    rw [six, if_neg S.nt, if_neg S.nb]; exact pk4 F
  · have e5 := rgb_gen (prog := prog) (w := w) (g₀ := g₀) (m := h - (j + 1) * 17592186044416) (r := v) (g := v - wd) (b := v - e) G hA S.w0 S.wv S.v1 hs hs2 S.top S.bot S.cq (.inl rfl) (.inr (.inl rfl)) (by rw [if_pos rfl, sub_one_six, six]; exact pk5 F)
    rw [mod_sub] at e5 ⊢
    exact e5
end
end Mine
end
noncomputable section
open PySem PySem.W PyProof.Rows
namespace Mine
open PySem.Calls

section
variable {prog : Program} {w : World} {g₀ : Heap} {A : Around} {P : Params} {n : Nat}
set_option pp.deepTerms false in
theorem hue_ok (G : Gd (hd.heap_1 P) g₀) (hA : AOk (n + 2) A) {h s v : Int} (h0 : 0 ≤ h) (h1 : h < 2 ^ 50) (h4 : h % 4 = 0) (hs : s = 17592186044416 ∨ s = 8796093022208) (hv : v = 17592186044416 ∨ v = 8796093022208) :
    Fn prog w g₀ A (.ref 111) [FL h, FL s, FL v] (FL (h % 17592186044416)) := by
  refine fn_entry (names := ["hue", "share", "level"]) G hA rfl rfl rfl ⟨_, _, _, _, rfl, rfl, rfl, rfl⟩ rfl ?_ rfl ?_ ?_ ?_ ?_
  · intro vs h
    obtain ⟨a, b, c, rfl⟩ := len3 h; rfl
  · decide
  · rfl
  · decide
  · intro A' hA H c₀ c X L F V
    obtain ⟨_, _, _, _, _, _, S⟩ := sv_of h0 h1 h4 hs hv
    refine sx_tuple (nps := [("red", _), ("green", _), ("blue", _)]) hA.h F V (ev_cf G gnF (evs_cons (ev_var F V) (evs_cons (ev_var F V) (evs_cons (ev_var F V) evs_nil))) (hsv_ok G hA S)) (fun c₁ S₁ F V => ?_) rfl rfl ?_
    · refine sx_assign F V (ev_cf G gnF (evs_cons (ev_var F V) (evs_cons (ev_var F V) (evs_cons (ev_var F V) evs_nil))) (rgb_ok G hA S)) fun c₁ S₁ F V => ?_
      refine sx_return F (ev_if (tv_cmp (ev_tfrom (k := 1) (ev_var F V) ev_int (by decide) (by simp) (by simp)) (ev_tuple (evs_cons (ev_var F V) (evs_cons (ev_var F V) evs_nil)) (by rw [sizeLine_eq]; simp)) (cop_eqt2 hA.un)) (fun _ => ?_) (fun hb => ?_))
      · exact ev_titem (k := 0) (ev_var F V) ev_int (by decide) rfl (by decide)
      · simp at hb
    · intro x hx
      simp only [List.mem_cons, List.not_mem_nil, or_false] at hx
      rcases hx with rfl | rfl | rfl <;> exact .inl rfl
end
end Mine
end
noncomputable section
open PySem PySem.W PyProof.Rows
namespace Mine
open PySem.Calls

noncomputable def horn (ds : List Int) : Nat → Int
  | 0 => 0
  | j + 1 => horn ds j * 64 + ds.getD j 0
noncomputable def octAt (ds : List Int) (j : Nat) : Int := if j < 6 then 64 + ds.getD j 0 else ds.getD j 0
theorem horn_bd {ds : List Int} (hd : ∀ j, 0 ≤ ds.getD j 0 ∧ ds.getD j 0 < 64) : ∀ j, 0 ≤ horn ds j ∧ horn ds j < 64 ^ j
  | 0 => by simp [horn]
  | j + 1 => by
    have h := horn_bd hd j
    have := hd j
    rw [horn, Int.pow_succ]
    lia
theorem land64 {d : Int} (h0 : 0 ≤ d) (h1 : d < 64) : Builtin.bitAnd (64 + d) 64 = 64 := by
  obtain ⟨n, rfl⟩ := Int.eq_ofNat_of_zero_le h0
  have h : ∀ m : Fin 64, Builtin.bitAnd (64 + ((m.val : Nat) : Int)) 64 = 64 := by decide +kernel
  exact h ⟨n, by lia⟩
theorem land64' {d : Int} (h0 : 0 ≤ d) (h1 : d < 64) : Builtin.bitAnd d 64 = 0 := by
  obtain ⟨n, rfl⟩ := Int.eq_ofNat_of_zero_le h0
  have h : ∀ m : Fin 64, Builtin.bitAnd ((m.val : Nat) : Int) 64 = 0 := by decide +kernel
  exact h ⟨n, by lia⟩
theorem bitAnd_nat (a b : Nat) : Builtin.bitAnd (a : Int) (b : Int) = ((a &&& b : Nat) : Int) := by
  unfold Builtin.bitAnd
  rw [decide_eq_true (Int.natCast_nonneg a), decide_eq_true (Int.natCast_nonneg b)]
  simp
theorem lor64 {v d : Int} (hv : 0 ≤ v) (h0 : 0 ≤ d) (h1 : d < 64) : Builtin.bitOr (v * 64) d = v * 64 + d := by
  obtain ⟨n, rfl⟩ := Int.eq_ofNat_of_zero_le h0
  obtain ⟨m, rfl⟩ := Int.eq_ofNat_of_zero_le hv
  rw [bitOr_and]
  have : Builtin.bitAnd ((m : Int) * 64) n = 0 := by
    have e : ((m : Int) * 64) = ((2 ^ 6 * m : Nat) : Int) := by lia
    rw [e]
    have hz : (2 ^ 6 * m) &&& n = 0 := by
      apply Nat.eq_of_testBit_eq
      intro i
      rw [Nat.testBit_and, Nat.testBit_two_pow_mul, Nat.zero_testBit]
      by_cases hi : 6 ≤ i
      · rw [Nat.testBit_lt_two_pow (x := n) (Nat.lt_of_lt_of_le (by lia : n < 2 ^ 6) (Nat.pow_le_pow_right (by decide) hi))]; simp
      · simp [hi]
    have e2 : Builtin.bitAnd ((2 ^ 6 * m : Nat) : Int) ((n : Nat) : Int) = (((2 ^ 6 * m) &&& n : Nat) : Int) := by
      exact bitAnd_nat _ _
    rw [e2, hz]; rfl
  rw [this]; lia

section
variable {prog : Program} {w : World} {g₀ : Heap} {A : Around} {P : Params} {n : Nat}
set_option pp.deepTerms false in
set_option maxHeartbeats 1000000 in
theorem parse_ok (G : Gd (hd.heap_1 P) g₀) (hA : AOk (n + 1) A) {I l : Addr} {os ds : List Int} {vs : List Value} {k : Nat} {H : List Addr} {c₀ : Cf} (so : SOk g₀ H c₀) (hI : I ∈ H) (hM : I ∉ MUT) (hg : g₀.get? I = none)
    (hit : c₀.heap.IsListIter I l k) (hlM : l ∉ MUT) (hl : c₀.heap.IsList l vs.toArray) (hi : IntsAre vs os) (hd : ∀ j, 0 ≤ ds.getD j 0 ∧ ds.getD j 0 < 64) (hos : ∀ j, j < 7 → os[k + j]? = some (octAt ds j)) :
    wpAny (model prog w) A (call (.ref 77) [.ref I]) (fun v s' => ∃ c', c'.s = s' ∧ Kx [I] c₀ c' ∧ Rep H c' (.int (horn ds 7)) v ∧ c'.heap.IsListIter I l (k + 7)) NE c₀.s := by
  refine entry_raw (names := ["iterator"]) G hA rfl rfl rfl ⟨_, _, _, _, rfl, rfl, rfl, rfl⟩ rfl rfl rfl ?_ ?_ ?_ so ?_
  · decide
  · rfl
  · decide
  · intro A' hA c X L F lk
    have al : ∀ {b : Addr}, (∃ o, c₀.heap.get? b = some o) → b ≠ (callEnvC _ L 77).locals := fun ⟨o, e⟩ q => by rw [q, F.new _ F.L] at e; cases e
    have k₀ := F.k
    have T : Tape (I :: X) (callEnvC _ L 77) c "iterator" I l os k := ⟨lk _ List.mem_cons_self, List.mem_cons_self, al (by obtain ⟨o, e, _⟩ := hit; exact ⟨o, e⟩), fun y q => (by cases q), hit.at fun o e => k₀.keep hM e, hlM,
      al (by obtain ⟨o, e, _⟩ := hl; exact ⟨o, e⟩), fun y q => (by cases q), fun q => (by
        obtain ⟨o, e, e1, _⟩ := hit; obtain ⟨o', e', e2, _⟩ := hl; rw [q, e] at e'; cases e'; exact absurd (Value.type.inj (e1.symm.trans e2)) (by decide)), vs, hl.at fun o e => k₀.keep hlM e, hi⟩
    have F := F.hide hI hM hg
    refine sx_next G gnB F vars_nil T (o := octAt ds 0) (by have := hos 0 (by decide); simpa using this) fun c₁ _ F V T => ?_
    have e63 : ∀ j, Builtin.bitAnd (octAt ds j) 63 = ds.getD j 0 := fun j => by
      rw [bitAnd_m6]; unfold octAt; have := hd j; split <;> lia
    refine sx_assign (d := .int (horn ds 1)) F V (EV.cast (ev_bin (ev_var F V) ev_int op_and) (by rw [e63]; simp [horn])) fun c₁ S F V => ?_
    have T := T.stp (by assumption) S (by decide)
    refine sx_whileT (fun j => [("val", .int (horn ds (j + 1))), ("b", .int (octAt ds j))]) (fun j => k + (j + 1)) 6 F (V.has rfl) T (fun j hj c' F V => ?_) (fun j h6 c₂ F₂ V₂ T₂ => ?_) fun c₂ F₂ V₂ T₂ => ?_
    · have hdj := hd j
      refine TV.cast (tv_int (ev_bin (ev_var F V) ev_int op_and)) ?_
      unfold octAt
      by_cases h6 : j < 6
      · rw [if_pos h6, land64 hdj.1 hdj.2, decide_eq_true h6]; rfl
      · rw [if_neg h6, land64' hdj.1 hdj.2, decide_eq_false h6]; rfl
    · have hdj := hd j
      have hb := horn_bd hd (j + 1)
      have hb2 : (64 : Int) ^ (j + 1) ≤ 64 ^ 7 := by
        have : (64 : Nat) ^ (j + 1) ≤ 64 ^ 7 := Nat.pow_le_pow_right (by decide) (by lia)
        exact_mod_cast this
      refine sx_aug F₂ V₂ rfl ev_int (iop_shl (by decide) (by have := intBits_le_64 (show -(2 ^ 64) < horn ds (j + 1) by lia) (by lia); lia)) fun c₃ S₃ F₃ V₃ => ?_
      have T₃ := T₂.stp F₂ S₃ (by decide)
      refine sx_next G gnB F₃ V₃ T₃ (o := octAt ds (j + 1)) (hos (j + 1) (by lia)) fun c₄ _ F₄ V₄ T₄ => ?_
      refine sx_aug F₄ V₄ rfl (ev_bin (ev_var F₄ V₄) ev_int op_and) iop_or fun c₅ S₅ F₅ V₅ => ?_
      have T₅ := T₄.stp F₄ S₅ (by decide)
      refine sx_nil ⟨rfl, c₅, rfl, F₅, V₅.has (has_cons ?_ rfl), T₅⟩
      rw [e63]
      have hd1 := hd (j + 1)
      show some (D.int (Builtin.bitOr (horn ds (j + 1) * 64) (ds.getD (j + 1) 0))) = _
      rw [lor64 hb.1 hd1.1 hd1.2]; rfl
    · refine sx_ret F₂ (ev_var F₂ V₂) fun v c₃ k₃ F₃ r => ?_
      have T₃ := T₂.kp F₂ k₃
      obtain ⟨t, rfl⟩ := r.int_inv
      exact ⟨c₃, rfl, F₃.k.unhide (by obtain ⟨o, e, _⟩ := T₃.it; exact ⟨o, e⟩) hM (iter_noCode T₃.it), Rep.int, T₃.it⟩
end
end Mine
end
noncomputable section
open PySem PySem.W PyProof.Rows
namespace Mine
open PySem.Calls

noncomputable def turned {α : Type} (l : List α) (p : Nat) : List α := l.drop p ++ l.take p
noncomputable def rowOf (l : List Int) (p : Nat) : List Int := ((List.replicate 4 (turned l p)).flatten).take 7
noncomputable def octRow (l : List Int) (p : Nat) : List Int := ((rowOf l p).take 6).map (fun x => 64 + x) ++ (rowOf l p).drop 6
noncomputable def winOf (l : List Int) (p : Nat) : Int := horn (rowOf l p) 7
theorem turned_length {α : Type} {l : List α} {p : Nat} : (turned l p).length = l.length := by
  unfold turned
  rw [List.length_append, List.length_drop, List.length_take]
  rcases Nat.le_total p l.length with h | h
  · rw [Nat.min_eq_left h, Nat.sub_add_cancel h]
  · rw [Nat.sub_eq_zero_of_le h, Nat.zero_add, Nat.min_eq_right h]
theorem rowOf_length {l : List Int} {p : Nat} (h : 2 ≤ l.length) : (rowOf l p).length = 7 := by
  unfold rowOf
  rw [List.length_take, List.length_flatten]
  simp [turned_length]; lia
theorem octRow_length {l : List Int} {p : Nat} (h : 2 ≤ l.length) : (octRow l p).length = 7 := by
  simp [octRow, rowOf_length h]
theorem octs_length {l : List Int} (h : 2 ≤ l.length) : ∀ i, ((List.range i).flatMap (octRow l)).length = 7 * i
  | 0 => rfl
  | i + 1 => by rw [List.range_succ, List.flatMap_append, List.length_append, octs_length h i]; simp [octRow_length h]; lia
theorem mem_turned {α : Type} {l : List α} {p : Nat} {x : α} (h : x ∈ turned l p) : x ∈ l := by
  unfold turned at h
  rcases List.mem_append.mp h with h | h
  · exact List.mem_of_mem_drop h
  · exact List.mem_of_mem_take h
theorem mem_rowOf {l : List Int} {p : Nat} {x : Int} (h : x ∈ rowOf l p) : x ∈ l := by
  unfold rowOf at h
  obtain ⟨r, hr, hx⟩ := List.mem_flatten.mp (List.mem_of_mem_take h)
  rw [(List.mem_replicate.mp hr).2] at hx
  exact mem_turned hx
theorem row_bd {l : List Int} {p : Nat} (hl : ∀ x ∈ l, 0 ≤ x ∧ x < 64) (j : Nat) : 0 ≤ (rowOf l p).getD j 0 ∧ (rowOf l p).getD j 0 < 64 := by
  rw [List.getD_eq_getElem?_getD]
  cases e : (rowOf l p)[j]? with
  | none => simp
  | some x => exact hl x (mem_rowOf (List.mem_of_getElem? e))
theorem octRow_at {l : List Int} {p j : Nat} (h : 2 ≤ l.length) (hj : j < 7) : (octRow l p)[j]? = some (octAt (rowOf l p) j) := by
  have hr := rowOf_length (p := p) h
  unfold octRow octAt
  have hj' : j < (rowOf l p).length := by lia
  by_cases h6 : j < 6
  · rw [List.getElem?_append_left (by first | exact lm (Nat.le_trans (by assumption) (by decide)) | exact lr (Nat.le_trans (by assumption) (by decide)) | exact lm (lr (Nat.le_trans (by assumption) (by decide))) | exact lm (lm (lr (Nat.le_trans (by assumption) (by decide)))) | exact lml (Nat.lt_of_le_of_lt (by assumption) (by decide)) | exact Nat.lt_of_le_of_lt (lm (Nat.le_refl _)) (Nat.lt_of_le_of_lt (by assumption) (by decide)) | (simp; lia)), List.getElem?_map, List.getElem?_take, if_pos h6, if_pos h6, List.getElem?_eq_getElem hj']
    simp [List.getElem?_eq_getElem hj']
  · have : j = 6 := by lia
    subst this
    rw [List.getElem?_append_right (by first | exact lm (Nat.le_trans (by assumption) (by decide)) | exact lr (Nat.le_trans (by assumption) (by decide)) | exact lm (lr (Nat.le_trans (by assumption) (by decide))) | exact lm (lm (lr (Nat.le_trans (by assumption) (by decide)))) | exact lml (Nat.lt_of_le_of_lt (by assumption) (by decide)) | exact Nat.lt_of_le_of_lt (lm (Nat.le_refl _)) (Nat.lt_of_le_of_lt (by assumption) (by decide)) | (simp; lia)), if_neg (by lia)]
    simp [List.getElem?_drop, hr, List.getElem?_eq_getElem hj']
theorem octs_at {l : List Int} (h : 2 ≤ l.length) : ∀ {i p j : Nat}, p < i → j < 7 → ((List.range i).flatMap (octRow l))[7 * p + j]? = some (octAt (rowOf l p) j)
  | 0, _, _, hp, _ => by lia
  | i + 1, p, j, hp, hj => by
    rw [List.range_succ, List.flatMap_append]
    by_cases hpi : p < i
    · rw [List.getElem?_append_left (by rw [octs_length h]; lia)]
      exact octs_at h hpi hj
    · have : p = i := by lia
      subst this
      rw [List.getElem?_append_right (by rw [octs_length h]; lia), octs_length h]
      simp only [List.flatMap_cons, List.flatMap_nil, List.append_nil]
      rw [show 7 * p + j - 7 * p = j by lia]
      exact octRow_at h hj

section
variable {prog : Program} {w : World} {g₀ : Heap} {A : Around} {P : Params} {n : Nat}
theorem Frm.kpx {H₀ X : List Addr} {env : Env} {c₀ c c' : Cf} (F : Frm g₀ H₀ X env c₀ c) (k : Kx X c c') : Kp c₀ c' :=
  Kx.kp_of (Z := []) F.k k (fun b hb _ => F.new b hb) fun Hx hl t => (k.tab (X ++ Hx) (fun b hb => List.mem_append_left _ hb) (fun b hb => by
      rcases List.mem_append.mp hb with q | q
      · exact F.so.low b (List.mem_append_left _ q)
      · exact F.k.al b (hl b q)) (F.tab Hx hl t)).sub fun b hb => List.mem_append_right _ hb
set_option pp.deepTerms false in
set_option maxHeartbeats 1000000 in
theorem windows_ok (G : Gd (hd.heap_1 P) g₀) (hA : AOk (n + 2) A) {l : List Int} (h2 : 2 ≤ l.length) (h7 : l.length ≤ 7) (hl : ∀ x ∈ l, 0 ≤ x ∧ x < 64) :
    Fn prog w g₀ A (.ref 104) [.list (l.map .int)] (.list (((List.range l.length).map (winOf l)).map .int)) := by
  refine fn_entry (names := ["ring"]) G hA rfl rfl rfl ⟨_, _, _, _, rfl, rfl, rfl, rfl⟩ rfl ?_ rfl ?_ ?_ ?_ ?_
  · intro vs h
    obtain ⟨a, rfl⟩ := len1 h; rfl
  · decide
  · rfl
  · decide
  · intro A' hA H c₀ c X L F V
    refine sx_own F V fun Da c₁ F V O => ?_
    have hlen : ((List.range l.length).map fun (i : Nat) => [D.int (i : Int)]).length = l.length := by simp
    refine sx_for (dI := fun i => .int (i : Int)) (fun _ => [("ring", .list (l.map .int))]) (fun i => ((List.range i).flatMap (octRow l)).map .int) hA.h F (V.has rfl) O
      (ia_range (n := l.length) hA.h G gnB (by lia) (EV.cast (ev_cb G gnB (evs_cons (ev_var F V) evs_nil) (fn_len (by first | exact lm (Nat.le_trans (by assumption) (by decide)) | exact lr (Nat.le_trans (by assumption) (by decide)) | exact lm (lr (Nat.le_trans (by assumption) (by decide))) | exact lm (lm (lr (Nat.le_trans (by assumption) (by decide)))) | exact lml (Nat.lt_of_le_of_lt (by assumption) (by decide)) | exact Nat.lt_of_le_of_lt (lm (Nat.le_refl _)) (Nat.lt_of_le_of_lt (by assumption) (by decide)) | (simp; lia)))) (by simp))) (fun i ds e => ?_) (fun i hi Y c' F V O => ?_) fun c' F V O => ?_
    · simp only [List.getElem?_map, Option.map_eq_some_iff] at e
      obtain ⟨j, hj, rfl⟩ := e
      have : j = i := by obtain ⟨h1, e1⟩ := List.getElem?_eq_some_iff.mp hj; rw [← e1, List.getElem_range]
      rw [this]
    · have hi' : i < l.length := by simpa using hi
      have hrl := rowOf_length (l := l) (p := i) h2
      refine sx_assign (d := .list ((rowOf l i).map .int)) F V (EV.cast (ev_upto (k := 7) (ev_bin (ev_cf G gnF (evs_cons (ev_var F V) (evs_cons (ev_var F V) evs_nil)) (turned_ok (k := i) G hA (by lia) (by first | exact lm (Nat.le_trans (by assumption) (by decide)) | exact lr (Nat.le_trans (by assumption) (by decide)) | exact lm (lr (Nat.le_trans (by assumption) (by decide))) | exact lm (lm (lr (Nat.le_trans (by assumption) (by decide)))) | exact lml (Nat.lt_of_le_of_lt (by assumption) (by decide)) | exact Nat.lt_of_le_of_lt (lm (Nat.le_refl _)) (Nat.lt_of_le_of_lt (by assumption) (by decide)) | (simp; lia)) (by first | exact lm (Nat.le_trans (by assumption) (by decide)) | exact lr (Nat.le_trans (by assumption) (by decide)) | exact lm (lr (Nat.le_trans (by assumption) (by decide))) | exact lm (lm (lr (Nat.le_trans (by assumption) (by decide)))) | exact lml (Nat.lt_of_le_of_lt (by assumption) (by decide)) | exact Nat.lt_of_le_of_lt (lm (Nat.le_refl _)) (Nat.lt_of_le_of_lt (by assumption) (by decide)) | (simp; lia)))) ev_int (op_rep ?_ (by decide) (by decide) ?_)) ev_int (by decide) ?_) ?_) fun c₁ S₁ F₁ V₁ => ?_
      · intro q
        have := congrArg List.length q
        simp at this; lia
      · simp; lia
      · first | exact lm (Nat.le_trans (by assumption) (by decide)) | exact lr (Nat.le_trans (by assumption) (by decide)) | exact lm (lr (Nat.le_trans (by assumption) (by decide))) | exact lm (lm (lr (Nat.le_trans (by assumption) (by decide)))) | exact lml (Nat.lt_of_le_of_lt (by assumption) (by decide)) | exact Nat.lt_of_le_of_lt (lm (Nat.le_refl _)) (Nat.lt_of_le_of_lt (by assumption) (by decide)) | (rw [sizeLine_eq]; simp; lia)
      · unfold rowOf turned
        simp [List.map_take, List.map_flatten]
      have O₁ := O.stp F S₁ (by decide)
      refine sx_extend F₁ V₁ O₁ (l2 := (octRow l i).map .int) ?_ (EV.cast (ev_bin (ev_mapC .int (fun x : Int => 64 + x) [] V₁ F₁.so (.one _ _) hA.h (ia_list (xs := (rowOf l i).take 6) (g := D.int) hA.h (EV.cast (ev_upto (k := 6) (ev_var F₁ V₁) ev_int (by decide) ?_) ?_)) ?_ (fun _ => rfl) ?_)
        (ev_from (k := 6) (ev_var F₁ V₁) ev_int (by decide) ?_) (op_addl ?_)) ?_) fun c₂ k₂ F₂ V₂ O₂ => ?_
      · simp only [List.length_map, octs_length h2, octRow_length h2]; lia
      · first | exact lm (Nat.le_trans (by assumption) (by decide)) | exact lr (Nat.le_trans (by assumption) (by decide)) | exact lm (lr (Nat.le_trans (by assumption) (by decide))) | exact lm (lm (lr (Nat.le_trans (by assumption) (by decide)))) | exact lml (Nat.lt_of_le_of_lt (by assumption) (by decide)) | exact Nat.lt_of_le_of_lt (lm (Nat.le_refl _)) (Nat.lt_of_le_of_lt (by assumption) (by decide)) | (rw [sizeLine_eq]; simp; lia)
      · simp
      · simp; lia
      · intro x hx H' C c₂ so V
        exact ev_bin ev_int (ev_v V so) op_add
      · first | exact lm (Nat.le_trans (by assumption) (by decide)) | exact lr (Nat.le_trans (by assumption) (by decide)) | exact lm (lr (Nat.le_trans (by assumption) (by decide))) | exact lm (lm (lr (Nat.le_trans (by assumption) (by decide)))) | exact lml (Nat.lt_of_le_of_lt (by assumption) (by decide)) | exact Nat.lt_of_le_of_lt (lm (Nat.le_refl _)) (Nat.lt_of_le_of_lt (by assumption) (by decide)) | (rw [sizeLine_eq]; simp; lia)
      · first | exact lm (Nat.le_trans (by assumption) (by decide)) | exact lr (Nat.le_trans (by assumption) (by decide)) | exact lm (lr (Nat.le_trans (by assumption) (by decide))) | exact lm (lm (lr (Nat.le_trans (by assumption) (by decide)))) | exact lml (Nat.lt_of_le_of_lt (by assumption) (by decide)) | exact Nat.lt_of_le_of_lt (lm (Nat.le_refl _)) (Nat.lt_of_le_of_lt (by assumption) (by decide)) | (rw [sizeLine_eq]; simp; lia)
      · simp [octRow]
      refine sx_nil ⟨rfl, c₂, rfl, S₁.mine.trans (k₂.mono fun b hb => by rw [List.mem_singleton.mp hb]; exact List.mem_cons_self), F₂, V₂.has rfl, ?_⟩
      rw [← List.map_append] at O₂
      rw [List.range_succ, List.flatMap_append]
      simpa using O₂
    · rw [hlen] at O
      refine sx_iter G gnB F V O fun I c₂ F V T => ?_
      obtain ⟨_, lk⟩ := T.look
      obtain ⟨vs, hvs, hia⟩ := T.li
      rcases lk with ⟨e, _⟩ | ⟨_, a, ha, haM, hcell⟩
      · cases e
      obtain ⟨ol, hol, _⟩ := id hvs
      obtain ⟨oI, hoI, _⟩ := id T.it
      obtain ⟨oa, hoa, _⟩ := id hcell
      have IM := F.nm I T.mem
      refine sx_cons (wpAny_Return_some (ne_mono (ev_compZ (Z := [I]) (jf := [I, Da, a]) (f := fun i => .int (winOf l i)) (J := fun i h => h.IsListIter I Da (7 * i) ∧ h.IsList Da vs.toArray ∧ h.IsCell a (some (.ref I))) F.so (.one _ _) hA.h (ia_list (g := D.int) hA.h (ev_var F V)) ?_ ?_ ?_ ?_ ?_ ?_ ?_ ⟨T.it, hvs, hcell⟩ ?_)
        fun v s' h => ?_))
      · first | exact lm (Nat.le_trans (by assumption) (by decide)) | exact lr (Nat.le_trans (by assumption) (by decide)) | exact lm (lr (Nat.le_trans (by assumption) (by decide))) | exact lm (lm (lr (Nat.le_trans (by assumption) (by decide)))) | exact lml (Nat.lt_of_le_of_lt (by assumption) (by decide)) | exact Nat.lt_of_le_of_lt (lm (Nat.le_refl _)) (Nat.lt_of_le_of_lt (by assumption) (by decide)) | (rw [sizeLine_eq]; simp; lia)
      · intro ds hds
        obtain ⟨x, _, rfl⟩ := List.mem_map.mp hds
        rfl
      · intro b hb; rw [List.mem_singleton.mp hb]; exact F.hid I T.mem
      · intro b hb; rw [List.mem_singleton.mp hb]; exact IM
      · intro b hb; rw [List.mem_singleton.mp hb]; exact F.ng I T.mem
      · intro b hb
        simp only [List.mem_cons, List.not_mem_nil, or_false] at hb
        rcases hb with rfl | rfl | rfl
        · exact ⟨IM, _, hoI⟩
        · exact ⟨T.lM, _, hol⟩
        · exact ⟨haM, _, hoa⟩
      · intro i h h' hJ hk
        exact ⟨hJ.1.at fun o e => hk I (by simp) o e, hJ.2.1.at fun o e => hk Da (by simp) o e, cell_keep hJ.2.2 fun o e => hk a (by simp) o e⟩
      · intro i hi H' C c₁ hs so hJ
        have hi' : i < l.length := by simpa using hi
        have hIH : I ∈ H' := hs I (F.hid I T.mem)
        refine Call_Name rfl (name_g G so gnF ?_)
        refine callWith_K G.kin (show keepIn _ (.ref 77) = true from rfl) (wpAny_items_cons (wpAny_Name (loadName_at (v := .ref I) ⟨rfl, .inr ⟨.inl rfl, a, ha, haM, hJ.2.2⟩⟩ (wpAny_items_nil ⟨G.kin.keeps so.base, ?_⟩) (by decide)) (by decide)) rfl) rfl rfl
        refine ne_mono (parse_ok (ds := rowOf l i) (k := 7 * i) G hA so hIH IM (F.ng I T.mem) hJ.1 T.lM hJ.2.1 hia (fun j => row_bd hl j) fun j hj => octs_at h2 hi' hj) fun v s' zz => ?_
        obtain ⟨c', e, k, r, it⟩ := zz
        exact ⟨c', e, k, r, it, hJ.2.1.at fun o e => k.kp Da o T.lM (fun q => T.lI (List.mem_singleton.mp q)) e, cell_keep hJ.2.2 fun o e => k.kp a o haM (fun q => T.nc "tape" (by rw [← List.mem_singleton.mp q]; exact ha)) e⟩
      · obtain ⟨c₃, rfl, k, r⟩ := h
        refine ⟨c₃, rfl, F.kpx (k.mono fun b hb => by rw [List.mem_singleton.mp hb]; exact T.mem), ?_⟩
        have r2 := r.sub (H' := H) fun b hb => List.mem_append_right _ hb
        simp only [List.length_map] at r2
        rw [List.map_map]
        exact r2
end
end Mine
end
noncomputable section
open PySem PySem.W PyProof.Rows
namespace Mine
open PySem.Calls

theorem wrap_ix {p j n : Nat} (hp : p < n) (hj : j < n) (h : n ≤ p + j) : j - (n - p) = (p + j) % n ∧ j - (n - p) < p := by
  rw [Nat.mod_eq_sub_mod h, Nat.mod_eq_of_lt (by lia)]; lia
theorem turned_at {α : Type} {l : List α} {p j : Nat} (hp : p < l.length) (hj : j < l.length) : (turned l p)[j]? = l[(p + j) % l.length]? := by
  unfold turned
  by_cases h : p + j < l.length
  · rw [List.getElem?_append_left (by rw [List.length_drop]; exact Nat.lt_sub_iff_add_lt'.mpr h), List.getElem?_drop, Nat.mod_eq_of_lt h]
  · have w := wrap_ix hp hj (Nat.not_lt.mp h)
    rw [List.getElem?_append_right (by rw [List.length_drop]; exact Nat.sub_le_iff_le_add'.mpr (Nat.not_lt.mp h)), List.length_drop, List.getElem?_take, if_pos w.2, w.1]
theorem flat_at {α : Type} {r : List α} (hr : 0 < r.length) : ∀ (k j : Nat), j < k * r.length → ((List.replicate k r).flatten)[j]? = r[j % r.length]?
  | 0, j, h => by lia
  | k + 1, j, h => by
    rw [List.replicate_succ, List.flatten_cons]
    by_cases hj : j < r.length
    · rw [List.getElem?_append_left hj, Nat.mod_eq_of_lt hj]
    · have e : j % r.length = (j - r.length) % r.length := Nat.mod_eq_sub_mod (by lia)
      have h' : j - r.length < k * r.length := by rw [Nat.succ_mul] at h; lia
      rw [List.getElem?_append_right (by lia), flat_at hr k (j - r.length) h', e]
theorem rowOf_at {l : List Int} {p j : Nat} (h2 : 2 ≤ l.length) (hp : p < l.length) (hj : j < 7) : (rowOf l p)[j]? = l[(p + j) % l.length]? := by
  unfold rowOf
  rw [List.getElem?_take, if_pos hj, flat_at (by rw [turned_length]; lia) 4 j (by rw [turned_length]; lia), turned_length, turned_at hp (Nat.mod_lt _ (by lia)), Nat.add_mod_mod]
theorem rowOf_getD {l : List Int} {p j : Nat} (h2 : 2 ≤ l.length) (hp : p < l.length) (hj : j < 7) : (rowOf l p).getD j 0 = l.getD ((p + j) % l.length) 0 := by
  rw [List.getD_eq_getElem?_getD, rowOf_at h2 hp hj, List.getD_eq_getElem?_getD]
theorem horn_shift {ds ds' : List Int} : ∀ m, (∀ j, j < m → ds'.getD j 0 = ds.getD (j + 1) 0) → horn ds (m + 1) = ds.getD 0 0 * 64 ^ m + horn ds' m
  | 0, _ => by simp [horn]
  | m + 1, e => by rw [horn, horn_shift m fun j hj => e j (Nat.lt_succ_of_lt hj), horn, e m (Nat.lt_succ_self m), Int.add_mul, Int.mul_assoc, Int.add_assoc, Int.pow_succ]
theorem win_num {h d e : Int} (h0 : 0 ≤ h) (h1 : h < 68719476736) (d0 : 0 ≤ d) (d1 : d < 64) : (h * 64 + d) / 64 = (e * 68719476736 + h) % 68719476736 := by
  rw [Int.add_comm, Int.add_mul_ediv_right _ _ (by decide), Int.ediv_eq_zero_of_lt d0 d1, Int.zero_add, Int.add_comm, Int.add_mul_emod_self_right, Int.emod_eq_of_lt h0 h1]
theorem win_next {l : List Int} {p : Nat} (h2 : 2 ≤ l.length) (hp : p < l.length) (hl : ∀ x ∈ l, 0 ≤ x ∧ x < 64) : winOf l ((p + 1) % l.length) / 64 = winOf l p % 68719476736 := by
  have hq : (p + 1) % l.length < l.length := Nat.mod_lt _ (Nat.zero_lt_of_lt hp)
  have e : ∀ j, j < 6 → (rowOf l ((p + 1) % l.length)).getD j 0 = (rowOf l p).getD (j + 1) 0 := fun j hj => by
    rw [rowOf_getD h2 hq (Nat.lt_succ_of_lt hj), rowOf_getD h2 hp (Nat.succ_lt_succ hj), Nat.mod_add_mod, Nat.add_assoc, Nat.add_comm 1 j]
  have b := horn_bd (fun j => row_bd (p := (p + 1) % l.length) hl j) 6
  have d := row_bd (p := (p + 1) % l.length) hl 6
  unfold winOf
  rw [horn_shift 6 e]
  exact win_num b.1 b.2 d.1 d.2
theorem win_bd {l : List Int} {p : Nat} (hl : ∀ x ∈ l, 0 ≤ x ∧ x < 64) : 0 ≤ winOf l p ∧ winOf l p < 4398046511104 := by
  have := horn_bd (fun j => row_bd (p := p) hl j) 7
  unfold winOf
  exact ⟨this.1, by have := this.2; rw [show (64 : Int) ^ 7 = 4398046511104 by decide] at this; exact this⟩
theorem len_s {α : Type} {l : List α} {n : Nat} (h : l.length = n + 1) : ∃ a r, l = a :: r ∧ r.length = n := by
  cases l with
  | nil => cases h
  | cons a r => exact ⟨a, r, rfl, Nat.succ.inj h⟩
theorem sum_horn {r : List Int} (h : r.length = 7) : (r.zipIdx.map fun q => q.1 * 64 ^ (6 - q.2)).sum = horn r 7 := by
  obtain ⟨a, r1, rfl, h1⟩ := len_s h
  obtain ⟨b, r2, rfl, h2⟩ := len_s h1
  obtain ⟨c, r3, rfl, h3⟩ := len_s h2
  obtain ⟨d, e, f, g, rfl⟩ := len4 h3
  simp [horn, List.zipIdx]
  lia

section
variable {prog : Program} {w : World} {g₀ : Heap} {A : Around} {P : Params} {n : Nat}
theorem bits64 : Builtin.Int.intBits 64 = 7 := by decide +kernel
theorem copL_list {ns ms : List Int} (hu : A.units < cLine) (hlen : ns.length = ms.length) : COp prog w g₀ A .Eq (.list (ns.map FL)) (.list (ms.map FL)) (decide (ns = ms)) := by
  have h := cop_eqfl (prog := prog) (w := w) (g₀ := g₀) (A := A) (ns := ns.map (· * 65536)) (ms := ms.map (· * 65536)) hu (by simpa using hlen)
  rw [List.map_map, List.map_map] at h
  have e : decide (ns.map (· * 65536) = ms.map (· * 65536)) = decide (ns = ms) := decide_eq_decide.mpr ⟨fun h => by
    apply List.map_inj_right (f := fun x : Int => x * 65536) (fun x y h => by have h' : x * 65536 = y * 65536 := h; lia) |>.mp h, fun h => by rw [h]⟩
  rw [e] at h
  exact h
set_option pp.deepTerms false in
set_option maxHeartbeats 2000000 in
theorem told_ok (G : Gd (hd.heap_1 P) g₀) (hA : AOk (n + 3) A) {l : List Int} {s v : Int} (h2 : 2 ≤ l.length) (h7 : l.length ≤ 7) (hl : ∀ x ∈ l, 0 ≤ x ∧ x < 64) (hs : s = 17592186044416 ∨ s = 8796093022208) (hv : v = 17592186044416 ∨ v = 8796093022208) :
    Fn prog w g₀ A (.ref 116) [.list (l.map .int), .list (((List.range l.length).map (winOf l)).map .int), FL s, FL v] (.tup [.list (((List.range l.length).map fun p => 4 * winOf l p).map FL), .bool true]) := by
  refine fn_entry (names := ["ring", "windows", "share", "level"]) G hA rfl rfl rfl ⟨_, _, _, _, rfl, rfl, rfl, rfl⟩ rfl ?_ rfl ?_ ?_ ?_ ?_
  · intro vs h
    obtain ⟨a, b, c, d, rfl⟩ := len4 h; rfl
  · decide
  · rfl
  · decide
  · intro A' hA H c₀ c X L F V
    have hrl := fun p => rowOf_length (l := l) (p := p) h2
    have hwb := fun p => win_bd (l := l) (p := p) hl
    rw [List.map_map] at V
    refine sx_mapC FL (fun p : Nat => 4 * winOf l p) ["share", "level"] F V (.one _ _) hA.h (ia_list (xs := List.range l.length) (g := fun p => D.int (winOf l p)) hA.h (ev_var F V)) (by first | exact lm (Nat.le_trans (by assumption) (by decide)) | exact lr (Nat.le_trans (by assumption) (by decide)) | exact lm (lr (Nat.le_trans (by assumption) (by decide))) | exact lm (lm (lr (Nat.le_trans (by assumption) (by decide)))) | exact lml (Nat.lt_of_le_of_lt (by assumption) (by decide)) | exact Nat.lt_of_le_of_lt (lm (Nat.le_refl _)) (Nat.lt_of_le_of_lt (by assumption) (by decide)) | (simp; lia)) (fun _ => rfl) (fun p hp H' C c₂ so V => ?_) fun c₁ S₁ F V => ?_
    · have := hwb p
      refine EV.cast (ev_cf G gnF (evs_cons (ev_bin (ev_v V so) (evL lit_42) (opL_div_if (n := 4 * winOf l p) (by decide) (by lia) (by lia) (by lia))) (evs_cons (ev_v V so) (evs_cons (ev_v V so) evs_nil))) (hue_ok G hA (by lia) (by lia) (by lia) hs hv)) ?_
      rw [Int.emod_eq_of_lt (by lia) (by lia)]
    refine sx_mapC FL (fun p : Nat => 256 * winOf l p % 17592186044416) ["share", "level"] F V (.one _ _) hA.h (ia_list (xs := List.range l.length) (g := fun p => D.int (winOf l p)) hA.h (ev_var F V)) (by first | exact lm (Nat.le_trans (by assumption) (by decide)) | exact lr (Nat.le_trans (by assumption) (by decide)) | exact lm (lr (Nat.le_trans (by assumption) (by decide))) | exact lm (lm (lr (Nat.le_trans (by assumption) (by decide)))) | exact lml (Nat.lt_of_le_of_lt (by assumption) (by decide)) | exact Nat.lt_of_le_of_lt (lm (Nat.le_refl _)) (Nat.lt_of_le_of_lt (by assumption) (by decide)) | (simp; lia)) (fun _ => rfl) (fun p hp H' C c₂ so V => ?_) fun c₁ S₁ F V => ?_
    · have := hwb p
      exact ev_cf G gnF (evs_cons (ev_bin (ev_v V so) (evL lit_36) (opL_div_if (n := 256 * winOf l p) (by decide) (by lia) (by lia) (by lia))) (evs_cons (ev_v V so) (evs_cons (ev_v V so) evs_nil))) (hue_ok G hA (by lia) (by lia) (by lia) hs hv)
    refine sx_map (f := fun p : Nat => .list ((rowOf l p).map .int)) ["ring"] F V (.one _ _) hA.h (ia_range (n := l.length) hA.h G gnB (by lia) (EV.cast (ev_cb G gnB (evs_cons (ev_var F V) evs_nil) (fn_len (by first | exact lm (Nat.le_trans (by assumption) (by decide)) | exact lr (Nat.le_trans (by assumption) (by decide)) | exact lm (lr (Nat.le_trans (by assumption) (by decide))) | exact lm (lm (lr (Nat.le_trans (by assumption) (by decide)))) | exact lml (Nat.lt_of_le_of_lt (by assumption) (by decide)) | exact Nat.lt_of_le_of_lt (lm (Nat.le_refl _)) (Nat.lt_of_le_of_lt (by assumption) (by decide)) | (simp; lia)))) (by simp))) (by first | exact lm (Nat.le_trans (by assumption) (by decide)) | exact lr (Nat.le_trans (by assumption) (by decide)) | exact lm (lr (Nat.le_trans (by assumption) (by decide))) | exact lm (lm (lr (Nat.le_trans (by assumption) (by decide)))) | exact lml (Nat.lt_of_le_of_lt (by assumption) (by decide)) | exact Nat.lt_of_le_of_lt (lm (Nat.le_refl _)) (Nat.lt_of_le_of_lt (by assumption) (by decide)) | (rw [sizeLine_eq]; simp; lia)) (fun _ => rfl) (fun p hp H' C c₂ so V => ?_) fun c₁ S₁ F V => ?_
    · have hp' : p < l.length := by simpa using hp
      refine EV.cast (ev_upto (k := 7) (ev_bin (ev_cf G gnF (evs_cons (ev_v V so) (evs_cons (ev_v V so) evs_nil)) (turned_ok (k := p) G hA (by lia) (by first | exact lm (Nat.le_trans (by assumption) (by decide)) | exact lr (Nat.le_trans (by assumption) (by decide)) | exact lm (lr (Nat.le_trans (by assumption) (by decide))) | exact lm (lm (lr (Nat.le_trans (by assumption) (by decide)))) | exact lml (Nat.lt_of_le_of_lt (by assumption) (by decide)) | exact Nat.lt_of_le_of_lt (lm (Nat.le_refl _)) (Nat.lt_of_le_of_lt (by assumption) (by decide)) | (simp; lia)) (by first | exact lm (Nat.le_trans (by assumption) (by decide)) | exact lr (Nat.le_trans (by assumption) (by decide)) | exact lm (lr (Nat.le_trans (by assumption) (by decide))) | exact lm (lm (lr (Nat.le_trans (by assumption) (by decide)))) | exact lml (Nat.lt_of_le_of_lt (by assumption) (by decide)) | exact Nat.lt_of_le_of_lt (lm (Nat.le_refl _)) (Nat.lt_of_le_of_lt (by assumption) (by decide)) | (simp; lia)))) ev_int (op_rep ?_ (by decide) (by decide) ?_)) ev_int (by decide) ?_) ?_
      · intro q
        have := congrArg List.length q
        simp at this; lia
      · simp; lia
      · first | exact lm (Nat.le_trans (by assumption) (by decide)) | exact lr (Nat.le_trans (by assumption) (by decide)) | exact lm (lr (Nat.le_trans (by assumption) (by decide))) | exact lm (lm (lr (Nat.le_trans (by assumption) (by decide)))) | exact lml (Nat.lt_of_le_of_lt (by assumption) (by decide)) | exact Nat.lt_of_le_of_lt (lm (Nat.le_refl _)) (Nat.lt_of_le_of_lt (by assumption) (by decide)) | (rw [sizeLine_eq]; simp; lia)
      · unfold rowOf turned
        simp [List.map_take]
    refine sx_mapC .int (fun p : Nat => winOf l p) [] F V (.one _ _) hA.h (ia_list (xs := List.range l.length) (g := fun p => D.list ((rowOf l p).map .int)) hA.h (ev_var F V)) (by first | exact lm (Nat.le_trans (by assumption) (by decide)) | exact lr (Nat.le_trans (by assumption) (by decide)) | exact lm (lr (Nat.le_trans (by assumption) (by decide))) | exact lm (lm (lr (Nat.le_trans (by assumption) (by decide)))) | exact lml (Nat.lt_of_le_of_lt (by assumption) (by decide)) | exact Nat.lt_of_le_of_lt (lm (Nat.le_refl _)) (Nat.lt_of_le_of_lt (by assumption) (by decide)) | (simp; lia)) (fun _ => rfl) (fun p hp H' C c₂ so V => ?_) fun c₁ S₁ F V => ?_
    · refine EV.cast (ev_cb G gnB (evs_cons (ev_mapC .int (fun q : Int × Nat => q.1 * 64 ^ (6 - q.2)) [] V so (.two _ _ _ _ _ _) hA.h (ia_enum (g := D.int) hA.h G gnB (ev_v V so)) (by simp [hrl]) (fun _ => rfl) fun q hq H'' C' c₃ so' V' => ?_) evs_nil) (fn_sum hA.h)) ?_
      · obtain ⟨x, i⟩ := q
        have hqi := List.mem_zipIdx hq
        have hi6 : i < 7 := by have := hrl p; lia
        have hx := hl x (mem_rowOf (p := p) (by rw [hqi.2.2]; exact List.getElem_mem _))
        refine EV.cast (ev_bin (ev_v V' so') (ev_bin ev_int (ev_bin ev_int (ev_v V' so') op_sub) (op_pow ?_ ?_)) (op_mul (mul_ok_left ?_ ?_))) ?_
        · lia
        · rw [bits64]; lia
        · lia
        · lia
        · rw [show ((6 : Int) - (i : Nat)).toNat = 6 - i by lia]
      · rw [sum_horn (hrl p)]; rfl
    refine sx_assign (d := .bool true) F V (EV.cast (ev_cmp (ev_var F V) (ev_mapC FL (fun p : Nat => 4 * winOf l p) [] V F.so (.one _ _) hA.h (ia_list (xs := List.range l.length) (g := fun p => D.int (winOf l p)) hA.h (EV.cast (ev_var F V) (by rw [List.map_map]; rfl))) (by first | exact lm (Nat.le_trans (by assumption) (by decide)) | exact lr (Nat.le_trans (by assumption) (by decide)) | exact lm (lr (Nat.le_trans (by assumption) (by decide))) | exact lm (lm (lr (Nat.le_trans (by assumption) (by decide)))) | exact lml (Nat.lt_of_le_of_lt (by assumption) (by decide)) | exact Nat.lt_of_le_of_lt (lm (Nat.le_refl _)) (Nat.lt_of_le_of_lt (by assumption) (by decide)) | (simp; lia)) (fun _ => rfl) fun p hp H' C c₂ so V => ?_) (copL_list hA.un rfl)) ?_) fun c₁ S₁ F V => ?_
    · have := hwb p
      exact ev_bin (ev_v V so) (evL lit_42) (opL_div_if (n := 4 * winOf l p) (by decide) (by lia) (by lia) (by lia))
    · simp
    refine sx_return F (ev_tuple (evs_cons (ev_var F V) (evs_cons (EV.cast (ev_and (b := true) (ev_var F V) fun _ => EV.cast (ev_cmp (ev_var F V) (ev_mapC FL (fun x : Int => x / 64 * 256) [] V F.so (.one _ _) hA.h (ia_list (xs := turned ((List.range l.length).map (winOf l)) 1) (g := D.int) hA.h
      (EV.cast (ev_cf G gnF (evs_cons (ev_var F V) (evs_cons ev_int evs_nil)) (turned_ok (k := 1) G hA (by decide) (by first | exact lm (Nat.le_trans (by assumption) (by decide)) | exact lr (Nat.le_trans (by assumption) (by decide)) | exact lm (lr (Nat.le_trans (by assumption) (by decide))) | exact lm (lm (lr (Nat.le_trans (by assumption) (by decide)))) | exact lml (Nat.lt_of_le_of_lt (by assumption) (by decide)) | exact Nat.lt_of_le_of_lt (lm (Nat.le_refl _)) (Nat.lt_of_le_of_lt (by assumption) (by decide)) | (simp; lia)) (by first | exact lm (Nat.le_trans (by assumption) (by decide)) | exact lr (Nat.le_trans (by assumption) (by decide)) | exact lm (lr (Nat.le_trans (by assumption) (by decide))) | exact lm (lm (lr (Nat.le_trans (by assumption) (by decide)))) | exact lml (Nat.lt_of_le_of_lt (by assumption) (by decide)) | exact Nat.lt_of_le_of_lt (lm (Nat.le_refl _)) (Nat.lt_of_le_of_lt (by assumption) (by decide)) | (simp; lia)))) ?_)) ?_ (fun _ => rfl) fun x hx H' C c₂ so V => ?_) (copL_list hA.un ?_)) ?_) rfl) evs_nil)) ?_)
    · unfold turned; simp [List.map_take, List.map_drop]
    · rw [turned_length]; simp; lia
    · obtain ⟨p, hp, rfl⟩ := List.mem_map.mp (mem_turned hx)
      have := hwb p
      exact ev_bin (ev_bin (ev_v V so) ev_int (op_fdivp (by decide) (by decide))) (evL lit_36) (opL_div_if (n := winOf l p / 64 * 256) (by decide) (by lia) (by lia) (by lia))
    · simp [turned_length]
    · congr 1
      rw [decide_eq_true_eq]
      apply List.ext_getElem?
      intro i
      by_cases hi : i < l.length
      · rw [List.getElem?_map, List.getElem?_map, turned_at (by first | exact lm (Nat.le_trans (by assumption) (by decide)) | exact lr (Nat.le_trans (by assumption) (by decide)) | exact lm (lr (Nat.le_trans (by assumption) (by decide))) | exact lm (lm (lr (Nat.le_trans (by assumption) (by decide)))) | exact lml (Nat.lt_of_le_of_lt (by assumption) (by decide)) | exact Nat.lt_of_le_of_lt (lm (Nat.le_refl _)) (Nat.lt_of_le_of_lt (by assumption) (by decide)) | (simp; lia)) (by simpa using hi), List.length_map, List.length_range, List.getElem?_map]
        have hq : (1 + i) % l.length < l.length := Nat.mod_lt _ (by lia)
        rw [List.getElem?_range hi, List.getElem?_range hq]
        simp only [Option.map_some]
        rw [show 1 + i = i + 1 by lia, win_next h2 hi hl]
        congr 1
        have := hwb i
        lia
      · rw [List.getElem?_eq_none (by first | exact lm (Nat.le_trans (by assumption) (by decide)) | exact lr (Nat.le_trans (by assumption) (by decide)) | exact lm (lr (Nat.le_trans (by assumption) (by decide))) | exact lm (lm (lr (Nat.le_trans (by assumption) (by decide)))) | exact lml (Nat.lt_of_le_of_lt (by assumption) (by decide)) | exact Nat.lt_of_le_of_lt (lm (Nat.le_refl _)) (Nat.lt_of_le_of_lt (by assumption) (by decide)) | (simp; lia)), List.getElem?_eq_none (by simp [turned_length]; lia)]
    · first | exact Nat.le_of_ble_eq_true rfl | (rw [sizeLine_eq]; simp)
end
end Mine
end
noncomputable section
open PySem PySem.W PyProof.Rows
namespace Mine
open PySem.Calls

noncomputable def dval (ds : List Int) (n : Nat) (L : Nat) : Nat → Int
  | 0 => 0
  | k + 1 => ds.getD L 0 + 2 ^ n * dval ds n (L + 1) k
theorem dval_add (ds : List Int) (n : Nat) : ∀ (a L b : Nat), dval ds n L (a + b) = dval ds n L a + 2 ^ (n * a) * dval ds n (L + a) b
  | 0, L, b => by simp [dval]
  | a + 1, L, b => by
    rw [show a + 1 + b = (a + b) + 1 by lia, dval, dval_add ds n a (L + 1) b, dval, show n * (a + 1) = n + n * a by rw [Nat.mul_succ]; lia, Int.pow_add, show L + 1 + a = L + (a + 1) by lia, Int.mul_add, Int.mul_assoc]
    lia
theorem dval_bd {ds : List Int} {n : Nat} (hd : ∀ j, 0 ≤ ds.getD j 0 ∧ ds.getD j 0 < 2 ^ n) : ∀ k L, 0 ≤ dval ds n L k ∧ dval ds n L k < 2 ^ (n * k)
  | 0, L => by simp [dval]
  | k + 1, L => by
    have h := dval_bd hd k (L + 1)
    have h1 := hd L
    have hp : (0 : Int) < 2 ^ n := Int.pow_pos (by decide)
    rw [dval, show n * (k + 1) = n + n * k by rw [Nat.mul_succ]; lia, Int.pow_add]
    have h2 : 0 ≤ (2 : Int) ^ n * dval ds n (L + 1) k := Int.mul_nonneg (by lia) h.1
    have h3 : (2 : Int) ^ n * (dval ds n (L + 1) k + 1) ≤ 2 ^ n * 2 ^ (n * k) := Int.mul_le_mul_of_nonneg_left (by lia) (by lia)
    rw [Int.mul_add, Int.mul_one] at h3
    lia
theorem natAbs_pow {a : Int} {k : Nat} (h0 : 0 ≤ a) (h : a < 2 ^ k) : a.natAbs < 2 ^ k := by
  obtain ⟨m, rfl⟩ := Int.eq_ofNat_of_zero_le h0
  rw [Int.natAbs_natCast]
  exact_mod_cast h

theorem clOf_sub {env : Env} {x : Str} {a : Addr} : ∀ {names : List (Str × NameKind)} {acc : List (Str × Addr)}, (∀ y ∈ names, y.2 = .free → (env.cells.lookup y.1).isSome = true) → (clOf env names acc).lookup x = some a → acc.lookup x = some a ∨ env.cells.lookup x = some a
  | [], acc, _, h => .inl h
  | (n, k) :: r, acc, hs, h => by
    rw [clOf] at h
    cases hk : k == NameKind.free with
    | true =>
      rw [hk, if_pos rfl] at h
      obtain ⟨b, hb⟩ := Option.isSome_iff_exists.mp (hs (n, k) List.mem_cons_self (by simpa using hk))
      have hb' : env.cells.lookup n = some b := hb
      rcases clOf_sub (fun y hy => hs y (List.mem_cons_of_mem _ hy)) h with h | h
      · rw [List.lookup_cons] at h
        cases hx : x == n with
        | true => rw [hx, hb'] at h; right; rw [eq_of_beq hx, hb']; exact h
        | false => rw [hx] at h; exact .inl h
      · exact .inr h
    | false =>
      rw [hk, if_neg (by decide)] at h
      exact clOf_sub (fun y hy => hs y (List.mem_cons_of_mem _ hy)) h

/-- a nested function and what its cells hold -/
structure Clo (c : Cf) (f : Addr) (fd : FuncData) : Prop where
  fM : f ∉ MUT
  hf : ∃ o, c.heap.get? f = some o ∧ o.data = .func fd
  cd : ∃ a, fd.code = .ref a ∧ a ∉ MUT
  cr : c.heap.CodeRec fd.code fd.qualname
  cal : ∀ x a, fd.closure.lookup x = some a → a ∉ MUT ∧ ∃ o, c.heap.get? a = some o
  hap : ∀ x y a, fd.closure.lookup x = some a → fd.closure.lookup y = some a → y = x
theorem Clo.keep {c c' : Cf} {f : Addr} {fd : FuncData} (x : Clo c f fd) (hk : ∀ b o, b ∉ MUT → c.heap.get? b = some o → c'.heap.get? b = some o) : Clo c' f fd := by
  obtain ⟨o, h1, h2⟩ := x.hf
  obtain ⟨a, h3, h4⟩ := x.cd
  refine ⟨x.fM, ⟨o, hk f o x.fM h1, h2⟩, ⟨a, h3, h4⟩, ?_, fun y b h => ?_, x.hap⟩
  · obtain ⟨c1, oc, vs, t, e1, e2, e3, e4⟩ := x.cr
    rw [h3] at e1; cases e1
    exact ⟨a, oc, vs, t, h3, hk a oc h4 e2, e3, e4⟩
  · obtain ⟨h5, o', h6⟩ := x.cal y b h
    exact ⟨h5, o', hk b o' h5 h6⟩
inductive CVar (H : List Addr) (c : Cf) (fd : FuncData) (x : Str) (d : D) : Prop
  | mk (a : Addr) (v : Value) (e : fd.closure.lookup x = some a) (hc : c.heap.IsCell a (some v)) (r : Rep H c d v)
inductive CRef (c : Cf) (fd : FuncData) (x : Str) (f : Addr) : Prop
  | mk (a : Addr) (e : fd.closure.lookup x = some a) (hc : c.heap.IsCell a (some (.ref f)))
theorem CRef.keep {c c' : Cf} {f g : Addr} {fd : FuncData} {x : Str} (C : Clo c f fd) (r : CRef c fd x g) (hk : ∀ b o, b ∉ MUT → c.heap.get? b = some o → c'.heap.get? b = some o) : CRef c' fd x g :=
  let ⟨a, h1, h2⟩ := r; ⟨a, h1, cell_keep h2 fun o e => hk a o (C.cal x a h1).1 e⟩
theorem CRef.look {c : Cf} {f g : Addr} {fd : FuncData} {x : Str} {L : Addr} (C : Clo c f fd) (r : CRef c fd x g) (hk : fd.scope.kind = .function) (hx : fd.scope.names.lookup x = some .free) : LookAt (callEnv fd L f) c.heap x (.ref g) :=
  let ⟨a, h1, h2⟩ := r; ⟨hk, .inr ⟨.inr hx, a, h1, (C.cal x a h1).1, h2⟩⟩
section
variable {prog : Program} {w : World} {g₀ : Heap} {A : Around} {P : Params} {n : Nat}
theorem CVar.kp {H : List Addr} {c c' : Cf} {f : Addr} {fd : FuncData} {x : Str} {d : D} (C : Clo c f fd) (so : SOk g₀ H c) (r : CVar H c fd x d) (k : Kp c c') : CVar H c' fd x d :=
  let ⟨a, v, h1, h2, h3⟩ := r; ⟨a, v, h1, cell_keep h2 fun o e => k.keep (C.cal x a h1).1 e, h3.kp so k⟩
theorem CVar.into {H H' : List Addr} {c c' : Cf} {f : Addr} {fd : FuncData} {x : Str} {d : D} (C : Clo c f fd) (so : SOk g₀ H c) (r : CVar H c fd x d) (I : Inner H H' c c') : CVar H' c' fd x d :=
  let ⟨a, v, h1, h2, h3⟩ := r; ⟨a, v, h1, cell_keep h2 fun o e => I.k.keep (C.cal x a h1).1 e, I.rep so h3⟩
theorem CVar.at {H : List Addr} {c : Cf} {f : Addr} {fd : FuncData} {x : Str} {d : D} {L : Addr} (C : Clo c f fd) (r : CVar H c fd x d) (hk : fd.scope.kind = .function) (hx : fd.scope.names.lookup x = some .free) : VarAt H (callEnv fd L f) c x d :=
  let ⟨a, v, h1, h2, h3⟩ := r; ⟨v, ⟨hk, .inr ⟨.inr hx, a, h1, (C.cal x a h1).1, h2⟩⟩, h3⟩
theorem Frm.inner {H X : List Addr} {env : Env} {c₀ c : Cf} (F : Frm g₀ H X env c₀ c) : Inner H (X ++ H) c₀ c := ⟨fun b hb => List.mem_append_right _ hb, fun b hb => (List.mem_append.mp hb).elim (fun q => .inr (F.new b q)) .inl, F.k⟩
theorem clo_of {H₀ X : List Addr} {env : Env} {c₀ c : Cf} {f : Addr} {o : Obj} {fd : FuncData} {cd : Addr} {scope : Scope} (F : Frm g₀ H₀ X env c₀ c) (hcM : ∀ x a, env.cells.lookup x = some a → a ∉ MUT) (fM : f ∉ MUT) (hf : c.heap.get? f = some o) (hd : o.data = .func fd) (hcd : fd.code = .ref cd) (hM : cd ∉ MUT) (cr : c.heap.CodeRec fd.code fd.qualname)
    (hcl : fd.closure = clOf env scope.names []) (hfr : scope.names.all (fun x => x.2 != .free || (env.cells.lookup x.1).isSome) = true) : Clo c f fd := by
  have sub : ∀ x a, fd.closure.lookup x = some a → env.cells.lookup x = some a := fun x a h => by
    rw [hcl] at h
    rcases clOf_sub (fun y hy hyf => by
      have := List.all_eq_true.mp hfr y hy
      simp [hyf] at this; simpa using this) h with h | h
    · cases h
    · exact h
  exact ⟨fM, ⟨o, hf, hd⟩, ⟨cd, hcd, hM⟩, cr, fun x a h => ⟨hcM x a (sub x a h), F.cal x a (sub x a h)⟩, fun x y a h1 h2 => (F.apart x a (sub x a h1)).2 y (sub y a h2)⟩
theorem EVs.mv {H : List Addr} {env : Env} {c c' : Cf} {es : List Expr} {ds : List D} (x : EVs prog w g₀ A H env c es ds) (k : Kp c c') : EVs prog w g₀ A H env c' es ds := fun c₂ pos k₂ so => x c₂ pos (k.trans k₂) so
theorem intro_fd {h : Heap} {f : Addr} {fd : FuncData} {goal : Prop} (hf : h.get? f = some { cls := .type "function", data := .func fd }) (k : ∀ fd', fd' = fd → h.get? f = some { cls := .type "function", data := .func fd' } → goal) : goal := k fd rfl hf
theorem cvar_of {H : List Addr} {env : Env} {c : Cf} {fd : FuncData} {x : Str} {d : D} (V : VarAt H env c x d) (hk : env.kindOf x = some .cell) (h : fd.closure.lookup x = env.cells.lookup x) : CVar H c fd x d := by
  obtain ⟨v, ⟨_, lk⟩, r⟩ := V
  rcases lk with ⟨e, _⟩ | ⟨_, a, ha, _, hc⟩
  · rw [hk] at e; cases e
  · exact ⟨a, v, by rw [h, ha], hc, r⟩
theorem cref_of {env : Env} {c : Cf} {fd : FuncData} {x : Str} {f : Addr} (lk : LookAt env c.heap x (.ref f)) (hk : env.kindOf x = some .cell) (h : fd.closure.lookup x = env.cells.lookup x) : CRef c fd x f := by
  obtain ⟨_, lk⟩ := lk
  rcases lk with ⟨e, _⟩ | ⟨_, a, ha, _, hc⟩
  · rw [hk] at e; cases e
  · exact ⟨a, by rw [h, ha], hc⟩
theorem vars_of_look {H X : List Addr} {env : Env} {c₀ c : Cf} {names : List Str} {ds : List D} {vs : List Value} (F : Frm g₀ H X env c₀ c) (r : RepL H c₀ ds vs) (lk : ∀ q ∈ names.zip vs, LookAt env c.heap q.1 q.2) : Vars (X ++ H) env c (names.zip ds) := fun y d' e => by
  obtain ⟨v, hv, hr⟩ := zip_get r e
  exact ⟨v, lk _ hv, F.inner.rep F.so₀ hr⟩
theorem Vars.add {H : List Addr} {env : Env} {c : Cf} {ρ : List (Str × D)} {x : Str} {d : D} (V : Vars H env c ρ) (v : VarAt H env c x d) : Vars H env c ((x, d) :: ρ) := let ⟨u, l, r⟩ := v; V.cons (xs := []) (c' := c) l r
/-- a def's call of itself -/
theorem ev_self {H X : List Addr} {c₀ c : Cf} {fd : FuncData} {L f : Addr} {x : Str} {p pos : Pos} {e : Expr} {es : List Expr} {ds : List D} {d : D} (C : Clo c₀ f fd) (vr : CRef c₀ fd x f) (hk : fd.scope.kind = .function) (hx : fd.scope.names.lookup x = some .free) (F : Frm g₀ H X (callEnv fd L f) c₀ c)
    (h : EVs prog w g₀ A (X ++ H) (callEnv fd L f) c (e :: es) ds)
    (hc : ∀ H' c₁ vs, SOk g₀ H' c₁ → Inner H H' c₀ c₁ → RepL H' c₁ ds vs → wpAny (model prog w) A (call (.ref f) vs) (Got H' c₁ d) NE c₁.s)
    (he : starEach (e :: es) (callEnv fd L f) = (false, eval e (callEnv fd L f)) :: starEach es (callEnv fd L f) := by rfl) (hplain : (backTo pos (starEach es (callEnv fd L f))).any (·.1) = false := by rfl) (hdb : (x == ("__debug__" : Str)) = false := by rfl) (hcd : (x == ("__classdict__" : Str)) = false := by rfl) :
    EV prog w g₀ A (X ++ H) (callEnv fd L f) c (.Call (.Name x p) (e :: es) [] pos) d := fun c' k so => by
  have F' := F.kp k
  have C' : Clo c' f fd := C.keep fun b o hb e => F'.k.keep hb e
  have vr' : CRef c' fd x f := vr.keep C fun b o hb e => F'.k.keep hb e
  obtain ⟨o, hf, hd⟩ := C'.hf
  refine call_cell so (vr'.look C' hk hx) C'.fM hf hd (fun c₂ pos k₂ so₂ => h c₂ pos (k.trans k₂) so₂) (fun c₁ vs k₁ so₁ r₁ => ne_mono (hc (X ++ H) c₁ vs so₁ (F'.kp k₁).inner r₁) fun v s g => Got.after k₁ g) he hplain hdb hcd
noncomputable def DInn (prog : Program) (w : World) (g₀ : Heap) (ds : List Int) (k : Nat) (f : Addr) (fd : FuncData) (m : Nat) : Prop :=
  ∀ A, AOk (m + 1) A → ∀ Lx : Nat, Lx + m ≤ ds.length → ∀ H c, SOk g₀ H c → Clo c f fd → CVar H c fd "digits" (.list (ds.map .int)) → CVar H c fd "n" (.int k) → CRef c fd "inner" f → ∀ vs, RepL H c [.int Lx, .int ((Lx + m : Nat) : Int)] vs →
    wpAny (model prog w) A (call (.ref f) vs) (Got H c (.int (dval ds k Lx m))) NE c.s
set_option pp.deepTerms false in
set_option maxHeartbeats 1000000 in
theorem digits_ok (G : Gd (hd.heap_1 P) g₀) (gn : Gn g₀) (hA : AOk (n + 9) A) {ds : List Int} {k : Nat} (h1 : 1 ≤ ds.length) (h7 : ds.length ≤ 7) (hk : k ≤ 60) (hd0 : ∀ j, 0 ≤ ds.getD j 0 ∧ ds.getD j 0 < 2 ^ k) :
    Fn prog w g₀ A (.ref 56) [.list (ds.map .int), .int k] (.int (dval ds k 0 ds.length)) := by
  refine fn_entry (names := ["digits", "n"]) G hA rfl rfl rfl ⟨_, _, _, _, rfl, rfl, rfl, rfl⟩ rfl ?_ rfl ?_ ?_ ?_ ?_
  · intro vs h
    obtain ⟨a, b, rfl⟩ := len2 h; rfl
  · decide
  · rfl
  · decide
  · intro A' hA H c₀ c X L F V
    refine sx_def gn isTab2 F V rfl rfl rfl fun f cd ctv doc pm c₁ S F₁ V₁ lk nf hf hcr hcdM => ?_
    have fM : f ∉ MUT := fun q => by obtain ⟨o, e⟩ := F.so.low f (F.so.mt f q); rw [nf] at e; cases e
    refine intro_fd hf fun fd hfd hf' => ?_
    have C : Clo c₁ f fd := by subst hfd; exact clo_of F₁ F₁.cM fM hf rfl rfl hcdM hcr rfl rfl
    have vd : CVar (X ++ H) c₁ fd "digits" (.list (ds.map .int)) := by subst hfd; exact cvar_of (V₁ "digits" _ rfl) rfl rfl
    have vn : CVar (X ++ H) c₁ fd "n" (.int k) := by subst hfd; exact cvar_of (V₁ "n" _ rfl) rfl rfl
    have vi : CRef c₁ fd "inner" f := by subst hfd; exact cref_of lk rfl rfl
    have recu : ∀ m, 1 ≤ m → DInn prog w g₀ ds k f fd m := by
      intro m
      induction m using Nat.strongRecOn with
      | ind m ih =>
        subst hfd
        intro hm1 A hA Lx hLx H c so C vd vn vi vs r
        have hlen := r.length
        obtain ⟨o, ho, hd⟩ := C.hf
        obtain ⟨v1, v2, rfl⟩ := len2 hlen
        refine entry_clo (names := ["L", "R"]) G hA so ho hd rfl C.cr rfl rfl (by decide) rfl rfl C.cal C.hap fun A' hA' c' X' L' F lk _ => ?_
        have V := ((vars_of_look F r lk).add ((vd.into C so F.inner).at (C.keep fun b o hb e => F.k.keep hb e) rfl rfl)).add ((vn.into C so F.inner).at (C.keep fun b o hb e => F.k.keep hb e) rfl rfl)
        refine sx_ifr F V (tv_cmp (ev_bin (ev_var F V) ev_int op_add) (ev_var F V) cop_eq) (fun hb c₁ F V => ?_) fun hb c₁ F V => ?_
        · have : m = 1 := by simp at hb; lia
          subst this
          refine sx_ret F (ev_item (k := (Lx : Int)) (ev_var F V) (ev_var F V) (by lia) (by rw [Int.toNat_natCast]; exact lookupN (by lia)) (by lia)) fun v c₂ k₂ F₂ r => ?_
          refine ⟨c₂, rfl, F₂.k, ?_⟩
          have : dval ds k Lx 1 = ds.getD Lx 0 := by simp [dval]
          rw [this]
          exact r.sub fun b hb => List.mem_append_right _ hb
        · have hm2 : 2 ≤ m := by simp at hb; lia
          refine sx_assign (d := .int ((Lx + m / 2 : Nat) : Int)) F V (EV.cast (ev_bin (ev_bin (ev_var F V) (ev_var F V) op_add) ev_int (op_shr (by decide))) ?_) fun c₁ S₁ F V => ?_
          · rw [Int.fdiv_eq_ediv_of_nonneg _ (by decide)]
            congr 1
            simp
            lia
          refine sx_assign (d := .int ((k * (m / 2) : Nat) : Int)) F V (EV.cast (ev_bin (ev_bin (ev_var F V) (ev_var F V) op_sub) (ev_var F V) (op_mul (mul_ok_right (by lia) (by lia)))) ?_) fun c₁ S₁ F V => ?_
          · congr 1
            rw [show ((Lx + m / 2 : Nat) : Int) - Lx = ((m / 2 : Nat) : Int) by lia, Int.mul_comm]
            simp
          have hb2 := dval_bd hd0 (m - m / 2) (Lx + m / 2)
          have hkm : k * (m - m / 2) ≤ 60 * 7 := Nat.mul_le_mul hk (by lia)
          have hkm2 : k * (m / 2) ≤ 60 * 7 := Nat.mul_le_mul hk (by lia)
          have hbits : (Builtin.Int.intBits (dval ds k (Lx + m / 2) (m - m / 2)) : Int) + ((k * (m / 2) : Nat) : Int) ≤ 2 ^ 27 := by
            have := bits_le (natAbs_pow hb2.1 hb2.2)
            lia
          refine sx_ret F (ev_bin (ev_bin (ev_self C vi rfl rfl F (evs_cons (ev_var F V) (evs_cons (ev_var F V) evs_nil)) (d := .int (dval ds k (Lx + m / 2) (m - m / 2))) fun H' c₁ vs so₁ I r => ?_) (ev_var F V) (op_shl (by lia) hbits))
            (ev_self C vi rfl rfl F (evs_cons (ev_var F V) (evs_cons (ev_var F V) evs_nil)) (d := .int (dval ds k Lx (m / 2))) fun H' c₁ vs so₁ I r => ?_) op_add) fun v c₂ k₂ F₂ r => ?_
          · refine ih (m - m / 2) (by lia) (by lia) A' (hA'.le (by lia)) (Lx + m / 2) (by lia) H' c₁ so₁ (C.keep fun b o hb e => I.k.keep hb e) (vd.into C so I) (vn.into C so I) (vi.keep C fun b o hb e => I.k.keep hb e) vs ?_
            rw [show Lx + m / 2 + (m - m / 2) = Lx + m by lia]; exact r
          · exact ih (m / 2) (by lia) (by lia) A' (hA'.le (by lia)) Lx (by lia) H' c₁ so₁ (C.keep fun b o hb e => I.k.keep hb e) (vd.into C so I) (vn.into C so I) (vi.keep C fun b o hb e => I.k.keep hb e) vs r
          · refine ⟨c₂, rfl, F₂.k, ?_⟩
            have e := dval_add ds k (m / 2) Lx (m - m / 2)
            rw [show m / 2 + (m - m / 2) = m by lia] at e
            have e' : dval ds k (Lx + m / 2) (m - m / 2) * 2 ^ ((k * (m / 2) : Nat) : Int).toNat + dval ds k Lx (m / 2) = dval ds k Lx m := by
              rw [e, Int.toNat_natCast, Int.mul_comm, Int.add_comm]
            rw [e'] at r
            exact r.sub fun b hb => List.mem_append_right _ hb
    have fM' := fM
    refine sx_return F₁ (ev_if (tv_list (ev_var F₁ V₁) (by simp; lia)) (fun _ c' kp so => ?_) fun hb => ?_)
    · refine call_cell so (lk.keep fun b o hb e => kp.keep hb e) fM (kp.keep fM hf') rfl (EVs.mv (evs_cons (ev_int (i := 0)) (evs_cons (EV.cast (ev_cb G gnB (evs_cons (ev_var F₁ V₁) evs_nil) (fn_len (by simp; lia))) (d' := .int ((0 + ds.length : Nat) : Int)) (by simp)) evs_nil)) kp) fun c₂ vs k₂ so₂ r => ?_
      have kk := kp.trans k₂
      exact ne_mono (recu ds.length h1 A' (hA.le (by lia)) 0 (by lia) (X ++ H) c₂ so₂ (C.keep fun b o hb e => kk.keep hb e) (vd.kp C F₁.so kk) (vn.kp C F₁.so kk) (vi.keep C fun b o hb e => kk.keep hb e) vs r) fun v s g => Got.after k₂ g
    · exfalso
      have : ds = [] := by simpa using hb
      rw [this] at h1; simp at h1
end
end Mine
end
noncomputable section
open PySem PySem.W PyProof.Rows
namespace Mine
open PySem.Calls

noncomputable def i2d (a : Int) (k : Nat) : List Int := if a = 0 then [] else if a < 2 ^ k then [a] else [a % 2 ^ k, a / 2 ^ k]
theorem xor_low {a : Int} {k : Nat} (h : 0 ≤ a) : Builtin.bitXor a (a / 2 ^ k * 2 ^ k) = a % 2 ^ k := by
  obtain ⟨n, rfl⟩ := Int.eq_ofNat_of_zero_le h
  rw [bitXor_and]
  have e : ((n : Int) / 2 ^ k * 2 ^ k) = ((2 ^ k * (n / 2 ^ k) : Nat) : Int) := by
    rw [Int.mul_comm]; simp
  have hz : n &&& (2 ^ k * (n / 2 ^ k)) = 2 ^ k * (n / 2 ^ k) := by
    apply Nat.eq_of_testBit_eq
    intro i
    rw [Nat.testBit_and, Nat.testBit_two_pow_mul, Nat.testBit_div_two_pow]
    by_cases hi : k ≤ i
    · simp [hi]
    · simp [hi]
  rw [e, bitAnd_nat, hz, ← e]
  have := Int.mul_ediv_add_emod (n : Int) (2 ^ k)
  rw [Int.mul_comm] at this
  lia
theorem bits_pos {a : Int} {k : Nat} (h : 2 ^ k ≤ a) : k + 1 ≤ Builtin.Int.intBits a := by
  have hp : (0 : Int) < 2 ^ k := Int.pow_pos (by decide)
  obtain ⟨n, rfl⟩ := Int.eq_ofNat_of_zero_le (show 0 ≤ a by lia)
  unfold Builtin.Int.intBits
  have h' : 2 ^ k ≤ n := by exact_mod_cast h
  have hn : n ≠ 0 := by have := Nat.two_pow_pos k; lia
  have : ((n : Int) == 0) = false := by simp; exact hn
  rw [this]
  simp only [Bool.false_eq_true, if_false, Int.natAbs_natCast]
  have := (Nat.le_log2 hn).mpr h'
  lia
theorem ndig {a : Int} {k : Nat} (h0 : 0 ≤ a) (hk : 1 ≤ k) (h2 : a < 2 ^ (2 * k)) : ((Builtin.Int.intBits a : Int) + k - 1) / k = ((i2d a k).length : Nat) := by
  unfold i2d
  by_cases ha : a = 0
  · subst ha
    rw [if_pos rfl]
    have : Builtin.Int.intBits 0 = 0 := by decide
    rw [this]
    rw [Int.ediv_eq_zero_of_lt (by lia) (by lia)]; rfl
  · rw [if_neg ha]
    have b1 := bits_pos (a := a) (k := 0) (by simp; lia)
    by_cases h1 : a < 2 ^ k
    · rw [if_pos h1]
      have b2 := bits_le (natAbs_pow h0 h1)
      have : ((Builtin.Int.intBits a : Int) + k - 1) = 1 * (k : Int) + ((Builtin.Int.intBits a : Int) - 1) := by lia
      rw [this, Int.add_comm, Int.add_mul_ediv_right _ _ (by lia), Int.ediv_eq_zero_of_lt (by lia) (by lia)]; rfl
    · rw [if_neg h1]
      have b2 := bits_le (natAbs_pow h0 h2)
      have b3 := bits_pos (a := a) (k := k) (by lia)
      have : ((Builtin.Int.intBits a : Int) + k - 1) = ((Builtin.Int.intBits a : Int) - 1 - k) + 2 * (k : Int) := by lia
      rw [this, Int.add_mul_ediv_right _ _ (by lia), Int.ediv_eq_zero_of_lt (by lia) (by lia)]; rfl

structure OwnL (H : List Addr) (c : Cf) (a : Addr) (l : List Int) : Prop where
  mem : a ∈ H
  at' : ∃ vs n, c.heap.get? a = some { cls := .type "list", data := .seq vs.toArray n } ∧ IntsAre vs l
theorem seq_noCode {h : Heap} {a : Addr} {vs : Array Value} {n : Nat} (x : h.get? a = some { cls := .type "list", data := .seq vs n }) : ∀ q, ¬ h.CodeRec (.ref a) q := fun q zz => by
  obtain ⟨c, o, us, t, e, e1, e2, e3⟩ := zz
  cases e
  rw [x] at e1; cases e1
  cases e2
section
variable {prog : Program} {w : World} {g₀ : Heap} {A : Around} {P : Params} {n : Nat}
theorem frm_kxD {H₀ X : List Addr} {env : Env} {c₀ c c' : Cf} {a : Addr} (F : Frm g₀ H₀ X env c₀ c) (hX : a ∈ X) (hL : a ≠ env.locals) (hc : ∀ y, env.cells.lookup y ≠ some a) (k : Kx [a] c c') :
    Frm g₀ H₀ X env c₀ c' ∧ (∀ {ρ}, Vars (X ++ H₀) env c ρ → Vars (X ++ H₀) env c' ρ) ∧ ∀ {x v}, LookAt env c.heap x v → LookAt env c'.heap x v := by
  have kp : ∀ {b o}, b ∉ MUT → b ≠ a → c.heap.get? b = some o → c'.heap.get? b = some o := fun hb ha e => k.kp _ _ hb (fun q => ha (List.mem_singleton.mp q)) e
  have lk : ∀ {x v}, LookAt env c.heap x v → LookAt env c'.heap x v := fun {x v} l => by
    obtain ⟨k1, l⟩ := l
    refine ⟨k1, ?_⟩
    rcases l with ⟨e, hM, m', hm, hx⟩ | ⟨e, b, hb, hM, hc'⟩
    · exact .inl ⟨e, hM, m', ns_keep hm fun o e => kp hM (Ne.symm hL) e, hx⟩
    · exact .inr ⟨e, b, hb, hM, cell_keep hc' fun o e => kp hM (fun q => hc x (q ▸ hb)) e⟩
  have hs : ∀ b ∈ [a], b ∈ X ++ H₀ := fun b hb => by rw [List.mem_singleton.mp hb]; exact List.mem_append_left _ hX
  refine ⟨F.kx (k.mono fun b hb => by rw [List.mem_singleton.mp hb]; exact hX) ?_ fun y b hy hb => ?_, fun {ρ} V y d e => ?_, lk⟩
  · obtain ⟨m, hm⟩ := F.ns; exact ⟨m, ns_keep hm fun o e => kp (F.nm _ F.L) (Ne.symm hL) e⟩
  · obtain ⟨a', ov, h1, h2, h3⟩ := F.own y hy
    rw [hb] at h1; cases h1
    exact ⟨ov, cell_keep h3 fun o e => kp (F.nm _ h2) (fun q => hc y (q ▸ hb)) e⟩
  · obtain ⟨v, l, r⟩ := V y d e
    exact ⟨v, lk l, r.kx F.so k hs⟩
theorem ev_len_own {K : Frag} {H₀ X : List Addr} {env : Env} {c₀ c : Cf} {x nn : Str} {D : Addr} {l : List Mine.D} {p pn pos : Pos} (G : Gd K g₀) (nm : GName K env nn (.builtin "len")) (F : Frm g₀ H₀ X env c₀ c) (O : Own H₀ X env c x D l) (hl : l.length < 1000)
    (hdbg : (x == ("__debug__" : Str)) = false := by rfl) (hcd : (x == ("__classdict__" : Str)) = false := by rfl) : EV prog w g₀ A (X ++ H₀) env c (.Call (.Name nn pn) [.Name x p] [] pos) (.int l.length) := fun c' k so => by
  have O' := O.kp F k
  refine Call_Name rfl (name_g G so nm ?_)
  refine PyProof.Rows.callWith_builtin1 (wpAny_items_cons (wpAny_Name (loadName_at O'.look (wpAny_items_nil ?_) hcd) hdbg) rfl) rfl rfl
  obtain ⟨vs, n, e, r⟩ := O'.at'
  refine call_len_list (items := vs.toArray) ⟨_, e, rfl, n, rfl⟩ (by simp [r.length]; lia) ?_
  have : (vs.toArray.size : Int) = l.length := by simp [r.length]
  rw [this]
  exact Got.toks (by lia) Rep.int
theorem sx_ret_own {H₀ X : List Addr} {env : Env} {c₀ c : Cf} {x : Str} {D : Addr} {l : List Mine.D} {p pos : Pos} {rest : List Stmt} (F : Frm g₀ H₀ X env c₀ c) (O : Own H₀ X env c x D l)
    (hdbg : (x == ("__debug__" : Str)) = false := by rfl) (hcd : (x == ("__classdict__" : Str)) = false := by rfl) : SX prog w A env (.Return (some (.Name x p)) pos :: rest) (Ret H₀ c₀ (.list l)) c := by
  refine sx_cons (wpAny_Return_some (wpAny_Name (loadName_at O.look ?_ hcd) hdbg))
  obtain ⟨vs, n, e, r⟩ := O.at'
  exact ⟨c, rfl, F.k, Rep.list (n := n) (fun q => by obtain ⟨o, e⟩ := F.so₀.low D q; rw [F.new D O.mem] at e; cases e) e (r.sub fun b hb => List.mem_append_right _ hb)⟩
theorem clo_nc {env : Env} {fd : FuncData} {scope : Scope} {D : Addr} (hcl : fd.closure = clOf env scope.names []) (hfr : scope.names.all (fun x => x.2 != .free || (env.cells.lookup x.1).isSome) = true) (hn : ∀ y, env.cells.lookup y ≠ some D) : ∀ y, fd.closure.lookup y ≠ some D := fun y q => by
  rw [hcl] at q
  rcases clOf_sub (fun z hz hzf => by
    have := List.all_eq_true.mp hfr z hz
    simp [hzf] at this; simpa using this) q with h | h
  · cases h
  · exact hn y h
theorem Vars.sub {H H' : List Addr} {env : Env} {c : Cf} {ρ : List (Str × D)} (V : Vars H env c ρ) (hs : ∀ b ∈ H', b ∈ H) : Vars H' env c ρ := fun x d e => let ⟨v, l, r⟩ := V x d e; ⟨v, l, r.sub hs⟩
theorem CVar.sub {H H' : List Addr} {c : Cf} {fd : FuncData} {x : Str} {d : D} (r : CVar H c fd x d) (hs : ∀ b ∈ H', b ∈ H) : CVar H' c fd x d := let ⟨a, v, h1, h2, h3⟩ := r; ⟨a, v, h1, h2, h3.sub hs⟩
/-- what the nested def stands on -/
structure IFacts (c : Cf) (k : Nat) (f : Addr) (fd : FuncData) (D : Addr) : Prop where
  C : Clo c f fd
  vn : CVar [] c fd "n" (.int k)
  vi : CRef c fd "inner" f
  va : CRef c fd "a_digits" D
  nD : ∀ y, fd.closure.lookup y ≠ some D
  DM : D ∉ MUT
theorem IFacts.but {c c' : Cf} {k : Nat} {f : Addr} {fd : FuncData} {D : Addr} {vs : Array Value} {m : Nat} (x : IFacts c k f fd D) (hD : c.heap.get? D = some { cls := .type "list", data := .seq vs m }) (hk : ∀ b o, b ∉ MUT → b ≠ D → c.heap.get? b = some o → c'.heap.get? b = some o) : IFacts c' k f fd D := by
  have C := x.C
  have cl : ∀ {y a}, fd.closure.lookup y = some a → a ∉ MUT ∧ a ≠ D := fun {y a} h => ⟨(C.cal y a h).1, fun q => x.nD y (q ▸ h)⟩
  refine ⟨⟨C.fM, ?_, C.cd, ?_, fun y b h => ?_, C.hap⟩, ?_, ?_, ?_, x.nD, x.DM⟩
  · obtain ⟨o, h1, h2⟩ := C.hf
    refine ⟨o, hk f o C.fM (fun q => ?_) h1, h2⟩
    rw [q, hD] at h1; cases h1; cases h2
  · obtain ⟨a, h3, h4⟩ := C.cd
    have hne : a ≠ D := fun q => seq_noCode hD fd.qualname (by have := C.cr; rw [h3, q] at this; exact this)
    obtain ⟨c1, oc, us, t, e1, e2, e3, e4⟩ := C.cr
    rw [h3] at e1; cases e1
    exact ⟨a, oc, us, t, h3, hk a oc h4 hne e2, e3, e4⟩
  · obtain ⟨h5, o', h6⟩ := C.cal y b h
    exact ⟨h5, o', hk b o' h5 (cl h).2 h6⟩
  · obtain ⟨a, v, h1, h2, h3⟩ := x.vn
    obtain ⟨t, rfl⟩ := h3.int_inv
    exact ⟨a, _, h1, cell_keep h2 fun o e => hk a o (cl h1).1 (cl h1).2 e, Rep.int⟩
  · obtain ⟨a, h1, h2⟩ := x.vi
    exact ⟨a, h1, cell_keep h2 fun o e => hk a o (cl h1).1 (cl h1).2 e⟩
  · obtain ⟨a, h1, h2⟩ := x.va
    exact ⟨a, h1, cell_keep h2 fun o e => hk a o (cl h1).1 (cl h1).2 e⟩
theorem hide_keep {c₀ c : Cf} {D : Addr} (k : Kp ⟨{ c₀.s with heap := hideAll c₀.heap [D] }, c₀.τ⟩ c) : ∀ b o, b ∉ MUT → b ≠ D → c₀.heap.get? b = some o → c.heap.get? b = some o := fun b o hb hd e => k.keep hb (hideAll_get _ e (fun q => hd (List.mem_singleton.mp q)))
/-- what a run of the nested def leaves -/
noncomputable def ILeaf (prog : Program) (w : World) (g₀ : Heap) (k : Nat) (f : Addr) (fd : FuncData) (D : Addr) : Prop :=
  ∀ A, AOk 1 A → ∀ H c (l : List Int) (j : Nat) (x : Int), j < l.length → l.length ≤ 7 → SOk g₀ H c → IFacts c k f fd D → g₀.get? D = none → OwnL H c D l → ∀ vs, RepL H c [.int x, .int j, .int ((j + 1 : Nat) : Int)] vs →
    wpAny (model prog w) A (call (.ref f) vs) (fun v s' => v = .none ∧ ∃ c', c'.s = s' ∧ Kx [D] c c' ∧ OwnL H c' D (l.set j x)) NE c.s
noncomputable def IPair (prog : Program) (w : World) (g₀ : Heap) (k : Nat) (f : Addr) (fd : FuncData) (D : Addr) : Prop :=
  ∀ A, AOk 2 A → ∀ H c (x : Int), 0 ≤ x → x < 2 ^ (2 * k) → SOk g₀ H c → IFacts c k f fd D → g₀.get? D = none → OwnL H c D [0, 0] → ∀ vs, RepL H c [.int x, .int 0, .int 2] vs →
    wpAny (model prog w) A (call (.ref f) vs) (fun v s' => v = .none ∧ ∃ c', c'.s = s' ∧ Kx [D] c c' ∧ OwnL H c' D [x % 2 ^ k, x / 2 ^ k]) NE c.s
set_option pp.deepTerms false in
set_option maxHeartbeats 1000000 in
theorem i2d_ok (G : Gd (hd.heap_1 P) g₀) (gn : Gn g₀) (hA : AOk (n + 5) A) {a : Int} {k : Nat} (h0 : 0 ≤ a) (hk1 : 1 ≤ k) (hk : k ≤ 60) (h2 : a < 2 ^ (2 * k)) :
    Fn prog w g₀ A (.ref 49) [.int a, .int k] (.list ((i2d a k).map .int)) := by
  refine fn_entry (names := ["a", "n"]) G hA rfl rfl rfl ⟨_, _, _, _, rfl, rfl, rfl, rfl⟩ rfl ?_ rfl ?_ ?_ ?_ ?_
  · intro vs h
    obtain ⟨a, b, rfl⟩ := len2 h; rfl
  · decide
  · rfl
  · decide
  · intro A' hA H c₀ c X L F V
    refine sx_own_rep (k := (i2d a k).length) F V ev_int (EV.cast (ev_bin (ev_bin (ev_bin (ev_bitlen (ev_var F V)) (ev_var F V) op_add) ev_int op_sub) (ev_var F V) (op_fdivp (by lia) (by lia))) (by rw [ndig h0 hk1 h2])) (by unfold i2d; split; simp; split <;> simp) fun Da c₁ F V O => ?_
    refine sx_def gn isTab1 F V rfl rfl rfl fun f cd ctv doc pm c₂ S F₁ V₁ lk nf hf hcr hcdM => ?_
    have O₁ := O.stp F S (by decide)
    have fM : f ∉ MUT := fun q => by obtain ⟨o, e⟩ := F.so.low f (F.so.mt f q); rw [nf] at e; cases e
    have DM := F₁.nm Da O₁.mem
    have Dg := F₁.ng Da O₁.mem
    refine intro_fd hf fun fd hfd hf' => ?_
    have I₂ : IFacts c₂ k f fd Da := by
      subst hfd
      have C := clo_of F₁ F₁.cM fM hf rfl rfl hcdM hcr rfl rfl
      exact ⟨C, CVar.sub (cvar_of (V₁ "n" _ rfl) rfl rfl) (fun _ q => by cases q), cref_of lk rfl rfl, cref_of O₁.look rfl rfl, clo_nc rfl rfl O₁.nc, DM⟩
    have leaf : ILeaf prog w g₀ k f fd Da := by
      subst hfd
      intro A hA H c l j x hj hl so I Dg O vs r
      obtain ⟨o, ho, hd⟩ := I.C.hf
      have hlen := r.length
      obtain ⟨v1, v2, v3, rfl⟩ := len3 hlen
      refine entry_clo (names := ["x", "L", "R"]) G hA so ho hd rfl I.C.cr rfl rfl (by decide) rfl rfl I.C.cal I.C.hap fun A' hA' c' X' L' F lk _ => ?_
      have V := vars_of_look F r lk
      obtain ⟨us, m, he, hi⟩ := O.at'
      have I' := I.but he (c' := c') fun b o hb _ e => F.k.keep hb e
      have alD : Da ≠ (callEnv _ L' f).locals := fun q => by rw [q, F.new _ F.L] at he; cases he
      have sb : ∀ b ∈ (Da :: X') ++ H.filter (· != Da), b ∈ X' ++ H := fun b hb => by
        rcases List.mem_append.mp hb with q | q
        · rcases List.mem_cons.mp q with rfl | q
          · exact List.mem_append_right _ O.mem
          · exact List.mem_append_left _ q
        · exact List.mem_append_right _ (List.mem_filter.mp q).1
      have Fh := F.hide O.mem I.DM Dg
      have Oh : Own (H.filter (· != Da)) (Da :: X') (callEnv _ L' f) c' "a_digits" Da (l.map .int) := ⟨I'.va.look I'.C rfl rfl, List.mem_cons_self, alD, I.nD, us, m, F.k.keep I.DM he, rep_intsAre hi⟩
      refine sx_if Fh (V.sub sb) (tv_cmp (ev_bin (ev_var Fh (V.sub sb)) ev_int op_add) (ev_var Fh (V.sub sb)) cop_eq) (fun hb c₁ k₁ F₁ V₁ => ?_) fun hb => ?_
      · refine sx_setitem (j := j) F₁ V₁ (Oh.kp Fh k₁) (ev_var F₁ V₁) (ev_var F₁ V₁) (by simpa using hj) (by simp; lia) fun c₂ F₂ V₂ O₂ => ?_
        obtain ⟨ws, m', he', hr'⟩ := O₂.at'
        refine sx_retn ⟨rfl, c₂, rfl, F₂.k.unhide ⟨_, he'⟩ I.DM (seq_noCode he'), O.mem, ws, m', he', ?_⟩
        rw [← List.map_set] at hr'
        exact intsAre_of hr'
      · simp at hb
    have pair : IPair prog w g₀ k f fd Da := by
      subst hfd
      intro A hA H c x hx0 hx so I Dg O vs r
      obtain ⟨o, ho, hd⟩ := I.C.hf
      have hlen := r.length
      obtain ⟨v1, v2, v3, rfl⟩ := len3 hlen
      refine entry_clo (names := ["x", "L", "R"]) G hA so ho hd rfl I.C.cr rfl rfl (by decide) rfl rfl I.C.cal I.C.hap fun A' hA' c' X' L' F lk _ => ?_
      have V := vars_of_look F r lk
      obtain ⟨us, m, he, hi⟩ := O.at'
      have I' := I.but he (c' := c') fun b o hb _ e => F.k.keep hb e
      have alD : Da ≠ (callEnv _ L' f).locals := fun q => by rw [q, F.new _ F.L] at he; cases he
      have sb : ∀ b ∈ (Da :: X') ++ H.filter (· != Da), b ∈ X' ++ H := fun b hb => by
        rcases List.mem_append.mp hb with q | q
        · rcases List.mem_cons.mp q with rfl | q
          · exact List.mem_append_right _ O.mem
          · exact List.mem_append_left _ q
        · exact List.mem_append_right _ (List.mem_filter.mp q).1
      have Fh := F.hide O.mem I.DM Dg
      have hp : (0 : Int) < 2 ^ k := Int.pow_pos (by decide)
      have hkk : (2 : Int) ^ (2 * k) = 2 ^ k * 2 ^ k := by rw [Nat.two_mul, Int.pow_add]
      have hup : 0 ≤ x / 2 ^ k ∧ x / 2 ^ k < 2 ^ k := ⟨Int.ediv_nonneg hx0 (by lia), Int.ediv_lt_of_lt_mul hp (by rw [← hkk]; exact hx)⟩
      have Vh := (V.sub sb).add (by obtain ⟨v, l, h⟩ := I'.vn.at I'.C rfl rfl; obtain ⟨t, rfl⟩ := h.int_inv; exact ⟨_, l, Rep.int⟩)
      have Oh : Own (H.filter (· != Da)) (Da :: X') (callEnv _ L' f) c' "a_digits" Da ([0, 0].map .int) := ⟨I'.va.look I'.C rfl rfl, List.mem_cons_self, alD, I.nD, us, m, F.k.keep I.DM he, rep_intsAre hi⟩
      refine sx_if Fh Vh (tv_cmp (ev_bin (ev_var Fh Vh) ev_int op_add) (ev_var Fh Vh) cop_eq) (fun hb => ?_) fun _ c₁ k₁ F V => sx_nil ?_
      · simp at hb
      have O := Oh.kp Fh k₁
      refine sx_assign (d := .int 1) F V (EV.cast (ev_bin (ev_bin (ev_var F V) (ev_var F V) op_add) ev_int (op_shr (by decide))) (by rw [show ((0 : Int) + 2).fdiv (2 ^ Int.toNat 1) = 1 by decide])) fun c₂ S₁ F₁ V₁ => ?_
      have O := O.stp F S₁ (by decide)
      refine sx_assign (d := .int k) F₁ V₁ (EV.cast (ev_bin (ev_bin (ev_var F₁ V₁) (ev_var F₁ V₁) op_sub) (ev_var F₁ V₁) (op_mul (mul_ok_left (by decide) (by decide)))) (by simp)) fun c₃ S₂ F₂ V₂ => ?_
      have O := O.stp F₁ S₂ (by decide)
      refine sx_assign (d := .int (x / 2 ^ k)) F₂ V₂ (EV.cast (ev_bin (ev_var F₂ V₂) (ev_var F₂ V₂) (op_shr (by lia))) (by rw [Int.toNat_natCast, Int.fdiv_eq_ediv_of_nonneg _ (by lia)])) fun c₄ S₃ F₃ V₃ => ?_
      have O := O.stp F₂ S₃ (by decide)
      refine sx_assign (d := .int (x % 2 ^ k)) F₃ V₃ (EV.cast (ev_bin (ev_var F₃ V₃) (ev_bin (ev_var F₃ V₃) (ev_var F₃ V₃) (op_shl (by lia) ?_)) op_xor) (by rw [Int.toNat_natCast, xor_low hx0])) fun c₅ S₄ F₄ V₄ => ?_
      · have := bits_le (natAbs_pow hup.1 hup.2); lia
      have O := O.stp F₃ S₄ (by decide)
      have mD : Da ∈ (Da :: X') ++ H.filter (· != Da) := List.mem_cons_self
      -- the lower half
      have I₁ := I.but he (hide_keep F₄.k)
      obtain ⟨o₁, ho₁, hd₁⟩ := I₁.C.hf
      refine sx_cons (wpAny_Expr (call_cell F₄.so (I₁.vi.look I₁.C rfl rfl) I₁.C.fM ho₁ hd₁ (evs_cons (ev_var F₄ V₄) (evs_cons (ev_var F₄ V₄) (evs_cons (ev_var F₄ V₄) evs_nil))) fun c₆ ws k₆ so₆ r₆ => ?_) rfl rfl)
      have I₆ := I.but he (hide_keep (F₄.kp k₆).k)
      obtain ⟨ys, m₆, he₆, hr₆⟩ := (O.kp F₄ k₆).at'
      refine ne_mono (leaf A' hA' _ c₆ [0, 0] 0 (x % 2 ^ k) (by decide) (by decide) so₆ I₆ Dg ⟨mD, ys, m₆, he₆, intsAre_of hr₆⟩ ws r₆) fun v s' zz => ?_
      obtain ⟨hv, c₇, e₇, k₇, O₇⟩ := zz
      subst hv; subst e₇
      obtain ⟨F₇, Vf, lk₇⟩ := frm_kxD (F₄.kp k₆) List.mem_cons_self alD I.nD k₇
      have V₇ := Vf (V₄.kp F₄.so k₆)
      -- the upper half
      have I₇ := I.but he (hide_keep F₇.k)
      obtain ⟨o₇, ho₇, hd₇⟩ := I₇.C.hf
      refine sx_cons (wpAny_Expr (call_cell F₇.so (I₇.vi.look I₇.C rfl rfl) I₇.C.fM ho₇ hd₇ (evs_cons (ev_var F₇ V₇) (evs_cons (ev_var F₇ V₇) (evs_cons (ev_var F₇ V₇) evs_nil))) fun c₈ ws k₈ so₈ r₈ => ?_) rfl rfl)
      have I₈ := I.but he (hide_keep (F₇.kp k₈).k)
      obtain ⟨ys, m₈, he₈, hr₈⟩ := O₇.at'
      refine ne_mono (leaf A' hA' _ c₈ [x % 2 ^ k, 0] 1 (x / 2 ^ k) (by simp) (by simp) so₈ I₈ Dg ⟨mD, ys, m₈, k₈.keep I.DM he₈, hr₈⟩ ws r₈) fun v s' zz => ?_
      obtain ⟨hv, c₉, e₉, k₉, O₉⟩ := zz
      subst hv; subst e₉
      obtain ⟨F₉, _, _⟩ := frm_kxD (F₇.kp k₈) List.mem_cons_self alD I.nD k₉
      obtain ⟨zs, m₉, he₉, hr₉⟩ := O₉.at'
      exact sx_nil ⟨rfl, c₉, rfl, F₉.k.unhide ⟨_, he₉⟩ I.DM (seq_noCode he₉), ‹OwnL H c Da [0, 0]›.mem, zs, m₉, he₉, hr₉⟩
    obtain ⟨vs₂, m₂, he₂, hr₂⟩ := O₁.at'
    have mDX : Da ∈ (Da :: X) ++ H := List.mem_cons_self
    have fin : ∀ {c' c₃ : Cf} {rest : List Stmt} {p q : Pos}, Kp c₂ c' → Kx [Da] c' c₃ → OwnL ((Da :: X) ++ H) c₃ Da (i2d a k) → SX prog w A' (callEnvC _ L 49) (.Return (some (.Name "a_digits" p)) q :: rest) (Ret H c₀ (.list ((i2d a k).map .int))) c₃ := fun {c' c₃ rest p q} kp k₃ O₃ => by
      obtain ⟨F₃, _, lk₃⟩ := frm_kxD (F₁.kp kp) O₁.mem O₁.nl O₁.nc k₃
      obtain ⟨ws, m₃, he₃, hr₃⟩ := O₃.at'
      exact sx_ret_own F₃ ⟨lk₃ (O₁.kp F₁ kp).look, O₁.mem, O₁.nl, O₁.nc, ws, m₃, he₃, rep_intsAre hr₃⟩
    refine sx_if F₁ V₁ (tv_int (ev_var F₁ V₁)) (fun hb c' kp F' V' => ?_) fun hb c' kp F' V' => ?_
    · have ha : a ≠ 0 := by simpa using hb
      have I' := I₂.but he₂ (c' := c') fun b o hb _ e => kp.keep hb e
      obtain ⟨o₁, ho₁, hd₁⟩ := I'.C.hf
      have O' := O₁.kp F₁ kp
      refine sx_cons (wpAny_Expr (call_cell F'.so (lk.keep fun b o hb e => kp.keep hb e) fM ho₁ hd₁ (evs_cons (ev_var F' V') (evs_cons ev_int (evs_cons (EV.cast (ev_len_own G gnB F' O' (by simp [i2d]; split; simp; split <;> simp)) (d' := .int ((i2d a k).length : Int)) (by simp)) evs_nil))) fun c₆ ws k₆ so₆ r₆ => ?_) rfl rfl)
      have I₆ := I'.but (kp.keep DM he₂) (c' := c₆) fun b o hb _ e => k₆.keep hb e
      have he₆ := k₆.keep DM (kp.keep DM he₂)
      by_cases h1 : a < 2 ^ k
      · have e1 : i2d a k = [a] := by unfold i2d; rw [if_neg ha, if_pos h1]
        rw [e1] at r₆ hr₂
        refine ne_mono (leaf A' (hA.le (by lia)) _ c₆ [0] 0 a (by decide) (by decide) so₆ I₆ Dg ⟨mDX, vs₂, m₂, he₆, intsAre_of (ns := [0]) hr₂⟩ ws r₆) fun v s' zz => ?_
        obtain ⟨hv, c₇, e₇, k₇, O₇⟩ := zz
        subst hv; subst e₇
        exact sx_nil (fin (kp.trans k₆) k₇ (by rw [e1]; exact O₇))
      · have e1 : i2d a k = [a % 2 ^ k, a / 2 ^ k] := by unfold i2d; rw [if_neg ha, if_neg h1]
        rw [e1] at r₆ hr₂
        refine ne_mono (pair A' (hA.le (by lia)) _ c₆ a h0 h2 so₆ I₆ Dg ⟨mDX, vs₂, m₂, he₆, intsAre_of (ns := [0, 0]) hr₂⟩ ws r₆) fun v s' zz => ?_
        obtain ⟨hv, c₇, e₇, k₇, O₇⟩ := zz
        subst hv; subst e₇
        exact sx_nil (fin (kp.trans k₆) k₇ (by rw [e1]; exact O₇))
    · have ha : a = 0 := by simpa using hb
      have e1 : i2d a k = [] := by unfold i2d; rw [if_pos ha]
      refine sx_nil (fin kp (Kx.refl _ _) ?_)
      rw [e1] at hr₂ ⊢
      exact ⟨mDX, vs₂, m₂, kp.keep DM he₂, intsAre_of (ns := []) hr₂⟩
end
end Mine
end
noncomputable section
open PySem PySem.W PyProof.Rows
namespace Mine
open PySem.Calls

noncomputable def behindOf (ts : List Int) : List Int := (ordOf ts).map fun i => (turned ts 1).getD i 0
noncomputable def prevAt (n s : Nat) : Nat := if s = 0 then n - 1 else s - 1
noncomputable def fallsL (ts : List Int) : List Nat := (List.range ts.length).filter fun s => decide ((behindOf ts).getD s 0 < (behindOf ts).getD (prevAt ts.length s) 0)
noncomputable def sameL (ts : List Int) : List (Nat × Nat) := ((ordOf ts).zip ((ordOf ts).drop 1)).filter fun q => decide (ts.getD q.1 0 = ts.getD q.2 0)
noncomputable def keepsOf (ts : List Int) : Bool := decide (sameL ts = []) && decide ((fallsL ts).length = 1)
theorem ord_length (ts : List Int) : (ordOf ts).length = ts.length := by rw [(ord_perm ts).length_eq, List.length_range]
theorem ord_lt {ts : List Int} {i : Nat} (h : i ∈ ordOf ts) : i < ts.length := List.mem_range.mp ((ord_perm ts).mem_iff.mp h)
theorem lookupF {l : List Int} {i : Nat} (h : i < l.length) : (l.map FL)[i]? = some (FL (l.getD i 0)) := by
  simp [List.getElem?_eq_getElem h]
theorem turned_getD {ts : List Int} {i : Nat} (hi : i < ts.length) : (turned ts 1).getD i 0 = ts.getD ((i + 1) % ts.length) 0 := by
  rcases Nat.lt_or_ge 1 ts.length with h | h
  · rw [List.getD_eq_getElem?_getD, turned_at h hi, Nat.add_comm, List.getD_eq_getElem?_getD]
  · obtain ⟨a, rfl⟩ := len1 (Nat.le_antisymm h (Nat.zero_lt_of_lt hi))
    obtain rfl : i = 0 := Nat.lt_one_iff.mp hi
    simp [turned]

section
variable {prog : Program} {w : World} {g₀ : Heap} {A : Around} {P : Params} {n : Nat}
theorem cop_nil {l : List D} (hu : A.units < cLine) : COp prog w g₀ A .Eq (.list l) (.list []) l.isEmpty := by
  cases l with
  | nil =>
    have := cop_eql (prog := prog) (w := w) (g₀ := g₀) (A := A) (l := []) (l' := []) (e := fun _ => true) hu rfl (fun j d d' e1 _ => by simp at e1)
    simpa using this
  | cons d ds => exact cop_eql_len hu (by simp)
set_option pp.deepTerms false in
set_option maxHeartbeats 1000000 in
theorem keeps_ok (G : Gd (hd.heap_1 P) g₀) (hA : AOk (n + 2) A) {ts : List Int} (h2 : 2 ≤ ts.length) (h7 : ts.length ≤ 7) :
    Fn prog w g₀ A (.ref 121) [.list (ts.map FL)] (.bool (keepsOf ts)) := by
  refine fn_entry (names := ["told"]) G hA rfl rfl rfl ⟨_, _, _, _, rfl, rfl, rfl, rfl⟩ rfl ?_ rfl ?_ ?_ ?_ ?_
  · intro vs h
    obtain ⟨a, rfl⟩ := len1 h; rfl
  · decide
  · rfl
  · decide
  · intro A' hA H c₀ c X L F V
    have hol := ord_length ts
    refine sx_assign F V (ev_cb G gnB (evs_cons (EV.cast (ev_map (f := fun q : Int × Nat => .tup [FL q.1, .int q.2]) [] V F.so (.two _ _ _ _ _ _) hA.h (ia_enum (g := FL) hA.h G gnB (ev_var F V)) ?_ (fun _ => rfl) fun q hq H' C c₂ so V => ?_) (d' := .list ((List.range ts.length).map (hp ts))) ?_) evs_nil) (fn_sorted_tup h2 (by lia))) fun c₁ S₁ F V => ?_
    · first | exact lm (Nat.le_trans (by assumption) (by decide)) | exact lr (Nat.le_trans (by assumption) (by decide)) | exact lm (lr (Nat.le_trans (by assumption) (by decide))) | exact lm (lm (lr (Nat.le_trans (by assumption) (by decide)))) | exact lml (Nat.lt_of_le_of_lt (by assumption) (by decide)) | exact Nat.lt_of_le_of_lt (lm (Nat.le_refl _)) (Nat.lt_of_le_of_lt (by assumption) (by decide)) | (rw [sizeLine_eq]; simp; lia)
    · exact ev_tuple (evs_cons (ev_v V so) (evs_cons (ev_v V so) evs_nil)) (by first | exact Nat.le_of_ble_eq_true rfl | (rw [sizeLine_eq]; simp))
    · congr 1
      apply List.ext_getElem?
      intro i
      by_cases hi : i < ts.length
      · rw [List.getElem?_map, List.getElem?_zipIdx, List.getElem?_map, List.getElem?_range hi, List.getElem?_eq_getElem hi]
        simp [hp, List.getElem?_eq_getElem hi]
      · rw [List.getElem?_eq_none (by first | exact lm (Nat.le_trans (by assumption) (by decide)) | exact lr (Nat.le_trans (by assumption) (by decide)) | exact lm (lr (Nat.le_trans (by assumption) (by decide))) | exact lm (lm (lr (Nat.le_trans (by assumption) (by decide)))) | exact lml (Nat.lt_of_le_of_lt (by assumption) (by decide)) | exact Nat.lt_of_le_of_lt (lm (Nat.le_refl _)) (Nat.lt_of_le_of_lt (by assumption) (by decide)) | (simp; lia)), List.getElem?_eq_none (by first | exact lm (Nat.le_trans (by assumption) (by decide)) | exact lr (Nat.le_trans (by assumption) (by decide)) | exact lm (lr (Nat.le_trans (by assumption) (by decide))) | exact lm (lm (lr (Nat.le_trans (by assumption) (by decide)))) | exact lml (Nat.lt_of_le_of_lt (by assumption) (by decide)) | exact Nat.lt_of_le_of_lt (lm (Nat.le_refl _)) (Nat.lt_of_le_of_lt (by assumption) (by decide)) | (simp; lia))]
    refine sx_assign (d := .bool (decide (sameL ts = []))) F V (EV.cast (ev_cmp (ev_compL (xs := (ordOf ts).zip ((ordOf ts).drop 1)) (p := fun q => decide (ts.getD q.1 0 = ts.getD q.2 0)) (f := fun q => hp ts q.1) [] V F.so (.two _ _ _ _ _ _) hA.h
      (ia_zip (g := hp ts) (g' := hp ts) hA.h G gnB (ev_var F V) (EV.cast (ev_from (k := 1) (ev_var F V) ev_int (by decide) ?_) ?_)) ?_ (fun _ => rfl) fun q hq H' C c₂ so V => ⟨?_, fun _ => ev_v V so⟩) (ev_list evs_nil (Nat.zero_le _)) (cop_nil hA.un)) ?_) fun c₁ S₁ F V => ?_
    · first | exact lm (Nat.le_trans (by assumption) (by decide)) | exact lr (Nat.le_trans (by assumption) (by decide)) | exact lm (lr (Nat.le_trans (by assumption) (by decide))) | exact lm (lm (lr (Nat.le_trans (by assumption) (by decide)))) | exact lml (Nat.lt_of_le_of_lt (by assumption) (by decide)) | exact Nat.lt_of_le_of_lt (lm (Nat.le_refl _)) (Nat.lt_of_le_of_lt (by assumption) (by decide)) | (rw [sizeLine_eq]; simp; lia)
    · simp
    · first | exact lm (Nat.le_trans (by assumption) (by decide)) | exact lr (Nat.le_trans (by assumption) (by decide)) | exact lm (lr (Nat.le_trans (by assumption) (by decide))) | exact lm (lm (lr (Nat.le_trans (by assumption) (by decide)))) | exact lml (Nat.lt_of_le_of_lt (by assumption) (by decide)) | exact Nat.lt_of_le_of_lt (lm (Nat.le_refl _)) (Nat.lt_of_le_of_lt (by assumption) (by decide)) | (rw [sizeLine_eq]; simp; lia)
    · show TV prog w g₀ A' H' _ c₂ _ _
      exact tv_cmp (ev_titem (k := 0) (l := [FL (ts.getD q.1 0), .int (q.1 : Nat)]) (ev_v V so) ev_int (by decide) rfl (by decide)) (ev_titem (k := 0) (l := [FL (ts.getD q.2 0), .int (q.2 : Nat)]) (ev_v V so) ev_int (by decide) rfl (by decide)) copL_eq
    · unfold sameL
      cases e : ((ordOf ts).zip ((ordOf ts).drop 1)).filter fun q => decide (ts.getD q.1 0 = ts.getD q.2 0) <;> simp
    refine sx_assign (d := .list ((behindOf ts).map FL)) F V (ev_mapC FL (fun i : Nat => (turned ts 1).getD i 0) ["told"] V F.so (.two _ _ _ _ _ _) hA.h (ia_pairs (zs := ordOf ts) (g1 := fun i => FL (ts.getD i 0)) (g2 := fun i => .int (i : Nat)) hA.h (ev_var F V)) (by lia) (fun _ => rfl) (fun i hi H' C c₂ so V => ?_)) fun c₁ S₁ F V => ?_
    · have hi' := ord_lt hi
      refine ev_item (k := ((i : Nat) : Int)) (ev_cf G gnF (evs_cons (ev_v V so) (evs_cons ev_int evs_nil)) (turned_ok (k := 1) G hA (by decide) (by first | exact lm (Nat.le_trans (by assumption) (by decide)) | exact lr (Nat.le_trans (by assumption) (by decide)) | exact lm (lr (Nat.le_trans (by assumption) (by decide))) | exact lm (lm (lr (Nat.le_trans (by assumption) (by decide)))) | exact lml (Nat.lt_of_le_of_lt (by assumption) (by decide)) | exact Nat.lt_of_le_of_lt (lm (Nat.le_refl _)) (Nat.lt_of_le_of_lt (by assumption) (by decide)) | (simp; lia)) (by first | exact lm (Nat.le_trans (by assumption) (by decide)) | exact lr (Nat.le_trans (by assumption) (by decide)) | exact lm (lr (Nat.le_trans (by assumption) (by decide))) | exact lm (lm (lr (Nat.le_trans (by assumption) (by decide)))) | exact lml (Nat.lt_of_le_of_lt (by assumption) (by decide)) | exact Nat.lt_of_le_of_lt (lm (Nat.le_refl _)) (Nat.lt_of_le_of_lt (by assumption) (by decide)) | (simp; lia)))) (ev_v V so) (by lia) ?_ (by lia)
      rw [Int.toNat_natCast]
      have := lookupF (l := turned ts 1) (i := i) (by rw [turned_length]; exact hi')
      rw [← this]
      unfold turned; simp [List.map_take, List.map_drop]
    have hbl : (behindOf ts).length = ts.length := by unfold behindOf; rw [List.length_map, hol]
    refine sx_compL (xs := List.range ts.length) (p := fun s => decide ((behindOf ts).getD s 0 < (behindOf ts).getD (prevAt ts.length s) 0)) (f := fun s => .int (s : Nat)) ["behind"] F V (.one _ _) hA.h (ia_range (n := ts.length) hA.h G gnB (by lia) (EV.cast (ev_cb G gnB (evs_cons (ev_var F V) evs_nil) (fn_len (by first | exact lm (Nat.le_trans (by assumption) (by decide)) | exact lr (Nat.le_trans (by assumption) (by decide)) | exact lm (lr (Nat.le_trans (by assumption) (by decide))) | exact lm (lm (lr (Nat.le_trans (by assumption) (by decide)))) | exact lml (Nat.lt_of_le_of_lt (by assumption) (by decide)) | exact Nat.lt_of_le_of_lt (lm (Nat.le_refl _)) (Nat.lt_of_le_of_lt (by assumption) (by decide)) | (simp; lia)))) (by simp))) (by first | exact lm (Nat.le_trans (by assumption) (by decide)) | exact lr (Nat.le_trans (by assumption) (by decide)) | exact lm (lr (Nat.le_trans (by assumption) (by decide))) | exact lm (lm (lr (Nat.le_trans (by assumption) (by decide)))) | exact lml (Nat.lt_of_le_of_lt (by assumption) (by decide)) | exact Nat.lt_of_le_of_lt (lm (Nat.le_refl _)) (Nat.lt_of_le_of_lt (by assumption) (by decide)) | (rw [sizeLine_eq]; simp; lia)) (fun _ => rfl)
      (fun s hs H' C c₂ so V => ⟨?_, fun _ => ev_v V so⟩) fun c₁ S₁ F V => ?_
    · have hs' : s < ts.length := by simpa using hs
      show TV prog w g₀ A' H' _ c₂ _ _
      refine tv_cmp (d1 := FL ((behindOf ts).getD (prevAt ts.length s) 0)) (d2 := FL ((behindOf ts).getD s 0)) ?_ (ev_item (k := ((s : Nat) : Int)) (ev_v V so) (ev_v V so) (by lia) (by rw [Int.toNat_natCast]; exact lookupF (by lia)) (by lia)) copL_gt
      by_cases h0 : s = 0
      · subst h0
        refine ev_item_neg (k := -1) (ev_v V so) (EV.cast (ev_bin (ev_v V so) ev_int op_sub) (by rfl)) (by decide) (by first | exact lm (Nat.le_trans (by assumption) (by decide)) | exact lr (Nat.le_trans (by assumption) (by decide)) | exact lm (lr (Nat.le_trans (by assumption) (by decide))) | exact lm (lm (lr (Nat.le_trans (by assumption) (by decide)))) | exact lml (Nat.lt_of_le_of_lt (by assumption) (by decide)) | exact Nat.lt_of_le_of_lt (lm (Nat.le_refl _)) (Nat.lt_of_le_of_lt (by assumption) (by decide)) | (simp; lia)) ?_ (by decide)
        rw [show ((-1 : Int) + (((behindOf ts).map FL).length : Nat)).toNat = prevAt ts.length 0 by simp [prevAt]; lia]
        exact lookupF (by unfold prevAt; simp; lia)
      · refine ev_item (k := ((s - 1 : Nat) : Int)) (ev_v V so) (EV.cast (ev_bin (ev_v V so) ev_int op_sub) (by congr 1; lia)) (by lia) ?_ (by lia)
        rw [Int.toNat_natCast, show prevAt ts.length s = s - 1 by unfold prevAt; rw [if_neg h0]]
        exact lookupF (by lia)
    have hfl : (fallsL ts).length ≤ ts.length := by
      have := List.length_filter_le (fun s => decide ((behindOf ts).getD s 0 < (behindOf ts).getD (prevAt ts.length s) 0)) (List.range ts.length)
      rw [List.length_range] at this; exact this
    refine sx_return F (EV.cast (ev_and (ev_var F V) fun _ => ev_cmp (EV.cast (ev_cb G gnB (evs_cons (ev_var F V) evs_nil) (fn_len ?_)) (d' := .int ((fallsL ts).length : Nat)) ?_) ev_int cop_eq) ?_)
    · rw [List.length_map]
      have : (List.filter (fun s => decide ((behindOf ts).getD s 0 < (behindOf ts).getD (prevAt ts.length s) 0)) (List.range ts.length)).length ≤ ts.length := hfl
      lia
    · rw [List.length_map]; rfl
    · unfold keepsOf
      congr 2
      rw [Bool.eq_iff_iff, beq_iff_eq, decide_eq_true_eq]; lia
end
end Mine
end
noncomputable section
open PySem PySem.W PyProof.Rows
namespace Mine
open PySem.Calls

section
variable {prog : Program} {w : World} {g₀ : Heap} {A : Around} {H H₀ X : List Addr} {env : Env} {c₀ c c' : Cf} {K : Frag} {ρ : List (Str × D)}
theorem fn_divmod {a b : Int} (hb : 0 < b) (hs : b.natAbs.log2 < 9000) : Fn prog w g₀ A (.builtin "divmod") [.int a, .int b] (.tup [.int (a / b), .int (a % b)]) := fun H c vs so r => by
  obtain ⟨v, q, rfl, r1, r2⟩ := r.cons_inv
  obtain ⟨v', q, rfl, r3, r4⟩ := r2.cons_inv
  obtain rfl := r4.nil_inv
  obtain ⟨t, rfl⟩ := r1.int_inv
  obtain ⟨u, rfl⟩ := r3.int_inv
  refine divmod_int (by lia) ?_ (.inl (PyProof.noPylong_of_log2 hs))
  rw [Int.fdiv_eq_ediv_of_nonneg _ (by lia), Int.fmod_eq_emod_of_nonneg _ (by lia)]
  have k : Kp c (c.put (c.heap.push { cls := .type "tuple", data := .seq #[.int (a / b) c.s.toks, .int (a % b) (c.s.toks + 1)] }) (c.s.toks + 1 + 1)) := .of (fun _ _ e => Heap.get?_push_of_some _ e) (by lia)
  exact ⟨_, rfl, k, Rep.tup (vs := [.int (a / b) c.s.toks, .int (a % b) (c.s.toks + 1)]) (n := 0) (so.fresh (get_size _)) (Heap.get?_push_size _ rfl) (.cons Rep.int (.cons Rep.int .nil))⟩
/-- the frame's own list becomes data -/
theorem Frm.disown {x : Str} {Da : Addr} {l : List D} (F : Frm g₀ H₀ X env c₀ c) (V : Vars (X ++ H₀) env c ρ) (O : Own H₀ X env c x Da l) :
    Frm g₀ H₀ (X.filter (· != Da)) env c₀ c ∧ Vars (X.filter (· != Da) ++ H₀) env c ((x, .list l) :: ρ) := by
  have sub : ∀ b ∈ X.filter (· != Da), b ∈ X := fun b hb => (List.mem_filter.mp hb).1
  have sub2 : ∀ Hx : List Addr, ∀ b ∈ X.filter (· != Da) ++ Hx, b ∈ X ++ Hx := fun Hx b hb => (List.mem_append.mp hb).elim (fun q => List.mem_append_left _ (sub b q)) fun q => List.mem_append_right _ q
  have inn : ∀ b, b ∈ X → b ≠ Da → b ∈ X.filter (· != Da) := fun b hb hn => List.mem_filter.mpr ⟨hb, by simpa using hn⟩
  have DH : Da ∉ H₀ := fun q => by obtain ⟨o, e⟩ := F.so₀.low Da q; rw [F.new Da O.mem] at e; cases e
  refine ⟨⟨F.kind, F.so₀, F.k, F.so.sub (sub2 H₀) fun b hb => List.mem_append_right _ (F.so₀.mt b hb), fun b hb => F.new b (sub b hb), fun Hx hl t => (F.tab Hx hl t).sub (sub2 Hx), inn _ F.L (Ne.symm O.nl), fun y hy => ?_, F.apart, F.ns, F.cal, F.cM⟩, ?_⟩
  · obtain ⟨a, ov, e1, e2, e3⟩ := F.own y hy
    exact ⟨a, ov, e1, inn a e2 (fun q => O.nc y (q ▸ e1)), e3⟩
  · have V' : Vars (X.filter (· != Da) ++ H₀) env c ρ := fun y d e => let ⟨v, lk, r⟩ := V y d e; ⟨v, lk, r.sub (sub2 H₀)⟩
    obtain ⟨vs, n, e, r⟩ := O.at'
    refine V'.cons (xs := []) (c' := c) O.look (Rep.list (n := n) (fun q => ?_) e (r.sub (sub2 H₀)))
    rcases List.mem_append.mp q with q | q
    · have := (List.mem_filter.mp q).2; simp at this
    · exact DH q
end

noncomputable def rAt (xs : List Int) (b : Int) (k : Nat) : Nat → Int
  | 0 => 0
  | i + 1 => (rAt xs b k i * 2 ^ k + xs.getD i 0) % b
noncomputable def qAt (xs : List Int) (b : Int) (k : Nat) (i : Nat) : List Int := (List.range i).map fun j => (rAt xs b k j * 2 ^ k + xs.getD j 0) / b
theorem qAt_length {xs : List Int} {b : Int} {k i : Nat} : (qAt xs b k i).length = i := by simp [qAt]
theorem qAt_succ {xs : List Int} {b : Int} {k i : Nat} : qAt xs b k (i + 1) = qAt xs b k i ++ [(rAt xs b k i * 2 ^ k + xs.getD i 0) / b] := by unfold qAt; rw [List.range_succ, List.map_append]; rfl
theorem rAt_bd {xs : List Int} {b : Int} {k : Nat} (hb : 0 < b) : ∀ i, 0 ≤ rAt xs b k i ∧ rAt xs b k i < b
  | 0 => by simp [rAt]; exact hb
  | i + 1 => ⟨Int.emod_nonneg _ (by lia), Int.emod_lt_of_pos _ hb⟩
theorem i2d_bd {a : Int} {k : Nat} (h0 : 0 ≤ a) (h2 : a < 2 ^ (2 * k)) : ∀ x ∈ i2d a k, 0 ≤ x ∧ x < 2 ^ k := fun x hx => by
  have hp : (0 : Int) < 2 ^ k := Int.pow_pos (by decide)
  have hkk : (2 : Int) ^ (2 * k) = 2 ^ k * 2 ^ k := by rw [Nat.two_mul, Int.pow_add]
  unfold i2d at hx
  split at hx
  · cases hx
  · split at hx
    · rw [List.mem_singleton.mp hx]; exact ⟨h0, by assumption⟩
    · rcases List.mem_cons.mp hx with rfl | hx
      · exact ⟨Int.emod_nonneg _ (by lia), Int.emod_lt_of_pos _ hp⟩
      · rw [List.mem_singleton.mp hx]
        exact ⟨Int.ediv_nonneg h0 (by lia), Int.ediv_lt_of_lt_mul hp (by rw [← hkk]; exact h2)⟩
theorem i2d_len {a : Int} {k : Nat} : (i2d a k).length ≤ 2 := by unfold i2d; split; simp; split <;> simp
theorem step_bd {r b d : Int} {k : Nat} (hb : 0 < b) (hr : 0 ≤ r ∧ r < b) (hd : 0 ≤ d ∧ d < 2 ^ k) : 0 ≤ (r * 2 ^ k + d) / b ∧ (r * 2 ^ k + d) / b < 2 ^ k ∧ 0 ≤ r * 2 ^ k + d := by
  have hp : (0 : Int) < 2 ^ k := Int.pow_pos (by decide)
  have h0 : 0 ≤ r * 2 ^ k := Int.mul_nonneg hr.1 (by lia)
  refine ⟨Int.ediv_nonneg (by lia) (by lia), Int.ediv_lt_of_lt_mul hb ?_, by lia⟩
  have h1 : (r + 1) * 2 ^ k ≤ b * 2 ^ k := Int.mul_le_mul_of_nonneg_right (by lia) (by lia)
  rw [Int.add_mul, Int.one_mul] at h1
  rw [Int.mul_comm (2 ^ k) b]; lia
theorem divmod_val {a b : Int} {k : Nat} (h0 : 0 ≤ a) (hb : 0 < b) (h2 : a < 2 ^ (2 * k)) :
    dval (qAt (i2d a k).reverse b k (i2d a k).length).reverse k 0 (i2d a k).length = a / b ∧ rAt (i2d a k).reverse b k (i2d a k).length = a % b := by
  have hp : (0 : Int) < 2 ^ k := Int.pow_pos (by decide)
  unfold i2d
  split
  · rename_i h; subst h
    simp [dval, rAt]
  · split
    · simp [dval, rAt, qAt]
    · simp only [List.reverse_cons, List.reverse_nil, List.nil_append, List.cons_append, List.length_cons, List.length_nil]
      generalize hA : a / 2 ^ k = hi
      generalize hB : a % 2 ^ k = lo
      have e : a = hi * 2 ^ k + lo := by
        have := Int.mul_ediv_add_emod a (2 ^ k)
        rw [hA, hB, Int.mul_comm] at this; lia
      have q2 : qAt [hi, lo] b k (0 + 1 + 1) = [hi / b, (hi % b * 2 ^ k + lo) / b] := by simp [qAt, List.range_succ, rAt]
      rw [q2]
      have hh := Int.mul_ediv_add_emod hi b
      have e2 : a = (hi % b * 2 ^ k + lo) + b * (hi / b * 2 ^ k) := by
        rw [e, ← Int.mul_assoc]
        have : hi * 2 ^ k = b * (hi / b) * 2 ^ k + hi % b * 2 ^ k := by rw [← Int.add_mul, hh]
        lia
      constructor
      · simp only [List.reverse_cons, List.reverse_nil, List.nil_append, List.cons_append, dval, List.getD_cons_zero, List.getD_cons_succ, Int.mul_zero, Int.add_zero, Nat.zero_add]
        rw [e2, Int.add_mul_ediv_left _ _ (by lia), Int.mul_comm (2 ^ k)]
      · simp only [rAt, Int.zero_mul, Int.zero_add, List.getD_cons_zero, List.getD_cons_succ]
        rw [e2, Int.add_mul_emod_self_left]

section
variable {prog : Program} {w : World} {g₀ : Heap} {A : Around} {P : Params} {n : Nat}
set_option pp.deepTerms false in
set_option maxHeartbeats 1000000 in
theorem div2_ok (G : Gd (hd.heap_1 P) g₀) (hA : AOk (n + 1) A) {a b : Int} {k : Nat} (ha : a.natAbs < 2 ^ 200) (hb : 0 < b) (hb2 : b < 2 ^ 60) :
    Fn prog w g₀ A (.ref 35) [.int a, .int b, .int k] (.tup [.int (a / b), .int (a % b)]) := by
  refine fn_entry (names := ["a", "b", "n"]) G hA rfl rfl rfl ⟨_, _, _, _, rfl, rfl, rfl, rfl⟩ rfl ?_ rfl ?_ ?_ ?_ ?_
  · intro vs h
    obtain ⟨a, b, c, rfl⟩ := len3 h; rfl
  · decide
  · rfl
  · decide
  · intro A' hA H c₀ c X L F V
    refine sx_ifr F V (tv_cmp (ev_bin (ev_bitlen (ev_var F V)) (ev_var F V) op_sub) (ev_gname (d := .int 4000) G gnF (fun _ _ => Rep.int)) cop_le) (fun hb' c₁ F V => ?_) fun hb' => ?_
    · exact sx_return' F (ev_cb G gnB (evs_cons (ev_var F V) (evs_cons (ev_var F V) evs_nil)) (fn_divmod hb (by
        have h1 : b.natAbs ≠ 0 := by lia
        have h2 : b.natAbs < 2 ^ 60 := by lia
        have := (Nat.log2_lt h1).mpr h2
        lia)))
    · exfalso
      have := bits_le ha
      simp at hb'
      lia
theorem digits_nil_ok (G : Gd (hd.heap_1 P) g₀) (gn : Gn g₀) (hA : AOk (n + 1) A) {k : Nat} :
    Fn prog w g₀ A (.ref 56) [.list [], .int k] (.int 0) := by
  refine fn_entry (names := ["digits", "n"]) G hA rfl rfl rfl ⟨_, _, _, _, rfl, rfl, rfl, rfl⟩ rfl ?_ rfl ?_ ?_ ?_ ?_
  · intro vs h
    obtain ⟨a, b, rfl⟩ := len2 h; rfl
  · decide
  · rfl
  · decide
  · intro A' hA H c₀ c X L F V
    refine sx_def gn isTab2 F V rfl rfl rfl fun f cd ctv doc pm c₁ S F₁ V₁ lk nf hf hcr hcdM => ?_
    exact sx_return F₁ (ev_if (tv_list (ev_var F₁ V₁) (by simp)) (fun h => by simp at h) fun _ => ev_int)
set_option pp.deepTerms false in
set_option maxHeartbeats 1000000 in
theorem dpos_ok (G : Gd (hd.heap_1 P) g₀) (gn : Gn g₀) (hA : AOk (n + 10) A) {a b : Int} (h0 : 0 ≤ a) (hb : 0 < b) (hb2 : b < 2 ^ 60) (h2 : a < 2 ^ (2 * Builtin.Int.intBits b)) :
    Fn prog w g₀ A (.ref 63) [.int a, .int b] (.tup [.int (a / b), .int (a % b)]) := by
  refine fn_entry (names := ["a", "b"]) G hA rfl rfl rfl ⟨_, _, _, _, rfl, rfl, rfl, rfl⟩ rfl ?_ rfl ?_ ?_ ?_ ?_
  · intro vs h
    obtain ⟨a, b, rfl⟩ := len2 h; rfl
  · decide
  · rfl
  · decide
  · intro A' hA H c₀ c X L F V
    obtain ⟨k, hk⟩ : ∃ k, k = Builtin.Int.intBits b := ⟨_, rfl⟩
    rw [← hk] at h2
    have hk1 : 1 ≤ k := by rw [hk]; exact bits_pos (k := 0) (by first | exact lm (Nat.le_trans (by assumption) (by decide)) | exact lr (Nat.le_trans (by assumption) (by decide)) | exact lm (lr (Nat.le_trans (by assumption) (by decide))) | exact lm (lm (lr (Nat.le_trans (by assumption) (by decide)))) | exact lml (Nat.lt_of_le_of_lt (by assumption) (by decide)) | exact Nat.lt_of_le_of_lt (lm (Nat.le_refl _)) (Nat.lt_of_le_of_lt (by assumption) (by decide)) | (simp; lia))
    have hk2 : k ≤ 60 := by rw [hk]; exact bits_le (natAbs_pow (by lia) hb2)
    have hib := i2d_bd h0 h2
    have hil : (i2d a k).length ≤ 2 := i2d_len
    have hrb := rAt_bd (xs := (i2d a k).reverse) (k := k) hb
    have hxb : ∀ j, 0 ≤ (i2d a k).reverse.getD j 0 ∧ (i2d a k).reverse.getD j 0 < 2 ^ k := fun j => by
      have hp : (0 : Int) < 2 ^ k := Int.pow_pos (by decide)
      rw [List.getD_eq_getElem?_getD]
      cases e : (i2d a k).reverse[j]? with
      | none => exact ⟨Int.le_refl _, hp⟩
      | some x => exact hib x (List.mem_reverse.mp (List.mem_of_getElem? e))
    refine sx_assign (d := .int k) F V (by rw [hk]; exact ev_bitlen (ev_var F V)) fun c₁ S₁ F V => ?_
    refine sx_assign F V (ev_cf G gnF (evs_cons (ev_var F V) (evs_cons (ev_var F V) evs_nil)) (i2d_ok (n := n + 4) G gn hA h0 hk1 hk2 h2)) fun c₁ S₁ F V => ?_
    refine sx_assign F V (ev_int (i := 0)) fun c₁ S₁ F V => ?_
    refine sx_own F V fun Da c₁ F V O => ?_
    refine sx_for (dI := fun i => .int ((i2d a k).reverse.getD i 0)) (fun i => [("r", .int (rAt (i2d a k).reverse b k i)), ("b", .int b), ("n", .int k)]) (fun i => (qAt (i2d a k).reverse b k i).map .int) hA.h F (V.has rfl) O
      (ia_rev (g := D.int) hA.h G gnB (ev_var F V)) (fun i ds e => ?_) (fun i hi Y c' F V O => ?_) fun c' F V O => ?_
    · rw [List.getElem?_map, Option.map_eq_some_iff] at e
      obtain ⟨x, hx, rfl⟩ := e
      simp [hx]
    · have hi' : i < (i2d a k).length := by simpa using hi
      have sb := step_bd (k := k) hb (hrb i) (hxb i)
      have hrn : (rAt (i2d a k).reverse b k i).natAbs < 2 ^ 60 := natAbs_pow (hrb i).1 (by have := (hrb i).2; lia)
      have hab : (rAt (i2d a k).reverse b k i * 2 ^ k + (i2d a k).reverse.getD i 0).natAbs < 2 ^ 200 := by
        refine natAbs_pow sb.2.2 ?_
        have h1 : (rAt (i2d a k).reverse b k i + 1) * 2 ^ k ≤ 2 ^ 60 * 2 ^ k := Int.mul_le_mul_of_nonneg_right (by have := (hrb i).2; lia) (by have : (0 : Int) < 2 ^ k := Int.pow_pos (by decide); lia)
        have h3 : (2 : Int) ^ k ≤ 2 ^ 60 := by
          have : (2 : Nat) ^ k ≤ 2 ^ 60 := Nat.pow_le_pow_right (by decide) hk2
          exact_mod_cast this
        have h4 := (hxb i).2
        rw [Int.add_mul, Int.one_mul] at h1
        lia
      refine sx_tuple (nps := [("q_digit", _), ("r", _)]) hA.h F V (ev_cf G gnF (evs_cons (ev_bin (ev_bin (ev_var F V) (ev_var F V) (op_shl (by lia) ?_)) (ev_var F V) op_add) (evs_cons (ev_var F V) (evs_cons (ev_var F V) evs_nil))) (div2_ok (n := n + 8) G hA hab hb hb2)) (fun c₁ S₁ F₁ V₁ => ?_) rfl rfl ?_
      · have := bits_le hrn; lia
      · have O₁ := O.stp F S₁ (by decide)
        refine sx_append F₁ V₁ O₁ (by rw [List.length_map, qAt_length]; lia) (ev_var F₁ V₁) fun c₂ k₂ F₂ V₂ O₂ => ?_
        refine sx_nil ⟨rfl, c₂, rfl, S₁.mine.trans (k₂.mono fun b hb => by rw [List.mem_singleton.mp hb]; exact List.mem_cons_self), F₂, V₂.has rfl, ?_⟩
        rw [qAt_succ, List.map_append]
        exact O₂
      · intro x hx
        simp only [List.mem_cons, List.not_mem_nil, or_false] at hx
        rcases hx with rfl | rfl <;> exact .inl rfl
    · have hll : ((i2d a k).reverse.map fun a => [D.int a]).length = (i2d a k).length := by simp
      rw [hll] at V O
      refine sx_reverse F V O (by rw [List.length_map, qAt_length]; lia) fun c₂ k₂ F V O => ?_
      obtain ⟨F, V⟩ := F.disown V O
      rw [← List.map_reverse] at V
      have hdv := divmod_val h0 hb h2
      refine sx_assign (d := .int (a / b)) F V (ev_cf G gnF (evs_cons (ev_var F V) (evs_cons (ev_var F V) evs_nil)) ?_) fun c₁ S₁ F V => ?_
      · by_cases hz : (i2d a k).length = 0
        · have hd0 : a / b = 0 := by rw [← hdv.1, hz]; rfl
          rw [hd0, hz]
          exact digits_nil_ok (n := 0) G gn (hA.le (by lia))
        · have := digits_ok (prog := prog) (w := w) (P := P) (A := A') (n := n) G gn hA (ds := (qAt (i2d a k).reverse b k (i2d a k).length).reverse) (k := k) (by rw [List.length_reverse, qAt_length]; lia) (by rw [List.length_reverse, qAt_length]; lia) hk2 (fun j => ?_)
          · rw [List.length_reverse, qAt_length, hdv.1] at this; exact this
          · have hp : (0 : Int) < 2 ^ k := Int.pow_pos (by decide)
            rw [List.getD_eq_getElem?_getD]
            cases e : (qAt (i2d a k).reverse b k (i2d a k).length).reverse[j]? with
            | none => exact ⟨Int.le_refl _, hp⟩
            | some x =>
              have hm := List.mem_reverse.mp (List.mem_of_getElem? e)
              unfold qAt at hm
              obtain ⟨m, _, rfl⟩ := List.mem_map.mp hm
              have sb := step_bd (k := k) hb (hrb m) (hxb m)
              exact ⟨sb.1, sb.2.1⟩
      · rw [hdv.2] at V
        exact sx_return F (ev_tuple (evs_cons (ev_var F V) (evs_cons (ev_var F V) evs_nil)) (by first | exact Nat.le_of_ble_eq_true rfl | (rw [sizeLine_eq]; simp)))
set_option pp.deepTerms false in
theorem idm_ok (G : Gd (hd.heap_1 P) g₀) (gn : Gn g₀) (hA : AOk (n + 11) A) {a b : Int} (h0 : 0 ≤ a) (hb : 0 < b) (hb2 : b < 2 ^ 60) (h2 : a < 2 ^ (2 * Builtin.Int.intBits b)) :
    Fn prog w g₀ A (.ref 70) [.int a, .int b] (.tup [.int (a / b), .int (a % b)]) := by
  refine fn_entry (names := ["a", "b"]) G hA rfl rfl rfl ⟨_, _, _, _, rfl, rfl, rfl, rfl⟩ rfl ?_ rfl ?_ ?_ ?_ ?_
  · intro vs h
    obtain ⟨a, b, rfl⟩ := len2 h; rfl
  · decide
  · rfl
  · decide
  · intro A' hA H c₀ c X L F V
    refine sx_if F V (tv_cmp (ev_var F V) ev_int cop_eq) (fun h => ?_) fun h c₁ k₁ F V => ?_
    · exfalso; simp at h; lia
    refine sx_if F V (tv_cmp (ev_var F V) ev_int cop_lt) (fun h => ?_) fun h c₁ k₁ F V => ?_
    · exfalso; simp at h; lia
    refine sx_if F V (tv_cmp (ev_var F V) ev_int cop_lt) (fun h => ?_) fun h c₁ k₁ F V => ?_
    · exfalso; simp at h; lia
    exact sx_ret F (ev_cf G gnF (evs_cons (ev_var F V) (evs_cons (ev_var F V) evs_nil)) (dpos_ok G gn hA h0 hb hb2 h2)) fun v c' k F' r => ret_of F' r
end
end Mine
end
noncomputable section
open PySem PySem.W PyProof.Rows
namespace Mine
open PySem.Calls

/-- the ring from a place on as one number -/
noncomputable def wh (r : List Int) (p : Nat) : Int := dval (turned r p).reverse 6 0 r.length
noncomputable def mdl (r : List Int) : Int := 64 ^ r.length - 1
noncomputable def quoAt (r : List Int) (p : Nat) : Int := 63 * wh r p / mdl r
noncomputable def rstAt (r : List Int) (p : Nat) : Int := 63 * wh r p % mdl r
noncomputable def goodI (r f : List Int) : Nat → Bool
  | 0 => true
  | i + 1 => (goodI r f i && decide (quoAt r i = r.getD i 0 - f.getD i 0)) && decide (rstAt r i = wh r ((i + 1) % r.length) - wh r i + f.getD i 0 * mdl r)
theorem pow64 (n : Nat) : (2 : Int) ^ (6 * n) = 64 ^ n := by rw [Int.pow_mul]; rfl
theorem turned_bd {r : List Int} {p : Nat} (hr : ∀ x ∈ r, 0 ≤ x ∧ x < 64) (j : Nat) : 0 ≤ (turned r p).reverse.getD j 0 ∧ (turned r p).reverse.getD j 0 < 2 ^ 6 := by
  rw [List.getD_eq_getElem?_getD]
  cases e : (turned r p).reverse[j]? with
  | none => exact ⟨Int.le_refl _, by decide⟩
  | some x => exact hr x (mem_turned (List.mem_reverse.mp (List.mem_of_getElem? e)))
theorem wh_bd {r : List Int} {p : Nat} (hr : ∀ x ∈ r, 0 ≤ x ∧ x < 64) : 0 ≤ wh r p ∧ wh r p < 64 ^ r.length := by
  have := dval_bd (turned_bd (p := p) hr) r.length 0
  rw [pow64] at this; exact this
theorem mdl_bd {r : List Int} (h2 : 2 ≤ r.length) (h7 : r.length ≤ 7) : 4095 ≤ mdl r ∧ mdl r < 2 ^ 60 ∧ (2 : Int) ^ 6 * 64 ^ r.length ≤ 2 ^ (2 * Builtin.Int.intBits (mdl r)) := by
  have hc : r.length = 2 ∨ r.length = 3 ∨ r.length = 4 ∨ r.length = 5 ∨ r.length = 6 ∨ r.length = 7 := by lia
  unfold mdl
  rcases hc with h | h | h | h | h | h <;> rw [h] <;> decide +kernel

section
variable {prog : Program} {w : World} {g₀ : Heap} {A : Around} {P : Params} {n : Nat}
set_option pp.deepTerms false in
set_option maxHeartbeats 2000000 in
theorem quotients_ok (G : Gd (hd.heap_1 P) g₀) (gn : Gn g₀) (hA : AOk (n + 13) A) {r f : List Int} (h2 : 2 ≤ r.length) (h7 : r.length ≤ 7) (hr : ∀ x ∈ r, 0 ≤ x ∧ x < 64) (hf : f.length = r.length) (hfb : ∀ x ∈ f, 0 ≤ x ∧ x ≤ 1) :
    Fn prog w g₀ A (.ref 126) [.list (r.map .int), .list (f.map .int)] (.tup [.list (((List.range r.length).map (quoAt r)).map .int), .bool (goodI r f r.length)]) := by
  refine fn_entry (names := ["ring", "falls"]) G hA rfl rfl rfl ⟨_, _, _, _, rfl, rfl, rfl, rfl⟩ rfl ?_ rfl ?_ ?_ ?_ ?_
  · intro vs h
    obtain ⟨a, b, rfl⟩ := len2 h; rfl
  · decide
  · rfl
  · decide
  · intro A' hA H c₀ c X L F V
    have hm := mdl_bd h2 h7
    have hwb := fun p => wh_bd (p := p) hr
    refine sx_assign (d := .int (r.length : Nat)) F V (EV.cast (ev_cb G gnB (evs_cons (ev_var F V) evs_nil) (fn_len (by first | exact lm (Nat.le_trans (by assumption) (by decide)) | exact lr (Nat.le_trans (by assumption) (by decide)) | exact lm (lr (Nat.le_trans (by assumption) (by decide))) | exact lm (lm (lr (Nat.le_trans (by assumption) (by decide)))) | exact lml (Nat.lt_of_le_of_lt (by assumption) (by decide)) | exact Nat.lt_of_le_of_lt (lm (Nat.le_refl _)) (Nat.lt_of_le_of_lt (by assumption) (by decide)) | (simp; lia)))) (by simp)) fun c₁ S₁ F V => ?_
    refine sx_mapC .int (fun p : Nat => wh r p) ["ring"] F V (.one _ _) hA.h (ia_range (n := r.length) hA.h G gnB (by lia) (ev_var F V)) (by first | exact lm (Nat.le_trans (by assumption) (by decide)) | exact lr (Nat.le_trans (by assumption) (by decide)) | exact lm (lr (Nat.le_trans (by assumption) (by decide))) | exact lm (lm (lr (Nat.le_trans (by assumption) (by decide)))) | exact lml (Nat.lt_of_le_of_lt (by assumption) (by decide)) | exact Nat.lt_of_le_of_lt (lm (Nat.le_refl _)) (Nat.lt_of_le_of_lt (by assumption) (by decide)) | (simp; lia)) (fun _ => rfl) (fun p hp H' C c₂ so V => ?_) fun c₁ S₁ F V => ?_
    · have hp' : p < r.length := by simpa using hp
      refine ev_cf G gnF (evs_cons (EV.cast (ev_list_rev hA.h G gnB gnB (l := (turned r p).map .int) (by simp [turned_length]; lia) (EV.cast (ev_cf G gnF (evs_cons (ev_v V so) (evs_cons (ev_v V so) evs_nil)) (turned_ok (k := p) G hA (by lia) (by first | exact lm (Nat.le_trans (by assumption) (by decide)) | exact lr (Nat.le_trans (by assumption) (by decide)) | exact lm (lr (Nat.le_trans (by assumption) (by decide))) | exact lm (lm (lr (Nat.le_trans (by assumption) (by decide)))) | exact lml (Nat.lt_of_le_of_lt (by assumption) (by decide)) | exact Nat.lt_of_le_of_lt (lm (Nat.le_refl _)) (Nat.lt_of_le_of_lt (by assumption) (by decide)) | (simp; lia)) (by first | exact lm (Nat.le_trans (by assumption) (by decide)) | exact lr (Nat.le_trans (by assumption) (by decide)) | exact lm (lr (Nat.le_trans (by assumption) (by decide))) | exact lm (lm (lr (Nat.le_trans (by assumption) (by decide)))) | exact lml (Nat.lt_of_le_of_lt (by assumption) (by decide)) | exact Nat.lt_of_le_of_lt (lm (Nat.le_refl _)) (Nat.lt_of_le_of_lt (by assumption) (by decide)) | (simp; lia)))) ?_)) (d' := .list ((turned r p).reverse.map .int)) ?_) (evs_cons ev_int evs_nil)) ?_
      · unfold turned; simp [List.map_take, List.map_drop]
      · rw [List.map_reverse]
      · have := digits_ok (prog := prog) (w := w) (P := P) (A := A') (n := n + 3) G gn hA (ds := (turned r p).reverse) (k := 6) (by simp [turned_length]; lia) (by simp [turned_length]; lia) (by decide) (turned_bd hr)
        rw [List.length_reverse, turned_length] at this
        exact this
    refine sx_own_pair hA.h F V fun Da c₁ F V O => ?_
    have hwl : ∀ i, i < r.length → (((List.range r.length).map fun p => wh r p).map D.int)[i]? = some (.int (wh r i)) := fun i hi => by
      rw [List.map_map, List.getElem?_map, List.getElem?_range hi]; rfl
    refine sx_for (dI := fun i => .int (i : Int)) (fun i => [("good", .bool (goodI r f i)), ("ring", .list (r.map .int)), ("falls", .list (f.map .int)), ("size", .int (r.length : Nat)), ("wholes", .list (((List.range r.length).map fun p => wh r p).map .int))]) (fun i => ((List.range i).map (quoAt r)).map .int) hA.h F (V.has rfl) O
      (ia_range (n := r.length) hA.h G gnB (by lia) (ev_var F V)) (fun i ds e => ?_) (fun i hi Y c' F V O => ?_) fun c' F V O => ?_
    · simp only [List.getElem?_map, Option.map_eq_some_iff] at e
      obtain ⟨j, hj, rfl⟩ := e
      have : j = i := by obtain ⟨h1, e1⟩ := List.getElem?_eq_some_iff.mp hj; rw [← e1, List.getElem_range]
      rw [this]
    · have hi' : i < r.length := by simpa using hi
      have hwi := hwb i
      have hfi : 0 ≤ f.getD i 0 ∧ f.getD i 0 ≤ 1 := by
        rw [List.getD_eq_getElem?_getD, List.getElem?_eq_getElem (by lia)]
        exact hfb _ (List.getElem_mem _)
      have e64 : ∀ {env : Env} {H : List Addr} {c : Cf} {p1 p2 : Pos} {ee : Expr} {k : Nat}, EV prog w g₀ A' H env c ee (.int (r.length : Nat)) → EV prog w g₀ A' H env c (.BinOp (.Constant (.int 64) k p1) .Pow ee p2) (.int (64 ^ r.length)) := fun h =>
        EV.cast (ev_bin ev_int h (op_pow (by lia) (by rw [bits64]; lia))) (by rw [Int.toNat_natCast])
      refine sx_tuple (nps := [("quotient", _), ("rest", _)]) (ds := [.int (quoAt r i), .int (rstAt r i)]) hA.h F V (ev_cf G gnF (evs_cons (ev_bin ev_int (ev_item (k := ((i : Nat) : Int)) (ev_var F V) (ev_var F V) (by lia) (by rw [Int.toNat_natCast]; exact hwl i hi') (by lia)) (op_mul (mul_ok_left (by decide) (by decide)))) (evs_cons (ev_bin (e64 (ev_var F V)) ev_int op_sub) evs_nil))
        (idm_ok (n := n + 1) G gn hA (by lia) (by show 0 < mdl r; lia) (by show mdl r < 2 ^ 60; lia) ?_)) (fun c₁ S₁ F₁ V₁ => ?_) rfl rfl ?_
      · show 63 * wh r i < 2 ^ (2 * Builtin.Int.intBits (mdl r))
        have := hm.2.2
        lia
      · have O₁ := O.stp F S₁ (by decide)
        have hin : (i + 1) % r.length < r.length := Nat.mod_lt _ (by lia)
        refine sx_assign (d := .int (wh r ((i + 1) % r.length) - wh r i)) F₁ V₁ (ev_bin (ev_item (k := (((i + 1) % r.length : Nat) : Int)) (ev_var F₁ V₁) (EV.cast (ev_bin (ev_bin (ev_var F₁ V₁) ev_int op_add) (ev_var F₁ V₁) (op_modp (by lia))) (by simp)) (by lia) (by rw [Int.toNat_natCast]; exact hwl _ hin) (by lia))
          (ev_item (k := ((i : Nat) : Int)) (ev_var F₁ V₁) (ev_var F₁ V₁) (by lia) (by rw [Int.toNat_natCast]; exact hwl i hi') (by lia)) op_sub) fun c₂ S₂ F₂ V₂ => ?_
        have O₂ := O₁.stp F₁ S₂ (by decide)
        refine sx_assign (d := .bool (goodI r f i && decide (quoAt r i = r.getD i 0 - f.getD i 0))) F₂ V₂ (ev_and (ev_var F₂ V₂) fun _ => EV.cast (ev_cmp (ev_var F₂ V₂) (ev_bin (ev_item (k := ((i : Nat) : Int)) (ev_var F₂ V₂) (ev_var F₂ V₂) (by lia) (by rw [Int.toNat_natCast]; exact lookupN hi') (by lia)) (ev_item (k := ((i : Nat) : Int)) (ev_var F₂ V₂) (ev_var F₂ V₂) (by lia) (by rw [Int.toNat_natCast]; exact lookupN (by lia)) (by lia)) op_sub) cop_eq) ?_) fun c₃ S₃ F₃ V₃ => ?_
        · congr 1
        have O₃ := O₂.stp F₂ S₃ (by decide)
        refine sx_assign (d := .bool (goodI r f (i + 1))) F₃ V₃ (ev_and (ev_var F₃ V₃) fun _ => EV.cast (ev_cmp (ev_var F₃ V₃) (ev_bin (ev_var F₃ V₃) (ev_bin (ev_item (k := ((i : Nat) : Int)) (ev_var F₃ V₃) (ev_var F₃ V₃) (by lia) (by rw [Int.toNat_natCast]; exact lookupN (by lia)) (by lia)) (ev_bin (e64 (ev_var F₃ V₃)) ev_int op_sub) (op_mul (mul_ok_left (by lia) (by lia)))) op_add) cop_eq) ?_) fun c₄ S₄ F₄ V₄ => ?_
        · congr 1
        have O₄ := O₃.stp F₃ S₄ (by decide)
        refine sx_append F₄ V₄ O₄ (by first | exact lm (Nat.le_trans (by assumption) (by decide)) | exact lr (Nat.le_trans (by assumption) (by decide)) | exact lm (lr (Nat.le_trans (by assumption) (by decide))) | exact lm (lm (lr (Nat.le_trans (by assumption) (by decide)))) | exact lml (Nat.lt_of_le_of_lt (by assumption) (by decide)) | exact Nat.lt_of_le_of_lt (lm (Nat.le_refl _)) (Nat.lt_of_le_of_lt (by assumption) (by decide)) | (simp; lia)) (ev_var F₄ V₄) fun c₅ k₅ F₅ V₅ O₅ => ?_
        refine sx_nil ⟨rfl, c₅, rfl, (S₁.mine.trans (S₂.mine.trans (S₃.mine.trans S₄.mine))).trans (k₅.mono fun b hb => by rw [List.mem_singleton.mp hb]; exact List.mem_cons_self), F₅, V₅.has rfl, ?_⟩
        rw [List.range_succ, List.map_append, List.map_append]
        exact O₅
      · intro x hx
        simp only [List.mem_cons, List.not_mem_nil, or_false] at hx
        rcases hx with rfl | rfl <;> exact .inl rfl
    · have hll : ((List.range r.length).map fun (i : Nat) => [D.int (i : Int)]).length = r.length := by simp
      rw [hll] at V O
      obtain ⟨F, V⟩ := F.disown V O
      exact sx_return F (ev_tuple (evs_cons (ev_var F V) (evs_cons (ev_var F V) evs_nil)) (by first | exact Nat.le_of_ble_eq_true rfl | (rw [sizeLine_eq]; simp)))
end
end Mine
end
noncomputable section
open PySem PySem.W PyProof.Rows
namespace Mine
noncomputable def numbersOf (dr : List Int) : List Int := dr ++ [9, 40, 7, 40, 21, 62, 13, 30].drop dr.length
noncomputable def drawnOf (xs : List Int) : List Int := (xs.take 8).map fun x => x % 1000000
noncomputable def tsOf (r : List Int) : List Int := (List.range r.length).map fun p => 4 * winOf r p
noncomputable def fallsF (ts : List Int) : List Int := (ts.zip (turned ts 1)).map fun q => if q.2 < q.1 then 1 else 0
noncomputable def quosOf (r : List Int) : List Int := (List.range r.length).map (quoAt r)
/-- what is asked of a ring -/
structure Asked (r rises : List Int) (step : Nat) (mk : Bool) (S : Nat) : Prop where
  bd : ∀ x ∈ r, 0 ≤ x ∧ x < 64
  sum : (fallsF (tsOf r)).sum = S
  sle : S ≤ r.length
  good : goodI r (fallsF (tsOf r)) r.length = true
  keeps : keepsOf (tsOf r) = (allK S r.length && decide (r ∈ (List.range r.length).map fun p => turned (made (srt (quosOf r)) S) p))
  made : mk = true → keepsOf (tsOf r) = true ∧ srt (quosOf r) = rises ∧ S = step
end Mine
end
noncomputable section
open PySem PySem.W PyProof.Rows
namespace Mine
theorem inc_id {n : Nat} {g : Nat → Nat} (hb : ∀ i, i < n → g i < n) (hs : ∀ i, i + 1 < n → g i < g (i + 1)) : ∀ i, i < n → g i = i := by
  have lo : ∀ i, i < n → i ≤ g i := fun i => by
    induction i with
    | zero => exact fun _ => Nat.zero_le _
    | succ i ih => exact fun h => Nat.lt_of_le_of_lt (ih (Nat.lt_of_succ_lt h)) (hs i h)
  have hi : ∀ d i, i + d + 1 = n → g i ≤ i := fun d => by
    induction d with
    | zero => exact fun i e => Nat.le_of_lt_succ (Nat.lt_of_lt_of_eq (hb i (e ▸ Nat.lt_succ_self i)) e.symm)
    | succ d ih =>
      intro i e
      have e' : i + 1 + d + 1 = n := (congrArg Nat.succ (Nat.succ_add i d)).trans e
      exact Nat.le_of_lt_succ (Nat.lt_of_lt_of_le (hs i (e' ▸ Nat.succ_le_succ (Nat.le_add_right _ _))) (ih (i + 1) e'))
  intro i h
  obtain ⟨d, e⟩ := Nat.exists_eq_add_of_lt h
  exact Nat.le_antisymm (hi d i e.symm) (lo i h)
theorem mono_of_step {T : Nat → Int} {n : Nat} (hs : ∀ i, i + 1 < n → T i < T (i + 1)) {i j : Nat} (hij : i < j) (hj : j < n) : T i < T j := by
  induction j with
  | zero => exact absurd hij (Nat.not_lt_zero _)
  | succ j ih =>
    rcases Nat.eq_or_lt_of_le (Nat.le_of_lt_succ hij) with e | e
    · subst e; exact hs i hj
    · exact Int.lt_trans (ih e (Nat.lt_of_succ_lt hj)) (hs j hj)
/-! small numbers, by trying -/
theorem small_rot : ∀ n s j : Fin 8, s.val < n.val → j.val < n.val → (s.val + (j.val + (n.val - s.val)) % n.val) % n.val = j.val ∧ (j.val + 1 < n.val → prevAt n.val ((s.val + (j.val + 1)) % n.val) = (s.val + j.val) % n.val ∧ (s.val + (j.val + 1)) % n.val ≠ s.val ∧ (s.val + (j.val + 1)) % n.val ≠ (s.val + j.val) % n.val) := by decide +kernel
theorem small_step : ∀ n i j : Fin 8, i.val < n.val → j.val < n.val → (i.val + 1) % n.val = (j.val + 1) % n.val → i.val = j.val := by decide +kernel
theorem small_wrap : ∀ n r k : Fin 8, r.val < n.val → 0 < k.val → k.val < n.val → ((r.val + k.val) % n.val < r.val ↔ n.val ≤ r.val + k.val) := by decide +kernel
theorem small_prev : ∀ n s : Fin 8, s.val < n.val → prevAt n.val s.val < n.val := by decide +kernel
theorem small_lex : ∀ n k b a : Fin 8, k.val < n.val → b.val < n.val → a.val < b.val → (if n.val ≤ a.val + k.val then (1 : Int) else 0) ≤ (if n.val ≤ b.val + k.val then 1 else 0) ∧ ((if n.val ≤ a.val + k.val then (1 : Int) else 0) = (if n.val ≤ b.val + k.val then 1 else 0) → (a.val + k.val) % n.val < (b.val + k.val) % n.val) := by decide +kernel
theorem lt8 {a n : Nat} (h7 : n ≤ 7) (h : a < n) : a < 8 := Nat.lt_trans (Nat.lt_of_lt_of_le h h7) (by decide)
theorem prev_lt {n s : Nat} (h7 : n ≤ 7) (h : s < n) : prevAt n s < n := small_prev ⟨n, Nat.lt_succ_of_le h7⟩ ⟨s, lt8 h7 h⟩ h
theorem rot {n : Nat} {σ : Nat → Nat} (h7 : n ≤ 7) (hb : ∀ i, i < n → σ i < n) (inj : ∀ i j, i < n → j < n → σ i = σ j → i = j) {s0 : Nat} (h0 : s0 < n)
    (hd : ∀ s, s < n → σ s < σ (prevAt n s) → s = s0) : ∀ i, i < n → σ i = (i + (n - s0)) % n := by
  have hm : ∀ x, x % n < n := fun x => Nat.mod_lt _ (Nat.zero_lt_of_lt h0)
  have sm := fun j (hj : j < n) => small_rot ⟨n, Nat.lt_succ_of_le h7⟩ ⟨s0, lt8 h7 h0⟩ ⟨j, lt8 h7 hj⟩ h0 hj
  dsimp only at sm
  have key := inc_id (n := n) (g := fun j => σ ((s0 + j) % n)) (fun j hj => hb _ (hm _)) fun j hj => by
    obtain ⟨e, ne, ne2⟩ := (sm j (Nat.lt_of_succ_lt hj)).2 hj
    exact Nat.lt_of_le_of_ne (Nat.not_lt.mp fun q => ne (hd _ (hm _) (e ▸ q))) fun q => ne2 (inj _ _ (hm _) (hm _) q.symm)
  intro i hi
  have h : σ ((s0 + (i + (n - s0)) % n) % n) = (i + (n - s0)) % n := key _ (hm _)
  rw [(sm i hi).1] at h
  exact h

/-! ## the stations in their order -/
noncomputable def oAt (ts : List Int) (i : Nat) : Nat := (ordOf ts).getD i 0
section
variable {ts : List Int}
theorem o_get {i : Nat} (h : i < ts.length) : (ordOf ts)[i]? = some (oAt ts i) := by
  have hl : i < (ordOf ts).length := by rw [ord_length]; exact h
  unfold oAt
  rw [List.getElem?_eq_getElem hl, List.getD_eq_getElem?_getD, List.getElem?_eq_getElem hl]; rfl
theorem o_lt {i : Nat} (h : i < ts.length) : oAt ts i < ts.length := ord_lt (List.mem_of_getElem? (o_get h))
theorem o_surj {p : Nat} (h : p < ts.length) : ∃ i, i < ts.length ∧ oAt ts i = p := by
  have hm : p ∈ ordOf ts := (ord_perm ts).mem_iff.mpr (List.mem_range.mpr h)
  obtain ⟨i, hi⟩ := List.getElem?_of_mem hm
  have hl : i < ts.length := by
    have := (List.getElem?_eq_some_iff.mp hi).1
    rw [ord_length] at this; exact this
  refine ⟨i, hl, ?_⟩
  rw [o_get hl] at hi; exact Option.some.inj hi
theorem o_hlt {i j : Nat} (hij : i < j) (hj : j < ts.length) : hlt ts (oAt ts i) (oAt ts j) = true := by
  have hi : i < ts.length := Nat.lt_trans hij hj
  have h1 : i < (ordOf ts).length := by rw [ord_length]; exact hi
  have h2 : j < (ordOf ts).length := by rw [ord_length]; exact hj
  have := List.pairwise_iff_getElem.mp (ord_pw ts) i j h1 h2 hij
  have e1 := o_get hi
  have e2 := o_get hj
  rw [List.getElem?_eq_getElem h1] at e1
  rw [List.getElem?_eq_getElem h2] at e2
  rw [Option.some.inj e1, Option.some.inj e2] at this
  exact this
theorem hlt_irr (a : Nat) : ¬ hlt ts a a = true := fun h => by have := hlt_asym h; rw [h] at this; cases this
theorem o_inj {i j : Nat} (hi : i < ts.length) (hj : j < ts.length) (e : oAt ts i = oAt ts j) : i = j := by
  rcases Nat.lt_trichotomy i j with h | h | h
  · have := o_hlt h hj; rw [e] at this; exact absurd this (hlt_irr _)
  · exact h
  · have := o_hlt h hi; rw [e] at this; exact absurd this (hlt_irr _)
theorem behind_at {s : Nat} (h : s < ts.length) : (behindOf ts).getD s 0 = ts.getD ((oAt ts s + 1) % ts.length) 0 := by
  rw [← turned_getD (o_lt h)]
  unfold behindOf
  rw [List.getD_eq_getElem?_getD, List.getElem?_map, o_get h]; rfl
theorem falls_at {p : Nat} (h : p < ts.length) : (fallsF ts).getD p 0 = if ts.getD ((p + 1) % ts.length) 0 < ts.getD p 0 then 1 else 0 := by
  have h1 : (turned ts 1)[p]? = some (ts.getD ((p + 1) % ts.length) 0) := by
    have hl : p < (turned ts 1).length := by rw [turned_length]; exact h
    rw [← turned_getD h, List.getD_eq_getElem?_getD, List.getElem?_eq_getElem hl]; rfl
  have h2 : ts[p]? = some (ts.getD p 0) := by rw [List.getD_eq_getElem?_getD, List.getElem?_eq_getElem h]; rfl
  unfold fallsF
  rw [List.getD_eq_getElem?_getD, List.getElem?_map, List.getElem?_zip_eq_some (z := (ts.getD p 0, ts.getD ((p + 1) % ts.length) 0)) |>.mpr ⟨h2, h1⟩]; rfl
theorem falls_length : (fallsF ts).length = ts.length := by simp [fallsF, turned_length]
theorem hlt_or {i j : Nat} (h : hlt ts i j = true) : ts.getD i 0 < ts.getD j 0 ∨ (ts.getD i 0 = ts.getD j 0 ∧ i < j) := of_decide_eq_true h
theorem same_nil : sameL ts = [] ↔ ∀ i, i + 1 < ts.length → ts.getD (oAt ts i) 0 < ts.getD (oAt ts (i + 1)) 0 := by
  unfold sameL
  rw [List.filter_eq_nil_iff]
  constructor
  · intro h i hi
    have h2 : ((ordOf ts).drop 1)[i]? = some (oAt ts (i + 1)) := by rw [List.getElem?_drop, Nat.add_comm]; exact o_get hi
    have := h _ (List.mem_of_getElem? (List.getElem?_zip_eq_some (z := (oAt ts i, oAt ts (i + 1))) |>.mpr ⟨o_get (Nat.lt_of_succ_lt hi), h2⟩))
    exact (hlt_or (o_hlt (Nat.lt_succ_self i) hi)).resolve_right fun q => this (decide_eq_true q.1)
  · intro h q hq
    obtain ⟨i, hi⟩ := List.getElem?_of_mem hq
    obtain ⟨h1, h2⟩ := List.getElem?_zip_eq_some.mp hi
    rw [List.getElem?_drop, Nat.add_comm] at h2
    have hl : i + 1 < ts.length := ord_length (ts := ts) ▸ (List.getElem?_eq_some_iff.mp h2).1
    rw [o_get (Nat.lt_of_succ_lt hl)] at h1
    rw [o_get hl] at h2
    have := h i hl
    rw [Option.some.inj h1, Option.some.inj h2] at this
    exact fun q => Int.ne_of_lt this (of_decide_eq_true q)

/-- ranks of the stations, moved by k from each to the next -/
structure Rk (ts : List Int) (ρ : Nat → Nat) (k : Nat) : Prop where
  k0 : 0 < k
  kn : k < ts.length
  bd : ∀ p, p < ts.length → ρ p < ts.length
  ord : ∀ p q, p < ts.length → q < ts.length → (ts.getD p 0 < ts.getD q 0 ↔ ρ p < ρ q)
  inj : ∀ p q, p < ts.length → q < ts.length → ρ p = ρ q → p = q
  step : ∀ p, p < ts.length → ρ ((p + 1) % ts.length) = (ρ p + k) % ts.length
theorem Rk.lto {ρ : Nat → Nat} {k : Nat} (R : Rk ts ρ k) {i j : Nat} (hij : i < j) (hj : j < ts.length) : ρ (oAt ts i) < ρ (oAt ts j) := by
  have oi := o_lt (Nat.lt_trans hij hj)
  have oj := o_lt hj
  rcases hlt_or (o_hlt hij hj) with h | ⟨e, h⟩
  · exact (R.ord _ _ oi oj).mp h
  · have le : ρ (oAt ts j) ≤ ρ (oAt ts i) := Nat.not_lt.mp fun q => Int.ne_of_lt ((R.ord _ _ oi oj).mpr q) e
    have ge : ρ (oAt ts i) ≤ ρ (oAt ts j) := Nat.not_lt.mp fun q => Int.ne_of_lt ((R.ord _ _ oj oi).mpr q) e.symm
    exact absurd (R.inj _ _ oi oj (Nat.le_antisymm ge le)) (Nat.ne_of_lt h)
theorem Rk.o {ρ : Nat → Nat} {k : Nat} (R : Rk ts ρ k) : ∀ i, i < ts.length → ρ (oAt ts i) = i :=
  inc_id (g := fun i => ρ (oAt ts i)) (fun i hi => R.bd _ (o_lt hi)) fun i hi => R.lto (Nat.lt_succ_self i) hi
theorem Rk.oi {ρ : Nat → Nat} {k : Nat} (R : Rk ts ρ k) {p : Nat} (hp : p < ts.length) : oAt ts (ρ p) = p := by
  obtain ⟨i, hi, e⟩ := o_surj hp
  rw [← e, R.o i hi]
theorem one_fall : ∀ n : Fin 8, ∀ k : Fin 8, 2 ≤ n.val → 0 < k.val → k.val < n.val → ((List.range n.val).filter fun s => decide ((s + k.val) % n.val < (prevAt n.val s + k.val) % n.val)).length = 1 := by decide +kernel
theorem sum_falls : ∀ n : Fin 8, ∀ k : Fin 8, k.val < n.val → ((List.range n.val).map fun i => if n.val ≤ i + k.val then (1 : Int) else 0).sum = k.val := by decide +kernel
theorem filter_eq {α : Type} {p q : α → Bool} : ∀ {l : List α}, (∀ x ∈ l, p x = q x) → l.filter p = l.filter q
  | [], _ => rfl
  | a :: l, h => by rw [List.filter_cons, List.filter_cons, h a List.mem_cons_self, filter_eq fun x hx => h x (List.mem_cons_of_mem _ hx)]
theorem Rk.keeps {ρ : Nat → Nat} {k : Nat} (R : Rk ts ρ k) (h2 : 2 ≤ ts.length) (h7 : ts.length ≤ 7) : keepsOf ts = true := by
  unfold keepsOf
  have e : fallsL ts = (List.range ts.length).filter fun s => decide ((s + k) % ts.length < (prevAt ts.length s + k) % ts.length) := by
    unfold fallsL
    refine filter_eq fun s hs => ?_
    have hs' : s < ts.length := List.mem_range.mp hs
    have hp := prev_lt h7 hs'
    have hm : ∀ x, (x + 1) % ts.length < ts.length := fun x => Nat.mod_lt _ (Nat.zero_lt_of_lt hs')
    rw [behind_at hs', behind_at hp]
    refine decide_eq_decide.mpr ((R.ord _ _ (hm _) (hm _)).trans ?_)
    rw [R.step _ (o_lt hs'), R.step _ (o_lt hp), R.o _ hs', R.o _ hp]
  exact Bool.and_eq_true_iff.mpr ⟨decide_eq_true (same_nil.mpr fun i hi => (R.ord _ _ (o_lt (Nat.lt_of_succ_lt hi)) (o_lt hi)).mpr (R.lto (Nat.lt_succ_self i) hi)), decide_eq_true (e ▸ one_fall ⟨ts.length, Nat.lt_succ_of_le h7⟩ ⟨k, lt8 h7 R.kn⟩ h2 R.k0 R.kn)⟩
theorem Rk.fall {ρ : Nat → Nat} {k : Nat} (R : Rk ts ρ k) (h7 : ts.length ≤ 7) {p : Nat} (hp : p < ts.length) : (fallsF ts).getD p 0 = if ts.length ≤ ρ p + k then 1 else 0 := by
  rw [falls_at hp]
  have h1 := R.ord _ _ (Nat.mod_lt (p + 1) (Nat.zero_lt_of_lt hp)) hp
  rw [R.step p hp] at h1
  have W := h1.trans (small_wrap ⟨ts.length, Nat.lt_succ_of_le h7⟩ ⟨ρ p, lt8 h7 (R.bd p hp)⟩ ⟨k, lt8 h7 R.kn⟩ (R.bd p hp) R.k0 R.kn)
  by_cases hc : ts.length ≤ ρ p + k
  · exact (if_pos (W.mpr hc)).trans (if_pos hc).symm
  · exact (if_neg (fun q => hc (W.mp q))).trans (if_neg hc).symm
theorem perm_sum : ∀ {l l' : List Int}, l.Perm l' → l.sum = l'.sum := fun {l l'} h => by
  induction h with
  | nil => rfl
  | cons a _ ih => rw [List.sum_cons, List.sum_cons, ih]
  | swap a b l => rw [List.sum_cons, List.sum_cons, List.sum_cons, List.sum_cons, Int.add_left_comm]
  | trans _ _ h1 h2 => exact h1.trans h2
theorem Rk.perm {ρ : Nat → Nat} {k : Nat} (R : Rk ts ρ k) : ((List.range ts.length).map ρ).Perm (List.range ts.length) := by
  refine perm_range ?_ (by simp) fun x hx => ?_
  · rw [List.Nodup, List.pairwise_iff_getElem]
    intro i j hi hj hij e
    simp only [List.getElem_map, List.getElem_range] at e
    exact Nat.ne_of_lt hij (R.inj i j (by simpa using hi) (by simpa using hj) e)
  · obtain ⟨p, hp, rfl⟩ := List.mem_map.mp hx
    exact R.bd p (List.mem_range.mp hp)
theorem Rk.sum {ρ : Nat → Nat} {k : Nat} (R : Rk ts ρ k) (h7 : ts.length ≤ 7) : (fallsF ts).sum = k := by
  have e : fallsF ts = ((List.range ts.length).map ρ).map fun i => if ts.length ≤ i + k then (1 : Int) else 0 := by
    apply List.ext_getElem?
    intro p
    by_cases hp : p < ts.length
    · have h := R.fall h7 hp
      rw [List.getD_eq_getElem?_getD, List.getElem?_eq_getElem (by rw [falls_length]; exact hp)] at h
      rw [List.getElem?_eq_getElem (by rw [falls_length]; exact hp), List.getElem?_map, List.getElem?_map, List.getElem?_range hp]
      exact congrArg some h
    · rw [List.getElem?_eq_none (by rw [falls_length]; exact Nat.not_lt.mp hp), List.getElem?_eq_none (by rw [List.length_map, List.length_map, List.length_range]; exact Nat.not_lt.mp hp)]
  rw [e, perm_sum (R.perm.map _)]
  exact sum_falls ⟨ts.length, Nat.lt_succ_of_le h7⟩ ⟨k, lt8 h7 R.kn⟩ R.kn
theorem Rk.lin {ρ : Nat → Nat} {k : Nat} (R : Rk ts ρ k) : ∀ p, p < ts.length → ρ p = (ρ 0 + p * k) % ts.length
  | 0, h => by rw [Nat.zero_mul, Nat.add_zero, Nat.mod_eq_of_lt (R.bd 0 h)]
  | p + 1, h => by
    have h1 := R.step p (Nat.lt_of_succ_lt h)
    rw [Nat.mod_eq_of_lt h, R.lin p (Nat.lt_of_succ_lt h), Nat.mod_add_mod] at h1
    rw [h1, Nat.succ_mul, Nat.add_assoc]
theorem mod_cancel {A x y n : Nat} (hn : 0 < n) (h : (A + x) % n = (A + y) % n) : x % n = y % n := by
  have k : ∀ z, z % n = ((A + z) % n + (n - A % n)) % n := fun z => by
    rw [Nat.mod_add_mod]
    have h1 := Nat.div_add_mod A n
    have h2 := Nat.mod_lt A hn
    rw [show A + z + (n - A % n) = z + n * (A / n + 1) by rw [Nat.mul_add]; lia, Nat.add_mul_mod_self_left]
  rw [k x, k y, h]
theorem Rk.all {ρ : Nat → Nat} {k : Nat} (R : Rk ts ρ k) : allK k ts.length = true := by
  unfold allK
  rw [decide_eq_true_eq]
  have nd : ((List.range ts.length).map fun i => i * k % ts.length).Perm (List.range ts.length) := by
    refine perm_range ?_ (by simp) fun x hx => ?_
    · rw [List.Nodup, List.pairwise_iff_getElem]
      intro i j hi hj hij e
      simp only [List.getElem_map, List.getElem_range] at e
      have hi' : i < ts.length := by simpa using hi
      have hj' : j < ts.length := by simpa using hj
      have e2 : ρ i = ρ j := by rw [R.lin i hi', R.lin j hj', ← Nat.add_mod_mod, e, Nat.add_mod_mod]
      exact Nat.ne_of_lt hij (R.inj i j hi' hj' e2)
    · obtain ⟨p, hp, rfl⟩ := List.mem_map.mp hx
      exact Nat.mod_lt _ (Nat.zero_lt_of_lt R.kn)
  have nd2 := nd.map (fun i : Nat => (i : Int))
  rw [List.map_map] at nd2
  refine ksm_same ((srt_perm _).trans nd2) (srt_pw _) ?_
  rw [List.pairwise_map]
  exact List.pairwise_le_range.imp fun h => Int.ofNat_le.mpr h
theorem keeps_rk (h2 : 2 ≤ ts.length) (h7 : ts.length ≤ 7) (h : keepsOf ts = true) : ∃ ρ k, Rk ts ρ k := by
  unfold keepsOf at h
  rw [Bool.and_eq_true, decide_eq_true_eq, decide_eq_true_eq] at h
  obtain ⟨hs, hf⟩ := h
  have hT : ∀ {i j}, i < j → j < ts.length → ts.getD (oAt ts i) 0 < ts.getD (oAt ts j) 0 := mono_of_step (T := fun i => ts.getD (oAt ts i) 0) (same_nil.mp hs)
  have hT' : ∀ i j, i < ts.length → j < ts.length → (ts.getD (oAt ts i) 0 < ts.getD (oAt ts j) 0 ↔ i < j) := fun i j hi hj =>
    ⟨fun q => Nat.not_le.mp fun h => (Nat.eq_or_lt_of_le h).elim (fun e => Int.lt_irrefl _ (e ▸ q)) fun l => Int.lt_irrefl _ (Int.lt_trans q (hT l hi)), fun q => hT q hj⟩
  obtain ⟨ρ, hρ⟩ : ∃ ρ : Nat → Nat, ∀ p, p < ts.length → ρ p < ts.length ∧ oAt ts (ρ p) = p := by
    classical
    refine ⟨fun p => if h : p < ts.length then Classical.choose (o_surj h) else 0, fun p hp => ?_⟩
    simp only [dif_pos hp]
    exact Classical.choose_spec (o_surj hp)
  have inj : ∀ p q, p < ts.length → q < ts.length → ρ p = ρ q → p = q := fun p q hp hq e => by rw [← (hρ p hp).2, ← (hρ q hq).2, e]
  have ro : ∀ i, i < ts.length → ρ (oAt ts i) = i := fun i hi => o_inj (hρ _ (o_lt hi)).1 hi (hρ _ (o_lt hi)).2
  have ord : ∀ p q, p < ts.length → q < ts.length → (ts.getD p 0 < ts.getD q 0 ↔ ρ p < ρ q) := fun p q hp hq => by
    have := hT' (ρ p) (ρ q) (hρ p hp).1 (hρ q hq).1
    rw [(hρ p hp).2, (hρ q hq).2] at this
    exact this
  have n0 : 0 < ts.length := Nat.lt_of_lt_of_le (by decide) h2
  have hm : ∀ x, (x + 1) % ts.length < ts.length := fun x => Nat.mod_lt _ n0
  obtain ⟨s0, e0⟩ := List.length_eq_one_iff.mp hf
  have m0 : s0 ∈ fallsL ts := by rw [e0]; exact List.mem_singleton.mpr rfl
  have h0 : s0 < ts.length := List.mem_range.mp (List.mem_filter.mp m0).1
  have hsi : ∀ i j, i < ts.length → j < ts.length → (i + 1) % ts.length = (j + 1) % ts.length → i = j := fun i j hi hj e => small_step ⟨ts.length, Nat.lt_succ_of_le h7⟩ ⟨i, lt8 h7 hi⟩ ⟨j, lt8 h7 hj⟩ hi hj e
  have key := rot (n := ts.length) (σ := fun i => ρ ((oAt ts i + 1) % ts.length)) h7 (fun i hi => (hρ _ (hm _)).1) (fun i j hi hj e => o_inj hi hj (hsi _ _ (o_lt hi) (o_lt hj) (inj _ _ (hm _) (hm _) e))) h0 fun s hs' q => by
    have hp := prev_lt h7 hs'
    have : s ∈ fallsL ts := by
      unfold fallsL
      refine List.mem_filter.mpr ⟨List.mem_range.mpr hs', ?_⟩
      rw [decide_eq_true_eq, behind_at hs', behind_at hp]
      exact (ord _ _ (hm _) (hm _)).mpr q
    rw [e0] at this
    exact List.mem_singleton.mp this
  have st : ∀ p, p < ts.length → ρ ((p + 1) % ts.length) = (ρ p + (ts.length - s0)) % ts.length := fun p hp => by
    have := key (ρ p) (hρ p hp).1
    rw [(hρ p hp).2] at this
    exact this
  have hs0 : s0 ≠ 0 := fun q => by
    have := st 0 n0
    rw [q, Nat.sub_zero, Nat.add_mod_right, Nat.mod_eq_of_lt (hρ 0 n0).1] at this
    have := inj _ _ (hm 0) n0 this
    rw [Nat.mod_eq_of_lt h2] at this
    cases this
  exact ⟨ρ, ts.length - s0, Nat.sub_pos_of_lt h0, Nat.sub_lt n0 (Nat.pos_of_ne_zero hs0), fun p hp => (hρ p hp).1, ord, inj, st⟩
end
end Mine
end
noncomputable section
open PySem PySem.W PyProof.Rows
namespace Mine
/-- the figure at a place, round and round -/
noncomputable def xAt (r : List Int) (i : Nat) : Int := r.getD (i % r.length) 0
/-- m figures from a place on as one number -/
noncomputable def Vn (r : List Int) (p : Nat) : Nat → Int
  | 0 => 0
  | m + 1 => Vn r p m * 64 + xAt r (p + m)
section
variable {r : List Int}
theorem horn_V {p : Nat} (h2 : 2 ≤ r.length) (hp : p < r.length) : ∀ m, m ≤ 7 → horn (rowOf r p) m = Vn r p m
  | 0, _ => rfl
  | m + 1, h => by rw [horn, horn_V h2 hp m (by lia), rowOf_getD h2 hp (by lia), Vn]; rfl
theorem win_V {p : Nat} (h2 : 2 ≤ r.length) (hp : p < r.length) : winOf r p = Vn r p 7 := horn_V h2 hp 7 (Nat.le_refl _)
theorem dval_V {p : Nat} (hp : p < r.length) : ∀ m, m ≤ r.length → dval (turned r p).reverse 6 (r.length - m) m = Vn r p m
  | 0, _ => rfl
  | m + 1, h => by
    have e : (turned r p).reverse.getD (r.length - (m + 1)) 0 = xAt r (p + m) := by
      rw [List.getD_eq_getElem?_getD, List.getElem?_reverse (by rw [turned_length]; lia), turned_length, show r.length - 1 - (r.length - (m + 1)) = m by lia, turned_at hp (by lia)]
      unfold xAt
      rw [List.getD_eq_getElem?_getD]
    rw [dval, e, show r.length - (m + 1) + 1 = r.length - m by lia, dval_V hp m (by lia), Vn]
    lia
theorem wh_V {p : Nat} (hp : p < r.length) : wh r p = Vn r p r.length := by
  have := dval_V hp r.length (Nat.le_refl _)
  rw [Nat.sub_self] at this
  exact this
theorem x_bd (hr : ∀ x ∈ r, 0 ≤ x ∧ x < 64) (i : Nat) : 0 ≤ xAt r i ∧ xAt r i < 64 := by
  unfold xAt
  rw [List.getD_eq_getElem?_getD]
  cases e : r[i % r.length]? with
  | none => simp
  | some x => exact hr x (List.mem_of_getElem? e)
theorem V_bd (hr : ∀ x ∈ r, 0 ≤ x ∧ x < 64) (p : Nat) : ∀ m, 0 ≤ Vn r p m ∧ Vn r p m < 64 ^ m
  | 0 => by simp [Vn]
  | m + 1 => by
    have h := V_bd hr p m
    have := x_bd hr (p + m)
    rw [Vn, Int.pow_succ]
    lia
theorem V_add (p m : Nat) : ∀ j, Vn r p (m + j) = Vn r p m * 64 ^ j + Vn r (p + m) j
  | 0 => by simp [Vn]
  | j + 1 => by
    rw [← Nat.add_assoc, Vn, V_add p m j, Vn, Int.pow_succ, Int.add_mul, Int.mul_assoc, Nat.add_assoc]
    lia
theorem x_mod (p i : Nat) : xAt r (p % r.length + i) = xAt r (p + i) := by unfold xAt; rw [Nat.mod_add_mod]
theorem V_mod (p : Nat) : ∀ m, Vn r (p % r.length) m = Vn r p m
  | 0 => rfl
  | m + 1 => by rw [Vn, Vn, V_mod p m, x_mod]
theorem V_lt (hr : ∀ x ∈ r, 0 ≤ x ∧ x < 64) {p q m : Nat} (h : Vn r p m < Vn r q m) : ∀ j, Vn r p (m + j) < Vn r q (m + j)
  | 0 => h
  | j + 1 => by
    have := V_lt hr h j
    have a := x_bd hr (p + (m + j))
    have b := x_bd hr (q + (m + j))
    rw [← Nat.add_assoc, Vn, Vn]
    lia
theorem V_eq (hr : ∀ x ∈ r, 0 ≤ x ∧ x < 64) {p q : Nat} : ∀ {m : Nat}, Vn r p m = Vn r q m → ∀ i, i < m → Vn r p i = Vn r q i ∧ xAt r (p + i) = xAt r (q + i)
  | 0, _, i, hi => by lia
  | m + 1, h, i, hi => by
    rw [Vn, Vn] at h
    have a := x_bd hr (p + m)
    have b := x_bd hr (q + m)
    have e : Vn r p m = Vn r q m := by lia
    by_cases him : i = m
    · subst him; exact ⟨e, by lia⟩
    · exact V_eq hr e i (by lia)
theorem V_cong {p q : Nat} (h : ∀ i, xAt r (p + i) = xAt r (q + i)) : ∀ m, Vn r p m = Vn r q m
  | 0 => rfl
  | m + 1 => by rw [Vn, Vn, V_cong h m, h m]
theorem V_cmp (hr : ∀ x ∈ r, 0 ≤ x ∧ x < 64) (h2 : 2 ≤ r.length) (h7 : r.length ≤ 7) (p q : Nat) : Vn r p 7 < Vn r q 7 ↔ Vn r p r.length < Vn r q r.length := by
  have up : ∀ p q, Vn r p r.length < Vn r q r.length → Vn r p 7 < Vn r q 7 := fun p q h => by
    have := V_lt hr h (7 - r.length)
    rw [show r.length + (7 - r.length) = 7 by lia] at this
    exact this
  refine ⟨fun h => ?_, up p q⟩
  rcases Int.lt_trichotomy (Vn r p r.length) (Vn r q r.length) with h' | h' | h'
  · exact h'
  · have e := V_eq hr h'
    have : Vn r p 7 = Vn r q 7 := V_cong (fun i => by
      have := (e (i % r.length) (Nat.mod_lt _ (by lia))).2
      unfold xAt at this ⊢
      rw [Nat.add_mod_mod, Nat.add_mod_mod] at this
      exact this) 7
    lia
  · have := up q p h'; lia
theorem ts_length : (tsOf r).length = r.length := by simp [tsOf]
theorem ts_at (h2 : 2 ≤ r.length) {p : Nat} (hp : p < r.length) : (tsOf r).getD p 0 = 4 * Vn r p 7 := by
  unfold tsOf
  rw [List.getD_eq_getElem?_getD, List.getElem?_map, List.getElem?_range hp, ← win_V h2 hp]; rfl
theorem ts_cmp (hr : ∀ x ∈ r, 0 ≤ x ∧ x < 64) (h2 : 2 ≤ r.length) (h7 : r.length ≤ 7) {p q : Nat} (hp : p < r.length) (hq : q < r.length) : ((tsOf r).getD p 0 < (tsOf r).getD q 0 ↔ Vn r p r.length < Vn r q r.length) := by
  rw [ts_at h2 hp, ts_at h2 hq, ← V_cmp hr h2 h7]; lia
theorem V_shift (h2 : 2 ≤ r.length) (p : Nat) : 63 * Vn r p r.length = Vn r (p + 1) r.length - Vn r p r.length + xAt r p * mdl r := by
  have h1 := V_add (r := r) p r.length 1
  have h3 := V_add (r := r) p 1 r.length
  have e1 : Vn r (p + r.length) 1 = xAt r p := by simp only [Vn, Nat.add_zero]; unfold xAt; rw [Nat.add_mod_right]; lia
  have e2 : Vn r p 1 = xAt r p := by simp only [Vn, Nat.add_zero]; lia
  rw [e1] at h1
  rw [e2, Nat.add_comm] at h3
  unfold mdl
  rw [Int.mul_sub, Int.mul_one]
  rw [h1] at h3
  simp only [Int.pow_succ, Int.pow_zero, Int.one_mul] at h3
  lia
theorem mdl_pos (h2 : 2 ≤ r.length) (h7 : r.length ≤ 7) : 0 < mdl r := by have := (mdl_bd h2 h7).1; lia
theorem good_at (hr : ∀ x ∈ r, 0 ≤ x ∧ x < 64) (h2 : 2 ≤ r.length) (h7 : r.length ≤ 7) {p : Nat} (hp : p < r.length) :
    quoAt r p = r.getD p 0 - (fallsF (tsOf r)).getD p 0 ∧ rstAt r p = wh r ((p + 1) % r.length) - wh r p + (fallsF (tsOf r)).getD p 0 * mdl r := by
  have hm := mdl_pos h2 h7
  have hq : (p + 1) % r.length < r.length := Nat.mod_lt _ (by lia)
  have hs := V_shift h2 p
  have b1 := V_bd hr p r.length
  have b2 := V_bd hr (p + 1) r.length
  have hx := x_bd hr p
  have ex : r.getD p 0 = xAt r p := by unfold xAt; rw [Nat.mod_eq_of_lt hp]
  have hf := falls_at (ts := tsOf r) (p := p) (by rw [ts_length]; exact hp)
  rw [ts_length] at hf
  have hc := ts_cmp hr h2 h7 hq hp
  rw [V_mod] at hc
  have hM : (64 : Int) ^ r.length = mdl r + 1 := by unfold mdl; lia
  rw [hM] at b1 b2
  unfold quoAt rstAt
  rw [wh_V hq, wh_V hp, V_mod, ex]
  generalize Vn r p r.length = W at *
  generalize Vn r (p + 1) r.length = W' at *
  generalize mdl r = M at *
  generalize xAt r p = x at *
  rw [hf]
  have hxm : 0 ≤ x * M := Int.mul_nonneg hx.1 (by lia)
  by_cases h : W' < W
  · rw [if_pos (hc.mpr h)]
    refine (Int.ediv_emod_unique hm).mpr ⟨?_, by lia, by lia⟩
    rw [Int.mul_sub, Int.mul_comm M x]; lia
  · rw [if_neg (fun q => h (hc.mp q))]
    refine (Int.ediv_emod_unique hm).mpr ⟨?_, by lia, by lia⟩
    rw [Int.mul_sub, Int.mul_comm M x]; lia
theorem good_all (hr : ∀ x ∈ r, 0 ≤ x ∧ x < 64) (h2 : 2 ≤ r.length) (h7 : r.length ≤ 7) : ∀ i, i ≤ r.length → goodI r (fallsF (tsOf r)) i = true
  | 0, _ => rfl
  | i + 1, h => by
    have g := good_at hr h2 h7 (show i < r.length by lia)
    rw [goodI, good_all hr h2 h7 i (by lia), decide_eq_true g.1, decide_eq_true g.2]; rfl
/-- the quotients in the order of the stations -/
theorem srt_quos (hr : ∀ x ∈ r, 0 ≤ x ∧ x < 64) (h2 : 2 ≤ r.length) (h7 : r.length ≤ 7) : srt (quosOf r) = (ordOf (tsOf r)).map (quoAt r) := by
  have hm := mdl_pos h2 h7
  have hp := (ord_perm (tsOf r)).map (quoAt r)
  rw [ts_length] at hp
  refine ksm_same ((srt_perm _).trans hp.symm) (srt_pw _) ?_
  rw [List.pairwise_map]
  refine (List.Pairwise.and_mem.mp (ord_pw (tsOf r))).imp fun {a b} h => ?_
  obtain ⟨ha, hb, hl⟩ := h
  have ha' := ord_lt ha
  have hb' := ord_lt hb
  rw [ts_length] at ha' hb'
  unfold hlt at hl
  rw [decide_eq_true_eq] at hl
  have c1 := ts_cmp hr h2 h7 hb' ha'
  have hle : Vn r a r.length ≤ Vn r b r.length := by
    refine Int.not_lt.mp fun q => ?_
    have := c1.mpr q
    lia
  unfold quoAt
  rw [wh_V ha', wh_V hb']
  exact Int.ediv_le_ediv hm (by lia)
theorem srt_at (hr : ∀ x ∈ r, 0 ≤ x ∧ x < 64) (h2 : 2 ≤ r.length) (h7 : r.length ≤ 7) {ρ : Nat → Nat} {k : Nat} (R : Rk (tsOf r) ρ k) {p : Nat} (hp : p < r.length) : (srt (quosOf r)).getD (ρ p) 0 = quoAt r p := by
  have hp' : p < (tsOf r).length := by rw [ts_length]; exact hp
  rw [srt_quos hr h2 h7, List.getD_eq_getElem?_getD, List.getElem?_map, o_get (R.bd p hp'), R.oi hp']; rfl
/-- a figure is the quotient of its rank, one more on the last k ranks -/
theorem fig_of (hr : ∀ x ∈ r, 0 ≤ x ∧ x < 64) (h2 : 2 ≤ r.length) (h7 : r.length ≤ 7) {ρ : Nat → Nat} {k : Nat} (R : Rk (tsOf r) ρ k) {p : Nat} (hp : p < r.length) :
    r.getD p 0 = (srt (quosOf r)).getD (ρ p) 0 + if r.length ≤ ρ p + k then 1 else 0 := by
  have hp' : p < (tsOf r).length := by rw [ts_length]; exact hp
  have g := (good_at hr h2 h7 hp).1
  have f := R.fall (by rw [ts_length]; exact h7) hp'
  rw [ts_length] at f
  rw [srt_at hr h2 h7 R hp, g, f]
  split <;> lia
theorem figs_at {l : List Int} {k j : Nat} (h : j < l.length) : (figs l k).getD j 0 = l.getD j 0 + if l.length ≤ j + k then 1 else 0 := by
  unfold figs
  rw [List.getD_eq_getElem?_getD, List.getElem?_map, List.getElem?_zipIdx, List.getElem?_eq_getElem h, List.getD_eq_getElem?_getD, List.getElem?_eq_getElem h]
  simp
theorem made_at {l : List Int} {k i : Nat} (h : i < l.length) : (made l k).getD i 0 = l.getD (i * k % l.length) 0 + if l.length ≤ i * k % l.length + k then 1 else 0 := by
  unfold made
  rw [List.getD_eq_getElem?_getD, List.getElem?_map, List.getElem?_range h]
  exact figs_at (Nat.mod_lt _ (by lia))
theorem all_inj {k n : Nat} (h : allK k n = true) {i j : Nat} (hi : i < n) (hj : j < n) (e : i * k % n = j * k % n) : i = j := by
  unfold allK at h
  rw [decide_eq_true_eq] at h
  have hp : ((List.range n).map fun i => ((i * k % n : Nat) : Int)).Perm ((List.range n).map fun (i : Nat) => (i : Int)) := (srt_perm _).symm.trans (by rw [h])
  have nd : ((List.range n).map fun (i : Nat) => (i : Int)).Nodup := by
    rw [List.Nodup, List.pairwise_map]
    exact List.nodup_range.imp fun h => by lia
  have nd2 : ((List.range n).map fun i => ((i * k % n : Nat) : Int)).Nodup := hp.nodup_iff.mpr nd
  rw [List.Nodup, List.pairwise_iff_getElem] at nd2
  rcases Nat.lt_trichotomy i j with q | q | q
  · have := nd2 i j (by simpa using hi) (by simpa using hj) q
    simp only [List.getElem_map, List.getElem_range] at this
    rw [e] at this; exact absurd rfl this
  · exact q
  · have := nd2 j i (by simpa using hj) (by simpa using hi) q
    simp only [List.getElem_map, List.getElem_range] at this
    rw [e] at this; exact absurd rfl this
theorem all_pos {k n : Nat} (h2 : 2 ≤ n) (h : allK k n = true) (hk : k ≤ n) : 0 < k ∧ k < n := by
  constructor
  · refine Nat.pos_of_ne_zero fun q => ?_
    subst q
    have := all_inj h (i := 0) (j := 1) (by lia) (by lia) (by simp)
    lia
  · refine Nat.lt_of_le_of_ne hk fun q => ?_
    subst q
    have := all_inj h (i := 0) (j := 1) (by lia) (by lia) (by simp)
    lia
theorem sorted_le {l : List Int} (hs : l.Pairwise (· ≤ ·)) {a b : Nat} (hab : a < b) (hb : b < l.length) : l.getD a 0 ≤ l.getD b 0 := by
  have ha : a < l.length := by lia
  have := List.pairwise_iff_getElem.mp hs a b ha hb hab
  rw [List.getD_eq_getElem?_getD, List.getD_eq_getElem?_getD, List.getElem?_eq_getElem ha, List.getElem?_eq_getElem hb]
  exact this
theorem same_parts {x y u v : Int} (h : x ≤ y) (h' : u ≤ v) (e : x + u = y + v) : u = v := Int.le_antisymm h' (Int.le_of_add_le_add_left (Int.le_trans (Int.le_of_eq e.symm) (Int.add_le_add_right h u)))
theorem rk_made {l : List Int} {k c : Nat} (hl : l.length = r.length) (hs : l.Pairwise (· ≤ ·)) (h2 : 2 ≤ r.length) (h7 : r.length ≤ 7) (hr : ∀ x ∈ r, 0 ≤ x ∧ x < 64) (hk : allK k r.length = true) (hkn : k ≤ r.length)
    (hx : ∀ p, p < r.length → r.getD p 0 = l.getD ((c + p * k) % r.length) 0 + if r.length ≤ (c + p * k) % r.length + k then 1 else 0) : Rk (tsOf r) (fun p => (c + p * k) % r.length) k := by
  obtain ⟨k0, kn⟩ := all_pos h2 hk hkn
  have n0 : 0 < r.length := Nat.lt_of_lt_of_le (by decide) h2
  have bd : ∀ p, (c + p * k) % r.length < r.length := fun p => Nat.mod_lt _ n0
  have st : ∀ p, (c + (p + 1) * k) % r.length = ((c + p * k) % r.length + k) % r.length := fun p => by rw [Nat.mod_add_mod, Nat.succ_mul, Nat.add_assoc]
  have mo : ∀ p, (c + p % r.length * k) % r.length = (c + p * k) % r.length := fun p => by
    rw [← Nat.add_mod_mod, Nat.mul_mod, Nat.mod_mod, ← Nat.mul_mod, Nat.add_mod_mod]
  have inj : ∀ A i j, i < r.length → j < r.length → (A + i * k) % r.length = (A + j * k) % r.length → i = j := fun A i j hi hj e => all_inj hk hi hj (mod_cancel n0 e)
  have xa : ∀ p, xAt r p = l.getD ((c + p * k) % r.length) 0 + if r.length ≤ (c + p * k) % r.length + k then 1 else 0 := fun p => by
    have := hx (p % r.length) (Nat.mod_lt _ n0)
    rw [mo] at this
    exact this
  have lex : ∀ p q, (c + p * k) % r.length < (c + q * k) % r.length → ∀ j, Vn r p j ≤ Vn r q j ∧ (Vn r p j = Vn r q j → (c + (p + j) * k) % r.length < (c + (q + j) * k) % r.length) := by
    intro p q h j
    induction j with
    | zero => exact ⟨Int.le_refl _, fun _ => h⟩
    | succ j ih =>
      obtain ⟨i1, i2⟩ := ih
      by_cases he : Vn r p j = Vn r q j
      · have hab := i2 he
        have ha := xa (p + j)
        have hb := xa (q + j)
        have sa := st (p + j)
        have sb := st (q + j)
        rw [← Nat.add_assoc, ← Nat.add_assoc, sa, sb, Vn, Vn, he]
        have bb := bd (q + j)
        obtain ⟨m1, m2⟩ := small_lex ⟨r.length, Nat.lt_succ_of_le h7⟩ ⟨k, lt8 h7 kn⟩ ⟨_, lt8 h7 bb⟩ ⟨_, lt8 h7 (Nat.lt_trans hab bb)⟩ kn bb hab
        have hlab := sorted_le hs hab (by rw [hl]; exact bb)
        dsimp only at m1 m2
        rw [ha, hb]
        exact ⟨Int.add_le_add_left (Int.add_le_add hlab m1) _, fun e => m2 (same_parts hlab m1 (Int.add_left_cancel e))⟩
      · have := V_lt hr (Int.lt_iff_le_and_ne.mpr ⟨i1, he⟩) 1
        exact ⟨Int.le_of_lt this, fun q => absurd q (Int.ne_of_lt this)⟩
  have strict : ∀ p q, (c + p * k) % r.length < (c + q * k) % r.length → Vn r p r.length < Vn r q r.length := fun p q h => by
    have hle := (lex p q h r.length).1
    refine Int.lt_iff_le_and_ne.mpr ⟨hle, fun he => ?_⟩
    have hm : 0 ∈ (List.range r.length).map fun j => (c + (q + j) * k) % r.length := nodup_full (N := r.length) (by
      rw [List.Nodup, List.pairwise_iff_getElem]
      intro i j hi hj hij e
      simp only [List.getElem_map, List.getElem_range] at e
      rw [Nat.add_mul, Nat.add_mul, ← Nat.add_assoc, ← Nat.add_assoc] at e
      exact Nat.ne_of_lt hij (inj _ i j (by simpa using hi) (by simpa using hj) e)) (by simp) (fun x hx => by obtain ⟨j, _, rfl⟩ := List.mem_map.mp hx; exact bd _) n0
    obtain ⟨j, hj, e0⟩ := List.mem_map.mp hm
    have hj' : j < r.length := List.mem_range.mp hj
    have h3 := (lex p q h j).2 (V_eq hr he j hj').1
    exact Nat.not_lt_zero _ (e0 ▸ h3)
  refine ⟨k0, by rw [ts_length]; exact kn, fun p _ => by rw [ts_length]; exact bd p, fun p q hp hq => ?_, fun p q hp hq e => ?_, fun p hp => ?_⟩
  · rw [ts_length] at hp hq
    refine (ts_cmp hr h2 h7 hp hq).trans ⟨fun h => ?_, strict p q⟩
    rcases Nat.lt_trichotomy ((c + p * k) % r.length) ((c + q * k) % r.length) with h' | h' | h'
    · exact h'
    · exact absurd (inj c p q hp hq h' ▸ h) (Int.lt_irrefl _)
    · exact absurd (Int.lt_trans h (strict q p h')) (Int.lt_irrefl _)
  · rw [ts_length] at hp hq
    exact inj c p q hp hq e
  · rw [ts_length]
    show (c + (p + 1) % r.length * k) % r.length = _
    rw [mo, st]
end
end Mine
end
noncomputable section
open PySem PySem.W PyProof.Rows
namespace Mine
theorem srt_mem {l : List Int} {x : Int} (h : x ∈ srt l) : x ∈ l := (srt_perm l).mem_iff.mp h
theorem spread_cases (shape : Nat) : spreadOf shape = 3 ∨ spreadOf shape = 63 := by unfold spreadOf; split <;> simp
theorem rises_bd {shape : Nat} {ns : List Int} : ∀ x ∈ risesOf shape ns, 0 ≤ x ∧ x < 63 := fun x hx => by
  unfold risesOf at hx
  obtain ⟨z, _, rfl⟩ := List.mem_map.mp (srt_mem hx)
  rcases spread_cases shape with h | h <;> rw [h] <;> lia
theorem made_bd {l : List Int} {k : Nat} (h : ∀ x ∈ l, 0 ≤ x ∧ x < 63) : ∀ x ∈ made l k, 0 ≤ x ∧ x < 64 := fun x hx => by
  unfold made at hx
  obtain ⟨i, hi, rfl⟩ := List.mem_map.mp hx
  have hi' : i < l.length := List.mem_range.mp hi
  have hj : i * k % l.length < l.length := Nat.mod_lt _ (by lia)
  rw [figs_at hj, List.getD_eq_getElem?_getD, List.getElem?_eq_getElem hj]
  have := h _ (List.getElem_mem hj)
  simp only [Option.getD_some]
  split <;> lia
theorem getD_bd {l : List Int} (h : ∀ x ∈ l, 0 ≤ x ∧ x < 64) (i : Nat) : 0 ≤ l.getD i 0 ∧ l.getD i 0 < 64 := by
  rw [List.getD_eq_getElem?_getD]
  cases e : l[i]? with
  | none => simp
  | some x => exact h x (List.mem_of_getElem? e)
theorem ring_bd {shape : Nat} {ns : List Int} {step : Nat} : ∀ x ∈ ringOf shape ns step, 0 ≤ x ∧ x < 64 := fun x hx => by
  have hm := made_bd (k := step) (rises_bd (shape := shape) (ns := ns))
  unfold ringOf at hx
  split at hx
  · obtain ⟨z, _, rfl⟩ := List.mem_map.mp hx
    rcases spread_cases shape with h | h <;> rw [h] <;> lia
  · unfold ring1 at hx
    split at hx
    · unfold swapAt at hx
      rcases List.mem_append.mp hx with hx | hx
      · rcases List.mem_append.mp hx with hx | hx
        · exact hm x (List.mem_of_mem_take hx)
        · simp only [List.mem_cons, List.not_mem_nil, or_false] at hx
          rcases hx with rfl | rfl <;> exact getD_bd hm _
      · exact hm x (List.mem_of_mem_drop hx)
    · exact hm x hx
theorem sum_bd : ∀ {l : List Int}, (∀ x ∈ l, 0 ≤ x ∧ x ≤ 1) → 0 ≤ l.sum ∧ l.sum ≤ l.length
  | [], _ => by simp
  | a :: l, h => by
    have h1 := h a List.mem_cons_self
    have h2 := sum_bd fun x hx => h x (List.mem_cons_of_mem _ hx)
    rw [List.sum_cons, List.length_cons]; lia
theorem quos_length {r : List Int} : (quosOf r).length = r.length := by simp [quosOf]
theorem turned_get {l : List Int} {t p : Nat} (ht : t < l.length) (hp : p < l.length) : (turned l t).getD p 0 = l.getD ((t + p) % l.length) 0 := by
  rw [List.getD_eq_getElem?_getD, turned_at ht hp, List.getD_eq_getElem?_getD]
theorem all_surj {k n : Nat} (h : allK k n = true) {i : Nat} (hi : i < n) : ∃ t, t < n ∧ t * k % n = i := by
  have hm : i ∈ (List.range n).map fun j => j * k % n := nodup_full (N := n) (by
    rw [List.Nodup, List.pairwise_iff_getElem]
    intro a b ha hb hab e
    simp only [List.getElem_map, List.getElem_range] at e
    have := all_inj h (i := a) (j := b) (by simpa using ha) (by simpa using hb) e
    lia) (by simp) (fun x hx => by obtain ⟨j, _, rfl⟩ := List.mem_map.mp hx; exact Nat.mod_lt _ (by lia)) hi
  obtain ⟨t, ht, e⟩ := List.mem_map.mp hm
  exact ⟨t, List.mem_range.mp ht, e⟩
theorem ext_getD {l l' : List Int} (h : l.length = l'.length) (e : ∀ i, i < l.length → l.getD i 0 = l'.getD i 0) : l = l' := by
  refine List.ext_getElem h fun i h1 h2 => ?_
  have := e i h1
  rw [List.getD_eq_getElem?_getD, List.getD_eq_getElem?_getD, List.getElem?_eq_getElem h1, List.getElem?_eq_getElem h2] at this
  exact this
theorem idx_mod (t p k n : Nat) : (t + p) % n * k % n = (t * k + p * k) % n := by
  rw [Nat.mul_mod, Nat.mod_mod, ← Nat.mul_mod, Nat.add_mul]
theorem keeps_turns {r : List Int} (hr : ∀ x ∈ r, 0 ≤ x ∧ x < 64) (h2 : 2 ≤ r.length) (h7 : r.length ≤ 7) {S : Nat} (hS : (fallsF (tsOf r)).sum = S) (hSn : S ≤ r.length) :
    keepsOf (tsOf r) = (allK S r.length && decide (r ∈ (List.range r.length).map fun p => turned (made (srt (quosOf r)) S) p)) := by
  have tl := ts_length (r := r)
  have ll : (srt (quosOf r)).length = r.length := by rw [srt_length, quos_length]
  cases hk : keepsOf (tsOf r) with
  | true =>
    obtain ⟨ρ, k, R⟩ := keeps_rk (by rw [tl]; exact h2) (by rw [tl]; exact h7) hk
    have hkS : k = S := by have := R.sum (by rw [tl]; exact h7); lia
    subst hkS
    have ha := R.all
    rw [tl] at ha
    have h0 := R.bd 0 (by rw [tl]; lia)
    rw [tl] at h0
    obtain ⟨t, ht, et⟩ := all_surj ha h0
    rw [ha, Bool.true_and]
    symm
    rw [decide_eq_true_eq]
    refine List.mem_map.mpr ⟨t, List.mem_range.mpr ht, ?_⟩
    refine (ext_getD (by rw [turned_length, made_length, ll]) fun p hp => ?_).symm
    have hml : (made (srt (quosOf r)) k).length = r.length := by rw [made_length, ll]
    have hlin := R.lin p (by rw [tl]; exact hp)
    rw [tl] at hlin
    rw [turned_get (by rw [hml]; exact ht) (by rw [hml]; exact hp), hml, made_at (by rw [ll]; exact Nat.mod_lt _ (by lia)), ll, idx_mod, ← Nat.mod_add_mod, et, ← hlin]
    exact fig_of hr h2 h7 R hp
  | false =>
    symm
    rw [Bool.and_eq_false_iff]
    refine Decidable.byContradiction fun hn => ?_
    rw [not_or, Bool.not_eq_false, Bool.not_eq_false, decide_eq_true_eq] at hn
    obtain ⟨ha, hm⟩ := hn
    obtain ⟨t, ht, et⟩ := List.mem_map.mp hm
    have ht' : t < r.length := List.mem_range.mp ht
    have hml : (made (srt (quosOf r)) S).length = r.length := by rw [made_length, ll]
    have R := rk_made (r := r) (l := srt (quosOf r)) (k := S) (c := t * S) ll (srt_pw _) h2 h7 hr ha hSn fun p hp => by
      have e : r.getD p 0 = (turned (made (srt (quosOf r)) S) t).getD p 0 := by rw [et]
      rw [e, turned_get (by rw [hml]; exact ht') (by rw [hml]; exact hp), hml, made_at (by rw [ll]; exact Nat.mod_lt _ (by lia)), ll, idx_mod]
    have := R.keeps (by rw [tl]; exact h2) (by rw [tl]; exact h7)
    rw [hk] at this; cases this
theorem plain (shape : Nat) (ns : List Int) (h : ns.length = 2 + shape % 6) : ∃ S, Asked (ringOf shape ns (1 + shape / 6 % (ns.length - 1))) (risesOf shape ns) (1 + shape / 6 % (ns.length - 1)) (madeOf shape ns (1 + shape / 6 % (ns.length - 1))) S := by
  obtain ⟨st, hst⟩ : ∃ st, st = 1 + shape / 6 % (ns.length - 1) := ⟨_, rfl⟩
  have hst2 : st ≤ ns.length := by have := Nat.mod_lt (shape / 6) (show 0 < ns.length - 1 by lia); lia
  rw [← hst]
  have hr := ring_bd (shape := shape) (ns := ns) (step := st)
  have hrl : (ringOf shape ns st).length = ns.length := ringOf_length (by lia)
  obtain ⟨r, e⟩ : ∃ r, r = ringOf shape ns st := ⟨_, rfl⟩
  rw [← e] at hr hrl ⊢
  have h2 : 2 ≤ r.length := by lia
  have h7 : r.length ≤ 7 := by lia
  have fb : ∀ x ∈ fallsF (tsOf r), 0 ≤ x ∧ x ≤ 1 := fun x hx => by
    unfold fallsF at hx
    obtain ⟨q, _, rfl⟩ := List.mem_map.mp hx
    split <;> lia
  have sb := sum_bd fb
  rw [falls_length, ts_length] at sb
  have hS : (fallsF (tsOf r)).sum = ((fallsF (tsOf r)).sum.toNat : Nat) := by lia
  refine ⟨(fallsF (tsOf r)).sum.toNat, hr, hS, by lia, good_all hr h2 h7 _ (Nat.le_refl _), keeps_turns hr h2 h7 hS (by lia), fun hm => ?_⟩
  unfold madeOf at hm
  rw [Bool.and_eq_true, decide_eq_true_eq] at hm
  obtain ⟨hk, ha⟩ := hm
  have er : r = made (risesOf shape ns) st := by
    rw [e]; unfold ringOf; rw [if_neg (by lia)]; unfold ring1; rw [if_neg (by lia)]
  have rl : (risesOf shape ns).length = r.length := by rw [risesOf_length, hrl]
  have fx : ∀ p, p < r.length → r.getD p 0 = (risesOf shape ns).getD ((0 + p * st) % r.length) 0 + if r.length ≤ (0 + p * st) % r.length + st then 1 else 0 := fun p hp => by
    have := made_at (l := risesOf shape ns) (k := st) (i := p) (by rw [rl]; exact hp)
    rw [← er, rl] at this
    rw [Nat.zero_add]; exact this
  rw [← hrl] at ha
  have R := rk_made (r := r) (l := risesOf shape ns) (k := st) (c := 0) rl (srt_pw _) h2 h7 hr ha (by lia) fx
  have tl := ts_length (r := r)
  refine ⟨R.keeps (by rw [tl]; exact h2) (by rw [tl]; exact h7), ?_, ?_⟩
  · refine ext_getD (by rw [srt_length, quos_length, rl]) fun i hi => ?_
    rw [srt_length, quos_length] at hi
    obtain ⟨p, hp, ep⟩ := all_surj ha hi
    have e1 := fig_of hr h2 h7 R hp
    have e2 := fx p hp
    have e3 : (0 + p * st) % r.length = i := by rw [Nat.zero_add]; exact ep
    rw [e3] at e1 e2
    rw [e2] at e1
    split at e1 <;> lia
  · have := R.sum (by rw [tl]; exact h7)
    lia
end Mine
end
noncomputable section
open PySem PySem.W PyProof.Rows
namespace Mine
/-- the numbers of a run, and what the steps of the text ask of them -/
structure Pl (ns nm : List Int) (sh n st : Nat) (nu r : List Int) (Sm : Nat) : Prop where
  d62 : ((drawnOf ns).map D.int).length < 2 ^ 62
  dln : D.int (((drawnOf ns).map D.int).length : Int) = D.int (drawnOf ns).length
  dsz : ((drawnOf ns).map D.int).length + (([9, 40, 7, 40, 21, 62, 13, 30].map D.int).drop ((drawnOf ns).length : Int).toNat).length ≤ sizeLine
  nmE : D.list ((drawnOf ns).map D.int ++ ([9, 40, 7, 40, 21, 62, 13, 30].map D.int).drop ((drawnOf ns).length : Int).toNat) = D.list (nm.map D.int)
  s0 : (nm.map D.int)[Int.toNat 0]? = some (D.int sh)
  nE : D.int (2 + (sh : Int) % 6) = D.int n
  n1 : 0 < (n : Int) - 1
  stE : D.int (1 + (sh : Int) / 6 % ((n : Int) - 1)) = D.int st
  st2 : st ≤ 100
  nuE : D.list (((nm.map D.int).drop (Int.toNat 1)).take (((n + 1 : Nat) : Int).toNat - Int.toNat 1)) = D.list (nu.map D.int)
  m1 : (1 : Int) ≤ ((n + 1 : Nat) : Int)
  m2 : (((n + 1 : Nat) : Int)).toNat ≤ (nm.map D.int).length
  m3 : (nm.map D.int).length ≤ sizeLine
  nu2 : 2 ≤ nu.length
  nu7 : nu.length ≤ 7
  rE : ringOf sh nu st = r
  r2 : 2 ≤ r.length
  r7 : r.length ≤ 7
  t2 : 2 ≤ (tsOf r).length
  t7 : (tsOf r).length ≤ 7
  fl : (fallsF (tsOf r)).length = r.length
  f1 : ∀ x ∈ fallsF (tsOf r), 0 ≤ x ∧ x ≤ 1
  q64 : (quosOf r).length < 64
  s100 : Sm ≤ 100
  n0 : 0 < n
  n61 : n < 2 ^ 61
  n60 : n ≤ 60
  k100 : (srt (quosOf r)).length ≤ 100
  ml : (made (srt (quosOf r)) Sm).length = n
  rq : (srt (quosOf r)).length = (risesOf sh nu).length
  sum : (fallsF (tsOf r)).sum = Sm
  bd : ∀ x ∈ r, 0 ≤ x ∧ x < 64
  good : goodI r (fallsF (tsOf r)) r.length = true
  kp : (keepsOf (tsOf r) != (allK Sm n && decide (r ∈ (List.range n).map fun p => turned (made (srt (quosOf r)) Sm) p))) = false
  fin : (!madeOf sh nu st || (keepsOf (tsOf r) && (decide (srt (quosOf r) = risesOf sh nu) && decide ((Sm : Int) = (st : Int))))) = true
inductive PlEx (ns : List Int) : Prop
  | mk (nm : List Int) (sh n st : Nat) (nu r : List Int) (Sm : Nat) (p : Pl ns nm sh n st nu r Sm)
theorem drawn_le (ns : List Int) : (drawnOf ns).length ≤ 8 := by
  unfold drawnOf; rw [List.length_map, List.length_take]; exact Nat.min_le_left _ _
theorem numbers_length {dr : List Int} (h : dr.length ≤ 8) : (numbersOf dr).length = 8 := by
  unfold numbersOf; rw [List.length_append, List.length_drop]; exact Nat.add_sub_cancel' h
theorem numbers_pos {ns : List Int} : ∀ x ∈ numbersOf (drawnOf ns), 0 ≤ x := by
  refine all_app (fun x hx => ?_) fun x hx => ?_
  · unfold drawnOf at hx
    obtain ⟨z, _, rfl⟩ := List.mem_map.mp hx
    exact Int.emod_nonneg _ (by decide)
  · exact (by decide : ∀ x ∈ [9, 40, 7, 40, 21, 62, 13, 30], (0 : Int) ≤ x) x (List.mem_of_mem_drop hx)
theorem falls_bd {ts : List Int} : ∀ x ∈ fallsF ts, 0 ≤ x ∧ x ≤ 1 := fun x hx => by
  unfold fallsF at hx
  obtain ⟨q, _, rfl⟩ := List.mem_map.mp hx
  split
  · exact ⟨by decide, by decide⟩
  · exact ⟨by decide, by decide⟩
theorem st_num {sh n : Nat} (h : 2 ≤ n) : 1 + (sh : Int) / 6 % ((n : Int) - 1) = ((1 + sh / 6 % (n - 1) : Nat) : Int) := by
  rw [show ((n : Int) - 1) = ((n - 1 : Nat) : Int) by lia]; simp
theorem pl_of (ns : List Int) : PlEx ns := by
  have hdl := drawn_le ns
  have hnl := numbers_length hdl
  have h0 : 0 < (numbersOf (drawnOf ns)).length := hnl ▸ (by decide)
  have hp := numbers_pos _ (List.getElem_mem h0)
  have hs : (numbersOf (drawnOf ns))[0] = (((numbersOf (drawnOf ns))[0].toNat : Nat) : Int) := (Int.toNat_of_nonneg hp).symm
  have hg : (numbersOf (drawnOf ns))[0]? = some (((numbersOf (drawnOf ns))[0].toNat : Nat) : Int) := by rw [List.getElem?_eq_getElem h0, ← hs]
  have nmE : D.list ((drawnOf ns).map D.int ++ ([9, 40, 7, 40, 21, 62, 13, 30].map D.int).drop ((drawnOf ns).length : Int).toNat) = D.list ((numbersOf (drawnOf ns)).map D.int) := by
    unfold numbersOf; rw [Int.toNat_natCast, List.map_append, List.map_drop]
  have dsz : ((drawnOf ns).map D.int).length + (([9, 40, 7, 40, 21, 62, 13, 30].map D.int).drop ((drawnOf ns).length : Int).toNat).length ≤ sizeLine :=
    Nat.le_trans (Nat.add_le_add (lm hdl) (lp (n := 8) (Nat.le_refl _))) (by decide)
  have d62 : ((drawnOf ns).map D.int).length < 2 ^ 62 := Nat.lt_of_le_of_lt (lm hdl) (by decide)
  generalize hnm : numbersOf (drawnOf ns) = nm at *
  generalize nm[0].toNat = sh at *
  have hn : 2 ≤ 2 + sh % 6 ∧ 2 + sh % 6 ≤ 7 := ⟨Nat.le_add_right _ _, Nat.add_le_add_left (Nat.le_of_lt_succ (Nat.mod_lt _ (by decide))) 2⟩
  have hsn := Nat.mod_lt (sh / 6) (Nat.sub_pos_of_lt hn.1)
  have stE := st_num (sh := sh) hn.1
  generalize hne : 2 + sh % 6 = n at *
  have hst2 : 1 + sh / 6 % (n - 1) ≤ n := Nat.le_trans (by rw [Nat.add_comm]; exact hsn) (Nat.sub_le _ _)
  have hnul : ((nm.drop 1).take n).length = n := by rw [List.length_take, List.length_drop, hnl]; exact Nat.min_eq_left hn.2
  obtain ⟨Sm, AS⟩ := plain sh ((nm.drop 1).take n) (by rw [hnul, hne])
  rw [hnul] at AS
  have hrl : (ringOf sh ((nm.drop 1).take n) (1 + sh / 6 % (n - 1))).length = n := by rw [ringOf_length (by rw [hnul]; exact hn.1), hnul]
  have rq : (risesOf sh ((nm.drop 1).take n)).length = n := by rw [risesOf_length, hnul]
  have nuE : D.list (((nm.map D.int).drop (Int.toNat 1)).take (((n + 1 : Nat) : Int).toNat - Int.toNat 1)) = D.list (((nm.drop 1).take n).map D.int) := by
    rw [Int.toNat_natCast, List.map_take, List.map_drop]; rfl
  generalize hnu : (nm.drop 1).take n = nu at *
  generalize hst : 1 + sh / 6 % (n - 1) = st at *
  generalize hr : ringOf sh nu st = r at *
  have tl : (tsOf r).length = n := ts_length.trans hrl
  have ql : (quosOf r).length = n := quos_length.trans hrl
  have sl : (srt (quosOf r)).length = n := by rw [srt_length, ql]
  have hSn : Sm ≤ n := hrl ▸ AS.sle
  have n100 : n ≤ 100 := Nat.le_trans hn.2 (by decide)
  refine ⟨nm, sh, n, st, nu, r, Sm, d62, by rw [List.length_map], dsz, nmE, by rw [List.getElem?_map]; exact congrArg (Option.map D.int) hg, by rw [← hne]; rfl, by lia, congrArg D.int stE, Nat.le_trans hst2 n100, nuE, Int.ofNat_le.mpr (Nat.succ_pos n),
    by rw [Int.toNat_natCast, List.length_map, hnl]; exact Nat.succ_le_succ hn.2, by rw [List.length_map, hnl]; decide, hnul ▸ hn.1, hnul ▸ hn.2, hr, hrl ▸ hn.1, hrl ▸ hn.2, tl ▸ hn.1, tl ▸ hn.2, falls_length.trans ts_length, falls_bd, ql ▸ Nat.lt_of_le_of_lt hn.2 (by decide), Nat.le_trans hSn n100,
    Nat.lt_of_lt_of_le (by decide) hn.1, Nat.lt_of_le_of_lt hn.2 (by decide), Nat.le_trans hn.2 (by decide), sl ▸ n100, by rw [made_length, sl], sl.trans rq.symm, AS.sum, AS.bd, AS.good, ?_, ?_⟩
  · have := AS.keeps
    rw [hrl] at this
    rw [this]; exact bne_self_eq_false _
  · cases hm : madeOf sh nu st with
    | false => rfl
    | true =>
      obtain ⟨h1, h2, h3⟩ := AS.made hm
      rw [h1, h2, h3, decide_eq_true rfl, decide_eq_true rfl]; rfl
/-- a half or a whole, by a bit -/
inductive Half (z : Nat) : Prop
  | mk (v : Int) (h : v = 17592186044416 ∨ v = 8796093022208) (t : z % 2 ≠ 0 → v = 8796093022208) (f : z % 2 = 0 → v = 17592186044416)
theorem half_of (z : Nat) : Half z := by
  by_cases h : z % 2 = 0
  · exact ⟨17592186044416, .inl rfl, fun q => absurd h q, fun _ => rfl⟩
  · exact ⟨8796093022208, .inr rfl, fun _ => rfl, fun q => absurd q h⟩
theorem bit_cast {sh k : Nat} {m : Int} (hm : m = k) : (sh : Int) / m % 2 = ((sh / k % 2 : Nat) : Int) := by subst hm; rfl
theorem bit_t {sh k : Nat} {m : Int} (hm : m = k) (h : ((sh : Int) / m % 2 != 0) = true) : sh / k % 2 ≠ 0 := fun q => by
  rw [bit_cast hm, q] at h; cases h
theorem bit_f {sh k : Nat} {m : Int} (hm : m = k) (h : ((sh : Int) / m % 2 != 0) = false) : sh / k % 2 = 0 := by
  rw [bit_cast hm] at h
  exact Int.ofNat.inj (Decidable.byContradiction fun q => by have := (bne_iff_ne.mpr q).symm.trans h; cases this)
end Mine
end
noncomputable section
open PySem PySem.W PyProof.Rows
namespace Mine
open PySem.Calls
theorem drawn_eq (ns : List Int) : (List.range (((ns.take 8).map D.int).map fun d => [d]).length).map (fun i => D.int ((ns.take 8).getD i 0 % 1000000)) = (drawnOf ns).map .int := by
  unfold drawnOf
  generalize ns.take 8 = l
  apply List.ext_getElem?
  intro i
  by_cases hi : i < l.length
  · rw [List.getElem?_map, List.getElem?_range (by simpa using hi), List.getElem?_map, List.getElem?_map, List.getElem?_eq_getElem hi]
    simp [List.getElem?_eq_getElem hi]
  · rw [List.getElem?_eq_none (by simpa using hi), List.getElem?_eq_none (by simpa using hi)]
theorem booked {K : Frag} {g₀ : Heap} {mc : Str → Option Value} (kin : K.In g₀) (hk : K.lookup cStatics = some { cls := .none, data := .dict #[] }) (h : g₀.Ns cStatics mc) : NoneBooked g₀ :=
  by
  obtain ⟨o, es, ep, e, hd, h3, hf⟩ := id h
  have e2 := kin cStatics { cls := .none, data := .dict #[] } hk
  rw [e] at e2; cases e2
  cases hd
  exact ⟨mc, h, by rw [← hf]; rfl⟩
theorem ex_frm {prog : Program} {w : World} {g₀ : Heap} {A : Around} {H₀ X : List Addr} {env : Env} {ρ : List (Str × D)} {R : Cf → Prop} {target : Expr} {items : List (List D)} {xv : Value} {s₁ : Shared} {c₀ c : Cf} (hs : c.s = s₁) (hR : R c₀) (F : Frm g₀ H₀ X env c₀ c) (V : Vars (X ++ H₀) env c ρ) (hI : SOk g₀ (X ++ H₀) c → ISb prog w A (X ++ H₀) c target items xv) :
    ∃ c₀ c : Cf, c.s = s₁ ∧ R c₀ ∧ Frm g₀ H₀ X env c₀ c ∧ Vars (X ++ H₀) env c ρ ∧ ISb prog w A (X ++ H₀) c target items xv := ⟨c₀, c, hs, hR, F, V, hI F.so⟩
theorem lookup_cell_one {nm : Str} : ∀ {names : List (Str × NameKind)} {x : Str}, (names.all fun q => q.2 != .cell || q.1 == nm) = true → names.lookup x = some .cell → x = nm := fun {names x} h hx => by
  have := List.all_eq_true.mp h _ (mem_of_lookup_some hx)
  simpa using this
/-- a return, and the frame behind it -/
inductive RF (g₀ : Heap) (H₀ X : List Addr) (env : Env) (c₀ : Cf) (d : D) (fl : Flow) (s' : Shared) : Prop
  | mk (v : Value) (c' : Cf) (ef : fl = .ret v) (es : c'.s = s') (F : Frm g₀ H₀ X env c₀ c') (r : Rep (X ++ H₀) c' d v)
theorem sx_rf {prog : Program} {w : World} {g₀ : Heap} {A : Around} {H₀ X : List Addr} {env : Env} {c₀ c : Cf} {rest : List Stmt} {Q : Flow → Shared → Prop} {d : D} (F : Frm g₀ H₀ X env c₀ c) (h : SX prog w A env rest (RF g₀ H₀ X env c₀ d) c)
    (hq : ∀ v c', Frm g₀ H₀ X env c₀ c' → Rep (X ++ H₀) c' d v → Q (.ret v) c'.s) : SX prog w A env rest Q c := ne_mono h fun fl s' g => by
  obtain ⟨v, c', rfl, rfl, F, r⟩ := g
  exact hq v c' F r
theorem turned_map {α : Type} {f : α → D} {l : List α} {k : Nat} : D.list ((l.map f).drop ((k : Int)).toNat ++ (l.map f).take ((k : Int)).toNat) = D.list ((turned l k).map f) := by
  unfold turned; rw [Int.toNat_natCast, List.map_append, List.map_drop, List.map_take]
theorem turned_map1 {α : Type} {f : α → D} {l : List α} : D.list ((l.map f).drop (Int.toNat 1) ++ (l.map f).take (Int.toNat 1)) = D.list ((turned l 1).map f) := turned_map (k := 1)
theorem zip_le {l : List Int} {n : Nat} (h : l.length ≤ n) : (l.zip (turned l 1)).length ≤ n := by rw [List.length_zip]; exact Nat.le_trans (Nat.min_le_left _ _) h
/-! The library's quick twins of these constants would be laid under these names; none is wanted (the kernel is quick without them, and each is large), so the names are taken. -/
theorem law_holds.tw357486453476387696 : True := trivial
theorem law_holds.tw13536078969547264968 : True := trivial
theorem law_holds.tw3782015123365410008 : True := trivial
theorem law_holds.tw5921266910854142679 : True := trivial
theorem law_holds.tw12139075566331608612 : True := trivial
theorem law_holds.tw15452448965706171373 : True := trivial
theorem law_holds.tw11790664574121322394 : True := trivial
theorem law_holds.tw14497384708736915567 : True := trivial
theorem law_holds.tw10368410895845634921 : True := trivial
theorem law_holds.tw6103750384551583581 : True := trivial
theorem law_holds.tw653560878884961445 : True := trivial
theorem law_holds.tw10371022188087798493 : True := trivial
theorem law_holds.tw18203989763732354715 : True := trivial
theorem law_holds.tw15448297888555860652 : True := trivial
theorem law_holds.tw12115171985352901274 : True := trivial
theorem law_holds.tw18090433342136740992 : True := trivial
theorem law_holds.tw14385925486924208373 : True := trivial
theorem law_holds.tw15661869461025623997 : True := trivial
theorem law_holds.tw7185456241796803578 : True := trivial
theorem law_holds.tw12732824653754844360 : True := trivial
theorem law_holds.tw13956741780833797525 : True := trivial
theorem law_holds.tw8984712037535005518 : True := trivial
theorem law_holds.tw10242277825702978295 : True := trivial
theorem law_holds.tw14571795756577361901 : True := trivial
theorem law_holds.tw4916342969005030805 : True := trivial
theorem law_holds.tw12303009252429188658 : True := trivial
theorem law_holds.tw17027635718292003107 : True := trivial
theorem law_holds.tw13766487248619392586 : True := trivial
theorem law_holds.tw4464252984393422682 : True := trivial
theorem law_holds.tw6776455111828631412 : True := trivial
theorem law_holds.tw1377309892636839040 : True := trivial
theorem law_holds.tw8652346329174877282 : True := trivial
theorem law_holds.tw16461882675039125421 : True := trivial
theorem law_holds.tw4781243967656130014 : True := trivial
theorem law_holds.tw4037582482628031876 : True := trivial
theorem law_holds.tw7120836010843673076 : True := trivial
theorem law_holds.tw2644310842459337959 : True := trivial
theorem law_holds.tw8835965917227929528 : True := trivial
theorem law_holds.tw10666784280354678857 : True := trivial
theorem law_holds.tw15607887362523206001 : True := trivial
theorem law_holds.tw9682718004065560343 : True := trivial
theorem law_holds.tw7408322871517469003 : True := trivial
theorem law_holds.tw602461330855297101 : True := trivial
theorem law_holds.tw10566571302883470556 : True := trivial
theorem law_holds.tw6507877686720480950 : True := trivial
theorem law_holds.tw10841264019214440115 : True := trivial
theorem law_holds.tw10188763426450519768 : True := trivial
theorem law_holds.tw3253568177066640346 : True := trivial
theorem law_holds.tw6860709855171689206 : True := trivial
theorem law_holds.tw14822640431511872941 : True := trivial
theorem law_holds.tw10817052189556005596 : True := trivial
theorem law_holds.tw4323815956820902445 : True := trivial
theorem law_holds.tw15806970514647361693 : True := trivial
theorem law_holds.tw11846676642670509255 : True := trivial
theorem law_holds.tw498061464947678834 : True := trivial
theorem law_holds.tw1414043511812021011 : True := trivial
theorem law_holds.tw16893121556090616931 : True := trivial
theorem law_holds.tw16614716721108272449 : True := trivial
theorem law_holds.tw16720094985154256693 : True := trivial
theorem law_holds.tw4581845663705801772 : True := trivial
theorem law_holds.tw11100686419730198450 : True := trivial
theorem law_holds.tw8957123355933967898 : True := trivial
theorem law_holds.tw3438298445031660282 : True := trivial
theorem law_holds.tw9013377322688217293 : True := trivial
theorem law_holds.tw784011647948385275 : True := trivial
theorem law_holds.tw4441770287765753910 : True := trivial
theorem law_holds.tw14925382992726071281 : True := trivial
theorem law_holds.tw11404014056486942332 : True := trivial
theorem law_holds.tw14289194402921355359 : True := trivial
theorem law_holds.tw9423440377400516374 : True := trivial
theorem law_holds.tw18326849912455186884 : True := trivial
theorem law_holds.tw14997073306097389879 : True := trivial
theorem law_holds.tw15544829507116839252 : True := trivial
theorem law_holds.tw11625900857008200698 : True := trivial
theorem law_holds.tw2043166853727251185 : True := trivial
theorem law_holds.tw4273555757443719353 : True := trivial
theorem law_holds.tw14498155544194170393 : True := trivial
theorem law_holds.tw14390095281932903014 : True := trivial
theorem law_holds.tw13431030151845061361 : True := trivial
theorem law_holds.tw8970147916757833333 : True := trivial
theorem law_holds.tw7239823064295952867 : True := trivial
theorem law_holds.tw1724926542741425601 : True := trivial
theorem law_holds.tw926570990666696690 : True := trivial
theorem law_holds.tw15191720212996534143 : True := trivial
set_option Elab.async true
set_option maxRecDepth 100000 in
set_option maxHeartbeats 8000000 in
theorem law_holds : PySem.Challenge.rw_wf0045_01.Holds := by
  w_on; o_law
  o_head (kmHook hd.heap_1 [2, 3, 6, 15, 17, 18, 20, 21, 22, 24, 25, 27, 28, 29, 31, 32, 34, 35, 36, 38, 39, 41, 42, 43, 45, 46, 48, 49, 50, 52, 53, 55, 56, 57, 59, 60, 62, 63, 64, 66, 67, 69, 70, 71, 73, 74, 76, 77, 78, 81, 82, 83, 86, 87, 88, 91, 92, 93, 95, 96, 98, 99, 100, 103, 104, 105, 107, 108, 110, 111, 112, 115, 116, 117, 120, 121, 122, 125, 126, 127, 130, 131] (fun _ => by kernel_rfl) [44, 51])
  case hw => w_witness2
  k_go0
  rename_i w s₀ s₁ mg mb G Y fa o pm cd doc ho hcd hg X V T B TE TW ns hs hlay0 hL1 hr1 hl2 as1 as2 a us as3 hL ra w1 r0 hI hr hcond1 hcond2 hD h₁ tk₁ ob right X0 X' T' K' F' codeHd1 N' l0
  have AK : ∀ env, AOk 16 (callerA.deeper env) := fun env => (show AOk 17 callerA from ⟨rfl, by decide, by decide⟩).deeper env
  have G' : Gd _ (ghostOf s₁.heap [(48, 44), (55, 51)]) := ⟨X', ⟨mg, mb, T'.g, T'.b, T'.builtins⟩, T'.nolimit⟩
  have nb : NoneBooked (ghostOf s₁.heap [(48, 44), (55, 51)]) := let ⟨mc, h, _⟩ := T'.nodigits; booked X' rfl h
  have gm : ∀ P ∈ MUT, (ghostOf s₁.heap [(48, 44), (55, 51)]).get? P = none := fun P hP => by
    simp only [MUT, List.mem_cons, List.not_mem_nil, or_false] at hP
    rcases hP with rfl | rfl
    · exact (N' (44, tabObj #[]) (by simp)).2.2
    · exact (N' (51, tabObj #[]) (by simp)).2.2
  have gn : Gn (ghostOf s₁.heap [(48, 44), (55, 51)]) := ⟨codeHd1, codeHd, fun P hP => by
    obtain ⟨bm, ob', e1, e2, e3, e4, e5, e6⟩ := T'.bmain
    refine ⟨mg, T'.g, bm, ob', e1, e2, fun q => ?_, fun q => ?_, e3, e4, e5, e6⟩
    · obtain ⟨og, eg, pg, h1, h2, _⟩ := T'.g
      rw [q, h1] at e3; cases e3; rw [h2] at e6; cases e6
    · rw [q, gm P hP] at e3; cases e3⟩
  have hLM : s₁.heap.objs.size ∉ MUT := fun q => by
    simp only [MUT, List.mem_cons, List.not_mem_nil, or_false] at q
    have h1 : (44 : Nat) < s₁.heap.objs.size := l0.1
    have h2 : (51 : Nat) < s₁.heap.objs.size := l0.2
    rcases q with q | q
    · have q' : s₁.heap.objs.size = (44 : Nat) := q; lia
    · have q' : s₁.heap.objs.size = (51 : Nat) := q; lia
  have hlen : ns.length ≤ 63 := by lia
  have FA := F'.above
  have hul : us.length = ns.length := IntsAre.length hI
  refine ne_any (sx_compX (g₀ := ghostOf s₁.heap [(48, 44), (55, 51)]) (X := [s₁.heap.objs.size, s₁.heap.objs.size + 1]) (H₀ := MUT) (ρ := []) (names := ["cell"]) (items := ((ns.take 8).map D.int).map fun d => [d]) (p := fun _ => true) (f := fun i => .int ((ns.take 8).getD i 0 % 1000000)) (R := fun c₀ => c₀.s.gens = #[] ∧ c₀.s.os = s₁.os)
    (.one _ _) [] (AK _).h (slice_raw (k := 8) (a := a) (us := us) rfl ⟨rfl, .inl ⟨rfl, hLM, _, F'.ns, rfl⟩⟩ (lifted.at fun o e => F'.keep _ _ e) (by rw [sizeLine_eq]; lia) fun Da n h' tk hk tp hfr hD' => ?_) ?_ ?_ (fun i ds e H' C c₁ so V => ⟨rfl, fun _ => ?_⟩) fun c₀ c hR F V => ?_)
  · refine ex_frm (c₀ := ⟨⟨hideAll h' [s₁.heap.objs.size, s₁.heap.objs.size + 1], s₁.gens, s₁.drawn, tk, s₁.os⟩, fun _ => 0⟩) (c := ⟨⟨h', s₁.gens, s₁.drawn, tk, s₁.os⟩, fun _ => 0⟩) rfl ⟨hg, rfl⟩ ?_ vars_nil fun so => isb_list (AK _).h so (Rep.list (n := n) (fun q => ?_) hD' ?_)
    · exact frm_entry' (s := ⟨h', s₁.gens, s₁.drawn, tk, s₁.os⟩) rfl rfl rfl (fun x hx => lookup_cell_one rfl hx) F' N' right nb hk tp
    · obtain ⟨oo, eo⟩ : ∃ oo, h₁.get? Da = some oo := by
        rcases List.mem_append.mp q with q | q
        · rcases List.mem_cons.mp q with q | q
          · obtain ⟨oL, _, _, e, _⟩ := F'.ns; exact ⟨oL, by rw [q]; exact e⟩
          · rw [List.mem_singleton.mp q]; exact ⟨_, (N' _ List.mem_cons_self).1⟩
        · simp only [MUT, List.mem_cons, List.not_mem_nil, or_false] at q
          rcases q with q | q
          · rw [q]; exact ⟨_, (N' (44, tabObj #[]) (by simp)).1⟩
          · rw [q]; exact ⟨_, (N' (51, tabObj #[]) (by simp)).1⟩
      have hfr' : h₁.get? Da = none := hfr
      rw [hfr'] at eo; cases eo
    · exact (List.map_take (f := D.int) ▸ (rep_intsAre hI).take 8)
  · first | exact lm (Nat.le_trans (by assumption) (by decide)) | exact lr (Nat.le_trans (by assumption) (by decide)) | exact lm (lr (Nat.le_trans (by assumption) (by decide))) | exact lm (lm (lr (Nat.le_trans (by assumption) (by decide)))) | exact lml (Nat.lt_of_le_of_lt (by assumption) (by decide)) | exact Nat.lt_of_le_of_lt (lm (Nat.le_refl _)) (Nat.lt_of_le_of_lt (by assumption) (by decide)) | (rw [sizeLine_eq]; simp; lia)
  · intro ds hds
    obtain ⟨x, _, rfl⟩ := List.mem_map.mp hds
    rfl
  · rw [List.getElem?_map, List.getElem?_map, Option.map_map, Option.map_eq_some_iff] at e
    obtain ⟨x, hx, rfl⟩ := e
    have : (ns.take 8).getD i 0 = x := by rw [List.getD_eq_getElem?_getD, hx]; rfl
    rw [this]
    exact ev_bin (ev_ct G' gnB (evs_cons (ev_v V so) evs_nil) fn_int) (EV.cast (ev_bin ev_int ev_int (op_pow (by decide) (by decide +kernel))) (d' := .int 1000000) rfl) (op_modp (by decide))
  · rw [picks_true, drawn_eq] at V
    refine sx_rf (d := .bool true) F ?_ fun v c' F' rv => ?_
    rotate_left
    · obtain rfl := rv.bool_inv
      obtain ⟨mm, hmm⟩ := F'.ns
      obtain ⟨hx, tkx, ex⟩ := F'.k.same
      obtain ⟨p1, e1, _⟩ := F'.so.tab.a
      obtain ⟨p2, e2, _⟩ := F'.so.tab.b
      refine ⟨goodW_bool (m := mm) ⟨hmm, F'.so.base, FA⟩ (by rw [ex]; exact hR.1) (raisesW_false ?_) ?_ (by rw [ex]; exact hR.2), ⟨p1, e1⟩, ⟨p2, e2⟩, trivial⟩
      · wrow_none_raised
      · kc_post
    generalize s₁.heap.objs.size = L at F V ⊢
    generalize ghostOf s₁.heap [(48, 44), (55, 51)] = g₀ at F V G' gn ⊢
    generalize [L, L + 1] = X at F V ⊢
    obtain ⟨nm, sh, n, st, nu, r, Sm, p⟩ := pl_of ns
    obtain ⟨sv, hsv, svt, svf⟩ := half_of (sh / 2016)
    obtain ⟨lv, hlv, lvt, lvf⟩ := half_of (sh / 4032)
    refine sx_assign (d := .list (nm.map .int)) F V (EV.cast (ev_bin (ev_var F V) (ev_from (k := (drawnOf ns).length) (ev_list (evs_cons ev_int (evs_cons ev_int (evs_cons ev_int (evs_cons ev_int (evs_cons ev_int (evs_cons ev_int (evs_cons ev_int (evs_cons ev_int evs_nil)))))))) (Nat.le_of_ble_eq_true rfl)) (EV.cast (ev_cb G' gnB (evs_cons (ev_var F V) evs_nil) (fn_len p.d62)) p.dln) (Int.natCast_nonneg _) (Nat.le_of_ble_eq_true rfl)) (op_addl p.dsz)) p.nmE) fun c _ F V => ?_
    refine sx_assign (d := .int sh) F V (ev_item (k := 0) (ev_var F V) ev_int (by decide) p.s0 (by decide)) fun c _ F V => ?_
    refine sx_assign (d := .int (n : Nat)) F V (EV.cast (ev_bin ev_int (ev_bin (ev_var F V) ev_int (op_modp (by decide))) op_add) p.nE) fun c _ F V => ?_
    refine sx_assign (d := .int (st : Nat)) F V (EV.cast (ev_bin ev_int (ev_bin (ev_bin (ev_var F V) ev_int (op_fdivp (by decide) (by decide))) (ev_bin (ev_var F V) ev_int op_sub) (op_modp p.n1)) op_add) p.stE) fun c _ F V => ?_
    refine sx_tuple (nps := [("ring", _), ("rises", _), ("made", _)]) (AK _).h F V (ev_cf G' gnF (evs_cons (ev_var F V) (evs_cons (EV.cast (ev_mid (j := 1) (k := ((n + 1 : Nat) : Int)) (ev_var F V) ev_int (EV.cast (ev_bin (ev_var F V) ev_int op_add) rfl) (by decide) p.m1 p.m2 p.m3) p.nuE) (evs_cons (ev_var F V) evs_nil))) (p.rE ▸ ring_ok (n := 14) G' (AK _) p.nu2 p.nu7 p.st2)) (fun c _ F V => ?_) rfl rfl (all_cons (.inl rfl) (all_cons (.inl rfl) (all_one (.inl rfl))))
    have V := V.has (r := [("ring", _), ("rises", _), ("made", _), ("step", _), ("size", _), ("shape", _)]) rfl
    refine sx_assign (d := FL sv) F V (ev_if (tv_int (ev_bin (ev_bin (ev_var F V) ev_int (op_fdivp (by decide) (by decide))) ev_int (op_modp (by decide)))) (fun h => svt (bit_t rfl h) ▸ evL lit_h) (fun h => svf (bit_f rfl h) ▸ evL lit_1)) fun c _ F V => ?_
    refine sx_assign (d := FL lv) F V (ev_if (tv_int (ev_bin (ev_bin (ev_var F V) ev_int (op_fdivp (by decide) (by decide))) ev_int (op_modp (by decide)))) (fun h => lvt (bit_t rfl h) ▸ evL lit_h) (fun h => lvf (bit_f rfl h) ▸ evL lit_1)) fun c _ F V => ?_
    refine sx_tuple (nps := [("told", _), ("good", _)]) (ds := [.list ((tsOf r).map FL), .bool true]) (AK _).h F V (ev_cf G' gnF (evs_cons (ev_var F V) (evs_cons (ev_cf G' gnF (evs_cons (ev_var F V) evs_nil) (windows_ok (n := 14) G' (AK _) p.r2 p.r7 p.bd)) (evs_cons (ev_var F V) (evs_cons (ev_var F V) evs_nil)))) (told_ok (n := 13) G' (AK _) p.r2 p.r7 p.bd hsv hlv)) (fun c _ F V => ?_) rfl rfl (all_cons (.inl rfl) (all_one (.inl rfl)))
    have V := V.has (r := [("ring", _), ("told", _), ("good", _), ("rises", _), ("made", _), ("step", _), ("size", _)]) rfl
    refine sx_mapC .int (fun q : Int × Int => if q.2 < q.1 then 1 else 0) [] F V (.two _ _ _ _ _ _) (AK _).h (ia_zip (xs := tsOf r) (ys := turned (tsOf r) 1) (g := FL) (g' := FL) (AK _).h G' gnB (ev_var F V) (EV.cast (ev_cf G' gnF (evs_cons (ev_var F V) (evs_cons ev_int evs_nil)) (turned_ok (n := 15) (k := 1) G' (AK _) (by decide) (lm (Nat.le_trans p.t7 (by decide))) (by rw [List.length_map]; exact Nat.le_trans (by decide) p.t2))) turned_map1)) (zip_le (Nat.le_trans p.t7 (by decide))) (fun _ => rfl) (fun q hq H' C c₂ so V => ?_) fun c _ F V => ?_
    · exact ev_if (tv_cmp (ev_v V so) (ev_v V so) copL_lt) (fun h => (if_pos (of_decide_eq_true h)).symm ▸ ev_int) fun h => (if_neg (of_decide_eq_false h)).symm ▸ ev_int
    refine sx_tuple (nps := [("quotients", _), ("right", _)]) (ds := [.list ((quosOf r).map .int), .bool true]) (AK _).h F V (ev_cf G' gnF (evs_cons (ev_var F V) (evs_cons (ev_var F V) evs_nil)) (p.good ▸ quotients_ok (n := 3) (f := fallsF (tsOf r)) G' gn (AK _) p.r2 p.r7 p.bd p.fl p.f1)) (fun c _ F V => ?_) rfl rfl (all_cons (.inl rfl) (all_one (.inl rfl)))
    refine sx_ifr F V (TV.cast (tv_or (tv_not (tv_val (ev_var F V))) fun _ => tv_not (tv_val (ev_var F V))) (d' := false) rfl) (fun h => by cases h) fun _ c F V => ?_
    refine sx_assign F V (ev_cf G' gnF (evs_cons (ev_var F V) evs_nil) (keeps_ok (n := 14) G' (AK _) p.t2 p.t7)) fun c _ F V => ?_
    have V := V.has (r := [("keeps", _), ("ring", _), ("quotients", _), ("falls", _), ("rises", _), ("made", _), ("step", _), ("size", _)]) rfl
    refine sx_assign F V (ev_cf G' gnF (evs_cons (ev_cb G' gnB (evs_cons (ev_var F V) evs_nil) (fn_sorted (ns := quosOf r) p.q64)) (evs_cons (ev_cb G' gnB (evs_cons (ev_var F V) evs_nil) (p.sum ▸ fn_sum (ns := fallsF (tsOf r)) (AK _).h)) evs_nil)) (made_ok (n := 15) (l := srt (quosOf r)) (k := Sm) G' (AK _) p.k100 p.s100)) fun c _ F V => ?_
    refine sx_mapC (fun l : List Int => .list (l.map .int)) (fun q : Nat => turned (made (srt (quosOf r)) Sm) q) ["again"] F V (.one _ _) (AK _).h (ia_range (n := n) (AK _).h G' gnB p.n61 (ev_var F V)) (lr (Nat.le_trans p.n60 (by decide))) (fun _ => rfl) (fun q hq H' C c₂ so V => ?_) fun c _ F V => ?_
    · exact EV.cast (ev_cf G' gnF (evs_cons (ev_v V so) (evs_cons (ev_v V so) evs_nil)) (turned_ok (n := 15) (k := q) G' (AK _) (Int.natCast_nonneg _) (lm (p.ml ▸ Nat.le_trans p.n60 (by decide))) (by rw [Int.toNat_natCast, List.length_map, p.ml]; exact Nat.le_of_lt (List.mem_range.mp hq)))) turned_map
    refine sx_ifr F V (TV.cast (tv_cmp (ev_var F V) (ev_and (ev_cf G' gnF (evs_cons (ev_cb G' gnB (evs_cons (ev_var F V) evs_nil) (p.sum ▸ fn_sum (ns := fallsF (tsOf r)) (AK _).h)) (evs_cons (ev_var F V) evs_nil)) (all_ok (n := 15) (k := Sm) (m := n) G' (AK _) p.s100 p.n0 p.n60)) fun _ => ev_cmp (ev_var F V) (ev_var F V) (cop_in (AK _).un1)) cop_neb) p.kp) (fun h => by cases h) fun _ c F V => ?_
    exact sx_ret F (EV.cast (ev_or (ev_not (ev_var F V)) fun _ => ev_and3 (ev_var F V) fun _ => ev_and (ev_cmp (ev_cb G' gnB (evs_cons (ev_var F V) evs_nil) (fn_sorted (ns := quosOf r) p.q64)) (ev_var F V) (cop_eqi (AK _).un p.rq)) fun _ => ev_cmp (ev_cb G' gnB (evs_cons (ev_var F V) evs_nil) (p.sum ▸ fn_sum (ns := fallsF (tsOf r)) (AK _).h)) (ev_var F V) cop_eq) (congrArg D.bool p.fin)) fun v c' k F' rv => ⟨v, c', rfl, rfl, F', rv⟩
end Mine
end
set_option maxRecDepth 100000 in
theorem PySem.Challenge.cw_wf0045_01_holds : PySem.Challenge.rw_wf0045_01.Holds :=
  Mine.law_holds
