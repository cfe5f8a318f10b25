import PyProof.Rows.All
import Wide.All
import OpenK.AllK
import Wide.FinOn
import Lean
import PySem.Challenge.RW_mq0134_01
open PySem PySem.W PyProof.Rows
set_option Elab.async false
set_option linter.all false
set_option compiler.extract_closed false

local macro_rules | `(tactic| walk_at "i5") => `(tactic| (intro a' h' F' N' l1; (try k_lt l1); (try k_sweep)))
local macro_rules | `(tactic| walk_at "i4") => `(tactic| (intro h' S' R' U'; (try dsimp only at S' R' U' ⊢)))
local macro_rules | `(tactic| walk_at "i9") => `(tactic| (intro g' L' h' FG' F' N' B' X' T'; (try dsimp only); (try k_lift B'); (try k_fold)))
local macro_rules | `(tactic| walk_at "i7") => `(tactic| (intro d' h' tk' tk2' F' N' l1; (try dsimp only at N'); (try k_lt l1); (try k_sweep)))
local macro_rules | `(tactic| walk_at "i4n") => `(tactic| (intro h' n' F' N'; (try dsimp only at N'); (try k_sweep)))
local macro_rules | `(tactic| walk_at "i13") => `(tactic| (intro g' L' h' tk' cells' FG' F' N' Y' B' X' T' l1; (try k_lt l1); k_cells Y'; (try simp only [List.cons_append, List.nil_append] at N'); (try dsimp only); (try k_lift B'); (try k_fold)))
local macro_rules | `(tactic| walk_at $s:str) => `(tactic| k_extra $(Lean.Syntax.mkStrLit ("my " ++ s.getString)))
local macro_rules | `(tactic| k_ne) => `(tactic| k_extra "my k_ne")
local macro_rules | `(tactic| k_all) => `(tactic| k_extra "my k_all")
local macro_rules | `(tactic| k_mem) => `(tactic| k_extra "my k_mem")
local macro_rules | `(tactic| k_lt $h:ident) => `(tactic| (replace $h := allLt_of $h; dsimp only [AllLt] at $h:ident))
local macro_rules | `(tactic| omega) => `(tactic| k_extra "my omega")


section
open PySem PySem.W PyProof.Rows
set_option maxRecDepth 100000
set_option maxHeartbeats 8000000
namespace Mine
open_top hd for PySem.Challenge.rw_mq0134_01
end Mine
end

section
namespace Mine
universe u
section
variable {α : Type u} {a : α} {l m : List α} {p : α → Prop}
theorem mat (i : Nat) (h : l[i]? = some a) : a ∈ l := List.mem_of_getElem? h
theorem mdr (i : Nat) (e : l.drop i = m) (h : a ∈ m) : a ∈ l := List.mem_of_mem_drop (e ▸ h)
theorem allc (h : p a) (t : ∀ x ∈ l, p x) : ∀ x ∈ a :: l, p x := List.forall_mem_cons.mpr ⟨h, t⟩
theorem alla (h : ∀ x ∈ l, p x) (t : ∀ x ∈ m, p x) : ∀ x ∈ l ++ m, p x := fun x hx => (List.mem_append.mp hx).elim (h x) (t x)
theorem alln : ∀ x ∈ ([] : List α), p x := fun _ h => nomatch h
end
section
variable {a b k : Nat}
theorem ar1 (h : a + 1 < b) : a < b := Nat.lt_of_succ_lt h
theorem ar2 (h : a + 1 + 1 < b) : a < b := ar1 (ar1 h)
theorem ar3 (h : a + 1 + 1 + 1 < b) : a < b := ar1 (ar2 h)
theorem ar4 (h : a + 1 + 1 + 1 + 1 < b) : a < b := ar1 (ar3 h)
theorem as1 (h : k < a) : k < a + 1 := Nat.lt_succ_of_lt h
theorem as2 (h : k < a) : k < a + 1 + 1 := as1 (as1 h)
theorem as3 (h : k < a) : k < a + 1 + 1 + 1 := as1 (as2 h)
theorem as4 (h : k < a) : k < a + 1 + 1 + 1 + 1 := as1 (as3 h)
theorem ad1 : a < a + 1 := Nat.lt_succ_self a
theorem ad2 : a < a + 1 + 1 := as1 ad1
theorem ad3 : a < a + 1 + 1 + 1 := as1 ad2
theorem ad4 : a < a + 1 + 1 + 1 + 1 := as1 ad3
end
section
variable {a b c d x y R : Nat}
theorem rm0 (h : a + x < R) : a < R := Nat.lt_of_le_of_lt (Nat.le_add_right a x) h
theorem rm1 (h : a + x < R) (e : b ≤ x) : a + b < R := Nat.lt_of_le_of_lt (Nat.add_le_add_left e a) h
theorem rm2 (h : a + x < R) (e : b + c ≤ x) : a + b + c < R := Nat.add_assoc a b c ▸ rm1 h e
theorem rm3 (h : a + x < R) (e : b + c + d ≤ x) : a + b + c + d < R := by
  rw [Nat.add_assoc, Nat.add_assoc, ← Nat.add_assoc b]; exact rm1 h e
theorem bd1 (h : a ≤ x) (e : x ≤ y) : a ≤ y := Nat.le_trans h e
theorem bd2 (q : a = b) (h : b ≤ x) (e : x ≤ y) : a ≤ y := q ▸ Nat.le_trans h e
theorem bd3 (h : a ≤ x) (e : x + b ≤ y) : a + b ≤ y := Nat.le_trans (Nat.add_le_add_right h b) e
theorem bd4 (h : a ≤ x) (e : x < y) : a < y := Nat.lt_of_le_of_lt h e
end
section
variable {a b c x y z : Int}
theorem bz1 (h : x ≤ a) (e : y ≤ x) : y ≤ a := Int.le_trans e h
theorem bz3 (h : a ≤ x) (e : x < y) : a < y := Int.lt_of_le_of_lt h e
end
theorem list2 {α : Type} {l : List α} {a b : α} (h : l.length = 2) (h0 : l[0]? = some a) (h1 : l[1]? = some b) : l = [a, b] := by
  match l, h, h0, h1 with
  | [_, _], _, e0, e1 => cases e0; cases e1; rfl
theorem list3 {α : Type} {l : List α} {a b c : α} (h : l.length = 3) (h0 : l[0]? = some a) (h1 : l[1]? = some b) (h2 : l[2]? = some c) : l = [a, b, c] := by
  match l, h, h0, h1, h2 with
  | [_, _, _], _, e0, e1, e2 => cases e0; cases e1; cases e2; rfl
end Mine
end

section
open PySem PySem.W PyProof.Rows
set_option maxRecDepth 100000
set_option maxHeartbeats 8000000
namespace Mine

/-- what a call of the def at f with the values vs does, from the ledger news: it comes back with R, or raises with X -/
noncomputable def Tells (w : World) (f : Addr) (k : Nat) (vs : List Value) (news : List (Addr × Obj)) (R : List (Addr × Obj) → Value → Prop) : Prop :=
  ∀ (p : Program) (loose : List Str) (mean : ExcName → Option Value) (mg mb : Str → Option Value) (dp un : Nat) (gd : Option (List Code)) (cn : Str) (cs : Scope) (a : Addr) (ccd : Value) (cl : List (Str × Addr)) (outer : List Env) (A₀ : Around) (base h₀ : Heap) (L : Addr) (m : Str → Option Value) (s : Shared)
    (Q E : Value → Shared → Prop), (Mine.hd.heap_39 w.params).In h₀ → Below A₀ base outer h₀ → Fr h₀ L s.heap m → News h₀ L s.heap news → Top p loose mean mg mb h₀ → cs.kind = .function → dp + k < recursionLimit → un + 8 * k < cLine →
    (∀ r nx h' tk', Fr h₀ L h' m → News h₀ L h' nx → R nx r → Q r { s with heap := h', toks := tk' }) →
    wpAny (model PySem.Challenge.rw_mq0134_01.row.prog w) (ktrTop dp un gd cn cs L a ccd cl outer) (call (.ref f) vs) Q E s

/-- nx is news and what was made above it -/
noncomputable def More (news nx : List (Addr × Obj)) : Prop := ∃ tl, nx = news ++ tl ∧ ∀ q ∈ news, ∀ p ∈ tl, q.1 < p.1
theorem More.sub {news nx : List (Addr × Obj)} (h : More news nx) : ∀ p ∈ news, p ∈ nx := by
  obtain ⟨tl, rfl, _⟩ := h
  exact fun p hp => List.mem_append.mpr (.inl hp)
theorem More.refl (news : List (Addr × Obj)) : More news news := ⟨[], by simp, fun _ _ _ h => nomatch h⟩

theorem tells_use {w : World} {f : Addr} {k : Nat} {vs : List Value} {news : List (Addr × Obj)} {R : List (Addr × Obj) → Value → Prop} (C : Tells w f k vs news R)
    {p : Program} {loose : List Str} {mean : ExcName → Option Value} {mg mb : Str → Option Value} {dp un : Nat} {gd : Option (List Code)} {cn : Str} {cs : Scope} {a : Addr} {ccd : Value} {cl : List (Str × Addr)} {outer : List Env} {A₀ : Around} {base h₀ : Heap} {L : Addr} {m : Str → Option Value} {s : Shared}
    {Q E : Value → Shared → Prop} (X : (Mine.hd.heap_39 w.params).In h₀) (B : Below A₀ base outer h₀) (F : Fr h₀ L s.heap m) (N : News h₀ L s.heap news) (T : Top p loose mean mg mb h₀) (hk : cs.kind = .function) (hd : dp + k < recursionLimit) (hu : un + 8 * k < cLine)
    (ret : ∀ r nx h' tk', Fr h₀ L h' m → News h₀ L h' nx → R nx r → Q r { s with heap := h', toks := tk' }) :
    wpAny (model PySem.Challenge.rw_mq0134_01.row.prog w) (ktrTop dp un gd cn cs L a ccd cl outer) (call (.ref f) vs) Q E s :=
  C p loose mean mg mb dp un gd cn cs a ccd cl outer A₀ base h₀ L m s Q E X B F N T hk hd hu ret

theorem list_item {prog : Program} {w : World} {A : Around} {E : Value → Shared → Prop} {s : Shared} {value slice : PySem.Expr} {h₀ : Heap} {L l : Addr} {news : List (Addr × Obj)} {vs : List Value} {n : Nat} {k : Int} {u : Tok} {v : Value} {Q : Value → Shared → Prop}
    (N : News h₀ L s.heap news) (hm : (l, listOf vs.toArray n) ∈ news) (h0 : 0 ≤ k) (hhi : k < 2 ^ 63) (hx : vs[k.toNat]? = some v) (h : Q v s)
    (hs : subscripted slice false (.ref l) (.int k u) = operate [.ref l, .int k u] (getItem (.ref l) (.int k u)) := by with_unfolding_all rfl) :
    wpAny (model prog w) A (subscriptTail value slice (.ref l) (.int k u)) Q E s :=
  have hl : s.heap.IsList l vs.toArray := ⟨_, (N _ hm).1, rfl, n, rfl⟩
  tail_any hl.typeIs slot_list_getitem.lookup (wpAny_getItem_list hl h0 hhi (by simpa using hx) h) hs

/-- a plain datum comes back -/
noncomputable def RetD (news : List (Addr × Obj)) (d : Dat) (nx : List (Addr × Obj)) (r : Value) : Prop := More news nx ∧ DatIn nx r d
theorem RetD.intro {news front : List (Addr × Obj)} {d : Dat} {r : Value} (hlt : ∀ p ∈ front, ∀ q ∈ news, q.1 < p.1) (hD : DatIn (front ++ news) r d) : RetD news d (news ++ front) r :=
  ⟨⟨front, rfl, fun q hq p hp => hlt p hp q hq⟩, hD.mono fun p hp => (List.mem_append.mp hp).elim (fun h => List.mem_append.mpr (.inr h)) fun h => List.mem_append.mpr (.inl h)⟩
theorem news_front {news front : List (Addr × Obj)} {h₀ h : Heap} {L : Addr} (N : News h₀ L h (front ++ news)) : News h₀ L h (news ++ front) :=
  fun p hp => N p ((List.mem_append.mp hp).elim (fun h => List.mem_append.mpr (.inr h)) fun h => List.mem_append.mpr (.inl h))
theorem ret_front {news front : List (Addr × Obj)} {h₀ h' : Heap} {L : Addr} {m : Str → Option Value} {s : Shared} {Q : Value → Shared → Prop} {d : Dat} {r : Value} {tk' : Nat}
    (hret : ∀ r nx h' tk', Fr h₀ L h' m → News h₀ L h' nx → RetD news d nx r → Q r { s with heap := h', toks := tk' })
    (F : Fr h₀ L h' m) (N : News h₀ L h' (front ++ news)) (hlt : ∀ p ∈ front, ∀ q ∈ news, q.1 < p.1) (hD : DatIn (front ++ news) r d) : Q r { s with heap := h', toks := tk' } :=
  hret r _ h' tk' F (news_front N) (RetD.intro hlt hD)
theorem ret_full {news full front : List (Addr × Obj)} {h₀ h' : Heap} {L : Addr} {m : Str → Option Value} {s : Shared} {Q : Value → Shared → Prop} {d : Dat} {r : Value} {tk' : Nat}
    (hret : ∀ r nx h' tk', Fr h₀ L h' m → News h₀ L h' nx → RetD news d nx r → Q r { s with heap := h', toks := tk' })
    (F : Fr h₀ L h' m) (N : News h₀ L h' full) (hf : full = front ++ news) (hlt : ∀ p ∈ front, ∀ q ∈ news, q.1 < p.1) (hD : DatIn full r d) : Q r { s with heap := h', toks := tk' } := by
  subst hf
  exact hret r _ h' tk' F (news_front N) (RetD.intro hlt hD)
theorem lt_cons {e : Addr × Obj} {front news : List (Addr × Obj)} (h1 : AllLt e.1 news) (h2 : ∀ p ∈ front, ∀ q ∈ news, q.1 < p.1) : ∀ p ∈ e :: front, ∀ q ∈ news, q.1 < p.1 := by
  intro p hp
  rcases List.mem_cons.mp hp with h | hp
  · rw [h]; exact ktn_ltOf h1
  · exact h2 p hp
theorem ne_above {L a : Addr} {l : List (Addr × Obj)} (h : AllLt L l) (hb : @LE.le Nat _ L a) : ∀ p ∈ l, p.1 ≠ a := fun p hp => Nat.ne_of_lt (Nat.lt_of_lt_of_le (ktn_ltOf h p hp) hb)
theorem news_tab {news front : List (Addr × Obj)} {h₀ h : Heap} {L P : Addr} {o : Obj} (N : News h₀ L h (front ++ (P, o) :: news)) : News h₀ L h ((P, o) :: (news ++ front)) :=
  fun p hp => N p (by
    rcases List.mem_cons.mp hp with rfl | hp
    · simp
    · rcases List.mem_append.mp hp with hp | hp
      · simp [hp]
      · simp [hp])
theorem dat_pair {news : List (Addr × Obj)} {a : Addr} {n : Nat} {v u : Value} {d e : Dat} (hm : (a, ({ cls := .type "tuple", data := .seq #[v, u] n } : Obj)) ∈ news) (h1 : DatIn news v d) (h2 : DatIn news u e) : DatIn news (.ref a) (.tuple [d, e]) :=
  .tuple (vs := [v, u]) hm (.cons h1 (.cons h2 .nil))
theorem inv_str {news : List (Addr × Obj)} {v : Value} {x : Str} (h : DatIn news v (.str x)) : ∃ t, v = .str x t := by cases h; exact ⟨_, rfl⟩
theorem inv_list {news : List (Addr × Obj)} {v : Value} {ds : List Dat} (h : DatIn news v (.list ds)) : ∃ i vs n, v = .ref i ∧ (i, listOf vs.toArray n) ∈ news ∧ DatAll news vs ds := by
  cases h with
  | list hm ha => exact ⟨_, _, _, rfl, hm, ha⟩
theorem inv_tuple {news : List (Addr × Obj)} {v : Value} {ds : List Dat} (h : DatIn news v (.tuple ds)) : ∃ i vs n, v = .ref i ∧ (i, ({ cls := .type "tuple", data := .seq vs.toArray n } : Obj)) ∈ news ∧ DatAll news vs ds := by
  cases h with
  | tuple hm ha => exact ⟨_, _, _, rfl, hm, ha⟩
theorem inv_cons {news : List (Addr × Obj)} {vs : List Value} {d : Dat} {ds : List Dat} (h : DatAll news vs (d :: ds)) : ∃ v us, vs = v :: us ∧ DatIn news v d ∧ DatAll news us ds := by
  cases h with
  | cons h r => exact ⟨_, _, rfl, h, r⟩
theorem inv_nil {news : List (Addr × Obj)} {vs : List Value} (h : DatAll news vs []) : vs = [] := by cases h; rfl
theorem inv2 {news : List (Addr × Obj)} {vs : List Value} {d e : Dat} (h : DatAll news vs [d, e]) : ∃ v u, vs = [v, u] ∧ DatIn news v d ∧ DatIn news u e := by
  obtain ⟨v, us, rfl, h1, h⟩ := inv_cons h
  obtain ⟨u, us, rfl, h2, h⟩ := inv_cons h
  obtain rfl := inv_nil h
  exact ⟨_, _, rfl, h1, h2⟩
theorem inv3 {news : List (Addr × Obj)} {vs : List Value} {d e f : Dat} (h : DatAll news vs [d, e, f]) : ∃ v u w, vs = [v, u, w] ∧ DatIn news v d ∧ DatIn news u e ∧ DatIn news w f := by
  obtain ⟨v, us, rfl, h1, h⟩ := inv_cons h
  obtain ⟨u, w, rfl, h2, h3⟩ := inv2 h
  exact ⟨_, _, _, rfl, h1, h2, h3⟩
theorem inv_int {news : List (Addr × Obj)} {v : Value} {x : Int} (h : DatIn news v (.int x)) : ∃ t, v = .int x t := by cases h; exact ⟨_, rfl⟩
theorem RetD.two {news nx : List (Addr × Obj)} {i j : Int} {r : Value} (h : RetD news (.tuple [.int i, .int j]) nx r) :
    ∃ tl a n t1 t2, nx = news ++ tl ∧ (∀ q ∈ news, ∀ p ∈ tl, q.1 < p.1) ∧ r = .ref a ∧ (a, ({ cls := .type "tuple", data := .seq #[.int i t1, .int j t2] n } : Obj)) ∈ news ++ tl := by
  obtain ⟨⟨tl, rfl, ho⟩, hd⟩ := h
  obtain ⟨a, vs, n, rfl, hm, ha⟩ := inv_tuple hd
  obtain ⟨v, u, rfl, h1, h2⟩ := inv2 ha
  obtain ⟨t1, rfl⟩ := inv_int h1
  obtain ⟨t2, rfl⟩ := inv_int h2
  exact ⟨tl, _, _, _, _, rfl, ho, rfl, hm⟩
theorem fr_put {h₀ h : Heap} {L : Addr} {m : Str → Option Value} {x : Str} {v : Value} (F : Fr h₀ L h m) (e : m x = some v) : Fr h₀ L h (fun y => if y = x then some v else m y) := by
  have e' : (fun y => if y = x then some v else m y) = m := by
    funext y
    by_cases hy : y = x
    · rw [if_pos hy, hy, e]
    · rw [if_neg hy]
  rw [e']; exact F
/-- a goal laid aside from the walk -/
structure Stop (P : Prop) : Prop where
  out : P
theorem stop_here {P : Prop} (h : Stop P) : P := h.out
inductive Puts (m : Str → Option Value) : List (Str × Value) → Prop
  | nil : Puts m []
  | cons {x : Str} {v : Value} {l : List (Str × Value)} (e : m x = some v) (r : Puts m l) : Puts m ((x, v) :: l)
noncomputable def putsM (m : Str → Option Value) : List (Str × Value) → Str → Option Value
  | [] => m
  | (x, v) :: l => fun y => if y = x then some v else putsM m l y
theorem putsM_eq {m : Str → Option Value} {l : List (Str × Value)} (h : Puts m l) : putsM m l = m := by
  induction h with
  | nil => rfl
  | cons e _ ih =>
    funext y
    simp only [putsM, ih]
    split
    · rename_i h; rw [h, e]
    · rfl
theorem fr_puts {h₀ h : Heap} {L : Addr} {m : Str → Option Value} {l : List (Str × Value)} (F : Fr h₀ L h m) (p : Puts m l) : Fr h₀ L h (putsM m l) := by rw [putsM_eq p]; exact F
theorem news_swap {news front : List (Addr × Obj)} {h₀ h : Heap} {L P : Addr} {o : Obj} (N : News h₀ L h (front ++ (P, o) :: news)) : News h₀ L h ((P, o) :: (front ++ news)) :=
  fun p hp => N p (by
    rcases List.mem_cons.mp hp with rfl | hp
    · simp
    · rcases List.mem_append.mp hp with hp | hp
      · simp [hp]
      · simp [hp])
theorem news_back {news front tl : List (Addr × Obj)} {h₀ h : Heap} {L P : Addr} {o : Obj} (N : News h₀ L h ((P, o) :: ((front ++ news) ++ tl))) : News h₀ L h (front ++ (P, o) :: (news ++ tl)) :=
  fun p hp => N p (by
    rcases List.mem_append.mp hp with hp | hp
    · simp [hp]
    · rcases List.mem_cons.mp hp with rfl | hp
      · simp
      · rcases List.mem_append.mp hp with hp | hp
        · simp [hp]
        · simp [hp])
theorem lt_nil {news : List (Addr × Obj)} : ∀ p ∈ ([] : List (Addr × Obj)), ∀ q ∈ news, q.1 < p.1 := fun _ h => nomatch h
end Mine
end

section
open PySem PySem.W PyProof.Rows
namespace Mine
/-- the one that would break P, if any does: a closed term, so that what is said of it stands once and not once at every depth -/
@[irreducible] noncomputable def wit {α : Type} (i : Nonempty α) (P : α → Prop) : α := Classical.epsilon fun a => ¬ P a
theorem closed' {α : Type} (i : Nonempty α) {P : α → Prop} (h : P (wit i P)) : ∀ a, P a := by
  intro a
  refine Classical.byContradiction fun hn => ?_
  have := Classical.epsilon_spec (p := fun a => ¬ P a) ⟨a, hn⟩
  unfold wit at h
  exact this h
theorem closed {α : Type} [i : Nonempty α] {P : α → Prop} (h : P (wit i P)) : ∀ a, P a := closed' i h
theorem neS : Nonempty Shared := ⟨{}⟩
theorem neA : Nonempty Around := ⟨{}⟩
theorem neW : Nonempty World := ⟨⟨fun _ _ => 0, { strHash := fun _ => 0, shareClass := fun _ => 0, mergeTok := id, idOf := fun _ => 0, idOfShared := fun _ _ => 0, followText := fun _ => false, idOfImm := fun _ => 0 }⟩⟩
theorem closedW {P : World → Prop} (h : P (wit neW P)) : ∀ a, P a := closed' neW h
/-- where a call of a contract comes from -/
structure TV where
  p : Program
  loose : List Str
  mean : ExcName → Option Value
  mg : Str → Option Value
  mb : Str → Option Value
  dp : Nat
  un : Nat
  gd : Option (List Code)
  cn : Str
  cs : Scope
  a : Addr
  ccd : Value
  cl : List (Str × Addr)
  outer : List Env
  A₀ : Around
  base : Heap
  h₀ : Heap
  L : Addr
  m : Str → Option Value
  s : Shared
  Q : Value → Shared → Prop
  E : Value → Shared → Prop
theorem neTV : Nonempty TV := ⟨⟨default, [], fun _ => none, fun _ => none, fun _ => none, 0, 0, none, default, default, 0, .none, [], [], {}, default, default, 0, fun _ => none, {}, fun _ _ => True, fun _ _ => True⟩⟩
noncomputable def TellsAt (w : World) (f : Addr) (k : Nat) (vs : List Value) (news : List (Addr × Obj)) (R : List (Addr × Obj) → Value → Prop) (v : TV) : Prop :=
  (Mine.hd.heap_39 w.params).In v.h₀ → Below v.A₀ v.base v.outer v.h₀ → Fr v.h₀ v.L v.s.heap v.m → News v.h₀ v.L v.s.heap news → Top v.p v.loose v.mean v.mg v.mb v.h₀ → v.cs.kind = .function → v.dp + k < recursionLimit → v.un + 8 * k < cLine →
    (∀ r nx h' tk', Fr v.h₀ v.L h' v.m → News v.h₀ v.L h' nx → R nx r → v.Q r { v.s with heap := h', toks := tk' }) →
    wpAny (model PySem.Challenge.rw_mq0134_01.row.prog w) (ktrTop v.dp v.un v.gd v.cn v.cs v.L v.a v.ccd v.cl v.outer) (call (.ref f) vs) v.Q v.E v.s
theorem tells_close {w : World} {f : Addr} {k : Nat} {vs : List Value} {news : List (Addr × Obj)} {R : List (Addr × Obj) → Value → Prop} (h : TellsAt w f k vs news R (wit neTV (TellsAt w f k vs news R))) : Tells w f k vs news R :=
  fun p loose mean mg mb dp un gd cn cs a ccd cl outer A₀ base h₀ L m s Q E => closed' neTV h ⟨p, loose, mean, mg, mb, dp, un, gd, cn, cs, a, ccd, cl, outer, A₀, base, h₀, L, m, s, Q, E⟩
theorem closed3 {α0 α1 α2 : Type} [Nonempty α0] [Nonempty α1] [Nonempty α2] {P : α0 → α1 → α2 → Prop} (h : (fun t : α0 × α1 × α2 => P t.1 t.2.1 t.2.2) (wit (inferInstance : Nonempty (α0 × α1 × α2)) fun t : α0 × α1 × α2 => P t.1 t.2.1 t.2.2)) : ∀ a0 a1 a2, P a0 a1 a2 :=
  fun a0 a1 a2 => closed' inferInstance (P := fun t : α0 × α1 × α2 => P t.1 t.2.1 t.2.2) h (a0, a1, a2)
theorem closed6 {α0 α1 α2 α3 α4 α5 : Type} [Nonempty α0] [Nonempty α1] [Nonempty α2] [Nonempty α3] [Nonempty α4] [Nonempty α5] {P : α0 → α1 → α2 → α3 → α4 → α5 → Prop} (h : (fun t : α0 × α1 × α2 × α3 × α4 × α5 => P t.1 t.2.1 t.2.2.1 t.2.2.2.1 t.2.2.2.2.1 t.2.2.2.2.2) (wit (inferInstance : Nonempty (α0 × α1 × α2 × α3 × α4 × α5)) fun t : α0 × α1 × α2 × α3 × α4 × α5 => P t.1 t.2.1 t.2.2.1 t.2.2.2.1 t.2.2.2.2.1 t.2.2.2.2.2)) : ∀ a0 a1 a2 a3 a4 a5, P a0 a1 a2 a3 a4 a5 :=
  fun a0 a1 a2 a3 a4 a5 => closed' inferInstance (P := fun t : α0 × α1 × α2 × α3 × α4 × α5 => P t.1 t.2.1 t.2.2.1 t.2.2.2.1 t.2.2.2.2.1 t.2.2.2.2.2) h (a0, a1, a2, a3, a4, a5)
theorem closed10 {α0 α1 α2 α3 α4 α5 α6 α7 α8 α9 : Type} [Nonempty α0] [Nonempty α1] [Nonempty α2] [Nonempty α3] [Nonempty α4] [Nonempty α5] [Nonempty α6] [Nonempty α7] [Nonempty α8] [Nonempty α9] {P : α0 → α1 → α2 → α3 → α4 → α5 → α6 → α7 → α8 → α9 → Prop} (h : (fun t : α0 × α1 × α2 × α3 × α4 × α5 × α6 × α7 × α8 × α9 => P t.1 t.2.1 t.2.2.1 t.2.2.2.1 t.2.2.2.2.1 t.2.2.2.2.2.1 t.2.2.2.2.2.2.1 t.2.2.2.2.2.2.2.1 t.2.2.2.2.2.2.2.2.1 t.2.2.2.2.2.2.2.2.2) (wit (inferInstance : Nonempty (α0 × α1 × α2 × α3 × α4 × α5 × α6 × α7 × α8 × α9)) fun t : α0 × α1 × α2 × α3 × α4 × α5 × α6 × α7 × α8 × α9 => P t.1 t.2.1 t.2.2.1 t.2.2.2.1 t.2.2.2.2.1 t.2.2.2.2.2.1 t.2.2.2.2.2.2.1 t.2.2.2.2.2.2.2.1 t.2.2.2.2.2.2.2.2.1 t.2.2.2.2.2.2.2.2.2)) : ∀ a0 a1 a2 a3 a4 a5 a6 a7 a8 a9, P a0 a1 a2 a3 a4 a5 a6 a7 a8 a9 :=
  fun a0 a1 a2 a3 a4 a5 a6 a7 a8 a9 => closed' inferInstance (P := fun t : α0 × α1 × α2 × α3 × α4 × α5 × α6 × α7 × α8 × α9 => P t.1 t.2.1 t.2.2.1 t.2.2.2.1 t.2.2.2.2.1 t.2.2.2.2.2.1 t.2.2.2.2.2.2.1 t.2.2.2.2.2.2.2.1 t.2.2.2.2.2.2.2.2.1 t.2.2.2.2.2.2.2.2.2) h (a0, a1, a2, a3, a4, a5, a6, a7, a8, a9)
theorem closed14 {α0 α1 α2 α3 α4 α5 α6 α7 α8 α9 α10 α11 α12 α13 : Type} [Nonempty α0] [Nonempty α1] [Nonempty α2] [Nonempty α3] [Nonempty α4] [Nonempty α5] [Nonempty α6] [Nonempty α7] [Nonempty α8] [Nonempty α9] [Nonempty α10] [Nonempty α11] [Nonempty α12] [Nonempty α13] {P : α0 → α1 → α2 → α3 → α4 → α5 → α6 → α7 → α8 → α9 → α10 → α11 → α12 → α13 → Prop} (h : (fun t : α0 × α1 × α2 × α3 × α4 × α5 × α6 × α7 × α8 × α9 × α10 × α11 × α12 × α13 => P t.1 t.2.1 t.2.2.1 t.2.2.2.1 t.2.2.2.2.1 t.2.2.2.2.2.1 t.2.2.2.2.2.2.1 t.2.2.2.2.2.2.2.1 t.2.2.2.2.2.2.2.2.1 t.2.2.2.2.2.2.2.2.2.1 t.2.2.2.2.2.2.2.2.2.2.1 t.2.2.2.2.2.2.2.2.2.2.2.1 t.2.2.2.2.2.2.2.2.2.2.2.2.1 t.2.2.2.2.2.2.2.2.2.2.2.2.2) (wit (inferInstance : Nonempty (α0 × α1 × α2 × α3 × α4 × α5 × α6 × α7 × α8 × α9 × α10 × α11 × α12 × α13)) fun t : α0 × α1 × α2 × α3 × α4 × α5 × α6 × α7 × α8 × α9 × α10 × α11 × α12 × α13 => P t.1 t.2.1 t.2.2.1 t.2.2.2.1 t.2.2.2.2.1 t.2.2.2.2.2.1 t.2.2.2.2.2.2.1 t.2.2.2.2.2.2.2.1 t.2.2.2.2.2.2.2.2.1 t.2.2.2.2.2.2.2.2.2.1 t.2.2.2.2.2.2.2.2.2.2.1 t.2.2.2.2.2.2.2.2.2.2.2.1 t.2.2.2.2.2.2.2.2.2.2.2.2.1 t.2.2.2.2.2.2.2.2.2.2.2.2.2)) : ∀ a0 a1 a2 a3 a4 a5 a6 a7 a8 a9 a10 a11 a12 a13, P a0 a1 a2 a3 a4 a5 a6 a7 a8 a9 a10 a11 a12 a13 :=
  fun a0 a1 a2 a3 a4 a5 a6 a7 a8 a9 a10 a11 a12 a13 => closed' inferInstance (P := fun t : α0 × α1 × α2 × α3 × α4 × α5 × α6 × α7 × α8 × α9 × α10 × α11 × α12 × α13 => P t.1 t.2.1 t.2.2.1 t.2.2.2.1 t.2.2.2.2.1 t.2.2.2.2.2.1 t.2.2.2.2.2.2.1 t.2.2.2.2.2.2.2.1 t.2.2.2.2.2.2.2.2.1 t.2.2.2.2.2.2.2.2.2.1 t.2.2.2.2.2.2.2.2.2.2.1 t.2.2.2.2.2.2.2.2.2.2.2.1 t.2.2.2.2.2.2.2.2.2.2.2.2.1 t.2.2.2.2.2.2.2.2.2.2.2.2.2) h (a0, a1, a2, a3, a4, a5, a6, a7, a8, a9, a10, a11, a12, a13)
theorem closed19 {α0 α1 α2 α3 α4 α5 α6 α7 α8 α9 α10 α11 α12 α13 α14 α15 α16 α17 α18 : Type} [Nonempty α0] [Nonempty α1] [Nonempty α2] [Nonempty α3] [Nonempty α4] [Nonempty α5] [Nonempty α6] [Nonempty α7] [Nonempty α8] [Nonempty α9] [Nonempty α10] [Nonempty α11] [Nonempty α12] [Nonempty α13] [Nonempty α14] [Nonempty α15] [Nonempty α16] [Nonempty α17] [Nonempty α18] {P : α0 → α1 → α2 → α3 → α4 → α5 → α6 → α7 → α8 → α9 → α10 → α11 → α12 → α13 → α14 → α15 → α16 → α17 → α18 → Prop} (h : (fun t : α0 × α1 × α2 × α3 × α4 × α5 × α6 × α7 × α8 × α9 × α10 × α11 × α12 × α13 × α14 × α15 × α16 × α17 × α18 => P t.1 t.2.1 t.2.2.1 t.2.2.2.1 t.2.2.2.2.1 t.2.2.2.2.2.1 t.2.2.2.2.2.2.1 t.2.2.2.2.2.2.2.1 t.2.2.2.2.2.2.2.2.1 t.2.2.2.2.2.2.2.2.2.1 t.2.2.2.2.2.2.2.2.2.2.1 t.2.2.2.2.2.2.2.2.2.2.2.1 t.2.2.2.2.2.2.2.2.2.2.2.2.1 t.2.2.2.2.2.2.2.2.2.2.2.2.2.1 t.2.2.2.2.2.2.2.2.2.2.2.2.2.2.1 t.2.2.2.2.2.2.2.2.2.2.2.2.2.2.2.1 t.2.2.2.2.2.2.2.2.2.2.2.2.2.2.2.2.1 t.2.2.2.2.2.2.2.2.2.2.2.2.2.2.2.2.2.1 t.2.2.2.2.2.2.2.2.2.2.2.2.2.2.2.2.2.2) (wit (inferInstance : Nonempty (α0 × α1 × α2 × α3 × α4 × α5 × α6 × α7 × α8 × α9 × α10 × α11 × α12 × α13 × α14 × α15 × α16 × α17 × α18)) fun t : α0 × α1 × α2 × α3 × α4 × α5 × α6 × α7 × α8 × α9 × α10 × α11 × α12 × α13 × α14 × α15 × α16 × α17 × α18 => P t.1 t.2.1 t.2.2.1 t.2.2.2.1 t.2.2.2.2.1 t.2.2.2.2.2.1 t.2.2.2.2.2.2.1 t.2.2.2.2.2.2.2.1 t.2.2.2.2.2.2.2.2.1 t.2.2.2.2.2.2.2.2.2.1 t.2.2.2.2.2.2.2.2.2.2.1 t.2.2.2.2.2.2.2.2.2.2.2.1 t.2.2.2.2.2.2.2.2.2.2.2.2.1 t.2.2.2.2.2.2.2.2.2.2.2.2.2.1 t.2.2.2.2.2.2.2.2.2.2.2.2.2.2.1 t.2.2.2.2.2.2.2.2.2.2.2.2.2.2.2.1 t.2.2.2.2.2.2.2.2.2.2.2.2.2.2.2.2.1 t.2.2.2.2.2.2.2.2.2.2.2.2.2.2.2.2.2.1 t.2.2.2.2.2.2.2.2.2.2.2.2.2.2.2.2.2.2)) : ∀ a0 a1 a2 a3 a4 a5 a6 a7 a8 a9 a10 a11 a12 a13 a14 a15 a16 a17 a18, P a0 a1 a2 a3 a4 a5 a6 a7 a8 a9 a10 a11 a12 a13 a14 a15 a16 a17 a18 :=
  fun a0 a1 a2 a3 a4 a5 a6 a7 a8 a9 a10 a11 a12 a13 a14 a15 a16 a17 a18 => closed' inferInstance (P := fun t : α0 × α1 × α2 × α3 × α4 × α5 × α6 × α7 × α8 × α9 × α10 × α11 × α12 × α13 × α14 × α15 × α16 × α17 × α18 => P t.1 t.2.1 t.2.2.1 t.2.2.2.1 t.2.2.2.2.1 t.2.2.2.2.2.1 t.2.2.2.2.2.2.1 t.2.2.2.2.2.2.2.1 t.2.2.2.2.2.2.2.2.1 t.2.2.2.2.2.2.2.2.2.1 t.2.2.2.2.2.2.2.2.2.2.1 t.2.2.2.2.2.2.2.2.2.2.2.1 t.2.2.2.2.2.2.2.2.2.2.2.2.1 t.2.2.2.2.2.2.2.2.2.2.2.2.2.1 t.2.2.2.2.2.2.2.2.2.2.2.2.2.2.1 t.2.2.2.2.2.2.2.2.2.2.2.2.2.2.2.1 t.2.2.2.2.2.2.2.2.2.2.2.2.2.2.2.2.1 t.2.2.2.2.2.2.2.2.2.2.2.2.2.2.2.2.2.1 t.2.2.2.2.2.2.2.2.2.2.2.2.2.2.2.2.2.2) h (a0, a1, a2, a3, a4, a5, a6, a7, a8, a9, a10, a11, a12, a13, a14, a15, a16, a17, a18)
theorem closed24 {α0 α1 α2 α3 α4 α5 α6 α7 α8 α9 α10 α11 α12 α13 α14 α15 α16 α17 α18 α19 α20 α21 α22 α23 : Type} [Nonempty α0] [Nonempty α1] [Nonempty α2] [Nonempty α3] [Nonempty α4] [Nonempty α5] [Nonempty α6] [Nonempty α7] [Nonempty α8] [Nonempty α9] [Nonempty α10] [Nonempty α11] [Nonempty α12] [Nonempty α13] [Nonempty α14] [Nonempty α15] [Nonempty α16] [Nonempty α17] [Nonempty α18] [Nonempty α19] [Nonempty α20] [Nonempty α21] [Nonempty α22] [Nonempty α23] {P : α0 → α1 → α2 → α3 → α4 → α5 → α6 → α7 → α8 → α9 → α10 → α11 → α12 → α13 → α14 → α15 → α16 → α17 → α18 → α19 → α20 → α21 → α22 → α23 → Prop} (h : (fun t : α0 × α1 × α2 × α3 × α4 × α5 × α6 × α7 × α8 × α9 × α10 × α11 × α12 × α13 × α14 × α15 × α16 × α17 × α18 × α19 × α20 × α21 × α22 × α23 => P t.1 t.2.1 t.2.2.1 t.2.2.2.1 t.2.2.2.2.1 t.2.2.2.2.2.1 t.2.2.2.2.2.2.1 t.2.2.2.2.2.2.2.1 t.2.2.2.2.2.2.2.2.1 t.2.2.2.2.2.2.2.2.2.1 t.2.2.2.2.2.2.2.2.2.2.1 t.2.2.2.2.2.2.2.2.2.2.2.1 t.2.2.2.2.2.2.2.2.2.2.2.2.1 t.2.2.2.2.2.2.2.2.2.2.2.2.2.1 t.2.2.2.2.2.2.2.2.2.2.2.2.2.2.1 t.2.2.2.2.2.2.2.2.2.2.2.2.2.2.2.1 t.2.2.2.2.2.2.2.2.2.2.2.2.2.2.2.2.1 t.2.2.2.2.2.2.2.2.2.2.2.2.2.2.2.2.2.1 t.2.2.2.2.2.2.2.2.2.2.2.2.2.2.2.2.2.2.1 t.2.2.2.2.2.2.2.2.2.2.2.2.2.2.2.2.2.2.2.1 t.2.2.2.2.2.2.2.2.2.2.2.2.2.2.2.2.2.2.2.2.1 t.2.2.2.2.2.2.2.2.2.2.2.2.2.2.2.2.2.2.2.2.2.1 t.2.2.2.2.2.2.2.2.2.2.2.2.2.2.2.2.2.2.2.2.2.2.1 t.2.2.2.2.2.2.2.2.2.2.2.2.2.2.2.2.2.2.2.2.2.2.2) (wit (inferInstance : Nonempty (α0 × α1 × α2 × α3 × α4 × α5 × α6 × α7 × α8 × α9 × α10 × α11 × α12 × α13 × α14 × α15 × α16 × α17 × α18 × α19 × α20 × α21 × α22 × α23)) fun t : α0 × α1 × α2 × α3 × α4 × α5 × α6 × α7 × α8 × α9 × α10 × α11 × α12 × α13 × α14 × α15 × α16 × α17 × α18 × α19 × α20 × α21 × α22 × α23 => P t.1 t.2.1 t.2.2.1 t.2.2.2.1 t.2.2.2.2.1 t.2.2.2.2.2.1 t.2.2.2.2.2.2.1 t.2.2.2.2.2.2.2.1 t.2.2.2.2.2.2.2.2.1 t.2.2.2.2.2.2.2.2.2.1 t.2.2.2.2.2.2.2.2.2.2.1 t.2.2.2.2.2.2.2.2.2.2.2.1 t.2.2.2.2.2.2.2.2.2.2.2.2.1 t.2.2.2.2.2.2.2.2.2.2.2.2.2.1 t.2.2.2.2.2.2.2.2.2.2.2.2.2.2.1 t.2.2.2.2.2.2.2.2.2.2.2.2.2.2.2.1 t.2.2.2.2.2.2.2.2.2.2.2.2.2.2.2.2.1 t.2.2.2.2.2.2.2.2.2.2.2.2.2.2.2.2.2.1 t.2.2.2.2.2.2.2.2.2.2.2.2.2.2.2.2.2.2.1 t.2.2.2.2.2.2.2.2.2.2.2.2.2.2.2.2.2.2.2.1 t.2.2.2.2.2.2.2.2.2.2.2.2.2.2.2.2.2.2.2.2.1 t.2.2.2.2.2.2.2.2.2.2.2.2.2.2.2.2.2.2.2.2.2.1 t.2.2.2.2.2.2.2.2.2.2.2.2.2.2.2.2.2.2.2.2.2.2.1 t.2.2.2.2.2.2.2.2.2.2.2.2.2.2.2.2.2.2.2.2.2.2.2)) : ∀ a0 a1 a2 a3 a4 a5 a6 a7 a8 a9 a10 a11 a12 a13 a14 a15 a16 a17 a18 a19 a20 a21 a22 a23, P a0 a1 a2 a3 a4 a5 a6 a7 a8 a9 a10 a11 a12 a13 a14 a15 a16 a17 a18 a19 a20 a21 a22 a23 :=
  fun a0 a1 a2 a3 a4 a5 a6 a7 a8 a9 a10 a11 a12 a13 a14 a15 a16 a17 a18 a19 a20 a21 a22 a23 => closed' inferInstance (P := fun t : α0 × α1 × α2 × α3 × α4 × α5 × α6 × α7 × α8 × α9 × α10 × α11 × α12 × α13 × α14 × α15 × α16 × α17 × α18 × α19 × α20 × α21 × α22 × α23 => P t.1 t.2.1 t.2.2.1 t.2.2.2.1 t.2.2.2.2.1 t.2.2.2.2.2.1 t.2.2.2.2.2.2.1 t.2.2.2.2.2.2.2.1 t.2.2.2.2.2.2.2.2.1 t.2.2.2.2.2.2.2.2.2.1 t.2.2.2.2.2.2.2.2.2.2.1 t.2.2.2.2.2.2.2.2.2.2.2.1 t.2.2.2.2.2.2.2.2.2.2.2.2.1 t.2.2.2.2.2.2.2.2.2.2.2.2.2.1 t.2.2.2.2.2.2.2.2.2.2.2.2.2.2.1 t.2.2.2.2.2.2.2.2.2.2.2.2.2.2.2.1 t.2.2.2.2.2.2.2.2.2.2.2.2.2.2.2.2.1 t.2.2.2.2.2.2.2.2.2.2.2.2.2.2.2.2.2.1 t.2.2.2.2.2.2.2.2.2.2.2.2.2.2.2.2.2.2.1 t.2.2.2.2.2.2.2.2.2.2.2.2.2.2.2.2.2.2.2.1 t.2.2.2.2.2.2.2.2.2.2.2.2.2.2.2.2.2.2.2.2.1 t.2.2.2.2.2.2.2.2.2.2.2.2.2.2.2.2.2.2.2.2.2.1 t.2.2.2.2.2.2.2.2.2.2.2.2.2.2.2.2.2.2.2.2.2.2.1 t.2.2.2.2.2.2.2.2.2.2.2.2.2.2.2.2.2.2.2.2.2.2.2) h (a0, a1, a2, a3, a4, a5, a6, a7, a8, a9, a10, a11, a12, a13, a14, a15, a16, a17, a18, a19, a20, a21, a22, a23)
theorem allLt_at {d a : Nat} {o : Obj} {l : List (Addr × Obj)} (h : AllLt d l) (m : (a, o) ∈ l) : a < d := ktn_ltOf h _ m
end Mine
end

section
open PySem PySem.W PyProof.Rows
set_option maxRecDepth 100000
set_option maxHeartbeats 8000000
namespace Mine
section
variable {prog : Program} {w : World} {A : Around} {E : Value → Shared → Prop} {s : Shared} {t : Tok} {Q : Value → Shared → Prop} {b L : Addr} {n : Nat} {h₀ : Heap} {news : List (Addr × Obj)} {x y : Int} {tx ty : Tok}
theorem fmt0 (N : News h₀ L s.heap news) (hb : (b, ({ cls := .type "tuple", data := .seq #[.int x tx, .int y ty] n } : Obj)) ∈ news) (x0 : 0 ≤ x) (x1 : x < 10 ^ 10) (y0 : 0 ≤ y) (y1 : y < 10 ^ 10)
    (h : ∀ t' k, Q (.str (PySem.Str.ofString "=\"" ++ PySem.Str.ofString (toString x) ++ PySem.Str.ofString "." ++ PySem.Str.ofString (toString y) ++ PySem.Str.ofString "\"") t') { s with toks := k }) :
    wpAny (model prog w) A (binaryOp .Mod (.str (PySem.Str.ofString "=\"%d.%d\"") t) (.ref b)) Q E s := by
  refine' KPt.mod_tuple (T := PySem.Str.ofString "=\"" ++ PySem.Str.ofString (toString x) ++ PySem.Str.ofString "." ++ PySem.Str.ofString (toString y) ++ PySem.Str.ofString "\"") N hb ?kptF ?kptm h
  (case kptF => kpt_eq)
  (case kptm => kpt_run)
theorem fmt1 (N : News h₀ L s.heap news) (hb : (b, ({ cls := .type "tuple", data := .seq #[.int x tx, .int y ty] n } : Obj)) ∈ news) (x0 : 0 ≤ x) (x1 : x < 10 ^ 10) (y0 : 0 ≤ y) (y1 : y < 10 ^ 10)
    (h : ∀ t' k, Q (.str (PySem.Str.ofString "=" ++ PySem.Str.ofString (toString x) ++ PySem.Str.ofString "." ++ PySem.Str.ofString (toString y)) t') { s with toks := k }) :
    wpAny (model prog w) A (binaryOp .Mod (.str (PySem.Str.ofString "=%d.%d") t) (.ref b)) Q E s := by
  refine' KPt.mod_tuple (T := PySem.Str.ofString "=" ++ PySem.Str.ofString (toString x) ++ PySem.Str.ofString "." ++ PySem.Str.ofString (toString y)) N hb ?kptF ?kptm h
  (case kptF => kpt_eq)
  (case kptm => kpt_run)
theorem fmt2 (N : News h₀ L s.heap news) (hb : (b, ({ cls := .type "tuple", data := .seq #[.int x tx, .int y ty] n } : Obj)) ∈ news) (x0 : 0 ≤ x) (x1 : x < 10 ^ 10) (y0 : 0 ≤ y) (y1 : y < 10 ^ 10)
    (h : ∀ t' k, Q (.str (PySem.Str.ofString "=\"" ++ PySem.Str.ofString (toString x) ++ PySem.Str.ofString "\\." ++ PySem.Str.ofString (toString y) ++ PySem.Str.ofString "\"") t') { s with toks := k }) :
    wpAny (model prog w) A (binaryOp .Mod (.str (PySem.Str.ofString "=\"%d\\.%d\"") t) (.ref b)) Q E s := by
  refine' KPt.mod_tuple (T := PySem.Str.ofString "=\"" ++ PySem.Str.ofString (toString x) ++ PySem.Str.ofString "\\." ++ PySem.Str.ofString (toString y) ++ PySem.Str.ofString "\"") N hb ?kptF ?kptm h
  (case kptF => kpt_eq)
  (case kptm => kpt_run)
theorem fmt3 (N : News h₀ L s.heap news) (hb : (b, ({ cls := .type "tuple", data := .seq #[.int x tx, .int y ty] n } : Obj)) ∈ news) (x0 : 0 ≤ x) (x1 : x < 10 ^ 10) (y0 : 0 ≤ y) (y1 : y < 10 ^ 10)
    (h : ∀ t' k, Q (.str (PySem.Str.ofString "=\" " ++ PySem.Str.ofString (toString x) ++ PySem.Str.ofString ".0" ++ PySem.Str.ofString (toString y) ++ PySem.Str.ofString "\"") t') { s with toks := k }) :
    wpAny (model prog w) A (binaryOp .Mod (.str (PySem.Str.ofString "=\" %d.0%d\"") t) (.ref b)) Q E s := by
  refine' KPt.mod_tuple (T := PySem.Str.ofString "=\" " ++ PySem.Str.ofString (toString x) ++ PySem.Str.ofString ".0" ++ PySem.Str.ofString (toString y) ++ PySem.Str.ofString "\"") N hb ?kptF ?kptm h
  (case kptF => kpt_eq)
  (case kptm => kpt_run)
theorem fmt4 (N : News h₀ L s.heap news) (hb : (b, ({ cls := .type "tuple", data := .seq #[.int x tx, .int y ty] n } : Obj)) ∈ news) (x0 : 0 ≤ x) (x1 : x < 10 ^ 10) (y0 : 0 ≤ y) (y1 : y < 10 ^ 10)
    (h : ∀ t' k, Q (.str (PySem.Str.ofString "=+" ++ PySem.Str.ofString (toString x) ++ PySem.Str.ofString ".+" ++ PySem.Str.ofString (toString y)) t') { s with toks := k }) :
    wpAny (model prog w) A (binaryOp .Mod (.str (PySem.Str.ofString "=+%d.+%d") t) (.ref b)) Q E s := by
  refine' KPt.mod_tuple (T := PySem.Str.ofString "=+" ++ PySem.Str.ofString (toString x) ++ PySem.Str.ofString ".+" ++ PySem.Str.ofString (toString y)) N hb ?kptF ?kptm h
  (case kptF => kpt_eq)
  (case kptm => kpt_run)
theorem fmt5 (N : News h₀ L s.heap news) (hb : (b, ({ cls := .type "tuple", data := .seq #[.int x tx, .int y ty] n } : Obj)) ∈ news) (x0 : 0 ≤ x) (x1 : x < 10 ^ 10) (y0 : 0 ≤ y) (y1 : y < 10 ^ 10)
    (h : ∀ t' k, Q (.str (PySem.Str.ofString "=\"" ++ PySem.Str.ofString (toString x) ++ PySem.Str.ofString "," ++ PySem.Str.ofString (toString y) ++ PySem.Str.ofString "\"") t') { s with toks := k }) :
    wpAny (model prog w) A (binaryOp .Mod (.str (PySem.Str.ofString "=\"%d,%d\"") t) (.ref b)) Q E s := by
  refine' KPt.mod_tuple (T := PySem.Str.ofString "=\"" ++ PySem.Str.ofString (toString x) ++ PySem.Str.ofString "," ++ PySem.Str.ofString (toString y) ++ PySem.Str.ofString "\"") N hb ?kptF ?kptm h
  (case kptF => kpt_eq)
  (case kptm => kpt_run)
theorem fmtI (x0 : 0 ≤ x) (x1 : x < 10 ^ 10)
    (h : ∀ t' k, Q (.str (PySem.Str.ofString "=\"" ++ PySem.Str.ofString (toString x) ++ PySem.Str.ofString "\"") t') { s with toks := k }) :
    wpAny (model prog w) A (binaryOp .Mod (.str (PySem.Str.ofString "=\"%d\"") t) (.int x tx)) Q E s := by
  refine' KPc.mod_int (T := fun x => PySem.Str.ofString "=\"" ++ PySem.Str.ofString (toString x) ++ PySem.Str.ofString "\"") ?kptF x0 x1 ?kptm h
  (case kptF => kpt_eq)
  (case kptm => kpc_run)
end
end Mine
end

section
open PySem PySem.W PyProof.Rows PySem.Calls
set_option maxRecDepth 100000
set_option maxHeartbeats 8000000
namespace Mine
open Builtin Builtin.ObjectAttr
theorem store_function : StoreFacts "function" [.type "function", .type "object"] "object.__setattr__" "object" where
  mro := by kernel_rfl
  slot := .of (owner := "object") (n := "__setattr__") (by rw [typeLookup_type, builtinLookup_eq_fast]; kernel_rfl) (by decide +kernel) (by decide +kernel) (by decide +kernel)
    (by first | exact .inl (by decide +kernel) | exact .inr (by decide +kernel)) (by rw [isSubtype_type]; kernel_rfl)
  entry := PySem.F.entry_object_sa
  kind := by decide +kernel
  split := by decide +kernel
  hasOwner := by decide +kernel
  args := fun a b c => by unfold argsOk; kernel_rfl
  passes := fun self => by kernel_rfl
theorem fn_no_span : typeLookup (.type "function") "span" = pure none := by rw [typeLookup_type, builtinLookup_eq_fast]; kernel_rfl
theorem fn_no_search : typeLookup (.type "function") "search" = pure none := by rw [typeLookup_type, builtinLookup_eq_fast]; kernel_rfl
theorem fn_has_dict : typeHasDict (.type "function") = true := by decide +kernel
theorem fn_dictMade (a d : Addr) : dictMade (.type "function") a d = pure (some d) := by kernel_rfl
theorem fn_tells (a : Addr) : ownStreamTells (.ref a) (.type "function") = pure () := by kernel_rfl
theorem fn_sub : isSubtype (.type "function") (.type "object") = pure true := by rw [isSubtype_type]; kernel_rfl

section
variable {prog : Program} {w : World} {A : Around} {E : Value → Shared → Prop} {s : Shared} {h₀ : Heap} {L f : Addr} {m : Str → Option Value} {news : List (Addr × Obj)} {g : Obj → List (Addr × Obj)} {o : Obj} {fd : FuncData} {v : Value} {name : Str}
theorem setAttr_fn {Q : Unit → Shared → Prop} (F : Fr h₀ L s.heap m) (N : News h₀ L s.heap news) (U : UpdF f o news g) (hc : o.cls = .type "function") (hdn : o.dict = none) (hd : o.data = .func fd) (hno : typeLookup (.type "function") name = pure none)
    (h : ∀ d h' tk tk', Fr h₀ L h' m → News h₀ L h' ((d, dictOf [⟨PyData.keyHash w.params name, .str name tk, v⟩] 1) :: g { o with dict := some d }) → (∀ p ∈ news, p.1 < d) → Q () { s with heap := h', toks := tk' }) :
    wpAny (model prog w) A (setAttr (.ref f) name v) Q E s := by
  revert F N U hc hdn hd hno h
  revert prog E h₀ L f m news g o fd v name Q
  revert s
  revert A
  revert w
  refine no_implicit_lambda% (closedW ?_)
  with_reducible generalize wit _ _ = w
  refine no_implicit_lambda% (closed' neA ?_)
  generalize wit _ _ = A
  refine no_implicit_lambda% (closed' neS ?_)
  with_reducible generalize wit _ _ = s
  refine no_implicit_lambda% (@id (Unit → _) ?_ ())
  refine no_implicit_lambda% (closed14 ?_)
  with_reducible generalize wit _ _ = tQ
  with_reducible generalize Prod.fst (Prod.snd (tQ)) = prog
  with_reducible generalize Prod.fst (Prod.snd (Prod.snd (tQ))) = E
  with_reducible generalize Prod.fst (Prod.snd (Prod.snd (Prod.snd (tQ)))) = h₀
  with_reducible generalize Prod.fst (Prod.snd (Prod.snd (Prod.snd (Prod.snd (tQ))))) = L
  with_reducible generalize Prod.fst (Prod.snd (Prod.snd (Prod.snd (Prod.snd (Prod.snd (tQ)))))) = f
  with_reducible generalize Prod.fst (Prod.snd (Prod.snd (Prod.snd (Prod.snd (Prod.snd (Prod.snd (tQ))))))) = m
  with_reducible generalize Prod.fst (Prod.snd (Prod.snd (Prod.snd (Prod.snd (Prod.snd (Prod.snd (Prod.snd (tQ)))))))) = news
  with_reducible generalize Prod.fst (Prod.snd (Prod.snd (Prod.snd (Prod.snd (Prod.snd (Prod.snd (Prod.snd (Prod.snd (tQ))))))))) = g
  with_reducible generalize Prod.fst (Prod.snd (Prod.snd (Prod.snd (Prod.snd (Prod.snd (Prod.snd (Prod.snd (Prod.snd (Prod.snd (tQ)))))))))) = o
  with_reducible generalize Prod.fst (Prod.snd (Prod.snd (Prod.snd (Prod.snd (Prod.snd (Prod.snd (Prod.snd (Prod.snd (Prod.snd (Prod.snd (tQ))))))))))) = fd
  with_reducible generalize Prod.fst (Prod.snd (Prod.snd (Prod.snd (Prod.snd (Prod.snd (Prod.snd (Prod.snd (Prod.snd (Prod.snd (Prod.snd (Prod.snd (tQ)))))))))))) = v
  with_reducible generalize Prod.fst (Prod.snd (Prod.snd (Prod.snd (Prod.snd (Prod.snd (Prod.snd (Prod.snd (Prod.snd (Prod.snd (Prod.snd (Prod.snd (Prod.snd (tQ))))))))))))) = name
  with_reducible generalize Prod.snd (Prod.snd (Prod.snd (Prod.snd (Prod.snd (Prod.snd (Prod.snd (Prod.snd (Prod.snd (Prod.snd (Prod.snd (Prod.snd (Prod.snd (tQ))))))))))))) = Q
  clear tQ
  intro F N U hc hdn hd hno h
  obtain ⟨pre, post, rfl, hg, h1, h2⟩ := U.split
  have hf := (N (f, o) (by simp)).1
  have hT : s.TypeIs (.ref f) "function" := ⟨o, hf, hc⟩
  have SF := store_function
  refine wpAny_bind (wpAny_mkText (wpAny_bind ?_))
  have hT' : ({ s with toks := s.toks + 1 } : Shared).TypeIs (.ref f) "function" := hT
  refine wpAny_bind (wpAny_specialOf hT' SF.slot.lookup (wpAny_holding ?_))
  rw [SF.slot.bind]
  refine wpAny_bind (wpAny_pure (wpAny_bind (wpAny_call ?_)))
  refine codeAny_call_builtin SF.slot.plain SF.entry (SF.slot.check _ _ _ _ _ _ _ _ hT' (SF.args _ _ _) ?_)
  show wpAny _ _ (Builtin.«object.__setattr__» ⟨[.ref f, .str name s.toks, v], []⟩) _ _ _
  rw [osa_eq, refuse_eq]
  refine wpAny_bind (wpAny_bind (wpAny_typeOf hT' (wpAny_bind (wpAny_of_eq SF.mro ?_))))
  rw [SF.passes]
  refine wpAny_pure (wpAny_bind (wpAny_typeOf hT' (wpAny_bind (wpAny_of_eq hno (wpAny_bind (wpAny_pure ?_))))))
  dsimp only
  unfold storeInOwnDict
  rw [fn_tells]
  refine wpAny_bind (wpAny_pure ?_)
  have hmod : (Value.type "function" == Value.type "module") = false := by decide
  simp only [hmod, Bool.false_eq_true, if_false]
  refine wpAny_bind ?_
  show wpAny _ _ (instanceDict f true) _ _ _
  unfold instanceDict
  refine wpAny_bind (wpAny_loadPart (s := { s with toks := s.toks + 1 }) hf ?_)
  obtain ⟨oc, od, oda, osl⟩ := o
  dsimp only at hc hdn hd
  subst hc hdn hd
  dsimp only
  simp only [fn_has_dict, fn_dictMade, Bool.not_true, Bool.or_false, Bool.false_eq_true, if_false, Bool.or_self]
  refine wpAny_bind (wpAny_alloc ?_)
  have F1 := F.push (dictOf [] 0)
  have N1 := N.push F (dictOf [] 0)
  have hltf : f < s.heap.objs.size := Heap.lt_size hf
  have hlt : ∀ p ∈ pre ++ (f, (⟨.type "function", none, .func fd, osl⟩ : Obj)) :: post, p.1 < s.heap.objs.size := fun p hp => Heap.lt_size (N p hp).1
  obtain ⟨F2, N2⟩ := news_upd (pre := (s.heap.objs.size, dictOf [] 0) :: pre) (f := fun o => { o with dict := some s.heap.objs.size }) F1 N1 (fun p hp => by
    rcases List.mem_cons.mp hp with rfl | hp
    · exact Nat.ne_of_gt hltf
    · exact h1 p hp) h2 rfl rfl
  refine wpAny_bind (wpAny_update (Heap.get?_push_of_some _ hf) ?_)
  obtain ⟨F3, N3⟩ := news_upd (pre := []) (post := pre ++ (f, (⟨.type "function", some s.heap.objs.size, .func fd, osl⟩ : Obj)) :: post) (f := Obj.putName name (PyData.keyHash w.params name) (.str name (s.toks + 1)) v) F2 N2 (fun p hp => nomatch hp) (fun p hp => by
    rcases List.mem_append.mp hp with hp | hp
    · exact Nat.ne_of_lt (hlt p (List.mem_append.mpr (.inl hp)))
    · rcases List.mem_cons.mp hp with rfl | hp
      · exact Nat.ne_of_lt hltf
      · exact Nat.ne_of_lt (hlt p (by simp [hp]))) (putName_dict _ _ _ _ _ _) rfl
  have D := (N2 (s.heap.objs.size, dictOf [] 0) (by simp)).1
  have D' := (N3 _ (List.Mem.head _)).1
  refine wpAny_pure (a := some s.heap.objs.size) ?_
  dsimp only
  unfold storeInDict
  refine wpAny_bind (wpAny_pure (wpAny_bind ?_))
  unfold nsSet
  refine wpAny_bind (wpAny_bind (wpAny_askSetting (wpAny_pure (wpAny_bind (wpAny_mkText (wpAny_bind (wpAny_loadPart D ?_)))))))
  dsimp only
  have c : aRefKeyMayBeTheName name #[] = false := by kernel_rfl
  simp only [c, Bool.false_eq_true, if_false]
  refine wpAny_bind (wpAny_pure ?_)
  refine wpAny_updatePart D ?_
  refine wpAny_bind (wpAny_lookBehind D' (pastItsLine_dict (by show 1 ≤ _; rw [sizeLine_eq]; decide)) ?_)
  refine wpAny_pure ?_
  dsimp only
  refine wpAny_pure (wpAny_pure ?_)
  refine h _ _ (s.toks + 1) _ F3 ?_ hlt
  rw [hg]
  exact N3
end
end Mine
end

section
open PySem PySem.W PyProof.Rows PySem.Calls
set_option maxRecDepth 100000
set_option maxHeartbeats 8000000
namespace Mine
open Builtin Builtin.ObjectAttr
theorem fn_ga : Slot "function" "__getattribute__" "object.__getattribute__" :=
  .of (owner := "object") (n := "__getattribute__") (by rw [typeLookup_type, builtinLookup_eq_fast]; kernel_rfl) (by decide +kernel) (by decide +kernel) (by decide +kernel)
    (by first | exact .inl (by decide +kernel) | exact .inr (by decide +kernel)) (by rw [isSubtype_type]; kernel_rfl)
theorem fn_no_getattr : typeLookup (.type "function") "__getattr__" = pure none := by rw [typeLookup_type, builtinLookup_eq_fast]; kernel_rfl
theorem fn_no_bool : typeLookup (.type "function") "__bool__" = pure none := by rw [typeLookup_type, builtinLookup_eq_fast]; kernel_rfl
theorem fn_no_len : typeLookup (.type "function") "__len__" = pure none := by rw [typeLookup_type, builtinLookup_eq_fast]; kernel_rfl
theorem fn_slotArgs (a b : Value) : slotArgs "__getattribute__" 1 ⟨[a, b], []⟩ = pure (a, [b]) := by kernel_rfl
theorem fn_attrName (x : Str) (tk : Tok) : attrName (.str x tk) = pure x := by kernel_rfl
section
variable {prog : Program} {w : World} {A : Around} {E : Value → Shared → Prop} {s : Shared} {h₀ : Heap} {L f d g : Addr} {m : Str → Option Value} {news : List (Addr × Obj)} {o : Obj} {fd : FuncData} {name : Str} {hsh : Int} {tk : Tok}
theorem truthy_fn {Q : Bool → Shared → Prop} (N : News h₀ L s.heap news) (hm : (f, o) ∈ news) (hc : o.cls = .type "function") (h : Q true s) : wpAny (model prog w) A (truthy (.ref f)) Q E s := by
  have hT : s.TypeIs (.ref f) "function" := ⟨o, (N _ hm).1, hc⟩
  unfold truthy callSpecial?
  refine wpAny_bind (wpAny_bind (wpAny_specialOf hT fn_no_bool (wpAny_pure ?_)))
  dsimp only
  refine wpAny_bind (wpAny_specialOf hT fn_no_len ?_)
  exact wpAny_pure h
theorem getMethod_fn {Q : Value × List Value → Shared → Prop} {pl : Sem Bool} (N : News h₀ L s.heap news) (hm : (f, o) ∈ news) (hc : o.cls = .type "function") (hdn : o.dict = some d) (hd : o.data = .func fd)
    (hD : (d, dictOf [⟨hsh, .str name tk, .ref g⟩] 1) ∈ news) (hno : typeLookup (.type "function") name = pure none) (h : Q (.ref g, []) { s with toks := s.toks + 1 }) :
    wpAny (model prog w) A (getMethod (.ref f) name pl) Q E s := by
  revert N hm hc hdn hd hD hno h
  revert prog E h₀ L f d g news o fd name hsh tk Q pl
  revert s
  revert A
  revert w
  refine no_implicit_lambda% (closedW ?_)
  with_reducible generalize wit _ _ = w
  refine no_implicit_lambda% (closed' neA ?_)
  generalize wit _ _ = A
  refine no_implicit_lambda% (closed' neS ?_)
  with_reducible generalize wit _ _ = s
  refine no_implicit_lambda% (@id (Unit → Unit → Unit → Unit → _) ?_ () () () ())
  refine no_implicit_lambda% (closed19 ?_)
  with_reducible generalize wit _ _ = tQ
  with_reducible generalize Prod.fst (Prod.snd (Prod.snd (Prod.snd (Prod.snd (tQ))))) = prog
  with_reducible generalize Prod.fst (Prod.snd (Prod.snd (Prod.snd (Prod.snd (Prod.snd (tQ)))))) = E
  with_reducible generalize Prod.fst (Prod.snd (Prod.snd (Prod.snd (Prod.snd (Prod.snd (Prod.snd (tQ))))))) = h₀
  with_reducible generalize Prod.fst (Prod.snd (Prod.snd (Prod.snd (Prod.snd (Prod.snd (Prod.snd (Prod.snd (tQ)))))))) = L
  with_reducible generalize Prod.fst (Prod.snd (Prod.snd (Prod.snd (Prod.snd (Prod.snd (Prod.snd (Prod.snd (Prod.snd (tQ))))))))) = f
  with_reducible generalize Prod.fst (Prod.snd (Prod.snd (Prod.snd (Prod.snd (Prod.snd (Prod.snd (Prod.snd (Prod.snd (Prod.snd (tQ)))))))))) = d
  with_reducible generalize Prod.fst (Prod.snd (Prod.snd (Prod.snd (Prod.snd (Prod.snd (Prod.snd (Prod.snd (Prod.snd (Prod.snd (Prod.snd (tQ))))))))))) = g
  with_reducible generalize Prod.fst (Prod.snd (Prod.snd (Prod.snd (Prod.snd (Prod.snd (Prod.snd (Prod.snd (Prod.snd (Prod.snd (Prod.snd (Prod.snd (tQ)))))))))))) = news
  with_reducible generalize Prod.fst (Prod.snd (Prod.snd (Prod.snd (Prod.snd (Prod.snd (Prod.snd (Prod.snd (Prod.snd (Prod.snd (Prod.snd (Prod.snd (Prod.snd (tQ))))))))))))) = o
  with_reducible generalize Prod.fst (Prod.snd (Prod.snd (Prod.snd (Prod.snd (Prod.snd (Prod.snd (Prod.snd (Prod.snd (Prod.snd (Prod.snd (Prod.snd (Prod.snd (Prod.snd (tQ)))))))))))))) = fd
  with_reducible generalize Prod.fst (Prod.snd (Prod.snd (Prod.snd (Prod.snd (Prod.snd (Prod.snd (Prod.snd (Prod.snd (Prod.snd (Prod.snd (Prod.snd (Prod.snd (Prod.snd (Prod.snd (tQ))))))))))))))) = name
  with_reducible generalize Prod.fst (Prod.snd (Prod.snd (Prod.snd (Prod.snd (Prod.snd (Prod.snd (Prod.snd (Prod.snd (Prod.snd (Prod.snd (Prod.snd (Prod.snd (Prod.snd (Prod.snd (Prod.snd (tQ)))))))))))))))) = hsh
  with_reducible generalize Prod.fst (Prod.snd (Prod.snd (Prod.snd (Prod.snd (Prod.snd (Prod.snd (Prod.snd (Prod.snd (Prod.snd (Prod.snd (Prod.snd (Prod.snd (Prod.snd (Prod.snd (Prod.snd (Prod.snd (tQ))))))))))))))))) = tk
  with_reducible generalize Prod.fst (Prod.snd (Prod.snd (Prod.snd (Prod.snd (Prod.snd (Prod.snd (Prod.snd (Prod.snd (Prod.snd (Prod.snd (Prod.snd (Prod.snd (Prod.snd (Prod.snd (Prod.snd (Prod.snd (Prod.snd (tQ)))))))))))))))))) = Q
  with_reducible generalize Prod.snd (Prod.snd (Prod.snd (Prod.snd (Prod.snd (Prod.snd (Prod.snd (Prod.snd (Prod.snd (Prod.snd (Prod.snd (Prod.snd (Prod.snd (Prod.snd (Prod.snd (Prod.snd (Prod.snd (Prod.snd (tQ)))))))))))))))))) = pl
  clear tQ
  intro N hm hc hdn hd hD hno h
  have hf := (N _ hm).1
  have hdd := (N _ hD).1
  have hT : s.TypeIs (.ref f) "function" := ⟨o, hf, hc⟩
  have hT' : ({ s with toks := s.toks + 1 } : Shared).TypeIs (.ref f) "function" := hT
  unfold getMethod
  refine wpAny_bind (wpAny_specialOf hT fn_ga.lookup ?_)
  show wpAny _ _ (if (Manifest.canonical "object.__getattribute__" != "object.__getattribute__") = true then _ else _) _ _ _
  rw [if_neg (by rw [PySem.F.canon_object_ga]; exact Bool.false_ne_true)]
  refine wpAny_bind (wpAny_specialOf hT fn_no_getattr ?_)
  show wpAny _ _ (specialOf (.ref f) name >>= _) _ _ _
  refine wpAny_bind (wpAny_specialOf hT hno ?_)
  dsimp only
  unfold getAttr getAttrBy
  refine wpAny_bind (wpAny_bind (wpAny_mkText (wpAny_holding (wpAny_bind (wpAny_typeOf hT' (wpAny_bind (wpAny_of_eq fn_ga.lookup ?_)))))))
  show wpAny _ _ (getAttrByItsOwn (.ref f) (.str name s.toks) (.type "function") (.builtin "object.__getattribute__") true false) _ _ _
  unfold getAttrByItsOwn hookBefore callGetattribute boundAndCalled
  refine wpAny_bind (wpAny_of_eq (show (if onTheHeap (.type "function") then typeLookup (.type "function") "__getattr__" else pure none) = pure none from rfl) ?_)
  refine wpAny_bind (wpAny_attempt (wpAny_holding ?_))
  show wpAny _ _ (bindSpecial (.builtin "object.__getattribute__") (.ref f) >>= _) _ _ _
  refine wpAny_bind (wpAny_of_eq (fn_ga.bind _) ?_)
  refine wpAny_mono (Q := fun v s' => v = .ref g ∧ s' = { s with toks := s.toks + 1 }) (E := fun _ _ => False) ?_ (fun v s' hv => ?_) fun _ _ z => z.elim
  · refine wpAny_call_entry fn_ga hT' PySem.F.entry_object_getattribute ?_ (PySem.F.args_object_getattribute_2 _ _)
    show wpAny _ _ (Builtin.«object.__getattribute__» ⟨[.ref f, .str name s.toks], []⟩) _ _ _
    unfold Builtin.«object.__getattribute__»
    refine wpAny_bind (wpAny_of_eq (fn_slotArgs _ _) ?_)
    dsimp only
    refine wpAny_bind (wpAny_of_eq (fn_attrName _ _) ?_)
    refine wpAny_bind (wpAny_typeOf hT' (wpAny_bind ?_))
    unfold find
    refine wpAny_bind (wpAny_of_eq hno ?_)
    refine wpAny_bind (wpAny_pure ?_)
    refine wpAny_bind (wpAny_pure ?_)
    dsimp only
    unfold ownThenClass inOwnDict ObjectAttr.ownDict loadHead
    obtain ⟨oc, od, oda, osl⟩ := o
    dsimp only at hc hdn hd
    subst hc hdn hd
    have hns : ({ s with toks := s.toks + 1 } : Shared).heap.Ns d (fun x => nsFind #[⟨hsh, .str name tk, .ref g⟩] x) := ⟨_, _, _, hdd, rfl, fun e he => by
      simp at he; subst he; exact ⟨_, _, rfl⟩, fun _ => rfl⟩
    refine wpAny_bind (wpAny_bind (wpAny_bind (wpAny_loadPart hf ?_)))
    dsimp only
    unfold instanceDict
    refine wpAny_bind (wpAny_loadPart hf ?_)
    dsimp only
    refine wpAny_pure ?_
    refine wpAny_nsGet hns ?_
    have hx : nsFind #[⟨hsh, Value.str name tk, Value.ref g⟩] name = some (.ref g) := by simp [nsFind, findBy, Value.isStr]
    rw [hx]
    dsimp only
    refine wpAny_bind (wpAny_rule (wpAny_pure ?_))
    exact wpAny_pure ⟨_, rfl, rfl, rfl⟩
  · obtain ⟨rfl, rfl⟩ := hv
    exact wpAny_pure (wpAny_pure h)
end
end Mine
end

section
open PySem PySem.W PyProof.Rows PySem.Calls
set_option maxRecDepth 100000
set_option maxHeartbeats 8000000
namespace Mine
theorem reg_Loop_1 : True := by
  w_top off
  k_with_none
  k_with "my omega" => first
      | with_reducible assumption
      | decide
      | ((fail_if_success (fail_if_success omega (config := {})))
         first
           | k_extra "my om"
           | k_extra "my big"
           | omega (config := {}))
  k_with "my om" => first
      | (with_reducible refine' rm0 ?h; (case h => with_reducible assumption))
      | (with_reducible refine' rm1 ?h ?e; (case h => with_reducible assumption); (case e => decide))
      | (with_reducible refine' rm2 ?h ?e; (case h => with_reducible assumption); (case e => decide))
      | (with_reducible refine' rm3 ?h ?e; (case h => with_reducible assumption); (case e => decide))
      | (with_reducible refine' bd1 ?h ?e; (case h => with_reducible assumption); (case e => decide))
      | (with_reducible refine' bd3 ?h ?e; (case h => with_reducible assumption); (case e => decide))
      | (with_reducible refine' bd4 ?h ?e; (case h => with_reducible assumption); (case e => decide))
      | (with_reducible refine' bz1 ?h ?e; (case h => walk_at "lt"); (case e => decide))
      | (with_reducible refine' bz3 ?h ?e; (case h => walk_at "lt"); (case e => decide))
      | (with_reducible refine' bd2 ?q ?h ?e; (case q => with_reducible assumption); (case h => with_reducible assumption); (case e => decide))
      | walk_at "lt2"
      | (with_reducible refine Nat.le_of_lt ?_; walk_at "lt2")
      | (with_reducible refine Nat.ne_of_lt ?_; walk_at "lt2")
      | (with_reducible refine Nat.ne_of_gt ?_; walk_at "lt2")
      | ((with_reducible refine And.intro ?_ ?_) <;> k_extra "my omega")
      | (with_reducible refine' Nat.lt_trans ?a ?b; (case b => with_reducible assumption); (case a => walk_at "lt2"))
      | (with_reducible refine' Nat.lt_trans ?a ?b; (case a => with_reducible assumption); (case b => walk_at "lt2"))
      | (with_reducible refine' Nat.lt_of_le_of_lt ?a ?b; (case b => with_reducible assumption); (case a => walk_at "lt2"))
      | (with_reducible refine' Nat.lt_of_le_of_lt ?a ?b; (case a => with_reducible assumption); (case b => walk_at "lt2"))
      | (with_reducible refine' Nat.lt_of_lt_of_le ?a ?b; (case b => with_reducible assumption); (case a => walk_at "lt2"))
      | (with_reducible refine' Nat.lt_of_lt_of_le ?a ?b; (case a => with_reducible assumption); (case b => walk_at "lt2"))
      | (with_reducible refine' Nat.le_trans ?a ?b; (case b => with_reducible assumption); (case a => walk_at "lt2"))
      | (with_reducible refine' Nat.le_trans ?a ?b; (case a => with_reducible assumption); (case b => walk_at "lt2"))
  k_with "my lt" => first
      | with_reducible assumption
      | (refine' And.left ?h; (case h => with_reducible assumption))
      | (refine' And.left (And.right ?h); (case h => with_reducible assumption))
      | (refine' And.left (And.right (And.right ?h)); (case h => with_reducible assumption))
      | (refine' And.left (And.right (And.right (And.right ?h))); (case h => with_reducible assumption))
      | (refine' And.left (And.right (And.right (And.right (And.right ?h)))); (case h => with_reducible assumption))
      | (refine' And.left (And.right (And.right (And.right (And.right (And.right ?h))))); (case h => with_reducible assumption))
      | (refine' And.left (And.right (And.right (And.right (And.right (And.right (And.right ?h)))))); (case h => with_reducible assumption))
      | (refine' And.left (And.right (And.right (And.right (And.right (And.right (And.right (And.right ?h))))))); (case h => with_reducible assumption))
      | (refine' And.left (And.right (And.right (And.right (And.right (And.right (And.right (And.right (And.right ?h)))))))); (case h => with_reducible assumption))
      | (refine' And.left (And.right (And.right (And.right (And.right (And.right (And.right (And.right (And.right (And.right ?h))))))))); (case h => with_reducible assumption))
      | (refine' And.left (And.right (And.right (And.right (And.right (And.right (And.right (And.right (And.right (And.right (And.right ?h)))))))))); (case h => with_reducible assumption))
  k_with "my lt2" => first
      | walk_at "lt"
      | (with_reducible exact ad1)
      | (with_reducible exact ad2)
      | (with_reducible exact ad3)
      | (with_reducible exact ad4)
      | (with_reducible refine ar1 ?_; walk_at "lt")
      | (with_reducible refine ar2 ?_; walk_at "lt")
      | (with_reducible refine ar3 ?_; walk_at "lt")
      | (with_reducible refine ar4 ?_; walk_at "lt")
      | (with_reducible refine as1 ?_; walk_at "lt")
      | (with_reducible refine as2 ?_; walk_at "lt")
      | (with_reducible refine as3 ?_; walk_at "lt")
      | (with_reducible refine as4 ?_; walk_at "lt")
  k_with "my ar" => ((try dsimp only); first
      | with_reducible exact Nat.le_refl _
      | walk_at "lt2"
      | (refine Nat.le_of_lt ?_; walk_at "lt2")
      | (refine Nat.ne_of_lt ?_; walk_at "lt2")
      | (refine Nat.ne_of_gt ?_; walk_at "lt2")
      | k_extra "my ar2"
      | omega)
  k_with "my k_ne" => (refine neN ?_; (try dsimp only); first
      | with_reducible assumption
      | (refine Ne.symm ?_; with_reducible assumption)
      | (refine Nat.ne_of_lt ?_; walk_at "lt")
      | (refine Nat.ne_of_gt ?_; walk_at "lt")
      | omega)
  trivial
section
variable {prog : Program} {w : World} {A : Around} {s : Shared} {env : Env} {h₀ : Heap} {E : Value → Shared → Prop} {Q : Flow → Shared → Prop} {target : PySem.Expr} {body : List Stmt}
/-- the loop that is left to run, its iterator at hand -/
noncomputable def LoopX (prog : Program) (w : World) (A : Around) (env : Env) (target : PySem.Expr) (body : List Stmt) (Q : Flow → Shared → Prop) (E : Value → Shared → Prop) (it : Value) (s : Shared) : Prop :=
  codeAny (model prog w) A (.forLoop target it body [] env) (fun r s' => match r with | .ok f => Q f s' | .error e => cameBackBy (model prog w) A env E e s') s
theorem for_open {iter : PySem.Expr} {pos : Pos} (h : wpAny (model prog w) A (eval iter env) (fun xv s₁ => wpAny (model prog w) A (pyIter xv) (fun it s₂ => LoopX prog w A env target body Q E it s₂) E s₁) E s)
    (hs : ∀ x, foldedSetIterable iter env x = pure x := by intro _; rfl) : wpAny (model prog w) A (exec (.For target iter body [] pos) env) Q E s := wpAny_For h hs
/-- what a turn leaves -/
noncomputable def TurnX (h₀ : Heap) (L I : Addr) (oI : Obj) (kp : List (Addr × Obj)) (J : (Str → Option Value) → List (Addr × Obj) → Prop) (s₁ s₂ : Shared) : Prop :=
  ∃ h' tk m' nx, s₂ = { s₁ with heap := h', toks := tk } ∧ Fr h₀ L h' m' ∧ News h₀ L h' ((I, oI) :: nx) ∧ (∀ p ∈ nx, p.1 ≠ I) ∧ (∀ p ∈ kp, p ∈ nx) ∧ J m' nx
noncomputable def PostX (h₀ : Heap) (L I : Addr) (oI : Obj) (kp : List (Addr × Obj)) (J : (Str → Option Value) → List (Addr × Obj) → Prop) (s₁ : Shared) (Q : Flow → Shared → Prop) (f : Flow) (s₂ : Shared) : Prop :=
  match f with
  | .ret v => Q (.ret v) s₂
  | .brk => Q .next s₂
  | .next => TurnX h₀ L I oI kp J s₁ s₂
  | .cont => TurnX h₀ L I oI kp J s₁ s₂
theorem loopx {I : Addr} {fp : List Addr} {n : Nat} {P : Nat → Value → Prop} {St : Nat → Heap → Prop} {m₀ : Str → Option Value} {news kp : List (Addr × Obj)} (J : Nat → (Str → Option Value) → List (Addr × Obj) → Prop)
    (hE : PassesOwn (model prog w) A env E) (W : Walks prog w A I fp [I] n P St) (hfp : ∀ a ∈ fp, a = I ∨ ∃ o, (a, o) ∈ kp) (hob : ∀ i h, St i h → ∃ o, h.get? I = some o) (hI0 : h₀.get? I = none) (hIL : env.locals ≠ I) (hnw : ∀ p ∈ news, p.1 ≠ I)
    (hst : St 0 s.heap) (F : Fr h₀ env.locals s.heap m₀) (N : News h₀ env.locals s.heap news) (hkp : ∀ p ∈ kp, p ∈ news)
    (hgo : ∀ i (s' : Shared) v (Q' : Unit → Shared → Prop), St i s'.heap → Q' () s' → wpAny (model prog w) A (letOwnedTupleGo target (.ref I) v) Q' E s') (hj : J 0 m₀ news)
    (turn : ∀ i v m₁ nx h tk oI, i < n → P i v → (∀ p ∈ nx, p.1 ≠ I) → (∀ p ∈ kp, p ∈ nx) → J i m₁ nx → Fr h₀ env.locals h m₁ → News h₀ env.locals h ((I, oI) :: nx) →
      wpAny (model prog w) A (assign target env v) (fun _ s₂ => wpAny (model prog w) A (execs body env) (PostX h₀ env.locals I oI kp (J (i + 1)) { s with heap := h, toks := tk } Q) E s₂) E { s with heap := h, toks := tk })
    (done : ∀ m₁ nx h tk, J n m₁ nx → (∀ p ∈ kp, p ∈ nx) → Fr h₀ env.locals h m₁ → News h₀ env.locals h nx → Q .next { s with heap := h, toks := tk }) :
    LoopX prog w A env target body Q E (.ref I) s := by
  revert hE W hfp hob hI0 hIL hnw hst F N hkp hgo hj turn done
  revert prog env h₀ E Q target body I fp n P St m₀ news kp J
  revert s
  revert A
  revert w
  refine no_implicit_lambda% (closedW ?_)
  with_reducible generalize wit _ _ = w
  refine no_implicit_lambda% (closed' neA ?_)
  generalize wit _ _ = A
  refine no_implicit_lambda% (closed' neS ?_)
  with_reducible generalize wit _ _ = s
  refine no_implicit_lambda% (@id (Unit → Unit → Unit → _) ?_ () () ())
  refine no_implicit_lambda% (closed19 ?_)
  with_reducible generalize wit _ _ = tQ
  with_reducible generalize Prod.fst (Prod.snd (Prod.snd (Prod.snd (tQ)))) = prog
  with_reducible generalize Prod.fst (Prod.snd (Prod.snd (Prod.snd (Prod.snd (tQ))))) = env
  with_reducible generalize Prod.fst (Prod.snd (Prod.snd (Prod.snd (Prod.snd (Prod.snd (tQ)))))) = h₀
  with_reducible generalize Prod.fst (Prod.snd (Prod.snd (Prod.snd (Prod.snd (Prod.snd (Prod.snd (tQ))))))) = E
  with_reducible generalize Prod.fst (Prod.snd (Prod.snd (Prod.snd (Prod.snd (Prod.snd (Prod.snd (Prod.snd (tQ)))))))) = Q
  with_reducible generalize Prod.fst (Prod.snd (Prod.snd (Prod.snd (Prod.snd (Prod.snd (Prod.snd (Prod.snd (Prod.snd (tQ))))))))) = target
  with_reducible generalize Prod.fst (Prod.snd (Prod.snd (Prod.snd (Prod.snd (Prod.snd (Prod.snd (Prod.snd (Prod.snd (Prod.snd (tQ)))))))))) = body
  with_reducible generalize Prod.fst (Prod.snd (Prod.snd (Prod.snd (Prod.snd (Prod.snd (Prod.snd (Prod.snd (Prod.snd (Prod.snd (Prod.snd (tQ))))))))))) = I
  with_reducible generalize Prod.fst (Prod.snd (Prod.snd (Prod.snd (Prod.snd (Prod.snd (Prod.snd (Prod.snd (Prod.snd (Prod.snd (Prod.snd (Prod.snd (tQ)))))))))))) = fp
  with_reducible generalize Prod.fst (Prod.snd (Prod.snd (Prod.snd (Prod.snd (Prod.snd (Prod.snd (Prod.snd (Prod.snd (Prod.snd (Prod.snd (Prod.snd (Prod.snd (tQ))))))))))))) = n
  with_reducible generalize Prod.fst (Prod.snd (Prod.snd (Prod.snd (Prod.snd (Prod.snd (Prod.snd (Prod.snd (Prod.snd (Prod.snd (Prod.snd (Prod.snd (Prod.snd (Prod.snd (tQ)))))))))))))) = P
  with_reducible generalize Prod.fst (Prod.snd (Prod.snd (Prod.snd (Prod.snd (Prod.snd (Prod.snd (Prod.snd (Prod.snd (Prod.snd (Prod.snd (Prod.snd (Prod.snd (Prod.snd (Prod.snd (tQ))))))))))))))) = St
  with_reducible generalize Prod.fst (Prod.snd (Prod.snd (Prod.snd (Prod.snd (Prod.snd (Prod.snd (Prod.snd (Prod.snd (Prod.snd (Prod.snd (Prod.snd (Prod.snd (Prod.snd (Prod.snd (Prod.snd (tQ)))))))))))))))) = m₀
  with_reducible generalize Prod.fst (Prod.snd (Prod.snd (Prod.snd (Prod.snd (Prod.snd (Prod.snd (Prod.snd (Prod.snd (Prod.snd (Prod.snd (Prod.snd (Prod.snd (Prod.snd (Prod.snd (Prod.snd (Prod.snd (tQ))))))))))))))))) = news
  with_reducible generalize Prod.fst (Prod.snd (Prod.snd (Prod.snd (Prod.snd (Prod.snd (Prod.snd (Prod.snd (Prod.snd (Prod.snd (Prod.snd (Prod.snd (Prod.snd (Prod.snd (Prod.snd (Prod.snd (Prod.snd (Prod.snd (tQ)))))))))))))))))) = kp
  with_reducible generalize Prod.snd (Prod.snd (Prod.snd (Prod.snd (Prod.snd (Prod.snd (Prod.snd (Prod.snd (Prod.snd (Prod.snd (Prod.snd (Prod.snd (Prod.snd (Prod.snd (Prod.snd (Prod.snd (Prod.snd (Prod.snd (tQ)))))))))))))))))) = J
  clear tQ
  intro hE W hfp hob hI0 hIL hnw hst F N hkp hgo hj turn done
  unfold LoopX
  refine codeAny_forLoop_any
    (fun k s' => ∃ h' tk m' news' i, s' = { s with heap := h', toks := tk } ∧ St i h' ∧ Fr h₀ env.locals h' m' ∧ News h₀ env.locals h' news' ∧ (∀ p ∈ news', p.1 ≠ I) ∧ (∀ p ∈ kp, p ∈ news') ∧ J i m' news' ∧ i ≤ n ∧ k = n + 1 - i) ?_ (n + 1)
    ⟨s.heap, s.toks, m₀, news, 0, rfl, hst, F, N, hnw, hkp, hj, Nat.zero_le _, rfl⟩
  rintro k s' ⟨h', tk, m', news', i, rfl, hst', F', N', hnw', hkp', hJ, hi, rfl⟩
  have next : ∀ h₁ : Heap, (∀ b o, b ∉ [I] → h'.get? b = some o → h₁.get? b = some o) → Fr h₀ env.locals h₁ m' ∧ News h₀ env.locals h₁ news' := fun h₁ hk₁ =>
    ⟨⟨F'.ns.at' fun o e => hk₁ _ o (by simpa using hIL) e, fun b o e => hk₁ b o (by simp; rintro rfl; rw [hI0] at e; cases e) (F'.keep b o e), F'.above⟩, fun p hp => ⟨hk₁ _ _ (by simpa using hnw' p hp) (N' p hp).1, (N' p hp).2⟩⟩
  by_cases hlt : i < n
  · refine W.item i _ _ _ hlt hst' fun v h₁ tk₁ hP hst₁ hk₁ => ?_
    obtain ⟨F₁, N₁⟩ := next h₁ hk₁
    obtain ⟨oI, hoI⟩ := hob _ _ hst₁
    refine wpAny_passesOwn hE (hgo (i + 1) _ v _ hst₁ ?_)
    refine wpAny_mono (turn i v m' news' h₁ tk₁ oI hlt hP hnw' hkp' hJ F₁ ?_) (fun _ s₂ h₂ => wpAny_mono h₂ (fun f s₃ h₃ => ?_) hE) hE
    · intro p hp
      rcases List.mem_cons.mp hp with rfl | hp
      · exact ⟨hoI, Ne.symm hIL, hI0⟩
      · exact N₁ p hp
    · have fin : TurnX h₀ env.locals I oI kp (J (i + 1)) { s with heap := h₁, toks := tk₁ } s₃ → ∃ m, m < n + 1 - i ∧ ∃ h' tk m' news' i, s₃ = { s with heap := h', toks := tk } ∧ St i h' ∧ Fr h₀ env.locals h' m' ∧ News h₀ env.locals h' news' ∧ (∀ p ∈ news', p.1 ≠ I) ∧ (∀ p ∈ kp, p ∈ news') ∧ J i m' news' ∧ i ≤ n ∧ m = n + 1 - i := by
        rintro ⟨h₃', tk₃, m₂, news₂, rfl, F₃, N₃, ha₃, hk₃, hJ₃⟩
        refine ⟨n + 1 - (i + 1), by omega, h₃', tk₃, m₂, news₂, i + 1, rfl, ?_, F₃, fun p hp => N₃ p (.tail _ hp), ha₃, hk₃, hJ₃, hlt, rfl⟩
        refine W.frame _ _ _ hst₁ fun b hb o e => ?_
        rcases hfp b hb with rfl | ⟨o', ho'⟩
        · rw [hoI] at e; cases e; exact (N₃ _ (.head _)).1
        · have e1 := (N₁ _ (hkp' _ ho')).1
          rw [e] at e1; cases e1
          exact (N₃ _ (.tail _ (hk₃ _ ho'))).1
      cases f with
      | ret v => exact h₃
      | brk => exact h₃
      | next => exact fin h₃
      | cont => exact fin h₃
  · have hin : i = n := by omega
    subst hin
    refine W.done _ _ _ hst' fun h₁ tk₁ hk₁ => wpAny_execs_nil ?_
    obtain ⟨F₁, N₁⟩ := next h₁ hk₁
    exact done _ _ _ _ hJ hkp' F₁ N₁
theorem iter_listX {l : Addr} {vs : List Value} {nn : Nat} {m₀ : Str → Option Value} {news : List (Addr × Obj)} (J : Nat → (Str → Option Value) → List (Addr × Obj) → Prop)
    (hE : PassesOwn (model prog w) A env E) (hh : A.handled = none) (hl : (l, listOf vs.toArray nn) ∈ news) (F : Fr h₀ env.locals s.heap m₀) (N : News h₀ env.locals s.heap news) (hj : J 0 m₀ news)
    (turn : ∀ I i v m₁ nx h tk oI, (∀ p ∈ news, p.1 < I) → vs[i]? = some v → (∀ p ∈ nx, p.1 ≠ I) → (l, listOf vs.toArray nn) ∈ nx → J i m₁ nx → Fr h₀ env.locals h m₁ → News h₀ env.locals h ((I, oI) :: nx) →
      wpAny (model prog w) A (assign target env v) (fun _ s₂ => wpAny (model prog w) A (execs body env) (PostX h₀ env.locals I oI [(l, listOf vs.toArray nn)] (J (i + 1)) { s with heap := h, toks := tk } Q) E s₂) E { s with heap := h, toks := tk })
    (done : ∀ m₁ nx h tk, J vs.length m₁ nx → (l, listOf vs.toArray nn) ∈ nx → Fr h₀ env.locals h m₁ → News h₀ env.locals h nx → Q .next { s with heap := h, toks := tk }) :
    wpAny (model prog w) A (pyIter (.ref l)) (fun it s₂ => LoopX prog w A env target body Q E it s₂) E s := by
  have hol : s.heap.get? l = some (listOf vs.toArray nn) := (N _ hl).1
  have hls : s.heap.IsList l vs.toArray := ⟨_, hol, rfl, nn, rfl⟩
  have hne : l ≠ s.heap.objs.size := Nat.ne_of_lt (Heap.lt_size hol)
  refine wpAny_pyIter_list hls ?_
  have W := Walks.list (prog := prog) (w := w) hh s.heap.objs.size l hne vs.toArray
  have hlen : vs.toArray.size = vs.length := by simp
  rw [hlen] at W
  refine loopx (kp := [(l, listOf vs.toArray nn)]) J hE W ?_ ?_ ?_ ?_ ?_ ⟨⟨_, Heap.get?_push_size _ rfl, rfl, rfl⟩, hls.at fun o e => Heap.get?_push_of_some _ e⟩ (F.push _) (fun p hp => ⟨Heap.get?_push_of_some _ (N p hp).1, (N p hp).2⟩) ?_ (fun i s' v Q' st hQ' => letGo_listiter st.1 hQ') hj ?_ ?_
  · intro a ha
    rcases List.mem_cons.mp ha with rfl | ha
    · exact .inl rfl
    · rw [List.mem_singleton.mp ha]; exact .inr ⟨_, List.mem_singleton.mpr rfl⟩
  · intro i h st; obtain ⟨o, ho, _⟩ := st.1; exact ⟨o, ho⟩
  · exact next_is_new F
  · exact Nat.ne_of_lt F.ns.lt
  · intro p hp; exact Nat.ne_of_lt (Heap.lt_size (N p hp).1)
  · intro p hp; rw [List.mem_singleton.mp hp]; exact hl
  · intro i v m₁ nx h tk oI hi hP h1 h2 hJ F₁ N₁
    exact turn _ i v m₁ nx h tk oI (fun p hp => Heap.lt_size (N p hp).1) (by simpa using hP) h1 (h2 _ (List.mem_singleton.mpr rfl)) hJ F₁ N₁
  · intro m₁ nx h tk hJ hk F₁ N₁
    exact done m₁ nx h tk hJ (hk _ (List.mem_singleton.mpr rfl)) F₁ N₁
end
end Mine
end

section
open PySem PySem.W PyProof.Rows PySem.Calls
set_option maxRecDepth 100000
set_option maxHeartbeats 8000000
namespace Mine
section
variable {prog : Program} {w : World} {A : Around} {s : Shared} {env : Env} {h₀ : Heap} {E : Value → Shared → Prop} {Q : Flow → Shared → Prop} {x : Str} {np : Pos} {body : List Stmt}
theorem postX_next {L I : Addr} {oI : Obj} {kp nx : List (Addr × Obj)} {J : (Str → Option Value) → List (Addr × Obj) → Prop} {s₁ s₂ : Shared} {Q : Flow → Shared → Prop} {m' : Str → Option Value} (F : Fr h₀ L s₂.heap m') (N : News h₀ L s₂.heap ((I, oI) :: nx)) (e : s₂ = { s₁ with heap := s₂.heap, toks := s₂.toks })
    (hne : ∀ p ∈ nx, p.1 ≠ I) (hk : ∀ p ∈ kp, p ∈ nx) (hJ : J m' nx) : PostX h₀ L I oI kp J s₁ Q .next s₂ := ⟨_, _, m', nx, e, F, N, hne, hk, hJ⟩
theorem postX_cont {L I : Addr} {oI : Obj} {kp nx : List (Addr × Obj)} {J : (Str → Option Value) → List (Addr × Obj) → Prop} {s₁ s₂ : Shared} {Q : Flow → Shared → Prop} {m' : Str → Option Value} (F : Fr h₀ L s₂.heap m') (N : News h₀ L s₂.heap ((I, oI) :: nx)) (e : s₂ = { s₁ with heap := s₂.heap, toks := s₂.toks })
    (hne : ∀ p ∈ nx, p.1 ≠ I) (hk : ∀ p ∈ kp, p ∈ nx) (hJ : J m' nx) : PostX h₀ L I oI kp J s₁ Q .cont s₂ := ⟨_, _, m', nx, e, F, N, hne, hk, hJ⟩
theorem letGo_name {I : Value} {v : Value} {Q' : Unit → Shared → Prop} {s' : Shared} (h : Q' () s') : wpAny (model prog w) A (letOwnedTupleGo (.Name x np) I v) Q' E s' := wpAny_pure h
theorem iter_strX {xt : Str} {tx : Tok} {m₀ : Str → Option Value} {news : List (Addr × Obj)} (J : Nat → (Str → Option Value) → List (Addr × Obj) → Prop)
    (hE : PassesOwn (model prog w) A env E) (hh : A.handled = none) (F : Fr h₀ env.locals s.heap m₀) (N : News h₀ env.locals s.heap news) (hj : J 0 m₀ news)
    (turn : ∀ I i c u m₁ nx h tk oI, (∀ p ∈ news, p.1 < I) → xt.cps[i]? = some c → (∀ p ∈ nx, p.1 ≠ I) → J i m₁ nx → Fr h₀ env.locals h m₁ → News h₀ env.locals h ((I, oI) :: nx) →
      wpAny (model prog w) A (assign (.Name x np) env (.str ⟨#[c]⟩ u)) (fun _ s₂ => wpAny (model prog w) A (execs body env) (PostX h₀ env.locals I oI [] (J (i + 1)) { s with heap := h, toks := tk } Q) E s₂) E { s with heap := h, toks := tk })
    (done : ∀ m₁ nx h tk, J xt.cps.size m₁ nx → Fr h₀ env.locals h m₁ → News h₀ env.locals h nx → Q .next { s with heap := h, toks := tk }) :
    wpAny (model prog w) A (pyIter (.str xt tx)) (fun it s₂ => LoopX prog w A env (.Name x np) body Q E it s₂) E s := by
  have core : ∀ (o : Obj) (St : Nat → Heap → Prop), Walks prog w A s.heap.objs.size [s.heap.objs.size] [s.heap.objs.size] xt.cps.size (SignAt xt) St → (∀ i h, St i h → ∃ o, h.get? s.heap.objs.size = some o) → St 0 (s.heap.push o) →
      LoopX prog w A env (.Name x np) body Q E (.ref s.heap.objs.size) { s with heap := s.heap.push o } := by
    intro o St W hob hst
    refine loopx (kp := []) J hE W ?_ hob ?_ ?_ ?_ hst (F.push _) (fun p hp => ⟨Heap.get?_push_of_some _ (N p hp).1, (N p hp).2⟩) ?_ (fun i s' v Q' st hQ' => letGo_name hQ') hj ?_ ?_
    · intro a ha; exact .inl (List.mem_singleton.mp ha)
    · exact next_is_new F
    · exact Nat.ne_of_lt F.ns.lt
    · intro p hp; exact Nat.ne_of_lt (Heap.lt_size (N p hp).1)
    · intro p hp; nomatch hp
    · rintro i v m₁ nx h tk oI hi ⟨c, u, hc, rfl⟩ h1 h2 hJ F₁ N₁
      exact turn _ i c u m₁ nx h tk oI (fun p hp => Heap.lt_size (N p hp).1) hc h1 hJ F₁ N₁
    · intro m₁ nx h tk hJ hk F₁ N₁
      exact done m₁ nx h tk hJ F₁ N₁
  cases ha : xt.cps.all (· < 128)
  · exact wpAny_pyIter_wide ha (core _ _ (Walks.strWide hh _ xt tx) (fun i h st => let ⟨o, ho, _⟩ := st; ⟨o, ho⟩) ⟨_, Heap.get?_push_size _ rfl, rfl, rfl⟩)
  · exact wpAny_pyIter_ascii ha (core _ _ (Walks.strAscii hh _ xt tx) (fun i h st => let ⟨o, ho, _⟩ := st; ⟨o, ho⟩) ⟨_, Heap.get?_push_size _ rfl, rfl, rfl⟩)
theorem iter_rangeX {r : Addr} {a b : Int} {t u v : Tok} {n : Nat} {m₀ : Str → Option Value} {news : List (Addr × Obj)} (J : Nat → (Str → Option Value) → List (Addr × Obj) → Prop)
    (hE : PassesOwn (model prog w) A env E) (hh : A.handled = none) (hr : IsRange s.heap r a b 1 t u v) (hsmall : Builtin.Range.small a b 1 = true) (hn : Builtin.Range.rangeSize a b 1 = (n : Int)) (F : Fr h₀ env.locals s.heap m₀) (N : News h₀ env.locals s.heap news) (hj : J 0 m₀ news)
    (turn : ∀ I i tk0 m₁ nx h tk oI, (∀ p ∈ news, p.1 < I) → i < n → (∀ p ∈ nx, p.1 ≠ I) → J i m₁ nx → Fr h₀ env.locals h m₁ → News h₀ env.locals h ((I, oI) :: nx) →
      wpAny (model prog w) A (assign (.Name x np) env (.int (a + i) tk0)) (fun _ s₂ => wpAny (model prog w) A (execs body env) (PostX h₀ env.locals I oI [] (J (i + 1)) { s with heap := h, toks := tk } Q) E s₂) E { s with heap := h, toks := tk })
    (done : ∀ m₁ nx h tk, J n m₁ nx → Fr h₀ env.locals h m₁ → News h₀ env.locals h nx → Q .next { s with heap := h, toks := tk }) :
    wpAny (model prog w) A (pyIter (.ref r)) (fun it s₂ => LoopX prog w A env (.Name x np) body Q E it s₂) E s := by
  refine wpAny_pyIter_range hr hsmall ?_
  refine loopx (kp := []) J hE (Walks.range hh _ a 1 n) ?_ (fun i h st => ⟨_, st⟩) ?_ ?_ ?_ (by show IsRangeIter _ _ _ _ _; rw [hn]; simpa using Heap.get?_push_size _ rfl) (F.push _) (fun p hp => ⟨Heap.get?_push_of_some _ (N p hp).1, (N p hp).2⟩) ?_ (fun i s' v Q' st hQ' => letGo_name hQ') hj ?_ ?_
  · intro a ha; exact .inl (List.mem_singleton.mp ha)
  · exact next_is_new F
  · exact Nat.ne_of_lt F.ns.lt
  · intro p hp; exact Nat.ne_of_lt (Heap.lt_size (N p hp).1)
  · intro p hp; nomatch hp
  · rintro i v m₁ nx h tk oI hi ⟨t0, rfl⟩ h1 h2 hJ F₁ N₁
    rw [Int.mul_one]
    exact turn _ i t0 m₁ nx h tk oI (fun p hp => Heap.lt_size (N p hp).1) hi h1 hJ F₁ N₁
  · intro m₁ nx h tk hJ hk F₁ N₁
    exact done m₁ nx h tk hJ F₁ N₁
end
end Mine
end

section
open PySem PySem.W PyProof.Rows PySem.Calls
set_option maxRecDepth 100000
set_option maxHeartbeats 8000000
namespace Mine
theorem reg_Comp_1 : True := by
  w_top off
  k_with_none
  k_with "my omega" => first
      | with_reducible assumption
      | decide
      | ((fail_if_success (fail_if_success omega (config := {})))
         first
           | k_extra "my om"
           | k_extra "my big"
           | omega (config := {}))
  k_with "my om" => first
      | (with_reducible refine' rm0 ?h; (case h => with_reducible assumption))
      | (with_reducible refine' rm1 ?h ?e; (case h => with_reducible assumption); (case e => decide))
      | (with_reducible refine' rm2 ?h ?e; (case h => with_reducible assumption); (case e => decide))
      | (with_reducible refine' rm3 ?h ?e; (case h => with_reducible assumption); (case e => decide))
      | (with_reducible refine' bd1 ?h ?e; (case h => with_reducible assumption); (case e => decide))
      | (with_reducible refine' bd3 ?h ?e; (case h => with_reducible assumption); (case e => decide))
      | (with_reducible refine' bd4 ?h ?e; (case h => with_reducible assumption); (case e => decide))
      | (with_reducible refine' bz1 ?h ?e; (case h => walk_at "lt"); (case e => decide))
      | (with_reducible refine' bz3 ?h ?e; (case h => walk_at "lt"); (case e => decide))
      | (with_reducible refine' bd2 ?q ?h ?e; (case q => with_reducible assumption); (case h => with_reducible assumption); (case e => decide))
      | walk_at "lt2"
      | (with_reducible refine Nat.le_of_lt ?_; walk_at "lt2")
      | (with_reducible refine Nat.ne_of_lt ?_; walk_at "lt2")
      | (with_reducible refine Nat.ne_of_gt ?_; walk_at "lt2")
      | ((with_reducible refine And.intro ?_ ?_) <;> k_extra "my omega")
      | (with_reducible refine' Nat.lt_trans ?a ?b; (case b => with_reducible assumption); (case a => walk_at "lt2"))
      | (with_reducible refine' Nat.lt_trans ?a ?b; (case a => with_reducible assumption); (case b => walk_at "lt2"))
      | (with_reducible refine' Nat.lt_of_le_of_lt ?a ?b; (case b => with_reducible assumption); (case a => walk_at "lt2"))
      | (with_reducible refine' Nat.lt_of_le_of_lt ?a ?b; (case a => with_reducible assumption); (case b => walk_at "lt2"))
      | (with_reducible refine' Nat.lt_of_lt_of_le ?a ?b; (case b => with_reducible assumption); (case a => walk_at "lt2"))
      | (with_reducible refine' Nat.lt_of_lt_of_le ?a ?b; (case a => with_reducible assumption); (case b => walk_at "lt2"))
      | (with_reducible refine' Nat.le_trans ?a ?b; (case b => with_reducible assumption); (case a => walk_at "lt2"))
      | (with_reducible refine' Nat.le_trans ?a ?b; (case a => with_reducible assumption); (case b => walk_at "lt2"))
  k_with "my lt" => first
      | with_reducible assumption
      | (refine' And.left ?h; (case h => with_reducible assumption))
      | (refine' And.left (And.right ?h); (case h => with_reducible assumption))
      | (refine' And.left (And.right (And.right ?h)); (case h => with_reducible assumption))
      | (refine' And.left (And.right (And.right (And.right ?h))); (case h => with_reducible assumption))
      | (refine' And.left (And.right (And.right (And.right (And.right ?h)))); (case h => with_reducible assumption))
      | (refine' And.left (And.right (And.right (And.right (And.right (And.right ?h))))); (case h => with_reducible assumption))
      | (refine' And.left (And.right (And.right (And.right (And.right (And.right (And.right ?h)))))); (case h => with_reducible assumption))
      | (refine' And.left (And.right (And.right (And.right (And.right (And.right (And.right (And.right ?h))))))); (case h => with_reducible assumption))
      | (refine' And.left (And.right (And.right (And.right (And.right (And.right (And.right (And.right (And.right ?h)))))))); (case h => with_reducible assumption))
      | (refine' And.left (And.right (And.right (And.right (And.right (And.right (And.right (And.right (And.right (And.right ?h))))))))); (case h => with_reducible assumption))
      | (refine' And.left (And.right (And.right (And.right (And.right (And.right (And.right (And.right (And.right (And.right (And.right ?h)))))))))); (case h => with_reducible assumption))
  k_with "my lt2" => first
      | walk_at "lt"
      | (with_reducible exact ad1)
      | (with_reducible exact ad2)
      | (with_reducible exact ad3)
      | (with_reducible exact ad4)
      | (with_reducible refine ar1 ?_; walk_at "lt")
      | (with_reducible refine ar2 ?_; walk_at "lt")
      | (with_reducible refine ar3 ?_; walk_at "lt")
      | (with_reducible refine ar4 ?_; walk_at "lt")
      | (with_reducible refine as1 ?_; walk_at "lt")
      | (with_reducible refine as2 ?_; walk_at "lt")
      | (with_reducible refine as3 ?_; walk_at "lt")
      | (with_reducible refine as4 ?_; walk_at "lt")
  k_with "my ar" => ((try dsimp only); first
      | with_reducible exact Nat.le_refl _
      | walk_at "lt2"
      | (refine Nat.le_of_lt ?_; walk_at "lt2")
      | (refine Nat.ne_of_lt ?_; walk_at "lt2")
      | (refine Nat.ne_of_gt ?_; walk_at "lt2")
      | k_extra "my ar2"
      | omega)
  k_with "my k_ne" => (refine neN ?_; (try dsimp only); first
      | with_reducible assumption
      | (refine Ne.symm ?_; with_reducible assumption)
      | (refine Nat.ne_of_lt ?_; walk_at "lt")
      | (refine Nat.ne_of_gt ?_; walk_at "lt")
      | omega)
  trivial
open LCg LCt
theorem off1_mem {D : Addr} {l : List (Addr × Obj)} (h : LCg.Off1 D l) : ∀ p ∈ l, @Ne Nat p.1 D := by
  induction l with
  | nil => intro p hp; exact absurd hp List.not_mem_nil
  | cons q r ih =>
    intro p hp
    have h2 : (@Ne Nat q.1 D) ∧ LCg.Off1 D r := h
    rcases List.mem_cons.mp hp with e | hp
    · rw [e]; exact h2.1
    · exact ih h2.2 p hp
/-- nx is news and what was made beside it -/
noncomputable def MoreW (news nx : List (Addr × Obj)) : Prop := ∃ tl, nx = news ++ tl ∧ ∀ p ∈ tl, ∀ q ∈ news, p.1 ≠ q.1
/-- a plain datum comes back, beside the ledger -/
noncomputable def RetW (news : List (Addr × Obj)) (d : Dat) (nx : List (Addr × Obj)) (r : Value) : Prop := MoreW news nx ∧ DatIn nx r d
theorem ret_fullW {news full front : List (Addr × Obj)} {h₀ h' : Heap} {L : Addr} {m : Str → Option Value} {s : Shared} {Q : Value → Shared → Prop} {d : Dat} {r : Value} {tk' : Nat}
    (hret : ∀ r nx h' tk', Fr h₀ L h' m → News h₀ L h' nx → RetW news d nx r → Q r { s with heap := h', toks := tk' })
    (F : Fr h₀ L h' m) (N : News h₀ L h' full) (hf : full = front ++ news) (hne : ∀ p ∈ front, ∀ q ∈ news, p.1 ≠ q.1) (hD : DatIn full r d) : Q r { s with heap := h', toks := tk' } := by
  subst hf
  exact hret r _ h' tk' F (news_front N) ⟨⟨front, rfl, hne⟩, hD.mono fun p hp => (List.mem_append.mp hp).elim (fun h => List.mem_append.mpr (.inr h)) fun h => List.mem_append.mpr (.inl h)⟩
/-- a plain datum comes back, all of it new -/
noncomputable def RetWF (news : List (Addr × Obj)) (d : Dat) (nx : List (Addr × Obj)) (r : Value) : Prop := ∃ tl, nx = news ++ tl ∧ (∀ p ∈ tl, ∀ q ∈ news, p.1 ≠ q.1) ∧ DatIn tl r d
theorem ret_fullWF {news full front : List (Addr × Obj)} {h₀ h' : Heap} {L : Addr} {m : Str → Option Value} {s : Shared} {Q : Value → Shared → Prop} {d : Dat} {r : Value} {tk' : Nat}
    (hret : ∀ r nx h' tk', Fr h₀ L h' m → News h₀ L h' nx → RetWF news d nx r → Q r { s with heap := h', toks := tk' })
    (F : Fr h₀ L h' m) (N : News h₀ L h' full) (hf : full = front ++ news) (hne : ∀ p ∈ front, ∀ q ∈ news, p.1 ≠ q.1) (hD : DatIn front r d) : Q r { s with heap := h', toks := tk' } := by
  subst hf
  exact hret r _ h' tk' F (news_front N) ⟨front, rfl, hne, hD⟩
section
variable {prog : Program} {w : World} {A : Around} {h₀ : Heap} {L : Addr} {m : Str → Option Value} {env : Env} {ct elt : PySem.Expr} {x : Str} {scope : Scope} {cl : List (Str × Addr)} {s : Shared} {S : List (Addr × Obj) → Prop} {P : Nat → Value → Prop} {Fin : List Value → List (Addr × Obj) → Prop} {news : List (Addr × Obj)}
theorem comp_rest {n : Nat} (J : Nat → List Value → List (Addr × Obj) → Prop) (h0 : J 0 [] news)
    (turn : ∀ i v ys nx I oI C oC D m₂ h tk (E' : Value → Shared → Prop), i < n → P i v → J i ys nx → NsObj oC m₂ → m₂ x = some v → Fr h₀ L h m → News h₀ L h ((I, oI) :: (C, oC) :: (D, lst ys) :: nx) → Off3 I C D nx → ((@Ne Nat I C) ∧ (@Ne Nat I D) ∧ (@Ne Nat C D)) →
      wpAny (model prog w) A (eval elt (compEnvC scope cl C env)) (CompEnd h₀ L m { s with heap := h, toks := tk } I oI C oC D (lst ys) S (fun y nx' => J (i + 1) (ys ++ [y]) nx')) E' { s with heap := h, toks := tk })
    (fin : ∀ ys nx, J n ys nx → Fin ys nx) : CompRest prog w A h₀ L m env elt x scope cl s S P Fin n 0 [] news := by
  have key : ∀ (j i : Nat) (ys : List Value) (nx : List (Addr × Obj)), i + j = n → J i ys nx → CompRest prog w A h₀ L m env elt x scope cl s S P Fin j i ys nx := by
    intro j
    induction j with
    | zero => intro i ys nx hi hy; exact CompRest.zero (fin ys nx (by rw [← hi]; exact hy))
    | succ j ih =>
      intro i ys nx hi hy
      refine CompRest.succ ?_
      intro v I oI C oC D m₂ h tk E' hv hC hx F N off ne
      refine wpAny_mono (turn i v ys nx I oI C oC D m₂ h tk E' (by omega) hv hy hC hx F N off ne) (fun y s₂ hq => ?_) fun _ _ e => e
      obtain ⟨h', tk', nw, e, F', N', off', hS, hj⟩ := hq
      exact ⟨h', tk', nw, e, F', N', off', hS, ih (i + 1) _ _ (by omega) hj⟩
  exact key n 0 [] news (by omega) h0
theorem compT_rest {n : Nat} (J : Nat → List Value → List (Addr × Obj) → Prop) (h0 : J 0 [] news)
    (turn : ∀ i v ys nx I oI C oC D m₂ h tk (E' : Value → Shared → Prop), i < n → P i v → J i ys nx → NsObj oC m₂ → m₂ x = some v → Fr h₀ L h m → News h₀ L h ((I, oI) :: (C, oC) :: (D, lst ys) :: nx) → Off3 I C D nx → ((@Ne Nat I C) ∧ (@Ne Nat I D) ∧ (@Ne Nat C D)) →
      wpAny (model prog w) A (isTrue ct (compEnvC scope cl C env) (eval ct (compEnvC scope cl C env))) (fun ok s' => if ok = true then
        wpAny (model prog w) A (eval elt (compEnvC scope cl C env)) (CompEnd h₀ L m { s with heap := h, toks := tk } I oI C oC D (lst ys) S (fun y nx' => J (i + 1) (ys ++ [y]) nx')) E' s'
        else CompEnd h₀ L m { s with heap := h, toks := tk } I oI C oC D (lst ys) S (fun _ nx' => J (i + 1) ys nx') Value.none s') E' { s with heap := h, toks := tk })
    (fin : ∀ ys nx, J n ys nx → Fin ys nx) : CompRestT prog w A h₀ L m env ct elt x scope cl s S P Fin n 0 [] news := by
  have key : ∀ (j i : Nat) (ys : List Value) (nx : List (Addr × Obj)), i + j = n → J i ys nx → CompRestT prog w A h₀ L m env ct elt x scope cl s S P Fin j i ys nx := by
    intro j
    induction j with
    | zero => intro i ys nx hi hy; exact CompRestT.zero (fin ys nx (by rw [← hi]; exact hy))
    | succ j ih =>
      intro i ys nx hi hy
      refine CompRestT.succ ?_
      intro v I oI C oC D m₂ h tk E' hv hC hx F N off ne
      refine wpAny_mono (turn i v ys nx I oI C oC D m₂ h tk E' (by omega) hv hy hC hx F N off ne) (fun ok s' hq => ?_) fun _ _ e => e
      cases ok with
      | true =>
        simp only [if_true] at hq ⊢
        refine wpAny_mono hq (fun y s₂ hq => ?_) fun _ _ e => e
        obtain ⟨h', tk', nw, e, F', N', off', hS, hj⟩ := hq
        exact ⟨h', tk', nw, e, F', N', off', hS, ih (i + 1) _ _ (by omega) hj⟩
      | false =>
        simp only [Bool.false_eq_true, if_false] at hq ⊢
        obtain ⟨h', tk', nw, e, F', N', off', hS, hj⟩ := hq
        exact ⟨h', tk', nw, e, F', N', off', hS, ih (i + 1) _ _ (by omega) hj⟩
  exact key n 0 [] news (by omega) h0
end
end Mine
end

section
open PySem PySem.W PyProof.Rows PySem.Calls
set_option maxRecDepth 100000
set_option maxHeartbeats 8000000
namespace Mine
theorem reg_CompC_1 : True := by
  w_top off
  k_with_none
  k_with "my big" => lia
  k_with "my omega" => first
      | with_reducible assumption
      | decide
      | ((fail_if_success (fail_if_success omega (config := {})))
         first
           | k_extra "my om"
           | k_extra "my big"
           | omega (config := {}))
  k_with "my om" => first
      | (with_reducible refine' rm0 ?h; (case h => with_reducible assumption))
      | (with_reducible refine' rm1 ?h ?e; (case h => with_reducible assumption); (case e => decide))
      | (with_reducible refine' rm2 ?h ?e; (case h => with_reducible assumption); (case e => decide))
      | (with_reducible refine' rm3 ?h ?e; (case h => with_reducible assumption); (case e => decide))
      | (with_reducible refine' bd1 ?h ?e; (case h => with_reducible assumption); (case e => decide))
      | (with_reducible refine' bd3 ?h ?e; (case h => with_reducible assumption); (case e => decide))
      | (with_reducible refine' bd4 ?h ?e; (case h => with_reducible assumption); (case e => decide))
      | (with_reducible refine' bz1 ?h ?e; (case h => walk_at "lt"); (case e => decide))
      | (with_reducible refine' bz3 ?h ?e; (case h => walk_at "lt"); (case e => decide))
      | (with_reducible refine' bd2 ?q ?h ?e; (case q => with_reducible assumption); (case h => with_reducible assumption); (case e => decide))
      | walk_at "lt2"
      | (with_reducible refine Nat.le_of_lt ?_; walk_at "lt2")
      | (with_reducible refine Nat.ne_of_lt ?_; walk_at "lt2")
      | (with_reducible refine Nat.ne_of_gt ?_; walk_at "lt2")
      | ((with_reducible refine And.intro ?_ ?_) <;> k_extra "my omega")
      | (with_reducible refine' Nat.lt_trans ?a ?b; (case b => with_reducible assumption); (case a => walk_at "lt2"))
      | (with_reducible refine' Nat.lt_trans ?a ?b; (case a => with_reducible assumption); (case b => walk_at "lt2"))
      | (with_reducible refine' Nat.lt_of_le_of_lt ?a ?b; (case b => with_reducible assumption); (case a => walk_at "lt2"))
      | (with_reducible refine' Nat.lt_of_le_of_lt ?a ?b; (case a => with_reducible assumption); (case b => walk_at "lt2"))
      | (with_reducible refine' Nat.lt_of_lt_of_le ?a ?b; (case b => with_reducible assumption); (case a => walk_at "lt2"))
      | (with_reducible refine' Nat.lt_of_lt_of_le ?a ?b; (case a => with_reducible assumption); (case b => walk_at "lt2"))
      | (with_reducible refine' Nat.le_trans ?a ?b; (case b => with_reducible assumption); (case a => walk_at "lt2"))
      | (with_reducible refine' Nat.le_trans ?a ?b; (case a => with_reducible assumption); (case b => walk_at "lt2"))
  k_with "my lt" => first
      | with_reducible assumption
      | (refine' And.left ?h; (case h => with_reducible assumption))
      | (refine' And.left (And.right ?h); (case h => with_reducible assumption))
      | (refine' And.left (And.right (And.right ?h)); (case h => with_reducible assumption))
      | (refine' And.left (And.right (And.right (And.right ?h))); (case h => with_reducible assumption))
      | (refine' And.left (And.right (And.right (And.right (And.right ?h)))); (case h => with_reducible assumption))
      | (refine' And.left (And.right (And.right (And.right (And.right (And.right ?h))))); (case h => with_reducible assumption))
      | (refine' And.left (And.right (And.right (And.right (And.right (And.right (And.right ?h)))))); (case h => with_reducible assumption))
      | (refine' And.left (And.right (And.right (And.right (And.right (And.right (And.right (And.right ?h))))))); (case h => with_reducible assumption))
      | (refine' And.left (And.right (And.right (And.right (And.right (And.right (And.right (And.right (And.right ?h)))))))); (case h => with_reducible assumption))
      | (refine' And.left (And.right (And.right (And.right (And.right (And.right (And.right (And.right (And.right (And.right ?h))))))))); (case h => with_reducible assumption))
      | (refine' And.left (And.right (And.right (And.right (And.right (And.right (And.right (And.right (And.right (And.right (And.right ?h)))))))))); (case h => with_reducible assumption))
  k_with "my lt2" => first
      | walk_at "lt"
      | (with_reducible exact ad1)
      | (with_reducible exact ad2)
      | (with_reducible exact ad3)
      | (with_reducible exact ad4)
      | (with_reducible refine ar1 ?_; walk_at "lt")
      | (with_reducible refine ar2 ?_; walk_at "lt")
      | (with_reducible refine ar3 ?_; walk_at "lt")
      | (with_reducible refine ar4 ?_; walk_at "lt")
      | (with_reducible refine as1 ?_; walk_at "lt")
      | (with_reducible refine as2 ?_; walk_at "lt")
      | (with_reducible refine as3 ?_; walk_at "lt")
      | (with_reducible refine as4 ?_; walk_at "lt")
  k_with "my ar" => ((try dsimp only); first
      | with_reducible exact Nat.le_refl _
      | walk_at "lt2"
      | (refine Nat.le_of_lt ?_; walk_at "lt2")
      | (refine Nat.ne_of_lt ?_; walk_at "lt2")
      | (refine Nat.ne_of_gt ?_; walk_at "lt2")
      | k_extra "my ar2"
      | omega)
  k_with "my k_ne" => (refine neN ?_; (try dsimp only); first
      | with_reducible assumption
      | (refine Ne.symm ?_; with_reducible assumption)
      | (refine Nat.ne_of_lt ?_; walk_at "lt")
      | (refine Nat.ne_of_gt ?_; walk_at "lt")
      | omega)
  trivial
open LCg
section
variable {prog : Program} {w : World} {A : Around} {E : Value → Shared → Prop} {s : Shared} {h₀ : Heap} {L : Addr} {m : Str → Option Value} {env : Env}
/-- the source is a text -/
noncomputable def SrcS (prog : Program) (w : World) (A : Around) (h₀ : Heap) (L : Addr) (m : Str → Option Value) (env : Env) (elt : PySem.Expr) (x : Str) (scope : Scope) (cl : List (Str × Addr)) (Fin : Shared → List Value → List (Addr × Obj) → Prop) (xv : Value) (s₁ : Shared) : Prop :=
  ∃ txt t news, xv = .str txt t ∧ A.handled = none ∧ Fr h₀ L s₁.heap m ∧ News h₀ L s₁.heap news ∧ txt.cps.size ≤ sizeLine ∧
    ∀ g, CompRest prog w A h₀ L m env elt x scope cl { s₁ with heap := g } (fun _ => True) (SignAt txt) (Fin { s₁ with heap := g }) txt.cps.size 0 [] news
theorem ListComp_S {elt iter : PySem.Expr} {x : Str} {px : Pos} {scope : Scope} {cl : List (Str × Addr)} {pos : Pos} {Q : Value → Shared → Prop} (F₀ : Fr h₀ L s.heap m)
    (hclos : closureFor scope env = pure cl) (hcell : ∀ y ∈ scope.names, y.2 ≠ .cell) (hkind : scope.kind = .function)
    (hnames : ∀ y ∈ scope.names, y.2 = .local → scope.names.lookup y.1 = some .local) (hx : scope.names.lookup x = some .local)
    (h : wpAny (model prog w) A (eval iter env) (SrcS prog w A h₀ L m env elt x scope cl (fun s₂ => FinE h₀ L m s₂ Q)) E s)
    (hs : ∀ x, foldedSetIterable iter env x = pure x := by intro _; rfl) :
    wpAny (model prog w) A (eval (.ListComp elt [⟨.Name x px, iter, [], 0⟩] scope pos) env) Q E s := by
  revert F₀ hclos hcell hkind hnames hx h hs
  revert prog E h₀ L m env elt iter x px scope cl pos Q
  revert s
  revert A
  revert w
  refine no_implicit_lambda% (closedW ?_)
  with_reducible generalize wit _ _ = w
  refine no_implicit_lambda% (closed' neA ?_)
  generalize wit _ _ = A
  refine no_implicit_lambda% (closed' neS ?_)
  with_reducible generalize wit _ _ = s
  refine no_implicit_lambda% (closed14 ?_)
  with_reducible generalize wit _ _ = tQ
  with_reducible generalize Prod.fst (tQ) = prog
  with_reducible generalize Prod.fst (Prod.snd (tQ)) = E
  with_reducible generalize Prod.fst (Prod.snd (Prod.snd (tQ))) = h₀
  with_reducible generalize Prod.fst (Prod.snd (Prod.snd (Prod.snd (tQ)))) = L
  with_reducible generalize Prod.fst (Prod.snd (Prod.snd (Prod.snd (Prod.snd (tQ))))) = m
  with_reducible generalize Prod.fst (Prod.snd (Prod.snd (Prod.snd (Prod.snd (Prod.snd (tQ)))))) = env
  with_reducible generalize Prod.fst (Prod.snd (Prod.snd (Prod.snd (Prod.snd (Prod.snd (Prod.snd (tQ))))))) = elt
  with_reducible generalize Prod.fst (Prod.snd (Prod.snd (Prod.snd (Prod.snd (Prod.snd (Prod.snd (Prod.snd (tQ)))))))) = iter
  with_reducible generalize Prod.fst (Prod.snd (Prod.snd (Prod.snd (Prod.snd (Prod.snd (Prod.snd (Prod.snd (Prod.snd (tQ))))))))) = x
  with_reducible generalize Prod.fst (Prod.snd (Prod.snd (Prod.snd (Prod.snd (Prod.snd (Prod.snd (Prod.snd (Prod.snd (Prod.snd (tQ)))))))))) = px
  with_reducible generalize Prod.fst (Prod.snd (Prod.snd (Prod.snd (Prod.snd (Prod.snd (Prod.snd (Prod.snd (Prod.snd (Prod.snd (Prod.snd (tQ))))))))))) = scope
  with_reducible generalize Prod.fst (Prod.snd (Prod.snd (Prod.snd (Prod.snd (Prod.snd (Prod.snd (Prod.snd (Prod.snd (Prod.snd (Prod.snd (Prod.snd (tQ)))))))))))) = cl
  with_reducible generalize Prod.fst (Prod.snd (Prod.snd (Prod.snd (Prod.snd (Prod.snd (Prod.snd (Prod.snd (Prod.snd (Prod.snd (Prod.snd (Prod.snd (Prod.snd (tQ))))))))))))) = pos
  with_reducible generalize Prod.snd (Prod.snd (Prod.snd (Prod.snd (Prod.snd (Prod.snd (Prod.snd (Prod.snd (Prod.snd (Prod.snd (Prod.snd (Prod.snd (Prod.snd (tQ))))))))))))) = Q
  clear tQ
  intro F₀ hclos hcell hkind hnames hx h hs
  rw [eval_ListComp]
  refine wpAny_comprehension_free (use := none) rfl hs hclos hkind hnames (wpAny_mono h (fun xv s₁ h₁ => ?_) fun _ _ e => e)
  obtain ⟨txt, t, news, rfl, hh, F, N, hsz, R⟩ := h₁
  have core : ∀ (cls : String) (o : Obj), (s₁.heap.push o).IsStrIter s₁.heap.objs.size cls txt t 0 → Walks prog w A s₁.heap.objs.size [s₁.heap.objs.size] [s₁.heap.objs.size] txt.cps.size (SignAt txt) (fun i h => h.IsStrIter s₁.heap.objs.size cls txt t i) →
      wpAny (model prog w) A (newList []) (fun acc s₃ => wpAny (model prog w) A (newFunctionEnv scope env.globals cl [] env.qual none .none (some env)) (fun cenv s₄ =>
        codeAny (model prog w) A (.compStart (.ListComp elt [⟨.Name x px, iter, [], 0⟩] scope pos) 0 (.ref s₁.heap.objs.size) acc { cenv with scope := relabel scope env }) (compPost (model prog w) A E none Q acc cenv.locals) s₄) E s₃) E { s₁ with heap := s₁.heap.push o } := by
    intro cls o st W
    refine block_U (RR := fun acc C => compPost (model prog w) A E none Q acc C) W hsz (fun i h st => by obtain ⟨o, e, _⟩ := st; exact ⟨o, e⟩) (S := fun _ => True) ?_ hcell hkind hx st (fun b hb => ?_) (F.push _) (N.grown fun _ _ e => Heap.get?_push_of_some _ e) (Nat.ne_of_lt F.ns.lt) (next_is_new F) (fun p hp => Nat.ne_of_lt (Heap.lt_size (N p hp).1)) trivial (R _) ?_
    · intro i h h' o nw st e e' _ _ _
      obtain ⟨o', q, r⟩ := st
      rw [e] at q; cases q
      exact ⟨o, e', r⟩
    · rw [List.mem_singleton.mp hb]
      show s₁.heap.objs.size < (s₁.heap.push _).objs.size
      rw [Heap.size_push]; exact Nat.lt_succ_self _
    · intro D C h' tk m' ys news' F' N' o1 hn hC₀ hD₀ hCL hDL hCD offC fin
      refine ⟨m', hn, fun h'' hs'' => fin D h'' tk (F'.change hs'' hCL hC₀) (fun p hp => ?_) o1⟩
      refine ⟨hs''.extBut _ _ ?_ (N' p hp).1, (N' p hp).2⟩
      rcases List.mem_cons.mp hp with rfl | hp
      · exact Ne.symm hCD
      · exact offC p hp
  cases ha : txt.cps.all (· < 128)
  · exact wpAny_pyIter_wide ha (core _ _ ⟨_, Heap.get?_push_size _ rfl, rfl, rfl⟩ (Walks.strWide hh _ txt t))
  · exact wpAny_pyIter_ascii ha (core _ _ ⟨_, Heap.get?_push_size _ rfl, rfl, rfl⟩ (Walks.strAscii hh _ txt t))
theorem newEnv_C {scope : Scope} {globals : Addr} {cl : List (Str × Addr)} {qual : Str} {code : Value} {around : Env} {builtins : Addr} {x : Str} {Q : Env → Shared → Prop}
    (hpc : ∀ h, pushCells h scope.names = h.push { cls := .type "cell", data := .cell none }) (hcf : ∀ b, cellsFrom b scope.names cl = (x, b) :: cl)
    (h : Q { scope := scope, locals := s.heap.objs.size, globals := globals, cells := (x, s.heap.objs.size + 1) :: cl, qual := qual, func := none, code := around.code, frame := around.frame, builtins := around.builtins }
      { s with heap := (s.heap.push { cls := .type "dict", data := .dict #[] }).push { cls := .type "cell", data := .cell none } }) :
    wpAny (model prog w) A (newFunctionEnv scope globals cl [] qual none code (some around) builtins) Q E s := by
  simp only [newFunctionEnv, Option.isSome_some]
  refine wpAny_bind (wpAny_alloc ?_)
  refine wpAny_bind (wpAny_layCells _ (fun name kind cells => by cases hkc : kind == NameKind.cell <;> simp [hkc]) _ _ _ _ ?_)
  rw [hcf, hpc]
  simp only [List.forIn_nil]
  refine wpAny_bind (wpAny_pure (wpAny_pure ?_))
  have e : ∀ o : Obj, (s.heap.push o).objs.size = s.heap.objs.size + 1 := fun o => Heap.size_push ..
  rw [e]
  exact h
noncomputable def Off4 (I C K D : Addr) (l : List (Addr × Obj)) : Prop := ∀ p ∈ l, (@Ne Nat p.1 I) ∧ (@Ne Nat p.1 C) ∧ (@Ne Nat p.1 K) ∧ (@Ne Nat p.1 D)
noncomputable def CompEnd4 (h₀ : Heap) (L : Addr) (m : Str → Option Value) (s₁ : Shared) (four : List (Addr × Obj)) (I C K D : Addr) (rest : Value → List (Addr × Obj) → Prop) (y : Value) (s₂ : Shared) : Prop :=
  ∃ h' tk nx, s₂ = { s₁ with heap := h', toks := tk } ∧ Fr h₀ L h' m ∧ News h₀ L h' (four ++ nx) ∧ Off4 I C K D nx ∧ rest y nx
theorem block_C {elt iter : PySem.Expr} {x : Str} {px : Pos} {scope : Scope} {cl : List (Str × Addr)} {pos : Pos} {s₂ : Shared} {I : Addr} {n : Nat} {a : Int} {news : List (Addr × Obj)} (J : Nat → List Value → List (Addr × Obj) → Prop) {RR : Value → Addr → Result → Shared → Prop}
    (hh : A.handled = none) (hsz : n ≤ sizeLine) (hpc : ∀ h, pushCells h scope.names = h.push { cls := .type "cell", data := .cell none }) (hcf : ∀ b, cellsFrom b scope.names cl = (x, b) :: cl) (hkind : scope.kind = .function) (hx : (relabel scope env).names.lookup x = some .cell)
    (hst : IsRangeIter s₂.heap I (a + ((0 : Nat) : Int) * 1) ((n : Int) - ((0 : Nat) : Int)) 1)
    (F : Fr h₀ L s₂.heap m) (N : News h₀ L s₂.heap news) (hIL : L ≠ I) (hI₀ : h₀.get? I = none) (off : ∀ p ∈ news, p.1 ≠ I) (j0 : J 0 [] news)
    (turn : ∀ i ys nx oI oC oK C K D tv h tk (E' : Value → Shared → Prop), i < n → J i ys nx → oK.data = .cell (some (.int (a + (i : Int)) tv)) → Fr h₀ L h m → News h₀ L h ((I, oI) :: (C, oC) :: (K, oK) :: (D, lst ys) :: nx) → Off4 I C K D nx → ((@Ne Nat I C) ∧ (@Ne Nat I K) ∧ (@Ne Nat I D) ∧ (@Ne Nat C K) ∧ (@Ne Nat C D) ∧ (@Ne Nat K D)) →
      wpAny (model prog w) A (eval elt (compEnvC scope ((x, K) :: cl) C env)) (CompEnd4 h₀ L m { s₂ with heap := h, toks := tk } [(I, oI), (C, oC), (K, oK), (D, lst ys)] I C K D (fun y nx' => J (i + 1) (ys ++ [y]) nx')) E' { s₂ with heap := h, toks := tk })
    (hRR : ∀ D C h tk m' ys nx, Fr h₀ L h m → News h₀ L h ((D, lst ys) :: nx) → (∀ p ∈ nx, p.1 ≠ D) → h.Ns C m' → h₀.get? C = none → C ≠ L → C ≠ D → (∀ p ∈ nx, p.1 ≠ C) → J n ys nx → RR (.ref D) C (.ok .next) { s₂ with heap := h, toks := tk }) :
    wpAny (model prog w) A (newList []) (fun acc s₃ => wpAny (model prog w) A (newFunctionEnv scope env.globals cl [] env.qual none .none (some env)) (fun cenv s₄ =>
      codeAny (model prog w) A (.compStart (.ListComp elt [⟨.Name x px, iter, [], 0⟩] scope pos) 0 (.ref I) acc { cenv with scope := relabel scope env }) (RR acc cenv.locals) s₄) E s₃) E s₂ := by
  revert hh hsz hpc hcf hkind hx hst F N hIL hI₀ off j0 turn hRR
  revert prog E h₀ L m env elt iter x px scope cl pos I n a news J RR
  revert s₂
  revert A
  revert w
  refine no_implicit_lambda% (closedW ?_)
  with_reducible generalize wit _ _ = w
  refine no_implicit_lambda% (closed' neA ?_)
  generalize wit _ _ = A
  refine no_implicit_lambda% (closed' neS ?_)
  with_reducible generalize wit _ _ = s₂
  refine no_implicit_lambda% (closed19 ?_)
  with_reducible generalize wit _ _ = tQ
  with_reducible generalize Prod.fst (tQ) = prog
  with_reducible generalize Prod.fst (Prod.snd (tQ)) = E
  with_reducible generalize Prod.fst (Prod.snd (Prod.snd (tQ))) = h₀
  with_reducible generalize Prod.fst (Prod.snd (Prod.snd (Prod.snd (tQ)))) = L
  with_reducible generalize Prod.fst (Prod.snd (Prod.snd (Prod.snd (Prod.snd (tQ))))) = m
  with_reducible generalize Prod.fst (Prod.snd (Prod.snd (Prod.snd (Prod.snd (Prod.snd (tQ)))))) = env
  with_reducible generalize Prod.fst (Prod.snd (Prod.snd (Prod.snd (Prod.snd (Prod.snd (Prod.snd (tQ))))))) = elt
  with_reducible generalize Prod.fst (Prod.snd (Prod.snd (Prod.snd (Prod.snd (Prod.snd (Prod.snd (Prod.snd (tQ)))))))) = iter
  with_reducible generalize Prod.fst (Prod.snd (Prod.snd (Prod.snd (Prod.snd (Prod.snd (Prod.snd (Prod.snd (Prod.snd (tQ))))))))) = x
  with_reducible generalize Prod.fst (Prod.snd (Prod.snd (Prod.snd (Prod.snd (Prod.snd (Prod.snd (Prod.snd (Prod.snd (Prod.snd (tQ)))))))))) = px
  with_reducible generalize Prod.fst (Prod.snd (Prod.snd (Prod.snd (Prod.snd (Prod.snd (Prod.snd (Prod.snd (Prod.snd (Prod.snd (Prod.snd (tQ))))))))))) = scope
  with_reducible generalize Prod.fst (Prod.snd (Prod.snd (Prod.snd (Prod.snd (Prod.snd (Prod.snd (Prod.snd (Prod.snd (Prod.snd (Prod.snd (Prod.snd (tQ)))))))))))) = cl
  with_reducible generalize Prod.fst (Prod.snd (Prod.snd (Prod.snd (Prod.snd (Prod.snd (Prod.snd (Prod.snd (Prod.snd (Prod.snd (Prod.snd (Prod.snd (Prod.snd (tQ))))))))))))) = pos
  with_reducible generalize Prod.fst (Prod.snd (Prod.snd (Prod.snd (Prod.snd (Prod.snd (Prod.snd (Prod.snd (Prod.snd (Prod.snd (Prod.snd (Prod.snd (Prod.snd (Prod.snd (tQ)))))))))))))) = I
  with_reducible generalize Prod.fst (Prod.snd (Prod.snd (Prod.snd (Prod.snd (Prod.snd (Prod.snd (Prod.snd (Prod.snd (Prod.snd (Prod.snd (Prod.snd (Prod.snd (Prod.snd (Prod.snd (tQ))))))))))))))) = n
  with_reducible generalize Prod.fst (Prod.snd (Prod.snd (Prod.snd (Prod.snd (Prod.snd (Prod.snd (Prod.snd (Prod.snd (Prod.snd (Prod.snd (Prod.snd (Prod.snd (Prod.snd (Prod.snd (Prod.snd (tQ)))))))))))))))) = a
  with_reducible generalize Prod.fst (Prod.snd (Prod.snd (Prod.snd (Prod.snd (Prod.snd (Prod.snd (Prod.snd (Prod.snd (Prod.snd (Prod.snd (Prod.snd (Prod.snd (Prod.snd (Prod.snd (Prod.snd (Prod.snd (tQ))))))))))))))))) = news
  with_reducible generalize Prod.fst (Prod.snd (Prod.snd (Prod.snd (Prod.snd (Prod.snd (Prod.snd (Prod.snd (Prod.snd (Prod.snd (Prod.snd (Prod.snd (Prod.snd (Prod.snd (Prod.snd (Prod.snd (Prod.snd (Prod.snd (tQ)))))))))))))))))) = J
  with_reducible generalize Prod.snd (Prod.snd (Prod.snd (Prod.snd (Prod.snd (Prod.snd (Prod.snd (Prod.snd (Prod.snd (Prod.snd (Prod.snd (Prod.snd (Prod.snd (Prod.snd (Prod.snd (Prod.snd (Prod.snd (Prod.snd (tQ)))))))))))))))))) = RR
  clear tQ
  intro hh hsz hpc hcf hkind hx hst F N hIL hI₀ off j0 turn hRR
  refine wpAny_newObj_type (newEnv_C hpc hcf ?_)
  dsimp only
  obtain ⟨D, eD⟩ : ∃ D, D = s₂.heap.objs.size := ⟨_, rfl⟩
  obtain ⟨H1, e1⟩ : ∃ H, H = s₂.heap.push { cls := .type "list", dict := none, data := .seq ([] : List Value).toArray } := ⟨_, rfl⟩
  obtain ⟨C, eC⟩ : ∃ C, C = H1.objs.size := ⟨_, rfl⟩
  obtain ⟨H2, e2⟩ : ∃ H, H = H1.push { cls := .type "dict", data := .dict #[] } := ⟨_, rfl⟩
  obtain ⟨K, eK⟩ : ∃ K, K = H2.objs.size := ⟨_, rfl⟩
  obtain ⟨H3, e3⟩ : ∃ H, H = H2.push { cls := .type "cell", data := .cell none } := ⟨_, rfl⟩
  have hC : C = D + 1 := by rw [eC, e1, Heap.size_push, eD]
  have hK : K = C + 1 := by rw [eK, e2, Heap.size_push, eC]
  have hDC : @LT.lt Nat _ D C := Nat.lt_of_lt_of_eq (Nat.lt_succ_self D) hC.symm
  have hCK : @LT.lt Nat _ C K := Nat.lt_of_lt_of_eq (Nat.lt_succ_self C) hK.symm
  have hDK : @LT.lt Nat _ D K := Nat.lt_trans hDC hCK
  rw [← eD, ← e1, ← eC, ← e2, ← e3, ← hK]
  have k1 : ∀ b o, s₂.heap.get? b = some o → H1.get? b = some o := fun b o e => by rw [e1]; exact Heap.get?_push_of_some _ e
  have k2 : ∀ b o, H1.get? b = some o → H2.get? b = some o := fun b o e => by rw [e2]; exact Heap.get?_push_of_some _ e
  have k3 : ∀ b o, H2.get? b = some o → H3.get? b = some o := fun b o e => by rw [e3]; exact Heap.get?_push_of_some _ e
  have old : ∀ b o, s₂.heap.get? b = some o → H3.get? b = some o := fun b o e => k3 b o (k2 b o (k1 b o e))
  have gD : H3.get? D = some (lst []) := k3 _ _ (k2 _ _ (by rw [e1, eD]; exact Heap.get?_push_size _ rfl))
  have nC : H3.Ns C (fun _ => none) := by
    have : H2.Ns C (fun _ => none) := by rw [e2, eC]; exact Heap.Ns.new H1 (.type "dict")
    exact this.keeps k3
  have gK : H3.IsCell K none := ⟨_, by rw [e3, eK]; exact Heap.get?_push_size _ rfl, rfl⟩
  have lt2 : ∀ b o, s₂.heap.get? b = some o → @LT.lt Nat _ b D := fun b o e => by rw [eD]; exact Heap.lt_size e
  have fresh : ∀ b, @LE.le Nat _ D b → s₂.heap.get? b = none := fun b hb => by
    cases e : s₂.heap.get? b with
    | none => rfl
    | some o' => exact absurd (lt2 b o' e) (Nat.not_lt.mpr hb)
  have fresh₀ : ∀ b, @LE.le Nat _ D b → h₀.get? b = none := fun b hb => by
    cases e : h₀.get? b with
    | none => rfl
    | some o' => have := F.keep b o' e; rw [fresh b hb] at this; cases this
  have hI : @LT.lt Nat _ I D := by rw [eD]; exact Heap.lt_size hst
  have hL : @LT.lt Nat _ L D := by rw [eD]; exact F.ns.lt
  have D₀ := fresh₀ D (Nat.le_refl _)
  have C₀ := fresh₀ C (by omega)
  have K₀ := fresh₀ K (by omega)
  have DL : D ≠ L := Nat.ne_of_gt hL
  have CL : C ≠ L := Nat.ne_of_gt (by omega)
  have KL : K ≠ L := Nat.ne_of_gt (by omega)
  have K₀' : ∀ b o, h₀.get? b = some o → H3.get? b = some o := fun b o e => old b o (F.keep b o e)
  have F3 : Fr h₀ L H3 m := F.keeps old
  have N3 : News h₀ L H3 ((D, lst []) :: news) := fun p hp => by
    rcases List.mem_cons.mp hp with rfl | hp
    · exact ⟨gD, DL, D₀⟩
    · exact ⟨old _ _ (N p hp).1, (N p hp).2⟩
  have off0 : Off4 I C K D news := fun p hp => ⟨off p hp, Nat.ne_of_lt (by have := lt2 _ _ (N p hp).1; omega), Nat.ne_of_lt (by have := lt2 _ _ (N p hp).1; omega), Nat.ne_of_lt (lt2 _ _ (N p hp).1)⟩
  have hst3 : IsRangeIter H3 I (a + ((0 : Nat) : Int) * 1) ((n : Int) - ((0 : Nat) : Int)) 1 := old _ _ hst
  have W := range_walks (prog := prog) (w := w) (I := I) hh a n
  have loop : codeAny (model prog w) A (.compLoop (.ListComp elt [⟨.Name x px, iter, [], 0⟩] scope pos) 0 (.ref I) (.ref D) (compEnvC scope ((x, K) :: cl) C env)) (RR (.ref D) C) { s₂ with heap := H3 } := by
    refine codeAny_compLoop_tests
      (fun k s' => ∃ h' tk i ys nx v₀, s' = { s₂ with heap := h', toks := tk } ∧ i ≤ n ∧ k = n + 1 - i ∧ ys.length = i ∧ IsRangeIter h' I (a + (i : Nat) * 1) ((n : Int) - (i : Nat)) 1 ∧ Fr h₀ L h' m ∧ h'.Ns C (fun _ => none) ∧ h'.IsCell K v₀ ∧ News h₀ L h' ((D, lst ys) :: nx) ∧ Off4 I C K D nx ∧ J i ys nx) ?_ (n + 1)
      ⟨H3, _, 0, [], news, none, rfl, Nat.zero_le _, rfl, rfl, hst3, F3, nC, gK, N3, off0, j0⟩
    rintro k s' ⟨h', tk, i, ys, nx, v₀, rfl, hi, rfl, hyl, hst', F', hn', hc', N', off', J'⟩
    by_cases hlt : i < n
    · refine W.item i _ _ _ hlt hst' fun v h₂ tk₂ hPv hst₂ hk₂ => ?_
      obtain ⟨tv, rfl⟩ := hPv
      have kb : ∀ b o, @Ne Nat b I → h'.get? b = some o → h₂.get? b = some o := fun b o hb e => hk₂ b o (by simpa using hb) e
      refine wpAny_assign_Name (wpAny_storeName_cell (c := K) (v₀ := v₀) hkind hx (by simp [compEnvC]) ?_ fun h₃ hc₃ hs₃ => ?_)
      · obtain ⟨o, ho, hd⟩ := hc'
        exact ⟨o, kb _ _ (Nat.ne_of_gt (by omega)) ho, hd⟩
      refine wpAny_tests_nil ?_
      simp only [if_true]
      have k3' : ∀ b o, @Ne Nat b K → h₂.get? b = some o → h₃.get? b = some o := fun b o hb e => hs₃.extBut b o hb e
      obtain ⟨oK, heK, hoK⟩ := hc₃
      obtain ⟨oC, heC, hoC⟩ := ns_obj (hn'.at' fun o e => k3' _ o (Nat.ne_of_lt (by omega)) (kb _ o (Nat.ne_of_gt (by omega)) e))
      have hst₃ : IsRangeIter h₃ I (a + ((i + 1 : Nat) : Nat) * 1) ((n : Int) - ((i + 1 : Nat) : Nat)) 1 := k3' _ _ (Nat.ne_of_lt (by omega)) hst₂
      obtain ⟨oI, heI⟩ : ∃ o, h₃.get? I = some o := ⟨_, hst₃⟩
      have F₂ : Fr h₀ L h₂ m := fr_but F' hk₂ hIL hI₀
      have F₃ : Fr h₀ L h₃ m := F₂.change hs₃ KL K₀
      have N₃ : News h₀ L h₃ ((I, oI) :: (C, oC) :: (K, oK) :: (D, lst ys) :: nx) := fun p hp => by
        rcases List.mem_cons.mp hp with rfl | hp
        · exact ⟨heI, Ne.symm hIL, hI₀⟩
        · rcases List.mem_cons.mp hp with rfl | hp
          · exact ⟨heC, CL, C₀⟩
          · rcases List.mem_cons.mp hp with rfl | hp
            · exact ⟨heK, KL, K₀⟩
            · have z := N' p hp
              refine ⟨k3' _ _ ?_ (kb _ _ ?_ z.1), z.2⟩
              · rcases List.mem_cons.mp hp with rfl | hp
                · exact Nat.ne_of_lt (by dsimp only; omega)
                · exact (off' p hp).2.2.1
              · rcases List.mem_cons.mp hp with rfl | hp
                · exact Nat.ne_of_gt hI
                · exact (off' p hp).1
      refine wpAny_mono (turn i ys nx oI oC oK C K D tv h₃ _ _ hlt J' hoK F₃ N₃ off' ⟨Nat.ne_of_lt (by omega), Nat.ne_of_lt (by omega), Nat.ne_of_lt (by omega), Nat.ne_of_lt (by omega), Nat.ne_of_gt (by omega), Nat.ne_of_gt (by omega)⟩) (fun y s₄ h₄ => ?_) fun _ _ e => e
      obtain ⟨h₄, tk₄, nx₄, rfl, F₄, N₄, off₄, J₄⟩ := h₄
      have zI := (N₄ (I, oI) (.head _)).1
      have zC := (N₄ (C, oC) (.tail _ (.head _))).1
      have zK := (N₄ (K, oK) (.tail _ (.tail _ (.head _)))).1
      have zD := (N₄ (D, lst ys) (.tail _ (.tail _ (.tail _ (.head _))))).1
      have zN : ∀ p ∈ nx₄, h₄.get? p.1 = some p.2 ∧ _ := fun p hp => N₄ p (.tail _ (.tail _ (.tail _ (.tail _ hp))))
      refine append_at (hsz := by show ys.toArray.size ≤ sizeLine; rw [List.size_toArray, hyl]; exact Nat.le_trans hi hsz) zD fun h₅ hs₅ hD₅ => ?_
      have k5 : ∀ b o, @Ne Nat b D → h₄.get? b = some o → h₅.get? b = some o := fun b o hb e => hs₅.extBut b o hb e
      refine ⟨n + 1 - (i + 1), by omega, h₅, tk₄, i + 1, ys ++ [y], nx₄, _, rfl, hlt, rfl, by rw [List.length_append, List.length_singleton, hyl], ?_, F₄.change hs₅ DL D₀, ?_, ⟨oK, k5 _ _ (Nat.ne_of_gt (by omega)) zK, hoK⟩, fun p hp => ?_, off₄, J₄⟩
      · have h3 : h₃.get? I = some _ := hst₃
        rw [heI] at h3; cases h3
        exact k5 _ _ (Nat.ne_of_lt hI) zI
      · exact (hoC.ns zC).at' fun o e => k5 _ o (Nat.ne_of_gt (by omega)) e
      · rcases List.mem_cons.mp hp with rfl | hp
        · exact ⟨hD₅.trans (congrArg some (lst_snoc ys y)), DL, D₀⟩
        · exact ⟨k5 _ _ (off₄ p hp).2.2.2 (zN p hp).1, (zN p hp).2⟩
    · obtain rfl : i = n := Nat.le_antisymm hi (Nat.not_lt.mp hlt)
      refine W.done _ _ _ hst' fun h₂ tk₂ hk₂ => ?_
      have kb : ∀ b o, @Ne Nat b I → h'.get? b = some o → h₂.get? b = some o := fun b o hb e => hk₂ b o (by simpa using hb) e
      refine hRR D C h₂ tk₂ _ ys nx (fr_but F' hk₂ hIL hI₀) (news_but N' hk₂ fun p hp => ?_) (fun p hp => (off' p hp).2.2.2) (hn'.at' fun o e => kb _ o (Nat.ne_of_gt (by omega)) e) C₀ CL (Nat.ne_of_gt (by omega)) (fun p hp => (off' p hp).2.1) J'
      rcases List.mem_cons.mp hp with rfl | hp
      · exact Nat.ne_of_gt hI
      · exact (off' p hp).1
  exact codeAny_compStart_list loop (W.self 0 _ _ _ hst3 loop)
/-- the source is a range, the loop's name a cell -/
noncomputable def SrcC (prog : Program) (w : World) (A : Around) (h₀ : Heap) (L : Addr) (m : Str → Option Value) (env : Env) (elt : PySem.Expr) (x y : Str) (scope : Scope) (cl : List (Str × Addr)) (n : Nat) (a : Int) (J : Nat → List Value → List (Addr × Obj) → Prop) (Q : Flow → Shared → Prop) (xv : Value) (s₁ : Shared) : Prop :=
  ∃ r b t u v news, xv = .ref r ∧ A.handled = none ∧ Fr h₀ L s₁.heap m ∧ News h₀ L s₁.heap news ∧ IsRange s₁.heap r a b 1 t u v ∧ Builtin.Range.small a b 1 = true ∧ Builtin.Range.rangeSize a b 1 = ((n : Nat) : Int) ∧ J 0 [] news ∧
      (∀ I, (∀ p ∈ news, p.1 < I) → ∀ g i ys nx oI oC oK C K D tv h tk (E' : Value → Shared → Prop), i < n → J i ys nx → oK.data = .cell (some (.int (a + (i : Int)) tv)) → Fr h₀ L h m → News h₀ L h ((I, oI) :: (C, oC) :: (K, oK) :: (D, lst ys) :: nx) → Off4 I C K D nx → ((@Ne Nat I C) ∧ (@Ne Nat I K) ∧ (@Ne Nat I D) ∧ (@Ne Nat C K) ∧ (@Ne Nat C D) ∧ (@Ne Nat K D)) →
        wpAny (model prog w) A (eval elt (compEnvC scope ((x, K) :: cl) C env)) (CompEnd4 h₀ L m { s₁ with heap := h, toks := tk } [(I, oI), (C, oC), (K, oK), (D, lst ys)] I C K D (fun y nx' => J (i + 1) (ys ++ [y]) nx')) E' { { s₁ with heap := g } with heap := h, toks := tk }) ∧
      (∀ ys nx D h tk, J n ys nx → Fr h₀ L h (fun z => if z = y then some (.ref D) else m z) → News h₀ L h ((D, lst ys) :: nx) → (∀ p ∈ nx, p.1 ≠ D) → Q .next { s₁ with heap := h, toks := tk })
theorem Assign_ListComp_C {elt iter : PySem.Expr} {x y : Str} {px py : Pos} {scope : Scope} {cl : List (Str × Addr)} {pos spos : Pos} {Q : Flow → Shared → Prop} (J : Nat → List Value → List (Addr × Obj) → Prop) (n : Nat) (a : Int) (F₀ : Fr h₀ L s.heap m)
    (hLe : env.locals = L) (hsw : swapsWith (.ListComp elt [⟨.Name x px, iter, [], 0⟩] scope pos) (some (.Name y py)) spos.line env = pure true)
    (hclos : closureFor scope env = pure cl) (hpc : ∀ h, pushCells h scope.names = h.push { cls := .type "cell", data := .cell none }) (hcf : ∀ b, cellsFrom b scope.names cl = (x, b) :: cl) (hkind : scope.kind = .function)
    (hnames : ∀ z ∈ scope.names, z.2 = .local → scope.names.lookup z.1 = some .local) (hx : (relabel scope env).names.lookup x = some .cell)
    (hy : env.kindOf y = some .local) (hp : (env.scope.kind == .class || (env.scope.kind == .module && env.locals != env.globals)) = false) (hsz : n ≤ sizeLine)
    (h : wpAny (model prog w) A (eval iter env) (SrcC prog w A h₀ L m env elt x y scope cl n a J Q) E s)
    (hs : ∀ x, foldedSetIterable iter env x = pure x := by intro _; rfl) :
    wpAny (model prog w) A (exec (.Assign [.Name y py] (.ListComp elt [⟨.Name x px, iter, [], 0⟩] scope pos) spos) env) Q E s := by
  revert F₀ hLe hsw hclos hpc hcf hkind hnames hx hy hp hsz h hs
  revert prog E h₀ L m env elt iter x y px py scope cl pos spos Q J n a
  revert s
  revert A
  revert w
  refine no_implicit_lambda% (closedW ?_)
  with_reducible generalize wit _ _ = w
  refine no_implicit_lambda% (closed' neA ?_)
  generalize wit _ _ = A
  refine no_implicit_lambda% (closed' neS ?_)
  with_reducible generalize wit _ _ = s
  refine no_implicit_lambda% (@id (Unit → Unit → Unit → Unit → _) ?_ () () () ())
  refine no_implicit_lambda% (closed24 ?_)
  with_reducible generalize wit _ _ = tQ
  with_reducible generalize Prod.fst (Prod.snd (Prod.snd (Prod.snd (Prod.snd (tQ))))) = prog
  with_reducible generalize Prod.fst (Prod.snd (Prod.snd (Prod.snd (Prod.snd (Prod.snd (tQ)))))) = E
  with_reducible generalize Prod.fst (Prod.snd (Prod.snd (Prod.snd (Prod.snd (Prod.snd (Prod.snd (tQ))))))) = h₀
  with_reducible generalize Prod.fst (Prod.snd (Prod.snd (Prod.snd (Prod.snd (Prod.snd (Prod.snd (Prod.snd (tQ)))))))) = L
  with_reducible generalize Prod.fst (Prod.snd (Prod.snd (Prod.snd (Prod.snd (Prod.snd (Prod.snd (Prod.snd (Prod.snd (tQ))))))))) = m
  with_reducible generalize Prod.fst (Prod.snd (Prod.snd (Prod.snd (Prod.snd (Prod.snd (Prod.snd (Prod.snd (Prod.snd (Prod.snd (tQ)))))))))) = env
  with_reducible generalize Prod.fst (Prod.snd (Prod.snd (Prod.snd (Prod.snd (Prod.snd (Prod.snd (Prod.snd (Prod.snd (Prod.snd (Prod.snd (tQ))))))))))) = elt
  with_reducible generalize Prod.fst (Prod.snd (Prod.snd (Prod.snd (Prod.snd (Prod.snd (Prod.snd (Prod.snd (Prod.snd (Prod.snd (Prod.snd (Prod.snd (tQ)))))))))))) = iter
  with_reducible generalize Prod.fst (Prod.snd (Prod.snd (Prod.snd (Prod.snd (Prod.snd (Prod.snd (Prod.snd (Prod.snd (Prod.snd (Prod.snd (Prod.snd (Prod.snd (tQ))))))))))))) = x
  with_reducible generalize Prod.fst (Prod.snd (Prod.snd (Prod.snd (Prod.snd (Prod.snd (Prod.snd (Prod.snd (Prod.snd (Prod.snd (Prod.snd (Prod.snd (Prod.snd (Prod.snd (tQ)))))))))))))) = y
  with_reducible generalize Prod.fst (Prod.snd (Prod.snd (Prod.snd (Prod.snd (Prod.snd (Prod.snd (Prod.snd (Prod.snd (Prod.snd (Prod.snd (Prod.snd (Prod.snd (Prod.snd (Prod.snd (tQ))))))))))))))) = px
  with_reducible generalize Prod.fst (Prod.snd (Prod.snd (Prod.snd (Prod.snd (Prod.snd (Prod.snd (Prod.snd (Prod.snd (Prod.snd (Prod.snd (Prod.snd (Prod.snd (Prod.snd (Prod.snd (Prod.snd (tQ)))))))))))))))) = py
  with_reducible generalize Prod.fst (Prod.snd (Prod.snd (Prod.snd (Prod.snd (Prod.snd (Prod.snd (Prod.snd (Prod.snd (Prod.snd (Prod.snd (Prod.snd (Prod.snd (Prod.snd (Prod.snd (Prod.snd (Prod.snd (tQ))))))))))))))))) = scope
  with_reducible generalize Prod.fst (Prod.snd (Prod.snd (Prod.snd (Prod.snd (Prod.snd (Prod.snd (Prod.snd (Prod.snd (Prod.snd (Prod.snd (Prod.snd (Prod.snd (Prod.snd (Prod.snd (Prod.snd (Prod.snd (Prod.snd (tQ)))))))))))))))))) = cl
  with_reducible generalize Prod.fst (Prod.snd (Prod.snd (Prod.snd (Prod.snd (Prod.snd (Prod.snd (Prod.snd (Prod.snd (Prod.snd (Prod.snd (Prod.snd (Prod.snd (Prod.snd (Prod.snd (Prod.snd (Prod.snd (Prod.snd (Prod.snd (tQ))))))))))))))))))) = pos
  with_reducible generalize Prod.fst (Prod.snd (Prod.snd (Prod.snd (Prod.snd (Prod.snd (Prod.snd (Prod.snd (Prod.snd (Prod.snd (Prod.snd (Prod.snd (Prod.snd (Prod.snd (Prod.snd (Prod.snd (Prod.snd (Prod.snd (Prod.snd (Prod.snd (tQ)))))))))))))))))))) = spos
  with_reducible generalize Prod.fst (Prod.snd (Prod.snd (Prod.snd (Prod.snd (Prod.snd (Prod.snd (Prod.snd (Prod.snd (Prod.snd (Prod.snd (Prod.snd (Prod.snd (Prod.snd (Prod.snd (Prod.snd (Prod.snd (Prod.snd (Prod.snd (Prod.snd (Prod.snd (tQ))))))))))))))))))))) = Q
  with_reducible generalize Prod.fst (Prod.snd (Prod.snd (Prod.snd (Prod.snd (Prod.snd (Prod.snd (Prod.snd (Prod.snd (Prod.snd (Prod.snd (Prod.snd (Prod.snd (Prod.snd (Prod.snd (Prod.snd (Prod.snd (Prod.snd (Prod.snd (Prod.snd (Prod.snd (Prod.snd (tQ)))))))))))))))))))))) = J
  with_reducible generalize Prod.fst (Prod.snd (Prod.snd (Prod.snd (Prod.snd (Prod.snd (Prod.snd (Prod.snd (Prod.snd (Prod.snd (Prod.snd (Prod.snd (Prod.snd (Prod.snd (Prod.snd (Prod.snd (Prod.snd (Prod.snd (Prod.snd (Prod.snd (Prod.snd (Prod.snd (Prod.snd (tQ))))))))))))))))))))))) = n
  with_reducible generalize Prod.snd (Prod.snd (Prod.snd (Prod.snd (Prod.snd (Prod.snd (Prod.snd (Prod.snd (Prod.snd (Prod.snd (Prod.snd (Prod.snd (Prod.snd (Prod.snd (Prod.snd (Prod.snd (Prod.snd (Prod.snd (Prod.snd (Prod.snd (Prod.snd (Prod.snd (Prod.snd (tQ))))))))))))))))))))))) = a
  clear tQ
  intro F₀ hLe hsw hclos hpc hcf hkind hnames hx hy hp hsz h hs
  subst hLe
  rw [exec_Assign_Name_used _ _ _ _ hsw]
  refine wpAny_bind (wpAny_standAt (wpAny_bind ?_))
  show wpAny _ A (do let _ ← comprehension (.ListComp elt [⟨.Name x px, iter, [], 0⟩] scope pos) scope env _ (newList []) false (eval iter env) (some (assign (.Name y py) env))) _ _ s
  refine wpAny_bind (wpAny_mono (wpAny_comprehension_free (use := some (assign (.Name y py) env)) (Q := fun _ s' => Q .next s') rfl hs hclos hkind hnames
    (wpAny_mono h (fun xv s₁ h₁ => ?_) fun _ _ e => e)) (fun _ s' hq => wpAny_pure (wpAny_pure hq)) fun _ _ e => e)
  obtain ⟨r, b, t, u, v, news, rfl, hh, F, N, hr, hsm, hn, j0, turn, fin⟩ := h₁
  refine wpAny_pyIter_range hr hsm ?_
  refine block_C (RR := fun acc C => compPost (model prog w) A E (some (assign (.Name y py) env)) (fun _ s' => Q .next s') acc C) (n := n) (a := a) J hh hsz hpc hcf hkind hx (by show IsRangeIter _ _ _ _ _; rw [hn]; simpa using Heap.get?_push_size _ rfl)
    (F.keeps fun _ _ e => Heap.get?_push_of_some _ e) (N.grown fun _ _ e => Heap.get?_push_of_some _ e) (Nat.ne_of_lt F.ns.lt) (next_is_new F) (fun p hp => Nat.ne_of_lt (Heap.lt_size (N p hp).1)) j0 (turn _ (fun p hp => Heap.lt_size (N p hp).1) _) ?_
  intro D C h' tk m' ys nx F' N' offD hn C₀ CL CD offC jn
  show wpAny _ A (assign (.Name y py) env (.ref D)) _ _ _
  refine wpAny_assign_Name (wpAny_storeName_local hy F'.ns (fun h₂ hn₂ hs₂ => ?_) hp)
  have hL₀ : h₀.get? env.locals = none := Heap.get?_none_of_le F'.above
  have F₂ : Fr h₀ env.locals h₂ (fun z => if z = y then some (.ref D) else m z) := ⟨hn₂, fun b o e => hs₂.extBut b o (fun q => by rw [q, hL₀] at e; cases e) (F'.keep b o e), F'.above⟩
  refine ⟨m', hn.sameBut hs₂ CL, fun h'' hs'' => fin ys nx D h'' _ jn (F₂.change hs'' CL C₀) (fun p hp => ?_) offD⟩
  have z : h₂.get? p.1 = some p.2 := hs₂.extBut _ _ (N' p hp).2.1 (N' p hp).1
  refine ⟨hs''.extBut _ _ ?_ z, (N' p hp).2⟩
  rcases List.mem_cons.mp hp with rfl | hp
  · exact Ne.symm CD
  · exact offC p hp
end
end Mine
end

section
open PySem PySem.W PyProof.Rows PySem.Calls
set_option maxRecDepth 100000
set_option maxHeartbeats 8000000
namespace Mine
section
variable {prog : Program} {w : World} {A : Around} {E : Value → Shared → Prop} {s : Shared} {h₀ : Heap} {L : Addr} {m : Str → Option Value} {news : List (Addr × Obj)}
theorem sliceApplied_13 {sl : Addr} {u v : Tok} {Q : Int × Int × Nat → Shared → Prop} (hs : s.heap.IsSliceOf sl (.int 1 u) (.int 3 v) .none) (h : Q (1, 1, 2) s) :
    wpAny (model prog w) A (Builtin.Slice.sliceApplied (.ref sl) (pure 4)) Q E s := by
  obtain ⟨os, hos, hcs, hds⟩ := id hs
  unfold Builtin.Slice.sliceApplied Builtin.Slice.sliceFields
  refine wpAny_bind (wpAny_bind (wpAny_field hos hds (x := .int 1 u) rfl (wpAny_bind (wpAny_field hos hds (x := .int 3 v) rfl (wpAny_bind (wpAny_field hos hds (x := .none) rfl (wpAny_pure ?_)))))))
  refine wpAny_bind (slicePart_none ?_)
  show wpAny _ _ (if ((1 : Int) == 0) = true then _ else _) _ _ s
  rw [if_neg (by decide)]
  refine wpAny_bind (slicePart_int (wpAny_bind (slicePart_int (wpAny_bind (wpAny_pure ?_)))))
  exact wpAny_pure h
theorem getItem_tuple_13 {t sl : Addr} {x0 x1 x2 x3 : Value} {u v : Tok} {Q : Value → Shared → Prop} (ht : IsTup s.heap t #[x0, x1, x2, x3]) (hs : s.heap.IsSliceOf sl (.int 1 u) (.int 3 v) .none)
    (h : Q (.ref s.heap.objs.size) { s with heap := s.heap.push { cls := .type "tuple", data := .seq #[x1, x2] } }) : wpAny (model prog w) A (getItem (.ref t) (.ref sl)) Q E s := by
  obtain ⟨os, hos, hcs, hds⟩ := id hs
  have hTs : s.TypeIs (.ref sl) "slice" := ⟨os, hos, hcs⟩
  unfold getItem
  try with_reducible refine wpAny_holding ?_
  first | refine wpAny_bind (wpAny_pure ?_) | skip
  refine wpAny_bind (wpAny_sequenceKey ht.typeIs (by decide) ?_)
  refine wpAny_bind (wpAny_callSpecial?_slot (name := Str.ofString "__getitem__") ht.typeIs slot_tuple_getitem
    (wpAny_call_entry slot_tuple_getitem ht.typeIs entry_tuple_getitem ?_ (args_tuple_getitem _ _)))
  show wpAny _ _ (Builtin.Tuple.tupleItemsOf (.ref t) >>= _) _ _ s
  refine wpAny_bind (tupleItemsOf_ ht ?_)
  refine wpAny_bind (wpAny_typeOf hTs ?_)
  rw [if_pos (by decide)]
  refine wpAny_bind (sliceApplied_13 hs ?_)
  show wpAny _ _ (if ((1 : Int) == 0 && (1 : Int) == 1 && (2 : Nat) == 4) = true then _ else _) _ _ s
  rw [if_neg (by decide)]
  have hdrop : sizeOk (.seq #[x1, x2]) := by show 2 ≤ sizeLine; rw [sizeLine_eq]; decide
  first
    | exact wpAny_bind (m := Builtin.Tuple.tupleExact _) (wpAny_newObj_type (wpAny_pure ⟨_, rfl, wpAny_pure h⟩) hdrop)
    | exact wpAny_bind (m := Builtin.Tuple.tupleExact _) (wpAny_newObj_type (wpAny_bind (wpAny_pure (wpAny_pure ⟨_, rfl, wpAny_pure h⟩))) hdrop)
    | exact wpAny_bind (wpAny_bind (m := Builtin.Tuple.tupleExact _) (wpAny_newObj_type (wpAny_pure (wpAny_pure ⟨_, rfl, wpAny_pure h⟩)) hdrop))
    | exact wpAny_bind (wpAny_bind (m := Builtin.Tuple.tupleExact _) (wpAny_newObj_type (wpAny_pure ⟨_, rfl, wpAny_pure h⟩) hdrop))
theorem slice_tuple_13 {value slice : PySem.Expr} {t : Addr} {x0 x1 x2 x3 : Value} {n : Nat} {u v : Tok} {Q : Value → Shared → Prop}
    (F : Fr h₀ L s.heap m) (N : News h₀ L s.heap news) (hm : (t, ({ cls := .type "tuple", data := .seq #[x0, x1, x2, x3] n } : Obj)) ∈ news)
    (h : ∀ a h', Fr h₀ L h' m → News h₀ L h' ((a, { cls := .type "tuple", data := .seq #[x1, x2] }) :: news) → (∀ p ∈ news, p.1 < a) → Q (.ref a) { s with heap := h' })
    (hs : subscripted slice false (.ref t) (.ref s.heap.objs.size) = operate [.ref s.heap.objs.size, .ref t] (getItem (.ref t) (.ref s.heap.objs.size)) := by with_unfolding_all rfl)
    (hg : ∀ r, letTemporaryGo value (.ref t) r = pure () := by intro _; with_unfolding_all rfl) :
    wpAny (model prog w) A (subscriptTail value slice (.ref t) (.ref s.heap.objs.size)) Q E { s with heap := s.heap.push { cls := .type "slice", data := .fields #[.int 1 u, .int 3 v, .none] } } := by
  have ht : IsTup s.heap t #[x0, x1, x2, x3] := N.isTup hm
  have ht' : IsTup (s.heap.push { cls := .type "slice", data := .fields #[.int 1 u, .int 3 v, .none] }) t #[x0, x1, x2, x3] := ht.keeps fun _ _ e => Heap.get?_push_of_some _ e
  refine subscriptTail_ops (s := { s with heap := s.heap.push { cls := .type "slice", data := .fields #[.int 1 u, .int 3 v, .none] } }) ht'.typeIs slot_tuple_getitem.lookup
    (getItem_tuple_13 ht' (Heap.IsSliceOf.new ..) ?_) hs hg
  have N1 := News.push (F.push { cls := .type "slice", data := .fields #[.int 1 u, .int 3 v, .none] }) (N.grown fun _ _ e => Heap.get?_push_of_some _ e) { cls := .type "tuple", data := .seq #[x1, x2] }
  rw [Heap.size_push] at N1
  show Q (.ref (s.heap.push _).objs.size) _
  rw [Heap.size_push]
  exact h _ _ ((F.push _).push _) N1 fun p hp => Nat.lt_succ_of_lt (Heap.lt_size (N p hp).1)
end
end Mine
end

section
open PySem PySem.W PyProof.Rows PySem.Calls
set_option maxRecDepth 100000
set_option maxHeartbeats 8000000
namespace Mine
theorem reg_ListR_1 : True := by
  w_top off
  k_with_none
  k_with "my omega" => first
      | with_reducible assumption
      | decide
      | ((fail_if_success (fail_if_success omega (config := {})))
         first
           | k_extra "my om"
           | k_extra "my big"
           | omega (config := {}))
  k_with "my om" => first
      | (with_reducible refine' rm0 ?h; (case h => with_reducible assumption))
      | (with_reducible refine' rm1 ?h ?e; (case h => with_reducible assumption); (case e => decide))
      | (with_reducible refine' rm2 ?h ?e; (case h => with_reducible assumption); (case e => decide))
      | (with_reducible refine' rm3 ?h ?e; (case h => with_reducible assumption); (case e => decide))
      | (with_reducible refine' bd1 ?h ?e; (case h => with_reducible assumption); (case e => decide))
      | (with_reducible refine' bd3 ?h ?e; (case h => with_reducible assumption); (case e => decide))
      | (with_reducible refine' bd4 ?h ?e; (case h => with_reducible assumption); (case e => decide))
      | (with_reducible refine' bz1 ?h ?e; (case h => walk_at "lt"); (case e => decide))
      | (with_reducible refine' bz3 ?h ?e; (case h => walk_at "lt"); (case e => decide))
      | (with_reducible refine' bd2 ?q ?h ?e; (case q => with_reducible assumption); (case h => with_reducible assumption); (case e => decide))
      | walk_at "lt2"
      | (with_reducible refine Nat.le_of_lt ?_; walk_at "lt2")
      | (with_reducible refine Nat.ne_of_lt ?_; walk_at "lt2")
      | (with_reducible refine Nat.ne_of_gt ?_; walk_at "lt2")
      | ((with_reducible refine And.intro ?_ ?_) <;> k_extra "my omega")
      | (with_reducible refine' Nat.lt_trans ?a ?b; (case b => with_reducible assumption); (case a => walk_at "lt2"))
      | (with_reducible refine' Nat.lt_trans ?a ?b; (case a => with_reducible assumption); (case b => walk_at "lt2"))
      | (with_reducible refine' Nat.lt_of_le_of_lt ?a ?b; (case b => with_reducible assumption); (case a => walk_at "lt2"))
      | (with_reducible refine' Nat.lt_of_le_of_lt ?a ?b; (case a => with_reducible assumption); (case b => walk_at "lt2"))
      | (with_reducible refine' Nat.lt_of_lt_of_le ?a ?b; (case b => with_reducible assumption); (case a => walk_at "lt2"))
      | (with_reducible refine' Nat.lt_of_lt_of_le ?a ?b; (case a => with_reducible assumption); (case b => walk_at "lt2"))
      | (with_reducible refine' Nat.le_trans ?a ?b; (case b => with_reducible assumption); (case a => walk_at "lt2"))
      | (with_reducible refine' Nat.le_trans ?a ?b; (case a => with_reducible assumption); (case b => walk_at "lt2"))
  k_with "my lt" => first
      | with_reducible assumption
      | (refine' And.left ?h; (case h => with_reducible assumption))
      | (refine' And.left (And.right ?h); (case h => with_reducible assumption))
      | (refine' And.left (And.right (And.right ?h)); (case h => with_reducible assumption))
      | (refine' And.left (And.right (And.right (And.right ?h))); (case h => with_reducible assumption))
      | (refine' And.left (And.right (And.right (And.right (And.right ?h)))); (case h => with_reducible assumption))
      | (refine' And.left (And.right (And.right (And.right (And.right (And.right ?h))))); (case h => with_reducible assumption))
      | (refine' And.left (And.right (And.right (And.right (And.right (And.right (And.right ?h)))))); (case h => with_reducible assumption))
      | (refine' And.left (And.right (And.right (And.right (And.right (And.right (And.right (And.right ?h))))))); (case h => with_reducible assumption))
      | (refine' And.left (And.right (And.right (And.right (And.right (And.right (And.right (And.right (And.right ?h)))))))); (case h => with_reducible assumption))
      | (refine' And.left (And.right (And.right (And.right (And.right (And.right (And.right (And.right (And.right (And.right ?h))))))))); (case h => with_reducible assumption))
      | (refine' And.left (And.right (And.right (And.right (And.right (And.right (And.right (And.right (And.right (And.right (And.right ?h)))))))))); (case h => with_reducible assumption))
  k_with "my lt2" => first
      | walk_at "lt"
      | (with_reducible exact ad1)
      | (with_reducible exact ad2)
      | (with_reducible exact ad3)
      | (with_reducible exact ad4)
      | (with_reducible refine ar1 ?_; walk_at "lt")
      | (with_reducible refine ar2 ?_; walk_at "lt")
      | (with_reducible refine ar3 ?_; walk_at "lt")
      | (with_reducible refine ar4 ?_; walk_at "lt")
      | (with_reducible refine as1 ?_; walk_at "lt")
      | (with_reducible refine as2 ?_; walk_at "lt")
      | (with_reducible refine as3 ?_; walk_at "lt")
      | (with_reducible refine as4 ?_; walk_at "lt")
  k_with "my ar" => ((try dsimp only); first
      | with_reducible exact Nat.le_refl _
      | walk_at "lt2"
      | (refine Nat.le_of_lt ?_; walk_at "lt2")
      | (refine Nat.ne_of_lt ?_; walk_at "lt2")
      | (refine Nat.ne_of_gt ?_; walk_at "lt2")
      | k_extra "my ar2"
      | omega)
  k_with "my k_ne" => (refine neN ?_; (try dsimp only); first
      | with_reducible assumption
      | (refine Ne.symm ?_; with_reducible assumption)
      | (refine Nat.ne_of_lt ?_; walk_at "lt")
      | (refine Nat.ne_of_gt ?_; walk_at "lt")
      | omega)
  trivial
theorem slot_list_iadd : Slot "list" "__iadd__" "list.__iadd__" :=
  .of (owner := "list") (n := "__iadd__") (by rw [typeLookup_type, builtinLookup_eq_fast]; kernel_rfl) (by decide +kernel) (by decide +kernel) (by decide +kernel)
    (by first | exact .inl (by decide +kernel) | exact .inr (by decide +kernel)) (by rw [isSubtype_type]; kernel_rfl)
theorem fills_list_iadd : fillsInplaceSlot (.type "list") "add" true = pure false := by
  unfold fillsInplaceSlot
  show (typeLookup (.type "list") (dunderI "add") >>= fun fi => pure (fi.isSome && !isSeqSlot fi)) = pure false
  rw [show typeLookup (.type "list") (dunderI "add") = pure (some (.builtin "list.__iadd__")) from slot_list_iadd.lookup]
  rfl
theorem seq_list_iadd : seqSlot? (.type "list") (dunderI "add") = pure (some (.builtin "list.__iadd__")) := PySem.seqSlot_of slot_list_iadd.lookup (by decide +kernel)
section
variable {prog : Program} {w : World} {A : Around} {E : Value → Shared → Prop} {s : Shared} {h₀ : Heap} {L l b : Addr} {m : Str → Option Value} {news news' : List (Addr × Obj)} {xs ys : List Value} {n n2 : Nat} {Q : Value → Shared → Prop}
theorem iadd_list (F : Fr h₀ L s.heap m) (N : News h₀ L s.heap news) (U : UpdF l (listOf xs.toArray n) news g) (hb : (b, listOf ys.toArray n2) ∈ news) (hsz : xs.length + ys.length ≤ 1000000)
    (h : ∀ h' n', Fr h₀ L h' m → News h₀ L h' (g (listOf (xs ++ ys).toArray n')) → Q (.ref l) { s with heap := h' }) : wpAny (model prog w) A (inplaceOp .Add (.ref l) (.ref b)) Q E s := by
  obtain ⟨pre, post, rfl, hg, h1, h2⟩ := U.split
  have hl := (N (l, listOf xs.toArray n) (by simp)).1
  have hbb := (N _ hb).1
  have hTl : s.TypeIs (.ref l) "list" := ⟨_, hl, rfl⟩
  have hTb : s.TypeIs (.ref b) "list" := ⟨_, hbb, rfl⟩
  have hz : (xs.toArray.size : Nat) + ys.toArray.size ≤ sizeLine := by rw [List.size_toArray, List.size_toArray, sizeLine_eq]; omega
  unfold inplaceOp
  refine wpAny_holding ?_
  show wpAny _ _ (typeOf (.ref l) >>= _) _ _ _
  refine wpAny_bind (wpAny_typeOf hTl ?_)
  refine wpAny_bind (wpAny_of_eq fills_list_iadd ?_)
  show wpAny _ A (if false = true then _ else _) Q E s
  rw [if_neg Bool.false_ne_true]
  refine wpAny_bind (wpAny_binaryOp1_none (nm := "add") hTl hTb noFill_list_add ?_)
  refine wpAny_bind (wpAny_of_eq seq_list_iadd ?_)
  refine wpAny_bind (wpAny_rule ?_)
  have hns : ¬(!xs.toArray.isEmpty && Builtin.List.listTooLong (xs.toArray.size + ys.toArray.size)) = true := by
    intro hh
    simp only [Bool.and_eq_true] at hh
    have h3 := hh.2
    unfold Builtin.List.listTooLong at h3
    simp only [decide_eq_true_eq] at h3
    omega
  have hup : Obj.mapSeq (fun x => x ++ ys.toArray) (listOf xs.toArray n) = listOf (xs ++ ys).toArray (if (xs.toArray ++ ys.toArray).size == xs.toArray.size then n else n + 1) := by
    show (⟨_, _, .seq (xs.toArray ++ ys.toArray) _, _⟩ : Obj) = _
    simp [W.listOf]
  obtain ⟨F2, N2⟩ := news_upd (f := Obj.mapSeq fun x => x ++ ys.toArray) F N h1 h2 hup rfl
  refine call_meets slot_list_iadd hTl entry_list_iadd' (PySem.F.args_list_iadd_2 _ _) (AutoSeq1.list___iadd___list_list_0 l xs.toArray n b ys.toArray n2 hns (by omega) (by omega)) ⟨hl, hbb, ?_⟩
  show Q (.ref l) _
  refine h _ (if (xs.toArray ++ ys.toArray).size == xs.toArray.size then n else n + 1) F2 ?_
  rw [hg]
  exact N2
theorem foldl_append_replicate (v : Value) : ∀ (k : Nat) (acc : List Value), List.foldl (fun x1 x2 => x1 ++ x2) acc.toArray (List.replicate k #[v]) = (acc ++ List.replicate k v).toArray
  | 0, acc => by simp
  | k + 1, acc => by
    rw [List.replicate_succ, List.foldl_cons]
    have e : acc.toArray ++ #[v] = (acc ++ [v]).toArray := by simp
    rw [e, foldl_append_replicate v k (acc ++ [v]), List.replicate_succ, List.append_assoc]
    rfl
theorem mul_one {v : Value} {x : Int} {u : Tok} (F : Fr h₀ L s.heap m) (N : News h₀ L s.heap news) (hl : (l, listOf [v].toArray n) ∈ news) (hlo : -1000000 ≤ x) (hhi : x ≤ 1000000)
    (h : ∀ a h', Fr h₀ L h' m → News h₀ L h' ((a, listOf (List.replicate x.toNat v).toArray 0) :: news) → (∀ p ∈ news, p.1 < a) → Q (.ref a) { s with heap := h' }) :
    wpAny (model prog w) A (binaryOp .Mult (.ref l) (.int x u)) Q E s := by
  refine mul_list F N (N _ hl).1 (by omega) (by omega) (by show 1 * x.toNat ≤ _; omega) ?_
  intro h' F' N'
  have e : List.foldl (fun x1 x2 => x1 ++ x2) #[] (List.replicate (if (#[v] : Array Value).isEmpty = true then 0 else x.toNat) #[v]) = (List.replicate x.toNat v).toArray := by
    have := foldl_append_replicate v x.toNat []
    simpa using this
  have N2 : News h₀ L h' ((s.heap.objs.size, listOf (List.replicate x.toNat v).toArray 0) :: news) := by
    rw [← e]
    exact N'
  exact h _ _ F' N2 fun p hp => Heap.lt_size (N p hp).1
theorem len_led (N : News h₀ L s.heap news) (hl : (l, listOf xs.toArray n) ∈ news) (hsz : xs.length ≤ 1000000) (h : Q (.int (xs.length : Int) (s.toks + 1)) { s with toks := s.toks + 1 + 1 }) :
    wpAny (model prog w) A (call (.builtin "len") [.ref l]) Q E s := by
  have hL : s.heap.IsList l xs.toArray := ⟨_, (N _ hl).1, rfl, n, rfl⟩
  have e : xs.toArray.size = xs.length := by simp
  exact len_list hL (by rw [e]; omega) (by rw [e]; exact h)
theorem slice_last {value slice : PySem.Expr} {v : Value} {u : Tok} (F : Fr h₀ L s.heap m) (N : News h₀ L s.heap news) (hl : (l, listOf (xs ++ [v]).toArray n) ∈ news) (hsz : xs.length ≤ 1000000)
    (h : ∀ a h', Fr h₀ L h' m → News h₀ L h' ((a, listOf [v].toArray 0) :: news) → (∀ p ∈ news, p.1 < a) → Q (.ref a) { s with heap := h' })
    (hs : subscripted slice false (.ref l) (.ref s.heap.objs.size) = operate [.ref s.heap.objs.size, .ref l] (getItem (.ref l) (.ref s.heap.objs.size)) := by with_unfolding_all rfl)
    (ht : ∀ r, letTemporaryGo value (.ref l) r = pure () := by intro _; with_unfolding_all rfl) :
    wpAny (model prog w) A (subscriptTail value slice (.ref l) (.ref s.heap.objs.size)) Q E { s with heap := s.heap.push { cls := .type "slice", data := .fields #[.int (-1) u, .none, .none] } } := by
  have hL : s.heap.IsList l (xs ++ [v]).toArray := ⟨_, (N _ hl).1, rfl, n, rfl⟩
  refine slice_listK (lo := some (-1)) (hi := none) hL (.int _ _) .none ?_ hs ht (by rw [List.size_toArray, sizeLine_eq, List.length_append]; show xs.length + 1 ≤ _; omega)
  have e : slicePick (xs ++ [v]).toArray (some (-1)) none none = [v].toArray := by
    have := slicePick_last (xs ++ [v]).toArray 1 (by omega)
    rw [show (-(1 : Nat) : Int) = -1 from rfl] at this
    rw [this]
    simp
  rw [e]
  have N1 := News.push (F.push { cls := .type "slice", data := .fields #[.int (-1) u, .none, .none] }) (N.grown fun _ _ e => Heap.get?_push_of_some _ e) (listOf [v].toArray 0)
  rw [Heap.size_push] at N1
  exact h _ _ ((F.push _).push _) N1 fun p hp => Nat.lt_succ_of_lt (Heap.lt_size (N p hp).1)
end
end Mine
end

section
open PySem PySem.W PyProof.Rows PySem.Calls
set_option maxRecDepth 100000
set_option maxHeartbeats 8000000
namespace Mine
theorem reg_ListS_1 : True := by
  w_top off
  k_with_none
  k_with "my omega" => first
      | with_reducible assumption
      | decide
      | ((fail_if_success (fail_if_success omega (config := {})))
         first
           | k_extra "my om"
           | k_extra "my big"
           | omega (config := {}))
  k_with "my om" => first
      | (with_reducible refine' rm0 ?h; (case h => with_reducible assumption))
      | (with_reducible refine' rm1 ?h ?e; (case h => with_reducible assumption); (case e => decide))
      | (with_reducible refine' rm2 ?h ?e; (case h => with_reducible assumption); (case e => decide))
      | (with_reducible refine' rm3 ?h ?e; (case h => with_reducible assumption); (case e => decide))
      | (with_reducible refine' bd1 ?h ?e; (case h => with_reducible assumption); (case e => decide))
      | (with_reducible refine' bd3 ?h ?e; (case h => with_reducible assumption); (case e => decide))
      | (with_reducible refine' bd4 ?h ?e; (case h => with_reducible assumption); (case e => decide))
      | (with_reducible refine' bz1 ?h ?e; (case h => walk_at "lt"); (case e => decide))
      | (with_reducible refine' bz3 ?h ?e; (case h => walk_at "lt"); (case e => decide))
      | (with_reducible refine' bd2 ?q ?h ?e; (case q => with_reducible assumption); (case h => with_reducible assumption); (case e => decide))
      | walk_at "lt2"
      | (with_reducible refine Nat.le_of_lt ?_; walk_at "lt2")
      | (with_reducible refine Nat.ne_of_lt ?_; walk_at "lt2")
      | (with_reducible refine Nat.ne_of_gt ?_; walk_at "lt2")
      | ((with_reducible refine And.intro ?_ ?_) <;> k_extra "my omega")
      | (with_reducible refine' Nat.lt_trans ?a ?b; (case b => with_reducible assumption); (case a => walk_at "lt2"))
      | (with_reducible refine' Nat.lt_trans ?a ?b; (case a => with_reducible assumption); (case b => walk_at "lt2"))
      | (with_reducible refine' Nat.lt_of_le_of_lt ?a ?b; (case b => with_reducible assumption); (case a => walk_at "lt2"))
      | (with_reducible refine' Nat.lt_of_le_of_lt ?a ?b; (case a => with_reducible assumption); (case b => walk_at "lt2"))
      | (with_reducible refine' Nat.lt_of_lt_of_le ?a ?b; (case b => with_reducible assumption); (case a => walk_at "lt2"))
      | (with_reducible refine' Nat.lt_of_lt_of_le ?a ?b; (case a => with_reducible assumption); (case b => walk_at "lt2"))
      | (with_reducible refine' Nat.le_trans ?a ?b; (case b => with_reducible assumption); (case a => walk_at "lt2"))
      | (with_reducible refine' Nat.le_trans ?a ?b; (case a => with_reducible assumption); (case b => walk_at "lt2"))
  k_with "my lt" => first
      | with_reducible assumption
      | (refine' And.left ?h; (case h => with_reducible assumption))
      | (refine' And.left (And.right ?h); (case h => with_reducible assumption))
      | (refine' And.left (And.right (And.right ?h)); (case h => with_reducible assumption))
      | (refine' And.left (And.right (And.right (And.right ?h))); (case h => with_reducible assumption))
      | (refine' And.left (And.right (And.right (And.right (And.right ?h)))); (case h => with_reducible assumption))
      | (refine' And.left (And.right (And.right (And.right (And.right (And.right ?h))))); (case h => with_reducible assumption))
      | (refine' And.left (And.right (And.right (And.right (And.right (And.right (And.right ?h)))))); (case h => with_reducible assumption))
      | (refine' And.left (And.right (And.right (And.right (And.right (And.right (And.right (And.right ?h))))))); (case h => with_reducible assumption))
      | (refine' And.left (And.right (And.right (And.right (And.right (And.right (And.right (And.right (And.right ?h)))))))); (case h => with_reducible assumption))
      | (refine' And.left (And.right (And.right (And.right (And.right (And.right (And.right (And.right (And.right (And.right ?h))))))))); (case h => with_reducible assumption))
      | (refine' And.left (And.right (And.right (And.right (And.right (And.right (And.right (And.right (And.right (And.right (And.right ?h)))))))))); (case h => with_reducible assumption))
  k_with "my lt2" => first
      | walk_at "lt"
      | (with_reducible exact ad1)
      | (with_reducible exact ad2)
      | (with_reducible exact ad3)
      | (with_reducible exact ad4)
      | (with_reducible refine ar1 ?_; walk_at "lt")
      | (with_reducible refine ar2 ?_; walk_at "lt")
      | (with_reducible refine ar3 ?_; walk_at "lt")
      | (with_reducible refine ar4 ?_; walk_at "lt")
      | (with_reducible refine as1 ?_; walk_at "lt")
      | (with_reducible refine as2 ?_; walk_at "lt")
      | (with_reducible refine as3 ?_; walk_at "lt")
      | (with_reducible refine as4 ?_; walk_at "lt")
  k_with "my ar" => ((try dsimp only); first
      | with_reducible exact Nat.le_refl _
      | walk_at "lt2"
      | (refine Nat.le_of_lt ?_; walk_at "lt2")
      | (refine Nat.ne_of_lt ?_; walk_at "lt2")
      | (refine Nat.ne_of_gt ?_; walk_at "lt2")
      | k_extra "my ar2"
      | omega)
  k_with "my k_ne" => (refine neN ?_; (try dsimp only); first
      | with_reducible assumption
      | (refine Ne.symm ?_; with_reducible assumption)
      | (refine Nat.ne_of_lt ?_; walk_at "lt")
      | (refine Nat.ne_of_gt ?_; walk_at "lt")
      | omega)
  trivial
section
variable {prog : Program} {w : World} {A : Around} {E : Value → Shared → Prop} {s : Shared} {h₀ : Heap} {L l b : Addr} {m : Str → Option Value} {news : List (Addr × Obj)} {xs ys : List Value} {n n2 : Nat}
theorem truthy_app {v : Value} {Q : Bool → Shared → Prop} (N : News h₀ L s.heap news) (hl : (l, listOf (xs ++ [v]).toArray n) ∈ news) (hsz : xs.length ≤ 1000000) (h : Q true { s with toks := s.toks + 1 + 1 }) : wpAny (model prog w) A (truthy (.ref l)) Q E s := by
  have hL : s.heap.IsList l (xs ++ [v]).toArray := ⟨_, (N _ hl).1, rfl, n, rfl⟩
  refine wpAny_truthy_list hL (by rw [List.size_toArray, List.length_append, List.length_singleton]; omega) ?_
  have e : (!(xs ++ [v]).toArray.isEmpty) = true := by simp
  rw [e]; exact h
theorem truthy_cons {v : Value} {Q : Bool → Shared → Prop} (N : News h₀ L s.heap news) (hl : (l, listOf (v :: xs).toArray n) ∈ news) (hsz : xs.length ≤ 1000000) (h : Q true { s with toks := s.toks + 1 + 1 }) : wpAny (model prog w) A (truthy (.ref l)) Q E s := by
  have hL : s.heap.IsList l (v :: xs).toArray := ⟨_, (N _ hl).1, rfl, n, rfl⟩
  refine wpAny_truthy_list hL (by rw [List.size_toArray, List.length_cons]; omega) ?_
  have e : (!(v :: xs).toArray.isEmpty) = true := by simp
  rw [e]; exact h
theorem add_led {Q : Value → Shared → Prop} (F : Fr h₀ L s.heap m) (N : News h₀ L s.heap news) (hl : (l, listOf xs.toArray n) ∈ news) (hb : (b, listOf ys.toArray n2) ∈ news) (hsz : xs.length + ys.length ≤ 1000000)
    (h : ∀ a h', Fr h₀ L h' m → News h₀ L h' ((a, listOf (xs ++ ys).toArray 0) :: news) → (∀ p ∈ news, p.1 < a) → Q (.ref a) { s with heap := h' }) : wpAny (model prog w) A (binaryOp .Add (.ref l) (.ref b)) Q E s := by
  have hL : s.heap.IsList l xs.toArray := ⟨_, (N _ hl).1, rfl, n, rfl⟩
  have hB : s.heap.IsList b ys.toArray := ⟨_, (N _ hb).1, rfl, n2, rfl⟩
  exact add_lists (vs := xs) (ws := ys) (hsz := by rw [sizeLine_eq]; omega) F N hL hB fun h' F' N' => h _ h' F' N' fun p hp => Heap.lt_size (N p hp).1
theorem item_last {value slice : PySem.Expr} {v : Value} {u : Tok} {Q : Value → Shared → Prop} (N : News h₀ L s.heap news) (hl : (l, listOf (xs ++ [v]).toArray n) ∈ news) (hsz : xs.length ≤ 1000000) (h : Q v s)
    (hs : subscripted slice false (.ref l) (.int (-1) u) = operate [.ref l, .int (-1) u] (getItem (.ref l) (.int (-1) u)) := by with_unfolding_all rfl) :
    wpAny (model prog w) A (subscriptTail value slice (.ref l) (.int (-1) u)) Q E s := by
  have hL : s.heap.IsList l (xs ++ [v]).toArray := ⟨_, (N _ hl).1, rfl, n, rfl⟩
  refine tail_any hL.typeIs slot_list_getitem.lookup (wpAny_getItem_list_neg hL (by decide) (by rw [List.size_toArray, List.length_append, List.length_singleton]; omega) (by decide) ?_ h) hs
  rw [List.size_toArray, List.length_append, List.length_singleton]
  have e : ((-1 : Int) + ((xs.length + 1 : Nat) : Int)).toNat = xs.length := by omega
  rw [e]; simp
theorem slice_upto {value slice : PySem.Expr} {k : Int} {u : Tok} {Q : Value → Shared → Prop} (F : Fr h₀ L s.heap m) (N : News h₀ L s.heap news) (hl : (l, listOf xs.toArray n) ∈ news) (hsz : xs.length ≤ 1000000) (hk : 0 ≤ k)
    (h : ∀ a h', Fr h₀ L h' m → News h₀ L h' ((a, listOf (xs.take k.toNat).toArray 0) :: news) → (∀ p ∈ news, p.1 < a) → Q (.ref a) { s with heap := h' })
    (hs : subscripted slice false (.ref l) (.ref s.heap.objs.size) = operate [.ref s.heap.objs.size, .ref l] (getItem (.ref l) (.ref s.heap.objs.size)) := by with_unfolding_all rfl)
    (ht : ∀ r, letTemporaryGo value (.ref l) r = pure () := by intro _; with_unfolding_all rfl) :
    wpAny (model prog w) A (subscriptTail value slice (.ref l) (.ref s.heap.objs.size)) Q E { s with heap := s.heap.push { cls := .type "slice", data := .fields #[.none, .int k u, .none] } } := by
  have hL : s.heap.IsList l xs.toArray := ⟨_, (N _ hl).1, rfl, n, rfl⟩
  refine kms_slice_lit (lo := none) (hi := some k) F N hL .none (.int _ _) ?_ h hs ht (by rw [List.size_toArray, sizeLine_eq]; omega)
  unfold kms_pick kms_lo kms_hi
  dsimp only
  rw [if_neg (by omega)]
  simp
end
end Mine
end

section
namespace Mine
theorem reg_SeatP_1 : True := by
  w_top off
  k_with_none
  k_with "my big" => lia
  k_with "my omega" => first
      | with_reducible assumption
      | decide
      | ((fail_if_success (fail_if_success omega (config := {})))
         first
           | k_extra "my om"
           | k_extra "my big"
           | omega (config := {}))
  k_with "my om" => first
      | (with_reducible refine' rm0 ?h; (case h => with_reducible assumption))
      | (with_reducible refine' rm1 ?h ?e; (case h => with_reducible assumption); (case e => decide))
      | (with_reducible refine' rm2 ?h ?e; (case h => with_reducible assumption); (case e => decide))
      | (with_reducible refine' rm3 ?h ?e; (case h => with_reducible assumption); (case e => decide))
      | (with_reducible refine' bd1 ?h ?e; (case h => with_reducible assumption); (case e => decide))
      | (with_reducible refine' bd3 ?h ?e; (case h => with_reducible assumption); (case e => decide))
      | (with_reducible refine' bd4 ?h ?e; (case h => with_reducible assumption); (case e => decide))
      | (with_reducible refine' bz1 ?h ?e; (case h => walk_at "lt"); (case e => decide))
      | (with_reducible refine' bz3 ?h ?e; (case h => walk_at "lt"); (case e => decide))
      | (with_reducible refine' bd2 ?q ?h ?e; (case q => with_reducible assumption); (case h => with_reducible assumption); (case e => decide))
      | walk_at "lt2"
      | (with_reducible refine Nat.le_of_lt ?_; walk_at "lt2")
      | (with_reducible refine Nat.ne_of_lt ?_; walk_at "lt2")
      | (with_reducible refine Nat.ne_of_gt ?_; walk_at "lt2")
      | ((with_reducible refine And.intro ?_ ?_) <;> k_extra "my omega")
      | (with_reducible refine' Nat.lt_trans ?a ?b; (case b => with_reducible assumption); (case a => walk_at "lt2"))
      | (with_reducible refine' Nat.lt_trans ?a ?b; (case a => with_reducible assumption); (case b => walk_at "lt2"))
      | (with_reducible refine' Nat.lt_of_le_of_lt ?a ?b; (case b => with_reducible assumption); (case a => walk_at "lt2"))
      | (with_reducible refine' Nat.lt_of_le_of_lt ?a ?b; (case a => with_reducible assumption); (case b => walk_at "lt2"))
      | (with_reducible refine' Nat.lt_of_lt_of_le ?a ?b; (case b => with_reducible assumption); (case a => walk_at "lt2"))
      | (with_reducible refine' Nat.lt_of_lt_of_le ?a ?b; (case a => with_reducible assumption); (case b => walk_at "lt2"))
      | (with_reducible refine' Nat.le_trans ?a ?b; (case b => with_reducible assumption); (case a => walk_at "lt2"))
      | (with_reducible refine' Nat.le_trans ?a ?b; (case a => with_reducible assumption); (case b => walk_at "lt2"))
  k_with "my lt" => first
      | with_reducible assumption
      | (refine' And.left ?h; (case h => with_reducible assumption))
      | (refine' And.left (And.right ?h); (case h => with_reducible assumption))
      | (refine' And.left (And.right (And.right ?h)); (case h => with_reducible assumption))
      | (refine' And.left (And.right (And.right (And.right ?h))); (case h => with_reducible assumption))
      | (refine' And.left (And.right (And.right (And.right (And.right ?h)))); (case h => with_reducible assumption))
      | (refine' And.left (And.right (And.right (And.right (And.right (And.right ?h))))); (case h => with_reducible assumption))
      | (refine' And.left (And.right (And.right (And.right (And.right (And.right (And.right ?h)))))); (case h => with_reducible assumption))
      | (refine' And.left (And.right (And.right (And.right (And.right (And.right (And.right (And.right ?h))))))); (case h => with_reducible assumption))
      | (refine' And.left (And.right (And.right (And.right (And.right (And.right (And.right (And.right (And.right ?h)))))))); (case h => with_reducible assumption))
      | (refine' And.left (And.right (And.right (And.right (And.right (And.right (And.right (And.right (And.right (And.right ?h))))))))); (case h => with_reducible assumption))
      | (refine' And.left (And.right (And.right (And.right (And.right (And.right (And.right (And.right (And.right (And.right (And.right ?h)))))))))); (case h => with_reducible assumption))
  k_with "my lt2" => first
      | walk_at "lt"
      | (with_reducible exact ad1)
      | (with_reducible exact ad2)
      | (with_reducible exact ad3)
      | (with_reducible exact ad4)
      | (with_reducible refine ar1 ?_; walk_at "lt")
      | (with_reducible refine ar2 ?_; walk_at "lt")
      | (with_reducible refine ar3 ?_; walk_at "lt")
      | (with_reducible refine ar4 ?_; walk_at "lt")
      | (with_reducible refine as1 ?_; walk_at "lt")
      | (with_reducible refine as2 ?_; walk_at "lt")
      | (with_reducible refine as3 ?_; walk_at "lt")
      | (with_reducible refine as4 ?_; walk_at "lt")
  k_with "my ar" => ((try dsimp only); first
      | with_reducible exact Nat.le_refl _
      | walk_at "lt2"
      | (refine Nat.le_of_lt ?_; walk_at "lt2")
      | (refine Nat.ne_of_lt ?_; walk_at "lt2")
      | (refine Nat.ne_of_gt ?_; walk_at "lt2")
      | k_extra "my ar2"
      | omega)
  k_with "my k_ne" => (refine neN ?_; (try dsimp only); first
      | with_reducible assumption
      | (refine Ne.symm ?_; with_reducible assumption)
      | (refine Nat.ne_of_lt ?_; walk_at "lt")
      | (refine Nat.ne_of_gt ?_; walk_at "lt")
      | omega)
  trivial
noncomputable def seatStep (ss : List (Option (Int × Int))) (h : Int × Int) : List (Option (Int × Int)) :=
  ss ++ List.replicate (h.1 + 1 - ss.length).toNat (some h) ++ (List.range (h.2 - (h.1 + 1)).toNat).map fun (k : Nat) => some (h.1 + 1 + (k : Int), h.2)
noncomputable def seatsP (hits : List (Int × Int)) : List (Option (Int × Int)) := hits.foldl seatStep []
noncomputable def Incr : Int → List (Int × Int) → Prop
  | _, [] => True
  | lo, h :: t => lo ≤ h.1 ∧ h.1 < h.2 ∧ Incr h.2 t
theorem seatStep_len {ss : List (Option (Int × Int))} {h : Int × Int} (h1 : (ss.length : Int) ≤ h.1) (h2 : h.1 < h.2) : ((seatStep ss h).length : Int) = h.2 := by
  unfold seatStep
  rw [List.length_append, List.length_append, List.length_replicate, List.length_map, List.length_range]
  omega
theorem Incr.take {lo : Int} {hits : List (Int × Int)} (h : Incr lo hits) : ∀ k, Incr lo (hits.take k) := by
  induction hits generalizing lo with
  | nil => intro k; simp [Incr]
  | cons a t ih =>
    intro k
    cases k with
    | zero => simp [Incr]
    | succ k => exact ⟨h.1, h.2.1, ih h.2.2 k⟩
theorem fold_len {B : Int} : ∀ {hits : List (Int × Int)} {ss : List (Option (Int × Int))}, Incr (ss.length : Int) hits → (∀ h ∈ hits, h.2 ≤ B) → (ss.length : Int) ≤ B → ((hits.foldl seatStep ss).length : Int) ≤ B
  | [], _, _, _, h => h
  | a :: t, ss, hi, hb, h => by
    have e := seatStep_len hi.1 hi.2.1
    rw [List.foldl_cons]
    refine fold_len (by rw [e]; exact hi.2.2) (fun x hx => hb x (.tail _ hx)) ?_
    rw [e]; exact hb a (.head _)
theorem seats_len {B : Int} {hits : List (Int × Int)} (hi : Incr 0 hits) (hb : ∀ h ∈ hits, h.2 ≤ B) (hB : 0 ≤ B) : ((seatsP hits).length : Int) ≤ B := fold_len (ss := []) hi hb hB
theorem seatsP_snoc {hits : List (Int × Int)} {i : Nat} {x : Int × Int} (h : hits[i]? = some x) : seatsP (hits.take (i + 1)) = seatStep (seatsP (hits.take i)) x := by
  unfold seatsP
  rw [List.take_add_one, h]
  simp
/-- where the seats lie -/
theorem seatStep_old {ss : List (Option (Int × Int))} {h : Int × Int} {k : Nat} (hk : k < ss.length) : (seatStep ss h)[k]? = ss[k]? := by
  unfold seatStep
  rw [List.append_assoc, List.getElem?_append_left hk]
theorem seatStep_at {ss : List (Option (Int × Int))} {h : Int × Int} (h1 : (ss.length : Int) ≤ h.1) : (seatStep ss h)[ss.length]? = some (some h) := by
  unfold seatStep
  have hl : (ss ++ List.replicate (h.1 + 1 - ss.length).toNat (some h)).length = ss.length + (h.1 + 1 - ss.length).toNat := by simp
  rw [List.getElem?_append_left (by rw [hl]; omega), List.getElem?_append_right (Nat.le_refl _), Nat.sub_self]
  rw [List.getElem?_replicate, if_pos (by omega)]
theorem fold_old : ∀ {hits : List (Int × Int)} {ss : List (Option (Int × Int))} {k : Nat}, k < ss.length → (hits.foldl seatStep ss)[k]? = ss[k]?
  | [], _, _, _ => rfl
  | a :: t, ss, k, hk => by
    rw [List.foldl_cons, fold_old (by unfold seatStep; rw [List.length_append, List.length_append]; omega), seatStep_old hk]
theorem seats_at : ∀ {hits : List (Int × Int)} {ss : List (Option (Int × Int))} {k : Nat} {x : Int × Int}, Incr (ss.length : Int) hits → hits[k]? = some x → (hits.foldl seatStep ss)[x.2.toNat]? = (hits[k + 1]?).map some
  | [], _, _, _, _, h => by simp at h
  | a :: t, ss, 0, x, hi, h => by
    simp at h; subst h
    have e := seatStep_len hi.1 hi.2.1
    rw [List.foldl_cons]
    cases t with
    | nil =>
      simp only [List.foldl_nil, List.getElem?_cons_succ, List.getElem?_nil, Option.map_none]
      exact List.getElem?_eq_none (by omega)
    | cons b t =>
      have e2 : a.2.toNat = (seatStep ss a).length := by omega
      have hb := hi.2.2
      rw [List.foldl_cons, e2, fold_old (by
        have := seatStep_len (ss := seatStep ss a) (h := b) (by rw [e]; exact hb.1) hb.2.1
        have := hb.1; have := hb.2.1
        omega), seatStep_at (by rw [e]; exact hb.1)]
      rfl
  | a :: t, ss, k + 1, x, hi, h => by
    have e := seatStep_len hi.1 hi.2.1
    rw [List.foldl_cons, seats_at (ss := seatStep ss a) (k := k) (by rw [e]; exact hi.2.2) (by simpa using h)]
    simp
theorem seats_zero : ∀ {hits : List (Int × Int)}, Incr 0 hits → (seatsP hits)[0]? = (hits[0]?).map some
  | [], _ => rfl
  | a :: t, hi => by
    have e := seatStep_len (ss := []) (h := a) (by simpa using hi.1) hi.2.1
    unfold seatsP
    rw [List.foldl_cons, fold_old (by have := hi.1; have := hi.2.1; omega)]
    exact seatStep_at (ss := []) (by simpa using hi.1)
end Mine
end

section
open PySem PySem.W PyProof.Rows
set_option maxRecDepth 100000
set_option maxHeartbeats 2400000
namespace Mine
theorem reg_Items_1 : True := by
  w_top off
  k_with_none
  k_with "my omega" => first
      | with_reducible assumption
      | decide
      | ((fail_if_success (fail_if_success omega (config := {})))
         first
           | k_extra "my om"
           | k_extra "my big"
           | omega (config := {}))
  k_with "my om" => first
      | (with_reducible refine' rm0 ?h; (case h => with_reducible assumption))
      | (with_reducible refine' rm1 ?h ?e; (case h => with_reducible assumption); (case e => decide))
      | (with_reducible refine' rm2 ?h ?e; (case h => with_reducible assumption); (case e => decide))
      | (with_reducible refine' rm3 ?h ?e; (case h => with_reducible assumption); (case e => decide))
      | (with_reducible refine' bd1 ?h ?e; (case h => with_reducible assumption); (case e => decide))
      | (with_reducible refine' bd3 ?h ?e; (case h => with_reducible assumption); (case e => decide))
      | (with_reducible refine' bd4 ?h ?e; (case h => with_reducible assumption); (case e => decide))
      | (with_reducible refine' bz1 ?h ?e; (case h => walk_at "lt"); (case e => decide))
      | (with_reducible refine' bz3 ?h ?e; (case h => walk_at "lt"); (case e => decide))
      | (with_reducible refine' bd2 ?q ?h ?e; (case q => with_reducible assumption); (case h => with_reducible assumption); (case e => decide))
      | walk_at "lt2"
      | (with_reducible refine Nat.le_of_lt ?_; walk_at "lt2")
      | (with_reducible refine Nat.ne_of_lt ?_; walk_at "lt2")
      | (with_reducible refine Nat.ne_of_gt ?_; walk_at "lt2")
      | ((with_reducible refine And.intro ?_ ?_) <;> k_extra "my omega")
      | (with_reducible refine' Nat.lt_trans ?a ?b; (case b => with_reducible assumption); (case a => walk_at "lt2"))
      | (with_reducible refine' Nat.lt_trans ?a ?b; (case a => with_reducible assumption); (case b => walk_at "lt2"))
      | (with_reducible refine' Nat.lt_of_le_of_lt ?a ?b; (case b => with_reducible assumption); (case a => walk_at "lt2"))
      | (with_reducible refine' Nat.lt_of_le_of_lt ?a ?b; (case a => with_reducible assumption); (case b => walk_at "lt2"))
      | (with_reducible refine' Nat.lt_of_lt_of_le ?a ?b; (case b => with_reducible assumption); (case a => walk_at "lt2"))
      | (with_reducible refine' Nat.lt_of_lt_of_le ?a ?b; (case a => with_reducible assumption); (case b => walk_at "lt2"))
      | (with_reducible refine' Nat.le_trans ?a ?b; (case b => with_reducible assumption); (case a => walk_at "lt2"))
      | (with_reducible refine' Nat.le_trans ?a ?b; (case a => with_reducible assumption); (case b => walk_at "lt2"))
  k_with "my lt" => first
      | with_reducible assumption
      | (refine' And.left ?h; (case h => with_reducible assumption))
      | (refine' And.left (And.right ?h); (case h => with_reducible assumption))
      | (refine' And.left (And.right (And.right ?h)); (case h => with_reducible assumption))
      | (refine' And.left (And.right (And.right (And.right ?h))); (case h => with_reducible assumption))
      | (refine' And.left (And.right (And.right (And.right (And.right ?h)))); (case h => with_reducible assumption))
      | (refine' And.left (And.right (And.right (And.right (And.right (And.right ?h))))); (case h => with_reducible assumption))
      | (refine' And.left (And.right (And.right (And.right (And.right (And.right (And.right ?h)))))); (case h => with_reducible assumption))
      | (refine' And.left (And.right (And.right (And.right (And.right (And.right (And.right (And.right ?h))))))); (case h => with_reducible assumption))
      | (refine' And.left (And.right (And.right (And.right (And.right (And.right (And.right (And.right (And.right ?h)))))))); (case h => with_reducible assumption))
      | (refine' And.left (And.right (And.right (And.right (And.right (And.right (And.right (And.right (And.right (And.right ?h))))))))); (case h => with_reducible assumption))
      | (refine' And.left (And.right (And.right (And.right (And.right (And.right (And.right (And.right (And.right (And.right (And.right ?h)))))))))); (case h => with_reducible assumption))
  k_with "my lt2" => first
      | walk_at "lt"
      | (with_reducible exact ad1)
      | (with_reducible exact ad2)
      | (with_reducible exact ad3)
      | (with_reducible exact ad4)
      | (with_reducible refine ar1 ?_; walk_at "lt")
      | (with_reducible refine ar2 ?_; walk_at "lt")
      | (with_reducible refine ar3 ?_; walk_at "lt")
      | (with_reducible refine ar4 ?_; walk_at "lt")
      | (with_reducible refine as1 ?_; walk_at "lt")
      | (with_reducible refine as2 ?_; walk_at "lt")
      | (with_reducible refine as3 ?_; walk_at "lt")
      | (with_reducible refine as4 ?_; walk_at "lt")
  k_with "my ar" => ((try dsimp only); first
      | with_reducible exact Nat.le_refl _
      | walk_at "lt2"
      | (refine Nat.le_of_lt ?_; walk_at "lt2")
      | (refine Nat.ne_of_lt ?_; walk_at "lt2")
      | (refine Nat.ne_of_gt ?_; walk_at "lt2")
      | k_extra "my ar2"
      | omega)
  k_with "my k_ne" => (refine neN ?_; (try dsimp only); first
      | with_reducible assumption
      | (refine Ne.symm ?_; with_reducible assumption)
      | (refine Nat.ne_of_lt ?_; walk_at "lt")
      | (refine Nat.ne_of_gt ?_; walk_at "lt")
      | omega)
  trivial
inductive Word where
  | place (line col : Int)
  | noPlace
  | noValue
  | noEq
noncomputable def Word.dat : Word → Dat
  | .place l c => .tuple [.int l, .int c]
  | .noPlace => .str (PySem.Str.ofString "no place")
  | .noValue => .str (PySem.Str.ofString "no value")
  | .noEq => .str (PySem.Str.ofString "no equals sign")
structure Item where
  key : Str
  first : Int
  behind : Int
  word : Word
noncomputable def Item.dat (it : Item) : Dat := .tuple [.str it.key, .int it.first, .int it.behind, it.word.dat]
noncomputable def pairD (h : Int × Int) : Dat := .tuple [.int h.1, .int h.2]
noncomputable def hitsOf (key : Str) (items : List Item) : List (Int × Int) := (items.filter fun it => decide (it.key = key)).map fun it => (it.first, it.behind)
theorem datIn_item {news : List (Addr × Obj)} {v : Value} {it : Item} (h : DatIn news v it.dat) : ∃ a n t t1 t2 u, v = .ref a ∧ (a, ({ cls := .type "tuple", data := .seq #[.str it.key t, .int it.first t1, .int it.behind t2, u] n } : Obj)) ∈ news ∧ DatIn news u it.word.dat := by
  unfold Item.dat at h
  obtain ⟨a, vs, n, rfl, hm, h⟩ := inv_tuple h
  obtain ⟨v1, us, rfl, h1, h⟩ := inv_cons h
  obtain ⟨v2, v3, v4, rfl, h2, h3, h4⟩ := inv3 h
  obtain ⟨t, rfl⟩ := inv_str h1
  obtain ⟨t1, rfl⟩ := inv_int h2
  obtain ⟨t2, rfl⟩ := inv_int h3
  exact ⟨_, _, _, _, _, _, rfl, hm, h4⟩
theorem datAll_at {news : List (Addr × Obj)} {vs : List Value} {items : List Item} {i : Nat} {v : Value} (h : DatAll news vs (items.map Item.dat)) (hv : vs[i]? = some v) : ∃ it, items[i]? = some it ∧ DatIn news v it.dat := by
  have hi : i < vs.length := (List.getElem?_eq_some_iff.mp hv).1
  have hl := h.length
  obtain ⟨v', e1, e2⟩ := h.get (k := i) (by rw [← hl]; exact hi)
  rw [hv] at e1; cases e1
  rw [List.getElem_map] at e2
  exact ⟨_, List.getElem?_eq_getElem (by rw [List.length_map] at hl; omega), e2⟩
theorem hitsOf_yes {key : Str} {items : List Item} {i : Nat} {it : Item} (h : items[i]? = some it) (hk : it.key = key) : hitsOf key (items.take (i + 1)) = hitsOf key (items.take i) ++ [(it.first, it.behind)] := by
  unfold hitsOf; rw [List.take_add_one, h]; simp [hk]
theorem hitsOf_no {key : Str} {items : List Item} {i : Nat} {it : Item} (h : items[i]? = some it) (hk : ¬ it.key = key) : hitsOf key (items.take (i + 1)) = hitsOf key (items.take i) := by
  unfold hitsOf; rw [List.take_add_one, h]; simp [hk]
theorem datIn_pair {news : List (Addr × Obj)} {v : Value} {x : Int × Int} (h : DatIn news v (pairD x)) : ∃ a n t1 t2, v = .ref a ∧ (a, ({ cls := .type "tuple", data := .seq #[.int x.1 t1, .int x.2 t2] n } : Obj)) ∈ news := by
  obtain ⟨a, vs, n, rfl, hm, h⟩ := inv_tuple h
  obtain ⟨v1, v2, rfl, h1, h2⟩ := inv2 h
  obtain ⟨t1, rfl⟩ := inv_int h1
  obtain ⟨t2, rfl⟩ := inv_int h2
  exact ⟨_, _, _, _, rfl, hm⟩
theorem datAll_pair {news : List (Addr × Obj)} {vs : List Value} {hits : List (Int × Int)} {i : Nat} {v : Value} (h : DatAll news vs (hits.map pairD)) (hv : vs[i]? = some v) : ∃ x, hits[i]? = some x ∧ DatIn news v (pairD x) := by
  have hi : i < vs.length := (List.getElem?_eq_some_iff.mp hv).1
  have hl := h.length
  obtain ⟨v', e1, e2⟩ := h.get (k := i) (by rw [← hl]; exact hi)
  rw [hv] at e1; cases e1
  rw [List.getElem_map] at e2
  exact ⟨_, List.getElem?_eq_getElem (by rw [List.length_map] at hl; omega), e2⟩
end Mine
end

section
open PySem PySem.W PyProof.Rows
set_option maxRecDepth 100000
set_option maxHeartbeats 8000000
namespace Mine
/-- a plain datum comes back, all of it new -/
noncomputable def RetF (news : List (Addr × Obj)) (d : Dat) (nx : List (Addr × Obj)) (r : Value) : Prop := ∃ tl, nx = news ++ tl ∧ (∀ q ∈ news, ∀ p ∈ tl, q.1 < p.1) ∧ DatIn tl r d
theorem ret_fullF {news full front : List (Addr × Obj)} {h₀ h' : Heap} {L : Addr} {m : Str → Option Value} {s : Shared} {Q : Value → Shared → Prop} {d : Dat} {r : Value} {tk' : Nat}
    (hret : ∀ r nx h' tk', Fr h₀ L h' m → News h₀ L h' nx → RetF news d nx r → Q r { s with heap := h', toks := tk' })
    (F : Fr h₀ L h' m) (N : News h₀ L h' full) (hf : full = front ++ news) (hlt : ∀ p ∈ front, ∀ q ∈ news, q.1 < p.1) (hD : DatIn front r d) : Q r { s with heap := h', toks := tk' } := by
  subst hf
  exact hret r _ h' tk' F (news_front N) ⟨front, rfl, fun q hq p hp => hlt p hp q hq, hD⟩
noncomputable abbrev iStyle (n : Int) : Int := Int.fmod (Int.fdiv n 2) 8
noncomputable abbrev iLine (n : Int) : Int := Int.fmod (Int.fdiv n 16) 4 + 1
noncomputable abbrev iCol (n : Int) : Int := Int.fmod (Int.fdiv n 64) 28
noncomputable abbrev iAB (n : Int) : Str := Txt.item (PySem.Str.ofString "ab") (Int.fmod n 2)
noncomputable abbrev tI (i : Int) : Str := PySem.Str.ofString (toString i)
noncomputable def itemText (n : Int) : Str :=
  if iStyle n = 0 then iAB n ++ (PySem.Str.ofString "=\"" ++ tI (iLine n) ++ PySem.Str.ofString "." ++ tI (iCol n) ++ PySem.Str.ofString "\"")
  else if iStyle n = 1 then iAB n ++ (PySem.Str.ofString "=" ++ tI (iLine n) ++ PySem.Str.ofString "." ++ tI (iCol n))
  else if iStyle n = 2 then iAB n ++ (PySem.Str.ofString "=\"" ++ tI (iLine n) ++ PySem.Str.ofString "\\." ++ tI (iCol n) ++ PySem.Str.ofString "\"")
  else if iStyle n = 3 then iAB n ++ (PySem.Str.ofString "=\" " ++ tI (iLine n) ++ PySem.Str.ofString ".0" ++ tI (iCol n) ++ PySem.Str.ofString "\"")
  else if iStyle n = 4 then iAB n ++ (PySem.Str.ofString "=+" ++ tI (iLine n) ++ PySem.Str.ofString ".+" ++ tI (iCol n))
  else if iStyle n = 5 then PySem.Str.ofString "c" ++ (PySem.Str.ofString "=\"" ++ tI (iLine n) ++ PySem.Str.ofString "," ++ tI (iCol n) ++ PySem.Str.ofString "\"")
  else if iStyle n = 6 then iAB n ++ (PySem.Str.ofString "=\"" ++ tI (iLine n) ++ PySem.Str.ofString "\"")
  else if Int.fmod (iCol n) 2 = 1 then iAB n ++ PySem.Str.ofString "="
  else iAB n
noncomputable def itemWord (n : Int) : Word :=
  if iStyle n < 6 then .place (iLine n) (iCol n) else if iStyle n = 6 then .noPlace else if Int.fmod (iCol n) 2 = 1 then .noValue else .noEq
noncomputable def itemDat (n : Int) : Dat := .tuple [.str (itemText n), (itemWord n).dat]

theorem itemDat_0 {n : Int} (h : Int.fmod (Int.fdiv n 2) 8 = 0) : itemDat n = .tuple [.str (iAB n ++ (PySem.Str.ofString "=\"" ++ tI (iLine n) ++ PySem.Str.ofString "." ++ tI (iCol n) ++ PySem.Str.ofString "\"")), .tuple [.int (iLine n), .int (iCol n)]] := by
  simp [itemDat, itemText, itemWord, h, Word.dat]
theorem itemDat_1 {n : Int} (h : Int.fmod (Int.fdiv n 2) 8 = 1) : itemDat n = .tuple [.str (iAB n ++ (PySem.Str.ofString "=" ++ tI (iLine n) ++ PySem.Str.ofString "." ++ tI (iCol n))), .tuple [.int (iLine n), .int (iCol n)]] := by
  simp [itemDat, itemText, itemWord, h, Word.dat]
theorem itemDat_2 {n : Int} (h : Int.fmod (Int.fdiv n 2) 8 = 2) : itemDat n = .tuple [.str (iAB n ++ (PySem.Str.ofString "=\"" ++ tI (iLine n) ++ PySem.Str.ofString "\\." ++ tI (iCol n) ++ PySem.Str.ofString "\"")), .tuple [.int (iLine n), .int (iCol n)]] := by
  simp [itemDat, itemText, itemWord, h, Word.dat]
theorem itemDat_3 {n : Int} (h : Int.fmod (Int.fdiv n 2) 8 = 3) : itemDat n = .tuple [.str (iAB n ++ (PySem.Str.ofString "=\" " ++ tI (iLine n) ++ PySem.Str.ofString ".0" ++ tI (iCol n) ++ PySem.Str.ofString "\"")), .tuple [.int (iLine n), .int (iCol n)]] := by
  simp [itemDat, itemText, itemWord, h, Word.dat]
theorem itemDat_4 {n : Int} (h : Int.fmod (Int.fdiv n 2) 8 = 4) : itemDat n = .tuple [.str (iAB n ++ (PySem.Str.ofString "=+" ++ tI (iLine n) ++ PySem.Str.ofString ".+" ++ tI (iCol n))), .tuple [.int (iLine n), .int (iCol n)]] := by
  simp [itemDat, itemText, itemWord, h, Word.dat]
theorem itemDat_5 {n : Int} (h : Int.fmod (Int.fdiv n 2) 8 = 5) : itemDat n = .tuple [.str (PySem.Str.ofString "c" ++ (PySem.Str.ofString "=\"" ++ tI (iLine n) ++ PySem.Str.ofString "," ++ tI (iCol n) ++ PySem.Str.ofString "\"")), .tuple [.int (iLine n), .int (iCol n)]] := by
  simp [itemDat, itemText, itemWord, h, Word.dat]
theorem itemDat_6 {n : Int} (h : Int.fmod (Int.fdiv n 2) 8 = 6) : itemDat n = .tuple [.str (iAB n ++ (PySem.Str.ofString "=\"" ++ tI (iLine n) ++ PySem.Str.ofString "\"")), .str (PySem.Str.ofString "no place")] := by
  simp [itemDat, itemText, itemWord, h, Word.dat]
theorem itemDat_7 {n : Int} (h : ¬ Int.fmod (Int.fdiv n 2) 8 < 6) (h' : ¬ Int.fmod (Int.fdiv n 2) 8 = 6) (hc : Int.fmod (Int.fmod (Int.fdiv n 64) 28) 2 = 1) : itemDat n = .tuple [.str (iAB n ++ PySem.Str.ofString "="), .str (PySem.Str.ofString "no value")] := by
  have a0 : ¬ Int.fmod (Int.fdiv n 2) 8 = 0 := by omega
  have a1 : ¬ Int.fmod (Int.fdiv n 2) 8 = 1 := by omega
  have a2 : ¬ Int.fmod (Int.fdiv n 2) 8 = 2 := by omega
  have a3 : ¬ Int.fmod (Int.fdiv n 2) 8 = 3 := by omega
  have a4 : ¬ Int.fmod (Int.fdiv n 2) 8 = 4 := by omega
  have a5 : ¬ Int.fmod (Int.fdiv n 2) 8 = 5 := by omega
  simp only [itemDat, itemText, itemWord, iStyle, iCol, h, h', a0, a1, a2, a3, a4, a5, hc, if_true, if_false, Word.dat]
theorem itemDat_8 {n : Int} (h : ¬ Int.fmod (Int.fdiv n 2) 8 < 6) (h' : ¬ Int.fmod (Int.fdiv n 2) 8 = 6) (hc : ¬ Int.fmod (Int.fmod (Int.fdiv n 64) 28) 2 = 1) : itemDat n = .tuple [.str (iAB n), .str (PySem.Str.ofString "no equals sign")] := by
  have a0 : ¬ Int.fmod (Int.fdiv n 2) 8 = 0 := by omega
  have a1 : ¬ Int.fmod (Int.fdiv n 2) 8 = 1 := by omega
  have a2 : ¬ Int.fmod (Int.fdiv n 2) 8 = 2 := by omega
  have a3 : ¬ Int.fmod (Int.fdiv n 2) 8 = 3 := by omega
  have a4 : ¬ Int.fmod (Int.fdiv n 2) 8 = 4 := by omega
  have a5 : ¬ Int.fmod (Int.fdiv n 2) 8 = 5 := by omega
  simp only [itemDat, itemText, itemWord, iStyle, iCol, h, h', a0, a1, a2, a3, a4, a5, hc, if_true, if_false, Word.dat]
theorem line_bd (n : Int) : 0 ≤ Int.fmod (Int.fdiv n 16) 4 + 1 ∧ Int.fmod (Int.fdiv n 16) 4 + 1 < 10 ^ 10 := by
  have h1 := Int.fmod_nonneg_of_pos (Int.fdiv n 16) (b := 4) (by decide)
  have h2 := Int.fmod_lt_of_pos (Int.fdiv n 16) (b := 4) (by decide)
  omega
theorem col_bd (n : Int) : 0 ≤ Int.fmod (Int.fdiv n 64) 28 ∧ Int.fmod (Int.fdiv n 64) 28 < 10 ^ 10 := by
  have h1 := Int.fmod_nonneg_of_pos (Int.fdiv n 64) (b := 28) (by decide)
  have h2 := Int.fmod_lt_of_pos (Int.fdiv n 64) (b := 28) (by decide)
  omega
theorem style_cases (n : Int) (h : Int.fmod (Int.fdiv n 2) 8 < 6) : Int.fmod (Int.fdiv n 2) 8 = 0 ∨ Int.fmod (Int.fdiv n 2) 8 = 1 ∨ Int.fmod (Int.fdiv n 2) 8 = 2 ∨ Int.fmod (Int.fdiv n 2) 8 = 3 ∨ Int.fmod (Int.fdiv n 2) 8 = 4 ∨ Int.fmod (Int.fdiv n 2) 8 = 5 := by
  have h1 := Int.fmod_nonneg_of_pos (Int.fdiv n 2) (b := 8) (by decide)
  omega

theorem reg_Item_1 : True := by
  w_top off
  k_with_none
  k_with "my big" => lia
  k_with "my omega" => first
      | with_reducible assumption
      | decide
      | ((fail_if_success (fail_if_success omega (config := {})))
         first
           | k_extra "my om"
           | k_extra "my big"
           | omega (config := {}))
  k_with "my om" => first
      | (with_reducible refine' rm0 ?h; (case h => with_reducible assumption))
      | (with_reducible refine' rm1 ?h ?e; (case h => with_reducible assumption); (case e => decide))
      | (with_reducible refine' rm2 ?h ?e; (case h => with_reducible assumption); (case e => decide))
      | (with_reducible refine' rm3 ?h ?e; (case h => with_reducible assumption); (case e => decide))
      | (with_reducible refine' bd1 ?h ?e; (case h => with_reducible assumption); (case e => decide))
      | (with_reducible refine' bd3 ?h ?e; (case h => with_reducible assumption); (case e => decide))
      | (with_reducible refine' bd4 ?h ?e; (case h => with_reducible assumption); (case e => decide))
      | (with_reducible refine' bz1 ?h ?e; (case h => walk_at "lt"); (case e => decide))
      | (with_reducible refine' bz3 ?h ?e; (case h => walk_at "lt"); (case e => decide))
      | (with_reducible refine' bd2 ?q ?h ?e; (case q => with_reducible assumption); (case h => with_reducible assumption); (case e => decide))
      | walk_at "lt2"
      | (with_reducible refine Nat.le_of_lt ?_; walk_at "lt2")
      | (with_reducible refine Nat.ne_of_lt ?_; walk_at "lt2")
      | (with_reducible refine Nat.ne_of_gt ?_; walk_at "lt2")
      | ((with_reducible refine And.intro ?_ ?_) <;> k_extra "my omega")
      | (with_reducible refine' Nat.lt_trans ?a ?b; (case b => with_reducible assumption); (case a => walk_at "lt2"))
      | (with_reducible refine' Nat.lt_trans ?a ?b; (case a => with_reducible assumption); (case b => walk_at "lt2"))
      | (with_reducible refine' Nat.lt_of_le_of_lt ?a ?b; (case b => with_reducible assumption); (case a => walk_at "lt2"))
      | (with_reducible refine' Nat.lt_of_le_of_lt ?a ?b; (case a => with_reducible assumption); (case b => walk_at "lt2"))
      | (with_reducible refine' Nat.lt_of_lt_of_le ?a ?b; (case b => with_reducible assumption); (case a => walk_at "lt2"))
      | (with_reducible refine' Nat.lt_of_lt_of_le ?a ?b; (case a => with_reducible assumption); (case b => walk_at "lt2"))
      | (with_reducible refine' Nat.le_trans ?a ?b; (case b => with_reducible assumption); (case a => walk_at "lt2"))
      | (with_reducible refine' Nat.le_trans ?a ?b; (case a => with_reducible assumption); (case b => walk_at "lt2"))
  k_with "my lt" => first
      | with_reducible assumption
      | (refine' And.left ?h; (case h => with_reducible assumption))
      | (refine' And.left (And.right ?h); (case h => with_reducible assumption))
      | (refine' And.left (And.right (And.right ?h)); (case h => with_reducible assumption))
      | (refine' And.left (And.right (And.right (And.right ?h))); (case h => with_reducible assumption))
      | (refine' And.left (And.right (And.right (And.right (And.right ?h)))); (case h => with_reducible assumption))
      | (refine' And.left (And.right (And.right (And.right (And.right (And.right ?h))))); (case h => with_reducible assumption))
      | (refine' And.left (And.right (And.right (And.right (And.right (And.right (And.right ?h)))))); (case h => with_reducible assumption))
      | (refine' And.left (And.right (And.right (And.right (And.right (And.right (And.right (And.right ?h))))))); (case h => with_reducible assumption))
      | (refine' And.left (And.right (And.right (And.right (And.right (And.right (And.right (And.right (And.right ?h)))))))); (case h => with_reducible assumption))
      | (refine' And.left (And.right (And.right (And.right (And.right (And.right (And.right (And.right (And.right (And.right ?h))))))))); (case h => with_reducible assumption))
      | (refine' And.left (And.right (And.right (And.right (And.right (And.right (And.right (And.right (And.right (And.right (And.right ?h)))))))))); (case h => with_reducible assumption))
  k_with "my lt2" => first
      | walk_at "lt"
      | (with_reducible exact ad1)
      | (with_reducible exact ad2)
      | (with_reducible exact ad3)
      | (with_reducible exact ad4)
      | (with_reducible refine ar1 ?_; walk_at "lt")
      | (with_reducible refine ar2 ?_; walk_at "lt")
      | (with_reducible refine ar3 ?_; walk_at "lt")
      | (with_reducible refine ar4 ?_; walk_at "lt")
      | (with_reducible refine as1 ?_; walk_at "lt")
      | (with_reducible refine as2 ?_; walk_at "lt")
      | (with_reducible refine as3 ?_; walk_at "lt")
      | (with_reducible refine as4 ?_; walk_at "lt")
  k_with "my ar" => ((try dsimp only); first
      | with_reducible exact Nat.le_refl _
      | walk_at "lt2"
      | (refine Nat.le_of_lt ?_; walk_at "lt2")
      | (refine Nat.ne_of_lt ?_; walk_at "lt2")
      | (refine Nat.ne_of_gt ?_; walk_at "lt2")
      | k_extra "my ar2"
      | omega)
  k_with "my k_ne" => (refine neN ?_; (try dsimp only); first
      | with_reducible assumption
      | (refine Ne.symm ?_; with_reducible assumption)
      | (refine Nat.ne_of_lt ?_; walk_at "lt")
      | (refine Nat.ne_of_gt ?_; walk_at "lt")
      | omega)
  k_with "my binaryOp Mod str int" => (k_here; refine' fmtI (line_bd _).1 (line_bd _).2 ?_; intro _ _)
  k_with "my binaryOp Mod str ref" => (k_here; (with_reducible show wpAny _ _ (binaryOp Operator.Mod (Value.str (PySem.Str.ofString "=\"%d.%d\"") _) (Value.ref _)) _ _ _); k_dflt (refine' fmt0 ?kN ?kM (line_bd _).1 (line_bd _).2 (col_bd _).1 (col_bd _).2 ?_; (case kN => k_asm); (case kM => k_mem)); intro _ _)
  k_with "my binaryOp Mod str ref" => (k_here; (with_reducible show wpAny _ _ (binaryOp Operator.Mod (Value.str (PySem.Str.ofString "=%d.%d") _) (Value.ref _)) _ _ _); k_dflt (refine' fmt1 ?kN ?kM (line_bd _).1 (line_bd _).2 (col_bd _).1 (col_bd _).2 ?_; (case kN => k_asm); (case kM => k_mem)); intro _ _)
  k_with "my binaryOp Mod str ref" => (k_here; (with_reducible show wpAny _ _ (binaryOp Operator.Mod (Value.str (PySem.Str.ofString "=\"%d\\.%d\"") _) (Value.ref _)) _ _ _); k_dflt (refine' fmt2 ?kN ?kM (line_bd _).1 (line_bd _).2 (col_bd _).1 (col_bd _).2 ?_; (case kN => k_asm); (case kM => k_mem)); intro _ _)
  k_with "my binaryOp Mod str ref" => (k_here; (with_reducible show wpAny _ _ (binaryOp Operator.Mod (Value.str (PySem.Str.ofString "=\" %d.0%d\"") _) (Value.ref _)) _ _ _); k_dflt (refine' fmt3 ?kN ?kM (line_bd _).1 (line_bd _).2 (col_bd _).1 (col_bd _).2 ?_; (case kN => k_asm); (case kM => k_mem)); intro _ _)
  k_with "my binaryOp Mod str ref" => (k_here; (with_reducible show wpAny _ _ (binaryOp Operator.Mod (Value.str (PySem.Str.ofString "=+%d.+%d") _) (Value.ref _)) _ _ _); k_dflt (refine' fmt4 ?kN ?kM (line_bd _).1 (line_bd _).2 (col_bd _).1 (col_bd _).2 ?_; (case kN => k_asm); (case kM => k_mem)); intro _ _)
  k_with "my binaryOp Mod str ref" => (k_here; (with_reducible show wpAny _ _ (binaryOp Operator.Mod (Value.str (PySem.Str.ofString "=\"%d,%d\"") _) (Value.ref _)) _ _ _); k_dflt (refine' fmt5 ?kN ?kM (line_bd _).1 (line_bd _).2 (col_bd _).1 (col_bd _).2 ?_; (case kN => k_asm); (case kM => k_mem)); intro _ _)
  k_with "my lt one" => first | exact allLt_of (by assumption) | assumption | exact And.right (by assumption) | exact And.right (And.right (by assumption)) | exact And.right (And.right (And.right (by assumption))) | exact And.right (And.right (And.right (And.right (by assumption)))) | exact And.right (And.right (And.right (And.right (And.right (by assumption))))) | exact And.right (And.right (And.right (And.right (And.right (And.right (by assumption))))))
  k_with "my lt all" => repeat' (first | exact lt_nil | (refine lt_cons ?_ ?_; (walk_at "lt one")))
  trivial
theorem item_tells {w : World} (n : Int) (tn : Tok) (news : List (Addr × Obj)) : Tells w 47 1 [.int n tn] news (RetF news (itemDat n)) := by
  revert w n tn news
  refine no_implicit_lambda% (closedW ?_)
  with_reducible generalize wit _ _ = w
  refine no_implicit_lambda% (closed3 ?_)
  with_reducible generalize wit _ _ = tQ
  with_reducible generalize Prod.fst (tQ) = n
  with_reducible generalize Prod.fst (Prod.snd (tQ)) = tn
  with_reducible generalize Prod.snd (Prod.snd (tQ)) = news
  clear tQ
  refine tells_close ?_
  unfold TellsAt
  with_reducible generalize TV.p _ = p
  with_reducible generalize TV.loose _ = loose
  with_reducible generalize TV.mean _ = mean
  with_reducible generalize TV.mg _ = mg
  with_reducible generalize TV.mb _ = mb
  with_reducible generalize TV.dp _ = dp
  with_reducible generalize TV.un _ = un
  with_reducible generalize TV.gd _ = gd
  with_reducible generalize TV.cn _ = cn
  with_reducible generalize TV.cs _ = cs
  with_reducible generalize TV.a _ = a
  with_reducible generalize TV.ccd _ = ccd
  with_reducible generalize TV.cl _ = cl
  with_reducible generalize TV.outer _ = outer
  with_reducible generalize TV.A₀ _ = A₀
  with_reducible generalize TV.base _ = base
  with_reducible generalize TV.h₀ _ = h₀
  with_reducible generalize TV.L _ = L
  with_reducible generalize TV.m _ = m
  with_reducible generalize TV.s _ = s
  with_reducible generalize TV.Q _ = Q
  with_reducible generalize TV.E _ = E
  k_fill
  intro X B F N T hk hdp hun hret
  refine wpAny_call ?_
  k_dflt cell_enter
  rename_i yA35 yA36 yA37 yA38 yA39 yA40 yA41 yA42 yA43
  dsimp only [qk, ek]
  clear ek qk
  revert yA38 yA39 yA40 yA41 yA42 yA43
  revert yA35 yA36 yA37
  refine no_implicit_lambda% (closed3 ?_)
  with_reducible generalize wit _ _ = tQ
  with_reducible generalize Prod.fst (tQ) = yA35
  with_reducible generalize Prod.fst (Prod.snd (tQ)) = yA36
  with_reducible generalize Prod.snd (Prod.snd (tQ)) = yA37
  clear tQ
  intro _ _ _ _ _ _
  k_steps
  · have hz : Int.fmod (Int.fdiv n 2) 8 = 5 := by assumption
    refine' list_item ?k1 ?k2 ?k3 ?k4 ?k5 ?_ ?k6; (case k1 => k_asm); (case k2 => k_mem); (case k3 => omega); (case k4 => omega); (case k5 => rw [hz]; rfl); (case k6 => with_unfolding_all rfl)
    k_steps
    rw [itemDat_5 hz] at hret
    refine' ret_fullF (front := [_, _, _, _, _, _]) hret ?kF ?kN ?kf ?_ ?_; (case kF => with_reducible assumption); (case kN => with_reducible assumption); (case kf => exact rfl)
    · walk_at "lt all"
    · exact dat_pair (by k_mem) (.str _ _) (dat_pair (by k_mem) (.int _ _) (.int _ _))
  · rcases style_cases n (by assumption) with hz | hz | hz | hz | hz | hz
    rotate_left 5
    · exact absurd hz (by assumption)
    all_goals (refine' list_item ?k1 ?k2 ?k3 ?k4 ?k5 ?_ ?k6; (case k1 => k_asm); (case k2 => k_mem); (case k3 => rw [hz]; decide); (case k4 => rw [hz]; decide); (case k5 => rw [hz]; rfl); (case k6 => with_unfolding_all rfl))
    all_goals k_steps
    all_goals first | rw [itemDat_0 hz] at hret | rw [itemDat_1 hz] at hret | rw [itemDat_2 hz] at hret | rw [itemDat_3 hz] at hret | rw [itemDat_4 hz] at hret
    all_goals (refine' ret_fullF (front := [_, _, _, _, _, _]) hret ?kF ?kN ?kf ?_ ?_; (case kF => with_reducible assumption); (case kN => with_reducible assumption); (case kf => exact rfl); (walk_at "lt all"); exact dat_pair (by k_mem) (.str _ _) (dat_pair (by k_mem) (.int _ _) (.int _ _)))
  · rw [itemDat_6 (by assumption)] at hret
    refine' ret_fullF (front := [_, _, _, _]) hret ?kF ?kN ?kf ?_ ?_; (case kF => with_reducible assumption); (case kN => with_reducible assumption); (case kf => exact rfl)
    · walk_at "lt all"
    · exact dat_pair (by k_mem) (.str _ _) (.str _ _)
  · rw [itemDat_7 (by assumption) (by assumption) (by assumption)] at hret
    refine' ret_fullF (front := [_, _, _, _]) hret ?kF ?kN ?kf ?_ ?_; (case kF => with_reducible assumption); (case kN => with_reducible assumption); (case kf => exact rfl)
    · walk_at "lt all"
    · exact dat_pair (by k_mem) (.str _ _) (.str _ _)
  · rw [itemDat_8 (by assumption) (by assumption) (by assumption)] at hret
    refine' ret_fullF (front := [_, _, _, _]) hret ?kF ?kN ?kf ?_ ?_; (case kF => with_reducible assumption); (case kN => with_reducible assumption); (case kf => exact rfl)
    · walk_at "lt all"
    · exact dat_pair (by k_mem) (.str _ _) (.str _ _)
end Mine
end

section
open PySem PySem.W PyProof.Rows
set_option maxRecDepth 100000
set_option maxHeartbeats 8000000
namespace Mine

theorem reg_Hit_1 : True := by
  w_top off
  k_with_none
  k_with "my big" => lia
  k_with "my omega" => first
      | with_reducible assumption
      | decide
      | ((fail_if_success (fail_if_success omega (config := {})))
         first
           | k_extra "my om"
           | k_extra "my big"
           | omega (config := {}))
  k_with "my om" => first
      | (with_reducible refine' rm0 ?h; (case h => with_reducible assumption))
      | (with_reducible refine' rm1 ?h ?e; (case h => with_reducible assumption); (case e => decide))
      | (with_reducible refine' rm2 ?h ?e; (case h => with_reducible assumption); (case e => decide))
      | (with_reducible refine' rm3 ?h ?e; (case h => with_reducible assumption); (case e => decide))
      | (with_reducible refine' bd1 ?h ?e; (case h => with_reducible assumption); (case e => decide))
      | (with_reducible refine' bd3 ?h ?e; (case h => with_reducible assumption); (case e => decide))
      | (with_reducible refine' bd4 ?h ?e; (case h => with_reducible assumption); (case e => decide))
      | (with_reducible refine' bz1 ?h ?e; (case h => walk_at "lt"); (case e => decide))
      | (with_reducible refine' bz3 ?h ?e; (case h => walk_at "lt"); (case e => decide))
      | (with_reducible refine' bd2 ?q ?h ?e; (case q => with_reducible assumption); (case h => with_reducible assumption); (case e => decide))
      | walk_at "lt2"
      | (with_reducible refine Nat.le_of_lt ?_; walk_at "lt2")
      | (with_reducible refine Nat.ne_of_lt ?_; walk_at "lt2")
      | (with_reducible refine Nat.ne_of_gt ?_; walk_at "lt2")
      | ((with_reducible refine And.intro ?_ ?_) <;> k_extra "my omega")
      | (with_reducible refine' Nat.lt_trans ?a ?b; (case b => with_reducible assumption); (case a => walk_at "lt2"))
      | (with_reducible refine' Nat.lt_trans ?a ?b; (case a => with_reducible assumption); (case b => walk_at "lt2"))
      | (with_reducible refine' Nat.lt_of_le_of_lt ?a ?b; (case b => with_reducible assumption); (case a => walk_at "lt2"))
      | (with_reducible refine' Nat.lt_of_le_of_lt ?a ?b; (case a => with_reducible assumption); (case b => walk_at "lt2"))
      | (with_reducible refine' Nat.lt_of_lt_of_le ?a ?b; (case b => with_reducible assumption); (case a => walk_at "lt2"))
      | (with_reducible refine' Nat.lt_of_lt_of_le ?a ?b; (case a => with_reducible assumption); (case b => walk_at "lt2"))
      | (with_reducible refine' Nat.le_trans ?a ?b; (case b => with_reducible assumption); (case a => walk_at "lt2"))
      | (with_reducible refine' Nat.le_trans ?a ?b; (case a => with_reducible assumption); (case b => walk_at "lt2"))
  k_with "my lt" => first
      | with_reducible assumption
      | (refine' And.left ?h; (case h => with_reducible assumption))
      | (refine' And.left (And.right ?h); (case h => with_reducible assumption))
      | (refine' And.left (And.right (And.right ?h)); (case h => with_reducible assumption))
      | (refine' And.left (And.right (And.right (And.right ?h))); (case h => with_reducible assumption))
      | (refine' And.left (And.right (And.right (And.right (And.right ?h)))); (case h => with_reducible assumption))
      | (refine' And.left (And.right (And.right (And.right (And.right (And.right ?h))))); (case h => with_reducible assumption))
      | (refine' And.left (And.right (And.right (And.right (And.right (And.right (And.right ?h)))))); (case h => with_reducible assumption))
      | (refine' And.left (And.right (And.right (And.right (And.right (And.right (And.right (And.right ?h))))))); (case h => with_reducible assumption))
      | (refine' And.left (And.right (And.right (And.right (And.right (And.right (And.right (And.right (And.right ?h)))))))); (case h => with_reducible assumption))
      | (refine' And.left (And.right (And.right (And.right (And.right (And.right (And.right (And.right (And.right (And.right ?h))))))))); (case h => with_reducible assumption))
      | (refine' And.left (And.right (And.right (And.right (And.right (And.right (And.right (And.right (And.right (And.right (And.right ?h)))))))))); (case h => with_reducible assumption))
  k_with "my lt2" => first
      | walk_at "lt"
      | (with_reducible exact ad1)
      | (with_reducible exact ad2)
      | (with_reducible exact ad3)
      | (with_reducible exact ad4)
      | (with_reducible refine ar1 ?_; walk_at "lt")
      | (with_reducible refine ar2 ?_; walk_at "lt")
      | (with_reducible refine ar3 ?_; walk_at "lt")
      | (with_reducible refine ar4 ?_; walk_at "lt")
      | (with_reducible refine as1 ?_; walk_at "lt")
      | (with_reducible refine as2 ?_; walk_at "lt")
      | (with_reducible refine as3 ?_; walk_at "lt")
      | (with_reducible refine as4 ?_; walk_at "lt")
  k_with "my ar" => ((try dsimp only); first
      | with_reducible exact Nat.le_refl _
      | walk_at "lt2"
      | (refine Nat.le_of_lt ?_; walk_at "lt2")
      | (refine Nat.ne_of_lt ?_; walk_at "lt2")
      | (refine Nat.ne_of_gt ?_; walk_at "lt2")
      | k_extra "my ar2"
      | omega)
  k_with "my k_ne" => (refine neN ?_; (try dsimp only); first
      | with_reducible assumption
      | (refine Ne.symm ?_; with_reducible assumption)
      | (refine Nat.ne_of_lt ?_; walk_at "lt")
      | (refine Nat.ne_of_gt ?_; walk_at "lt")
      | omega)
  k_with "my enter cells" => (refine' code_defC ?k1 ?k2 ?k3 ?k4 ?k5 ?kA ?kF ?kK ?k6 ?k7 ?k8 ?k9 ?kB ?kD ?_ ?c2 ?c3 ?c4; (case kA => exact rfl); (case kF => exact rfl); (case kK => assumption); (case k1 => k_asm); (case k2 => k_asm); (case k3 => k_asm); (case k4 => k_asm); (case k5 => k_asm); (case k6 => k_is); (case k7 => k_is); (case k8 => ktr_room); (case k9 => exact BindsTo.of_eq rfl); (case kB => exact rfl); (case kD => decide +kernel); (case c2 => exact rfl); (case c3 => exact rfl); (case c4 => exact rfl); k_whole; walk_at "i13")
  k_with "my k_all" => first | assumption | exact ne_above (by assumption) (by walk_at "ar")
  k_with "my setAttr ref" => (k_here; k_dflt (refine' setAttr_fn ?F ?N ?U ?c ?n ?d ?x ?_; (case F => k_asm); (case N => k_asm); (case U => k_updF); (case c => rfl); (case n => rfl); (case d => rfl); (case x => first | exact fn_no_span | exact fn_no_search); k_whole); walk_at "i7")
  trivial
noncomputable abbrev qHit : Str := (PySem.Str.ofString "_law_hit" ++ PySem.Str.ofString ".<locals>.") ++ PySem.Str.ofString "<lambda>"
/-- the table of _law_hit's code: still empty, or with its two lambdas -/
noncomputable def Tab56 (news : List (Addr × Obj)) (ps : Array Value) : Prop :=
  ps = #[] ∨ ∃ c1 c2 oc1 vs1 t1 oc2 vs2 t2, ps = #[] ++ #[rawInt ↑79, rawInt ↑10, Value.ref c1] ++ #[rawInt ↑80, rawInt ↑15, Value.ref c2] ∧
    (c1, oc1) ∈ news ∧ oc1.data = .fields vs1 ∧ vs1[1]? = some (.str qHit t1) ∧ (c2, oc2) ∈ news ∧ oc2.data = .fields vs2 ∧ vs2[1]? = some (.str qHit t2)
/-- v is a hit with the span i, j -/
noncomputable def IsHit (w : World) (news : List (Addr × Obj)) (v : Value) (i j : Int) : Prop :=
  ∃ f d tk g fd fdg slf odg slg, v = .ref f ∧ (f, (⟨.type "function", some d, .func fd, slf⟩ : Obj)) ∈ news ∧
    (d, dictOf [⟨PyData.keyHash w.params (PySem.Str.ofString "span"), .str (PySem.Str.ofString "span") tk, .ref g⟩] 1) ∈ news ∧ (g, (⟨.type "function", odg, .func fdg, slg⟩ : Obj)) ∈ news ∧
    ∀ nw, (∀ p ∈ news, p ∈ nw) → Tells w g 1 [] nw (RetD nw (.tuple [.int i, .int j]))
theorem IsHit.mono {w : World} {news news' : List (Addr × Obj)} {v : Value} {i j : Int} (hs : ∀ p ∈ news, p ∈ news') (h : IsHit w news v i j) : IsHit w news' v i j := by
  obtain ⟨f, d, tk, g, fd, fdg, slf, odg, slg, h1, h2, h3, h4, h5⟩ := h
  exact ⟨f, d, tk, g, fd, fdg, slf, odg, slg, h1, hs _ h2, hs _ h3, hs _ h4, fun nw hn => h5 nw fun p hp => hn p (hs p hp)⟩
noncomputable def RetHit (w : World) (news fz : List (Addr × Obj)) (i j : Int) (nx : List (Addr × Obj)) (r : Value) : Prop :=
  ∃ ps tl, nx = (56, tabObj ps) :: (news ++ tl) ∧ Tab56 (fz ++ tl) ps ∧ (∀ p ∈ tl, ∀ q ∈ news, q.1 < p.1) ∧ (∀ p ∈ tl, @LT.lt Nat _ 56 p.1) ∧ IsHit w (fz ++ tl) r i j
theorem ret_hit {w : World} {i j : Int} {news fz full front : List (Addr × Obj)} {ps : Array Value} {h₀ h' : Heap} {L : Addr} {m : Str → Option Value} {s : Shared} {Q : Value → Shared → Prop} {r : Value} {tk' : Nat}
    (hret : ∀ r nx h' tk', Fr h₀ L h' m → News h₀ L h' nx → RetHit w news fz i j nx r → Q r { s with heap := h', toks := tk' })
    (F : Fr h₀ L h' m) (N : News h₀ L h' full) (hf : full = front ++ (56, tabObj ps) :: news) (ht : Tab56 (fz ++ front) ps) (hlt : ∀ p ∈ front, ∀ q ∈ news, q.1 < p.1) (h56 : ∀ p ∈ front, @LT.lt Nat _ 56 p.1) (hH : IsHit w (fz ++ front) r i j) :
    Q r { s with heap := h', toks := tk' } := by
  subst hf
  exact hret r _ h' tk' F (news_tab N) ⟨ps, front, rfl, ht, hlt, h56, hH⟩
theorem all56_cons {e : Addr × Obj} {front : List (Addr × Obj)} (h1 : @LT.lt Nat _ 56 e.1) (h2 : ∀ p ∈ front, @LT.lt Nat _ 56 p.1) : ∀ p ∈ e :: front, @LT.lt Nat _ 56 p.1 := List.forall_mem_cons.mpr ⟨h1, h2⟩
theorem lt_consL {L : Addr} {e : Addr × Obj} {front news : List (Addr × Obj)} (hL : AllLt L news) (h1 : @LE.le Nat _ L e.1) (h2 : ∀ p ∈ front, ∀ q ∈ news, q.1 < p.1) : ∀ p ∈ e :: front, ∀ q ∈ news, q.1 < p.1 := by
  intro p hp
  rcases List.mem_cons.mp hp with h | hp
  · rw [h]; exact fun q hq => Nat.lt_of_lt_of_le (ktn_ltOf hL q hq) h1
  · exact h2 p hp
theorem reg_Hit_2 : True := by
  k_with "my enter lambda" => (refine' kla_code ?k1 ?k2 ?k3 ?k4 ?k5 ?kA ?kF ?kK ?k6 ?k7 ?k8 ?k9 ?kB ?_ ?c2 ?c3 ?c4 ?c5; (case kA => exact rfl); (case kF => exact rfl); (case kK => assumption); (case k1 => k_asm); (case k2 => k_asm); (case k3 => k_asm); (case k4 => k_asm); (case k5 => k_asm); (case k6 => k_mem); (case k7 => exact codeRec_news (by k_asm) (by k_mem) (by assumption) (by assumption)); (case k8 => ktr_room); (case k9 => exact rfl); (case c5 => decide); (case kB => exact locs rfl); (case c2 => exact rfl); (case c3 => exact rfl); (case c4 => exact rfl); k_whole; walk_at "i9")
  k_with "my lt one" => first | exact allLt_of (by assumption) | assumption | exact And.right (by assumption) | exact And.right (And.right (by assumption)) | exact And.right (And.right (And.right (by assumption))) | exact And.right (And.right (And.right (And.right (by assumption)))) | exact And.right (And.right (And.right (And.right (And.right (by assumption))))) | exact And.right (And.right (And.right (And.right (And.right (And.right (by assumption))))))
  trivial
theorem hit_tells {w : World} (i j : Int) (ti tj : Tok) (ps : Array Value) (news fz : List (Addr × Obj)) (hn : ∀ p ∈ news, p.1 ≠ 56) (hps : Tab56 fz ps) : Tells w 61 1 [.int i ti, .int j tj] ((56, tabObj ps) :: news) (RetHit w news fz i j) := by
  revert w i j ti tj ps news fz
  refine no_implicit_lambda% (closedW ?_)
  with_reducible generalize wit _ _ = w
  refine no_implicit_lambda% (@id (Unit → Unit → Unit → _) ?_ () () ())
  refine no_implicit_lambda% (closed10 ?_)
  with_reducible generalize wit _ _ = tQ
  with_reducible generalize Prod.fst (Prod.snd (Prod.snd (Prod.snd (tQ)))) = i
  with_reducible generalize Prod.fst (Prod.snd (Prod.snd (Prod.snd (Prod.snd (tQ))))) = j
  with_reducible generalize Prod.fst (Prod.snd (Prod.snd (Prod.snd (Prod.snd (Prod.snd (tQ)))))) = ti
  with_reducible generalize Prod.fst (Prod.snd (Prod.snd (Prod.snd (Prod.snd (Prod.snd (Prod.snd (tQ))))))) = tj
  with_reducible generalize Prod.fst (Prod.snd (Prod.snd (Prod.snd (Prod.snd (Prod.snd (Prod.snd (Prod.snd (tQ)))))))) = ps
  with_reducible generalize Prod.fst (Prod.snd (Prod.snd (Prod.snd (Prod.snd (Prod.snd (Prod.snd (Prod.snd (Prod.snd (tQ))))))))) = news
  with_reducible generalize Prod.snd (Prod.snd (Prod.snd (Prod.snd (Prod.snd (Prod.snd (Prod.snd (Prod.snd (Prod.snd (tQ))))))))) = fz
  clear tQ
  intro hn hps
  refine tells_close ?_
  unfold TellsAt
  with_reducible generalize TV.p _ = p
  with_reducible generalize TV.loose _ = loose
  with_reducible generalize TV.mean _ = mean
  with_reducible generalize TV.mg _ = mg
  with_reducible generalize TV.mb _ = mb
  with_reducible generalize TV.dp _ = dp
  with_reducible generalize TV.un _ = un
  with_reducible generalize TV.gd _ = gd
  with_reducible generalize TV.cn _ = cn
  with_reducible generalize TV.cs _ = cs
  with_reducible generalize TV.a _ = a
  with_reducible generalize TV.ccd _ = ccd
  with_reducible generalize TV.cl _ = cl
  with_reducible generalize TV.outer _ = outer
  with_reducible generalize TV.A₀ _ = A₀
  with_reducible generalize TV.base _ = base
  with_reducible generalize TV.h₀ _ = h₀
  with_reducible generalize TV.L _ = L
  with_reducible generalize TV.m _ = m
  with_reducible generalize TV.s _ = s
  with_reducible generalize TV.Q _ = Q
  with_reducible generalize TV.E _ = E
  k_fill
  rcases hps with rfl | ⟨c1, c2, oc1, vs1, t1, oc2, vs2, t2, rfl, m1, e1, e2, m2, e3, e4⟩
  all_goals intro X B F N T hk hdp hun hret
  all_goals refine wpAny_call ?_
  all_goals k_dflt (walk_at "enter cells")
  all_goals have C : CodeHd _ 60 56 := codeHd_of_K (c := 60) (P := 56) (show (Mine.hd.heap_39 w.params).In _ from by assumption) (by kernel_rfl)
  all_goals have hL : AllLt _ news := (by first | exact And.right (by assumption) | exact allLt_of (by assumption))
  all_goals k_steps
  · refine' ret_hit (front := [_, _, _, _, _, _, _]) hret ?kF ?kN ?kf ?_ ?_ ?_ ?_; (case kF => with_reducible assumption); (case kN => with_reducible assumption); (case kf => exact rfl)
    · exact .inr ⟨_, _, _, _, _, _, _, _, rfl, by k_mem, by assumption, by assumption, by k_mem, by assumption, by assumption⟩
    · repeat' (first | exact lt_nil | (refine lt_consL hL ?_ ?_; walk_at "ar"))
    · repeat' (first | exact List.forall_mem_nil _ | (refine all56_cons ?_ ?_; walk_at "ar"))
    · refine ⟨_, _, _, _, _, _, _, _, _, rfl, by k_mem, by k_mem, by k_mem, fun nw hs => ?_⟩
      have m2 := hs _ (List.mem_append.mpr (.inr (.tail _ (.head _))))
      have m3 := hs _ (List.mem_append.mpr (.inr (.tail _ (.tail _ (.head _)))))
      have m6 := hs _ (List.mem_append.mpr (.inr (.tail _ (.tail _ (.tail _ (.tail _ (.tail _ (.head _))))))))
      have m7 := hs _ (List.mem_append.mpr (.inr (.tail _ (.tail _ (.tail _ (.tail _ (.tail _ (.tail _ (.head _)))))))))
      clear hs
      unfold Tells
      intro p loose mean mg mb dp un gd cn cs a ccd cl outer A₀ base h₀ L m s Q E X B F N T hk hdp hun hret
      refine wpAny_call ?_
      k_dflt (walk_at "enter lambda")
      k_steps
      refine' ret_full (front := [_]) hret ?kF ?kN ?kf ?_ ?_; (case kF => with_reducible assumption); (case kN => with_reducible assumption); (case kf => exact rfl)
      · exact lt_cons (by walk_at "lt one") lt_nil
      · exact dat_pair (by k_mem) (.int _ _) (.int _ _)
  · refine' ret_hit (front := [_, _, _, _, _]) hret ?kF ?kN ?kf ?_ ?_ ?_ ?_; (case kF => with_reducible assumption); (case kN => with_reducible assumption); (case kf => exact rfl)
    · exact .inr ⟨_, _, _, _, _, _, _, _, rfl, List.mem_append.mpr (.inl m1), e1, e2, List.mem_append.mpr (.inl m2), e3, e4⟩
    · repeat' (first | exact lt_nil | (refine lt_consL hL ?_ ?_; walk_at "ar"))
    · repeat' (first | exact List.forall_mem_nil _ | (refine all56_cons ?_ ?_; walk_at "ar"))
    · refine ⟨_, _, _, _, _, _, _, _, _, rfl, by k_mem, by k_mem, by k_mem, fun nw hs => ?_⟩
      have n2 := hs _ (List.mem_append.mpr (.inr (.tail _ (.head _))))
      have n3 := hs _ (List.mem_append.mpr (.inl m2))
      have n4 := hs _ (List.mem_append.mpr (.inr (.tail _ (.tail _ (.tail _ (.head _))))))
      have n5 := hs _ (List.mem_append.mpr (.inr (.tail _ (.tail _ (.tail _ (.tail _ (.head _)))))))
      clear hs
      unfold Tells
      intro p loose mean mg mb dp un gd cn cs a ccd cl outer A₀ base h₀ L m s Q E X B F N T hk hdp hun hret
      refine wpAny_call ?_
      k_dflt (walk_at "enter lambda")
      k_steps
      refine' ret_full (front := [_]) hret ?kF ?kN ?kf ?_ ?_; (case kF => with_reducible assumption); (case kN => with_reducible assumption); (case kf => exact rfl)
      · exact lt_cons (by walk_at "lt one") lt_nil
      · exact dat_pair (by k_mem) (.int _ _) (.int _ _)
end Mine
end

section
open PySem PySem.W PyProof.Rows
set_option maxRecDepth 100000
set_option maxHeartbeats 8000000
namespace Mine
noncomputable def SeatIs (w : World) (news : List (Addr × Obj)) (r : Value) : Option (Int × Int) → Prop
  | none => r = .none
  | some h => IsHit w news r h.1 h.2
noncomputable def RetSeat (w : World) (news : List (Addr × Obj)) (h : Option (Int × Int)) (nx : List (Addr × Obj)) (r : Value) : Prop := nx = news ∧ SeatIs w news r h
/-- v is a program over text whose matches are hits -/
noncomputable def IsProg (w : World) (news : List (Addr × Obj)) (v : Value) (text : Str) (hits : List (Int × Int)) : Prop :=
  ∃ f d tk g fd fdg slf odg slg, v = .ref f ∧ (f, (⟨.type "function", some d, .func fd, slf⟩ : Obj)) ∈ news ∧
    (d, dictOf [⟨PyData.keyHash w.params (PySem.Str.ofString "search"), .str (PySem.Str.ofString "search") tk, .ref g⟩] 1) ∈ news ∧ (g, (⟨.type "function", odg, .func fdg, slg⟩ : Obj)) ∈ news ∧
    (∀ nw, (∀ p ∈ news, p ∈ nw) → ∀ t, Tells w g 1 [.str text t] nw (RetSeat w nw hits[0]?)) ∧
    (∀ nw, (∀ p ∈ news, p ∈ nw) → ∀ k i j t tp, hits[k]? = some (i, j) → Tells w g 1 [.str text t, .int j tp] nw (RetSeat w nw hits[k + 1]?))
noncomputable def revP (hits : List (Int × Int)) (col : Int) : Option (Int × Int) := (hits.takeWhile fun h => decide (h.1 < col) && decide (h.2 ≤ col)).getLast?

theorem reg_Rev_1 : True := by
  w_top off
  k_with_none
  k_with "my big" => lia
  k_with "my omega" => first
      | with_reducible assumption
      | decide
      | ((fail_if_success (fail_if_success omega (config := {})))
         first
           | k_extra "my om"
           | k_extra "my big"
           | omega (config := {}))
  k_with "my om" => first
      | (with_reducible refine' rm0 ?h; (case h => with_reducible assumption))
      | (with_reducible refine' rm1 ?h ?e; (case h => with_reducible assumption); (case e => decide))
      | (with_reducible refine' rm2 ?h ?e; (case h => with_reducible assumption); (case e => decide))
      | (with_reducible refine' rm3 ?h ?e; (case h => with_reducible assumption); (case e => decide))
      | (with_reducible refine' bd1 ?h ?e; (case h => with_reducible assumption); (case e => decide))
      | (with_reducible refine' bd3 ?h ?e; (case h => with_reducible assumption); (case e => decide))
      | (with_reducible refine' bd4 ?h ?e; (case h => with_reducible assumption); (case e => decide))
      | (with_reducible refine' bz1 ?h ?e; (case h => walk_at "lt"); (case e => decide))
      | (with_reducible refine' bz3 ?h ?e; (case h => walk_at "lt"); (case e => decide))
      | (with_reducible refine' bd2 ?q ?h ?e; (case q => with_reducible assumption); (case h => with_reducible assumption); (case e => decide))
      | walk_at "lt2"
      | (with_reducible refine Nat.le_of_lt ?_; walk_at "lt2")
      | (with_reducible refine Nat.ne_of_lt ?_; walk_at "lt2")
      | (with_reducible refine Nat.ne_of_gt ?_; walk_at "lt2")
      | ((with_reducible refine And.intro ?_ ?_) <;> k_extra "my omega")
      | (with_reducible refine' Nat.lt_trans ?a ?b; (case b => with_reducible assumption); (case a => walk_at "lt2"))
      | (with_reducible refine' Nat.lt_trans ?a ?b; (case a => with_reducible assumption); (case b => walk_at "lt2"))
      | (with_reducible refine' Nat.lt_of_le_of_lt ?a ?b; (case b => with_reducible assumption); (case a => walk_at "lt2"))
      | (with_reducible refine' Nat.lt_of_le_of_lt ?a ?b; (case a => with_reducible assumption); (case b => walk_at "lt2"))
      | (with_reducible refine' Nat.lt_of_lt_of_le ?a ?b; (case b => with_reducible assumption); (case a => walk_at "lt2"))
      | (with_reducible refine' Nat.lt_of_lt_of_le ?a ?b; (case a => with_reducible assumption); (case b => walk_at "lt2"))
      | (with_reducible refine' Nat.le_trans ?a ?b; (case b => with_reducible assumption); (case a => walk_at "lt2"))
      | (with_reducible refine' Nat.le_trans ?a ?b; (case a => with_reducible assumption); (case b => walk_at "lt2"))
  k_with "my lt" => first
      | with_reducible assumption
      | (refine' And.left ?h; (case h => with_reducible assumption))
      | (refine' And.left (And.right ?h); (case h => with_reducible assumption))
      | (refine' And.left (And.right (And.right ?h)); (case h => with_reducible assumption))
      | (refine' And.left (And.right (And.right (And.right ?h))); (case h => with_reducible assumption))
      | (refine' And.left (And.right (And.right (And.right (And.right ?h)))); (case h => with_reducible assumption))
      | (refine' And.left (And.right (And.right (And.right (And.right (And.right ?h))))); (case h => with_reducible assumption))
      | (refine' And.left (And.right (And.right (And.right (And.right (And.right (And.right ?h)))))); (case h => with_reducible assumption))
      | (refine' And.left (And.right (And.right (And.right (And.right (And.right (And.right (And.right ?h))))))); (case h => with_reducible assumption))
      | (refine' And.left (And.right (And.right (And.right (And.right (And.right (And.right (And.right (And.right ?h)))))))); (case h => with_reducible assumption))
      | (refine' And.left (And.right (And.right (And.right (And.right (And.right (And.right (And.right (And.right (And.right ?h))))))))); (case h => with_reducible assumption))
      | (refine' And.left (And.right (And.right (And.right (And.right (And.right (And.right (And.right (And.right (And.right (And.right ?h)))))))))); (case h => with_reducible assumption))
  k_with "my lt2" => first
      | walk_at "lt"
      | (with_reducible exact ad1)
      | (with_reducible exact ad2)
      | (with_reducible exact ad3)
      | (with_reducible exact ad4)
      | (with_reducible refine ar1 ?_; walk_at "lt")
      | (with_reducible refine ar2 ?_; walk_at "lt")
      | (with_reducible refine ar3 ?_; walk_at "lt")
      | (with_reducible refine ar4 ?_; walk_at "lt")
      | (with_reducible refine as1 ?_; walk_at "lt")
      | (with_reducible refine as2 ?_; walk_at "lt")
      | (with_reducible refine as3 ?_; walk_at "lt")
      | (with_reducible refine as4 ?_; walk_at "lt")
  k_with "my ar" => ((try dsimp only); first
      | with_reducible exact Nat.le_refl _
      | walk_at "lt2"
      | (refine Nat.le_of_lt ?_; walk_at "lt2")
      | (refine Nat.ne_of_lt ?_; walk_at "lt2")
      | (refine Nat.ne_of_gt ?_; walk_at "lt2")
      | k_extra "my ar2"
      | omega)
  k_with "my k_ne" => (refine neN ?_; (try dsimp only); first
      | with_reducible assumption
      | (refine Ne.symm ?_; with_reducible assumption)
      | (refine Nat.ne_of_lt ?_; walk_at "lt")
      | (refine Nat.ne_of_gt ?_; walk_at "lt")
      | omega)
  k_with "my getMethod ref" => (k_here; k_dflt (refine' getMethod_fn ?N ?m ?c ?n ?d ?D ?x ?_; (case N => k_asm); (case m => k_mem); (case c => rfl); (case n => rfl); (case d => rfl); (case D => k_mem); (case x => first | exact fn_no_span | exact fn_no_search); k_whole))
  k_with "my callWith ref" => (k_here; k_dflt (first
      | (refine' callWith_F ?k1 ?_; (case k1 => exact FnAt.of (by k_asm) (by k_mem)); k_whole)
      | (refine' callWith_F0 ?k1 ?_; (case k1 => exact FnAt.of (by k_asm) (by k_mem)); k_whole; try dsimp only [List.nil_append, List.cons_append])))
  k_with "my truthy ref" => (k_here; k_dflt (refine' truthy_fn ?N ?m ?c ?_; (case N => k_asm); (case m => k_mem); (case c => rfl); k_whole))
  k_with "my exec While BoolOp cons nil" => refine stop_here ?_
  trivial
theorem takeWhile_take {α : Type} {p : α → Bool} {y : α} : ∀ {l : List α} {k : Nat}, (∀ x ∈ l.take k, p x = true) → l[k]? = some y → p y = false → l.takeWhile p = l.take k
  | [], _, _, h, _ => by simp at h
  | a :: l, 0, _, h, hy => by
    simp at h; subst h
    simp [hy]
  | a :: l, k + 1, ha, h, hy => by
    have h1 : p a = true := ha a (by simp)
    have := takeWhile_take (l := l) (k := k) (fun x hx => ha x (by simp [hx])) (by simpa using h) hy
    simp [h1, this]
theorem takeWhile_all {α : Type} {p : α → Bool} {l : List α} {k : Nat} (ha : ∀ x ∈ l.take k, p x = true) (h : l[k]? = none) : l.takeWhile p = l.take k := by
  have hk : l.length ≤ k := by simpa using h
  rw [List.take_of_length_le hk] at ha ⊢
  clear h hk k
  induction l with
  | nil => rfl
  | cons a l ih =>
    rw [List.takeWhile_cons, if_pos (ha a (by simp)), ih fun x hx => ha x (by simp [hx])]
theorem getLast_take {α : Type} {l : List α} {k : Nat} {y : α} (h : l[k]? = some y) : (l.take (k + 1)).getLast? = some y := by
  rw [List.take_add_one, h]; simp
noncomputable def revJ (w : World) (nx : List (Addr × Obj)) (f : Addr) (text : Str) (t : Tok) (col : Int) (tc : Tok) (hits : List (Int × Int)) (n : Nat) (m₁ : Str → Option Value) (news₁ : List (Addr × Obj)) : Prop :=
  news₁ = nx ∧ ∃ k i j vm vf ti tj, hits[k]? = some (i, j) ∧ n = hits.length - k ∧ (∀ x ∈ hits.take k, (decide (x.1 < col) && decide (x.2 ≤ col)) = true) ∧ SeatIs w nx vf (hits.take k).getLast? ∧ IsHit w nx vm i j ∧
    m₁ (PySem.Str.ofString "prog") = some (.ref f) ∧ m₁ (PySem.Str.ofString "chars") = some (.str text t) ∧ m₁ (PySem.Str.ofString "col") = some (.int col tc) ∧ m₁ (PySem.Str.ofString "m") = some vm ∧ m₁ (PySem.Str.ofString "found") = some vf ∧ m₁ (PySem.Str.ofString "i") = some (.int i ti) ∧ m₁ (PySem.Str.ofString "j") = some (.int j tj)
theorem rev_tells {w : World} (news : List (Addr × Obj)) (vp : Value) (text : Str) (hits : List (Int × Int)) (col : Int) (t tc : Tok) (hp : IsProg w news vp text hits) (hij : ∀ h ∈ hits, h.1 < h.2) :
    Tells w 21 3 [vp, .str text t, .int col tc] news (RetSeat w news (revP hits col)) := by
  revert w news vp text hits col t tc
  refine no_implicit_lambda% (closedW ?_)
  with_reducible generalize wit _ _ = w
  refine no_implicit_lambda% (@id (Unit → Unit → Unit → _) ?_ () () ())
  refine no_implicit_lambda% (closed10 ?_)
  with_reducible generalize wit _ _ = tQ
  with_reducible generalize Prod.fst (Prod.snd (Prod.snd (Prod.snd (tQ)))) = news
  with_reducible generalize Prod.fst (Prod.snd (Prod.snd (Prod.snd (Prod.snd (tQ))))) = vp
  with_reducible generalize Prod.fst (Prod.snd (Prod.snd (Prod.snd (Prod.snd (Prod.snd (tQ)))))) = text
  with_reducible generalize Prod.fst (Prod.snd (Prod.snd (Prod.snd (Prod.snd (Prod.snd (Prod.snd (tQ))))))) = hits
  with_reducible generalize Prod.fst (Prod.snd (Prod.snd (Prod.snd (Prod.snd (Prod.snd (Prod.snd (Prod.snd (tQ)))))))) = col
  with_reducible generalize Prod.fst (Prod.snd (Prod.snd (Prod.snd (Prod.snd (Prod.snd (Prod.snd (Prod.snd (Prod.snd (tQ))))))))) = t
  with_reducible generalize Prod.snd (Prod.snd (Prod.snd (Prod.snd (Prod.snd (Prod.snd (Prod.snd (Prod.snd (Prod.snd (tQ))))))))) = tc
  clear tQ
  intro hp hij
  obtain ⟨f, d, tk, g, fd, fdg, slf, odg, slg, rfl, m1, m2, m3, T0, T1⟩ := hp
  revert f d tk g fd fdg slf odg slg
  refine no_implicit_lambda% (@id (Unit → _) ?_ ())
  refine no_implicit_lambda% (closed10 ?_)
  with_reducible generalize wit _ _ = tQ
  with_reducible generalize Prod.fst (Prod.snd (tQ)) = f
  with_reducible generalize Prod.fst (Prod.snd (Prod.snd (tQ))) = d
  with_reducible generalize Prod.fst (Prod.snd (Prod.snd (Prod.snd (tQ)))) = tk
  with_reducible generalize Prod.fst (Prod.snd (Prod.snd (Prod.snd (Prod.snd (tQ))))) = g
  with_reducible generalize Prod.fst (Prod.snd (Prod.snd (Prod.snd (Prod.snd (Prod.snd (tQ)))))) = fd
  with_reducible generalize Prod.fst (Prod.snd (Prod.snd (Prod.snd (Prod.snd (Prod.snd (Prod.snd (tQ))))))) = fdg
  with_reducible generalize Prod.fst (Prod.snd (Prod.snd (Prod.snd (Prod.snd (Prod.snd (Prod.snd (Prod.snd (tQ)))))))) = slf
  with_reducible generalize Prod.fst (Prod.snd (Prod.snd (Prod.snd (Prod.snd (Prod.snd (Prod.snd (Prod.snd (Prod.snd (tQ))))))))) = odg
  with_reducible generalize Prod.snd (Prod.snd (Prod.snd (Prod.snd (Prod.snd (Prod.snd (Prod.snd (Prod.snd (Prod.snd (tQ))))))))) = slg
  clear tQ
  intro m1 m2 m3 T0 T1
  refine tells_close ?_
  unfold TellsAt
  with_reducible generalize TV.p _ = p
  with_reducible generalize TV.loose _ = loose
  with_reducible generalize TV.mean _ = mean
  with_reducible generalize TV.mg _ = mg
  with_reducible generalize TV.mb _ = mb
  with_reducible generalize TV.dp _ = dp
  with_reducible generalize TV.un _ = un
  with_reducible generalize TV.gd _ = gd
  with_reducible generalize TV.cn _ = cn
  with_reducible generalize TV.cs _ = cs
  with_reducible generalize TV.a _ = a
  with_reducible generalize TV.ccd _ = ccd
  with_reducible generalize TV.cl _ = cl
  with_reducible generalize TV.outer _ = outer
  with_reducible generalize TV.A₀ _ = A₀
  with_reducible generalize TV.base _ = base
  with_reducible generalize TV.h₀ _ = h₀
  with_reducible generalize TV.L _ = L
  with_reducible generalize TV.m _ = m
  with_reducible generalize TV.s _ = s
  with_reducible generalize TV.Q _ = Q
  with_reducible generalize TV.E _ = E
  k_fill
  intro X B F N T hk hdp hun hret
  refine wpAny_call ?_
  k_dflt cell_enter
  rename_i yA53 yA54 yA55 yA56 yA57 yA58 yA59 yA60 yA61
  dsimp only [qk, ek]
  clear ek qk
  revert yA56 yA57 yA58 yA59 yA60 yA61
  revert yA53 yA54 yA55
  refine no_implicit_lambda% (closed3 ?_)
  with_reducible generalize wit _ _ = tQ
  with_reducible generalize Prod.fst (tQ) = yA53
  with_reducible generalize Prod.fst (Prod.snd (tQ)) = yA54
  with_reducible generalize Prod.snd (Prod.snd (tQ)) = yA55
  clear tQ
  intro _ _ _ _ _ _
  k_steps
  refine' tells_use (T0 _ (fun _ h => h) _) ?k1 ?k2 ?k3 ?k4 ?k5 ?k6 ?k7 ?k8 ?_
  (case k1 => k_asm)
  (case k2 => k_asm)
  (case k3 => k_asm)
  (case k4 => k_asm)
  (case k5 => k_asm)
  (case k6 => exact rfl)
  (case k7 => ktr_room)
  (case k8 => ktr_units)
  rintro r nx h' tk' F' N' ⟨rfl, hS⟩
  dsimp only
  cases hits with
  | nil =>
    have hr : r = .none := hS
    subst hr
    k_steps
    exact hret _ _ _ _ (by with_reducible assumption) (by with_reducible assumption) ⟨rfl, rfl⟩
  | cons h0 hits =>
    have hS' : IsHit w nx r h0.1 h0.2 := hS
    obtain ⟨f0, d0, tk0, g0, fd0, fdg0, slf0, odg0, slg0, rfl, q1, q2, q3, T2⟩ := hS'
    rename_i yB61
    clear tk
    revert F' N' m1 m2 m3 N yB61 hij T0 T1 hret hS q1 q2 q3 T2
    revert nx h' tk' h0 hits f0 d0 tk0 g0 fd0 fdg0 slf0 odg0 slg0
    refine no_implicit_lambda% (closed14 ?_)
    with_reducible generalize wit _ _ = tQ
    with_reducible generalize Prod.fst (tQ) = nx
    with_reducible generalize Prod.fst (Prod.snd (tQ)) = h'
    with_reducible generalize Prod.fst (Prod.snd (Prod.snd (tQ))) = tk'
    with_reducible generalize Prod.fst (Prod.snd (Prod.snd (Prod.snd (tQ)))) = h0
    with_reducible generalize Prod.fst (Prod.snd (Prod.snd (Prod.snd (Prod.snd (tQ))))) = hits
    with_reducible generalize Prod.fst (Prod.snd (Prod.snd (Prod.snd (Prod.snd (Prod.snd (tQ)))))) = f0
    with_reducible generalize Prod.fst (Prod.snd (Prod.snd (Prod.snd (Prod.snd (Prod.snd (Prod.snd (tQ))))))) = d0
    with_reducible generalize Prod.fst (Prod.snd (Prod.snd (Prod.snd (Prod.snd (Prod.snd (Prod.snd (Prod.snd (tQ)))))))) = tk0
    with_reducible generalize Prod.fst (Prod.snd (Prod.snd (Prod.snd (Prod.snd (Prod.snd (Prod.snd (Prod.snd (Prod.snd (tQ))))))))) = g0
    with_reducible generalize Prod.fst (Prod.snd (Prod.snd (Prod.snd (Prod.snd (Prod.snd (Prod.snd (Prod.snd (Prod.snd (Prod.snd (tQ)))))))))) = fd0
    with_reducible generalize Prod.fst (Prod.snd (Prod.snd (Prod.snd (Prod.snd (Prod.snd (Prod.snd (Prod.snd (Prod.snd (Prod.snd (Prod.snd (tQ))))))))))) = fdg0
    with_reducible generalize Prod.fst (Prod.snd (Prod.snd (Prod.snd (Prod.snd (Prod.snd (Prod.snd (Prod.snd (Prod.snd (Prod.snd (Prod.snd (Prod.snd (tQ)))))))))))) = slf0
    with_reducible generalize Prod.fst (Prod.snd (Prod.snd (Prod.snd (Prod.snd (Prod.snd (Prod.snd (Prod.snd (Prod.snd (Prod.snd (Prod.snd (Prod.snd (Prod.snd (tQ))))))))))))) = odg0
    with_reducible generalize Prod.snd (Prod.snd (Prod.snd (Prod.snd (Prod.snd (Prod.snd (Prod.snd (Prod.snd (Prod.snd (Prod.snd (Prod.snd (Prod.snd (Prod.snd (tQ))))))))))))) = slg0
    clear tQ
    intro F' N' m1 m2 m3 N _ hij T0 T1 hret hS q1 q2 q3 T2
    k_steps
    refine' tells_use (T2 _ (fun _ h => h)) ?k1 ?k2 ?k3 ?k4 ?k5 ?k6 ?k7 ?k8 ?_; (case k1 => k_asm); (case k2 => k_asm); (case k3 => k_asm); (case k4 => k_asm); (case k5 => k_asm); (case k6 => exact rfl); (case k7 => ktr_room); (case k8 => ktr_units)
    intro r nx' h' tk' F' N' hR
    obtain ⟨tl, a2, n2, t1, t2, rfl, ho, rfl, ma⟩ := hR.two
    dsimp only
    k_steps
    refine Stop.mk ?_
    refine While_inv2 (revJ w nx f text t col tc (h0 :: hits)) (n₀ := (h0 :: hits).length) (by with_reducible assumption) (fun p hp => ‹News _ _ _ (nx ++ tl)› p (List.mem_append.mpr (.inl hp))) ⟨rfl, 0, h0.1, h0.2, .ref f0, .none, t1, t2, rfl, rfl, (fun x hx => nomatch hx), rfl, hS, rfl, rfl, rfl, rfl, rfl, rfl, rfl⟩ ?_
    rintro n m₁ news₁ h₁ tk₁ F₁ N₁ ⟨rfl, k, i, j, vm, vf, ti, tj, e1, e2, e3, e4, e5, b1, b2, b3, b4, b5, b6, b7⟩
    have F₂ := fr_puts F₁ (.cons b1 (.cons b2 (.cons b3 (.cons b4 (.cons b5 (.cons b6 (.cons b7 .nil)))))))
    simp only [putsM] at F₂
    clear F₁ b1 b2 b3 b4 b5 b6 b7
    have hlt : i < j := hij _ (List.mem_of_getElem? e1)
    rename_i yC64 yC65 yC66 yC74 yC75 yC76 yC77 yC100
    clear yC75 yC74 tk' h' yC66 yC65 yC64
    revert yC77 N₁ m1 m2 m3 N T0 T1 hret hS q1 q2 q3 T2 ho ma hR yC100 e1 e2 e3 e4 e5 F₂ hlt
    revert tl a2 n2 t1 t2 yC76 tk n m₁ news₁ h₁ tk₁ k i j vm vf ti tj
    refine no_implicit_lambda% (closed19 ?_)
    with_reducible generalize wit _ _ = tQ
    with_reducible generalize Prod.fst (tQ) = tl
    with_reducible generalize Prod.fst (Prod.snd (tQ)) = a2
    with_reducible generalize Prod.fst (Prod.snd (Prod.snd (tQ))) = n2
    with_reducible generalize Prod.fst (Prod.snd (Prod.snd (Prod.snd (tQ)))) = t1
    with_reducible generalize Prod.fst (Prod.snd (Prod.snd (Prod.snd (Prod.snd (tQ))))) = t2
    with_reducible generalize Prod.fst (Prod.snd (Prod.snd (Prod.snd (Prod.snd (Prod.snd (tQ)))))) = yC76
    with_reducible generalize Prod.fst (Prod.snd (Prod.snd (Prod.snd (Prod.snd (Prod.snd (Prod.snd (tQ))))))) = tk
    with_reducible generalize Prod.fst (Prod.snd (Prod.snd (Prod.snd (Prod.snd (Prod.snd (Prod.snd (Prod.snd (tQ)))))))) = n
    with_reducible generalize Prod.fst (Prod.snd (Prod.snd (Prod.snd (Prod.snd (Prod.snd (Prod.snd (Prod.snd (Prod.snd (tQ))))))))) = m₁
    with_reducible generalize Prod.fst (Prod.snd (Prod.snd (Prod.snd (Prod.snd (Prod.snd (Prod.snd (Prod.snd (Prod.snd (Prod.snd (tQ)))))))))) = news₁
    with_reducible generalize Prod.fst (Prod.snd (Prod.snd (Prod.snd (Prod.snd (Prod.snd (Prod.snd (Prod.snd (Prod.snd (Prod.snd (Prod.snd (tQ))))))))))) = h₁
    with_reducible generalize Prod.fst (Prod.snd (Prod.snd (Prod.snd (Prod.snd (Prod.snd (Prod.snd (Prod.snd (Prod.snd (Prod.snd (Prod.snd (Prod.snd (tQ)))))))))))) = tk₁
    with_reducible generalize Prod.fst (Prod.snd (Prod.snd (Prod.snd (Prod.snd (Prod.snd (Prod.snd (Prod.snd (Prod.snd (Prod.snd (Prod.snd (Prod.snd (Prod.snd (tQ))))))))))))) = k
    with_reducible generalize Prod.fst (Prod.snd (Prod.snd (Prod.snd (Prod.snd (Prod.snd (Prod.snd (Prod.snd (Prod.snd (Prod.snd (Prod.snd (Prod.snd (Prod.snd (Prod.snd (tQ)))))))))))))) = i
    with_reducible generalize Prod.fst (Prod.snd (Prod.snd (Prod.snd (Prod.snd (Prod.snd (Prod.snd (Prod.snd (Prod.snd (Prod.snd (Prod.snd (Prod.snd (Prod.snd (Prod.snd (Prod.snd (tQ))))))))))))))) = j
    with_reducible generalize Prod.fst (Prod.snd (Prod.snd (Prod.snd (Prod.snd (Prod.snd (Prod.snd (Prod.snd (Prod.snd (Prod.snd (Prod.snd (Prod.snd (Prod.snd (Prod.snd (Prod.snd (Prod.snd (tQ)))))))))))))))) = vm
    with_reducible generalize Prod.fst (Prod.snd (Prod.snd (Prod.snd (Prod.snd (Prod.snd (Prod.snd (Prod.snd (Prod.snd (Prod.snd (Prod.snd (Prod.snd (Prod.snd (Prod.snd (Prod.snd (Prod.snd (Prod.snd (tQ))))))))))))))))) = vf
    with_reducible generalize Prod.fst (Prod.snd (Prod.snd (Prod.snd (Prod.snd (Prod.snd (Prod.snd (Prod.snd (Prod.snd (Prod.snd (Prod.snd (Prod.snd (Prod.snd (Prod.snd (Prod.snd (Prod.snd (Prod.snd (Prod.snd (tQ)))))))))))))))))) = ti
    with_reducible generalize Prod.snd (Prod.snd (Prod.snd (Prod.snd (Prod.snd (Prod.snd (Prod.snd (Prod.snd (Prod.snd (Prod.snd (Prod.snd (Prod.snd (Prod.snd (Prod.snd (Prod.snd (Prod.snd (Prod.snd (Prod.snd (tQ)))))))))))))))))) = tj
    clear tQ
    intro _ N₁ m1 m2 m3 N T0 T1 hret hS q1 q2 q3 T2 ho ma hR _ e1 e2 e3 e4 e5 F₂ hlt
    k_steps
    · exfalso; omega
    · refine' tells_use (T1 _ (fun _ h => h) k i j _ _ e1) ?k1 ?k2 ?k3 ?k4 ?k5 ?k6 ?k7 ?k8 ?_; (case k1 => k_asm); (case k2 => k_asm); (case k3 => k_asm); (case k4 => k_asm); (case k5 => k_asm); (case k6 => exact rfl); (case k7 => ktr_room); (case k8 => ktr_units)
      rintro r nx' h' tk' F' N' ⟨rfl, hS2⟩
      dsimp only
      have e3' : ∀ x ∈ (h0 :: hits).take (k + 1), (decide (x.1 < col) && decide (x.2 ≤ col)) = true := by
        rw [List.take_add_one, e1]
        intro x hx
        rcases List.mem_append.mp hx with hx | hx
        · exact e3 x hx
        · simp at hx; subst hx; simp; omega
      cases hq : (h0 :: hits)[k + 1]? with
      | none =>
        rw [hq] at hS2
        have hr : r = .none := hS2
        subst hr
        k_steps
        dsimp only [WhileStep2]
        k_steps
        refine' hret _ _ _ _ ?kF ?kN ⟨rfl, ?_⟩; (case kF => with_reducible assumption); (case kN => with_reducible assumption)
        rw [revP, takeWhile_all e3' hq, getLast_take e1]
        exact e5
      | some h1 =>
        rw [hq] at hS2
        have hS3 : IsHit w nx' r h1.1 h1.2 := hS2
        have hS4 := hS3
        obtain ⟨f1, d1, tk1, g1, fd1, fdg1, slf1, odg1, slg1, rfl, s1, s2, s3, T3⟩ := hS4
        k_steps
        refine' tells_use (T3 _ (fun _ h => h)) ?k1 ?k2 ?k3 ?k4 ?k5 ?k6 ?k7 ?k8 ?_; (case k1 => k_asm); (case k2 => k_asm); (case k3 => k_asm); (case k4 => k_asm); (case k5 => k_asm); (case k6 => exact rfl); (case k7 => ktr_room); (case k8 => ktr_units)
        intro r nx2 h' tk' F' N' hR
        obtain ⟨tl2, a3, n3, t3, t4, rfl, ho2, rfl, ma2⟩ := hR.two
        dsimp only
        k_steps
        refine ⟨_, _, _, nx', (h0 :: hits).length - (k + 1), rfl, by with_reducible assumption, (fun p hp => ‹News _ _ _ (nx' ++ tl2)› p (List.mem_append.mpr (.inl hp))), ?_, rfl, k + 1, h1.1, h1.2, _, _, _, _, hq, rfl, e3', ?_, hS3, rfl, rfl, rfl, rfl, rfl, rfl, rfl⟩
        · have : k + 1 < (h0 :: hits).length := (List.getElem?_eq_some_iff.mp hq).1
          omega
        · rw [getLast_take e1]; exact e5
    all_goals (refine' hret _ _ _ _ ?kF ?kN ⟨rfl, ?_⟩; (case kF => with_reducible assumption); (case kN => with_reducible assumption))
    all_goals (rw [revP, takeWhile_take e3 e1 (by simp; omega)]; exact e4)
end Mine
end

section
open PySem PySem.W PyProof.Rows
set_option maxRecDepth 100000
set_option maxHeartbeats 4000000
namespace Mine
theorem reg_Prog_1 : True := by
  w_top off
  k_with_none
  k_with "my big" => lia
  k_with "my omega" => first
      | with_reducible assumption
      | decide
      | ((fail_if_success (fail_if_success omega (config := {})))
         first
           | k_extra "my om"
           | k_extra "my big"
           | omega (config := {}))
  k_with "my om" => first
      | (with_reducible refine' rm0 ?h; (case h => with_reducible assumption))
      | (with_reducible refine' rm1 ?h ?e; (case h => with_reducible assumption); (case e => decide))
      | (with_reducible refine' rm2 ?h ?e; (case h => with_reducible assumption); (case e => decide))
      | (with_reducible refine' rm3 ?h ?e; (case h => with_reducible assumption); (case e => decide))
      | (with_reducible refine' bd1 ?h ?e; (case h => with_reducible assumption); (case e => decide))
      | (with_reducible refine' bd3 ?h ?e; (case h => with_reducible assumption); (case e => decide))
      | (with_reducible refine' bd4 ?h ?e; (case h => with_reducible assumption); (case e => decide))
      | (with_reducible refine' bz1 ?h ?e; (case h => walk_at "lt"); (case e => decide))
      | (with_reducible refine' bz3 ?h ?e; (case h => walk_at "lt"); (case e => decide))
      | (with_reducible refine' bd2 ?q ?h ?e; (case q => with_reducible assumption); (case h => with_reducible assumption); (case e => decide))
      | walk_at "lt2"
      | (with_reducible refine Nat.le_of_lt ?_; walk_at "lt2")
      | (with_reducible refine Nat.ne_of_lt ?_; walk_at "lt2")
      | (with_reducible refine Nat.ne_of_gt ?_; walk_at "lt2")
      | ((with_reducible refine And.intro ?_ ?_) <;> k_extra "my omega")
      | (with_reducible refine' Nat.lt_trans ?a ?b; (case b => with_reducible assumption); (case a => walk_at "lt2"))
      | (with_reducible refine' Nat.lt_trans ?a ?b; (case a => with_reducible assumption); (case b => walk_at "lt2"))
      | (with_reducible refine' Nat.lt_of_le_of_lt ?a ?b; (case b => with_reducible assumption); (case a => walk_at "lt2"))
      | (with_reducible refine' Nat.lt_of_le_of_lt ?a ?b; (case a => with_reducible assumption); (case b => walk_at "lt2"))
      | (with_reducible refine' Nat.lt_of_lt_of_le ?a ?b; (case b => with_reducible assumption); (case a => walk_at "lt2"))
      | (with_reducible refine' Nat.lt_of_lt_of_le ?a ?b; (case a => with_reducible assumption); (case b => walk_at "lt2"))
      | (with_reducible refine' Nat.le_trans ?a ?b; (case b => with_reducible assumption); (case a => walk_at "lt2"))
      | (with_reducible refine' Nat.le_trans ?a ?b; (case a => with_reducible assumption); (case b => walk_at "lt2"))
  k_with "my lt" => first
      | with_reducible assumption
      | (refine' And.left ?h; (case h => with_reducible assumption))
      | (refine' And.left (And.right ?h); (case h => with_reducible assumption))
      | (refine' And.left (And.right (And.right ?h)); (case h => with_reducible assumption))
      | (refine' And.left (And.right (And.right (And.right ?h))); (case h => with_reducible assumption))
      | (refine' And.left (And.right (And.right (And.right (And.right ?h)))); (case h => with_reducible assumption))
      | (refine' And.left (And.right (And.right (And.right (And.right (And.right ?h))))); (case h => with_reducible assumption))
      | (refine' And.left (And.right (And.right (And.right (And.right (And.right (And.right ?h)))))); (case h => with_reducible assumption))
      | (refine' And.left (And.right (And.right (And.right (And.right (And.right (And.right (And.right ?h))))))); (case h => with_reducible assumption))
      | (refine' And.left (And.right (And.right (And.right (And.right (And.right (And.right (And.right (And.right ?h)))))))); (case h => with_reducible assumption))
      | (refine' And.left (And.right (And.right (And.right (And.right (And.right (And.right (And.right (And.right (And.right ?h))))))))); (case h => with_reducible assumption))
      | (refine' And.left (And.right (And.right (And.right (And.right (And.right (And.right (And.right (And.right (And.right (And.right ?h)))))))))); (case h => with_reducible assumption))
  k_with "my lt2" => first
      | walk_at "lt"
      | (with_reducible exact ad1)
      | (with_reducible exact ad2)
      | (with_reducible exact ad3)
      | (with_reducible exact ad4)
      | (with_reducible refine ar1 ?_; walk_at "lt")
      | (with_reducible refine ar2 ?_; walk_at "lt")
      | (with_reducible refine ar3 ?_; walk_at "lt")
      | (with_reducible refine ar4 ?_; walk_at "lt")
      | (with_reducible refine as1 ?_; walk_at "lt")
      | (with_reducible refine as2 ?_; walk_at "lt")
      | (with_reducible refine as3 ?_; walk_at "lt")
      | (with_reducible refine as4 ?_; walk_at "lt")
  k_with "my ar" => ((try dsimp only); first
      | with_reducible exact Nat.le_refl _
      | walk_at "lt2"
      | (refine Nat.le_of_lt ?_; walk_at "lt2")
      | (refine Nat.ne_of_lt ?_; walk_at "lt2")
      | (refine Nat.ne_of_gt ?_; walk_at "lt2")
      | k_extra "my ar2"
      | omega)
  k_with "my k_ne" => (refine neN ?_; (try dsimp only); first
      | with_reducible assumption
      | (refine Ne.symm ?_; with_reducible assumption)
      | (refine Nat.ne_of_lt ?_; walk_at "lt")
      | (refine Nat.ne_of_gt ?_; walk_at "lt")
      | omega)
  k_with "my enter cells" => (refine' code_defC ?k1 ?k2 ?k3 ?k4 ?k5 ?kA ?kF ?kK ?k6 ?k7 ?k8 ?k9 ?kB ?kD ?_ ?c2 ?c3 ?c4; (case kA => exact rfl); (case kF => exact rfl); (case kK => assumption); (case k1 => k_asm); (case k2 => k_asm); (case k3 => k_asm); (case k4 => k_asm); (case k5 => k_asm); (case k6 => k_is); (case k7 => k_is); (case k8 => ktr_room); (case k9 => exact BindsTo.of_eq rfl); (case kB => exact rfl); (case kD => decide +kernel); (case c2 => exact rfl); (case c3 => exact rfl); (case c4 => exact rfl); k_whole; walk_at "i13")
  k_with "my k_all" => first | assumption | exact ne_above (by assumption) (by walk_at "ar")
  k_with "my exec For Tuple ListComp cons nil" => refine for_open ?_
  k_with "my pyIter ref" => refine stop_here ?_
  k_with "my eval ListComp" => (k_here; (with_reducible show wpAny _ _ (eval (PySem.Expr.ListComp _ [PySem.Comprehension.mk (PySem.Expr.Name _ _) _ [] 0] _ _) _) _ _ _); k_dflt (refine LCg.ListComp_U (F₀ := by k_asm) (by with_unfolding_all rfl) (by decide) (by rfl) (by decide) (by rfl) ?_))
  k_with "my eval ListComp" => (k_here; (with_reducible show wpAny _ _ (eval (PySem.Expr.ListComp _ [PySem.Comprehension.mk (PySem.Expr.Name _ _) _ [_] 0] _ _) _) _ _ _); k_dflt (refine LCt.ListComp_T (F₀ := by k_asm) (by with_unfolding_all rfl) (by decide) (by rfl) (by decide) (by rfl) ?_))
  k_with "my k_mem" => first | assumption | (refine List.mem_append.mpr (Or.inl ?_); k_mem) | (refine List.mem_append.mpr (Or.inr ?_); k_mem)
  k_with "my subscriptTail" => (k_here; (with_reducible show wpAny _ _ (subscriptTail (PySem.Expr.Name (PySem.Str.ofString "item") _) (PySem.Expr.Slice _ _ _ _) (Value.ref _) (Value.ref _)) _ _ _); k_dflt (refine' slice_tuple_13 ?F ?N ?m ?_ ?hs ?hg; (case F => k_asm); (case N => k_asm); (case m => k_mem); (case hs => with_unfolding_all rfl); (case hg => intro _; with_unfolding_all rfl); k_whole); walk_at "i5")
  trivial
inductive SeatsAre (w : World) (news : List (Addr × Obj)) : List Value → List (Option (Int × Int)) → Prop
  | nil : SeatsAre w news [] []
  | cons {v : Value} {s : Option (Int × Int)} {vs : List Value} {ss : List (Option (Int × Int))} (h : SeatIs w news v s) (r : SeatsAre w news vs ss) : SeatsAre w news (v :: vs) (s :: ss)
theorem SeatIs.mono {w : World} {news news' : List (Addr × Obj)} (hs : ∀ p ∈ news, p ∈ news') {v : Value} {o : Option (Int × Int)} (h : SeatIs w news v o) : SeatIs w news' v o := by
  cases o with
  | none => exact h
  | some x => exact IsHit.mono hs h
section
variable {w : World} {news news' : List (Addr × Obj)} {vs us : List Value} {ss ts : List (Option (Int × Int))}
theorem SeatsAre.mono (hs : ∀ p ∈ news, p ∈ news') (h : SeatsAre w news vs ss) : SeatsAre w news' vs ss := by
  induction h with
  | nil => exact .nil
  | cons h _ ih => exact .cons (SeatIs.mono hs h) ih
theorem SeatsAre.append (h : SeatsAre w news vs ss) (k : SeatsAre w news us ts) : SeatsAre w news (vs ++ us) (ss ++ ts) := by
  induction h with
  | nil => exact k
  | cons h _ ih => exact .cons h ih
theorem SeatsAre.length (h : SeatsAre w news vs ss) : vs.length = ss.length := by
  induction h with
  | nil => rfl
  | cons _ _ ih => simp [ih]
theorem SeatsAre.replicate {v : Value} {o : Option (Int × Int)} (h : SeatIs w news v o) (n : Nat) : SeatsAre w news (List.replicate n v) (List.replicate n o) := by
  induction n with
  | zero => exact .nil
  | succ n ih => exact .cons h ih
theorem SeatsAre.get {k : Nat} {v : Value} (h : SeatsAre w news vs ss) (hv : vs[k]? = some v) : ∃ o, ss[k]? = some o ∧ SeatIs w news v o := by
  induction h generalizing k with
  | nil => simp at hv
  | cons h _ ih =>
    cases k with
    | zero => simp at hv; subst hv; exact ⟨_, rfl, h⟩
    | succ k => simpa using ih (by simpa using hv)
end
theorem reg_Prog_2 : True := by
  k_with "my subscriptTail Name Slice ref ref" => (k_here; (with_reducible show wpAny _ _ (subscriptTail (PySem.Expr.Name (PySem.Str.ofString "hits") _) (PySem.Expr.Slice _ _ _ _) (Value.ref _) (Value.ref _)) _ _ _); k_dflt (refine' slice_last ?F ?N ?m ?z ?_ ?hs ?hg; (case F => k_asm); (case N => k_asm); (case m => k_mem); (case z => omega); (case hs => with_unfolding_all rfl); (case hg => intro _; with_unfolding_all rfl); k_whole); walk_at "i5")
  k_with "my call builtin:len" => (k_here; k_dflt (refine' len_led ?N ?m ?z ?_; (case N => k_asm); (case m => k_mem); (case z => ((try simp only [List.length_append, List.length_replicate]); omega)); k_whole))
  k_with "my binaryOp Mult ref int" => (k_here; k_dflt (refine' mul_one ?F ?N ?m ?z ?y ?_; (case F => k_asm); (case N => k_asm); (case m => k_mem); (case z => omega); (case y => omega); k_whole); walk_at "i5")
  k_with "my inplaceOp Add ref ref" => (k_here; k_dflt (refine' iadd_list ?F ?N ?U ?m ?z ?_; (case F => k_asm); (case N => k_asm); (case U => k_updF); (case m => k_mem); (case z => (try simp only [List.length_append, List.length_replicate]); omega); k_whole); walk_at "i4n")
  k_with "my CompSrc" => refine stop_here ?_
  k_with "my setAttr ref" => (k_here; k_dflt (refine' setAttr_fn ?F ?N ?U ?c ?n ?d ?x ?_; (case F => k_asm); (case N => k_asm); (case U => k_updF); (case c => rfl); (case n => rfl); (case d => rfl); (case x => first | exact fn_no_span | exact fn_no_search); k_whole); walk_at "i7")
  trivial
noncomputable def progJ (w : World) (L' lh ls : Addr) (ps3 : Array Value) (hits : List (Int × Int)) (fz rest0 : List (Addr × Obj)) (i : Nat) (m : Str → Option Value) (nx : List (Addr × Obj)) : Prop :=
  ∃ hv nh sv ns oS oB ps rest vB fr, nx = (lh, listOf hv.toArray nh) :: (ls, listOf sv.toArray ns) :: (L' + 1 + 1 + 1 + 1, oS) :: (L' + 1 + 1 + 1, oB) :: (56, tabObj ps) :: (63, tabObj ps3) :: rest ∧ oS.data = .cell (some (.ref ls)) ∧ oB.data = .cell vB ∧ Tab56 fr ps ∧
    (∀ p ∈ rest0, p ∈ rest) ∧ (∀ p ∈ rest, p.1 ≠ lh) ∧ (∀ p ∈ rest, p.1 ≠ ls) ∧ (∀ p ∈ rest, p.1 ≠ L' + 1 + 1 + 1 + 1) ∧ (∀ p ∈ rest, p.1 ≠ L' + 1 + 1 + 1) ∧ (∀ p ∈ rest, p.1 ≠ 56) ∧
    SeatsAre w fr hv ((hits.take i).map some) ∧ SeatsAre w fr sv (seatsP (hits.take i)) ∧ m (PySem.Str.ofString "hits") = some (.ref lh) ∧ (∀ p ∈ rest, p.1 ≠ 63) ∧ (∀ p ∈ fr, p ∈ rest) ∧ (∀ p ∈ fr, p ∈ fz ∨ @LT.lt Nat _ L' p.1)
theorem prog_reorder {h₀ h : Heap} {L : Addr} {tl news : List (Addr × Obj)} {d d0 ls lh s4 s3 s2 s1 t5 t6 : Addr × Obj} (N : News h₀ L h (d :: (tl ++ d0 :: ls :: lh :: s4 :: s3 :: s2 :: s1 :: t5 :: t6 :: news))) : News h₀ L h (lh :: ls :: s4 :: s3 :: t5 :: t6 :: d :: (tl ++ s2 :: s1 :: news)) :=
  have up : ∀ q ∈ d0 :: ls :: lh :: s4 :: s3 :: s2 :: s1 :: t5 :: t6 :: news, q ∈ d :: (tl ++ d0 :: ls :: lh :: s4 :: s3 :: s2 :: s1 :: t5 :: t6 :: news) := fun q h => .tail _ (List.mem_append.mpr (.inr h))
  fun p hp => N p ((allc (up _ (mat 2 rfl)) (allc (up _ (mat 1 rfl)) (allc (up _ (mat 3 rfl)) (allc (up _ (mat 4 rfl)) (allc (up _ (mat 7 rfl)) (allc (up _ (mat 8 rfl)) (allc (.head _) (alla (fun q h => .tail _ (List.mem_append.mpr (.inl h))) (allc (up _ (mat 5 rfl)) (allc (up _ (mat 6 rfl)) fun q h => up q (mdr 9 rfl h)))))))))) : ∀ q ∈ lh :: ls :: s4 :: s3 :: t5 :: t6 :: d :: (tl ++ s2 :: s1 :: news), q ∈ d :: (tl ++ d0 :: ls :: lh :: s4 :: s3 :: s2 :: s1 :: t5 :: t6 :: news)) p hp)
theorem Tab56.mono {news news' : List (Addr × Obj)} {ps : Array Value} (hs : ∀ p ∈ news, p ∈ news') (h : Tab56 news ps) : Tab56 news' ps := by
  rcases h with e | ⟨c1, c2, oc1, vs1, u1, oc2, vs2, u2, r0, r1, r2, r3, r4, r5, r6⟩
  · exact .inl e
  · exact .inr ⟨c1, c2, oc1, vs1, u1, oc2, vs2, u2, r0, hs _ r1, r2, r3, hs _ r4, r5, r6⟩
theorem Incr.mem {lo : Int} {hits : List (Int × Int)} (h : Incr lo hits) : ∀ x ∈ hits, lo ≤ x.1 ∧ x.1 < x.2 := by
  induction hits generalizing lo with
  | nil => intro x hx; nomatch hx
  | cons a t ih =>
    intro x hx
    rcases List.mem_cons.mp hx with rfl | hx
    · exact ⟨h.1, h.2.1⟩
    · have := ih h.2.2 x hx
      have h1 := h.1
      have h2 := h.2.1
      omega
noncomputable abbrev qSearch : Str := (PySem.Str.ofString "_law_prog" ++ PySem.Str.ofString ".<locals>.") ++ PySem.Str.ofString "search"
noncomputable abbrev qLam : Str := (PySem.Str.ofString "_law_prog" ++ PySem.Str.ofString ".<locals>.") ++ PySem.Str.ofString "<lambda>"
noncomputable def Tab63 (news : List (Addr × Obj)) (ps : Array Value) : Prop :=
  ps = #[] ∨ ∃ c1 c2 oc1 vs1 t1 oc2 vs2 t2, ps = #[] ++ #[rawInt ↑90, rawInt ↑4, Value.ref c1] ++ #[rawInt ↑92, rawInt ↑11, Value.ref c2] ∧
    (c1, oc1) ∈ news ∧ oc1.data = .fields vs1 ∧ vs1[1]? = some (.str qSearch t1) ∧ (c2, oc2) ∈ news ∧ oc2.data = .fields vs2 ∧ vs2[1]? = some (.str qLam t2)
noncomputable def RetProg (w : World) (news fz : List (Addr × Obj)) (text : Str) (hits : List (Int × Int)) (nx : List (Addr × Obj)) (r : Value) : Prop :=
  ∃ ps pz tl, nx = (56, tabObj ps) :: (63, tabObj pz) :: (news ++ tl) ∧ Tab56 (fz ++ tl) ps ∧ Tab63 (fz ++ tl) pz ∧ (∀ p ∈ tl, ∀ q ∈ news, q.1 < p.1) ∧ (∀ p ∈ tl, @LT.lt Nat _ 63 p.1) ∧ IsProg w (fz ++ tl) r text hits
theorem ret_prog {w : World} {text : Str} {hits : List (Int × Int)} {news fz full front rest fr : List (Addr × Obj)} {ps pz : Array Value} {h₀ h' : Heap} {L L' : Addr} {m : Str → Option Value} {s : Shared} {Q : Value → Shared → Prop} {r : Value} {tk' : Nat}
    (hret : ∀ r nx h' tk', Fr h₀ L h' m → News h₀ L h' nx → RetProg w news fz text hits nx r → Q r { s with heap := h', toks := tk' })
    (F : Fr h₀ L h' m) (N : News h₀ L h' full) (hL : AllLt L' news) (h63 : @LT.lt Nat _ 63 L') (m56 : (56, tabObj ps) ∈ full) (m63 : (63, tabObj pz) ∈ full) (hfr : ∀ p ∈ front, p ∈ full ∧ @LT.lt Nat _ L' p.1) (hrest : ∀ p ∈ rest, p ∈ full) (hnews : ∀ p ∈ news, p ∈ rest) (hs : ∀ p ∈ fr, p ∈ rest) (ho : ∀ p ∈ fr, p ∈ fz ∨ @LT.lt Nat _ L' p.1)
    (h : ∀ tl, (∀ p ∈ front, p ∈ fz ++ tl) → (∀ p ∈ fr, p ∈ fz ++ tl) → Tab56 (fz ++ tl) ps ∧ Tab63 (fz ++ tl) pz ∧ IsProg w (fz ++ tl) r text hits) :
    Q r { s with heap := h', toks := tk' } := by
  have hb : ∀ p ∈ front ++ fr.filter (fun p => decide (@LT.lt Nat _ L' p.1)), p ∈ full ∧ @LT.lt Nat _ L' p.1 := by
    intro p hp
    rcases List.mem_append.mp hp with hp | hp
    · exact hfr p hp
    · have := List.mem_filter.mp hp
      exact ⟨hrest p (hs p this.1), by simpa using this.2⟩
  obtain ⟨t1, t2, t3⟩ := h (front ++ fr.filter (fun p => decide (@LT.lt Nat _ L' p.1))) (fun p hp => List.mem_append.mpr (.inr (List.mem_append.mpr (.inl hp)))) (fun p hp => by
    rcases ho p hp with h | h
    · exact List.mem_append.mpr (.inl h)
    · exact List.mem_append.mpr (.inr (List.mem_append.mpr (.inr (List.mem_filter.mpr ⟨hp, by simpa using h⟩)))))
  refine hret r _ h' tk' F ?_ ⟨ps, pz, _, rfl, t1, t2, fun p hp q hq => Nat.lt_trans (ktn_ltOf hL q hq) (hb p hp).2, fun p hp => Nat.lt_trans h63 (hb p hp).2, t3⟩
  intro p hp
  refine N p ?_
  rcases List.mem_cons.mp hp with rfl | hp
  · exact m56
  · rcases List.mem_cons.mp hp with rfl | hp
    · exact m63
    · rcases List.mem_append.mp hp with hp | hp
      · exact hrest p (hnews p hp)
      · exact (hb p hp).1
theorem ret_progA {w : World} {text : Str} {hits : List (Int × Int)} {news fz rest fr : List (Addr × Obj)} {ps pz : Array Value} {h₀ h' : Heap} {L L' : Addr} {m : Str → Option Value} {s : Shared} {Q : Value → Shared → Prop} {r : Value} {tk' : Nat} {x1 x2 x3 x4 x5 x6 x7 x8 x9 x10 x11 x12 eT : Addr × Obj}
    (hret : ∀ r nx h' tk', Fr h₀ L h' m → News h₀ L h' nx → RetProg w news fz text hits nx r → Q r { s with heap := h', toks := tk' })
    (F : Fr h₀ L h' m) (N : News h₀ L h' (x1 :: x2 :: x3 :: x4 :: x5 :: x6 :: x7 :: x8 :: x9 :: x10 :: x11 :: x12 :: (56, tabObj ps) :: (63, tabObj pz) :: rest)) (hL : AllLt L' news) (h63 : @LT.lt Nat _ 63 L') (mT : eT ∈ rest) (hlt : ∀ p ∈ [x1, x2, x3, x4, x5, x6, x7, x8, x9, x10, x11, x12, eT], @LT.lt Nat _ L' p.1) (hnews : ∀ p ∈ news, p ∈ rest) (hs : ∀ p ∈ fr, p ∈ rest) (ho : ∀ p ∈ fr, p ∈ fz ∨ @LT.lt Nat _ L' p.1)
    (h : ∀ tl, (∀ p ∈ [x1, x2, x3, x4, x5, x6, x7, x8, x9, x10, x11, x12, eT], p ∈ fz ++ tl) → (∀ p ∈ fr, p ∈ fz ++ tl) → Tab56 (fz ++ tl) ps ∧ Tab63 (fz ++ tl) pz ∧ IsProg w (fz ++ tl) r text hits) :
    Q r { s with heap := h', toks := tk' } := by
  exact ret_prog (front := [x1, x2, x3, x4, x5, x6, x7, x8, x9, x10, x11, x12, eT]) (rest := rest) (fr := fr) hret F N hL h63 (mat 12 rfl) (mat 13 rfl) (fun p hp => ⟨(allc (mat 0 rfl) (allc (mat 1 rfl) (allc (mat 2 rfl) (allc (mat 3 rfl) (allc (mat 4 rfl) (allc (mat 5 rfl) (allc (mat 6 rfl) (allc (mat 7 rfl) (allc (mat 8 rfl) (allc (mat 9 rfl) (allc (mat 10 rfl) (allc (mat 11 rfl) (allc (mdr 14 rfl mT) (alln))))))))))))) : ∀ q ∈ [x1, x2, x3, x4, x5, x6, x7, x8, x9, x10, x11, x12, eT], q ∈ x1 :: x2 :: x3 :: x4 :: x5 :: x6 :: x7 :: x8 :: x9 :: x10 :: x11 :: x12 :: (56, tabObj ps) :: (63, tabObj pz) :: rest) p hp, hlt p hp⟩) (fun p hp => mdr 14 rfl hp) hnews hs ho h
theorem ret_progB {w : World} {text : Str} {hits : List (Int × Int)} {news fz rest fr : List (Addr × Obj)} {ps pz : Array Value} {h₀ h' : Heap} {L L' : Addr} {m : Str → Option Value} {s : Shared} {Q : Value → Shared → Prop} {r : Value} {tk' : Nat} {x1 x2 x3 x4 x5 x6 x7 x8 x9 x10 eT : Addr × Obj}
    (hret : ∀ r nx h' tk', Fr h₀ L h' m → News h₀ L h' nx → RetProg w news fz text hits nx r → Q r { s with heap := h', toks := tk' })
    (F : Fr h₀ L h' m) (N : News h₀ L h' (x1 :: x2 :: x3 :: x4 :: x5 :: x6 :: x7 :: x8 :: x9 :: x10 :: (56, tabObj ps) :: (63, tabObj pz) :: rest)) (hL : AllLt L' news) (h63 : @LT.lt Nat _ 63 L') (mT : eT ∈ rest) (hlt : ∀ p ∈ [x1, x2, x3, x4, x5, x6, x7, x8, x9, x10, eT], @LT.lt Nat _ L' p.1) (hnews : ∀ p ∈ news, p ∈ rest) (hs : ∀ p ∈ fr, p ∈ rest) (ho : ∀ p ∈ fr, p ∈ fz ∨ @LT.lt Nat _ L' p.1)
    (h : ∀ tl, (∀ p ∈ [x1, x2, x3, x4, x5, x6, x7, x8, x9, x10, eT], p ∈ fz ++ tl) → (∀ p ∈ fr, p ∈ fz ++ tl) → Tab56 (fz ++ tl) ps ∧ Tab63 (fz ++ tl) pz ∧ IsProg w (fz ++ tl) r text hits) :
    Q r { s with heap := h', toks := tk' } := by
  exact ret_prog (front := [x1, x2, x3, x4, x5, x6, x7, x8, x9, x10, eT]) (rest := rest) (fr := fr) hret F N hL h63 (mat 10 rfl) (mat 11 rfl) (fun p hp => ⟨(allc (mat 0 rfl) (allc (mat 1 rfl) (allc (mat 2 rfl) (allc (mat 3 rfl) (allc (mat 4 rfl) (allc (mat 5 rfl) (allc (mat 6 rfl) (allc (mat 7 rfl) (allc (mat 8 rfl) (allc (mat 9 rfl) (allc (mdr 12 rfl mT) (alln))))))))))) : ∀ q ∈ [x1, x2, x3, x4, x5, x6, x7, x8, x9, x10, eT], q ∈ x1 :: x2 :: x3 :: x4 :: x5 :: x6 :: x7 :: x8 :: x9 :: x10 :: (56, tabObj ps) :: (63, tabObj pz) :: rest) p hp, hlt p hp⟩) (fun p hp => mdr 12 rfl hp) hnews hs ho h
theorem seats_ends {ss : List (Option (Int × Int))} {n p : Nat} {o : Option (Int × Int)} (h : ss[p]? = o.map some) :
    (∀ s, (ss ++ List.replicate n none)[p]? = some s → s = o) ∧ (¬ p < (ss ++ List.replicate n none).length → o = none) := by
  cases o with
  | none =>
    refine ⟨fun s hs => ?_, fun _ => rfl⟩
    have hp : ss.length ≤ p := by simpa using h
    rw [List.getElem?_append_right hp] at hs
    exact (List.mem_replicate.mp (List.mem_of_getElem? hs)).2
  | some x =>
    have h' : ss[p]? = some (some x) := h
    have hp : p < ss.length := (List.getElem?_eq_some_iff.mp h').1
    refine ⟨fun s hs => ?_, fun hn => absurd (by simp; omega) hn⟩
    rw [List.getElem?_append_left hp, h'] at hs
    exact (Option.some.inj hs).symm
theorem lt1 {a b : Nat} (h : a + 1 < b) : a < b := Nat.lt_of_succ_lt h
theorem lt4 {a b : Nat} (h : a + 1 + 1 + 1 + 1 < b) : a < b := lt1 (lt1 (lt1 (lt1 h)))
theorem lt5 {a : Nat} : a < a + 1 := Nat.lt_succ_self a
theorem lt6 {a : Nat} : a < a + 1 + 1 := Nat.lt_succ_of_lt lt5
theorem lt7 {a : Nat} : a < a + 1 + 1 + 1 := Nat.lt_succ_of_lt lt6
theorem lt8 {a : Nat} : a < a + 1 + 1 + 1 + 1 := Nat.lt_succ_of_lt lt7
theorem reg_Prog_3 : True := by
  k_with "my ar2" => first | (refine lt4 ?_; walk_at "lt") | exact lt5 | exact lt6 | exact lt7 | exact lt8 | (refine Nat.le_of_lt ?_; exact lt8) | (refine Nat.le_of_lt ?_; exact lt7) | (refine Nat.le_of_lt ?_; refine lt4 ?_; walk_at "lt") | (refine Nat.ne_of_lt ?_; exact lt5) | (refine Nat.ne_of_lt ?_; exact lt6) | (refine Nat.ne_of_lt ?_; exact lt7) | (refine Nat.ne_of_gt ?_; first | exact lt5 | exact lt6 | exact lt7)
  k_with "my enter dflt" => (refine' kdv_code ?k1 ?k2 ?k3 ?k4 ?k5 ?kA ?kF ?kK ?k6 ?k7 ?k8 ?k9 ?kB ?_ ?c2 ?c3 ?c4 ?c5; (case kA => exact rfl); (case kF => exact rfl); (case kK => assumption); (case k1 => k_asm); (case k2 => k_asm); (case k3 => k_asm); (case k4 => k_asm); (case k5 => k_asm); (case k6 => k_mem); (case k7 => exact codeRec_news (by k_asm) (by k_mem) (by assumption) (by assumption)); (case k8 => ktr_room); (case k9 => kdv_bind); (case c5 => decide); (case kB => exact locs rfl); (case c2 => exact rfl); (case c3 => exact rfl); (case c4 => exact rfl); k_whole; walk_at "i9")
  trivial
theorem prog_tells {w : World} (text : Str) (tt : Tok) (lr : Addr) (vs : List Value) (nr : Nat) (items : List Item) (key : Str) (tk : Tok) (news : List (Addr × Obj)) (hn : ∀ p ∈ news, p.1 ≠ 56) (hn2 : ∀ p ∈ news, p.1 ≠ 63) (hr : (lr, listOf vs.toArray nr) ∈ news) (hIt : DatAll news vs (items.map Item.dat))
    (hsz : vs.length ≤ 1000) (ps : Array Value) (fz : List (Addr × Obj)) (hfz : ∀ p ∈ fz, p ∈ news) (hps : Tab56 fz ps) (pz : Array Value) (hpz : Tab63 fz pz) (hinc : Incr 0 (hitsOf key items)) (hbd : ∀ h ∈ hitsOf key items, h.2 ≤ 1000) (htx : text.length ≤ 1000) :
   Tells w 66 3 [.str text tt, .ref lr, .str key tk] ((56, tabObj ps) :: (63, tabObj pz) :: news) (RetProg w news fz text (hitsOf key items)) := by
  revert w text tt lr vs nr items key tk news ps fz pz
  refine no_implicit_lambda% (closedW ?_)
  with_reducible generalize wit _ _ = w
  refine no_implicit_lambda% (@id (Unit → _) ?_ ())
  refine no_implicit_lambda% (closed10 ?_)
  with_reducible generalize wit _ _ = tQ
  with_reducible generalize Prod.fst (Prod.snd (tQ)) = text
  with_reducible generalize Prod.fst (Prod.snd (Prod.snd (tQ))) = tt
  with_reducible generalize Prod.fst (Prod.snd (Prod.snd (Prod.snd (tQ)))) = lr
  with_reducible generalize Prod.fst (Prod.snd (Prod.snd (Prod.snd (Prod.snd (tQ))))) = vs
  with_reducible generalize Prod.fst (Prod.snd (Prod.snd (Prod.snd (Prod.snd (Prod.snd (tQ)))))) = nr
  with_reducible generalize Prod.fst (Prod.snd (Prod.snd (Prod.snd (Prod.snd (Prod.snd (Prod.snd (tQ))))))) = items
  with_reducible generalize Prod.fst (Prod.snd (Prod.snd (Prod.snd (Prod.snd (Prod.snd (Prod.snd (Prod.snd (tQ)))))))) = key
  with_reducible generalize Prod.fst (Prod.snd (Prod.snd (Prod.snd (Prod.snd (Prod.snd (Prod.snd (Prod.snd (Prod.snd (tQ))))))))) = tk
  with_reducible generalize Prod.snd (Prod.snd (Prod.snd (Prod.snd (Prod.snd (Prod.snd (Prod.snd (Prod.snd (Prod.snd (tQ))))))))) = news
  clear tQ
  intro hn hn2 hr hIt hsz
  refine no_implicit_lambda% (@id (Unit → _) ?_ ())
  refine no_implicit_lambda% (closed3 ?_)
  with_reducible generalize wit _ _ = tQ
  with_reducible generalize Prod.fst (Prod.snd (tQ)) = ps
  with_reducible generalize Prod.snd (Prod.snd (tQ)) = fz
  clear tQ
  intro hfz hps
  refine no_implicit_lambda% (closed ?_)
  with_reducible generalize wit _ _ = pz
  intro hpz hinc hbd htx
  refine tells_close ?_
  unfold TellsAt
  with_reducible generalize TV.p _ = p
  with_reducible generalize TV.loose _ = loose
  with_reducible generalize TV.mean _ = mean
  with_reducible generalize TV.mg _ = mg
  with_reducible generalize TV.mb _ = mb
  with_reducible generalize TV.dp _ = dp
  with_reducible generalize TV.un _ = un
  with_reducible generalize TV.gd _ = gd
  with_reducible generalize TV.cn _ = cn
  with_reducible generalize TV.cs _ = cs
  with_reducible generalize TV.a _ = a
  with_reducible generalize TV.ccd _ = ccd
  with_reducible generalize TV.cl _ = cl
  with_reducible generalize TV.outer _ = outer
  with_reducible generalize TV.A₀ _ = A₀
  with_reducible generalize TV.base _ = base
  with_reducible generalize TV.h₀ _ = h₀
  with_reducible generalize TV.L _ = L
  with_reducible generalize TV.m _ = m
  with_reducible generalize TV.s _ = s
  with_reducible generalize TV.Q _ = Q
  with_reducible generalize TV.E _ = E
  k_fill
  intro X B F N T hk hdp hun hret
  refine wpAny_call ?_
  k_dflt (walk_at "enter cells")
  rename_i g' L' h' tk' FG' F' B' X' T' l1 oS oB oK oT d1 d2 d3 d4 N'
  replace F' : Fr g' L' h' (fun y => if y = PySem.Str.ofString "row" then some (.ref lr) else none) := F'
  replace d1 : oS.data = .cell none := d1
  replace d2 : oB.data = .cell none := d2
  replace d3 : oK.data = .cell (some (.str key tk)) := d3
  replace d4 : oT.data = .cell (some (.str text tt)) := d4
  have C : CodeHd _ 65 63 := codeHd_of_K (c := 65) (P := 63) (show (Mine.hd.heap_39 w.params).In _ from by assumption) (by kernel_rfl)
  have hL : AllLt _ news := (by first | exact And.right (And.right (by assumption)) | exact allLt_of (by assumption))
  k_steps
  rename_i lh h5 a2 ls h4 a1 D0 h3 a0 h2 h1 h0 oS F0 N0 dS
  rename_i yA64
  clear h1 h2 h3 h4 h5 tk' h'
  revert FG' B' X' T' l1 d1 d2 d3 d4 C hL a2 a1 a0 F0 N0 dS
  revert g' L' yA64 oB oK oT lh ls D0 h0 oS tk
  refine no_implicit_lambda% (@id (Unit → Unit → _) ?_ () ())
  refine no_implicit_lambda% (closed14 ?_)
  with_reducible generalize wit _ _ = tQ
  with_reducible generalize Prod.fst (Prod.snd (Prod.snd (tQ))) = g'
  with_reducible generalize Prod.fst (Prod.snd (Prod.snd (Prod.snd (tQ)))) = L'
  with_reducible generalize Prod.fst (Prod.snd (Prod.snd (Prod.snd (Prod.snd (tQ))))) = yA64
  with_reducible generalize Prod.fst (Prod.snd (Prod.snd (Prod.snd (Prod.snd (Prod.snd (tQ)))))) = oB
  with_reducible generalize Prod.fst (Prod.snd (Prod.snd (Prod.snd (Prod.snd (Prod.snd (Prod.snd (tQ))))))) = oK
  with_reducible generalize Prod.fst (Prod.snd (Prod.snd (Prod.snd (Prod.snd (Prod.snd (Prod.snd (Prod.snd (tQ)))))))) = oT
  with_reducible generalize Prod.fst (Prod.snd (Prod.snd (Prod.snd (Prod.snd (Prod.snd (Prod.snd (Prod.snd (Prod.snd (tQ))))))))) = lh
  with_reducible generalize Prod.fst (Prod.snd (Prod.snd (Prod.snd (Prod.snd (Prod.snd (Prod.snd (Prod.snd (Prod.snd (Prod.snd (tQ)))))))))) = ls
  with_reducible generalize Prod.fst (Prod.snd (Prod.snd (Prod.snd (Prod.snd (Prod.snd (Prod.snd (Prod.snd (Prod.snd (Prod.snd (Prod.snd (tQ))))))))))) = D0
  with_reducible generalize Prod.fst (Prod.snd (Prod.snd (Prod.snd (Prod.snd (Prod.snd (Prod.snd (Prod.snd (Prod.snd (Prod.snd (Prod.snd (Prod.snd (tQ)))))))))))) = h0
  with_reducible generalize Prod.fst (Prod.snd (Prod.snd (Prod.snd (Prod.snd (Prod.snd (Prod.snd (Prod.snd (Prod.snd (Prod.snd (Prod.snd (Prod.snd (Prod.snd (tQ))))))))))))) = oS
  with_reducible generalize Prod.snd (Prod.snd (Prod.snd (Prod.snd (Prod.snd (Prod.snd (Prod.snd (Prod.snd (Prod.snd (Prod.snd (Prod.snd (Prod.snd (Prod.snd (tQ))))))))))))) = tk
  clear tQ
  intro FG' B' X' T' l1 d1 d2 d3 d4 C hL a2 a1 a0 F0 N0 dS
  refine LCt.CompSrcT.ledger (its := vs.toArray) (k := nr) rfl F0 N0 (by k_mem) (by rw [List.size_toArray]; rw [sizeLine_eq]; omega) ?_
  intro g
  rw [List.size_toArray]
  refine compT_rest (fun i ys nx => ∃ tl, nx = tl ++ _ ∧ (∀ p ∈ tl, @LT.lt Nat _ D0 p.1) ∧ DatAll tl ys ((hitsOf key (items.take i)).map pairD)) ⟨[], rfl, (fun _ h => nomatch h), DatAll.nil⟩ ?_ ?_
  · rintro i v ys nx I oI C oC D m₂ h tk E' hi hv ⟨tl, rfl, htl, hD⟩ hC hx F1 N1 off ne
    obtain ⟨it, hit, hd⟩ := datAll_at hIt (by simpa using hv)
    obtain ⟨ai, ni, t0, t1, t2, u, rfl, mi, hu⟩ := datIn_item hd
    dsimp only
    k_steps
    · rename_i hkey a' h' F' N' l1
      have hDa : @LT.lt Nat _ D0 a' := ktn_ltOf l1.2.2.2 (D0, _) (List.mem_append.mpr (.inr (.head _)))
      refine LCg.CompEnd.intro F' N' ((a', ({ cls := .type "tuple", data := .seq #[.int it.first t1, .int it.behind t2] } : Obj)) :: (tl ++ _)) ?_ ⟨⟨Nat.ne_of_gt l1.1, Nat.ne_of_gt l1.2.1, Nat.ne_of_gt l1.2.2.1⟩, off⟩ (.inr ⟨_, .tail _ (List.mem_append.mpr (.inr (by k_mem))), rfl, _, rfl⟩) ⟨(a', _) :: tl, rfl, List.forall_mem_cons.mpr ⟨hDa, htl⟩, ?_⟩
      · intro p hp
        rcases List.mem_cons.mp hp with rfl | hp
        · exact .tail _ (.head _)
        · rcases List.mem_cons.mp hp with rfl | hp
          · exact .tail _ (.tail _ (.head _))
          · rcases List.mem_cons.mp hp with rfl | hp
            · exact .tail _ (.tail _ (.tail _ (.head _)))
            · rcases List.mem_cons.mp hp with rfl | hp
              · exact .head _
              · exact .tail _ (.tail _ (.tail _ (.tail _ hp)))
      · rw [hitsOf_yes hit (by simpa using hkey), List.map_append]
        exact (hD.mono fun p hp => .tail _ hp).append (.one (dat_pair (.head _) (.int _ _) (.int _ _)))
    · rename_i hkey
      refine LCg.CompEnd.intro F1 N1 (tl ++ _) (fun p hp => hp) off (.inr ⟨_, List.mem_append.mpr (.inr (by k_mem)), rfl, _, rfl⟩) ⟨tl, rfl, htl, ?_⟩
      rw [hitsOf_no hit (by simpa using hkey)]
      exact hD
  · rintro ys nx ⟨tl, rfl, htl, hD⟩ D h tk F1 N1 off
    dsimp only
    rw [List.take_of_length_le (by have := hIt.length; rw [List.length_map] at this; omega)] at hD
    refine iter_listX (nn := ys.length) (news := (lh, listOf ([] : List Value).toArray 0) :: (ls, listOf ([] : List Value).toArray 0) :: (L' + 1 + 1 + 1 + 1, oS) :: (L' + 1 + 1 + 1, oB) :: (56, tabObj ps) :: (63, tabObj pz) :: ((D, LCg.lst ys) :: (tl ++ (L' + 1 + 1, oK) :: (L' + 1, oT) :: news))) (progJ w L' lh ls pz (hitsOf key items) fz ((D, LCg.lst ys) :: (tl ++ (L' + 1 + 1, oK) :: (L' + 1, oT) :: news))) (by passes_own) rfl (by k_mem) F1 ?nw ?hj ?turn ?done
    case nw => exact prog_reorder N1
    case hj =>
      have eD : ∀ p ∈ tl ++ (D0, ({ cls := .type "tuple", data := .seq #[.ref lh, .ref ls] } : Obj)) :: (ls, listOf #[] 0) :: (lh, listOf #[] 0) :: (L' + 1 + 1 + 1 + 1, oS) :: (L' + 1 + 1 + 1, oB) :: (L' + 1 + 1, oK) :: (L' + 1, oT) :: (56, tabObj ps) :: (63, tabObj pz) :: news, @Ne Nat p.1 D := off1_mem off
      have ne_of (c : Addr) (hc : @Ne Nat c D) (h1 : @LE.le Nat _ c D0) (h2 : @Ne Nat (L' + 1 + 1) c) (h3 : @Ne Nat (L' + 1) c) (h5 : ∀ p ∈ news, p.1 ≠ c) : ∀ p ∈ (D, LCg.lst ys) :: (tl ++ (L' + 1 + 1, oK) :: (L' + 1, oT) :: news), p.1 ≠ c := by
        intro p hp
        simp only [List.mem_cons, List.mem_append] at hp
        rcases hp with rfl | hp | rfl | rfl | hp
        · exact Ne.symm hc
        · exact Nat.ne_of_gt (Nat.lt_of_le_of_lt h1 (htl p hp))
        · exact h2
        · exact h3
        · exact h5 p hp
      have nL : ∀ (c : Addr), @LE.le Nat _ L' c → ∀ p ∈ news, p.1 ≠ c := fun c hc => ne_above hL hc
      refine ⟨[], 0, [], 0, oS, oB, ps, _, none, fz, rfl, dS, d2, hps, (fun _ h => h), ?_, ?_, ?_, ?_, ?_, SeatsAre.nil, SeatsAre.nil, rfl, ?_, (fun p hp => .tail _ (List.mem_append.mpr (.inr (.tail _ (.tail _ (hfz p hp)))))), (fun p hp => .inl hp)⟩
      · exact ne_of lh (eD (lh, _) (by k_mem)) (by walk_at "ar") (by walk_at "ar") (by walk_at "ar") (nL _ (by walk_at "ar"))
      · exact ne_of ls (eD (ls, _) (by k_mem)) (by walk_at "ar") (by walk_at "ar") (by walk_at "ar") (nL _ (by walk_at "ar"))
      · exact ne_of _ (eD (L' + 1 + 1 + 1 + 1, _) (by k_mem)) (by walk_at "ar") (by walk_at "ar") (by walk_at "ar") (nL _ (by walk_at "ar"))
      · exact ne_of _ (eD (L' + 1 + 1 + 1, _) (by k_mem)) (by walk_at "ar") (by walk_at "ar") (by walk_at "ar") (nL _ (by walk_at "ar"))
      · exact ne_of 56 (eD (56, _) (by k_mem)) (by walk_at "ar") (by walk_at "ar") (by walk_at "ar") hn
      · exact ne_of 63 (eD (63, _) (by k_mem)) (by walk_at "ar") (by walk_at "ar") (by walk_at "ar") hn2
    case done =>
      rintro m₁ nx h tk ⟨hvl, nh, sv, ns, oS', oB', ps', rest, vB, fr, rfl, j1, j2, j3, j4, j5, j6, j7, j8, j9, j10, j11, j12, j13, j14, j15⟩ hlm F2 N2
      have hlen : ys.length = (hitsOf key items).length := by have := hD.length; rw [List.length_map] at this; exact this
      rw [hlen, List.take_length] at j10 j11
      have hsv : (sv.length : Int) ≤ 1000 := by
        rw [j11.length]
        exact seats_len hinc hbd (by omega)
      have F3 := fr_puts F2 (.cons j12 .nil)
      simp only [putsM] at F3
      clear F2
      have mT : (L' + 1, oT) ∈ rest := j4 _ (.tail _ (List.mem_append.mpr (.inr (.tail _ (.head _)))))
      dsimp only
      rename_i yC90 yC91
      clear yC91 g
      revert htl hD F1 N1 off j1 j2 j3 j4 j5 j6 j7 j8 j9 j10 j11 j12 j13 j14 j15 hlm N2 hlen hsv F3 mT
      revert ys tl D yC90 m₁ h tk hvl nh sv ns oS' oB' ps' rest vB fr
      refine no_implicit_lambda% (@id (Unit → Unit → _) ?_ () ())
      refine no_implicit_lambda% (closed19 ?_)
      with_reducible generalize wit _ _ = tQ
      with_reducible generalize Prod.fst (Prod.snd (Prod.snd (tQ))) = ys
      with_reducible generalize Prod.fst (Prod.snd (Prod.snd (Prod.snd (tQ)))) = tl
      with_reducible generalize Prod.fst (Prod.snd (Prod.snd (Prod.snd (Prod.snd (tQ))))) = D
      with_reducible generalize Prod.fst (Prod.snd (Prod.snd (Prod.snd (Prod.snd (Prod.snd (tQ)))))) = yC90
      with_reducible generalize Prod.fst (Prod.snd (Prod.snd (Prod.snd (Prod.snd (Prod.snd (Prod.snd (tQ))))))) = m₁
      with_reducible generalize Prod.fst (Prod.snd (Prod.snd (Prod.snd (Prod.snd (Prod.snd (Prod.snd (Prod.snd (tQ)))))))) = h
      with_reducible generalize Prod.fst (Prod.snd (Prod.snd (Prod.snd (Prod.snd (Prod.snd (Prod.snd (Prod.snd (Prod.snd (tQ))))))))) = tk
      with_reducible generalize Prod.fst (Prod.snd (Prod.snd (Prod.snd (Prod.snd (Prod.snd (Prod.snd (Prod.snd (Prod.snd (Prod.snd (tQ)))))))))) = hvl
      with_reducible generalize Prod.fst (Prod.snd (Prod.snd (Prod.snd (Prod.snd (Prod.snd (Prod.snd (Prod.snd (Prod.snd (Prod.snd (Prod.snd (tQ))))))))))) = nh
      with_reducible generalize Prod.fst (Prod.snd (Prod.snd (Prod.snd (Prod.snd (Prod.snd (Prod.snd (Prod.snd (Prod.snd (Prod.snd (Prod.snd (Prod.snd (tQ)))))))))))) = sv
      with_reducible generalize Prod.fst (Prod.snd (Prod.snd (Prod.snd (Prod.snd (Prod.snd (Prod.snd (Prod.snd (Prod.snd (Prod.snd (Prod.snd (Prod.snd (Prod.snd (tQ))))))))))))) = ns
      with_reducible generalize Prod.fst (Prod.snd (Prod.snd (Prod.snd (Prod.snd (Prod.snd (Prod.snd (Prod.snd (Prod.snd (Prod.snd (Prod.snd (Prod.snd (Prod.snd (Prod.snd (tQ)))))))))))))) = oS'
      with_reducible generalize Prod.fst (Prod.snd (Prod.snd (Prod.snd (Prod.snd (Prod.snd (Prod.snd (Prod.snd (Prod.snd (Prod.snd (Prod.snd (Prod.snd (Prod.snd (Prod.snd (Prod.snd (tQ))))))))))))))) = oB'
      with_reducible generalize Prod.fst (Prod.snd (Prod.snd (Prod.snd (Prod.snd (Prod.snd (Prod.snd (Prod.snd (Prod.snd (Prod.snd (Prod.snd (Prod.snd (Prod.snd (Prod.snd (Prod.snd (Prod.snd (tQ)))))))))))))))) = ps'
      with_reducible generalize Prod.fst (Prod.snd (Prod.snd (Prod.snd (Prod.snd (Prod.snd (Prod.snd (Prod.snd (Prod.snd (Prod.snd (Prod.snd (Prod.snd (Prod.snd (Prod.snd (Prod.snd (Prod.snd (Prod.snd (tQ))))))))))))))))) = rest
      with_reducible generalize Prod.fst (Prod.snd (Prod.snd (Prod.snd (Prod.snd (Prod.snd (Prod.snd (Prod.snd (Prod.snd (Prod.snd (Prod.snd (Prod.snd (Prod.snd (Prod.snd (Prod.snd (Prod.snd (Prod.snd (Prod.snd (tQ)))))))))))))))))) = vB
      with_reducible generalize Prod.snd (Prod.snd (Prod.snd (Prod.snd (Prod.snd (Prod.snd (Prod.snd (Prod.snd (Prod.snd (Prod.snd (Prod.snd (Prod.snd (Prod.snd (Prod.snd (Prod.snd (Prod.snd (Prod.snd (Prod.snd (tQ)))))))))))))))))) = fr
      clear tQ
      intro htl hD F1 N1 off j1 j2 j3 j4 j5 j6 j7 j8 j9 j10 j11 j12 j13 j14 j15 hlm N2 hlen hsv F3 mT
      rcases hpz with rfl | ⟨c1, c2, oc1, vs1, t1, oc2, vs2, t2, rfl, n1, e1, e2, n2, e3, e4⟩
      all_goals k_steps
      · rename_i lN hv9 l15 aM hv8 l14 hv7 nF F1' N1' hv6 oE dE tD hv5 l13 fS cS ocS vsS tS ctS dcS hv4 tkS d1S d2S l12 l21 hv3 fP cP ocP vsP tP ctP hv2 tkP d1P d2P l11 l20 hv1 dP hvZ tkA tkB FA NA l10 kF kN Tc kX
        have jS := j11.append (SeatsAre.replicate (news := fr) (w := w) (v := Value.none) (o := none) rfl ((text.length : Int) + 2 - sv.length).toNat)
        refine' ret_progA (eT := (L' + 1, oT)) hret kF kN hL l1.2.1 mT ?_ (fun p hp => j4 p (.tail _ (List.mem_append.mpr (.inr (.tail _ (.tail _ hp)))))) j14 j15 ?_
        · simp only [List.forall_mem_cons]
          refine ⟨?_, ?_, ?_, ?_, ?_, ?_, ?_, ?_, ?_, ?_, ?_, ?_, ?_, fun _ h => nomatch h⟩
          all_goals walk_at "ar"
        · intro tl hf hr
          have f1 := hf _ (.head _)
          have f2 := hf _ (.tail _ (.head _))
          have f3 := hf _ (.tail _ (.tail _ (.head _)))
          have f4 := hf _ (.tail _ (.tail _ (.tail _ (.head _))))
          have f5 := hf _ (.tail _ (.tail _ (.tail _ (.tail _ (.head _)))))
          have f6 := hf _ (.tail _ (.tail _ (.tail _ (.tail _ (.tail _ (.head _))))))
          have f7 := hf _ (.tail _ (.tail _ (.tail _ (.tail _ (.tail _ (.tail _ (.tail _ (.tail _ (.tail _ (.head _))))))))))
          have f8 := hf _ (.tail _ (.tail _ (.tail _ (.tail _ (.tail _ (.tail _ (.tail _ (.tail _ (.tail _ (.tail _ (.head _)))))))))))
          have f9 := hf _ (.tail _ (.tail _ (.tail _ (.tail _ (.tail _ (.tail _ (.tail _ (.tail _ (.tail _ (.tail _ (.tail _ (.tail _ (.head _)))))))))))))
          refine ⟨j3.mono hr, .inr ⟨_, _, _, _, _, _, _, _, rfl, f5, d1S, d2S, f3, d1P, d2P⟩, ?_⟩
          refine ⟨_, _, _, _, _, _, _, _, _, rfl, f2, f1, f4, fun nw hs t => ?_, fun nw hs k i j t tp hk => ?_⟩
          · replace f4 := hs _ f4
            replace f5 := hs _ f5
            replace f6 := hs _ f6
            replace f7 := hs _ f7
            replace f8 := hs _ f8
            replace f9 := hs _ f9
            have jS' := jS.mono fun p hp => hs p (hr p hp)
            have hq := seats_ends (n := ((text.length : Int) + 2 - sv.length).toNat) (seats_zero hinc)
            rename_i yD112 _ _ _
            clear hs f3 f2 f1 hr hf jS kX Tc kN kF l10 NA FA l20 l11 d2P d1P l21 l12 l13 N1' F1' l14 l15 hlm off N mT hlen j15 j14 j13 j12 j11 j10 j9 j8 j7 j6 j5 j4 j3 j2 j1 hD htl dS a0 a1 a2 hL d3 d2 d1 l1 T' X' B' FG' hret hun hdp hk T F B X hbd hinc hps hfz hsz hIt yD112 hn2 hn
            clear tl tkB tkA hvZ dP hv1 tkP hv2 ctP tP vsP ocP cP fP hv3 tkS hv4 hv5 hv6 hv7 hv8 aM hv9 lN
            revert dE d1S d2S f4 f5 f6 f7 f8 f9 jS'
            revert nF oE tk tD fS cS ocS vsS tS ctS dcS nw t
            refine no_implicit_lambda% (@id (Unit → _) ?_ ())
            refine no_implicit_lambda% (closed14 ?_)
            with_reducible generalize wit _ _ = tQ
            with_reducible generalize Prod.fst (Prod.snd (tQ)) = nF
            with_reducible generalize Prod.fst (Prod.snd (Prod.snd (tQ))) = oE
            with_reducible generalize Prod.fst (Prod.snd (Prod.snd (Prod.snd (tQ)))) = tk
            with_reducible generalize Prod.fst (Prod.snd (Prod.snd (Prod.snd (Prod.snd (tQ))))) = tD
            with_reducible generalize Prod.fst (Prod.snd (Prod.snd (Prod.snd (Prod.snd (Prod.snd (tQ)))))) = fS
            with_reducible generalize Prod.fst (Prod.snd (Prod.snd (Prod.snd (Prod.snd (Prod.snd (Prod.snd (tQ))))))) = cS
            with_reducible generalize Prod.fst (Prod.snd (Prod.snd (Prod.snd (Prod.snd (Prod.snd (Prod.snd (Prod.snd (tQ)))))))) = ocS
            with_reducible generalize Prod.fst (Prod.snd (Prod.snd (Prod.snd (Prod.snd (Prod.snd (Prod.snd (Prod.snd (Prod.snd (tQ))))))))) = vsS
            with_reducible generalize Prod.fst (Prod.snd (Prod.snd (Prod.snd (Prod.snd (Prod.snd (Prod.snd (Prod.snd (Prod.snd (Prod.snd (tQ)))))))))) = tS
            with_reducible generalize Prod.fst (Prod.snd (Prod.snd (Prod.snd (Prod.snd (Prod.snd (Prod.snd (Prod.snd (Prod.snd (Prod.snd (Prod.snd (tQ))))))))))) = ctS
            with_reducible generalize Prod.fst (Prod.snd (Prod.snd (Prod.snd (Prod.snd (Prod.snd (Prod.snd (Prod.snd (Prod.snd (Prod.snd (Prod.snd (Prod.snd (tQ)))))))))))) = dcS
            with_reducible generalize Prod.fst (Prod.snd (Prod.snd (Prod.snd (Prod.snd (Prod.snd (Prod.snd (Prod.snd (Prod.snd (Prod.snd (Prod.snd (Prod.snd (Prod.snd (tQ))))))))))))) = nw
            with_reducible generalize Prod.snd (Prod.snd (Prod.snd (Prod.snd (Prod.snd (Prod.snd (Prod.snd (Prod.snd (Prod.snd (Prod.snd (Prod.snd (Prod.snd (Prod.snd (tQ))))))))))))) = t
            clear tQ
            intro dE d1S d2S f4 f5 f6 f7 f8 f9 jS'
            refine tells_close ?_
            unfold TellsAt
            with_reducible generalize TV.p _ = p
            with_reducible generalize TV.loose _ = loose
            with_reducible generalize TV.mean _ = mean
            with_reducible generalize TV.mg _ = mg
            with_reducible generalize TV.mb _ = mb
            with_reducible generalize TV.dp _ = dp
            with_reducible generalize TV.un _ = un
            with_reducible generalize TV.gd _ = gd
            with_reducible generalize TV.cn _ = cn
            with_reducible generalize TV.cs _ = cs
            with_reducible generalize TV.a _ = a
            with_reducible generalize TV.ccd _ = ccd
            with_reducible generalize TV.cl _ = cl
            with_reducible generalize TV.outer _ = outer
            with_reducible generalize TV.A₀ _ = A₀
            with_reducible generalize TV.base _ = base
            with_reducible generalize TV.h₀ _ = h₀
            with_reducible generalize TV.L _ = L
            with_reducible generalize TV.m _ = m
            with_reducible generalize TV.s _ = s
            with_reducible generalize TV.Q _ = Q
            with_reducible generalize TV.E _ = E
            intro X B F N T hk hdp hun hret
            refine wpAny_call ?_
            k_dflt (walk_at "enter dflt")
            k_steps
            · have hlt := (by assumption : (0 : Int) < ((sv ++ List.replicate ((text.length : Int) + 2 - sv.length).toNat Value.none).length : Int))
              obtain ⟨v, hv⟩ : ∃ v, (sv ++ List.replicate ((text.length : Int) + 2 - sv.length).toNat Value.none)[(0 : Int).toNat]? = some v := ⟨_, List.getElem?_eq_getElem (by omega)⟩
              refine' list_item (k := 0) (v := v) ?kN f7 ?h0 ?h1 hv ?_
              (case kN => assumption)
              (case h0 => omega)
              (case h1 => omega)
              k_steps
              obtain ⟨o, ho, hs⟩ := jS'.get hv
              have e := hq.1 _ ho
              subst e
              exact hret _ _ _ _ (by assumption) (by assumption) ⟨rfl, hs⟩
            · have hlt := (by assumption : ¬ (0 : Int) < ((sv ++ List.replicate ((text.length : Int) + 2 - sv.length).toNat Value.none).length : Int))
              refine hret _ _ _ _ (by assumption) (by assumption) ⟨rfl, ?_⟩
              rw [hq.2 (by rw [← jS'.length]; omega)]
              exact rfl
            · have hne := (by assumption : (text == text) = false)
              simp at hne
          · replace f4 := hs _ f4
            replace f5 := hs _ f5
            replace f6 := hs _ f6
            replace f7 := hs _ f7
            replace f8 := hs _ f8
            replace f9 := hs _ f9
            have jS' := jS.mono fun p hp => hs p (hr p hp)
            have hj0 : 0 ≤ j ∧ j ≤ 1000 := by
              have h1 := hinc.mem _ (List.mem_of_getElem? hk)
              have h2 := hbd _ (List.mem_of_getElem? hk)
              dsimp only at h1 h2
              omega
            have hq := seats_ends (n := ((text.length : Int) + 2 - sv.length).toNat) (seats_at (ss := []) hinc hk)
            replace hq : (∀ s, (seatsP (hitsOf key items) ++ List.replicate ((text.length : Int) + 2 - sv.length).toNat none)[j.toNat]? = some s → s = (hitsOf key items)[k + 1]?) ∧ (¬ j.toNat < (seatsP (hitsOf key items) ++ List.replicate ((text.length : Int) + 2 - sv.length).toNat none).length → (hitsOf key items)[k + 1]? = none) := hq
            rename_i yD212 yD248 _ _ _
            clear hk hs f3 f2 f1 hr hf jS kX Tc kN kF l10 NA FA l20 l11 d2P d1P l21 l12 l13 N1' F1' l14 l15 hlm off N mT hlen j15 j14 j13 j12 j11 j10 j9 j8 j7 j6 j5 j4 j3 j2 j1 hD htl dS a0 a1 a2 hL d3 d2 d1 l1 T' X' B' FG' hret hun hdp yD248 T F B X hbd hinc hps hfz hsz hIt yD212 hn2 hn
            clear i tl tkB tkA hvZ dP hv1 tkP hv2 ctP tP vsP ocP cP fP hv3 tkS hv4 hv5 hv6 hv7 hv8 aM hv9 lN
            revert dE d1S d2S f4 f5 f6 f7 f8 f9 jS' hj0 hq
            revert nF oE tk tD fS cS ocS vsS tS ctS dcS nw k j t tp
            refine no_implicit_lambda% (@id (Unit → Unit → Unit → _) ?_ () () ())
            refine no_implicit_lambda% (closed19 ?_)
            with_reducible generalize wit _ _ = tQ
            with_reducible generalize Prod.fst (Prod.snd (Prod.snd (Prod.snd (tQ)))) = nF
            with_reducible generalize Prod.fst (Prod.snd (Prod.snd (Prod.snd (Prod.snd (tQ))))) = oE
            with_reducible generalize Prod.fst (Prod.snd (Prod.snd (Prod.snd (Prod.snd (Prod.snd (tQ)))))) = tk
            with_reducible generalize Prod.fst (Prod.snd (Prod.snd (Prod.snd (Prod.snd (Prod.snd (Prod.snd (tQ))))))) = tD
            with_reducible generalize Prod.fst (Prod.snd (Prod.snd (Prod.snd (Prod.snd (Prod.snd (Prod.snd (Prod.snd (tQ)))))))) = fS
            with_reducible generalize Prod.fst (Prod.snd (Prod.snd (Prod.snd (Prod.snd (Prod.snd (Prod.snd (Prod.snd (Prod.snd (tQ))))))))) = cS
            with_reducible generalize Prod.fst (Prod.snd (Prod.snd (Prod.snd (Prod.snd (Prod.snd (Prod.snd (Prod.snd (Prod.snd (Prod.snd (tQ)))))))))) = ocS
            with_reducible generalize Prod.fst (Prod.snd (Prod.snd (Prod.snd (Prod.snd (Prod.snd (Prod.snd (Prod.snd (Prod.snd (Prod.snd (Prod.snd (tQ))))))))))) = vsS
            with_reducible generalize Prod.fst (Prod.snd (Prod.snd (Prod.snd (Prod.snd (Prod.snd (Prod.snd (Prod.snd (Prod.snd (Prod.snd (Prod.snd (Prod.snd (tQ)))))))))))) = tS
            with_reducible generalize Prod.fst (Prod.snd (Prod.snd (Prod.snd (Prod.snd (Prod.snd (Prod.snd (Prod.snd (Prod.snd (Prod.snd (Prod.snd (Prod.snd (Prod.snd (tQ))))))))))))) = ctS
            with_reducible generalize Prod.fst (Prod.snd (Prod.snd (Prod.snd (Prod.snd (Prod.snd (Prod.snd (Prod.snd (Prod.snd (Prod.snd (Prod.snd (Prod.snd (Prod.snd (Prod.snd (tQ)))))))))))))) = dcS
            with_reducible generalize Prod.fst (Prod.snd (Prod.snd (Prod.snd (Prod.snd (Prod.snd (Prod.snd (Prod.snd (Prod.snd (Prod.snd (Prod.snd (Prod.snd (Prod.snd (Prod.snd (Prod.snd (tQ))))))))))))))) = nw
            with_reducible generalize Prod.fst (Prod.snd (Prod.snd (Prod.snd (Prod.snd (Prod.snd (Prod.snd (Prod.snd (Prod.snd (Prod.snd (Prod.snd (Prod.snd (Prod.snd (Prod.snd (Prod.snd (Prod.snd (tQ)))))))))))))))) = k
            with_reducible generalize Prod.fst (Prod.snd (Prod.snd (Prod.snd (Prod.snd (Prod.snd (Prod.snd (Prod.snd (Prod.snd (Prod.snd (Prod.snd (Prod.snd (Prod.snd (Prod.snd (Prod.snd (Prod.snd (Prod.snd (tQ))))))))))))))))) = j
            with_reducible generalize Prod.fst (Prod.snd (Prod.snd (Prod.snd (Prod.snd (Prod.snd (Prod.snd (Prod.snd (Prod.snd (Prod.snd (Prod.snd (Prod.snd (Prod.snd (Prod.snd (Prod.snd (Prod.snd (Prod.snd (Prod.snd (tQ)))))))))))))))))) = t
            with_reducible generalize Prod.snd (Prod.snd (Prod.snd (Prod.snd (Prod.snd (Prod.snd (Prod.snd (Prod.snd (Prod.snd (Prod.snd (Prod.snd (Prod.snd (Prod.snd (Prod.snd (Prod.snd (Prod.snd (Prod.snd (Prod.snd (tQ)))))))))))))))))) = tp
            clear tQ
            intro dE d1S d2S f4 f5 f6 f7 f8 f9 jS' hj0 hq
            refine tells_close ?_
            unfold TellsAt
            with_reducible generalize TV.p _ = p
            with_reducible generalize TV.loose _ = loose
            with_reducible generalize TV.mean _ = mean
            with_reducible generalize TV.mg _ = mg
            with_reducible generalize TV.mb _ = mb
            with_reducible generalize TV.dp _ = dp
            with_reducible generalize TV.un _ = un
            with_reducible generalize TV.gd _ = gd
            with_reducible generalize TV.cn _ = cn
            with_reducible generalize TV.cs _ = cs
            with_reducible generalize TV.a _ = a
            with_reducible generalize TV.ccd _ = ccd
            with_reducible generalize TV.cl _ = cl
            with_reducible generalize TV.outer _ = outer
            with_reducible generalize TV.A₀ _ = A₀
            with_reducible generalize TV.base _ = base
            with_reducible generalize TV.h₀ _ = h₀
            with_reducible generalize TV.L _ = L
            with_reducible generalize TV.m _ = m
            with_reducible generalize TV.s _ = s
            with_reducible generalize TV.Q _ = Q
            with_reducible generalize TV.E _ = E
            intro X B F N T hkk hdp hun hret
            refine wpAny_call ?_
            k_dflt (walk_at "enter dflt")
            k_steps
            · have hlt := (by assumption : (j : Int) < ((sv ++ List.replicate ((text.length : Int) + 2 - sv.length).toNat Value.none).length : Int))
              obtain ⟨v, hv⟩ : ∃ v, (sv ++ List.replicate ((text.length : Int) + 2 - sv.length).toNat Value.none)[(j : Int).toNat]? = some v := ⟨_, List.getElem?_eq_getElem (by omega)⟩
              refine' list_item (k := j) (v := v) ?kN f7 ?h0 ?h1 hv ?_
              (case kN => assumption)
              (case h0 => omega)
              (case h1 => omega)
              k_steps
              obtain ⟨o, ho, hs⟩ := jS'.get hv
              have e := hq.1 _ ho
              subst e
              exact hret _ _ _ _ (by assumption) (by assumption) ⟨rfl, hs⟩
            · have hlt := (by assumption : ¬ (j : Int) < ((sv ++ List.replicate ((text.length : Int) + 2 - sv.length).toNat Value.none).length : Int))
              refine hret _ _ _ _ (by assumption) (by assumption) ⟨rfl, ?_⟩
              rw [hq.2 (by rw [← jS'.length]; omega)]
              exact rfl
            · have hne := (by assumption : (text == text) = false)
              simp at hne
      · rename_i lN hv9 l15 aM hv8 l14 hv7 nF F1' N1' hv6 oE dE tD hv5 l13 fS ctS dcS hv4 tkS l12 hv3 fP ctP hv2 tkP l11 hv1 dP hvZ tkA tkB FA NA l10 kF kN Tc kX
        have jS := j11.append (SeatsAre.replicate (news := fr) (w := w) (v := Value.none) (o := none) rfl ((text.length : Int) + 2 - sv.length).toNat)
        refine' ret_progB (eT := (L' + 1, oT)) hret kF kN hL l1.2.1 mT ?_ (fun p hp => j4 p (.tail _ (List.mem_append.mpr (.inr (.tail _ (.tail _ hp)))))) j14 j15 ?_
        · simp only [List.forall_mem_cons]
          refine ⟨?_, ?_, ?_, ?_, ?_, ?_, ?_, ?_, ?_, ?_, ?_, fun _ h => nomatch h⟩
          all_goals walk_at "ar"
        · intro tl hf hr
          have f1 := hf _ (.head _)
          have f2 := hf _ (.tail _ (.head _))
          have f4 := hf _ (.tail _ (.tail _ (.head _)))
          have f6 := hf _ (.tail _ (.tail _ (.tail _ (.head _))))
          have f7 := hf _ (.tail _ (.tail _ (.tail _ (.tail _ (.tail _ (.tail _ (.tail _ (.head _))))))))
          have f8 := hf _ (.tail _ (.tail _ (.tail _ (.tail _ (.tail _ (.tail _ (.tail _ (.tail _ (.head _)))))))))
          have f9 := hf _ (.tail _ (.tail _ (.tail _ (.tail _ (.tail _ (.tail _ (.tail _ (.tail _ (.tail _ (.tail _ (.head _)))))))))))
          have f5 := List.mem_append.mpr (Or.inl (b := (c1, oc1) ∈ tl) n1)
          have f3 := List.mem_append.mpr (Or.inl (b := (c2, oc2) ∈ tl) n2)
          refine ⟨j3.mono hr, .inr ⟨_, _, _, _, _, _, _, _, rfl, f5, e1, e2, f3, e3, e4⟩, ?_⟩
          refine ⟨_, _, _, _, _, _, _, _, _, rfl, f2, f1, f4, fun nw hs t => ?_, fun nw hs k i j t tp hk => ?_⟩
          · replace f4 := hs _ f4
            replace f5 := hs _ f5
            replace f6 := hs _ f6
            replace f7 := hs _ f7
            replace f8 := hs _ f8
            replace f9 := hs _ f9
            have jS' := jS.mono fun p hp => hs p (hr p hp)
            have hq := seats_ends (n := ((text.length : Int) + 2 - sv.length).toNat) (seats_zero hinc)
            rename_i yD312 _ _ _
            clear hs f3 f2 f1 hr hf jS kX Tc kN kF l10 NA FA l11 l12 l13 N1' F1' l14 l15 e4 e3 n2 n1 hlm off N mT hlen j15 j14 j13 j12 j11 j10 j9 j8 j7 j6 j5 j4 j3 j2 j1 hD htl dS a0 a1 a2 hL d3 d2 d1 l1 T' X' B' FG' hret hun hdp hk T F B X hbd hinc hps hfz hsz hIt yD312 hn2 hn
            clear tl tkB tkA hvZ dP hv1 tkP hv2 ctP fP hv3 tkS hv4 hv5 hv6 hv7 hv8 aM hv9 lN t2 vs2 oc2 c2
            revert e1 e2 dE f4 f5 f6 f7 f8 f9 jS'
            revert c1 oc1 vs1 t1 nF oE tk tD fS ctS dcS nw t
            refine no_implicit_lambda% (@id (Unit → _) ?_ ())
            refine no_implicit_lambda% (closed14 ?_)
            with_reducible generalize wit _ _ = tQ
            with_reducible generalize Prod.fst (Prod.snd (tQ)) = c1
            with_reducible generalize Prod.fst (Prod.snd (Prod.snd (tQ))) = oc1
            with_reducible generalize Prod.fst (Prod.snd (Prod.snd (Prod.snd (tQ)))) = vs1
            with_reducible generalize Prod.fst (Prod.snd (Prod.snd (Prod.snd (Prod.snd (tQ))))) = t1
            with_reducible generalize Prod.fst (Prod.snd (Prod.snd (Prod.snd (Prod.snd (Prod.snd (tQ)))))) = nF
            with_reducible generalize Prod.fst (Prod.snd (Prod.snd (Prod.snd (Prod.snd (Prod.snd (Prod.snd (tQ))))))) = oE
            with_reducible generalize Prod.fst (Prod.snd (Prod.snd (Prod.snd (Prod.snd (Prod.snd (Prod.snd (Prod.snd (tQ)))))))) = tk
            with_reducible generalize Prod.fst (Prod.snd (Prod.snd (Prod.snd (Prod.snd (Prod.snd (Prod.snd (Prod.snd (Prod.snd (tQ))))))))) = tD
            with_reducible generalize Prod.fst (Prod.snd (Prod.snd (Prod.snd (Prod.snd (Prod.snd (Prod.snd (Prod.snd (Prod.snd (Prod.snd (tQ)))))))))) = fS
            with_reducible generalize Prod.fst (Prod.snd (Prod.snd (Prod.snd (Prod.snd (Prod.snd (Prod.snd (Prod.snd (Prod.snd (Prod.snd (Prod.snd (tQ))))))))))) = ctS
            with_reducible generalize Prod.fst (Prod.snd (Prod.snd (Prod.snd (Prod.snd (Prod.snd (Prod.snd (Prod.snd (Prod.snd (Prod.snd (Prod.snd (Prod.snd (tQ)))))))))))) = dcS
            with_reducible generalize Prod.fst (Prod.snd (Prod.snd (Prod.snd (Prod.snd (Prod.snd (Prod.snd (Prod.snd (Prod.snd (Prod.snd (Prod.snd (Prod.snd (Prod.snd (tQ))))))))))))) = nw
            with_reducible generalize Prod.snd (Prod.snd (Prod.snd (Prod.snd (Prod.snd (Prod.snd (Prod.snd (Prod.snd (Prod.snd (Prod.snd (Prod.snd (Prod.snd (Prod.snd (tQ))))))))))))) = t
            clear tQ
            intro e1 e2 dE f4 f5 f6 f7 f8 f9 jS'
            refine tells_close ?_
            unfold TellsAt
            with_reducible generalize TV.p _ = p
            with_reducible generalize TV.loose _ = loose
            with_reducible generalize TV.mean _ = mean
            with_reducible generalize TV.mg _ = mg
            with_reducible generalize TV.mb _ = mb
            with_reducible generalize TV.dp _ = dp
            with_reducible generalize TV.un _ = un
            with_reducible generalize TV.gd _ = gd
            with_reducible generalize TV.cn _ = cn
            with_reducible generalize TV.cs _ = cs
            with_reducible generalize TV.a _ = a
            with_reducible generalize TV.ccd _ = ccd
            with_reducible generalize TV.cl _ = cl
            with_reducible generalize TV.outer _ = outer
            with_reducible generalize TV.A₀ _ = A₀
            with_reducible generalize TV.base _ = base
            with_reducible generalize TV.h₀ _ = h₀
            with_reducible generalize TV.L _ = L
            with_reducible generalize TV.m _ = m
            with_reducible generalize TV.s _ = s
            with_reducible generalize TV.Q _ = Q
            with_reducible generalize TV.E _ = E
            intro X B F N T hk hdp hun hret
            refine wpAny_call ?_
            k_dflt (walk_at "enter dflt")
            k_steps
            · have hlt := (by assumption : (0 : Int) < ((sv ++ List.replicate ((text.length : Int) + 2 - sv.length).toNat Value.none).length : Int))
              obtain ⟨v, hv⟩ : ∃ v, (sv ++ List.replicate ((text.length : Int) + 2 - sv.length).toNat Value.none)[(0 : Int).toNat]? = some v := ⟨_, List.getElem?_eq_getElem (by omega)⟩
              refine' list_item (k := 0) (v := v) ?kN f7 ?h0 ?h1 hv ?_
              (case kN => assumption)
              (case h0 => omega)
              (case h1 => omega)
              k_steps
              obtain ⟨o, ho, hs⟩ := jS'.get hv
              have e := hq.1 _ ho
              subst e
              exact hret _ _ _ _ (by assumption) (by assumption) ⟨rfl, hs⟩
            · have hlt := (by assumption : ¬ (0 : Int) < ((sv ++ List.replicate ((text.length : Int) + 2 - sv.length).toNat Value.none).length : Int))
              refine hret _ _ _ _ (by assumption) (by assumption) ⟨rfl, ?_⟩
              rw [hq.2 (by rw [← jS'.length]; omega)]
              exact rfl
            · have hne := (by assumption : (text == text) = false)
              simp at hne
          · replace f4 := hs _ f4
            replace f5 := hs _ f5
            replace f6 := hs _ f6
            replace f7 := hs _ f7
            replace f8 := hs _ f8
            replace f9 := hs _ f9
            have jS' := jS.mono fun p hp => hs p (hr p hp)
            have hj0 : 0 ≤ j ∧ j ≤ 1000 := by
              have h1 := hinc.mem _ (List.mem_of_getElem? hk)
              have h2 := hbd _ (List.mem_of_getElem? hk)
              dsimp only at h1 h2
              omega
            have hq := seats_ends (n := ((text.length : Int) + 2 - sv.length).toNat) (seats_at (ss := []) hinc hk)
            replace hq : (∀ s, (seatsP (hitsOf key items) ++ List.replicate ((text.length : Int) + 2 - sv.length).toNat none)[j.toNat]? = some s → s = (hitsOf key items)[k + 1]?) ∧ (¬ j.toNat < (seatsP (hitsOf key items) ++ List.replicate ((text.length : Int) + 2 - sv.length).toNat none).length → (hitsOf key items)[k + 1]? = none) := hq
            rename_i yD412 yD448 _ _ _
            clear hk hs f3 f2 f1 hr hf jS kX Tc kN kF l10 NA FA l11 l12 l13 N1' F1' l14 l15 e4 e3 n2 n1 hlm off N mT hlen j15 j14 j13 j12 j11 j10 j9 j8 j7 j6 j5 j4 j3 j2 j1 hD htl dS a0 a1 a2 hL d3 d2 d1 l1 T' X' B' FG' hret hun hdp yD448 T F B X hbd hinc hps hfz hsz hIt yD412 hn2 hn
            clear i tl tkB tkA hvZ dP hv1 tkP hv2 ctP fP hv3 tkS hv4 hv5 hv6 hv7 hv8 aM hv9 lN t2 vs2 oc2 c2
            revert e1 e2 dE f4 f5 f6 f7 f8 f9 jS' hj0 hq
            revert c1 oc1 vs1 t1 nF oE tk tD fS ctS dcS nw k j t tp
            refine no_implicit_lambda% (@id (Unit → Unit → Unit → _) ?_ () () ())
            refine no_implicit_lambda% (closed19 ?_)
            with_reducible generalize wit _ _ = tQ
            with_reducible generalize Prod.fst (Prod.snd (Prod.snd (Prod.snd (tQ)))) = c1
            with_reducible generalize Prod.fst (Prod.snd (Prod.snd (Prod.snd (Prod.snd (tQ))))) = oc1
            with_reducible generalize Prod.fst (Prod.snd (Prod.snd (Prod.snd (Prod.snd (Prod.snd (tQ)))))) = vs1
            with_reducible generalize Prod.fst (Prod.snd (Prod.snd (Prod.snd (Prod.snd (Prod.snd (Prod.snd (tQ))))))) = t1
            with_reducible generalize Prod.fst (Prod.snd (Prod.snd (Prod.snd (Prod.snd (Prod.snd (Prod.snd (Prod.snd (tQ)))))))) = nF
            with_reducible generalize Prod.fst (Prod.snd (Prod.snd (Prod.snd (Prod.snd (Prod.snd (Prod.snd (Prod.snd (Prod.snd (tQ))))))))) = oE
            with_reducible generalize Prod.fst (Prod.snd (Prod.snd (Prod.snd (Prod.snd (Prod.snd (Prod.snd (Prod.snd (Prod.snd (Prod.snd (tQ)))))))))) = tk
            with_reducible generalize Prod.fst (Prod.snd (Prod.snd (Prod.snd (Prod.snd (Prod.snd (Prod.snd (Prod.snd (Prod.snd (Prod.snd (Prod.snd (tQ))))))))))) = tD
            with_reducible generalize Prod.fst (Prod.snd (Prod.snd (Prod.snd (Prod.snd (Prod.snd (Prod.snd (Prod.snd (Prod.snd (Prod.snd (Prod.snd (Prod.snd (tQ)))))))))))) = fS
            with_reducible generalize Prod.fst (Prod.snd (Prod.snd (Prod.snd (Prod.snd (Prod.snd (Prod.snd (Prod.snd (Prod.snd (Prod.snd (Prod.snd (Prod.snd (Prod.snd (tQ))))))))))))) = ctS
            with_reducible generalize Prod.fst (Prod.snd (Prod.snd (Prod.snd (Prod.snd (Prod.snd (Prod.snd (Prod.snd (Prod.snd (Prod.snd (Prod.snd (Prod.snd (Prod.snd (Prod.snd (tQ)))))))))))))) = dcS
            with_reducible generalize Prod.fst (Prod.snd (Prod.snd (Prod.snd (Prod.snd (Prod.snd (Prod.snd (Prod.snd (Prod.snd (Prod.snd (Prod.snd (Prod.snd (Prod.snd (Prod.snd (Prod.snd (tQ))))))))))))))) = nw
            with_reducible generalize Prod.fst (Prod.snd (Prod.snd (Prod.snd (Prod.snd (Prod.snd (Prod.snd (Prod.snd (Prod.snd (Prod.snd (Prod.snd (Prod.snd (Prod.snd (Prod.snd (Prod.snd (Prod.snd (tQ)))))))))))))))) = k
            with_reducible generalize Prod.fst (Prod.snd (Prod.snd (Prod.snd (Prod.snd (Prod.snd (Prod.snd (Prod.snd (Prod.snd (Prod.snd (Prod.snd (Prod.snd (Prod.snd (Prod.snd (Prod.snd (Prod.snd (Prod.snd (tQ))))))))))))))))) = j
            with_reducible generalize Prod.fst (Prod.snd (Prod.snd (Prod.snd (Prod.snd (Prod.snd (Prod.snd (Prod.snd (Prod.snd (Prod.snd (Prod.snd (Prod.snd (Prod.snd (Prod.snd (Prod.snd (Prod.snd (Prod.snd (Prod.snd (tQ)))))))))))))))))) = t
            with_reducible generalize Prod.snd (Prod.snd (Prod.snd (Prod.snd (Prod.snd (Prod.snd (Prod.snd (Prod.snd (Prod.snd (Prod.snd (Prod.snd (Prod.snd (Prod.snd (Prod.snd (Prod.snd (Prod.snd (Prod.snd (Prod.snd (tQ)))))))))))))))))) = tp
            clear tQ
            intro e1 e2 dE f4 f5 f6 f7 f8 f9 jS' hj0 hq
            refine tells_close ?_
            unfold TellsAt
            with_reducible generalize TV.p _ = p
            with_reducible generalize TV.loose _ = loose
            with_reducible generalize TV.mean _ = mean
            with_reducible generalize TV.mg _ = mg
            with_reducible generalize TV.mb _ = mb
            with_reducible generalize TV.dp _ = dp
            with_reducible generalize TV.un _ = un
            with_reducible generalize TV.gd _ = gd
            with_reducible generalize TV.cn _ = cn
            with_reducible generalize TV.cs _ = cs
            with_reducible generalize TV.a _ = a
            with_reducible generalize TV.ccd _ = ccd
            with_reducible generalize TV.cl _ = cl
            with_reducible generalize TV.outer _ = outer
            with_reducible generalize TV.A₀ _ = A₀
            with_reducible generalize TV.base _ = base
            with_reducible generalize TV.h₀ _ = h₀
            with_reducible generalize TV.L _ = L
            with_reducible generalize TV.m _ = m
            with_reducible generalize TV.s _ = s
            with_reducible generalize TV.Q _ = Q
            with_reducible generalize TV.E _ = E
            intro X B F N T hkk hdp hun hret
            refine wpAny_call ?_
            k_dflt (walk_at "enter dflt")
            k_steps
            · have hlt := (by assumption : (j : Int) < ((sv ++ List.replicate ((text.length : Int) + 2 - sv.length).toNat Value.none).length : Int))
              obtain ⟨v, hv⟩ : ∃ v, (sv ++ List.replicate ((text.length : Int) + 2 - sv.length).toNat Value.none)[(j : Int).toNat]? = some v := ⟨_, List.getElem?_eq_getElem (by omega)⟩
              refine' list_item (k := j) (v := v) ?kN f7 ?h0 ?h1 hv ?_
              (case kN => assumption)
              (case h0 => omega)
              (case h1 => omega)
              k_steps
              obtain ⟨o, ho, hs⟩ := jS'.get hv
              have e := hq.1 _ ho
              subst e
              exact hret _ _ _ _ (by assumption) (by assumption) ⟨rfl, hs⟩
            · have hlt := (by assumption : ¬ (j : Int) < ((sv ++ List.replicate ((text.length : Int) + 2 - sv.length).toNat Value.none).length : Int))
              refine hret _ _ _ _ (by assumption) (by assumption) ⟨rfl, ?_⟩
              rw [hq.2 (by rw [← jS'.length]; omega)]
              exact rfl
            · have hne := (by assumption : (text == text) = false)
              simp at hne
    rintro I i v m₁ nx h tk oI hI hv hne hlm ⟨hvl, nh, sv, ns, oS', oB', ps', rest, vB, fr, rfl, j1, j2, j3, j4, j5, j6, j7, j8, j9, j10, j11, j12, j13, j14, j15⟩ F2 N2
    obtain ⟨x, hx, hdx⟩ := datAll_pair hD hv
    obtain ⟨ap, np, t1, t2, rfl, mp⟩ := datIn_pair hdx
    have mp' := j4 _ (.tail _ (List.mem_append.mpr (.inl mp)))
    have q1 : @Ne Nat lh I := hne _ (.head _)
    have q2 : @Ne Nat ls I := hne _ (.tail _ (.head _))
    have q3 : @Ne Nat (L' + 1 + 1 + 1 + 1) I := hne _ (.tail _ (.tail _ (.head _)))
    have q4 : @Ne Nat (L' + 1 + 1 + 1) I := hne _ (.tail _ (.tail _ (.tail _ (.head _))))
    have q5 : @Ne Nat 56 I := hne _ (.tail _ (.tail _ (.tail _ (.tail _ (.head _)))))
    have q7 : @Ne Nat 63 I := hne _ (.tail _ (.tail _ (.tail _ (.tail _ (.tail _ (.head _))))))
    have q6 : ∀ p ∈ rest, p.1 ≠ I := fun p hp => hne _ (.tail _ (.tail _ (.tail _ (.tail _ (.tail _ (.tail _ hp))))))
    have F3 := fr_puts F2 (.cons j12 .nil)
    simp only [putsM] at F3
    clear F2
    dsimp only
    rename_i yB90 yB91
    clear yB91 g
    revert htl hD F1 N1 off hI hne hlm j1 j2 j3 j4 j5 j6 j7 j8 j9 j10 j11 j12 j13 j14 j15 N2 hx mp hv hdx mp' q1 q2 q3 q4 q5 q7 q6 F3
    revert ys tl D yB90 I i m₁ h tk oI hvl nh sv ns oS' oB' ps' rest vB fr x ap np t1 t2
    refine no_implicit_lambda% (closed24 ?_)
    with_reducible generalize wit _ _ = tQ
    with_reducible generalize Prod.fst (tQ) = ys
    with_reducible generalize Prod.fst (Prod.snd (tQ)) = tl
    with_reducible generalize Prod.fst (Prod.snd (Prod.snd (tQ))) = D
    with_reducible generalize Prod.fst (Prod.snd (Prod.snd (Prod.snd (tQ)))) = yB90
    with_reducible generalize Prod.fst (Prod.snd (Prod.snd (Prod.snd (Prod.snd (tQ))))) = I
    with_reducible generalize Prod.fst (Prod.snd (Prod.snd (Prod.snd (Prod.snd (Prod.snd (tQ)))))) = i
    with_reducible generalize Prod.fst (Prod.snd (Prod.snd (Prod.snd (Prod.snd (Prod.snd (Prod.snd (tQ))))))) = m₁
    with_reducible generalize Prod.fst (Prod.snd (Prod.snd (Prod.snd (Prod.snd (Prod.snd (Prod.snd (Prod.snd (tQ)))))))) = h
    with_reducible generalize Prod.fst (Prod.snd (Prod.snd (Prod.snd (Prod.snd (Prod.snd (Prod.snd (Prod.snd (Prod.snd (tQ))))))))) = tk
    with_reducible generalize Prod.fst (Prod.snd (Prod.snd (Prod.snd (Prod.snd (Prod.snd (Prod.snd (Prod.snd (Prod.snd (Prod.snd (tQ)))))))))) = oI
    with_reducible generalize Prod.fst (Prod.snd (Prod.snd (Prod.snd (Prod.snd (Prod.snd (Prod.snd (Prod.snd (Prod.snd (Prod.snd (Prod.snd (tQ))))))))))) = hvl
    with_reducible generalize Prod.fst (Prod.snd (Prod.snd (Prod.snd (Prod.snd (Prod.snd (Prod.snd (Prod.snd (Prod.snd (Prod.snd (Prod.snd (Prod.snd (tQ)))))))))))) = nh
    with_reducible generalize Prod.fst (Prod.snd (Prod.snd (Prod.snd (Prod.snd (Prod.snd (Prod.snd (Prod.snd (Prod.snd (Prod.snd (Prod.snd (Prod.snd (Prod.snd (tQ))))))))))))) = sv
    with_reducible generalize Prod.fst (Prod.snd (Prod.snd (Prod.snd (Prod.snd (Prod.snd (Prod.snd (Prod.snd (Prod.snd (Prod.snd (Prod.snd (Prod.snd (Prod.snd (Prod.snd (tQ)))))))))))))) = ns
    with_reducible generalize Prod.fst (Prod.snd (Prod.snd (Prod.snd (Prod.snd (Prod.snd (Prod.snd (Prod.snd (Prod.snd (Prod.snd (Prod.snd (Prod.snd (Prod.snd (Prod.snd (Prod.snd (tQ))))))))))))))) = oS'
    with_reducible generalize Prod.fst (Prod.snd (Prod.snd (Prod.snd (Prod.snd (Prod.snd (Prod.snd (Prod.snd (Prod.snd (Prod.snd (Prod.snd (Prod.snd (Prod.snd (Prod.snd (Prod.snd (Prod.snd (tQ)))))))))))))))) = oB'
    with_reducible generalize Prod.fst (Prod.snd (Prod.snd (Prod.snd (Prod.snd (Prod.snd (Prod.snd (Prod.snd (Prod.snd (Prod.snd (Prod.snd (Prod.snd (Prod.snd (Prod.snd (Prod.snd (Prod.snd (Prod.snd (tQ))))))))))))))))) = ps'
    with_reducible generalize Prod.fst (Prod.snd (Prod.snd (Prod.snd (Prod.snd (Prod.snd (Prod.snd (Prod.snd (Prod.snd (Prod.snd (Prod.snd (Prod.snd (Prod.snd (Prod.snd (Prod.snd (Prod.snd (Prod.snd (Prod.snd (tQ)))))))))))))))))) = rest
    with_reducible generalize Prod.fst (Prod.snd (Prod.snd (Prod.snd (Prod.snd (Prod.snd (Prod.snd (Prod.snd (Prod.snd (Prod.snd (Prod.snd (Prod.snd (Prod.snd (Prod.snd (Prod.snd (Prod.snd (Prod.snd (Prod.snd (Prod.snd (tQ))))))))))))))))))) = vB
    with_reducible generalize Prod.fst (Prod.snd (Prod.snd (Prod.snd (Prod.snd (Prod.snd (Prod.snd (Prod.snd (Prod.snd (Prod.snd (Prod.snd (Prod.snd (Prod.snd (Prod.snd (Prod.snd (Prod.snd (Prod.snd (Prod.snd (Prod.snd (Prod.snd (tQ)))))))))))))))))))) = fr
    with_reducible generalize Prod.fst (Prod.snd (Prod.snd (Prod.snd (Prod.snd (Prod.snd (Prod.snd (Prod.snd (Prod.snd (Prod.snd (Prod.snd (Prod.snd (Prod.snd (Prod.snd (Prod.snd (Prod.snd (Prod.snd (Prod.snd (Prod.snd (Prod.snd (Prod.snd (tQ))))))))))))))))))))) = x
    with_reducible generalize Prod.fst (Prod.snd (Prod.snd (Prod.snd (Prod.snd (Prod.snd (Prod.snd (Prod.snd (Prod.snd (Prod.snd (Prod.snd (Prod.snd (Prod.snd (Prod.snd (Prod.snd (Prod.snd (Prod.snd (Prod.snd (Prod.snd (Prod.snd (Prod.snd (Prod.snd (tQ)))))))))))))))))))))) = ap
    with_reducible generalize Prod.fst (Prod.snd (Prod.snd (Prod.snd (Prod.snd (Prod.snd (Prod.snd (Prod.snd (Prod.snd (Prod.snd (Prod.snd (Prod.snd (Prod.snd (Prod.snd (Prod.snd (Prod.snd (Prod.snd (Prod.snd (Prod.snd (Prod.snd (Prod.snd (Prod.snd (Prod.snd (tQ))))))))))))))))))))))) = np
    with_reducible generalize Prod.snd (Prod.snd (Prod.snd (Prod.snd (Prod.snd (Prod.snd (Prod.snd (Prod.snd (Prod.snd (Prod.snd (Prod.snd (Prod.snd (Prod.snd (Prod.snd (Prod.snd (Prod.snd (Prod.snd (Prod.snd (Prod.snd (Prod.snd (Prod.snd (Prod.snd (Prod.snd (tQ))))))))))))))))))))))) = t1
    clear tQ
    refine no_implicit_lambda% (closed ?_)
    with_reducible generalize wit _ _ = t2
    intro htl hD F1 N1 off hI hne hlm j1 j2 j3 j4 j5 j6 j7 j8 j9 j10 j11 j12 j13 j14 j15 N2 hx mp hv hdx mp' q1 q2 q3 q4 q5 q7 q6 F3
    k_steps
    rename_i hX oB2 F4 N4 dB2
    refine' tells_use (hit_tells x.1 x.2 _ _ ps' ([(I, oI), (lh, listOf hvl.toArray nh), (ls, listOf sv.toArray ns), (L' + 1 + 1 + 1 + 1, oS'), (L' + 1 + 1 + 1, oB2)] ++ ((63, tabObj pz) :: rest)) fr ?hn j3) ?k1 ?k2 ?k3 ?k4 ?k5 ?k6 ?k7 ?k8 ?_; (case k1 => k_asm); (case k2 => k_asm); (case k3 => k_asm); (case k4 => exact news_swap (front := [(I, oI), (lh, _), (ls, _), (L' + 1 + 1 + 1 + 1, oS'), (L' + 1 + 1 + 1, oB2)]) N4); (case k5 => k_asm); (case k6 => exact rfl); (case k7 => ktr_room); (case k8 => ktr_units)
    case hn =>
      intro p hp
      simp only [List.cons_append, List.nil_append, List.mem_cons] at hp
      rcases hp with rfl | rfl | rfl | rfl | rfl | rfl | hp
      · exact Ne.symm q5
      · exact neN (by dsimp only; omega)
      · exact neN (by dsimp only; omega)
      · exact neN (by dsimp only; omega)
      · exact neN (by dsimp only; omega)
      · exact neN (by dsimp only; decide)
      · exact j9 p hp
    rintro r nx h tk F5 N5 ⟨ps2, tl2, rfl, hT2, ho2, h56, hH⟩
    have N6 := news_back (front := [(I, oI), (lh, _), (ls, _), (L' + 1 + 1 + 1 + 1, oS'), (L' + 1 + 1 + 1, oB2)]) N5
    clear N5 N4
    simp only [List.cons_append, List.nil_append] at N6
    obtain ⟨rest2, hr2⟩ : ∃ r, r = rest ++ tl2 := ⟨_, rfl⟩
    rw [← hr2] at N6
    obtain ⟨fr2, hf2⟩ : ∃ r, r = fr ++ tl2 := ⟨_, rfl⟩
    rw [← hf2] at hT2 hH
    have up2 : ∀ p ∈ rest2, p ∈ rest ∨ p ∈ tl2 := fun p hp => by rw [hr2] at hp; exact List.mem_append.mp hp
    have sub2 : ∀ p ∈ rest, p ∈ rest2 := fun p hp => by rw [hr2]; exact List.mem_append.mpr (.inl hp)
    have fs2 : ∀ p ∈ fr2, p ∈ rest2 := fun p hp => by
      rw [hf2] at hp; rw [hr2]
      exact List.mem_append.mpr ((List.mem_append.mp hp).imp (j14 p) id)
    have fo2 : ∀ p ∈ fr2, p ∈ fz ∨ @LT.lt Nat _ L' p.1 := fun p hp => by
      rw [hf2] at hp
      rcases List.mem_append.mp hp with hp | hp
      · exact j15 p hp
      · have := ho2 p hp (L' + 1 + 1 + 1, _) (.tail _ (.tail _ (.tail _ (.tail _ (.head _)))))
        exact .inr (Nat.lt_of_le_of_lt (by dsimp only; omega) this)
    have fsub2 : ∀ p ∈ fr, p ∈ fr2 := fun p hp => by rw [hf2]; exact List.mem_append.mpr (.inl hp)
    have b5 : ∀ p ∈ rest2, p.1 ≠ lh := fun p hp => (up2 p hp).elim (j5 p) fun h => Nat.ne_of_gt (ho2 p h (lh, _) (.tail _ (.head _)))
    have b6 : ∀ p ∈ rest2, p.1 ≠ ls := fun p hp => (up2 p hp).elim (j6 p) fun h => Nat.ne_of_gt (ho2 p h (ls, _) (.tail _ (.tail _ (.head _))))
    have b7 : ∀ p ∈ rest2, p.1 ≠ L' + 1 + 1 + 1 + 1 := fun p hp => (up2 p hp).elim (j7 p) fun h => Nat.ne_of_gt (ho2 p h (L' + 1 + 1 + 1 + 1, _) (.tail _ (.tail _ (.tail _ (.head _)))))
    have b8 : ∀ p ∈ rest2, p.1 ≠ L' + 1 + 1 + 1 := fun p hp => (up2 p hp).elim (j8 p) fun h => Nat.ne_of_gt (ho2 p h (L' + 1 + 1 + 1, _) (.tail _ (.tail _ (.tail _ (.tail _ (.head _))))))
    have b9 : ∀ p ∈ rest2, p.1 ≠ 56 := fun p hp => (up2 p hp).elim (j9 p) fun h => Nat.ne_of_gt (h56 p h)
    have b10 : ∀ p ∈ rest2, p.1 ≠ 63 := fun p hp => (up2 p hp).elim (j13 p) fun h => Nat.ne_of_gt (ho2 p h (63, _) (.tail _ (.tail _ (.tail _ (.tail _ (.tail _ (.head _)))))))
    have bI : ∀ p ∈ rest2, p.1 ≠ I := fun p hp => (up2 p hp).elim (q6 p) fun h => Nat.ne_of_gt (ho2 p h (I, _) (.head _))
    dsimp only
    rename_i yE140 yE141 yE142 yE143 yE148
    clear yE148 yE143
    revert yE141 yE142 F4 dB2 F5 ho2 h56 N6 hr2 hH hT2 hf2 up2 sub2 fs2 fo2 fsub2 b5 b6 b7 b8 b9 b10 bI
    revert yE140 hX oB2 r h tk ps2 tl2 rest2 fr2
    refine no_implicit_lambda% (closed10 ?_)
    with_reducible generalize wit _ _ = tQ
    with_reducible generalize Prod.fst (tQ) = yE140
    with_reducible generalize Prod.fst (Prod.snd (tQ)) = hX
    with_reducible generalize Prod.fst (Prod.snd (Prod.snd (tQ))) = oB2
    with_reducible generalize Prod.fst (Prod.snd (Prod.snd (Prod.snd (tQ)))) = r
    with_reducible generalize Prod.fst (Prod.snd (Prod.snd (Prod.snd (Prod.snd (tQ))))) = h
    with_reducible generalize Prod.fst (Prod.snd (Prod.snd (Prod.snd (Prod.snd (Prod.snd (tQ)))))) = tk
    with_reducible generalize Prod.fst (Prod.snd (Prod.snd (Prod.snd (Prod.snd (Prod.snd (Prod.snd (tQ))))))) = ps2
    with_reducible generalize Prod.fst (Prod.snd (Prod.snd (Prod.snd (Prod.snd (Prod.snd (Prod.snd (Prod.snd (tQ)))))))) = tl2
    with_reducible generalize Prod.fst (Prod.snd (Prod.snd (Prod.snd (Prod.snd (Prod.snd (Prod.snd (Prod.snd (Prod.snd (tQ))))))))) = rest2
    with_reducible generalize Prod.snd (Prod.snd (Prod.snd (Prod.snd (Prod.snd (Prod.snd (Prod.snd (Prod.snd (Prod.snd (tQ))))))))) = fr2
    clear tQ
    intro _ _ F4 dB2 F5 ho2 h56 N6 hr2 hH hT2 hf2 up2 sub2 fs2 fo2 fsub2 b5 b6 b7 b8 b9 b10 bI
    k_steps
    have hlen1 : hvl.length = i := by
      rw [j10.length, List.length_map, List.length_take]
      have := (List.getElem?_eq_some_iff.mp hx).1
      omega
    have hil : i < (hitsOf key items).length := (List.getElem?_eq_some_iff.mp hx).1
    have hhl : (hitsOf key items).length ≤ 1000 := by
      have h1 : (hitsOf key items).length ≤ items.length := by unfold hitsOf; rw [List.length_map]; exact List.length_filter_le _ _
      have h2 := hIt.length
      rw [List.length_map] at h2
      omega
    refine' append_K ?kF ?kN ?kU ?_ ?kz; (case kF => k_asm); (case kN => k_asm); (case kU => k_upd); (case kz => rw [List.size_toArray, sizeLine_eq]; omega)
    intro h6 F6 N7
    clear N6 F5
    simp only [List.push_toArray] at N7
    have hxm : x ∈ hitsOf key items := List.mem_of_getElem? hx
    have hx2 := hbd _ hxm
    have hsv : (sv.length : Int) ≤ 1000 := by
      rw [j11.length]
      exact seats_len (hinc.take i) (fun h hh => hbd h (List.mem_of_mem_take hh)) (by omega)
    have hx1 : 0 ≤ x.1 ∧ x.1 < x.2 := hinc.mem x hxm
    k_steps
    rename IsRange _ _ _ _ _ _ _ _ => hR
    rename Fr _ _ _ _ => FR
    rename News _ _ _ _ => NR
    rename_i nS _ oS2 _ _ dS2 _ _ _ _ _ _
    refine Stop.mk ?_
    refine LCg.CompSrc.range (n := (x.2 - (x.1 + 1)).toNat) (news := (I, oI) :: (lh, listOf (hvl ++ [r]).toArray (nh + 1)) :: (ls, listOf (sv ++ List.replicate (x.1 + 1 - sv.length).toNat r).toArray nS) :: (L' + 1 + 1 + 1 + 1, oS2) :: (L' + 1 + 1 + 1, oB2) :: (56, tabObj ps2) :: (63, tabObj pz) :: rest2) rfl FR (fun p hp => NR p (.tail _ (.tail _ hp))) hR ?sm ?rs ?szn ?_
    case sm => exact small_one (by omega) (by omega) (by omega) (by omega)
    case rs => unfold Builtin.Range.rangeSize; simp only [show (1 : Int) > 0 from by decide, if_true, Int.ediv_one]; split <;> omega
    case szn => rw [sizeLine_eq]; omega
    intro gg
    refine comp_rest (fun i' ys' nx => ∃ ps3 rest3 fr3, nx = (I, oI) :: (lh, listOf (hvl ++ [r]).toArray (nh + 1)) :: (ls, listOf (sv ++ List.replicate (x.1 + 1 - sv.length).toNat r).toArray nS) :: (L' + 1 + 1 + 1 + 1, oS2) :: (L' + 1 + 1 + 1, oB2) :: (56, tabObj ps3) :: (63, tabObj pz) :: rest3 ∧ Tab56 fr3 ps3 ∧
      (∀ p ∈ rest2, p ∈ rest3) ∧ (∀ p ∈ rest3, p.1 ≠ lh) ∧ (∀ p ∈ rest3, p.1 ≠ ls) ∧ (∀ p ∈ rest3, p.1 ≠ L' + 1 + 1 + 1 + 1) ∧ (∀ p ∈ rest3, p.1 ≠ L' + 1 + 1 + 1) ∧ (∀ p ∈ rest3, p.1 ≠ 56) ∧ (∀ p ∈ rest3, p.1 ≠ I) ∧ (∀ p ∈ rest3, p.1 ≠ 63) ∧ (∀ p ∈ fr2, p ∈ fr3) ∧ (∀ p ∈ fr3, p ∈ rest3) ∧ (∀ p ∈ fr3, p ∈ fz ∨ @LT.lt Nat _ L' p.1) ∧
      SeatsAre w fr3 ys' ((List.range i').map fun (k : Nat) => some (x.1 + 1 + (k : Int), x.2))) ⟨ps2, rest2, fr2, rfl, hT2, (fun _ h => h), b5, b6, b7, b8, b9, bI, b10, (fun _ h => h), fs2, fo2, SeatsAre.nil⟩ ?_ ?_
    · rintro i' v ys' nx Ic oIc C oC D m₂ h tk E' hi ⟨tv, rfl⟩ ⟨ps3, rest3, fr3, rfl, u1, u2, u3, u4, u5, u6, u7, u8, u10, u11, u12, u13, u9⟩ hC hxC F7 N8 off ne
      have o1 := off.mem _ (.head _)
      have o2 := off.mem _ (.tail _ (.head _))
      have o3 := off.mem _ (.tail _ (.tail _ (.head _)))
      have o4 := off.mem _ (.tail _ (.tail _ (.tail _ (.head _))))
      have o5 := off.mem _ (.tail _ (.tail _ (.tail _ (.tail _ (.head _)))))
      have o6 := off.mem _ (.tail _ (.tail _ (.tail _ (.tail _ (.tail _ (.head _))))))
      have o7 := off.mem _ (.tail _ (.tail _ (.tail _ (.tail _ (.tail _ (.tail _ (.head _)))))))
      dsimp only
      rename_i yG179 yG180 yG181 yG182 yG183 yG184 yG185 yG187 yG189 yG190 yG192 yG193 yG194 yG195 yG196 yG197 yG201
      clear gg yG194 yG185 yG183 yG180 h6
      revert yG181 yG184 yG189 yG190 dS2 hR FR NR yG201 hi u1 u2 u3 u4 u5 u6 u7 u8 u10 u11 u12 u13 u9 hC hxC F7 N8 off ne o1 o2 o3 o4 o5 o6 o7
      revert yG179 yG182 nS yG187 oS2 yG192 yG193 yG195 yG196 yG197 i' ys' Ic oIc C oC D m₂ h tk E' tv ps3 rest3 fr3
      refine no_implicit_lambda% (closed24 ?_)
      with_reducible generalize wit _ _ = tQ
      with_reducible generalize Prod.fst (tQ) = yG179
      with_reducible generalize Prod.fst (Prod.snd (tQ)) = yG182
      with_reducible generalize Prod.fst (Prod.snd (Prod.snd (tQ))) = nS
      with_reducible generalize Prod.fst (Prod.snd (Prod.snd (Prod.snd (tQ)))) = yG187
      with_reducible generalize Prod.fst (Prod.snd (Prod.snd (Prod.snd (Prod.snd (tQ))))) = oS2
      with_reducible generalize Prod.fst (Prod.snd (Prod.snd (Prod.snd (Prod.snd (Prod.snd (tQ)))))) = yG192
      with_reducible generalize Prod.fst (Prod.snd (Prod.snd (Prod.snd (Prod.snd (Prod.snd (Prod.snd (tQ))))))) = yG193
      with_reducible generalize Prod.fst (Prod.snd (Prod.snd (Prod.snd (Prod.snd (Prod.snd (Prod.snd (Prod.snd (tQ)))))))) = yG195
      with_reducible generalize Prod.fst (Prod.snd (Prod.snd (Prod.snd (Prod.snd (Prod.snd (Prod.snd (Prod.snd (Prod.snd (tQ))))))))) = yG196
      with_reducible generalize Prod.fst (Prod.snd (Prod.snd (Prod.snd (Prod.snd (Prod.snd (Prod.snd (Prod.snd (Prod.snd (Prod.snd (tQ)))))))))) = yG197
      with_reducible generalize Prod.fst (Prod.snd (Prod.snd (Prod.snd (Prod.snd (Prod.snd (Prod.snd (Prod.snd (Prod.snd (Prod.snd (Prod.snd (tQ))))))))))) = i'
      with_reducible generalize Prod.fst (Prod.snd (Prod.snd (Prod.snd (Prod.snd (Prod.snd (Prod.snd (Prod.snd (Prod.snd (Prod.snd (Prod.snd (Prod.snd (tQ)))))))))))) = ys'
      with_reducible generalize Prod.fst (Prod.snd (Prod.snd (Prod.snd (Prod.snd (Prod.snd (Prod.snd (Prod.snd (Prod.snd (Prod.snd (Prod.snd (Prod.snd (Prod.snd (tQ))))))))))))) = Ic
      with_reducible generalize Prod.fst (Prod.snd (Prod.snd (Prod.snd (Prod.snd (Prod.snd (Prod.snd (Prod.snd (Prod.snd (Prod.snd (Prod.snd (Prod.snd (Prod.snd (Prod.snd (tQ)))))))))))))) = oIc
      with_reducible generalize Prod.fst (Prod.snd (Prod.snd (Prod.snd (Prod.snd (Prod.snd (Prod.snd (Prod.snd (Prod.snd (Prod.snd (Prod.snd (Prod.snd (Prod.snd (Prod.snd (Prod.snd (tQ))))))))))))))) = C
      with_reducible generalize Prod.fst (Prod.snd (Prod.snd (Prod.snd (Prod.snd (Prod.snd (Prod.snd (Prod.snd (Prod.snd (Prod.snd (Prod.snd (Prod.snd (Prod.snd (Prod.snd (Prod.snd (Prod.snd (tQ)))))))))))))))) = oC
      with_reducible generalize Prod.fst (Prod.snd (Prod.snd (Prod.snd (Prod.snd (Prod.snd (Prod.snd (Prod.snd (Prod.snd (Prod.snd (Prod.snd (Prod.snd (Prod.snd (Prod.snd (Prod.snd (Prod.snd (Prod.snd (tQ))))))))))))))))) = D
      with_reducible generalize Prod.fst (Prod.snd (Prod.snd (Prod.snd (Prod.snd (Prod.snd (Prod.snd (Prod.snd (Prod.snd (Prod.snd (Prod.snd (Prod.snd (Prod.snd (Prod.snd (Prod.snd (Prod.snd (Prod.snd (Prod.snd (tQ)))))))))))))))))) = m₂
      with_reducible generalize Prod.fst (Prod.snd (Prod.snd (Prod.snd (Prod.snd (Prod.snd (Prod.snd (Prod.snd (Prod.snd (Prod.snd (Prod.snd (Prod.snd (Prod.snd (Prod.snd (Prod.snd (Prod.snd (Prod.snd (Prod.snd (Prod.snd (tQ))))))))))))))))))) = h
      with_reducible generalize Prod.fst (Prod.snd (Prod.snd (Prod.snd (Prod.snd (Prod.snd (Prod.snd (Prod.snd (Prod.snd (Prod.snd (Prod.snd (Prod.snd (Prod.snd (Prod.snd (Prod.snd (Prod.snd (Prod.snd (Prod.snd (Prod.snd (Prod.snd (tQ)))))))))))))))))))) = tk
      with_reducible generalize Prod.fst (Prod.snd (Prod.snd (Prod.snd (Prod.snd (Prod.snd (Prod.snd (Prod.snd (Prod.snd (Prod.snd (Prod.snd (Prod.snd (Prod.snd (Prod.snd (Prod.snd (Prod.snd (Prod.snd (Prod.snd (Prod.snd (Prod.snd (Prod.snd (tQ))))))))))))))))))))) = E'
      with_reducible generalize Prod.fst (Prod.snd (Prod.snd (Prod.snd (Prod.snd (Prod.snd (Prod.snd (Prod.snd (Prod.snd (Prod.snd (Prod.snd (Prod.snd (Prod.snd (Prod.snd (Prod.snd (Prod.snd (Prod.snd (Prod.snd (Prod.snd (Prod.snd (Prod.snd (Prod.snd (tQ)))))))))))))))))))))) = tv
      with_reducible generalize Prod.fst (Prod.snd (Prod.snd (Prod.snd (Prod.snd (Prod.snd (Prod.snd (Prod.snd (Prod.snd (Prod.snd (Prod.snd (Prod.snd (Prod.snd (Prod.snd (Prod.snd (Prod.snd (Prod.snd (Prod.snd (Prod.snd (Prod.snd (Prod.snd (Prod.snd (Prod.snd (tQ))))))))))))))))))))))) = ps3
      with_reducible generalize Prod.snd (Prod.snd (Prod.snd (Prod.snd (Prod.snd (Prod.snd (Prod.snd (Prod.snd (Prod.snd (Prod.snd (Prod.snd (Prod.snd (Prod.snd (Prod.snd (Prod.snd (Prod.snd (Prod.snd (Prod.snd (Prod.snd (Prod.snd (Prod.snd (Prod.snd (Prod.snd (tQ))))))))))))))))))))))) = rest3
      clear tQ
      refine no_implicit_lambda% (closed ?_)
      with_reducible generalize wit _ _ = fr3
      intro _ _ _ _ dS2 hR FR NR _ hi u1 u2 u3 u4 u5 u6 u7 u8 u10 u11 u12 u13 u9 hC hxC F7 N8 off ne o1 o2 o3 o4 o5 o6 o7
      k_steps
      refine' tells_use (hit_tells (x.1 + 1 + (i' : Int)) x.2 _ _ ps3 ([(Ic, oIc), (C, oC), (D, LCg.lst ys'), (I, oI), (lh, listOf (hvl ++ [r]).toArray (nh + 1)), (ls, listOf (sv ++ List.replicate (x.1 + 1 - sv.length).toNat r).toArray nS), (L' + 1 + 1 + 1 + 1, oS2), (L' + 1 + 1 + 1, oB2)] ++ ((63, tabObj pz) :: rest3)) fr3 ?hn2 u1) ?k1 ?k2 ?k3 ?k4 ?k5 ?k6 ?k7 ?k8 ?_; (case k1 => k_asm); (case k2 => k_asm); (case k3 => k_asm); (case k4 => exact news_swap (front := [(Ic, oIc), (C, oC), (D, LCg.lst ys'), (I, oI), (lh, _), (ls, _), (L' + 1 + 1 + 1 + 1, oS2), (L' + 1 + 1 + 1, oB2)]) N8); (case k5 => k_asm); (case k6 => exact rfl); (case k7 => ktr_room); (case k8 => ktr_units)
      case hn2 =>
        intro p hp
        simp only [List.cons_append, List.nil_append, List.mem_cons] at hp
        rcases hp with rfl | rfl | rfl | rfl | rfl | rfl | rfl | rfl | rfl | hp
        · exact Ne.symm o6.1
        · exact Ne.symm o6.2.1
        · exact Ne.symm o6.2.2
        · exact Ne.symm q5
        · exact neN (by dsimp only; omega)
        · exact neN (by dsimp only; omega)
        · exact neN (by dsimp only; omega)
        · exact neN (by dsimp only; omega)
        · exact neN (by dsimp only; decide)
        · exact u7 p hp
      rintro r2 nx2 h tk F8 N9 ⟨ps4, tl4, rfl, hT4, ho4, h564, hH4⟩
      have N10 := news_back (front := [(Ic, oIc), (C, oC), (D, LCg.lst ys'), (I, oI), (lh, _), (ls, _), (L' + 1 + 1 + 1 + 1, oS2), (L' + 1 + 1 + 1, oB2)]) N9
      (first | k_unfold | skip)
      have upx : ∀ p ∈ rest3 ++ tl4, p ∈ rest3 ∨ p ∈ tl4 := fun p hp => List.mem_append.mp hp
      refine LCg.CompEnd.intro F8 N10 ((I, oI) :: (lh, listOf (hvl ++ [r]).toArray (nh + 1)) :: (ls, listOf (sv ++ List.replicate (x.1 + 1 - sv.length).toNat r).toArray nS) :: (L' + 1 + 1 + 1 + 1, oS2) :: (L' + 1 + 1 + 1, oB2) :: (56, tabObj ps4) :: (63, tabObj pz) :: (rest3 ++ tl4)) (fun p hp => hp) ⟨o1, o2, o3, o4, o5, o6, o7, LCg.Off3.of fun p hp => (upx p hp).elim (fun h => off.mem p (.tail _ (.tail _ (.tail _ (.tail _ (.tail _ (.tail _ (.tail _ h)))))))) fun h => ⟨Nat.ne_of_gt (ho4 p h _ (.head _)), Nat.ne_of_gt (ho4 p h _ (.tail _ (.head _))), Nat.ne_of_gt (ho4 p h _ (.tail _ (.tail _ (.head _))))⟩⟩ True.intro ⟨ps4, rest3 ++ tl4, fr3 ++ tl4, rfl, hT4, (fun p hp => List.mem_append.mpr (.inl (u2 p hp))),
        (fun p hp => (upx p hp).elim (u3 p) fun h => Nat.ne_of_gt (ho4 p h (lh, _) (.tail _ (.tail _ (.tail _ (.tail _ (.head _))))))),
        (fun p hp => (upx p hp).elim (u4 p) fun h => Nat.ne_of_gt (ho4 p h (ls, _) (.tail _ (.tail _ (.tail _ (.tail _ (.tail _ (.head _)))))))),
        (fun p hp => (upx p hp).elim (u5 p) fun h => Nat.ne_of_gt (ho4 p h (L' + 1 + 1 + 1 + 1, _) (.tail _ (.tail _ (.tail _ (.tail _ (.tail _ (.tail _ (.head _))))))))),
        (fun p hp => (upx p hp).elim (u6 p) fun h => Nat.ne_of_gt (ho4 p h (L' + 1 + 1 + 1, _) (.tail _ (.tail _ (.tail _ (.tail _ (.tail _ (.tail _ (.tail _ (.head _)))))))))),
        (fun p hp => (upx p hp).elim (u7 p) fun h => Nat.ne_of_gt (h564 p h)),
        (fun p hp => (upx p hp).elim (u8 p) fun h => Nat.ne_of_gt (ho4 p h (I, _) (.tail _ (.tail _ (.tail _ (.head _)))))),
        (fun p hp => (upx p hp).elim (u10 p) fun h => Nat.ne_of_gt (ho4 p h (63, _) (.tail _ (.tail _ (.tail _ (.tail _ (.tail _ (.tail _ (.tail _ (.tail _ (.head _))))))))))),
        (fun p hp => List.mem_append.mpr (.inl (u11 p hp))),
        (fun p hp => List.mem_append.mpr ((List.mem_append.mp hp).imp (u12 p) id)),
        (fun p hp => (List.mem_append.mp hp).elim (u13 p) fun h => .inr (Nat.lt_of_le_of_lt (by omega) (ho4 p h (L' + 1 + 1 + 1, _) (.tail _ (.tail _ (.tail _ (.tail _ (.tail _ (.tail _ (.tail _ (.head _))))))))))), ?_⟩
      rw [List.range_succ, List.map_append]
      exact (u9.mono fun p hp => List.mem_append.mpr (.inl hp)).append (.cons hH4 .nil)
    · rintro ys' nx ⟨ps3, rest3, fr3, rfl, u1, u2, u3, u4, u5, u6, u7, u8, u10, u11, u12, u13, u9⟩ D2 h tk F7 N8 off
      have w1 : @Ne Nat I D2 := off.1
      have w2 : @Ne Nat lh D2 := off.2.1
      have w3 : @Ne Nat ls D2 := off.2.2.1
      have w4 : @Ne Nat (L' + 1 + 1 + 1 + 1) D2 := off.2.2.2.1
      have hys : ys'.length = (x.2 - (x.1 + 1)).toNat := by rw [u9.length, List.length_map, List.length_range]
      dsimp only
      rename_i yH179 yH180 yH181 yH182 yH183 yH184 yH185 yH187 yH189 yH190 yH192 yH193 yH194 yH195 yH196 yH197 yH201
      clear gg yH194 yH185 yH183 yH180 h6
      revert yH181 yH184 yH189 yH190 dS2 hR FR NR yH201 u1 u2 u3 u4 u5 u6 u7 u8 u10 u11 u12 u13 u9 F7 N8 off w1 w2 w3 w4 hys
      revert yH179 yH182 nS yH187 oS2 yH192 yH193 yH195 yH196 yH197 ys' ps3 rest3 fr3 D2 h tk
      refine no_implicit_lambda% (@id (Unit → Unit → _) ?_ () ())
      refine no_implicit_lambda% (closed19 ?_)
      with_reducible generalize wit _ _ = tQ
      with_reducible generalize Prod.fst (Prod.snd (Prod.snd (tQ))) = yH179
      with_reducible generalize Prod.fst (Prod.snd (Prod.snd (Prod.snd (tQ)))) = yH182
      with_reducible generalize Prod.fst (Prod.snd (Prod.snd (Prod.snd (Prod.snd (tQ))))) = nS
      with_reducible generalize Prod.fst (Prod.snd (Prod.snd (Prod.snd (Prod.snd (Prod.snd (tQ)))))) = yH187
      with_reducible generalize Prod.fst (Prod.snd (Prod.snd (Prod.snd (Prod.snd (Prod.snd (Prod.snd (tQ))))))) = oS2
      with_reducible generalize Prod.fst (Prod.snd (Prod.snd (Prod.snd (Prod.snd (Prod.snd (Prod.snd (Prod.snd (tQ)))))))) = yH192
      with_reducible generalize Prod.fst (Prod.snd (Prod.snd (Prod.snd (Prod.snd (Prod.snd (Prod.snd (Prod.snd (Prod.snd (tQ))))))))) = yH193
      with_reducible generalize Prod.fst (Prod.snd (Prod.snd (Prod.snd (Prod.snd (Prod.snd (Prod.snd (Prod.snd (Prod.snd (Prod.snd (tQ)))))))))) = yH195
      with_reducible generalize Prod.fst (Prod.snd (Prod.snd (Prod.snd (Prod.snd (Prod.snd (Prod.snd (Prod.snd (Prod.snd (Prod.snd (Prod.snd (tQ))))))))))) = yH196
      with_reducible generalize Prod.fst (Prod.snd (Prod.snd (Prod.snd (Prod.snd (Prod.snd (Prod.snd (Prod.snd (Prod.snd (Prod.snd (Prod.snd (Prod.snd (tQ)))))))))))) = yH197
      with_reducible generalize Prod.fst (Prod.snd (Prod.snd (Prod.snd (Prod.snd (Prod.snd (Prod.snd (Prod.snd (Prod.snd (Prod.snd (Prod.snd (Prod.snd (Prod.snd (tQ))))))))))))) = ys'
      with_reducible generalize Prod.fst (Prod.snd (Prod.snd (Prod.snd (Prod.snd (Prod.snd (Prod.snd (Prod.snd (Prod.snd (Prod.snd (Prod.snd (Prod.snd (Prod.snd (Prod.snd (tQ)))))))))))))) = ps3
      with_reducible generalize Prod.fst (Prod.snd (Prod.snd (Prod.snd (Prod.snd (Prod.snd (Prod.snd (Prod.snd (Prod.snd (Prod.snd (Prod.snd (Prod.snd (Prod.snd (Prod.snd (Prod.snd (tQ))))))))))))))) = rest3
      with_reducible generalize Prod.fst (Prod.snd (Prod.snd (Prod.snd (Prod.snd (Prod.snd (Prod.snd (Prod.snd (Prod.snd (Prod.snd (Prod.snd (Prod.snd (Prod.snd (Prod.snd (Prod.snd (Prod.snd (tQ)))))))))))))))) = fr3
      with_reducible generalize Prod.fst (Prod.snd (Prod.snd (Prod.snd (Prod.snd (Prod.snd (Prod.snd (Prod.snd (Prod.snd (Prod.snd (Prod.snd (Prod.snd (Prod.snd (Prod.snd (Prod.snd (Prod.snd (Prod.snd (tQ))))))))))))))))) = D2
      with_reducible generalize Prod.fst (Prod.snd (Prod.snd (Prod.snd (Prod.snd (Prod.snd (Prod.snd (Prod.snd (Prod.snd (Prod.snd (Prod.snd (Prod.snd (Prod.snd (Prod.snd (Prod.snd (Prod.snd (Prod.snd (Prod.snd (tQ)))))))))))))))))) = h
      with_reducible generalize Prod.snd (Prod.snd (Prod.snd (Prod.snd (Prod.snd (Prod.snd (Prod.snd (Prod.snd (Prod.snd (Prod.snd (Prod.snd (Prod.snd (Prod.snd (Prod.snd (Prod.snd (Prod.snd (Prod.snd (Prod.snd (tQ)))))))))))))))))) = tk
      clear tQ
      intro _ _ _ _ dS2 hR FR NR _ u1 u2 u3 u4 u5 u6 u7 u8 u10 u11 u12 u13 u9 F7 N8 off w1 w2 w3 w4 hys
      k_steps
      rename News _ _ _ _ => NE
      rename (Obj.data _ = _) => dSE
      rename_i nE _ oE FE
      have fsub3 : ∀ p ∈ fr, p ∈ fr3 := fun p hp => u11 p (fsub2 p hp)
      have sub3 : ∀ p ∈ rest, p ∈ rest3 := fun p hp => u2 p (sub2 p hp)
      refine ⟨_, _, _, (lh, listOf (hvl ++ [r]).toArray (nh + 1)) :: (ls, listOf (sv ++ List.replicate (x.1 + 1 - sv.length).toNat r ++ ys').toArray nE) :: (L' + 1 + 1 + 1 + 1, oE) :: (L' + 1 + 1 + 1, oB2) :: (56, tabObj ps3) :: (63, tabObj pz) :: rest3, rfl, FE, (fun p hp => NE p (.tail _ hp)), ?_, ?_, hvl ++ [r], nh + 1, sv ++ List.replicate (x.1 + 1 - sv.length).toNat r ++ ys', nE, oE, oB2, ps3, rest3, _, fr3, rfl, dSE, dB2, u1, (fun p hp => sub3 p (j4 p hp)), u3, u4, u5, u6, u7, ?_, ?_, rfl, u10, u12, u13⟩
      · intro p hp
        simp only [List.mem_cons] at hp
        rcases hp with rfl | rfl | rfl | rfl | rfl | rfl | hp
        · exact q1
        · exact q2
        · exact q3
        · exact q4
        · exact q5
        · exact q7
        · exact u8 p hp
      · intro p hp
        rw [List.mem_singleton.mp hp]
        exact .tail _ (.tail _ (.tail _ (.tail _ (.tail _ (.tail _ (sub3 _ (j4 _ (.head _))))))))
      · rw [List.take_add_one, hx, List.map_append]
        exact (j10.mono fsub3).append (.cons (IsHit.mono u11 hH) .nil)
      · rw [seatsP_snoc hx]
        unfold seatStep
        rw [← j11.length]
        exact ((j11.mono fsub3).append (SeatsAre.replicate (o := some x) (IsHit.mono u11 hH) _)).append u9
end Mine
end

section
open PySem PySem.W PyProof.Rows
set_option maxRecDepth 100000
set_option maxHeartbeats 2400000
namespace Mine
structure HS where
  res : List Str
  part : Str
  esc : Bool
  quo : Bool
noncomputable def sgn (c : Nat) : Str := ⟨#[c]⟩
noncomputable def httpStep (h : HS) (c : Nat) : HS :=
  if h.esc then { h with part := h.part ++ sgn c, esc := false }
  else if h.quo then
    if c = 92 then { h with esc := true }
    else if c = 34 then { h with part := h.part ++ sgn c, quo := false }
    else { h with part := h.part ++ sgn c }
  else if c = 44 then { h with res := h.res ++ [h.part], part := PySem.Str.empty }
  else if c = 34 then { h with part := h.part ++ sgn c, quo := true }
  else { h with part := h.part ++ sgn c }
noncomputable def httpRun (l : List Nat) : HS := l.foldl httpStep ⟨[], PySem.Str.empty, false, false⟩
noncomputable def httpParts (x : Str) : List Str := let h := httpRun x.cps.toList; if h.part.length = 0 then h.res else h.res ++ [h.part]
noncomputable def httpList (x : Str) : List Str := (httpParts x).map Txt.strip
theorem reg_Http_1 : True := by
  w_top off
  k_with_none
  k_with "my omega" => first
      | with_reducible assumption
      | decide
      | ((fail_if_success (fail_if_success omega (config := {})))
         first
           | k_extra "my om"
           | k_extra "my big"
           | omega (config := {}))
  k_with "my om" => first
      | (with_reducible refine' rm0 ?h; (case h => with_reducible assumption))
      | (with_reducible refine' rm1 ?h ?e; (case h => with_reducible assumption); (case e => decide))
      | (with_reducible refine' rm2 ?h ?e; (case h => with_reducible assumption); (case e => decide))
      | (with_reducible refine' rm3 ?h ?e; (case h => with_reducible assumption); (case e => decide))
      | (with_reducible refine' bd1 ?h ?e; (case h => with_reducible assumption); (case e => decide))
      | (with_reducible refine' bd3 ?h ?e; (case h => with_reducible assumption); (case e => decide))
      | (with_reducible refine' bd4 ?h ?e; (case h => with_reducible assumption); (case e => decide))
      | (with_reducible refine' bz1 ?h ?e; (case h => walk_at "lt"); (case e => decide))
      | (with_reducible refine' bz3 ?h ?e; (case h => walk_at "lt"); (case e => decide))
      | (with_reducible refine' bd2 ?q ?h ?e; (case q => with_reducible assumption); (case h => with_reducible assumption); (case e => decide))
      | walk_at "lt2"
      | (with_reducible refine Nat.le_of_lt ?_; walk_at "lt2")
      | (with_reducible refine Nat.ne_of_lt ?_; walk_at "lt2")
      | (with_reducible refine Nat.ne_of_gt ?_; walk_at "lt2")
      | ((with_reducible refine And.intro ?_ ?_) <;> k_extra "my omega")
      | (with_reducible refine' Nat.lt_trans ?a ?b; (case b => with_reducible assumption); (case a => walk_at "lt2"))
      | (with_reducible refine' Nat.lt_trans ?a ?b; (case a => with_reducible assumption); (case b => walk_at "lt2"))
      | (with_reducible refine' Nat.lt_of_le_of_lt ?a ?b; (case b => with_reducible assumption); (case a => walk_at "lt2"))
      | (with_reducible refine' Nat.lt_of_le_of_lt ?a ?b; (case a => with_reducible assumption); (case b => walk_at "lt2"))
      | (with_reducible refine' Nat.lt_of_lt_of_le ?a ?b; (case b => with_reducible assumption); (case a => walk_at "lt2"))
      | (with_reducible refine' Nat.lt_of_lt_of_le ?a ?b; (case a => with_reducible assumption); (case b => walk_at "lt2"))
      | (with_reducible refine' Nat.le_trans ?a ?b; (case b => with_reducible assumption); (case a => walk_at "lt2"))
      | (with_reducible refine' Nat.le_trans ?a ?b; (case a => with_reducible assumption); (case b => walk_at "lt2"))
  k_with "my lt" => first
      | with_reducible assumption
      | (refine' And.left ?h; (case h => with_reducible assumption))
      | (refine' And.left (And.right ?h); (case h => with_reducible assumption))
      | (refine' And.left (And.right (And.right ?h)); (case h => with_reducible assumption))
      | (refine' And.left (And.right (And.right (And.right ?h))); (case h => with_reducible assumption))
      | (refine' And.left (And.right (And.right (And.right (And.right ?h)))); (case h => with_reducible assumption))
      | (refine' And.left (And.right (And.right (And.right (And.right (And.right ?h))))); (case h => with_reducible assumption))
      | (refine' And.left (And.right (And.right (And.right (And.right (And.right (And.right ?h)))))); (case h => with_reducible assumption))
      | (refine' And.left (And.right (And.right (And.right (And.right (And.right (And.right (And.right ?h))))))); (case h => with_reducible assumption))
      | (refine' And.left (And.right (And.right (And.right (And.right (And.right (And.right (And.right (And.right ?h)))))))); (case h => with_reducible assumption))
      | (refine' And.left (And.right (And.right (And.right (And.right (And.right (And.right (And.right (And.right (And.right ?h))))))))); (case h => with_reducible assumption))
      | (refine' And.left (And.right (And.right (And.right (And.right (And.right (And.right (And.right (And.right (And.right (And.right ?h)))))))))); (case h => with_reducible assumption))
  k_with "my lt2" => first
      | walk_at "lt"
      | (with_reducible exact ad1)
      | (with_reducible exact ad2)
      | (with_reducible exact ad3)
      | (with_reducible exact ad4)
      | (with_reducible refine ar1 ?_; walk_at "lt")
      | (with_reducible refine ar2 ?_; walk_at "lt")
      | (with_reducible refine ar3 ?_; walk_at "lt")
      | (with_reducible refine ar4 ?_; walk_at "lt")
      | (with_reducible refine as1 ?_; walk_at "lt")
      | (with_reducible refine as2 ?_; walk_at "lt")
      | (with_reducible refine as3 ?_; walk_at "lt")
      | (with_reducible refine as4 ?_; walk_at "lt")
  k_with "my ar" => ((try dsimp only); first
      | with_reducible exact Nat.le_refl _
      | walk_at "lt2"
      | (refine Nat.le_of_lt ?_; walk_at "lt2")
      | (refine Nat.ne_of_lt ?_; walk_at "lt2")
      | (refine Nat.ne_of_gt ?_; walk_at "lt2")
      | k_extra "my ar2"
      | omega)
  k_with "my k_ne" => (refine neN ?_; (try dsimp only); first
      | with_reducible assumption
      | (refine Ne.symm ?_; with_reducible assumption)
      | (refine Nat.ne_of_lt ?_; walk_at "lt")
      | (refine Nat.ne_of_gt ?_; walk_at "lt")
      | omega)
  k_with "my k_all" => first | assumption | exact ne_above (by assumption) (by walk_at "ar")
  k_with "my k_mem" => first | assumption | (refine List.mem_append.mpr (Or.inl ?_); k_mem) | (refine List.mem_append.mpr (Or.inr ?_); k_mem)
  k_with "my pyIter str" => refine stop_here ?_
  k_with "my exec For Name Name cons nil" => refine for_open ?_
  trivial
noncomputable def httpJ (lr : Addr) (text : Str) (news : List (Addr × Obj)) (i : Nat) (m : Str → Option Value) (nx : List (Addr × Obj)) : Prop :=
  ∃ hv nh tp, nx = (lr, listOf hv.toArray nh) :: news ∧ StrsAre hv (httpRun (text.cps.toList.take i)).res ∧ m (PySem.Str.ofString "res") = some (.ref lr) ∧ m (PySem.Str.ofString "part") = some (.str (httpRun (text.cps.toList.take i)).part tp) ∧
    m (PySem.Str.ofString "escape") = some (.bool (httpRun (text.cps.toList.take i)).esc) ∧ m (PySem.Str.ofString "quote") = some (.bool (httpRun (text.cps.toList.take i)).quo)
theorem sgn_t {c : Nat} {x : Str} {d : Nat} (hx : x = ⟨#[d]⟩) (h : ((⟨#[c]⟩ : Str) == x) = true) : c = d := by
  subst hx; rw [PyProof.Rows.one_beq] at h; simpa using h
theorem sgn_f {c : Nat} {x : Str} {d : Nat} (hx : x = ⟨#[d]⟩) (h : ((⟨#[c]⟩ : Str) == x) = false) : ¬ c = d := by
  subst hx; rw [PyProof.Rows.one_beq] at h; simpa using h
theorem take_snoc {x : Str} {i c : Nat} (h : x.cps[i]? = some c) : httpRun (x.cps.toList.take (i + 1)) = httpStep (httpRun (x.cps.toList.take i)) c := by
  have h' : x.cps.toList[i]? = some c := by simpa using h
  rw [List.take_add_one, h']
  simp [httpRun]
theorem httpRun_len (l : List Nat) : (httpRun l).part.length ≤ l.length ∧ (httpRun l).res.length ≤ l.length := by
  have key : ∀ (l : List Nat) (h : HS) , (l.foldl httpStep h).part.length ≤ h.part.length + l.length ∧ (l.foldl httpStep h).res.length ≤ h.res.length + l.length := by
    intro l
    induction l with
    | nil => intro h; simp
    | cons c l ih =>
      intro h
      have := ih (httpStep h c)
      have hs : (sgn c).length = 1 := rfl
      have h1 : (httpStep h c).part.length ≤ h.part.length + 1 := by
        unfold httpStep
        split
        · simp only [Str.length_append, hs]; omega
        · split
          · split
            · simp
            · split <;> (simp only [Str.length_append, hs]; omega)
          · split
            · simp [PySem.Str.length, PySem.Str.empty]
            · split <;> (simp only [Str.length_append, hs]; omega)
      have h2 : (httpStep h c).res.length ≤ h.res.length + 1 := by
        unfold httpStep
        repeat' split
        all_goals simp
      simp only [List.foldl_cons, List.length_cons]
      omega
  have := key l ⟨[], PySem.Str.empty, false, false⟩
  simpa [httpRun, PySem.Str.empty, PySem.Str.length] using this
theorem httpJ_next {lr : Addr} {text : Str} {news : List (Addr × Obj)} {i c : Nat} {m : Str → Option Value} {hv : List Value} {nh : Nat} {tp : Tok} {st st' : HS} (hst : st = httpRun (text.cps.toList.take i)) (hc : text.cps[i]? = some c) (hs : httpStep st c = st')
    (h1 : StrsAre hv st'.res) (b1 : m (PySem.Str.ofString "res") = some (.ref lr)) (b2 : m (PySem.Str.ofString "part") = some (.str st'.part tp)) (b3 : m (PySem.Str.ofString "escape") = some (.bool st'.esc)) (b4 : m (PySem.Str.ofString "quote") = some (.bool st'.quo)) : httpJ lr text news (i + 1) m ((lr, listOf hv.toArray nh) :: news) := by
  refine ⟨hv, nh, tp, rfl, ?_⟩
  rw [take_snoc hc, ← hst, hs]
  exact ⟨h1, b1, b2, b3, b4⟩
theorem reg_Http_2 : True := by
  k_with "my inplaceOp Add str str" => (k_here; refine' SBL.iadd ?h ?z; (case z => (show _ + 1 ≤ _; rw [sizeLine_eq]; omega)); intro _ _ _)
  k_with "my eval ListComp" => (k_here; (with_reducible show wpAny _ _ (eval (PySem.Expr.ListComp _ [PySem.Comprehension.mk (PySem.Expr.Name _ _) _ [] 0] _ _) _) _ _ _); k_dflt (refine LCg.ListComp_U (F₀ := by k_asm) (by with_unfolding_all rfl) (by decide) (by rfl) (by decide) (by rfl) ?_))
  k_with "my CompSrc" => refine stop_here ?_
  k_with "my http end" => ((try dsimp only); first | refine postX_next (by (with_reducible rename Fr _ _ _ _ => zF); exact zF) (by (with_reducible rename News _ _ _ _ => zN); exact zN) rfl ?_ (fun _ h => nomatch h) ?_ | refine postX_cont (by (with_reducible rename Fr _ _ _ _ => zF); exact zF) (by (with_reducible rename News _ _ _ _ => zN); exact zN) rfl ?_ (fun _ h => nomatch h) ?_)
  trivial
theorem httpJ_ne {I lr : Addr} {o o' : Obj} {news : List (Addr × Obj)} (hne : ∀ p ∈ (lr, o) :: news, p.1 ≠ I) : ∀ p ∈ (lr, o') :: news, p.1 ≠ I := by
  intro p hp
  rcases List.mem_cons.mp hp with rfl | hp
  · exact hne (lr, o) (.head _)
  · exact hne p (.tail _ hp)
theorem http_full {text : Str} {hv : List Value} {tp : Tok} (h : ¬ ((httpRun text.cps.toList).part.length : Int) = 0) (hS : StrsAre hv (httpRun text.cps.toList).res) : StrsAre (hv ++ [.str (httpRun text.cps.toList).part tp]) (httpParts text) := by
  unfold httpParts; dsimp only
  rw [if_neg (by omega)]
  exact hS.append' (.cons _ _ .nil)
theorem http_bare {text : Str} {hv : List Value} (h : ((httpRun text.cps.toList).part.length : Int) = 0) (hS : StrsAre hv (httpRun text.cps.toList).res) : StrsAre hv (httpParts text) := by
  unfold httpParts; dsimp only
  rw [if_pos (by omega)]
  exact hS
theorem strs_get {us : List Value} {xs : List Str} {i : Nat} {v : Value} (h : StrsAre us xs) (hv : us.toArray[i]? = some v) : ∃ x t, v = .str x t ∧ xs[i]? = some x :=
  h.item i v (by simpa using hv)
theorem httpParts_len {text : Str} (hx : text.length ≤ 1000) : (httpParts text).length ≤ 1001 := by
  have h1 := httpRun_len text.cps.toList
  have h2 : text.cps.toList.length = text.length := by simp [PySem.Str.length]
  unfold httpParts; dsimp only
  split
  · omega
  · rw [List.length_append, List.length_singleton]; omega
theorem httpRun_lens (l : List Nat) : ∀ x ∈ (httpRun l).res, x.length ≤ l.length := by
  have key : ∀ (r l : List Nat), l = r.reverse → ∀ x ∈ (httpRun l).res, x.length ≤ l.length := by
    intro r
    induction r with
    | nil => intro l e x hx; subst e; nomatch hx
    | cons c r ih =>
      intro l e x hx
      rw [List.reverse_cons] at e
      subst e
      have e2 : httpRun (r.reverse ++ [c]) = httpStep (httpRun r.reverse) c := by simp [httpRun]
      rw [e2] at hx
      rw [List.length_append, List.length_singleton]
      have hp := (httpRun_len r.reverse).1
      have hr : x ∈ (httpRun r.reverse).res ∨ x = (httpRun r.reverse).part := by
        unfold httpStep at hx
        repeat' split at hx
        all_goals first
          | exact .inl hx
          | (rcases List.mem_append.mp hx with h | h
             · exact .inl h
             · exact .inr (by simpa using h))
      rcases hr with h | rfl
      · have := ih _ rfl x h; omega
      · omega
  exact key l.reverse l (by simp)
theorem httpParts_lens (text : Str) : ∀ x ∈ httpParts text, x.length ≤ text.length := by
  intro x hx
  have h1 := (httpRun_len text.cps.toList).1
  have h2 : text.cps.toList.length = text.length := by simp [PySem.Str.length]
  rw [← h2]
  unfold httpParts at hx
  dsimp only at hx
  split at hx
  · exact httpRun_lens _ x hx
  · rcases List.mem_append.mp hx with h | h
    · exact httpRun_lens _ x h
    · rw [List.mem_singleton.mp h]; exact h1
theorem dat_strs {news : List (Addr × Obj)} {vs : List Value} {xs : List Str} (h : StrsAre vs xs) : DatAll news vs (xs.map .str) := by
  induction xs generalizing vs with
  | nil => cases h; exact .nil
  | cons x xs ih => cases h with | cons _ t r => exact .cons (.str _ _) (ih r)
theorem http_tells {w : World} (text : Str) (tt : Tok) (news : List (Addr × Obj)) (hx : text.length ≤ 1000) :
    Tells w 40 1 [.str text tt] news (RetW news (.list ((httpList text).map .str))) := by
  revert w text tt news
  refine no_implicit_lambda% (closedW ?_)
  with_reducible generalize wit _ _ = w
  refine no_implicit_lambda% (closed3 ?_)
  with_reducible generalize wit _ _ = tQ
  with_reducible generalize Prod.fst (tQ) = text
  with_reducible generalize Prod.fst (Prod.snd (tQ)) = tt
  with_reducible generalize Prod.snd (Prod.snd (tQ)) = news
  clear tQ
  intro hx
  refine tells_close ?_
  unfold TellsAt
  with_reducible generalize TV.p _ = p
  with_reducible generalize TV.loose _ = loose
  with_reducible generalize TV.mean _ = mean
  with_reducible generalize TV.mg _ = mg
  with_reducible generalize TV.mb _ = mb
  with_reducible generalize TV.dp _ = dp
  with_reducible generalize TV.un _ = un
  with_reducible generalize TV.gd _ = gd
  with_reducible generalize TV.cn _ = cn
  with_reducible generalize TV.cs _ = cs
  with_reducible generalize TV.a _ = a
  with_reducible generalize TV.ccd _ = ccd
  with_reducible generalize TV.cl _ = cl
  with_reducible generalize TV.outer _ = outer
  with_reducible generalize TV.A₀ _ = A₀
  with_reducible generalize TV.base _ = base
  with_reducible generalize TV.h₀ _ = h₀
  with_reducible generalize TV.L _ = L
  with_reducible generalize TV.m _ = m
  with_reducible generalize TV.s _ = s
  with_reducible generalize TV.Q _ = Q
  with_reducible generalize TV.E _ = E
  k_fill
  intro X B F N T hk hdp hun hret
  refine wpAny_call ?_
  k_dflt cell_enter
  k_steps
  rename_i lr h4 l1 h3 h2 h1 h0 F0 N0
  refine Stop.mk ?_
  rename_i yA36 yA37 yA38 yA39 yA40 yA41 yA42 yA45
  dsimp only [qk, ek]
  clear ek qk
  clear h1 h2 h4 yA45 yA38
  revert yA39 yA40 yA41 yA42 l1 F0 N0
  revert yA36 yA37 lr h3 tk h0
  refine no_implicit_lambda% (closed6 ?_)
  with_reducible generalize wit _ _ = tQ
  with_reducible generalize Prod.fst (tQ) = yA36
  with_reducible generalize Prod.fst (Prod.snd (tQ)) = yA37
  with_reducible generalize Prod.fst (Prod.snd (Prod.snd (tQ))) = lr
  with_reducible generalize Prod.fst (Prod.snd (Prod.snd (Prod.snd (tQ)))) = h3
  with_reducible generalize Prod.fst (Prod.snd (Prod.snd (Prod.snd (Prod.snd (tQ))))) = tk
  with_reducible generalize Prod.snd (Prod.snd (Prod.snd (Prod.snd (Prod.snd (tQ))))) = h0
  clear tQ
  intro _ _ _ _ l1 F0 N0
  refine iter_strX (httpJ lr text news) (by passes_own) rfl F0 N0 ⟨[], 0, _, rfl, .nil, rfl, rfl, rfl, rfl⟩ ?_ ?_
  · rintro I i c u m₁ nx h tk oI hI hc hne ⟨hv, nh, tp, rfl, hS, b1, b2, b3, b4⟩ F1 N1
    have F2 := fr_puts F1 (.cons b1 (.cons b2 (.cons b3 (.cons b4 .nil))))
    simp only [putsM] at F2
    clear F1 b1 b2 b3 b4
    dsimp only
    obtain ⟨st, hst⟩ : ∃ st, st = httpRun (text.cps.toList.take i) := ⟨_, rfl⟩
    have hil : i < text.length := (Array.getElem?_eq_some_iff.mp hc).1
    have hlen : st.part.length ≤ 1000 ∧ st.res.length ≤ 1000 := by
      have h1 := httpRun_len (text.cps.toList.take i)
      rw [← hst, List.length_take] at h1
      omega
    rw [← hst] at F2 hS
    obtain ⟨res, part, esc, quo⟩ := st
    dsimp only at F2 hS hlen
    have hlv : hv.length ≤ 1000 := by rw [hS.length]; exact hlen.2
    have q1 : @Ne Nat lr I := hne _ (.head _)
    revert hI hc hne N1 hil hS F2 hst hlen hlv q1
    revert I i c u m₁ h tk oI hv nh tp res part esc quo
    refine no_implicit_lambda% (@id (Unit → Unit → Unit → Unit → _) ?_ () () () ())
    refine no_implicit_lambda% (closed19 ?_)
    with_reducible generalize wit _ _ = tQ
    with_reducible generalize Prod.fst (Prod.snd (Prod.snd (Prod.snd (Prod.snd (tQ))))) = I
    with_reducible generalize Prod.fst (Prod.snd (Prod.snd (Prod.snd (Prod.snd (Prod.snd (tQ)))))) = i
    with_reducible generalize Prod.fst (Prod.snd (Prod.snd (Prod.snd (Prod.snd (Prod.snd (Prod.snd (tQ))))))) = c
    with_reducible generalize Prod.fst (Prod.snd (Prod.snd (Prod.snd (Prod.snd (Prod.snd (Prod.snd (Prod.snd (tQ)))))))) = u
    with_reducible generalize Prod.fst (Prod.snd (Prod.snd (Prod.snd (Prod.snd (Prod.snd (Prod.snd (Prod.snd (Prod.snd (tQ))))))))) = m₁
    with_reducible generalize Prod.fst (Prod.snd (Prod.snd (Prod.snd (Prod.snd (Prod.snd (Prod.snd (Prod.snd (Prod.snd (Prod.snd (tQ)))))))))) = h
    with_reducible generalize Prod.fst (Prod.snd (Prod.snd (Prod.snd (Prod.snd (Prod.snd (Prod.snd (Prod.snd (Prod.snd (Prod.snd (Prod.snd (tQ))))))))))) = tk
    with_reducible generalize Prod.fst (Prod.snd (Prod.snd (Prod.snd (Prod.snd (Prod.snd (Prod.snd (Prod.snd (Prod.snd (Prod.snd (Prod.snd (Prod.snd (tQ)))))))))))) = oI
    with_reducible generalize Prod.fst (Prod.snd (Prod.snd (Prod.snd (Prod.snd (Prod.snd (Prod.snd (Prod.snd (Prod.snd (Prod.snd (Prod.snd (Prod.snd (Prod.snd (tQ))))))))))))) = hv
    with_reducible generalize Prod.fst (Prod.snd (Prod.snd (Prod.snd (Prod.snd (Prod.snd (Prod.snd (Prod.snd (Prod.snd (Prod.snd (Prod.snd (Prod.snd (Prod.snd (Prod.snd (tQ)))))))))))))) = nh
    with_reducible generalize Prod.fst (Prod.snd (Prod.snd (Prod.snd (Prod.snd (Prod.snd (Prod.snd (Prod.snd (Prod.snd (Prod.snd (Prod.snd (Prod.snd (Prod.snd (Prod.snd (Prod.snd (tQ))))))))))))))) = tp
    with_reducible generalize Prod.fst (Prod.snd (Prod.snd (Prod.snd (Prod.snd (Prod.snd (Prod.snd (Prod.snd (Prod.snd (Prod.snd (Prod.snd (Prod.snd (Prod.snd (Prod.snd (Prod.snd (Prod.snd (tQ)))))))))))))))) = res
    with_reducible generalize Prod.fst (Prod.snd (Prod.snd (Prod.snd (Prod.snd (Prod.snd (Prod.snd (Prod.snd (Prod.snd (Prod.snd (Prod.snd (Prod.snd (Prod.snd (Prod.snd (Prod.snd (Prod.snd (Prod.snd (tQ))))))))))))))))) = part
    with_reducible generalize Prod.fst (Prod.snd (Prod.snd (Prod.snd (Prod.snd (Prod.snd (Prod.snd (Prod.snd (Prod.snd (Prod.snd (Prod.snd (Prod.snd (Prod.snd (Prod.snd (Prod.snd (Prod.snd (Prod.snd (Prod.snd (tQ)))))))))))))))))) = esc
    with_reducible generalize Prod.snd (Prod.snd (Prod.snd (Prod.snd (Prod.snd (Prod.snd (Prod.snd (Prod.snd (Prod.snd (Prod.snd (Prod.snd (Prod.snd (Prod.snd (Prod.snd (Prod.snd (Prod.snd (Prod.snd (Prod.snd (tQ)))))))))))))))))) = quo
    clear tQ
    intro hI hc hne N1 hil hS F2 hst hlen hlv q1
    rcases esc with _ | _
    · rcases quo with _ | _
      · k_steps
        · walk_at "http end"
          · exact httpJ_ne hne
          · refine httpJ_next (st' := ⟨res ++ [part], PySem.Str.empty, false, false⟩) hst hc ?_ (by have := hS.append' (.cons part tp .nil); simpa using this) rfl rfl rfl rfl
            have e1 := sgn_t (d := 44) rfl (by assumption)
            subst e1; rfl
        · walk_at "http end"
          · exact httpJ_ne hne
          · refine httpJ_next (st' := ⟨res, part ++ sgn c, false, true⟩) hst hc ?_ hS rfl rfl rfl rfl
            have e1 := sgn_t (d := 34) rfl (by assumption)
            subst e1; rfl
        · walk_at "http end"
          · exact httpJ_ne hne
          · refine httpJ_next (st' := ⟨res, part ++ sgn c, false, false⟩) hst hc ?_ hS rfl rfl rfl rfl
            have e1 := sgn_f (x := PySem.Str.ofString ",") (d := 44) rfl (by assumption)
            have e2 := sgn_f (x := PySem.Str.ofString "\"") (d := 34) rfl (by assumption)
            simp [httpStep, e1, e2]
      · k_steps
        · walk_at "http end"
          · exact httpJ_ne hne
          · refine httpJ_next (st' := ⟨res, part, true, true⟩) hst hc ?_ hS rfl rfl rfl rfl
            have e1 := sgn_t (d := 92) rfl (by assumption)
            subst e1; rfl
        · walk_at "http end"
          · exact httpJ_ne hne
          · refine httpJ_next (st' := ⟨res, part ++ sgn c, false, false⟩) hst hc ?_ hS rfl rfl rfl rfl
            have e1 := sgn_t (d := 34) rfl (by assumption)
            subst e1; rfl
        · walk_at "http end"
          · exact httpJ_ne hne
          · refine httpJ_next (st' := ⟨res, part ++ sgn c, false, true⟩) hst hc ?_ hS rfl rfl rfl rfl
            have e1 := sgn_f (x := PySem.Str.ofString "\\") (d := 92) rfl (by assumption)
            have e2 := sgn_f (x := PySem.Str.ofString "\"") (d := 34) rfl (by assumption)
            simp [httpStep, e1, e2]
    · k_steps
      walk_at "http end"
      · exact httpJ_ne hne
      · exact httpJ_next (st' := ⟨res, part ++ sgn c, false, quo⟩) hst hc rfl hS rfl rfl rfl rfl
  · rintro m₁ nx h tk ⟨hv, nh, tp, rfl, hS, b1, b2, b3, b4⟩ F1 N1
    have F2 := fr_puts F1 (.cons b1 (.cons b2 .nil))
    simp only [putsM] at F2
    clear F1 b1 b2 b3 b4
    dsimp only
    have hst : httpRun (text.cps.toList.take text.cps.size) = httpRun text.cps.toList := by rw [List.take_of_length_le (by simp)]
    rw [hst] at F2 hS
    have hlen : (httpRun text.cps.toList).part.length ≤ 1000 ∧ (httpRun text.cps.toList).res.length ≤ 1000 := by
      have h1 := httpRun_len text.cps.toList
      have h2 : text.cps.toList.length = text.length := by simp [PySem.Str.length]
      omega
    have hlv : hv.length ≤ 1000 := by rw [hS.length]; exact hlen.2
    k_steps
    all_goals (
      rename Fr _ _ _ _ => F3
      rename News _ _ _ _ => N3
      refine Stop.mk ?_
      obtain ⟨us, nu, hU, N4⟩ : ∃ us nu, StrsAre us (httpParts text) ∧ News _ _ _ ((lr, listOf us.toArray nu) :: news) := (by
        first
          | exact ⟨_, _, http_full (by assumption) hS, by rw [List.push_toArray] at N3; exact N3⟩
          | exact ⟨_, _, http_bare (by assumption) hS, N3⟩)
      have hul : us.length ≤ 1001 := by rw [hU.length]; exact httpParts_len hx
      refine LCg.CompSrc.ledger (its := us.toArray) (k := nu) rfl F3 N4 (by k_mem) (by rw [List.size_toArray]; exact Nat.le_trans hul (by decide)) ?_
      intro g
      rw [List.size_toArray]
      refine comp_rest (fun i ys nx => nx = _ ∧ StrsAre ys (((httpParts text).take i).map Txt.strip)) ⟨rfl, .nil⟩ ?_ ?_)
    · rintro i v ys nx I oI C oC D m₂ h tk E' hi hv ⟨rfl, hY⟩ hC hx F1 N1 off ne
      obtain ⟨x, t, rfl, hxx⟩ := strs_get hU hv
      have hxl : x.length ≤ 1000 := Nat.le_trans (httpParts_lens text x (List.mem_of_getElem? hxx)) ‹text.length ≤ 1000›
      dsimp only
      k_steps
      refine LCg.CompEnd.intro F1 N1 _ (fun p hp => hp) off (.inr ⟨_, .head _, rfl, _, rfl⟩) ⟨rfl, ?_⟩
      rw [List.take_add_one, hxx, List.map_append]
      exact hY.append' (.cons _ _ .nil)
    · rintro ys nx ⟨rfl, hY⟩ D h tk F1 N1 off
      dsimp only
      k_steps
      rw [List.take_of_length_le (by rw [hU.length]; exact Nat.le_refl _)] at hY
      refine' ret_fullW (front := [_, _]) hret ?kF ?kN ?kf ?_ ?_; (case kF => with_reducible assumption); (case kN => with_reducible assumption); (case kf => exact rfl)
      · simp only [List.forall_mem_cons]
        exact ⟨fun q hq => Ne.symm (off1_mem off q (.tail _ hq)), fun q hq => Nat.ne_of_gt (l1 q hq), fun _ h => nomatch h⟩
      · exact .list (.head _) (dat_strs hY)
    · rintro i v ys nx I oI C oC D m₂ h tk E' hi hv ⟨rfl, hY⟩ hC hx F1 N1 off ne
      obtain ⟨x, t, rfl, hxx⟩ := strs_get hU hv
      have hxl : x.length ≤ 1000 := Nat.le_trans (httpParts_lens text x (List.mem_of_getElem? hxx)) ‹text.length ≤ 1000›
      dsimp only
      k_steps
      refine LCg.CompEnd.intro F1 N1 _ (fun p hp => hp) off (.inr ⟨_, .head _, rfl, _, rfl⟩) ⟨rfl, ?_⟩
      rw [List.take_add_one, hxx, List.map_append]
      exact hY.append' (.cons _ _ .nil)
    · rintro ys nx ⟨rfl, hY⟩ D h tk F1 N1 off
      dsimp only
      k_steps
      rw [List.take_of_length_le (by rw [hU.length]; exact Nat.le_refl _)] at hY
      refine' ret_fullW (front := [_, _]) hret ?kF ?kN ?kf ?_ ?_; (case kF => with_reducible assumption); (case kN => with_reducible assumption); (case kf => exact rfl)
      · simp only [List.forall_mem_cons]
        exact ⟨fun q hq => Ne.symm (off1_mem off q (.tail _ hq)), fun q hq => Nat.ne_of_gt (l1 q hq), fun _ h => nomatch h⟩
      · exact .list (.head _) (dat_strs hY)
end Mine
end

section
open PySem PySem.W PyProof.Rows
set_option maxRecDepth 100000
set_option maxHeartbeats 4000000
namespace Mine
theorem mp_mro : mroOf (.type "map") = pure [.type "map", .type "object"] := by rw [mroOf_type]; kernel_rfl
theorem mp_lookup_new : typeLookup (.type "map") "__new__" = pure (some (.builtin "map.__new__")) := by rw [typeLookup_type, builtinLookup_eq_fast]; kernel_rfl
theorem mp_slot_init : Slot "map" "__init__" "object.__init__" :=
  .of (owner := "object") (n := "__init__") (by rw [typeLookup_type, builtinLookup_eq_fast]; kernel_rfl) (by decide +kernel) (by decide +kernel) (by decide +kernel)
    (by first | exact .inl (by decide +kernel) | exact .inr (by decide +kernel)) (by rw [isSubtype_type]; kernel_rfl)
theorem mp_called : TypeCalled "map" "map.__new__" "object.__init__" :=
  ⟨by decide +kernel, by decide +kernel, ⟨_, _, mp_mro⟩, madeBy_type mp_mro mp_lookup_new (by decide +kernel), by decide +kernel, by rw [isSubtype_type]; kernel_rfl, mp_slot_init⟩
theorem mp_typeCall (a b : Value) : checkTypeCall "map" ⟨[a, b], []⟩ = pure () := by kernel_rfl
theorem mp_newCall (a b : Value) : checkBuiltinCall "map.__new__" ⟨[.type "map", a, b], []⟩ = pure () := by kernel_rfl
theorem mp_entry_new : entryFor table "map.__new__" = some Builtin.«map.__new__» := entryFor_of_tree (by kernel_rfl)
theorem mp_sub : isSubtype (.type "map") (.type "map") = pure true := by rw [isSubtype_type]; kernel_rfl
theorem mp_owner : Manifest.owners.lookup (String.ofList ['p', 'a', 'm'].reverse) = some Manifest.sig_map := by kernel_rfl
theorem mp_slot_iter : Slot "map" "__iter__" "map.__iter__" :=
  .of (owner := "map") (n := "__iter__") (by rw [typeLookup_type, builtinLookup_eq_fast]; kernel_rfl) (by decide +kernel) (by decide +kernel) (by decide +kernel)
    (by first | exact .inl (by decide +kernel) | exact .inr (by decide +kernel)) (by rw [isSubtype_type]; kernel_rfl)
theorem mp_slot_next : Slot "map" "__next__" "map.__next__" :=
  .of (owner := "map") (n := "__next__") (by rw [typeLookup_type, builtinLookup_eq_fast]; kernel_rfl) (by decide +kernel) (by decide +kernel) (by decide +kernel)
    (by first | exact .inl (by decide +kernel) | exact .inr (by decide +kernel)) (by rw [isSubtype_type]; kernel_rfl)
theorem mp_entry_iter : entryFor table "map.__iter__" = some Builtin.«dict_keyiterator.__iter__» :=
  entryFor_alias (id' := "dict_keyiterator.__iter__") (by kernel_rfl) (by first | rfl | decide +kernel | (unfold String.splitOn; simp +decide [String.splitOnAux])) (by decide +kernel) (by kernel_rfl)
theorem mp_entry_next : entryFor table "map.__next__" = some Builtin.«map.__next__» := entryFor_of_tree (by kernel_rfl)
theorem mp_args_iter (a : Value) : argsOk "map.__iter__" ⟨[a], []⟩ := by
  unfold argsOk; rw [signature?_of (id := "map.__iter__") (n := ['_', '_', 'r', 'e', 't', 'i', '_', '_']) (o := ['p', 'a', 'm']) (by kernel_rfl) mp_owner]; kernel_rfl
theorem mp_args_next (a : Value) : argsOk "map.__next__" ⟨[a], []⟩ := by
  unfold argsOk; rw [signature?_of (id := "map.__next__") (n := ['_', '_', 't', 'x', 'e', 'n', '_', '_']) (o := ['p', 'a', 'm']) (by kernel_rfl) mp_owner]; kernel_rfl
noncomputable abbrev IsMap (h : Heap) (M T : Addr) (f : Value) : Prop := h.get? M = some { cls := .type "map", dict := none, data := .fields #[.ref T, f], slots := #[] }
noncomputable abbrev IsOne (h : Heap) (T I : Addr) : Prop := h.get? T = some { cls := .type "tuple", data := .seq #[.ref I] }
theorem mp_meets_new (l : Addr) (f : Value) (xs : Array Value) :
    Meets (Builtin.«map.__new__» ⟨[.type "map", f, .ref l], []⟩) (fun _ R s => s.heap.IsList l xs ∧
      R (.ok (.ret (.ref ((s.heap.push { cls := .type "list_iterator", data := .fields #[.ref l, .int 0 0] }).push { cls := .type "tuple", data := .seq #[.ref s.heap.objs.size] }).objs.size)))
        { s with heap := ((s.heap.push { cls := .type "list_iterator", data := .fields #[.ref l, .int 0 0] }).push { cls := .type "tuple", data := .seq #[.ref s.heap.objs.size] }).push { cls := .type "map", data := .fields #[.ref (s.heap.push { cls := .type "list_iterator", data := .fields #[.ref l, .int 0 0] }).objs.size, f] } }) :=
  .of_wp fun prog w A R s h => by
    obtain ⟨hp, g, d, tk, os⟩ := s; obtain ⟨hl, h⟩ := h
    have hsub := mp_sub
    have hL1 : Heap.IsList (Shared.heap ⟨hp, g, d, tk, os⟩) l xs := hl
    wp_walk using wpAny_pyIter_list hL1
    exact ⟨_, rfl, h⟩
end Mine
end

section
open PySem PySem.W PyProof.Rows
set_option maxRecDepth 100000
set_option maxHeartbeats 4000000
namespace Mine
section
variable {prog : Program} {w : World} {A : Around} {E : Value → Shared → Prop} {s : Shared}
theorem map_next_item {M T I l : Addr} {k : Nat} {xs : Array Value} {x : Str} {t : Tok} {n : Int} {Q : Value → Shared → Prop} (hMI : M ≠ I) (hTI : T ≠ I) (hM : IsMap s.heap M T (.type "int")) (hT : IsOne s.heap T I)
    (hI : s.heap.IsListIter I l k) (hl : s.heap.IsList l xs) (hx : xs[k]? = some (.str x t)) (hn : PySem.intText? x = some n) (hlen : x.length ≤ 640)
    (hQ : ∀ h' tk, h'.IsListIter I l (k + 1) → Heap.SameBut I s.heap h' → Q (.int n s.toks) { s with heap := h', toks := tk }) :
    wpAny (model prog w) A (Builtin.«map.__next__» ⟨[.ref M], []⟩) (fun fin s' => ∃ v, fin = .done (.ret v) ∧ Q v s') E s := by
  show wpAny _ _ (field (.ref M) 0 >>= _) _ _ _
  refine wpAny_bind (wpAny_field hM rfl (x := .ref T) rfl ?_)
  refine wpAny_bind (wpAny_seqItems hT rfl ?_)
  dsimp only
  refine wpAny_bind ?_
  simp only [List.forIn_toArray, List.forIn_cons, List.forIn_nil]
  refine wpAny_bind (wpAny_bind (wpAny_holding ?_))
  refine wpAny_nextOf_list_item hI hl hx fun h₁ hI₁ hs₁ => ?_
  refine wpAny_pure ?_
  dsimp only
  refine wpAny_pure ?_
  have hM₁ : IsMap h₁ M T (.type "int") := hs₁.extBut _ _ hMI hM
  refine wpAny_bind (wpAny_field hM₁ rfl (x := .type "int") rfl ?_)
  refine wpAny_bind (wpAny_holding ?_)
  refine KIN.call_text hn hlen ?_
  refine wpAny_bind (wpAny_letGo (wpAny_pure ⟨_, rfl, hQ h₁ _ hI₁ hs₁⟩))
theorem map_pyNext_item {M T I l : Addr} {k : Nat} {xs : Array Value} {x : Str} {t : Tok} {n : Int} {Q : Option Value → Shared → Prop} (hMI : M ≠ I) (hTI : T ≠ I) (hM : IsMap s.heap M T (.type "int")) (hT : IsOne s.heap T I)
    (hI : s.heap.IsListIter I l k) (hl : s.heap.IsList l xs) (hx : xs[k]? = some (.str x t)) (hn : PySem.intText? x = some n) (hlen : x.length ≤ 640)
    (hQ : ∀ h' tk, h'.IsListIter I l (k + 1) → Heap.SameBut I s.heap h' → Q (some (.int n s.toks)) { s with heap := h', toks := tk }) :
    wpAny (model prog w) A (pyNext (.ref M)) Q E s := by
  have hTy : s.TypeIs (.ref M) "map" := ⟨_, hM, rfl⟩
  unfold pyNext
  exact wpAny_bind (wpAny_attempt (wpAny_callSpecial?_slot (name := Str.ofString "__next__") hTy mp_slot_next
    (wpAny_call_entry mp_slot_next hTy mp_entry_next (map_next_item hMI hTI hM hT hI hl hx hn hlen fun h' tk a b => wpAny_pure (hQ h' tk a b)) (mp_args_next _))))
theorem map_pyNext_end {M T I l : Addr} {k : Nat} {xs : Array Value} {Q : Option Value → Shared → Prop} (hh : A.handled = none) (hM : IsMap s.heap M T (.type "int")) (hT : IsOne s.heap T I)
    (hI : s.heap.IsListIter I l k) (hl : s.heap.IsList l xs) (hx : xs[k]? = none) (hQ : ∀ h', Heap.ExtBut I s.heap h' → Q none { s with heap := h' }) :
    wpAny (model prog w) A (pyNext (.ref M)) Q E s := by
  have hTy : s.TypeIs (.ref M) "map" := ⟨_, hM, rfl⟩
  unfold pyNext
  refine wpAny_bind (wpAny_attempt (wpAny_callSpecial?_slot (name := Str.ofString "__next__") hTy mp_slot_next
    (wpAny_call_entry mp_slot_next hTy mp_entry_next ?_ (mp_args_next _))))
  show wpAny _ _ (field (.ref M) 0 >>= _) _ _ _
  refine wpAny_bind (wpAny_field hM rfl (x := .ref T) rfl ?_)
  refine wpAny_bind (wpAny_seqItems hT rfl ?_)
  dsimp only
  refine wpAny_bind ?_
  simp only [List.forIn_toArray, List.forIn_cons, List.forIn_nil]
  refine wpAny_bind (wpAny_bind (wpAny_holding ?_))
  refine wpAny_nextOf_list_end hh hI hl hx fun h' e he hx' => ?_
  obtain ⟨o, ho, hc⟩ := hx'
  refine wpAny_bind (wpAny_isInstance (T := "StopIteration") (b := true) ⟨o, ho, hc⟩ isSubtype_stop ?_)
  exact wpAny_pure (hQ _ he)
theorem map_pyIter {M T : Addr} {f : Value} {Q : Value → Shared → Prop} (hM : IsMap s.heap M T f) (h : Q (.ref M) s) : wpAny (model prog w) A (pyIter (.ref M)) Q E s := by
  have hT : s.TypeIs (.ref M) "map" := ⟨_, hM, rfl⟩
  refine wpAny_pyIter_slot hT mp_slot_iter (wpAny_call_entry mp_slot_iter hT mp_entry_iter ?_ (mp_args_iter _))
  show wpAny _ _ (ret (.ref M)) _ _ s
  exact wpAny_pure ⟨_, rfl, "map", _, hT, mp_slot_next.lookup, h⟩
theorem map_unpack2 {M T I l : Addr} {x y : Str} {t u : Tok} {n k : Int} {Q : List Value → Shared → Prop} (hh : A.handled = none) (hMI : M ≠ I) (hTI : T ≠ I) (hlI : l ≠ I) (hM : IsMap s.heap M T (.type "int")) (hT : IsOne s.heap T I)
    (hI : s.heap.IsListIter I l 0) (hl : s.heap.IsList l #[.str x t, .str y u]) (hn : PySem.intText? x = some n) (hk : PySem.intText? y = some k) (hx : x.length ≤ 640) (hy : y.length ≤ 640)
    (hQ : ∀ h' tk t1 t2, Heap.ExtBut I s.heap h' → Q [.int n t1, .int k t2] { s with heap := h', toks := tk }) :
    wpAny (model prog w) A (unpackItems (.ref M) 2 none) Q E s := by
  have hTy : s.TypeIs (.ref M) "map" := ⟨_, hM, rfl⟩
  unfold unpackItems
  refine wpAny_bind ?_
  unfold notIterableAtAll
  refine wpAny_bind (wpAny_specialOf hTy mp_slot_iter.lookup ?_)
  refine wpAny_pure ?_
  simp only [Bool.false_eq_true, if_false]
  refine wpAny_bind (wpAny_holding (map_pyIter hM ?_))
  refine wpAny_bind (wpAny_holding ?_)
  show wpAny _ _ (pyNext (.ref M) >>= _) _ E s
  refine wpAny_bind (map_pyNext_item hMI hTI hM hT hI hl rfl hn hx fun h₁ tk₁ hI₁ hs₁ => ?_)
  refine wpAny_bind (wpAny_holding ?_)
  show wpAny _ _ (pyNext (.ref M) >>= _) _ E _
  have hl₁ := hl.extBut hs₁.extBut hlI
  have hM₁ := hs₁.extBut _ _ hMI hM
  have hT₁ := hs₁.extBut _ _ hTI hT
  refine wpAny_bind (map_pyNext_item hMI hTI hM₁ hT₁ hI₁ hl₁ rfl hk hy fun h₂ tk₂ hI₂ hs₂ => ?_)
  have hl₂ := hl₁.extBut hs₂.extBut hlI
  have hM₂ := hs₂.extBut _ _ hMI hM₁
  have hT₂ := hs₂.extBut _ _ hTI hT₁
  refine wpAny_bind (wpAny_holding ?_)
  refine wpAny_pure (wpAny_pure (wpAny_pure ?_))
  rw [if_neg (by simp)]
  refine wpAny_bind (wpAny_holding (map_pyNext_end hh hM₂ hT₂ hI₂ hl₂ rfl fun h₃ he₃ => ?_))
  simp only [Option.isSome_none, Bool.false_eq_true, if_false]
  exact wpAny_pure (hQ h₃ _ _ _ fun b o hb e => he₃ b o hb (hs₂.extBut b o hb (hs₁.extBut b o hb e)))
theorem map_unpack1 {M T I l : Addr} {x : Str} {t : Tok} {n : Int} {Q : List Value → Shared → Prop} (hh : A.handled = none) (hMI : M ≠ I) (hTI : T ≠ I) (hlI : l ≠ I) (hM : IsMap s.heap M T (.type "int")) (hT : IsOne s.heap T I)
    (hI : s.heap.IsListIter I l 0) (hl : s.heap.IsList l #[.str x t]) (hn : PySem.intText? x = some n) (hx : x.length ≤ 640)
    (hQ : ∀ h₁ h' tk e, Heap.ExtBut I s.heap h₁ → Heap.NewExc h₁ h' e "ValueError" → E (.ref e) { s with heap := h', toks := tk }) :
    wpAny (model prog w) A (unpackItems (.ref M) 2 none) Q E s := by
  have hTy : s.TypeIs (.ref M) "map" := ⟨_, hM, rfl⟩
  unfold unpackItems
  refine wpAny_bind ?_
  unfold notIterableAtAll
  refine wpAny_bind (wpAny_specialOf hTy mp_slot_iter.lookup ?_)
  refine wpAny_pure ?_
  simp only [Bool.false_eq_true, if_false]
  refine wpAny_bind (wpAny_holding (map_pyIter hM ?_))
  refine wpAny_bind (wpAny_holding ?_)
  show wpAny _ _ (pyNext (.ref M) >>= _) _ E s
  refine wpAny_bind (map_pyNext_item hMI hTI hM hT hI hl rfl hn hx fun h₁ tk₁ hI₁ hs₁ => ?_)
  refine wpAny_bind (wpAny_holding ?_)
  show wpAny _ _ (pyNext (.ref M) >>= _) _ E _
  have hl₁ := hl.extBut hs₁.extBut hlI
  have hM₁ := hs₁.extBut _ _ hMI hM
  have hT₁ := hs₁.extBut _ _ hTI hT
  refine wpAny_bind (map_pyNext_end hh hM₁ hT₁ hI₁ hl₁ rfl fun h₂ he₂ => ?_)
  refine wpAny_pure (wpAny_pure ?_)
  rw [if_pos (by simp)]
  refine wpAny_bind (wpAny_rule ?_)
  refine wpAny_bind (wpAny_raiseErrorMade plainExc_ValueError hh (fun h₃ tk₃ e hx₃ => ?_) (by simp only [List.length_cons, List.length_nil]; decide +kernel))
  exact hQ h₂ h₃ _ e (fun b o hb e => he₂ b o hb (hs₁.extBut b o hb e)) hx₃
variable {h₀ : Heap} {L : Addr} {m : Str → Option Value} {news : List (Addr × Obj)}
noncomputable abbrev oMap (T : Addr) : Obj := { cls := .type "map", data := .fields #[.ref T, .type "int"] }
noncomputable abbrev oOne (I : Addr) : Obj := { cls := .type "tuple", data := .seq #[.ref I] }
noncomputable abbrev oIt (l : Addr) (k : Nat) : Obj := { cls := .type "list_iterator", data := .fields #[.ref l, .int k 0] }
theorem map_K {l : Addr} {vs : List Value} {n : Nat} {Q : Value → Shared → Prop} (F : Fr h₀ L s.heap m) (N : News h₀ L s.heap news) (hm : (l, listOf vs.toArray n) ∈ news)
    (h : ∀ M T I h', (∀ p ∈ news, p.1 < I) → @LT.lt Nat _ I T → @LT.lt Nat _ T M → Fr h₀ L h' m → News h₀ L h' ((M, oMap T) :: (T, oOne I) :: (I, oIt l 0) :: news) → Q (.ref M) { s with heap := h' }) :
    wpAny (model prog w) A (call (.type "map") [.type "int", .ref l]) Q E s := by
  have hol : s.heap.get? l = some (listOf vs.toArray n) := (N _ hm).1
  have hls : s.heap.IsList l vs.toArray := ⟨_, hol, rfl, n, rfl⟩
  refine callType_new mp_called (by decide) (mp_typeCall _ _) (mp_newCall _ _) (fun obj => PySem.F.args_object_init_3 obj _ _) mp_entry_new (mp_meets_new l _ vs.toArray) ⟨hls, ?_⟩
  have z1 : (s.heap.push (oIt l 0)).objs.size = s.heap.objs.size + 1 := Heap.size_push ..
  have z2 : ((s.heap.push (oIt l 0)).push (oOne s.heap.objs.size)).objs.size = s.heap.objs.size + 2 := by rw [Heap.size_push, z1]
  have F1 := F.push (oIt l 0)
  have F2 := F1.push (oOne s.heap.objs.size)
  have F3 := F2.push (oMap (s.heap.push (oIt l 0)).objs.size)
  have N3 := News.push F2 (News.push F1 (News.push F N (oIt l 0)) (oOne s.heap.objs.size)) (oMap (s.heap.push (oIt l 0)).objs.size)
  show _ ∧ _
  refine ⟨⟨_, Heap.get?_push_size _ rfl, rfl⟩, h _ (s.heap.push (oIt l 0)).objs.size s.heap.objs.size _ (fun p hp => Heap.lt_size (N p hp).1) ?_ ?_ F3 ?_⟩
  · rw [z1]; exact Nat.lt_succ_self _
  · rw [z1]; exact Nat.lt_of_lt_of_eq (Nat.lt_succ_self _) z2.symm
  · exact N3
theorem frnews_but {h h' : Heap} {I : Addr} {oI : Obj} {rest : List (Addr × Obj)} (F : Fr h₀ L h m) (hI : h.get? I = some oI ∧ I ≠ L ∧ h₀.get? I = none) (N : News h₀ L h rest) (hne : ∀ p ∈ rest, p.1 ≠ I) (hs : Heap.ExtBut I h h') : Fr h₀ L h' m ∧ News h₀ L h' rest :=
  ⟨⟨F.ns.extBut hs (Ne.symm hI.2.1), fun b o e => hs b o (fun q => by rw [q, hI.2.2] at e; cases e) (F.keep b o e), F.above⟩, fun p hp => ⟨hs _ _ (hne p hp) (N p hp).1, (N p hp).2⟩⟩
theorem unpack2_K {M T I l : Addr} {x y : Str} {t u : Tok} {n k : Int} {c : Nat} {Q : List Value → Shared → Prop} (hh : A.handled = none) (F : Fr h₀ L s.heap m) (N : News h₀ L s.heap ((M, oMap T) :: (T, oOne I) :: (I, oIt l 0) :: news)) (hl : (l, listOf #[.str x t, .str y u] c) ∈ news)
    (hne : ∀ p ∈ news, p.1 ≠ I) (hMI : M ≠ I) (hTI : T ≠ I) (hn : PySem.intText? x = some n) (hk : PySem.intText? y = some k) (hx : x.length ≤ 640) (hy : y.length ≤ 640)
    (h : ∀ h' tk t1 t2, Fr h₀ L h' m → News h₀ L h' news → Q [.int n t1, .int k t2] { s with heap := h', toks := tk }) :
    wpAny (model prog w) A (unpackItems (.ref M) 2 none) Q E s := by
  have NI := N _ (.tail _ (.tail _ (.head _)))
  have Nl : News h₀ L s.heap news := fun p hp => N p (.tail _ (.tail _ (.tail _ hp)))
  refine map_unpack2 (l := l) hh hMI hTI (hne _ hl) (N _ (.head _)).1 (N _ (.tail _ (.head _))).1 ⟨_, NI.1, rfl, rfl⟩ ⟨_, (Nl _ hl).1, rfl, _, rfl⟩ hn hk hx hy fun h' tk t1 t2 hs => ?_
  obtain ⟨F', N'⟩ := frnews_but F NI Nl hne hs
  exact h h' tk t1 t2 F' N'
theorem unpack1_K {M T I l : Addr} {x : Str} {t : Tok} {n : Int} {c : Nat} {Q : List Value → Shared → Prop} (hh : A.handled = none) (F : Fr h₀ L s.heap m) (N : News h₀ L s.heap ((M, oMap T) :: (T, oOne I) :: (I, oIt l 0) :: news)) (hl : (l, listOf #[.str x t] c) ∈ news)
    (hne : ∀ p ∈ news, p.1 ≠ I) (hMI : M ≠ I) (hTI : T ≠ I) (hn : PySem.intText? x = some n) (hx : x.length ≤ 640)
    (h : ∀ h₁ h' tk e, Fr h₀ L h₁ m → News h₀ L h₁ news → Heap.NewExc h₁ h' e "ValueError" → E (.ref e) { s with heap := h', toks := tk }) :
    wpAny (model prog w) A (unpackItems (.ref M) 2 none) Q E s := by
  have NI := N _ (.tail _ (.tail _ (.head _)))
  have Nl : News h₀ L s.heap news := fun p hp => N p (.tail _ (.tail _ (.tail _ hp)))
  refine map_unpack1 (l := l) hh hMI hTI (hne _ hl) (N _ (.head _)).1 (N _ (.tail _ (.head _))).1 ⟨_, NI.1, rfl, rfl⟩ ⟨_, (Nl _ hl).1, rfl, _, rfl⟩ hn hx fun h₁ h' tk e hs hx' => ?_
  obtain ⟨F', N'⟩ := frnews_but F NI Nl hne hs
  exact h h₁ h' tk e F' N' hx'
variable {env : Env}
theorem assign_map2 {elts : List PySem.Expr} {kk : Nat} {pos : Pos} {M T I l : Addr} {x y : Str} {t u : Tok} {n k : Int} {c : Nat} {Q : Unit → Shared → Prop} (hh : A.handled = none) (F : Fr h₀ L s.heap m) (N : News h₀ L s.heap ((M, oMap T) :: (T, oOne I) :: (I, oIt l 0) :: news)) (hl : (l, listOf #[.str x t, .str y u] c) ∈ news)
    (hne : ∀ p ∈ news, p.1 ≠ I) (hMI : M ≠ I) (hTI : T ≠ I) (hn : PySem.intText? x = some n) (hk : PySem.intText? y = some k) (hx : x.length ≤ 640) (hy : y.length ≤ 640)
    (hlen : (assignEach elts env).length = 2) (hstar : (assignEach elts env).findIdx? (·.1) = none)
    (h : ∀ h' tk t1 t2, Fr h₀ L h' m → News h₀ L h' news → wpAny (model prog w) A (assignInOrder ((assignEach elts env).map (·.2)) [.int n t1, .int k t2]) Q E { s with heap := h', toks := tk }) :
    wpAny (model prog w) A (assign (.Tuple elts kk pos) env (.ref M)) Q E s := by
  rw [assign_Tuple]
  refine wpAny_bind (wpAny_standAt ?_)
  unfold unpack
  rw [hlen, hstar]
  exact wpAny_bind (wpAny_holding (unpack2_K hh F N hl hne hMI hTI hn hk hx hy h))
theorem assign_map1 {elts : List PySem.Expr} {kk : Nat} {pos : Pos} {M T I l : Addr} {x : Str} {t : Tok} {n : Int} {c : Nat} {Q : Unit → Shared → Prop} (hh : A.handled = none) (F : Fr h₀ L s.heap m) (N : News h₀ L s.heap ((M, oMap T) :: (T, oOne I) :: (I, oIt l 0) :: news)) (hl : (l, listOf #[.str x t] c) ∈ news)
    (hne : ∀ p ∈ news, p.1 ≠ I) (hMI : M ≠ I) (hTI : T ≠ I) (hn : PySem.intText? x = some n) (hx : x.length ≤ 640)
    (hlen : (assignEach elts env).length = 2) (hstar : (assignEach elts env).findIdx? (·.1) = none)
    (h : ∀ h₁ h' tk e, Fr h₀ L h₁ m → News h₀ L h₁ news → Heap.NewExc h₁ h' e "ValueError" → E (.ref e) { s with heap := h', toks := tk }) :
    wpAny (model prog w) A (assign (.Tuple elts kk pos) env (.ref M)) Q E s := by
  rw [assign_Tuple]
  refine wpAny_bind (wpAny_standAt ?_)
  unfold unpack
  rw [hlen, hstar]
  exact wpAny_bind (wpAny_holding (unpack1_K hh F N hl hne hMI hTI hn hx h))
end
end Mine
end

section
open PySem PySem.W PyProof.Rows
set_option maxRecDepth 100000
set_option maxHeartbeats 2400000
namespace Mine
/-- what a call of the def at f with the values vs does: it raises X -/
noncomputable def TellsX (w : World) (f : Addr) (k : Nat) (vs : List Value) (news : List (Addr × Obj)) (X : String) : Prop :=
  ∀ (p : Program) (loose : List Str) (mean : ExcName → Option Value) (mg mb : Str → Option Value) (dp un : Nat) (gd : Option (List Code)) (cn : Str) (cs : Scope) (a : Addr) (ccd : Value) (cl : List (Str × Addr)) (outer : List Env) (A₀ : Around) (base h₀ : Heap) (L : Addr) (m : Str → Option Value) (s : Shared)
    (Q E : Value → Shared → Prop), (Mine.hd.heap_39 w.params).In h₀ → Below A₀ base outer h₀ → Fr h₀ L s.heap m → News h₀ L s.heap news → Top p loose mean mg mb h₀ → cs.kind = .function → dp + k < recursionLimit → un + 8 * k < cLine →
    (∀ G e nw h' tk', Fr h₀ L G m → (∀ q ∈ news, q ∈ nw) → RaisedSN base G (envX cn cs L a ccd cl :: outer) e (.type X) nw h' → G.UpToSlots h' → E (.ref e) { s with heap := h', toks := tk' }) →
    wpAny (model PySem.Challenge.rw_mq0134_01.row.prog w) (ktrTop dp un gd cn cs L a ccd cl outer) (call (.ref f) vs) Q E s
theorem split_two {l : List (Str × Tok)} {p q : Str} (h : l.map (·.1) = [p, q]) : ∃ t u, l = [(p, t), (q, u)] := by
  obtain ⟨t, l', rfl, h'⟩ := KSpl.cons_of h
  obtain ⟨u, l'', rfl, h''⟩ := KSpl.cons_of h'
  have := KSpl.nil_of h''
  subst this
  exact ⟨t, u, rfl⟩
theorem split_one {l : List (Str × Tok)} {p : Str} (h : l.map (·.1) = [p]) : ∃ t, l = [(p, t)] := by
  obtain ⟨t, l', rfl, h'⟩ := KSpl.cons_of h
  have := KSpl.nil_of h'
  subst this
  exact ⟨t, rfl⟩
theorem sz2 {x : Str} (h : x.length ≤ 1000) : x.length + 2 ≤ sizeLine := Nat.le_trans (Nat.add_le_add_right h 2) (by decide)
theorem reg_Glc_1 : True := by
  w_top off
  k_with_none
  k_with "my omega" => first
      | with_reducible assumption
      | decide
      | ((fail_if_success (fail_if_success omega (config := {})))
         first
           | k_extra "my om"
           | k_extra "my big"
           | omega (config := {}))
  k_with "my om" => first
      | (with_reducible refine' rm0 ?h; (case h => with_reducible assumption))
      | (with_reducible refine' rm1 ?h ?e; (case h => with_reducible assumption); (case e => decide))
      | (with_reducible refine' rm2 ?h ?e; (case h => with_reducible assumption); (case e => decide))
      | (with_reducible refine' rm3 ?h ?e; (case h => with_reducible assumption); (case e => decide))
      | (with_reducible refine' bd1 ?h ?e; (case h => with_reducible assumption); (case e => decide))
      | (with_reducible refine' bd3 ?h ?e; (case h => with_reducible assumption); (case e => decide))
      | (with_reducible refine' bd4 ?h ?e; (case h => with_reducible assumption); (case e => decide))
      | (with_reducible refine' bz1 ?h ?e; (case h => walk_at "lt"); (case e => decide))
      | (with_reducible refine' bz3 ?h ?e; (case h => walk_at "lt"); (case e => decide))
      | (with_reducible refine' bd2 ?q ?h ?e; (case q => with_reducible assumption); (case h => with_reducible assumption); (case e => decide))
      | walk_at "lt2"
      | (with_reducible refine Nat.le_of_lt ?_; walk_at "lt2")
      | (with_reducible refine Nat.ne_of_lt ?_; walk_at "lt2")
      | (with_reducible refine Nat.ne_of_gt ?_; walk_at "lt2")
      | ((with_reducible refine And.intro ?_ ?_) <;> k_extra "my omega")
      | (with_reducible refine' Nat.lt_trans ?a ?b; (case b => with_reducible assumption); (case a => walk_at "lt2"))
      | (with_reducible refine' Nat.lt_trans ?a ?b; (case a => with_reducible assumption); (case b => walk_at "lt2"))
      | (with_reducible refine' Nat.lt_of_le_of_lt ?a ?b; (case b => with_reducible assumption); (case a => walk_at "lt2"))
      | (with_reducible refine' Nat.lt_of_le_of_lt ?a ?b; (case a => with_reducible assumption); (case b => walk_at "lt2"))
      | (with_reducible refine' Nat.lt_of_lt_of_le ?a ?b; (case b => with_reducible assumption); (case a => walk_at "lt2"))
      | (with_reducible refine' Nat.lt_of_lt_of_le ?a ?b; (case a => with_reducible assumption); (case b => walk_at "lt2"))
      | (with_reducible refine' Nat.le_trans ?a ?b; (case b => with_reducible assumption); (case a => walk_at "lt2"))
      | (with_reducible refine' Nat.le_trans ?a ?b; (case a => with_reducible assumption); (case b => walk_at "lt2"))
  k_with "my lt" => first
      | with_reducible assumption
      | (refine' And.left ?h; (case h => with_reducible assumption))
      | (refine' And.left (And.right ?h); (case h => with_reducible assumption))
      | (refine' And.left (And.right (And.right ?h)); (case h => with_reducible assumption))
      | (refine' And.left (And.right (And.right (And.right ?h))); (case h => with_reducible assumption))
      | (refine' And.left (And.right (And.right (And.right (And.right ?h)))); (case h => with_reducible assumption))
      | (refine' And.left (And.right (And.right (And.right (And.right (And.right ?h))))); (case h => with_reducible assumption))
      | (refine' And.left (And.right (And.right (And.right (And.right (And.right (And.right ?h)))))); (case h => with_reducible assumption))
      | (refine' And.left (And.right (And.right (And.right (And.right (And.right (And.right (And.right ?h))))))); (case h => with_reducible assumption))
      | (refine' And.left (And.right (And.right (And.right (And.right (And.right (And.right (And.right (And.right ?h)))))))); (case h => with_reducible assumption))
      | (refine' And.left (And.right (And.right (And.right (And.right (And.right (And.right (And.right (And.right (And.right ?h))))))))); (case h => with_reducible assumption))
      | (refine' And.left (And.right (And.right (And.right (And.right (And.right (And.right (And.right (And.right (And.right (And.right ?h)))))))))); (case h => with_reducible assumption))
  k_with "my lt2" => first
      | walk_at "lt"
      | (with_reducible exact ad1)
      | (with_reducible exact ad2)
      | (with_reducible exact ad3)
      | (with_reducible exact ad4)
      | (with_reducible refine ar1 ?_; walk_at "lt")
      | (with_reducible refine ar2 ?_; walk_at "lt")
      | (with_reducible refine ar3 ?_; walk_at "lt")
      | (with_reducible refine ar4 ?_; walk_at "lt")
      | (with_reducible refine as1 ?_; walk_at "lt")
      | (with_reducible refine as2 ?_; walk_at "lt")
      | (with_reducible refine as3 ?_; walk_at "lt")
      | (with_reducible refine as4 ?_; walk_at "lt")
  k_with "my ar" => ((try dsimp only); first
      | with_reducible exact Nat.le_refl _
      | walk_at "lt2"
      | (refine Nat.le_of_lt ?_; walk_at "lt2")
      | (refine Nat.ne_of_lt ?_; walk_at "lt2")
      | (refine Nat.ne_of_gt ?_; walk_at "lt2")
      | k_extra "my ar2"
      | omega)
  k_with "my k_ne" => (refine neN ?_; (try dsimp only); first
      | with_reducible assumption
      | (refine Ne.symm ?_; with_reducible assumption)
      | (refine Nat.ne_of_lt ?_; walk_at "lt")
      | (refine Nat.ne_of_gt ?_; walk_at "lt")
      | omega)
  k_with "my call builtin:str.split" => (k_here; refine' KSpl.split1 ?F ?N ?y ?_ ?z; (case F => k_asm); (case N => k_asm); (case y => decide); (case z => exact sz2 (by assumption)); intro D' l' h' k' e' a' F' N' l1; (try k_lt l1))
  trivial
theorem glc_tells {w : World} (text : Str) (tt : Tok) (p₀ q₀ : Str) (n k : Int) (news : List (Addr × Obj)) (hx : text.length ≤ 1000) (hs : Txt.split text (PySem.Str.ofString ".") = [p₀, q₀]) (hp : PySem.intText? p₀ = some n) (hq : PySem.intText? q₀ = some k)
    (hpl : p₀.length ≤ 640) (hql : q₀.length ≤ 640) : Tells w 28 1 [.str text tt] news (RetWF news (.tuple [.int n, .int k])) := by
  revert w text tt p₀ q₀ n k news
  refine no_implicit_lambda% (closedW ?_)
  with_reducible generalize wit _ _ = w
  refine no_implicit_lambda% (@id (Unit → Unit → Unit → _) ?_ () () ())
  refine no_implicit_lambda% (closed10 ?_)
  with_reducible generalize wit _ _ = tQ
  with_reducible generalize Prod.fst (Prod.snd (Prod.snd (Prod.snd (tQ)))) = text
  with_reducible generalize Prod.fst (Prod.snd (Prod.snd (Prod.snd (Prod.snd (tQ))))) = tt
  with_reducible generalize Prod.fst (Prod.snd (Prod.snd (Prod.snd (Prod.snd (Prod.snd (tQ)))))) = p₀
  with_reducible generalize Prod.fst (Prod.snd (Prod.snd (Prod.snd (Prod.snd (Prod.snd (Prod.snd (tQ))))))) = q₀
  with_reducible generalize Prod.fst (Prod.snd (Prod.snd (Prod.snd (Prod.snd (Prod.snd (Prod.snd (Prod.snd (tQ)))))))) = n
  with_reducible generalize Prod.fst (Prod.snd (Prod.snd (Prod.snd (Prod.snd (Prod.snd (Prod.snd (Prod.snd (Prod.snd (tQ))))))))) = k
  with_reducible generalize Prod.snd (Prod.snd (Prod.snd (Prod.snd (Prod.snd (Prod.snd (Prod.snd (Prod.snd (Prod.snd (tQ))))))))) = news
  clear tQ
  intro hx hs hp hq hpl hql
  refine tells_close ?_
  unfold TellsAt
  with_reducible generalize TV.p _ = p
  with_reducible generalize TV.loose _ = loose
  with_reducible generalize TV.mean _ = mean
  with_reducible generalize TV.mg _ = mg
  with_reducible generalize TV.mb _ = mb
  with_reducible generalize TV.dp _ = dp
  with_reducible generalize TV.un _ = un
  with_reducible generalize TV.gd _ = gd
  with_reducible generalize TV.cn _ = cn
  with_reducible generalize TV.cs _ = cs
  with_reducible generalize TV.a _ = a
  with_reducible generalize TV.ccd _ = ccd
  with_reducible generalize TV.cl _ = cl
  with_reducible generalize TV.outer _ = outer
  with_reducible generalize TV.A₀ _ = A₀
  with_reducible generalize TV.base _ = base
  with_reducible generalize TV.h₀ _ = h₀
  with_reducible generalize TV.L _ = L
  with_reducible generalize TV.m _ = m
  with_reducible generalize TV.s _ = s
  with_reducible generalize TV.Q _ = Q
  with_reducible generalize TV.E _ = E
  k_fill
  intro X B F N T hk hdp hun hret
  refine wpAny_call ?_
  k_dflt cell_enter
  k_steps
  rename News _ _ _ _ => N1
  rename Fr _ _ _ _ => F1
  rename (_ = Txt.split _ _) => e
  rw [hs] at e
  rename (∀ p, p ∈ news → _) => l0
  obtain ⟨t1, t2, e2⟩ := split_two e
  subst e2
  refine map_K F1 N1 (.head _) fun M T I h5 lI lT lM F2 N2 => ?_
  k_steps
  refine assign_map2 rfl F2 N2 (.head _) ?_ ?_ ?_ hp hq hpl hql rfl rfl fun h6 tk6 u1 u2 F3 N3 => ?_
  · exact fun p hp => Nat.ne_of_lt (lI p hp)
  · exact Nat.ne_of_gt (Nat.lt_trans lT lM)
  · exact Nat.ne_of_gt lT
  k_steps
  refine' ret_fullWF (front := [_, _]) hret ?kF ?kN ?kf ?_ ?_; (case kF => with_reducible assumption); (case kN => with_reducible assumption); (case kf => exact rfl)
  · rename _ ∧ AllLt _ _ => l2
    simp only [List.forall_mem_cons]
    exact ⟨fun q hq => Nat.ne_of_gt (ktn_ltOf l2.2 q hq), fun q hq => Nat.ne_of_gt (l0 q hq), fun _ h => nomatch h⟩
  · exact dat_pair (.head _) (.int _ _) (.int _ _)
theorem reg_Glc_2 : True := by
  k_with "my leaving ref" => (k_here; refine' leave_newS ?k1 ?k0 ?k2 ?k3 ?_; (case k0 => assumption); (case k2 => assumption); (case k1 => assumption); (case k3 => k_asm); k_whole; walk_at "i4")
  trivial
theorem glc_raises {w : World} (text : Str) (tt : Tok) (p₀ : Str) (n : Int) (news : List (Addr × Obj)) (hx : text.length ≤ 1000) (hs : Txt.split text (PySem.Str.ofString ".") = [p₀]) (hp : PySem.intText? p₀ = some n)
    (hpl : p₀.length ≤ 640) : TellsX w 28 1 [.str text tt] news "ValueError" := by
  unfold TellsX
  k_fill
  intro p loose mean mg mb dp un gd cn cs a ccd cl outer A₀ base h₀ L m s Q E X B F N T hk hdp hun hret
  refine wpAny_call ?_
  k_dflt cell_enter
  k_steps
  rename News _ _ _ _ => N1
  rename Fr _ _ _ _ => F1
  rename (_ = Txt.split _ _) => e
  rw [hs] at e
  obtain ⟨t1, e2⟩ := split_one e
  subst e2
  refine map_K F1 N1 (.head _) fun M T I h5 lI lT lM F2 N2 => ?_
  k_steps
  refine assign_map1 rfl F2 N2 (.head _) ?_ ?_ ?_ hp hpl rfl rfl fun h1 h6 tk6 e F3 N3 hx => ?_
  · exact fun p hp => Nat.ne_of_lt (lI p hp)
  · exact Nat.ne_of_gt (Nat.lt_trans lT lM)
  · exact Nat.ne_of_gt lT
  k_steps
  rename RaisedSN _ _ _ _ _ _ _ => R1
  rename Heap.UpToSlots _ _ => U1
  exact hret _ e _ _ _ (by assumption) (fun q hq => .tail _ hq) R1 U1
end Mine
end

section
open PySem PySem.W PyProof.Rows
set_option maxRecDepth 100000
set_option maxHeartbeats 2400000
namespace Mine
/-- a call of the def at f comes back with R, or raises what o says -/
noncomputable def TellsO (w : World) (f : Addr) (k : Nat) (vs : List Value) (news : List (Addr × Obj)) (R : List (Addr × Obj) → Value → Prop) (o : Option String) : Prop :=
  ∀ (p : Program) (loose : List Str) (mean : ExcName → Option Value) (mg mb : Str → Option Value) (dp un : Nat) (gd : Option (List Code)) (cn : Str) (cs : Scope) (a : Addr) (ccd : Value) (cl : List (Str × Addr)) (outer : List Env) (A₀ : Around) (base h₀ : Heap) (L : Addr) (m : Str → Option Value) (s : Shared)
    (Q E : Value → Shared → Prop), (Mine.hd.heap_39 w.params).In h₀ → Below A₀ base outer h₀ → Fr h₀ L s.heap m → News h₀ L s.heap news → Top p loose mean mg mb h₀ → cs.kind = .function → dp + k < recursionLimit → un + 8 * k < cLine →
    (o = none → ∀ r nx h' tk', Fr h₀ L h' m → News h₀ L h' nx → R nx r → Q r { s with heap := h', toks := tk' }) →
    (∀ X, o = some X → ∀ G e nw h' tk', Fr h₀ L G m → (∀ q ∈ news, q ∈ nw) → RaisedSN base G (envX cn cs L a ccd cl :: outer) e (.type X) nw h' → G.UpToSlots h' → E (.ref e) { s with heap := h', toks := tk' }) →
    wpAny (model PySem.Challenge.rw_mq0134_01.row.prog w) (ktrTop dp un gd cn cs L a ccd cl outer) (call (.ref f) vs) Q E s
noncomputable def TellsOAt (w : World) (f : Addr) (k : Nat) (vs : List Value) (news : List (Addr × Obj)) (R : List (Addr × Obj) → Value → Prop) (o : Option String) (v : TV) : Prop :=
  (Mine.hd.heap_39 w.params).In v.h₀ → Below v.A₀ v.base v.outer v.h₀ → Fr v.h₀ v.L v.s.heap v.m → News v.h₀ v.L v.s.heap news → Top v.p v.loose v.mean v.mg v.mb v.h₀ → v.cs.kind = .function → v.dp + k < recursionLimit → v.un + 8 * k < cLine →
    (o = none → ∀ r nx h' tk', Fr v.h₀ v.L h' v.m → News v.h₀ v.L h' nx → R nx r → v.Q r { v.s with heap := h', toks := tk' }) →
    (∀ X, o = some X → ∀ G e nw h' tk', Fr v.h₀ v.L G v.m → (∀ q ∈ news, q ∈ nw) → RaisedSN v.base G (envX v.cn v.cs v.L v.a v.ccd v.cl :: v.outer) e (.type X) nw h' → G.UpToSlots h' → v.E (.ref e) { v.s with heap := h', toks := tk' }) →
    wpAny (model PySem.Challenge.rw_mq0134_01.row.prog w) (ktrTop v.dp v.un v.gd v.cn v.cs v.L v.a v.ccd v.cl v.outer) (call (.ref f) vs) v.Q v.E v.s
theorem tellsO_close {w : World} {f : Addr} {k : Nat} {vs : List Value} {news : List (Addr × Obj)} {R : List (Addr × Obj) → Value → Prop} {o : Option String} (h : TellsOAt w f k vs news R o (wit neTV (TellsOAt w f k vs news R o))) : TellsO w f k vs news R o :=
  fun p loose mean mg mb dp un gd cn cs a ccd cl outer A₀ base h₀ L m s Q E => closed' neTV h ⟨p, loose, mean, mg, mb, dp, un, gd, cn, cs, a, ccd, cl, outer, A₀, base, h₀, L, m, s, Q, E⟩
inductive KvR where
  | pair (k v : Str)
  | noEq
  | noVal
  | bad
noncomputable def unq (v : Str) : Str := if (Txt.item v 0 == PySem.Str.ofString "\"") = true then (if (Txt.item v (-1) == PySem.Str.ofString "\"") = true then Txt.slice v (some 1) (some (-1)) else v) else v
noncomputable def kvP (x : Str) : KvR :=
  match Txt.splitMax x (PySem.Str.ofString "=") 1 with
  | [_] => .noEq
  | [k, v] => if v.length = 0 then .noVal else .pair k (unq v)
  | _ => .bad
noncomputable def dD (ps : List (Str × Str)) : List (PyData × PyData) := ps.foldl (fun D p => PyProof.V.putD (.str p.1) (.str p.2) D) []
noncomputable def keqvOut : List Str → Option String
  | [] => none
  | x :: xs => match kvP x with
    | .pair _ _ => keqvOut xs
    | .noEq => some "ValueError"
    | _ => some "IndexError"
noncomputable def keqvJ (w : World) (d : Addr) (xs : List Str) (news : List (Addr × Obj)) (i : Nat) (m : Str → Option Value) (nx : List (Addr × Obj)) : Prop :=
  ∃ o kvs ps, nx = (d, o) :: news ∧ o.IsDictOf (PySem.strKind PySem.Challenge.rw_mq0134_01.row.prog w) kvs ∧ PyProof.V.FlatPairs PyData.str kvs (dD ps) ∧ (xs.take i).map kvP = ps.map (fun p => KvR.pair p.1 p.2) ∧ m (PySem.Str.ofString "parsed") = some (.ref d)
noncomputable def RetKeqv (w : World) (xs : List Str) (news nx : List (Addr × Obj)) (r : Value) : Prop :=
  ∃ d o kvs ps tl, r = .ref d ∧ nx = news ++ tl ∧ (∀ p ∈ tl, ∀ q ∈ news, p.1 ≠ q.1) ∧ (d, o) ∈ nx ∧ o.IsDictOf (PySem.strKind PySem.Challenge.rw_mq0134_01.row.prog w) kvs ∧ PyProof.V.FlatPairs PyData.str kvs (dD ps) ∧ xs.map kvP = ps.map (fun p => KvR.pair p.1 p.2) ∧ (d == sysModules) = false
theorem reg_Keqv_1 : True := by
  w_top off
  k_with_none
  k_with "my big" => lia
  k_with "my omega" => first
      | with_reducible assumption
      | decide
      | ((fail_if_success (fail_if_success omega (config := {})))
         first
           | k_extra "my om"
           | k_extra "my big"
           | omega (config := {}))
  k_with "my om" => first
      | (with_reducible refine' rm0 ?h; (case h => with_reducible assumption))
      | (with_reducible refine' rm1 ?h ?e; (case h => with_reducible assumption); (case e => decide))
      | (with_reducible refine' rm2 ?h ?e; (case h => with_reducible assumption); (case e => decide))
      | (with_reducible refine' rm3 ?h ?e; (case h => with_reducible assumption); (case e => decide))
      | (with_reducible refine' bd1 ?h ?e; (case h => with_reducible assumption); (case e => decide))
      | (with_reducible refine' bd3 ?h ?e; (case h => with_reducible assumption); (case e => decide))
      | (with_reducible refine' bd4 ?h ?e; (case h => with_reducible assumption); (case e => decide))
      | (with_reducible refine' bz1 ?h ?e; (case h => walk_at "lt"); (case e => decide))
      | (with_reducible refine' bz3 ?h ?e; (case h => walk_at "lt"); (case e => decide))
      | (with_reducible refine' bd2 ?q ?h ?e; (case q => with_reducible assumption); (case h => with_reducible assumption); (case e => decide))
      | walk_at "lt2"
      | (with_reducible refine Nat.le_of_lt ?_; walk_at "lt2")
      | (with_reducible refine Nat.ne_of_lt ?_; walk_at "lt2")
      | (with_reducible refine Nat.ne_of_gt ?_; walk_at "lt2")
      | ((with_reducible refine And.intro ?_ ?_) <;> k_extra "my omega")
      | (with_reducible refine' Nat.lt_trans ?a ?b; (case b => with_reducible assumption); (case a => walk_at "lt2"))
      | (with_reducible refine' Nat.lt_trans ?a ?b; (case a => with_reducible assumption); (case b => walk_at "lt2"))
      | (with_reducible refine' Nat.lt_of_le_of_lt ?a ?b; (case b => with_reducible assumption); (case a => walk_at "lt2"))
      | (with_reducible refine' Nat.lt_of_le_of_lt ?a ?b; (case a => with_reducible assumption); (case b => walk_at "lt2"))
      | (with_reducible refine' Nat.lt_of_lt_of_le ?a ?b; (case b => with_reducible assumption); (case a => walk_at "lt2"))
      | (with_reducible refine' Nat.lt_of_lt_of_le ?a ?b; (case a => with_reducible assumption); (case b => walk_at "lt2"))
      | (with_reducible refine' Nat.le_trans ?a ?b; (case b => with_reducible assumption); (case a => walk_at "lt2"))
      | (with_reducible refine' Nat.le_trans ?a ?b; (case a => with_reducible assumption); (case b => walk_at "lt2"))
  k_with "my lt" => first
      | with_reducible assumption
      | (refine' And.left ?h; (case h => with_reducible assumption))
      | (refine' And.left (And.right ?h); (case h => with_reducible assumption))
      | (refine' And.left (And.right (And.right ?h)); (case h => with_reducible assumption))
      | (refine' And.left (And.right (And.right (And.right ?h))); (case h => with_reducible assumption))
      | (refine' And.left (And.right (And.right (And.right (And.right ?h)))); (case h => with_reducible assumption))
      | (refine' And.left (And.right (And.right (And.right (And.right (And.right ?h))))); (case h => with_reducible assumption))
      | (refine' And.left (And.right (And.right (And.right (And.right (And.right (And.right ?h)))))); (case h => with_reducible assumption))
      | (refine' And.left (And.right (And.right (And.right (And.right (And.right (And.right (And.right ?h))))))); (case h => with_reducible assumption))
      | (refine' And.left (And.right (And.right (And.right (And.right (And.right (And.right (And.right (And.right ?h)))))))); (case h => with_reducible assumption))
      | (refine' And.left (And.right (And.right (And.right (And.right (And.right (And.right (And.right (And.right (And.right ?h))))))))); (case h => with_reducible assumption))
      | (refine' And.left (And.right (And.right (And.right (And.right (And.right (And.right (And.right (And.right (And.right (And.right ?h)))))))))); (case h => with_reducible assumption))
  k_with "my lt2" => first
      | walk_at "lt"
      | (with_reducible exact ad1)
      | (with_reducible exact ad2)
      | (with_reducible exact ad3)
      | (with_reducible exact ad4)
      | (with_reducible refine ar1 ?_; walk_at "lt")
      | (with_reducible refine ar2 ?_; walk_at "lt")
      | (with_reducible refine ar3 ?_; walk_at "lt")
      | (with_reducible refine ar4 ?_; walk_at "lt")
      | (with_reducible refine as1 ?_; walk_at "lt")
      | (with_reducible refine as2 ?_; walk_at "lt")
      | (with_reducible refine as3 ?_; walk_at "lt")
      | (with_reducible refine as4 ?_; walk_at "lt")
  k_with "my ar" => ((try dsimp only); first
      | with_reducible exact Nat.le_refl _
      | walk_at "lt2"
      | (refine Nat.le_of_lt ?_; walk_at "lt2")
      | (refine Nat.ne_of_lt ?_; walk_at "lt2")
      | (refine Nat.ne_of_gt ?_; walk_at "lt2")
      | k_extra "my ar2"
      | omega)
  k_with "my k_ne" => (refine neN ?_; (try dsimp only); first
      | with_reducible assumption
      | (refine Ne.symm ?_; with_reducible assumption)
      | (refine Nat.ne_of_lt ?_; walk_at "lt")
      | (refine Nat.ne_of_gt ?_; walk_at "lt")
      | omega)
  k_with "my k_all" => first | assumption | exact ne_above (by assumption) (by walk_at "ar")
  k_with "my k_mem" => first | assumption | (refine List.mem_append.mpr (Or.inl ?_); k_mem) | (refine List.mem_append.mpr (Or.inr ?_); k_mem)
  k_with "my pyIter ref" => refine stop_here ?_
  k_with "my exec For Name Name cons nil" => refine for_open ?_
  k_with "my call builtin:str.split" => (k_here; refine stop_here ?_)
  k_with "my leaving ref" => (k_here; refine' leave_newS ?k1 ?k0 ?k2 ?k3 ?_; (case k0 => assumption); (case k2 => assumption); (case k1 => assumption); (case k3 => k_asm); k_whole; walk_at "i4")
  k_with "my subscriptTail" => (k_here; (with_reducible show wpAny _ _ (subscriptTail _ _ (Value.str _ _) (Value.int _ _)) _ _ _); k_dflt (refine' item_str ?c0 ?c1 ?c2 ?_ ?_ ?_; (case c0 => decide); (case c1 => omega); (case c2 => omega); rotate_left 1; with_unfolding_all rfl; (intro _; with_unfolding_all rfl); k_whole); intro _)
  trivial
theorem keqvOut_at {xs : List Str} {ps : List (Str × Str)} {i : Nat} {x : Str} (h : (xs.take i).map kvP = ps.map (fun p => KvR.pair p.1 p.2)) (hx : xs[i]? = some x) :
    (kvP x = .noEq → keqvOut xs = some "ValueError") ∧ (kvP x = .noVal → keqvOut xs = some "IndexError") := by
  induction xs generalizing ps i with
  | nil => simp at hx
  | cons y xs ih =>
    cases i with
    | zero =>
      simp at hx; subst hx
      exact ⟨fun e => by simp [keqvOut, e], fun e => by simp [keqvOut, e]⟩
    | succ i =>
      cases ps with
      | nil => simp at h
      | cons p ps =>
        simp only [List.take_succ_cons, List.map_cons, List.cons.injEq] at h
        have := ih h.2 (by simpa using hx)
        simpa only [keqvOut, h.1] using this
theorem keqvOut_none {xs : List Str} {ps : List (Str × Str)} (h : xs.map kvP = ps.map (fun p => KvR.pair p.1 p.2)) : keqvOut xs = none := by
  induction xs generalizing ps with
  | nil => rfl
  | cons y xs ih =>
    cases ps with
    | nil => simp at h
    | cons p ps =>
      simp only [List.map_cons, List.cons.injEq] at h
      simpa only [keqvOut, h.1] using ih h.2
theorem keqvPs_len {xs : List Str} {ps : List (Str × Str)} {i : Nat} (h : (xs.take i).map kvP = ps.map (fun p => KvR.pair p.1 p.2)) : ps.length ≤ xs.length := by
  have := congrArg List.length h
  simp only [List.length_map, List.length_take] at this
  omega
theorem dD_len (ps : List (Str × Str)) : (dD ps).length ≤ ps.length := by
  have key : ∀ (ps : List (Str × Str)) (D : List (PyData × PyData)), (ps.foldl (fun D p => PyProof.V.putD (.str p.1) (.str p.2) D) D).length ≤ D.length + ps.length := by
    intro ps
    induction ps with
    | nil => intro D; simp
    | cons p ps ih =>
      intro D
      have h1 := ih (PyProof.V.putD (.str p.1) (.str p.2) D)
      have h2 := PyProof.V.putD_length_le (.str p.1) (.str p.2) D
      simp only [List.foldl_cons, List.length_cons]
      omega
  exact Nat.le_trans (key ps []) (by simp)
theorem keqv_snoc {w : World} {d : Addr} {xs : List Str} {news : List (Addr × Obj)} {i : Nat} {m : Str → Option Value} {o : Obj} {kvs : List (Str × Value)} {ps : List (Str × Str)} {x k v : Str}
    (hD : o.IsDictOf (PySem.strKind PySem.Challenge.rw_mq0134_01.row.prog w) kvs) (hP : PyProof.V.FlatPairs PyData.str kvs (PyProof.V.putD (.str k) (.str v) (dD ps))) (hps : (xs.take i).map kvP = ps.map (fun p => KvR.pair p.1 p.2)) (hx : xs[i]? = some x) (hk : kvP x = .pair k v)
    (hm : m (PySem.Str.ofString "parsed") = some (.ref d)) : keqvJ w d xs news (i + 1) m ((d, o) :: news) := by
  refine ⟨o, kvs, ps ++ [(k, v)], rfl, hD, ?_, ?_, hm⟩
  · have : dD (ps ++ [(k, v)]) = PyProof.V.putD (.str k) (.str v) (dD ps) := by simp [dD]
    rw [this]; exact hP
  · rw [List.take_add_one, hx, List.map_append, List.map_append, hps]
    simp [hk]
section
variable {prog : Program} {w : World} {A : Around} {E : Value → Shared → Prop} {s : Shared} {h₀ : Heap} {L : Addr} {m : Str → Option Value} {news : List (Addr × Obj)} {env : Env}
theorem unpack_short {l : Addr} {v : Value} {c : Nat} {Q : List Value → Shared → Prop} (hh : A.handled = none) (F : Fr h₀ L s.heap m) (N : News h₀ L s.heap news) (hl : (l, listOf #[v] c) ∈ news)
    (h : ∀ h₁ h' tk e, Fr h₀ L h₁ m → News h₀ L h₁ news → Heap.NewExc h₁ h' e "ValueError" → E (.ref e) { s with heap := h', toks := tk }) :
    wpAny (model prog w) A (unpackItems (.ref l) 2 none) Q E s := by
  have hol : s.heap.IsList l #[v] := ⟨_, (N _ hl).1, rfl, _, rfl⟩
  have hlt : l ≠ s.heap.objs.size := Nat.ne_of_lt (Heap.lt_size (N _ hl).1)
  unfold unpackItems
  refine wpAny_bind ?_
  unfold notIterableAtAll
  refine wpAny_bind (wpAny_specialOf hol.typeIs slot_list_iter.lookup ?_)
  refine wpAny_pure ?_
  simp only [Bool.false_eq_true, if_false]
  refine wpAny_bind (wpAny_holding (wpAny_pyIter_list hol ?_))
  refine wpAny_bind (wpAny_holding ?_)
  show wpAny _ _ (pyNext (.ref s.heap.objs.size) >>= _) _ E _
  refine wpAny_bind (wpAny_pyNext_list_item (l := l) (i := 0) ⟨_, Heap.get?_push_size _ rfl, rfl, rfl⟩ (hol.push _) (x := v) rfl fun h₁ hit₁ hs₁ => ?_)
  refine wpAny_bind (wpAny_holding ?_)
  show wpAny _ _ (pyNext (.ref s.heap.objs.size) >>= _) _ E _
  refine wpAny_bind (wpAny_pyNext_list_end hh hit₁ ((hol.push _).extBut hs₁.extBut hlt) rfl fun h₂ he₂ => ?_)
  refine wpAny_pure (wpAny_pure ?_)
  rw [if_pos (by simp)]
  refine wpAny_bind (wpAny_rule ?_)
  have he : Heap.ExtBut s.heap.objs.size s.heap h₂ := fun b o hb e => he₂ b o hb (hs₁.extBut b o hb (Heap.get?_push_of_some _ e))
  refine wpAny_bind (wpAny_raiseErrorMade plainExc_ValueError hh (fun h₃ tk₃ e hx₃ => ?_) (by simp only [List.length_cons, List.length_nil]; decide +kernel))
  exact h h₂ h₃ _ e (F.extBut he (Nat.le_refl _)) (N.extBut he (Nat.le_refl _)) hx₃
theorem assign_short {elts : List PySem.Expr} {kk : Nat} {pos : Pos} {l : Addr} {v : Value} {c : Nat} {Q : Unit → Shared → Prop} (hh : A.handled = none) (F : Fr h₀ L s.heap m) (N : News h₀ L s.heap news) (hl : (l, listOf #[v] c) ∈ news)
    (hlen : (assignEach elts env).length = 2) (hstar : (assignEach elts env).findIdx? (·.1) = none)
    (h : ∀ h₁ h' tk e, Fr h₀ L h₁ m → News h₀ L h₁ news → Heap.NewExc h₁ h' e "ValueError" → E (.ref e) { s with heap := h', toks := tk }) :
    wpAny (model prog w) A (assign (.Tuple elts kk pos) env (.ref l)) Q E s := by
  rw [assign_Tuple]
  refine wpAny_bind (wpAny_standAt ?_)
  unfold unpack
  rw [hlen, hstar]
  exact wpAny_bind (wpAny_holding (unpack_short hh F N hl h))
end
theorem keqv_tells {w : World} (xs : List Str) (lr : Addr) (vs : List Value) (nr : Nat) (news : List (Addr × Obj)) (hm : (lr, listOf vs.toArray nr) ∈ news) (hxs : StrsAre vs xs) (hl : ∀ x ∈ xs, x.length ≤ 1000) (hb : ∀ x ∈ xs, kvP x ≠ .bad) (hx2 : xs.length ≤ 1000) :
    TellsO w 35 1 [.ref lr] news (RetKeqv w xs news) (keqvOut xs) := by
  revert hm hxs hl hb hx2
  revert w xs lr vs nr news
  refine no_implicit_lambda% (closedW ?_)
  with_reducible generalize wit _ _ = w
  refine no_implicit_lambda% (@id (Unit → _) ?_ ())
  refine no_implicit_lambda% (closed6 ?_)
  with_reducible generalize wit _ _ = tQ
  with_reducible generalize Prod.fst (Prod.snd (tQ)) = xs
  with_reducible generalize Prod.fst (Prod.snd (Prod.snd (tQ))) = lr
  with_reducible generalize Prod.fst (Prod.snd (Prod.snd (Prod.snd (tQ)))) = vs
  with_reducible generalize Prod.fst (Prod.snd (Prod.snd (Prod.snd (Prod.snd (tQ))))) = nr
  with_reducible generalize Prod.snd (Prod.snd (Prod.snd (Prod.snd (Prod.snd (tQ))))) = news
  clear tQ
  intro hm hxs hl hb hx2
  refine tellsO_close ?_
  unfold TellsOAt
  with_reducible generalize TV.p _ = p
  with_reducible generalize TV.loose _ = loose
  with_reducible generalize TV.mean _ = mean
  with_reducible generalize TV.mg _ = mg
  with_reducible generalize TV.mb _ = mb
  with_reducible generalize TV.dp _ = dp
  with_reducible generalize TV.un _ = un
  with_reducible generalize TV.gd _ = gd
  with_reducible generalize TV.cn _ = cn
  with_reducible generalize TV.cs _ = cs
  with_reducible generalize TV.a _ = a
  with_reducible generalize TV.ccd _ = ccd
  with_reducible generalize TV.cl _ = cl
  with_reducible generalize TV.outer _ = outer
  with_reducible generalize TV.A₀ _ = A₀
  with_reducible generalize TV.base _ = base
  with_reducible generalize TV.h₀ _ = h₀
  with_reducible generalize TV.L _ = L
  with_reducible generalize TV.m _ = m
  with_reducible generalize TV.s _ = s
  with_reducible generalize TV.Q _ = Q
  with_reducible generalize TV.E _ = E
  k_fill
  intro X B F N T hk hdp hun hret hraise
  refine wpAny_call ?_
  k_dflt cell_enter
  k_steps
  rename (∀ p, p ∈ news → _) => l0
  rename Addr => dd
  rename News _ _ _ _ => N1
  rename Fr _ _ _ _ => F1
  rename Obj.IsDictOf (PySem.strKind _ _) _ _ => D1
  rename PyProof.V.FlatPairs PyData.str _ _ => P1
  rename (_ == sysModules) = false => lo
  refine Stop.mk ?_
  rename_i yA43 yA44 yA45 yA46 yA47 yA48 yA49 yA54 yA55 yA60 yA61 yA62
  dsimp only [qk, ek]
  clear ek qk
  clear yA54 yA45
  revert yA46 yA47 yA48 yA49 l0 lo D1 yA60 F1 N1
  revert yA43 yA44 tk dd yA55 yA62
  refine no_implicit_lambda% (closed6 ?_)
  with_reducible generalize wit _ _ = tQ
  with_reducible generalize Prod.fst (tQ) = yA43
  with_reducible generalize Prod.fst (Prod.snd (tQ)) = yA44
  with_reducible generalize Prod.fst (Prod.snd (Prod.snd (tQ))) = tk
  with_reducible generalize Prod.fst (Prod.snd (Prod.snd (Prod.snd (tQ)))) = dd
  with_reducible generalize Prod.fst (Prod.snd (Prod.snd (Prod.snd (Prod.snd (tQ))))) = yA55
  with_reducible generalize Prod.snd (Prod.snd (Prod.snd (Prod.snd (Prod.snd (tQ))))) = yA62
  clear tQ
  intro _ _ _ _ l0 lo D1 _ F1 N1
  refine iter_listX (keqvJ w _ xs news) (by passes_own) rfl (by k_mem) F1 N1 ⟨_, _, [], rfl, D1, P1, rfl, rfl⟩ ?_ ?_
  · rintro I i v m₁ nx h tk oI hI hv hne hlm ⟨o, kvs, ps, rfl, D2, P2, hps, b1⟩ F2 N2
    obtain ⟨x, t, rfl, hxx⟩ := hxs.item i v hv
    have F3 := fr_puts F2 (.cons b1 .nil)
    simp only [putsM] at F3
    clear F2 F1 N1 D1 P1 b1
    have hx1000 := hl x (List.mem_of_getElem? hxx)
    dsimp only
    rename_i yB46 yB50 yB51 yB52 yB53 yB56
    revert hI hne hlm D2 P2 hps N2 hxx hv F3 hx1000
    revert I i m₁ h tk oI o kvs ps x t
    refine no_implicit_lambda% (@id (Unit → Unit → Unit → _) ?_ () () ())
    refine no_implicit_lambda% (closed14 ?_)
    with_reducible generalize wit _ _ = tQ
    with_reducible generalize Prod.fst (Prod.snd (Prod.snd (Prod.snd (tQ)))) = I
    with_reducible generalize Prod.fst (Prod.snd (Prod.snd (Prod.snd (Prod.snd (tQ))))) = i
    with_reducible generalize Prod.fst (Prod.snd (Prod.snd (Prod.snd (Prod.snd (Prod.snd (tQ)))))) = m₁
    with_reducible generalize Prod.fst (Prod.snd (Prod.snd (Prod.snd (Prod.snd (Prod.snd (Prod.snd (tQ))))))) = h
    with_reducible generalize Prod.fst (Prod.snd (Prod.snd (Prod.snd (Prod.snd (Prod.snd (Prod.snd (Prod.snd (tQ)))))))) = tk
    with_reducible generalize Prod.fst (Prod.snd (Prod.snd (Prod.snd (Prod.snd (Prod.snd (Prod.snd (Prod.snd (Prod.snd (tQ))))))))) = oI
    with_reducible generalize Prod.fst (Prod.snd (Prod.snd (Prod.snd (Prod.snd (Prod.snd (Prod.snd (Prod.snd (Prod.snd (Prod.snd (tQ)))))))))) = o
    with_reducible generalize Prod.fst (Prod.snd (Prod.snd (Prod.snd (Prod.snd (Prod.snd (Prod.snd (Prod.snd (Prod.snd (Prod.snd (Prod.snd (tQ))))))))))) = kvs
    with_reducible generalize Prod.fst (Prod.snd (Prod.snd (Prod.snd (Prod.snd (Prod.snd (Prod.snd (Prod.snd (Prod.snd (Prod.snd (Prod.snd (Prod.snd (tQ)))))))))))) = ps
    with_reducible generalize Prod.fst (Prod.snd (Prod.snd (Prod.snd (Prod.snd (Prod.snd (Prod.snd (Prod.snd (Prod.snd (Prod.snd (Prod.snd (Prod.snd (Prod.snd (tQ))))))))))))) = x
    with_reducible generalize Prod.snd (Prod.snd (Prod.snd (Prod.snd (Prod.snd (Prod.snd (Prod.snd (Prod.snd (Prod.snd (Prod.snd (Prod.snd (Prod.snd (Prod.snd (tQ))))))))))))) = t
    clear tQ
    intro hI hne hlm D2 P2 hps N2 hxx hv F3 hx1000
    k_steps
    refine Stop.mk ?_
    rename News _ _ _ _ => N4
    rename Fr _ _ _ _ => F4
    refine splitN2A (k := 1) F4 N4 (by decide) (by decide) (fun l h' tk e a sh isl F5 N5 => ?_) (sz2 hx1000)
    have q1 : @Ne Nat _ I := hne _ (.head _)
    cases hsm : Txt.splitMax x (PySem.Str.ofString "=") 1 with
    | nil => exact absurd (by unfold kvP; rw [hsm]) (hb x (List.mem_of_getElem? hxx))
    | cons k0 r =>
      rw [hsm] at e
      rw [e] at sh
      cases r with
      | nil =>
        obtain ⟨t1, e2⟩ := split_one e
        subst e2
        simp only [strValues, List.map_cons, List.map_nil] at N5
        refine assign_short rfl F5 N5 (.head _) rfl rfl fun h6 h7 tk6 e F6 N6 hx => ?_
        k_steps
        rename RaisedSN _ _ _ _ _ _ _ => R1
        rename Heap.UpToSlots _ _ => U1
        exact hraise _ ((keqvOut_at hps hxx).1 (by unfold kvP; rw [hsm])) _ e _ _ _ (by assumption) (fun q hq => .tail _ (.tail _ (.tail _ hq))) R1 U1
      | cons v0 r =>
        cases r with
        | cons w0 r => exact absurd (by unfold kvP; rw [hsm]) (hb x (List.mem_of_getElem? hxx))
        | nil =>
          obtain ⟨t1, t2, e2⟩ := split_two e
          subst e2
          have hk0 : k0.length ≤ 1000 := Nat.le_trans (sh _ (.head _)) hx1000
          have hv0 : v0.length ≤ 1000 := Nat.le_trans (sh _ (.tail _ (.head _))) hx1000
          simp only [strValues, List.map_cons, List.map_nil] at N5
          clear isl
          by_cases hz : v0.length = 0
          · k_steps
            refine item_str_or rfl (by decide) (fun _ h6 tk6 e hx => ?_) (fun _ h2 => absurd h2 (by omega)) (by with_unfolding_all rfl) (by intro _; with_unfolding_all rfl)
            k_steps
            rename RaisedSN _ _ _ _ _ _ _ => R1
            rename Heap.UpToSlots _ _ => U1
            exact hraise _ ((keqvOut_at hps hxx).2 (by unfold kvP; rw [hsm]; exact if_pos hz)) _ e _ _ _ (by assumption) (fun q hq => .tail _ (.tail _ (.tail _ hq))) R1 U1
          · k_steps
            all_goals (
              with_reducible rename News _ _ _ _ => N6
              with_reducible rename Fr _ _ _ _ => F6
              refine setItem_madeIn (own := []) (rest := (I, oI) :: news) PyProof.V.same_str (strKind_is _ _ _ _) (PyProof.V.Flat.str _ _) F6 (fun p hp => N6 p ?_) (fun _ h => nomatch h) ?_ D2 P2 (fun h7 o7 F7 N7 D7 P7 => ?_) ?_)
            rotate_left 12
            all_goals first
              | (simp only [List.nil_append, List.mem_cons] at hp ⊢; rcases hp with rfl | rfl | hp <;> simp [*])
              | exact List.forall_mem_cons.mpr ⟨Ne.symm q1, fun p hp => Nat.ne_of_lt (l0 p hp)⟩
              | exact Nat.le_trans (dD_len ps) (Nat.le_trans (keqvPs_len hps) (Nat.le_trans hx2 (by decide)))
              | skip
            all_goals k_steps
            all_goals refine postX_next F7 (fun p hp => N7 p ?_) rfl ?_ (fun p hp => ?_) (keqv_snoc D7 P7 hps hxx ?_ rfl)
            all_goals first
              | (simp only [List.nil_append, List.mem_cons] at hp ⊢; rcases hp with rfl | rfl | hp <;> simp [*])
              | exact List.forall_mem_cons.mpr ⟨q1, fun p hp => hne p (.tail _ hp)⟩
              | (rw [List.mem_singleton.mp hp]; exact .tail _ hm)
              | skip
            all_goals (
              unfold kvP
              rw [hsm]
              show (if v0.length = 0 then KvR.noVal else KvR.pair k0 (unq v0)) = _
              rw [if_neg hz]
              unfold unq
              first
                | rw [if_pos (by assumption), if_pos (by assumption)]
                | rw [if_pos (by assumption), if_neg (ne_true_of_eq_false (by assumption))]
                | rw [if_neg (ne_true_of_eq_false (by assumption))])
  · rintro m₁ nx h tk ⟨o, kvs, ps, rfl, D2, P2, hps, b1⟩ hlm F2 N2
    have F3 := fr_puts F2 (.cons b1 .nil)
    simp only [putsM] at F3
    clear F2 F1 N1 D1 P1 b1
    dsimp only
    k_steps
    have hfull : xs.map kvP = ps.map (fun p => KvR.pair p.1 p.2) := by rw [← hps, List.take_of_length_le (by rw [hxs.length]; exact Nat.le_refl _)]
    refine hret (keqvOut_none hfull) _ (news ++ [(dd, o)]) _ _ (by with_reducible assumption) ?_ ⟨dd, o, kvs, ps, [(dd, o)], rfl, rfl, ?_, ?_, D2, P2, hfull, lo⟩
    · with_reducible rename News _ _ _ _ => N9
      exact news_front (front := [_]) N9
    · exact List.forall_mem_cons.mpr ⟨fun q hq => Nat.ne_of_gt (l0 q hq), fun _ h => nomatch h⟩
    · exact List.mem_append.mpr (.inr (.head _))
end Mine
end

section
open PySem PySem.W PyProof.Rows
set_option maxRecDepth 100000
set_option maxHeartbeats 2400000
namespace Mine
theorem reg_RowsP_1 : True := by
  w_top off
  k_with_none
  k_with "my omega" => first
      | with_reducible assumption
      | decide
      | ((fail_if_success (fail_if_success omega (config := {})))
         first
           | k_extra "my om"
           | k_extra "my big"
           | omega (config := {}))
  k_with "my om" => first
      | (with_reducible refine' rm0 ?h; (case h => with_reducible assumption))
      | (with_reducible refine' rm1 ?h ?e; (case h => with_reducible assumption); (case e => decide))
      | (with_reducible refine' rm2 ?h ?e; (case h => with_reducible assumption); (case e => decide))
      | (with_reducible refine' rm3 ?h ?e; (case h => with_reducible assumption); (case e => decide))
      | (with_reducible refine' bd1 ?h ?e; (case h => with_reducible assumption); (case e => decide))
      | (with_reducible refine' bd3 ?h ?e; (case h => with_reducible assumption); (case e => decide))
      | (with_reducible refine' bd4 ?h ?e; (case h => with_reducible assumption); (case e => decide))
      | (with_reducible refine' bz1 ?h ?e; (case h => walk_at "lt"); (case e => decide))
      | (with_reducible refine' bz3 ?h ?e; (case h => walk_at "lt"); (case e => decide))
      | (with_reducible refine' bd2 ?q ?h ?e; (case q => with_reducible assumption); (case h => with_reducible assumption); (case e => decide))
      | walk_at "lt2"
      | (with_reducible refine Nat.le_of_lt ?_; walk_at "lt2")
      | (with_reducible refine Nat.ne_of_lt ?_; walk_at "lt2")
      | (with_reducible refine Nat.ne_of_gt ?_; walk_at "lt2")
      | ((with_reducible refine And.intro ?_ ?_) <;> k_extra "my omega")
      | (with_reducible refine' Nat.lt_trans ?a ?b; (case b => with_reducible assumption); (case a => walk_at "lt2"))
      | (with_reducible refine' Nat.lt_trans ?a ?b; (case a => with_reducible assumption); (case b => walk_at "lt2"))
      | (with_reducible refine' Nat.lt_of_le_of_lt ?a ?b; (case b => with_reducible assumption); (case a => walk_at "lt2"))
      | (with_reducible refine' Nat.lt_of_le_of_lt ?a ?b; (case a => with_reducible assumption); (case b => walk_at "lt2"))
      | (with_reducible refine' Nat.lt_of_lt_of_le ?a ?b; (case b => with_reducible assumption); (case a => walk_at "lt2"))
      | (with_reducible refine' Nat.lt_of_lt_of_le ?a ?b; (case a => with_reducible assumption); (case b => walk_at "lt2"))
      | (with_reducible refine' Nat.le_trans ?a ?b; (case b => with_reducible assumption); (case a => walk_at "lt2"))
      | (with_reducible refine' Nat.le_trans ?a ?b; (case a => with_reducible assumption); (case b => walk_at "lt2"))
  k_with "my lt" => first
      | with_reducible assumption
      | (refine' And.left ?h; (case h => with_reducible assumption))
      | (refine' And.left (And.right ?h); (case h => with_reducible assumption))
      | (refine' And.left (And.right (And.right ?h)); (case h => with_reducible assumption))
      | (refine' And.left (And.right (And.right (And.right ?h))); (case h => with_reducible assumption))
      | (refine' And.left (And.right (And.right (And.right (And.right ?h)))); (case h => with_reducible assumption))
      | (refine' And.left (And.right (And.right (And.right (And.right (And.right ?h))))); (case h => with_reducible assumption))
      | (refine' And.left (And.right (And.right (And.right (And.right (And.right (And.right ?h)))))); (case h => with_reducible assumption))
      | (refine' And.left (And.right (And.right (And.right (And.right (And.right (And.right (And.right ?h))))))); (case h => with_reducible assumption))
      | (refine' And.left (And.right (And.right (And.right (And.right (And.right (And.right (And.right (And.right ?h)))))))); (case h => with_reducible assumption))
      | (refine' And.left (And.right (And.right (And.right (And.right (And.right (And.right (And.right (And.right (And.right ?h))))))))); (case h => with_reducible assumption))
      | (refine' And.left (And.right (And.right (And.right (And.right (And.right (And.right (And.right (And.right (And.right (And.right ?h)))))))))); (case h => with_reducible assumption))
  k_with "my lt2" => first
      | walk_at "lt"
      | (with_reducible exact ad1)
      | (with_reducible exact ad2)
      | (with_reducible exact ad3)
      | (with_reducible exact ad4)
      | (with_reducible refine ar1 ?_; walk_at "lt")
      | (with_reducible refine ar2 ?_; walk_at "lt")
      | (with_reducible refine ar3 ?_; walk_at "lt")
      | (with_reducible refine ar4 ?_; walk_at "lt")
      | (with_reducible refine as1 ?_; walk_at "lt")
      | (with_reducible refine as2 ?_; walk_at "lt")
      | (with_reducible refine as3 ?_; walk_at "lt")
      | (with_reducible refine as4 ?_; walk_at "lt")
  k_with "my ar" => ((try dsimp only); first
      | with_reducible exact Nat.le_refl _
      | walk_at "lt2"
      | (refine Nat.le_of_lt ?_; walk_at "lt2")
      | (refine Nat.ne_of_lt ?_; walk_at "lt2")
      | (refine Nat.ne_of_gt ?_; walk_at "lt2")
      | k_extra "my ar2"
      | omega)
  k_with "my k_ne" => (refine neN ?_; (try dsimp only); first
      | with_reducible assumption
      | (refine Ne.symm ?_; with_reducible assumption)
      | (refine Nat.ne_of_lt ?_; walk_at "lt")
      | (refine Nat.ne_of_gt ?_; walk_at "lt")
      | omega)
  trivial
noncomputable abbrev Row := Str × List Item
noncomputable def aheadOf (t : Str) : Str := if t.length = 0 then PySem.Str.ofString "" else t ++ PySem.Str.ofString ", "
noncomputable def addItem (r : Row) (n : Int) : Row :=
  (aheadOf r.1 ++ itemText n, r.2 ++ [⟨Txt.item (itemText n) 0, (aheadOf r.1).length, (aheadOf r.1).length + (itemText n).length, itemWord n⟩])
noncomputable def rowOf (ns : List Int) (k : Int) : Row := (ns.filter fun n => decide (Int.fmod n 3 = k)).foldl (fun r n => addItem r (Int.fdiv n 3)) (PySem.Str.ofString "", [])
theorem rowOf_hit {ns : List Int} {i : Nat} {n k : Int} (h : ns[i]? = some n) (hk : Int.fmod n 3 = k) : rowOf (ns.take (i + 1)) k = addItem (rowOf (ns.take i) k) (Int.fdiv n 3) := by
  unfold rowOf; rw [List.take_add_one, h, List.filter_append, List.foldl_append]; simp [hk]
theorem rowOf_miss {ns : List Int} {i : Nat} {n k : Int} (h : ns[i]? = some n) (hk : ¬ Int.fmod n 3 = k) : rowOf (ns.take (i + 1)) k = rowOf (ns.take i) k := by
  unfold rowOf; rw [List.take_add_one, h, List.filter_append, List.foldl_append]; simp [hk]
theorem tI_len {i : Int} (h0 : 0 ≤ i) (h1 : i < 10 ^ 10) : (tI i).length ≤ 10 := KT.len_num h0 h1
theorem itemText_len (n : Int) : 1 ≤ (itemText n).length ∧ (itemText n).length ≤ 40 := by
  have hl := line_bd n
  have hc := col_bd n
  have h1 := tI_len hl.1 hl.2
  have h2 := tI_len hc.1 hc.2
  have ab : (iAB n).length = 1 := rfl
  have l1 : (PySem.Str.ofString "=\"").length = 2 := rfl
  have l2 : (PySem.Str.ofString ".").length = 1 := rfl
  have l3 : (PySem.Str.ofString "\"").length = 1 := rfl
  have l4 : (PySem.Str.ofString "=").length = 1 := rfl
  have l5 : (PySem.Str.ofString "\\.").length = 2 := rfl
  have l6 : (PySem.Str.ofString "=\" ").length = 3 := rfl
  have l7 : (PySem.Str.ofString ".0").length = 2 := rfl
  have l8 : (PySem.Str.ofString "=+").length = 2 := rfl
  have l9 : (PySem.Str.ofString ".+").length = 2 := rfl
  have l10 : (PySem.Str.ofString "c").length = 1 := rfl
  have l11 : (PySem.Str.ofString ",").length = 1 := rfl
  unfold itemText
  simp only [iLine, iCol] at *
  repeat' split
  all_goals simp only [Str.length_append, ab, l1, l2, l3, l4, l5, l6, l7, l8, l9, l10, l11]
  all_goals omega
theorem rowOf_len (ns : List Int) (k : Int) : (rowOf ns k).1.length ≤ 42 * ns.length ∧ (rowOf ns k).2.length ≤ ns.length := by
  unfold rowOf
  have key : ∀ (l : List Int) (r : Row), (l.foldl (fun r n => addItem r (Int.fdiv n 3)) r).1.length ≤ r.1.length + 42 * l.length ∧ (l.foldl (fun r n => addItem r (Int.fdiv n 3)) r).2.length ≤ r.2.length + l.length := by
    intro l
    induction l with
    | nil => intro r; simp
    | cons n l ih =>
      intro r
      have h := ih (addItem r (Int.fdiv n 3))
      have h2 := (itemText_len (Int.fdiv n 3)).2
      have l1 : (PySem.Str.ofString ", ").length = 2 := rfl
      have l0 : (PySem.Str.ofString "").length = 0 := rfl
      have h3 : (aheadOf r.1).length ≤ r.1.length + 2 := by
        unfold aheadOf; split
        · omega
        · rw [Str.length_append]; omega
      have h4 : (addItem r (Int.fdiv n 3)).1.length ≤ r.1.length + 42 := by
        show (aheadOf r.1 ++ itemText _).length ≤ _
        rw [Str.length_append]; omega
      have h5 : (addItem r (Int.fdiv n 3)).2.length = r.2.length + 1 := by simp [addItem]
      simp only [List.foldl_cons, List.length_cons]
      omega
  have h := key (ns.filter fun n => decide (Int.fmod n 3 = k)) (PySem.Str.ofString "", [])
  have hf := List.length_filter_le (fun n => decide (Int.fmod n 3 = k)) ns
  have l0 : (PySem.Str.ofString "").length = 0 := rfl
  dsimp only [List.length_nil] at h
  omega
end Mine
end

section
open PySem PySem.W PyProof.Rows
set_option maxRecDepth 100000
set_option maxHeartbeats 2400000
namespace Mine
theorem reg_Rows_1 : True := by
  w_top off
  k_with_none
  k_with "my big" => lia
  k_with "my omega" => first
      | with_reducible assumption
      | decide
      | ((fail_if_success (fail_if_success omega (config := {})))
         first
           | k_extra "my om"
           | k_extra "my big"
           | omega (config := {}))
  k_with "my om" => first
      | (with_reducible refine' rm0 ?h; (case h => with_reducible assumption))
      | (with_reducible refine' rm1 ?h ?e; (case h => with_reducible assumption); (case e => decide))
      | (with_reducible refine' rm2 ?h ?e; (case h => with_reducible assumption); (case e => decide))
      | (with_reducible refine' rm3 ?h ?e; (case h => with_reducible assumption); (case e => decide))
      | (with_reducible refine' bd1 ?h ?e; (case h => with_reducible assumption); (case e => decide))
      | (with_reducible refine' bd3 ?h ?e; (case h => with_reducible assumption); (case e => decide))
      | (with_reducible refine' bd4 ?h ?e; (case h => with_reducible assumption); (case e => decide))
      | (with_reducible refine' bz1 ?h ?e; (case h => walk_at "lt"); (case e => decide))
      | (with_reducible refine' bz3 ?h ?e; (case h => walk_at "lt"); (case e => decide))
      | (with_reducible refine' bd2 ?q ?h ?e; (case q => with_reducible assumption); (case h => with_reducible assumption); (case e => decide))
      | walk_at "lt2"
      | (with_reducible refine Nat.le_of_lt ?_; walk_at "lt2")
      | (with_reducible refine Nat.ne_of_lt ?_; walk_at "lt2")
      | (with_reducible refine Nat.ne_of_gt ?_; walk_at "lt2")
      | ((with_reducible refine And.intro ?_ ?_) <;> k_extra "my omega")
      | (with_reducible refine' Nat.lt_trans ?a ?b; (case b => with_reducible assumption); (case a => walk_at "lt2"))
      | (with_reducible refine' Nat.lt_trans ?a ?b; (case a => with_reducible assumption); (case b => walk_at "lt2"))
      | (with_reducible refine' Nat.lt_of_le_of_lt ?a ?b; (case b => with_reducible assumption); (case a => walk_at "lt2"))
      | (with_reducible refine' Nat.lt_of_le_of_lt ?a ?b; (case a => with_reducible assumption); (case b => walk_at "lt2"))
      | (with_reducible refine' Nat.lt_of_lt_of_le ?a ?b; (case b => with_reducible assumption); (case a => walk_at "lt2"))
      | (with_reducible refine' Nat.lt_of_lt_of_le ?a ?b; (case a => with_reducible assumption); (case b => walk_at "lt2"))
      | (with_reducible refine' Nat.le_trans ?a ?b; (case b => with_reducible assumption); (case a => walk_at "lt2"))
      | (with_reducible refine' Nat.le_trans ?a ?b; (case a => with_reducible assumption); (case b => walk_at "lt2"))
  k_with "my lt" => first
      | with_reducible assumption
      | (refine' And.left ?h; (case h => with_reducible assumption))
      | (refine' And.left (And.right ?h); (case h => with_reducible assumption))
      | (refine' And.left (And.right (And.right ?h)); (case h => with_reducible assumption))
      | (refine' And.left (And.right (And.right (And.right ?h))); (case h => with_reducible assumption))
      | (refine' And.left (And.right (And.right (And.right (And.right ?h)))); (case h => with_reducible assumption))
      | (refine' And.left (And.right (And.right (And.right (And.right (And.right ?h))))); (case h => with_reducible assumption))
      | (refine' And.left (And.right (And.right (And.right (And.right (And.right (And.right ?h)))))); (case h => with_reducible assumption))
      | (refine' And.left (And.right (And.right (And.right (And.right (And.right (And.right (And.right ?h))))))); (case h => with_reducible assumption))
      | (refine' And.left (And.right (And.right (And.right (And.right (And.right (And.right (And.right (And.right ?h)))))))); (case h => with_reducible assumption))
      | (refine' And.left (And.right (And.right (And.right (And.right (And.right (And.right (And.right (And.right (And.right ?h))))))))); (case h => with_reducible assumption))
      | (refine' And.left (And.right (And.right (And.right (And.right (And.right (And.right (And.right (And.right (And.right (And.right ?h)))))))))); (case h => with_reducible assumption))
  k_with "my lt2" => first
      | walk_at "lt"
      | (with_reducible exact ad1)
      | (with_reducible exact ad2)
      | (with_reducible exact ad3)
      | (with_reducible exact ad4)
      | (with_reducible refine ar1 ?_; walk_at "lt")
      | (with_reducible refine ar2 ?_; walk_at "lt")
      | (with_reducible refine ar3 ?_; walk_at "lt")
      | (with_reducible refine ar4 ?_; walk_at "lt")
      | (with_reducible refine as1 ?_; walk_at "lt")
      | (with_reducible refine as2 ?_; walk_at "lt")
      | (with_reducible refine as3 ?_; walk_at "lt")
      | (with_reducible refine as4 ?_; walk_at "lt")
  k_with "my ar" => ((try dsimp only); first
      | with_reducible exact Nat.le_refl _
      | walk_at "lt2"
      | (refine Nat.le_of_lt ?_; walk_at "lt2")
      | (refine Nat.ne_of_lt ?_; walk_at "lt2")
      | (refine Nat.ne_of_gt ?_; walk_at "lt2")
      | k_extra "my ar2"
      | omega)
  k_with "my k_ne" => (refine neN ?_; (try dsimp only); first
      | with_reducible assumption
      | (refine Ne.symm ?_; with_reducible assumption)
      | (refine Nat.ne_of_lt ?_; walk_at "lt")
      | (refine Nat.ne_of_gt ?_; walk_at "lt")
      | omega)
  k_with "my k_all" => first | assumption | exact ne_above (by assumption) (by walk_at "ar")
  k_with "my k_mem" => first | assumption | (refine List.mem_append.mpr (Or.inl ?_); k_mem) | (refine List.mem_append.mpr (Or.inr ?_); k_mem)
  k_with "my pyIter ref" => refine stop_here ?_
  k_with "my exec For Name Name cons nil" => refine for_open ?_
  k_with "my subscriptTail" => (k_here; (with_reducible show wpAny _ _ (subscriptTail _ _ (Value.str _ _) (Value.int _ _)) _ _ _); k_dflt (refine' item_str ?c0 ?c1 ?c2 ?_ ?_ ?_; (case c0 => decide); (case c1 => omega); (case c2 => omega); rotate_left 1; with_unfolding_all rfl; (intro _; with_unfolding_all rfl); k_whole); intro _)
  k_with "my call ref" => (k_here; refine stop_here ?_)
  trivial
theorem mod_known {prog : Program} {w : World} {A : Around} {E : Value → Shared → Prop} {s : Shared} {Q : Value → Shared → Prop} {a b r : Int} {t u : Tok} (hr : Int.fmod a b = r) (hb : b ≠ 0) (h : Q (.int r s.toks) { s with toks := s.toks + 1 }) : wpAny (model prog w) A (binaryOp .Mod (.int a t) (.int b u)) Q E s :=
  mod_int' hb (by rw [hr]; exact h)
theorem reg_Rows_2 : True := by
  k_with "my binaryOp Mod int int" => (k_here; (with_reducible refine mod_known (by assumption) (by decide) ?_))
  trivial
noncomputable def rowsJ (lr i0 i1 i2 li : Addr) (ns : List Int) (rest0 : List (Addr × Obj)) (i : Nat) (m : Str → Option Value) (nx : List (Addr × Obj)) : Prop :=
  ∃ t0 t1 t2 nr v0 v1 v2 n0 n1 n2 rest, nx = (lr, listOf #[.str (rowOf (ns.take i) 0).1 t0, .str (rowOf (ns.take i) 1).1 t1, .str (rowOf (ns.take i) 2).1 t2] nr) :: (i0, listOf v0.toArray n0) :: (i1, listOf v1.toArray n1) :: (i2, listOf v2.toArray n2) :: (li, listOf #[.ref i0, .ref i1, .ref i2] 0) :: rest ∧
    DatAll rest v0 ((rowOf (ns.take i) 0).2.map Item.dat) ∧ DatAll rest v1 ((rowOf (ns.take i) 1).2.map Item.dat) ∧ DatAll rest v2 ((rowOf (ns.take i) 2).2.map Item.dat) ∧ (∀ p ∈ rest0, p ∈ rest) ∧ (∀ p ∈ rest, p.1 ≠ lr) ∧ (∀ p ∈ rest, p.1 ≠ i0) ∧ (∀ p ∈ rest, p.1 ≠ i1) ∧ (∀ p ∈ rest, p.1 ≠ i2) ∧ (∀ p ∈ rest, p ∈ rest0 ∨ @LT.lt Nat _ lr p.1) ∧
    m (PySem.Str.ofString "rows") = some (.ref lr) ∧ m (PySem.Str.ofString "items") = some (.ref li)
theorem datIn_two {news : List (Addr × Obj)} {v : Value} {x : Str} {d : Dat} (h : DatIn news v (.tuple [.str x, d])) : ∃ a n t u, v = .ref a ∧ (a, ({ cls := .type "tuple", data := .seq #[.str x t, u] n } : Obj)) ∈ news ∧ DatIn news u d := by
  obtain ⟨a, vs, n, rfl, hm, h⟩ := inv_tuple h
  obtain ⟨v1, u, rfl, h1, h2⟩ := inv2 h
  obtain ⟨t, rfl⟩ := inv_str h1
  exact ⟨_, _, _, _, rfl, hm, h2⟩
noncomputable def itemsD (l : List Item) : Dat := .list (l.map Item.dat)
noncomputable def rowsDat (ns : List Int) : Dat := .tuple [.list [.str (rowOf ns 0).1, .str (rowOf ns 1).1, .str (rowOf ns 2).1], .list [itemsD (rowOf ns 0).2, itemsD (rowOf ns 1).2, itemsD (rowOf ns 2).2]]
theorem rows_ret {news rest : List (Addr × Obj)} {h₀ h' : Heap} {L D lr i0 i1 i2 li : Addr} {m : Str → Option Value} {s : Shared} {Q : Value → Shared → Prop} {tk' c nr n0 n1 n2 : Nat} {ns : List Int} {t0 t1 t2 : Tok} {v0 v1 v2 : List Value}
    (hret : ∀ r nx h' tk', Fr h₀ L h' m → News h₀ L h' nx → RetD news (rowsDat ns) nx r → Q r { s with heap := h', toks := tk' })
    (F : Fr h₀ L h' m) (N : News h₀ L h' ((D, ({ cls := .type "tuple", data := .seq #[.ref lr, .ref li] c } : Obj)) :: (lr, listOf #[.str (rowOf ns 0).1 t0, .str (rowOf ns 1).1 t1, .str (rowOf ns 2).1 t2] nr) :: (i0, listOf v0.toArray n0) :: (i1, listOf v1.toArray n1) :: (i2, listOf v2.toArray n2) :: (li, listOf #[.ref i0, .ref i1, .ref i2] 0) :: rest))
    (d0 : DatAll rest v0 ((rowOf ns 0).2.map Item.dat)) (d1 : DatAll rest v1 ((rowOf ns 1).2.map Item.dat)) (d2 : DatAll rest v2 ((rowOf ns 2).2.map Item.dat)) (hr0 : ∀ p ∈ news, p ∈ rest) (hro : ∀ p ∈ rest, p ∈ news ∨ @LT.lt Nat _ lr p.1) (hl : ∀ p ∈ news, @LT.lt Nat _ p.1 lr)
    (hD : @LT.lt Nat _ lr D) (h0 : @LT.lt Nat _ lr i0) (h1 : @LT.lt Nat _ lr i1) (h2 : @LT.lt Nat _ lr i2) (h3 : @LT.lt Nat _ lr li) : Q (.ref D) { s with heap := h', toks := tk' } := by
  have hf : ∀ p ∈ rest.filter (fun p => decide (@LT.lt Nat _ lr p.1)), p ∈ rest ∧ @LT.lt Nat _ lr p.1 := fun p hp => ⟨(List.mem_filter.mp hp).1, of_decide_eq_true (List.mem_filter.mp hp).2⟩
  have sub : ∀ p ∈ rest, p ∈ news ++ ((D, ({ cls := .type "tuple", data := .seq #[.ref lr, .ref li] c } : Obj)) :: (lr, listOf #[.str (rowOf ns 0).1 t0, .str (rowOf ns 1).1 t1, .str (rowOf ns 2).1 t2] nr) :: (i0, listOf v0.toArray n0) :: (i1, listOf v1.toArray n1) :: (i2, listOf v2.toArray n2) :: (li, listOf #[.ref i0, .ref i1, .ref i2] 0) :: rest.filter (fun p => decide (@LT.lt Nat _ lr p.1))) := fun p hp => (hro p hp).elim (fun h => List.mem_append.mpr (.inl h)) fun h => List.mem_append.mpr (.inr (.tail _ (.tail _ (.tail _ (.tail _ (.tail _ (.tail _ (List.mem_filter.mpr ⟨hp, decide_eq_true h⟩))))))))
  refine hret _ (news ++ ((D, ({ cls := .type "tuple", data := .seq #[.ref lr, .ref li] c } : Obj)) :: (lr, listOf #[.str (rowOf ns 0).1 t0, .str (rowOf ns 1).1 t1, .str (rowOf ns 2).1 t2] nr) :: (i0, listOf v0.toArray n0) :: (i1, listOf v1.toArray n1) :: (i2, listOf v2.toArray n2) :: (li, listOf #[.ref i0, .ref i1, .ref i2] 0) :: rest.filter (fun p => decide (@LT.lt Nat _ lr p.1)))) h' tk' F (fun p hp => N p ((?s : ∀ q ∈ (_ : List (Addr × Obj)), q ∈ (_ : List (Addr × Obj))) p hp)) ⟨⟨_, rfl, fun q hq => ?_⟩, ?_⟩
  case s => exact alla (fun p hp => mdr 6 rfl (hr0 p hp)) (allc (mat 0 rfl) (allc (mat 1 rfl) (allc (mat 2 rfl) (allc (mat 3 rfl) (allc (mat 4 rfl) (allc (mat 5 rfl) (fun p hp => mdr 6 rfl (hf p hp).1)))))))
  · have hq := hl q hq
    exact allc (Nat.lt_trans hq hD) (allc (hq) (allc (Nat.lt_trans hq h0) (allc (Nat.lt_trans hq h1) (allc (Nat.lt_trans hq h2) (allc (Nat.lt_trans hq h3) (fun p hp => Nat.lt_trans hq (hf p hp).2))))))
  · refine .tuple (vs := [.ref lr, .ref li]) (List.mem_append.mpr (.inr (mat 0 rfl))) (.cons (.list (vs := [_, _, _]) (List.mem_append.mpr (.inr (mat 1 rfl))) (.cons (.str _ _) (.cons (.str _ _) (.cons (.str _ _) .nil)))) (.cons (.list (vs := [.ref i0, .ref i1, .ref i2]) (List.mem_append.mpr (.inr (mat 5 rfl))) ?_) .nil))
    exact .cons (.list (List.mem_append.mpr (.inr (mat 2 rfl))) (d0.mono sub)) (.cons (.list (List.mem_append.mpr (.inr (mat 3 rfl))) (d1.mono sub)) (.cons (.list (List.mem_append.mpr (.inr (mat 4 rfl))) (d2.mono sub)) .nil))
theorem item_dat {led : List (Addr × Obj)} {D : Addr} {c : Nat} {body t : Str} {t1 t2 t3 : Tok} {x y : Int} {vw : Value} {d : Word} (hm : (D, ({ cls := .type "tuple", data := .seq #[.str (Txt.item body 0) t1, .int x t2, .int y t3, vw] c } : Obj)) ∈ led) (hd : DatIn led vw d.dat)
    (hx : x = ((aheadOf t).length : Int)) (hy : y = ((aheadOf t).length : Int) + (body.length : Int)) : DatIn led (.ref D) (Item.dat ⟨Txt.item body 0, ((aheadOf t).length : Int), ((aheadOf t).length : Int) + (body.length : Int), d⟩) := by
  subst hx hy
  exact .tuple (vs := [_, _, _, _]) hm (.cons (.str _ _) (.cons (.int _ _) (.cons (.int _ _) (.cons hd .nil))))
theorem ahead_yes {t : Str} (h : ¬ (t.length : Int) = 0) : aheadOf t = t ++ PySem.Str.ofString ", " := by unfold aheadOf; rw [if_neg (by omega)]
theorem ahead_no {t : Str} (h : (t.length : Int) = 0) : aheadOf t = PySem.Str.ofString "" := by unfold aheadOf; rw [if_pos (by omega)]
theorem rows_end {h₀ : Heap} {L I l lr i0 i1 i2 li D : Addr} {oI oD : Obj} {vs : List Value} {nn i nr n0 n1 n2 : Nat} {ns : List Int} {news rest2 : List (Addr × Obj)} {s₁ s₂ : Shared} {Q : Flow → Shared → Prop} {m' : Str → Option Value} {x0 x1 x2 : Str} {t0 t1 t2 : Tok} {u0 u1 u2 : List Value}
    (F : Fr h₀ L s₂.heap m') (N : News h₀ L s₂.heap ((D, oD) :: (I, oI) :: (lr, listOf #[.str x0 t0, .str x1 t1, .str x2 t2] nr) :: (i0, listOf u0.toArray n0) :: (i1, listOf u1.toArray n1) :: (i2, listOf u2.toArray n2) :: (li, listOf #[.ref i0, .ref i1, .ref i2] 0) :: rest2))
    (e : s₂ = { s₁ with heap := s₂.heap, toks := s₂.toks }) (b1 : m' (PySem.Str.ofString "rows") = some (.ref lr)) (b2 : m' (PySem.Str.ofString "items") = some (.ref li)) (hm : (l, listOf vs.toArray nn) ∈ news) (hnews : ∀ p ∈ news, p ∈ rest2) (hro : ∀ p ∈ rest2, p ∈ news ∨ @LT.lt Nat _ lr p.1)
    (z0 : ∀ p ∈ rest2, p.1 ≠ lr) (z1 : ∀ p ∈ rest2, p.1 ≠ i0) (z2 : ∀ p ∈ rest2, p.1 ≠ i1) (z3 : ∀ p ∈ rest2, p.1 ≠ i2) (zI : ∀ p ∈ rest2, p.1 ≠ I) (y0 : @Ne Nat lr I) (y1 : @Ne Nat i0 I) (y2 : @Ne Nat i1 I) (y3 : @Ne Nat i2 I) (y4 : @Ne Nat li I)
    (lD : @LT.lt Nat _ I D ∧ @LT.lt Nat _ lr D ∧ @LT.lt Nat _ i0 D ∧ @LT.lt Nat _ i1 D ∧ @LT.lt Nat _ i2 D ∧ @LT.lt Nat _ li D ∧ AllLt D rest2)
    (h0 : (rowOf (ns.take (i + 1)) 0).1 = x0) (h1 : (rowOf (ns.take (i + 1)) 1).1 = x1) (h2 : (rowOf (ns.take (i + 1)) 2).1 = x2)
    (d0 : DatAll ((D, oD) :: rest2) u0 ((rowOf (ns.take (i + 1)) 0).2.map Item.dat)) (d1 : DatAll ((D, oD) :: rest2) u1 ((rowOf (ns.take (i + 1)) 1).2.map Item.dat)) (d2 : DatAll ((D, oD) :: rest2) u2 ((rowOf (ns.take (i + 1)) 2).2.map Item.dat)) :
    PostX h₀ L I oI [(l, listOf vs.toArray nn)] (rowsJ lr i0 i1 i2 li ns news (i + 1)) s₁ Q .next s₂ := by
  refine postX_next F (nx := (lr, listOf #[.str x0 t0, .str x1 t1, .str x2 t2] nr) :: (i0, listOf u0.toArray n0) :: (i1, listOf u1.toArray n1) :: (i2, listOf u2.toArray n2) :: (li, listOf #[.ref i0, .ref i1, .ref i2] 0) :: (D, oD) :: rest2) (fun p hp => N p ((?sub : ∀ q ∈ (_ : List (Addr × Obj)), q ∈ (_ : List (Addr × Obj))) p hp)) e ?_ ?_ ⟨t0, t1, t2, nr, u0, u1, u2, n0, n1, n2, (D, oD) :: rest2, ?_, d0, d1, d2, ?_, ?_, ?_, ?_, ?_, ?_, b1, b2⟩
  case sub => exact allc (mat 1 rfl) (allc (mat 2 rfl) (allc (mat 3 rfl) (allc (mat 4 rfl) (allc (mat 5 rfl) (allc (mat 6 rfl) (allc (mat 0 rfl) (fun q h => mdr 7 rfl h)))))))
  · exact List.forall_mem_cons.mpr ⟨y0, List.forall_mem_cons.mpr ⟨y1, List.forall_mem_cons.mpr ⟨y2, List.forall_mem_cons.mpr ⟨y3, List.forall_mem_cons.mpr ⟨y4, List.forall_mem_cons.mpr ⟨Nat.ne_of_gt lD.1, zI⟩⟩⟩⟩⟩⟩
  · intro p hp
    rw [List.mem_singleton.mp hp]
    exact .tail _ (.tail _ (.tail _ (.tail _ (.tail _ (.tail _ (hnews _ hm))))))
  · rw [h0, h1, h2]
  · exact fun p hp => .tail _ (hnews p hp)
  · exact List.forall_mem_cons.mpr ⟨Nat.ne_of_gt lD.2.1, z0⟩
  · exact List.forall_mem_cons.mpr ⟨Nat.ne_of_gt lD.2.2.1, z1⟩
  · exact List.forall_mem_cons.mpr ⟨Nat.ne_of_gt lD.2.2.2.1, z2⟩
  · exact List.forall_mem_cons.mpr ⟨Nat.ne_of_gt lD.2.2.2.2.1, z3⟩
  · exact List.forall_mem_cons.mpr ⟨.inr lD.2.1, hro⟩
theorem rows_tells {w : World} (ns : List Int) (l : Addr) (vs : List Value) (nn : Nat) (news : List (Addr × Obj)) (hm : (l, listOf vs.toArray nn) ∈ news) (hv : IntsAre vs ns) (h6 : ns.length ≤ 6) :
    Tells w 54 2 [.ref l] news (RetD news (rowsDat ns)) := by
  revert w ns l vs nn news
  refine no_implicit_lambda% (closedW ?_)
  with_reducible generalize wit _ _ = w
  refine no_implicit_lambda% (@id (Unit → _) ?_ ())
  refine no_implicit_lambda% (closed6 ?_)
  with_reducible generalize wit _ _ = tQ
  with_reducible generalize Prod.fst (Prod.snd (tQ)) = ns
  with_reducible generalize Prod.fst (Prod.snd (Prod.snd (tQ))) = l
  with_reducible generalize Prod.fst (Prod.snd (Prod.snd (Prod.snd (tQ)))) = vs
  with_reducible generalize Prod.fst (Prod.snd (Prod.snd (Prod.snd (Prod.snd (tQ))))) = nn
  with_reducible generalize Prod.snd (Prod.snd (Prod.snd (Prod.snd (Prod.snd (tQ))))) = news
  clear tQ
  intro hm hv h6
  refine tells_close ?_
  unfold TellsAt
  with_reducible generalize TV.p _ = p
  with_reducible generalize TV.loose _ = loose
  with_reducible generalize TV.mean _ = mean
  with_reducible generalize TV.mg _ = mg
  with_reducible generalize TV.mb _ = mb
  with_reducible generalize TV.dp _ = dp
  with_reducible generalize TV.un _ = un
  with_reducible generalize TV.gd _ = gd
  with_reducible generalize TV.cn _ = cn
  with_reducible generalize TV.cs _ = cs
  with_reducible generalize TV.a _ = a
  with_reducible generalize TV.ccd _ = ccd
  with_reducible generalize TV.cl _ = cl
  with_reducible generalize TV.outer _ = outer
  with_reducible generalize TV.A₀ _ = A₀
  with_reducible generalize TV.base _ = base
  with_reducible generalize TV.h₀ _ = h₀
  with_reducible generalize TV.L _ = L
  with_reducible generalize TV.m _ = m
  with_reducible generalize TV.s _ = s
  with_reducible generalize TV.Q _ = Q
  with_reducible generalize TV.E _ = E
  k_fill
  intro X B F N T hk hdp hun hret
  refine wpAny_call ?_
  k_dflt cell_enter
  k_steps
  rename (∀ p, p ∈ news → _) => l0
  rename_i tk0 lr _ i0 _ q0 i1 _ q1 i2 _ q2 li _ q3 D _ q4 _ _ _ _ _
  rename News _ _ _ _ => N1
  rename Fr _ _ _ _ => F1
  refine Stop.mk ?_
  have N2 : News _ _ _ ((lr, listOf #[.str (PySem.Str.ofString "") tk0, .str (PySem.Str.ofString "") (tk0 + 1), .str (PySem.Str.ofString "") (tk0 + 1 + 1)] 0) :: (i0, listOf ([] : List Value).toArray 0) :: (i1, listOf ([] : List Value).toArray 0) :: (i2, listOf ([] : List Value).toArray 0) :: (li, listOf #[.ref i0, .ref i1, .ref i2] 0) :: news) := fun p hp => N1 p (by
    simp only [List.mem_cons] at hp ⊢
    rcases hp with h | h | h | h | h | h <;> simp [h])
  rename_i yA40 yA41 yA42 yA43 yA44 yA45 yA46 yA51 yA54 yA57 yA60 yA63 yA66 yA68 yA69 yA70
  dsimp only [qk, ek]
  clear ek qk
  clear yA69 yA68 yA66 yA63 yA60 yA57 yA54 yA51 yA42
  revert yA43 yA44 yA45 yA46 l0 q0 q1 q2 q3 q4 F1 N1 N2
  revert yA40 yA41 tk0 lr i0 i1 i2 li D yA70 tk
  refine no_implicit_lambda% (@id (Unit → Unit → Unit → _) ?_ () () ())
  refine no_implicit_lambda% (closed14 ?_)
  with_reducible generalize wit _ _ = tQ
  with_reducible generalize Prod.fst (Prod.snd (Prod.snd (Prod.snd (tQ)))) = yA40
  with_reducible generalize Prod.fst (Prod.snd (Prod.snd (Prod.snd (Prod.snd (tQ))))) = yA41
  with_reducible generalize Prod.fst (Prod.snd (Prod.snd (Prod.snd (Prod.snd (Prod.snd (tQ)))))) = tk0
  with_reducible generalize Prod.fst (Prod.snd (Prod.snd (Prod.snd (Prod.snd (Prod.snd (Prod.snd (tQ))))))) = lr
  with_reducible generalize Prod.fst (Prod.snd (Prod.snd (Prod.snd (Prod.snd (Prod.snd (Prod.snd (Prod.snd (tQ)))))))) = i0
  with_reducible generalize Prod.fst (Prod.snd (Prod.snd (Prod.snd (Prod.snd (Prod.snd (Prod.snd (Prod.snd (Prod.snd (tQ))))))))) = i1
  with_reducible generalize Prod.fst (Prod.snd (Prod.snd (Prod.snd (Prod.snd (Prod.snd (Prod.snd (Prod.snd (Prod.snd (Prod.snd (tQ)))))))))) = i2
  with_reducible generalize Prod.fst (Prod.snd (Prod.snd (Prod.snd (Prod.snd (Prod.snd (Prod.snd (Prod.snd (Prod.snd (Prod.snd (Prod.snd (tQ))))))))))) = li
  with_reducible generalize Prod.fst (Prod.snd (Prod.snd (Prod.snd (Prod.snd (Prod.snd (Prod.snd (Prod.snd (Prod.snd (Prod.snd (Prod.snd (Prod.snd (tQ)))))))))))) = D
  with_reducible generalize Prod.fst (Prod.snd (Prod.snd (Prod.snd (Prod.snd (Prod.snd (Prod.snd (Prod.snd (Prod.snd (Prod.snd (Prod.snd (Prod.snd (Prod.snd (tQ))))))))))))) = yA70
  with_reducible generalize Prod.snd (Prod.snd (Prod.snd (Prod.snd (Prod.snd (Prod.snd (Prod.snd (Prod.snd (Prod.snd (Prod.snd (Prod.snd (Prod.snd (Prod.snd (tQ))))))))))))) = tk
  clear tQ
  intro _ _ _ _ l0 q0 q1 q2 q3 q4 F1 N1 N2
  refine iter_listX (rowsJ lr i0 i1 i2 li ns news) (by passes_own) rfl (by k_mem) F1 N2 ?hj ?turn ?done
  case hj =>
    exact ⟨_, _, _, 0, [], [], [], 0, 0, 0, news, rfl, .nil, .nil, .nil, fun _ h => h, (fun p hp => Nat.ne_of_lt (l0 p hp)), ne_above q0.2 (Nat.le_refl _), ne_above q1.2.2 (Nat.le_refl _), ne_above q2.2.2.2 (Nat.le_refl _), fun _ h => .inl h, rfl, rfl⟩
  case turn =>
    rintro I i v m₁ nx h tk oI hI hv1 hne hlm ⟨t0, t1, t2, nr, v0, v1, v2, n0, n1, n2, rest, rfl, d0, d1, d2, hr0, e0, e1, e2, e3, hro, b1, b2⟩ F2 N3
    obtain ⟨n, tn, rfl, hn⟩ := hv.at i v hv1
    have F3 := fr_puts F2 (.cons b1 (.cons b2 .nil))
    simp only [putsM] at F3
    clear F2 F1 N1 N2 b1 b2
    have g0 := rowOf_len (ns.take i) 0
    have g1 := rowOf_len (ns.take i) 1
    have g2 := rowOf_len (ns.take i) 2
    have htl : (ns.take i).length ≤ 6 := by rw [List.length_take]; omega
    obtain ⟨R0, hR0⟩ : ∃ R, R = rowOf (ns.take i) 0 := ⟨_, rfl⟩
    obtain ⟨R1, hR1⟩ : ∃ R, R = rowOf (ns.take i) 1 := ⟨_, rfl⟩
    obtain ⟨R2, hR2⟩ : ∃ R, R = rowOf (ns.take i) 2 := ⟨_, rfl⟩
    rw [← hR0, ← hR1, ← hR2] at N3
    rw [← hR0] at d0 g0
    rw [← hR1] at d1 g1
    rw [← hR2] at d2 g2
    have w0 : v0.length ≤ 1000 := by have := d0.length; rw [List.length_map] at this; omega
    have w1 : v1.length ≤ 1000 := by have := d1.length; rw [List.length_map] at this; omega
    have w2 : v2.length ≤ 1000 := by have := d2.length; rw [List.length_map] at this; omega
    have y0 : @Ne Nat lr I := hne _ (.head _)
    have y1 : @Ne Nat i0 I := hne _ (.tail _ (.head _))
    have y2 : @Ne Nat i1 I := hne _ (.tail _ (.tail _ (.head _)))
    have y3 : @Ne Nat i2 I := hne _ (.tail _ (.tail _ (.tail _ (.head _))))
    have y4 : @Ne Nat li I := hne _ (.tail _ (.tail _ (.tail _ (.tail _ (.head _)))))
    have yr : ∀ p ∈ rest, p.1 ≠ I := fun p hp => hne _ (.tail _ (.tail _ (.tail _ (.tail _ (.tail _ hp)))))
    dsimp only
    revert hI hne hlm hr0 e0 e1 e2 e3 hro hn hv1 F3 htl g0 d0 hR0 g1 d1 hR1 g2 d2 N3 hR2 w0 w1 w2 y0 y1 y2 y3 y4 yr
    revert I i m₁ h tk oI t0 t1 t2 nr v0 v1 v2 n0 n1 n2 rest n tn R0 R1 R2
    refine no_implicit_lambda% (@id (Unit → Unit → _) ?_ () ())
    refine no_implicit_lambda% (closed24 ?_)
    with_reducible generalize wit _ _ = tQ
    with_reducible generalize Prod.fst (Prod.snd (Prod.snd (tQ))) = I
    with_reducible generalize Prod.fst (Prod.snd (Prod.snd (Prod.snd (tQ)))) = i
    with_reducible generalize Prod.fst (Prod.snd (Prod.snd (Prod.snd (Prod.snd (tQ))))) = m₁
    with_reducible generalize Prod.fst (Prod.snd (Prod.snd (Prod.snd (Prod.snd (Prod.snd (tQ)))))) = h
    with_reducible generalize Prod.fst (Prod.snd (Prod.snd (Prod.snd (Prod.snd (Prod.snd (Prod.snd (tQ))))))) = tk
    with_reducible generalize Prod.fst (Prod.snd (Prod.snd (Prod.snd (Prod.snd (Prod.snd (Prod.snd (Prod.snd (tQ)))))))) = oI
    with_reducible generalize Prod.fst (Prod.snd (Prod.snd (Prod.snd (Prod.snd (Prod.snd (Prod.snd (Prod.snd (Prod.snd (tQ))))))))) = t0
    with_reducible generalize Prod.fst (Prod.snd (Prod.snd (Prod.snd (Prod.snd (Prod.snd (Prod.snd (Prod.snd (Prod.snd (Prod.snd (tQ)))))))))) = t1
    with_reducible generalize Prod.fst (Prod.snd (Prod.snd (Prod.snd (Prod.snd (Prod.snd (Prod.snd (Prod.snd (Prod.snd (Prod.snd (Prod.snd (tQ))))))))))) = t2
    with_reducible generalize Prod.fst (Prod.snd (Prod.snd (Prod.snd (Prod.snd (Prod.snd (Prod.snd (Prod.snd (Prod.snd (Prod.snd (Prod.snd (Prod.snd (tQ)))))))))))) = nr
    with_reducible generalize Prod.fst (Prod.snd (Prod.snd (Prod.snd (Prod.snd (Prod.snd (Prod.snd (Prod.snd (Prod.snd (Prod.snd (Prod.snd (Prod.snd (Prod.snd (tQ))))))))))))) = v0
    with_reducible generalize Prod.fst (Prod.snd (Prod.snd (Prod.snd (Prod.snd (Prod.snd (Prod.snd (Prod.snd (Prod.snd (Prod.snd (Prod.snd (Prod.snd (Prod.snd (Prod.snd (tQ)))))))))))))) = v1
    with_reducible generalize Prod.fst (Prod.snd (Prod.snd (Prod.snd (Prod.snd (Prod.snd (Prod.snd (Prod.snd (Prod.snd (Prod.snd (Prod.snd (Prod.snd (Prod.snd (Prod.snd (Prod.snd (tQ))))))))))))))) = v2
    with_reducible generalize Prod.fst (Prod.snd (Prod.snd (Prod.snd (Prod.snd (Prod.snd (Prod.snd (Prod.snd (Prod.snd (Prod.snd (Prod.snd (Prod.snd (Prod.snd (Prod.snd (Prod.snd (Prod.snd (tQ)))))))))))))))) = n0
    with_reducible generalize Prod.fst (Prod.snd (Prod.snd (Prod.snd (Prod.snd (Prod.snd (Prod.snd (Prod.snd (Prod.snd (Prod.snd (Prod.snd (Prod.snd (Prod.snd (Prod.snd (Prod.snd (Prod.snd (Prod.snd (tQ))))))))))))))))) = n1
    with_reducible generalize Prod.fst (Prod.snd (Prod.snd (Prod.snd (Prod.snd (Prod.snd (Prod.snd (Prod.snd (Prod.snd (Prod.snd (Prod.snd (Prod.snd (Prod.snd (Prod.snd (Prod.snd (Prod.snd (Prod.snd (Prod.snd (tQ)))))))))))))))))) = n2
    with_reducible generalize Prod.fst (Prod.snd (Prod.snd (Prod.snd (Prod.snd (Prod.snd (Prod.snd (Prod.snd (Prod.snd (Prod.snd (Prod.snd (Prod.snd (Prod.snd (Prod.snd (Prod.snd (Prod.snd (Prod.snd (Prod.snd (Prod.snd (tQ))))))))))))))))))) = rest
    with_reducible generalize Prod.fst (Prod.snd (Prod.snd (Prod.snd (Prod.snd (Prod.snd (Prod.snd (Prod.snd (Prod.snd (Prod.snd (Prod.snd (Prod.snd (Prod.snd (Prod.snd (Prod.snd (Prod.snd (Prod.snd (Prod.snd (Prod.snd (Prod.snd (tQ)))))))))))))))))))) = n
    with_reducible generalize Prod.fst (Prod.snd (Prod.snd (Prod.snd (Prod.snd (Prod.snd (Prod.snd (Prod.snd (Prod.snd (Prod.snd (Prod.snd (Prod.snd (Prod.snd (Prod.snd (Prod.snd (Prod.snd (Prod.snd (Prod.snd (Prod.snd (Prod.snd (Prod.snd (tQ))))))))))))))))))))) = tn
    with_reducible generalize Prod.fst (Prod.snd (Prod.snd (Prod.snd (Prod.snd (Prod.snd (Prod.snd (Prod.snd (Prod.snd (Prod.snd (Prod.snd (Prod.snd (Prod.snd (Prod.snd (Prod.snd (Prod.snd (Prod.snd (Prod.snd (Prod.snd (Prod.snd (Prod.snd (Prod.snd (tQ)))))))))))))))))))))) = R0
    with_reducible generalize Prod.fst (Prod.snd (Prod.snd (Prod.snd (Prod.snd (Prod.snd (Prod.snd (Prod.snd (Prod.snd (Prod.snd (Prod.snd (Prod.snd (Prod.snd (Prod.snd (Prod.snd (Prod.snd (Prod.snd (Prod.snd (Prod.snd (Prod.snd (Prod.snd (Prod.snd (Prod.snd (tQ))))))))))))))))))))))) = R1
    with_reducible generalize Prod.snd (Prod.snd (Prod.snd (Prod.snd (Prod.snd (Prod.snd (Prod.snd (Prod.snd (Prod.snd (Prod.snd (Prod.snd (Prod.snd (Prod.snd (Prod.snd (Prod.snd (Prod.snd (Prod.snd (Prod.snd (Prod.snd (Prod.snd (Prod.snd (Prod.snd (Prod.snd (tQ))))))))))))))))))))))) = R2
    clear tQ
    intro hI hne hlm hr0 e0 e1 e2 e3 hro hn hv1 F3 htl g0 d0 hR0 g1 d1 hR1 g2 d2 N3 hR2 w0 w1 w2 y0 y1 y2 y3 y4 yr
    k_steps
    refine Stop.mk ?_
    refine' tells_use (item_tells (Int.fdiv n 3) _ _) ?k1 ?k2 ?k3 ?k4 ?k5 ?k6 ?k7 ?k8 ?_
    (case k1 => k_asm)
    (case k2 => k_asm)
    (case k3 => k_asm)
    (case k4 => k_asm)
    (case k5 => k_asm)
    (case k6 => exact rfl)
    (case k7 => ktr_room)
    (case k8 => ktr_units)
    rintro r nx h' tk' F4 N4 ⟨tl, rfl, ho, hd⟩
    obtain ⟨at1, nt1, tt1, vw, rfl, mt, dw⟩ := datIn_two hd
    replace mt := List.mem_append.mpr (.inr (a := (at1, _) ∈ rest) mt)
    simp only [List.cons_append] at N4
    obtain ⟨rest2, hr2⟩ : ∃ r, r = rest ++ tl := ⟨_, rfl⟩
    have bl := itemText_len (Int.fdiv n 3)
    obtain ⟨body, hbody⟩ : ∃ b, b = itemText (Int.fdiv n 3) := ⟨_, rfl⟩
    rw [← hbody] at mt bl
    rw [← hr2] at N4 mt
    dsimp only
    have up2 : ∀ p ∈ rest2, p ∈ rest ∨ p ∈ tl := fun p hp => by rw [hr2] at hp; exact List.mem_append.mp hp
    have z0 : ∀ p ∈ rest2, p.1 ≠ lr := fun p hp => (up2 p hp).elim (e0 p) fun h => Nat.ne_of_gt (ho (lr, _) (.tail _ (.head _)) p h)
    have z1 : ∀ p ∈ rest2, p.1 ≠ i0 := fun p hp => (up2 p hp).elim (e1 p) fun h => Nat.ne_of_gt (ho (i0, _) (.tail _ (.tail _ (.head _))) p h)
    have z2 : ∀ p ∈ rest2, p.1 ≠ i1 := fun p hp => (up2 p hp).elim (e2 p) fun h => Nat.ne_of_gt (ho (i1, _) (.tail _ (.tail _ (.tail _ (.head _)))) p h)
    have z3 : ∀ p ∈ rest2, p.1 ≠ i2 := fun p hp => (up2 p hp).elim (e3 p) fun h => Nat.ne_of_gt (ho (i2, _) (.tail _ (.tail _ (.tail _ (.tail _ (.head _))))) p h)
    have zI : ∀ p ∈ rest2, p.1 ≠ I := fun p hp => (up2 p hp).elim (yr p) fun h => Nat.ne_of_gt (ho (I, _) (.head _) p h)
    have zro : ∀ p ∈ rest2, p ∈ news ∨ @LT.lt Nat _ lr p.1 := fun p hp => (up2 p hp).elim (hro p) fun h => .inr (ho (lr, _) (.tail _ (.head _)) p h)
    have f0 := Int.fmod_nonneg_of_pos n (b := 3) (by decide)
    have f1 := Int.fmod_lt_of_pos n (b := 3) (by decide)
    have f3 : Int.fmod n 3 = 0 ∨ Int.fmod n 3 = 1 ∨ Int.fmod n 3 = 2 := by omega
    rename_i yC115 yC116 yC117
    clear tk
    revert yC116 yC117 F4 ho hd dw N4 hr2 bl mt hbody up2 z0 z1 z2 z3 zI zro
    revert yC115 h' tk' tl at1 nt1 tt1 vw rest2 body
    refine no_implicit_lambda% (closed10 ?_)
    with_reducible generalize wit _ _ = tQ
    with_reducible generalize Prod.fst (tQ) = yC115
    with_reducible generalize Prod.fst (Prod.snd (tQ)) = h'
    with_reducible generalize Prod.fst (Prod.snd (Prod.snd (tQ))) = tk'
    with_reducible generalize Prod.fst (Prod.snd (Prod.snd (Prod.snd (tQ)))) = tl
    with_reducible generalize Prod.fst (Prod.snd (Prod.snd (Prod.snd (Prod.snd (tQ))))) = at1
    with_reducible generalize Prod.fst (Prod.snd (Prod.snd (Prod.snd (Prod.snd (Prod.snd (tQ)))))) = nt1
    with_reducible generalize Prod.fst (Prod.snd (Prod.snd (Prod.snd (Prod.snd (Prod.snd (Prod.snd (tQ))))))) = tt1
    with_reducible generalize Prod.fst (Prod.snd (Prod.snd (Prod.snd (Prod.snd (Prod.snd (Prod.snd (Prod.snd (tQ)))))))) = vw
    with_reducible generalize Prod.fst (Prod.snd (Prod.snd (Prod.snd (Prod.snd (Prod.snd (Prod.snd (Prod.snd (Prod.snd (tQ))))))))) = rest2
    with_reducible generalize Prod.snd (Prod.snd (Prod.snd (Prod.snd (Prod.snd (Prod.snd (Prod.snd (Prod.snd (Prod.snd (tQ))))))))) = body
    clear tQ
    intro _ _ F4 ho hd dw N4 hr2 bl mt hbody up2 z0 z1 z2 z3 zI zro
    rcases f3 with f3 | f3 | f3
    · k_steps
      all_goals (
        with_reducible rename News _ _ _ _ => N5
        with_reducible rename Fr _ _ _ _ => F5
        rename _ ∧ _ ∧ _ ∧ _ ∧ _ ∧ _ ∧ AllLt _ _ => lD
        first | have ha := ahead_yes (t := R0.1) (by assumption) | have ha := ahead_no (t := R0.1) (by assumption)
        rw [List.push_toArray] at N5
        refine rows_end F5 N5 rfl rfl rfl hm (fun p hp => by rw [hr2]; exact List.mem_append.mpr (.inl (hr0 p hp))) zro z0 z1 z2 z3 zI y0 y1 y2 y3 y4 lD ?_ (by rw [rowOf_miss hn (by omega), ← hR1]) (by rw [rowOf_miss hn (by omega), ← hR2]) ?_ (by rw [rowOf_miss hn (by omega), ← hR1]; exact d1.mono fun p hp => .tail _ (by rw [hr2]; exact List.mem_append.mpr (.inl hp))) (by rw [rowOf_miss hn (by omega), ← hR2]; exact d2.mono fun p hp => .tail _ (by rw [hr2]; exact List.mem_append.mpr (.inl hp)))
        · rw [rowOf_hit hn f3, ← hR0, ← ha]; exact congrArg (aheadOf R0.1 ++ ·) hbody.symm
        · rw [rowOf_hit hn f3, ← hR0]
          show DatAll _ _ ((R0.2 ++ [_]).map Item.dat)
          rw [List.map_append]
          refine (d0.mono fun p hp => .tail _ (by rw [hr2]; exact List.mem_append.mpr (.inl hp))).append (.one ?_)
          rw [← hbody]
          exact item_dat (.head _) (dw.mono fun p hp => .tail _ (by rw [hr2]; exact List.mem_append.mpr (.inr hp))) (by rw [ha]; first | rfl | rw [Str.length_append]) (by rw [ha]; first | rfl | rw [Str.length_append]))
    · k_steps
      all_goals (
        with_reducible rename News _ _ _ _ => N5
        with_reducible rename Fr _ _ _ _ => F5
        rename _ ∧ _ ∧ _ ∧ _ ∧ _ ∧ _ ∧ AllLt _ _ => lD
        first | have ha := ahead_yes (t := R1.1) (by assumption) | have ha := ahead_no (t := R1.1) (by assumption)
        rw [List.push_toArray] at N5
        refine rows_end F5 N5 rfl rfl rfl hm (fun p hp => by rw [hr2]; exact List.mem_append.mpr (.inl (hr0 p hp))) zro z0 z1 z2 z3 zI y0 y1 y2 y3 y4 lD (by rw [rowOf_miss hn (by omega), ← hR0]) ?_ (by rw [rowOf_miss hn (by omega), ← hR2]) (by rw [rowOf_miss hn (by omega), ← hR0]; exact d0.mono fun p hp => .tail _ (by rw [hr2]; exact List.mem_append.mpr (.inl hp))) ?_ (by rw [rowOf_miss hn (by omega), ← hR2]; exact d2.mono fun p hp => .tail _ (by rw [hr2]; exact List.mem_append.mpr (.inl hp)))
        · rw [rowOf_hit hn f3, ← hR1, ← ha]; exact congrArg (aheadOf R1.1 ++ ·) hbody.symm
        · rw [rowOf_hit hn f3, ← hR1]
          show DatAll _ _ ((R1.2 ++ [_]).map Item.dat)
          rw [List.map_append]
          refine (d1.mono fun p hp => .tail _ (by rw [hr2]; exact List.mem_append.mpr (.inl hp))).append (.one ?_)
          rw [← hbody]
          exact item_dat (.head _) (dw.mono fun p hp => .tail _ (by rw [hr2]; exact List.mem_append.mpr (.inr hp))) (by rw [ha]; first | rfl | rw [Str.length_append]) (by rw [ha]; first | rfl | rw [Str.length_append]))
    · k_steps
      all_goals (
        with_reducible rename News _ _ _ _ => N5
        with_reducible rename Fr _ _ _ _ => F5
        rename _ ∧ _ ∧ _ ∧ _ ∧ _ ∧ _ ∧ AllLt _ _ => lD
        first | have ha := ahead_yes (t := R2.1) (by assumption) | have ha := ahead_no (t := R2.1) (by assumption)
        rw [List.push_toArray] at N5
        refine rows_end F5 N5 rfl rfl rfl hm (fun p hp => by rw [hr2]; exact List.mem_append.mpr (.inl (hr0 p hp))) zro z0 z1 z2 z3 zI y0 y1 y2 y3 y4 lD (by rw [rowOf_miss hn (by omega), ← hR0]) (by rw [rowOf_miss hn (by omega), ← hR1]) ?_ (by rw [rowOf_miss hn (by omega), ← hR0]; exact d0.mono fun p hp => .tail _ (by rw [hr2]; exact List.mem_append.mpr (.inl hp))) (by rw [rowOf_miss hn (by omega), ← hR1]; exact d1.mono fun p hp => .tail _ (by rw [hr2]; exact List.mem_append.mpr (.inl hp))) ?_
        · rw [rowOf_hit hn f3, ← hR2, ← ha]; exact congrArg (aheadOf R2.1 ++ ·) hbody.symm
        · rw [rowOf_hit hn f3, ← hR2]
          show DatAll _ _ ((R2.2 ++ [_]).map Item.dat)
          rw [List.map_append]
          refine (d2.mono fun p hp => .tail _ (by rw [hr2]; exact List.mem_append.mpr (.inl hp))).append (.one ?_)
          rw [← hbody]
          exact item_dat (.head _) (dw.mono fun p hp => .tail _ (by rw [hr2]; exact List.mem_append.mpr (.inr hp))) (by rw [ha]; first | rfl | rw [Str.length_append]) (by rw [ha]; first | rfl | rw [Str.length_append]))
  case done =>
    rintro m₁ nx h tk ⟨t0, t1, t2, nr, v0, v1, v2, n0, n1, n2, rest, rfl, d0, d1, d2, hr0, e0, e1, e2, e3, hro, b1, b2⟩ hlm F2 N3
    have F3 := fr_puts F2 (.cons b1 (.cons b2 .nil))
    simp only [putsM] at F3
    clear F2 F1 N1 N2 b1 b2
    dsimp only
    rw [List.take_of_length_le (by rw [hv.length]; exact Nat.le_refl _)] at N3 d0 d1 d2
    k_steps
    rename _ ∧ _ ∧ _ ∧ _ ∧ _ ∧ AllLt _ rest => lD
    rename News h₀ L _ _ => NF
    rename Fr h₀ L _ _ => FF
    exact rows_ret hret FF NF d0 d1 d2 hr0 hro l0 lD.1 q0.1 q1.2.1 q2.2.2.1 q3.2.2.2.1
end Mine
end

section
open PySem PySem.W PyProof.Rows
set_option maxRecDepth 100000
set_option maxHeartbeats 2400000
namespace Mine
theorem reg_DueP_1 : True := by
  w_top off
  k_with_none
  k_with "my big" => lia
  k_with "my omega" => first
      | with_reducible assumption
      | decide
      | ((fail_if_success (fail_if_success omega (config := {})))
         first
           | k_extra "my om"
           | k_extra "my big"
           | omega (config := {}))
  k_with "my om" => first
      | (with_reducible refine' rm0 ?h; (case h => with_reducible assumption))
      | (with_reducible refine' rm1 ?h ?e; (case h => with_reducible assumption); (case e => decide))
      | (with_reducible refine' rm2 ?h ?e; (case h => with_reducible assumption); (case e => decide))
      | (with_reducible refine' rm3 ?h ?e; (case h => with_reducible assumption); (case e => decide))
      | (with_reducible refine' bd1 ?h ?e; (case h => with_reducible assumption); (case e => decide))
      | (with_reducible refine' bd3 ?h ?e; (case h => with_reducible assumption); (case e => decide))
      | (with_reducible refine' bd4 ?h ?e; (case h => with_reducible assumption); (case e => decide))
      | (with_reducible refine' bz1 ?h ?e; (case h => walk_at "lt"); (case e => decide))
      | (with_reducible refine' bz3 ?h ?e; (case h => walk_at "lt"); (case e => decide))
      | (with_reducible refine' bd2 ?q ?h ?e; (case q => with_reducible assumption); (case h => with_reducible assumption); (case e => decide))
      | walk_at "lt2"
      | (with_reducible refine Nat.le_of_lt ?_; walk_at "lt2")
      | (with_reducible refine Nat.ne_of_lt ?_; walk_at "lt2")
      | (with_reducible refine Nat.ne_of_gt ?_; walk_at "lt2")
      | ((with_reducible refine And.intro ?_ ?_) <;> k_extra "my omega")
      | (with_reducible refine' Nat.lt_trans ?a ?b; (case b => with_reducible assumption); (case a => walk_at "lt2"))
      | (with_reducible refine' Nat.lt_trans ?a ?b; (case a => with_reducible assumption); (case b => walk_at "lt2"))
      | (with_reducible refine' Nat.lt_of_le_of_lt ?a ?b; (case b => with_reducible assumption); (case a => walk_at "lt2"))
      | (with_reducible refine' Nat.lt_of_le_of_lt ?a ?b; (case a => with_reducible assumption); (case b => walk_at "lt2"))
      | (with_reducible refine' Nat.lt_of_lt_of_le ?a ?b; (case b => with_reducible assumption); (case a => walk_at "lt2"))
      | (with_reducible refine' Nat.lt_of_lt_of_le ?a ?b; (case a => with_reducible assumption); (case b => walk_at "lt2"))
      | (with_reducible refine' Nat.le_trans ?a ?b; (case b => with_reducible assumption); (case a => walk_at "lt2"))
      | (with_reducible refine' Nat.le_trans ?a ?b; (case a => with_reducible assumption); (case b => walk_at "lt2"))
  k_with "my lt" => first
      | with_reducible assumption
      | (refine' And.left ?h; (case h => with_reducible assumption))
      | (refine' And.left (And.right ?h); (case h => with_reducible assumption))
      | (refine' And.left (And.right (And.right ?h)); (case h => with_reducible assumption))
      | (refine' And.left (And.right (And.right (And.right ?h))); (case h => with_reducible assumption))
      | (refine' And.left (And.right (And.right (And.right (And.right ?h)))); (case h => with_reducible assumption))
      | (refine' And.left (And.right (And.right (And.right (And.right (And.right ?h))))); (case h => with_reducible assumption))
      | (refine' And.left (And.right (And.right (And.right (And.right (And.right (And.right ?h)))))); (case h => with_reducible assumption))
      | (refine' And.left (And.right (And.right (And.right (And.right (And.right (And.right (And.right ?h))))))); (case h => with_reducible assumption))
      | (refine' And.left (And.right (And.right (And.right (And.right (And.right (And.right (And.right (And.right ?h)))))))); (case h => with_reducible assumption))
      | (refine' And.left (And.right (And.right (And.right (And.right (And.right (And.right (And.right (And.right (And.right ?h))))))))); (case h => with_reducible assumption))
      | (refine' And.left (And.right (And.right (And.right (And.right (And.right (And.right (And.right (And.right (And.right (And.right ?h)))))))))); (case h => with_reducible assumption))
  k_with "my lt2" => first
      | walk_at "lt"
      | (with_reducible exact ad1)
      | (with_reducible exact ad2)
      | (with_reducible exact ad3)
      | (with_reducible exact ad4)
      | (with_reducible refine ar1 ?_; walk_at "lt")
      | (with_reducible refine ar2 ?_; walk_at "lt")
      | (with_reducible refine ar3 ?_; walk_at "lt")
      | (with_reducible refine ar4 ?_; walk_at "lt")
      | (with_reducible refine as1 ?_; walk_at "lt")
      | (with_reducible refine as2 ?_; walk_at "lt")
      | (with_reducible refine as3 ?_; walk_at "lt")
      | (with_reducible refine as4 ?_; walk_at "lt")
  k_with "my ar" => ((try dsimp only); first
      | with_reducible exact Nat.le_refl _
      | walk_at "lt2"
      | (refine Nat.le_of_lt ?_; walk_at "lt2")
      | (refine Nat.ne_of_lt ?_; walk_at "lt2")
      | (refine Nat.ne_of_gt ?_; walk_at "lt2")
      | k_extra "my ar2"
      | omega)
  k_with "my k_ne" => (refine neN ?_; (try dsimp only); first
      | with_reducible assumption
      | (refine Ne.symm ?_; with_reducible assumption)
      | (refine Nat.ne_of_lt ?_; walk_at "lt")
      | (refine Nat.ne_of_gt ?_; walk_at "lt")
      | omega)
  trivial
noncomputable abbrev abK (step : Int) : Str := Txt.item (PySem.Str.ofString "ab") (Int.fmod step 2)
noncomputable def isOdd : Word → Bool
  | .noEq => true
  | .noValue => true
  | _ => false
noncomputable def okAt (row : List Item) (key : Str) (col : Int) (k : Nat) : Bool :=
  match row[k]? with
  | some it => decide (it.key = key) && decide (it.behind ≤ col)
  | none => false
noncomputable def foundL (row : List Item) (key : Str) (col : Int) : List Nat := (List.range row.length).filter (okAt row key col)
noncomputable def wordsP (row : List Item) (j : Nat) : List Word := (row.take (j + 1)).map Item.word
noncomputable def wordEnd (ws : List Word) : Dat ⊕ (Int × Int) :=
  match ws.filter isOdd with
  | w :: _ => .inl w.dat
  | [] => match ws.getLast? with
    | some (.place l c) => .inr (l, c)
    | _ => .inl (.str (PySem.Str.ofString "no place"))
noncomputable def duStep (rows : List (List Item)) (line col step : Int) : Dat ⊕ (Int × Int) :=
  if line = 4 then .inl (.str (PySem.Str.ofString "no row")) else
  match (foundL (rows.getD (line - 1).toNat []) (abK step) col).getLast? with
  | none => .inl (.str (PySem.Str.ofString "no item"))
  | some j => wordEnd (wordsP (rows.getD (line - 1).toNat []) j)
noncomputable def walkN (f : Int → Int → Int → Dat ⊕ (Int × Int)) : Nat → Int → Int → Int → List Dat
  | 0, _, _, _ => []
  | n + 1, line, col, step => match f line col step with
    | .inl d => [d]
    | .inr (l, c) => .tuple [.int l, .int c] :: walkN f n l c (step + 1)
noncomputable def dueP (rows : List (List Item)) (line col turn : Int) : List Dat := walkN (duStep rows) 3 line col turn
/-- the walk so far, and what is left of it -/
noncomputable def WalkAt (f : Int → Int → Int → Dat ⊕ (Int × Int)) (line0 col0 turn : Int) (i : Nat) (line col : Int) (pre : List Dat) : Prop :=
  i ≤ 3 ∧ pre.length = i ∧ walkN f 3 line0 col0 turn = pre ++ walkN f (3 - i) line col (turn + i)
theorem WalkAt.start {f : Int → Int → Int → Dat ⊕ (Int × Int)} {line col turn : Int} : WalkAt f line col turn 0 line col [] := ⟨by omega, rfl, by simp⟩
theorem WalkAt.ends {f : Int → Int → Int → Dat ⊕ (Int × Int)} {line0 col0 turn line col : Int} {i : Nat} {pre : List Dat} {d : Dat} (h : WalkAt f line0 col0 turn i line col pre) (hi : i < 3) (hf : f line col (turn + i) = .inl d) : walkN f 3 line0 col0 turn = pre ++ [d] := by
  obtain ⟨_, _, h3⟩ := h
  rw [h3, show 3 - i = (3 - (i + 1)) + 1 by omega, walkN, hf]
theorem WalkAt.next {f : Int → Int → Int → Dat ⊕ (Int × Int)} {line0 col0 turn line col l c : Int} {i : Nat} {pre : List Dat} (h : WalkAt f line0 col0 turn i line col pre) (hi : i < 3) (hf : f line col (turn + i) = .inr (l, c)) : WalkAt f line0 col0 turn (i + 1) l c (pre ++ [.tuple [.int l, .int c]]) := by
  obtain ⟨_, h2, h3⟩ := h
  refine ⟨by omega, by simp [h2], ?_⟩
  rw [h3, show 3 - i = (3 - (i + 1)) + 1 by omega, walkN, hf, List.append_assoc]
  have e : turn + ((i + 1 : Nat) : Int) = turn + (i : Int) + 1 := by push_cast; omega
  rw [e]
  rfl
theorem WalkAt.full {f : Int → Int → Int → Dat ⊕ (Int × Int)} {line0 col0 turn line col : Int} {pre : List Dat} (h : WalkAt f line0 col0 turn 3 line col pre) : walkN f 3 line0 col0 turn = pre := by
  obtain ⟨_, _, h3⟩ := h
  rw [h3]; simp [walkN]
theorem foundL_lt {row : List Item} {key : Str} {col : Int} {j : Nat} (h : (foundL row key col).getLast? = some j) : j < row.length := by
  have := List.mem_of_getLast? h
  unfold foundL at this
  exact List.mem_range.mp (List.mem_filter.mp this).1
noncomputable def foundZ (row : List Item) (key : Str) (col : Int) (j : Nat) : List Int := ((List.range j).filter (okAt row key col)).map fun (k : Nat) => (k : Int)
theorem range_filter_succ (p : Nat → Bool) (i : Nat) : (List.range (i + 1)).filter p = (List.range i).filter p ++ (if p i = true then [i] else []) := by
  rw [List.range_succ, List.filter_append]
  congr 1
  by_cases h : p i = true <;> simp [h]
theorem okAt_eq {row : List Item} {key : Str} {col : Int} {j : Nat} {it : Item} (h : row[j]? = some it) : okAt row key col j = (decide (it.key = key) && decide (it.behind ≤ col)) := by unfold okAt; rw [h]
theorem foundZ_yes {row : List Item} {key : Str} {col : Int} {j : Nat} {it : Item} (h : row[j]? = some it) (h1 : it.key = key) (h2 : it.behind ≤ col) : foundZ row key col (j + 1) = foundZ row key col j ++ [(j : Int)] := by
  unfold foundZ; rw [range_filter_succ, okAt_eq h]; simp [h1, h2]
theorem foundZ_no {row : List Item} {key : Str} {col : Int} {j : Nat} {it : Item} (h : row[j]? = some it) (h1 : ¬ (it.key = key ∧ it.behind ≤ col)) : foundZ row key col (j + 1) = foundZ row key col j := by
  have e : (decide (it.key = key) && decide (it.behind ≤ col)) = false := by
    by_cases h2 : it.key = key
    · simp [h2]; exact Int.not_le.mp fun h3 => h1 ⟨h2, h3⟩
    · simp [h2]
  unfold foundZ; rw [range_filter_succ, okAt_eq h, e]; simp
theorem foundZ_full {row : List Item} {key : Str} {col : Int} : foundZ row key col row.length = (foundL row key col).map fun (k : Nat) => (k : Int) := rfl
theorem wordEnd_odd {ws : List Word} {w : Word} {r : List Word} (h : ws.filter isOdd = w :: r) : wordEnd ws = .inl w.dat := by unfold wordEnd; rw [h]
theorem wordEnd_place {ws : List Word} {l c : Int} (h : ws.filter isOdd = []) (h2 : ws.getLast? = some (.place l c)) : wordEnd ws = .inr (l, c) := by unfold wordEnd; rw [h]; simp only [h2]
theorem wordEnd_no {ws : List Word} (h : ws.filter isOdd = []) (h2 : ws.getLast? = some .noPlace) : wordEnd ws = .inl (.str (PySem.Str.ofString "no place")) := by unfold wordEnd; rw [h]; simp only [h2]
theorem duStep_row {rows : List (List Item)} {line col step : Int} (h : line = 4) : duStep rows line col step = .inl (.str (PySem.Str.ofString "no row")) := by unfold duStep; rw [if_pos h]
theorem duStep_item {rows : List (List Item)} {line col step : Int} {r : List Item} (h : ¬ line = 4) (hr : rows.getD (line - 1).toNat [] = r) (hf : (foundL r (abK step) col).getLast? = none) : duStep rows line col step = .inl (.str (PySem.Str.ofString "no item")) := by
  unfold duStep; rw [if_neg h, hr, hf]
theorem duStep_word {rows : List (List Item)} {line col step : Int} {r : List Item} {j : Nat} (h : ¬ line = 4) (hr : rows.getD (line - 1).toNat [] = r) (hf : (foundL r (abK step) col).getLast? = some j) : duStep rows line col step = wordEnd (wordsP r j) := by
  unfold duStep; rw [if_neg h, hr, hf]
theorem words_last {row : List Item} {j : Nat} {it : Item} (h : row[j]? = some it) : (wordsP row j).getLast? = some it.word := by
  unfold wordsP; rw [List.take_add_one, h]; simp
end Mine
end

section
open PySem PySem.W PyProof.Rows
set_option maxRecDepth 100000
set_option maxHeartbeats 2400000
namespace Mine
theorem reg_Due_1 : True := by
  w_top off
  k_with_none
  k_with "my big" => lia
  k_with "my omega" => first
      | with_reducible assumption
      | decide
      | ((fail_if_success (fail_if_success omega (config := {})))
         first
           | k_extra "my om"
           | k_extra "my big"
           | omega (config := {}))
  k_with "my om" => first
      | (with_reducible refine' rm0 ?h; (case h => with_reducible assumption))
      | (with_reducible refine' rm1 ?h ?e; (case h => with_reducible assumption); (case e => decide))
      | (with_reducible refine' rm2 ?h ?e; (case h => with_reducible assumption); (case e => decide))
      | (with_reducible refine' rm3 ?h ?e; (case h => with_reducible assumption); (case e => decide))
      | (with_reducible refine' bd1 ?h ?e; (case h => with_reducible assumption); (case e => decide))
      | (with_reducible refine' bd3 ?h ?e; (case h => with_reducible assumption); (case e => decide))
      | (with_reducible refine' bd4 ?h ?e; (case h => with_reducible assumption); (case e => decide))
      | (with_reducible refine' bz1 ?h ?e; (case h => walk_at "lt"); (case e => decide))
      | (with_reducible refine' bz3 ?h ?e; (case h => walk_at "lt"); (case e => decide))
      | (with_reducible refine' bd2 ?q ?h ?e; (case q => with_reducible assumption); (case h => with_reducible assumption); (case e => decide))
      | walk_at "lt2"
      | (with_reducible refine Nat.le_of_lt ?_; walk_at "lt2")
      | (with_reducible refine Nat.ne_of_lt ?_; walk_at "lt2")
      | (with_reducible refine Nat.ne_of_gt ?_; walk_at "lt2")
      | ((with_reducible refine And.intro ?_ ?_) <;> k_extra "my omega")
      | (with_reducible refine' Nat.lt_trans ?a ?b; (case b => with_reducible assumption); (case a => walk_at "lt2"))
      | (with_reducible refine' Nat.lt_trans ?a ?b; (case a => with_reducible assumption); (case b => walk_at "lt2"))
      | (with_reducible refine' Nat.lt_of_le_of_lt ?a ?b; (case b => with_reducible assumption); (case a => walk_at "lt2"))
      | (with_reducible refine' Nat.lt_of_le_of_lt ?a ?b; (case a => with_reducible assumption); (case b => walk_at "lt2"))
      | (with_reducible refine' Nat.lt_of_lt_of_le ?a ?b; (case b => with_reducible assumption); (case a => walk_at "lt2"))
      | (with_reducible refine' Nat.lt_of_lt_of_le ?a ?b; (case a => with_reducible assumption); (case b => walk_at "lt2"))
      | (with_reducible refine' Nat.le_trans ?a ?b; (case b => with_reducible assumption); (case a => walk_at "lt2"))
      | (with_reducible refine' Nat.le_trans ?a ?b; (case a => with_reducible assumption); (case b => walk_at "lt2"))
  k_with "my lt" => first
      | with_reducible assumption
      | (refine' And.left ?h; (case h => with_reducible assumption))
      | (refine' And.left (And.right ?h); (case h => with_reducible assumption))
      | (refine' And.left (And.right (And.right ?h)); (case h => with_reducible assumption))
      | (refine' And.left (And.right (And.right (And.right ?h))); (case h => with_reducible assumption))
      | (refine' And.left (And.right (And.right (And.right (And.right ?h)))); (case h => with_reducible assumption))
      | (refine' And.left (And.right (And.right (And.right (And.right (And.right ?h))))); (case h => with_reducible assumption))
      | (refine' And.left (And.right (And.right (And.right (And.right (And.right (And.right ?h)))))); (case h => with_reducible assumption))
      | (refine' And.left (And.right (And.right (And.right (And.right (And.right (And.right (And.right ?h))))))); (case h => with_reducible assumption))
      | (refine' And.left (And.right (And.right (And.right (And.right (And.right (And.right (And.right (And.right ?h)))))))); (case h => with_reducible assumption))
      | (refine' And.left (And.right (And.right (And.right (And.right (And.right (And.right (And.right (And.right (And.right ?h))))))))); (case h => with_reducible assumption))
      | (refine' And.left (And.right (And.right (And.right (And.right (And.right (And.right (And.right (And.right (And.right (And.right ?h)))))))))); (case h => with_reducible assumption))
  k_with "my lt2" => first
      | walk_at "lt"
      | (with_reducible exact ad1)
      | (with_reducible exact ad2)
      | (with_reducible exact ad3)
      | (with_reducible exact ad4)
      | (with_reducible refine ar1 ?_; walk_at "lt")
      | (with_reducible refine ar2 ?_; walk_at "lt")
      | (with_reducible refine ar3 ?_; walk_at "lt")
      | (with_reducible refine ar4 ?_; walk_at "lt")
      | (with_reducible refine as1 ?_; walk_at "lt")
      | (with_reducible refine as2 ?_; walk_at "lt")
      | (with_reducible refine as3 ?_; walk_at "lt")
      | (with_reducible refine as4 ?_; walk_at "lt")
  k_with "my ar" => ((try dsimp only); first
      | with_reducible exact Nat.le_refl _
      | walk_at "lt2"
      | (refine Nat.le_of_lt ?_; walk_at "lt2")
      | (refine Nat.ne_of_lt ?_; walk_at "lt2")
      | (refine Nat.ne_of_gt ?_; walk_at "lt2")
      | k_extra "my ar2"
      | omega)
  k_with "my k_ne" => (refine neN ?_; (try dsimp only); first
      | with_reducible assumption
      | (refine Ne.symm ?_; with_reducible assumption)
      | (refine Nat.ne_of_lt ?_; walk_at "lt")
      | (refine Nat.ne_of_gt ?_; walk_at "lt")
      | omega)
  k_with "my enter cells" => (refine' code_defC ?k1 ?k2 ?k3 ?k4 ?k5 ?kA ?kF ?kK ?k6 ?k7 ?k8 ?k9 ?kB ?kD ?_ ?c2 ?c3 ?c4; (case kA => exact rfl); (case kF => exact rfl); (case kK => assumption); (case k1 => k_asm); (case k2 => k_asm); (case k3 => k_asm); (case k4 => k_asm); (case k5 => k_asm); (case k6 => k_is); (case k7 => k_is); (case k8 => ktr_room); (case k9 => exact BindsTo.of_eq rfl); (case kB => exact rfl); (case kD => decide +kernel); (case c2 => exact rfl); (case c3 => exact rfl); (case c4 => exact rfl); k_whole; walk_at "i13")
  k_with "my k_all" => first | assumption | exact ne_above (by assumption) (by walk_at "ar")
  k_with "my k_mem" => first | with_reducible_and_instances assumption | (with_reducible_and_instances refine List.mem_append.mpr (Or.inl ?_); k_mem) | (with_reducible_and_instances refine List.mem_append.mpr (Or.inr ?_); k_mem)
  k_with "my pyIter ref" => refine stop_here ?_
  k_with "my exec For Name Call cons nil" => refine for_open ?_
  k_with "my call ref" => (k_here; refine stop_here ?_)
  k_with "my eval ListComp" => (k_here; (with_reducible show wpAny _ _ (eval (PySem.Expr.ListComp _ [PySem.Comprehension.mk (PySem.Expr.Name _ _) _ [] 0] _ _) _) _ _ _); k_dflt (refine LCg.ListComp_U (F₀ := by k_asm) (by with_unfolding_all rfl) (by decide) (by rfl) (by decide) (by rfl) ?_))
  k_with "my eval ListComp" => (k_here; (with_reducible show wpAny _ _ (eval (PySem.Expr.ListComp _ [PySem.Comprehension.mk (PySem.Expr.Name _ _) _ [_] 0] _ _) _) _ _ _); k_dflt (refine LCt.ListComp_T (F₀ := by k_asm) (by with_unfolding_all rfl) (by decide) (by rfl) (by decide) (by rfl) ?_))
  k_with "my exec Assign cons ListComp" => (k_here; (with_reducible show wpAny _ _ (exec (Stmt.Assign [PySem.Expr.Name _ _] (PySem.Expr.ListComp _ [PySem.Comprehension.mk (PySem.Expr.Name _ _) _ [_] 0] _ _) _) _) _ _ _); k_dflt (refine LCt.Assign_ListComp_T (F₀ := by k_asm) (by rfl) (by with_unfolding_all rfl) (by with_unfolding_all rfl) (by decide) (by rfl) (by decide) (by rfl) (by rfl) (by rfl) ?_))
  k_with "my exec Assign cons ListComp" => (k_here; (with_reducible show wpAny _ _ (exec (Stmt.Assign [PySem.Expr.Name _ _] (PySem.Expr.ListComp _ [PySem.Comprehension.mk (PySem.Expr.Name _ _) _ [] 0] _ _) _) _) _ _ _); k_dflt (refine LCg.Assign_ListComp_U (F₀ := by k_asm) (by rfl) (by with_unfolding_all rfl) (by with_unfolding_all rfl) (by decide) (by rfl) (by decide) (by rfl) (by rfl) (by rfl) ?_))
  k_with "my CompSrcT" => refine stop_here ?_
  k_with "my subscriptTail" => (k_here; (with_reducible show wpAny _ _ (subscriptTail _ _ (Value.ref _) (Value.int _ _)) _ _ _); k_dflt (refine' list_item ?kN ?hm ?h0 ?h1 ?hx ?_ ?hs; (case kN => k_asm); (case hx => with_reducible assumption); (case hm => k_mem); (case h0 => omega); (case h1 => omega); (case hs => with_unfolding_all rfl); k_whole))
  k_with "my CompSrc" => refine stop_here ?_
  trivial
noncomputable def dueJ (lw li aC aS aR : Addr) (rows : List (List Item)) (line0 col0 turn : Int) (news : List (Addr × Obj)) (i : Nat) (m : Str → Option Value) (nx : List (Addr × Obj)) : Prop :=
  ∃ us nw oR oS oC vR vS line col t1 t2 pre rest, nx = (lw, listOf us.toArray nw) :: (aR, oR) :: (aS, oS) :: (aC, oC) :: rest ∧ oR.data = .cell vR ∧ oS.data = .cell vS ∧ oC.data = .cell (some (.int col t2)) ∧ DatAll rest us pre ∧ WalkAt (duStep rows) line0 col0 turn i line col pre ∧ (1 ≤ line ∧ line ≤ 4) ∧
    (∀ p ∈ news, p ∈ rest) ∧ (∀ p ∈ rest, p.1 ≠ lw) ∧ (∀ p ∈ rest, p.1 ≠ aR) ∧ (∀ p ∈ rest, p.1 ≠ aS) ∧ (∀ p ∈ rest, p.1 ≠ aC) ∧ (∀ p ∈ rest, p ∈ news ∨ @LT.lt Nat _ aC p.1) ∧ m (PySem.Str.ofString "walked") = some (.ref lw) ∧ m (PySem.Str.ofString "items") = some (.ref li) ∧ m (PySem.Str.ofString "line") = some (.int line t1)
noncomputable def WordOk : Word → Prop
  | .place l _ => 1 ≤ l ∧ l ≤ 4
  | _ => True
theorem reg_Due_2 : True := by
  k_with "my call builtin:len" => (k_here; k_dflt (refine' len_led ?N ?m ?z ?_; (case N => k_asm); (case m => k_mem); (case z => omega); k_whole))
  k_with "my binaryOp Add ref ref" => (k_here; k_dflt (refine' add_led ?F ?N ?m ?m2 ?z ?_; (case F => k_asm); (case N => k_asm); (case m => k_mem); (case m2 => k_mem); (case z => (try simp only [List.length_cons, List.length_nil]); omega); k_whole); walk_at "i5")
  k_with "my truthy ref" => (k_here; k_dflt (first | (refine' truthy_app ?N ?m ?z ?_; (case N => k_asm); (case m => k_mem); (case z => omega); k_whole) | (refine' truthy_cons ?N ?m ?z ?_; (case N => k_asm); (case m => k_mem); (case z => omega); k_whole)))
  k_with "my subscriptTail" => (k_here; (with_reducible show wpAny _ _ (subscriptTail _ _ (Value.ref _) (Value.int (-1) _)) _ _ _); k_dflt (refine' item_last ?N ?m ?z ?_ ?hs; (case N => k_asm); (case m => k_mem); (case z => omega); (case hs => with_unfolding_all rfl); k_whole))
  k_with "my subscriptTail Name UnaryOp ref int" => (k_here; (with_reducible show wpAny _ _ (subscriptTail _ _ (Value.ref _) (Value.int (-1) _)) _ _ _); k_dflt (refine' item_last ?N ?m ?z ?_ ?hs; (case N => k_asm); (case m => k_mem); (case z => omega); (case hs => with_unfolding_all rfl); k_whole))
  k_with "my subscriptTail" => (k_here; (with_reducible show wpAny _ _ (subscriptTail _ (PySem.Expr.Slice _ _ _ _) (Value.ref _) (Value.ref _)) _ _ _); k_dflt (refine' slice_upto ?F ?N ?m ?z ?k ?_ ?hs ?hg; (case F => k_asm); (case N => k_asm); (case m => k_mem); (case z => omega); (case k => omega); (case hs => with_unfolding_all rfl); (case hg => intro _; with_unfolding_all rfl); k_whole); walk_at "i5")
  trivial
theorem led_ret {news rest full : List (Addr × Obj)} {h₀ h' : Heap} {L aC a : Addr} {m : Str → Option Value} {s : Shared} {Q : Value → Shared → Prop} {tk' c : Nat} {vs : List Value} {ds : List Dat}
    (hret : ∀ r nx h' tk', Fr h₀ L h' m → News h₀ L h' nx → RetW news (.list ds) nx r → Q r { s with heap := h', toks := tk' }) (F : Fr h₀ L h' m) (N : News h₀ L h' full) (ha : (a, listOf vs.toArray c) ∈ full) (hr : ∀ p ∈ rest, p ∈ full) (hr0 : ∀ p ∈ news, p ∈ rest)
    (hro : ∀ p ∈ rest, p ∈ news ∨ @LT.lt Nat _ aC p.1) (hn : ∀ p ∈ news, @LT.lt Nat _ p.1 aC) (hal : @LT.lt Nat _ aC a) (hd : DatAll rest vs ds) : Q (.ref a) { s with heap := h', toks := tk' } := by
  refine hret _ (news ++ (a, listOf vs.toArray c) :: rest.filter (fun p => decide (@LT.lt Nat _ aC p.1))) h' tk' F (fun p hp => N p ?_) ⟨⟨_, rfl, fun p hp q hq => ?_⟩, .list (List.mem_append.mpr (.inr (.head _))) (hd.mono fun p hp => ?_)⟩
  · rcases List.mem_append.mp hp with hp | hp
    · exact hr p (hr0 p hp)
    · rcases List.mem_cons.mp hp with rfl | hp
      · exact ha
      · exact hr p (List.mem_filter.mp hp).1
  · have h1 := hn q hq
    rcases List.mem_cons.mp hp with rfl | hp
    · exact Nat.ne_of_gt (Nat.lt_trans h1 hal)
    · exact Nat.ne_of_gt (Nat.lt_trans h1 (by simpa using (List.mem_filter.mp hp).2))
  · rcases hro p hp with h | h
    · exact List.mem_append.mpr (.inl h)
    · exact List.mem_append.mpr (.inr (.tail _ (List.mem_filter.mpr ⟨hp, by simpa using h⟩)))
theorem words_get {news : List (Addr × Obj)} {ys : List Value} {ws : List Word} {i : Nat} {v : Value} (h : DatAll news ys (ws.map Word.dat)) (hv : ys[i]? = some v) : ∃ wd, ws[i]? = some wd ∧ DatIn news v wd.dat := by
  have hi : i < ys.length := (List.getElem?_eq_some_iff.mp hv).1
  have hl := h.length
  obtain ⟨v', e1, e2⟩ := h.get (k := i) (by rw [← hl]; exact hi)
  rw [hv] at e1; cases e1
  rw [List.getElem_map] at e2
  exact ⟨_, List.getElem?_eq_getElem (by rw [List.length_map] at hl; omega), e2⟩
noncomputable abbrev oddL : List Dat := [.str (PySem.Str.ofString "no equals sign"), .str (PySem.Str.ofString "no value")]
theorem odd_mem (wd : Word) : (isOdd wd = true → wd.dat ∈ oddL) ∧ (isOdd wd = false → wd.dat ∉ oddL) := by
  cases wd with
  | place l c => exact ⟨fun h => by simp [isOdd] at h, fun _ h => by simp [Word.dat] at h⟩
  | noPlace =>
    refine ⟨fun h => absurd h (by decide), fun _ h => ?_⟩
    have e1 : ¬ (PySem.Str.ofString "no place" = PySem.Str.ofString "no equals sign") := by decide
    have e2 : ¬ (PySem.Str.ofString "no place" = PySem.Str.ofString "no value") := by decide
    simp [Word.dat, e1, e2] at h
  | noValue => exact ⟨fun _ => .tail _ (.head _), fun h => absurd h (by decide)⟩
  | noEq => exact ⟨fun _ => .head _, fun h => absurd h (by decide)⟩
theorem okD (wd : Word) : kqdOk 8 wd.dat = true := by
  cases wd with
  | place l c => rfl
  | noPlace => show PyData.strOk (PySem.Str.ofString "no place") = true; kernel_rfl
  | noValue => show PyData.strOk (PySem.Str.ofString "no value") = true; kernel_rfl
  | noEq => show PyData.strOk (PySem.Str.ofString "no equals sign") = true; kernel_rfl
open Classical in
theorem odd_in {prog : Program} {w : World} {A : Around} {E : Value → Shared → Prop} {s : Shared} {h₀ : Heap} {L a : Addr} {news n₂ : List (Addr × Obj)} {u1 u2 : Tok} {c : Nat} {v : Value} {wd : Word} {Q : Value → Shared → Prop} (N : News h₀ L s.heap news)
    (ma : (a, listOf #[.str (PySem.Str.ofString "no equals sign") u1, .str (PySem.Str.ofString "no value") u2] c) ∈ news) (hv : DatIn n₂ v wd.dat) (hs : ∀ p ∈ n₂, p ∈ news) (hu : A.units + 64 < cLine) (h : Q (.bool (isOdd wd)) s) : wpAny (model prog w) A (compareOp .In v (.ref a)) Q E s := by
  refine kqd_isIn (xs := [_, _]) (ds := oddL) (n₁ := []) N ma rfl rfl (.cons (.str _ _) (.cons (.str _ _) .nil)) (fun _ h => nomatch h) hv hs ?_ ?_ hu ?_
  · intro d hd
    simp only [List.mem_cons, List.not_mem_nil, or_false] at hd
    rcases hd with rfl | rfl
    · exact okD .noEq
    · exact okD .noValue
  · exact okD wd
  · have e : decide (wd.dat ∈ oddL) = isOdd wd := by
      cases ho : isOdd wd with
      | true => exact decide_eq_true ((odd_mem wd).1 ho)
      | false => exact decide_eq_false ((odd_mem wd).2 ho)
    rw [e]; exact h
theorem words_end {news : List (Addr × Obj)} {ys : List Value} {ws : List Word} {wd : Word} (h : DatAll news ys (ws.map Word.dat)) (hl : ws.getLast? = some wd) : ∃ ys1 yl, ys = ys1 ++ [yl] ∧ DatIn news yl wd.dat := by
  obtain ⟨ws1, rfl⟩ := List.getLast?_eq_some_iff.mp hl
  have hne : ys ≠ [] := by
    intro e; subst e
    have := h.length; simp at this
  obtain ⟨ys1, yl, rfl⟩ : ∃ ys1 yl, ys = ys1 ++ [yl] := ⟨ys.dropLast, ys.getLast hne, (List.dropLast_concat_getLast hne).symm⟩
  obtain ⟨es, d, e, _, h2⟩ := h.snoc
  rw [List.map_append] at e
  have : d = wd.dat := by
    have := congrArg List.getLast? e
    simpa using this.symm
  subst this
  exact ⟨ys1, yl, rfl, h2⟩
theorem eq_place_str {prog : Program} {w : World} {A : Around} {E : Value → Shared → Prop} {s : Shared} {h₀ : Heap} {L a : Addr} {news : List (Addr × Obj)} {x y : Int} {t1 t2 t : Tok} {n : Nat} {z : Str} {Q : Value → Shared → Prop} (N : News h₀ L s.heap news)
    (hm : (a, ({ cls := .type "tuple", data := .seq #[.int x t1, .int y t2] n } : Obj)) ∈ news) (hz : PyData.strOk z = true) (hu : A.units + 64 < cLine) (h : Q (.bool false) s) : wpAny (model prog w) A (compareOp .Eq (.ref a) (.str z t)) Q E s := by
  obtain ⟨as, ra⟩ := kqd_in N 8 (dat_pair hm (.int x t1) (.int y t2)) rfl
  have la := kqd_lay 8 (.tuple [.int x, .int y]) rfl
  have lb := kqd_lay 8 (.str z) (by simpa [kqdOk] using hz)
  refine eq_dataH ra (Reads.str z t) ?_ ?_ hu ?_
  · unfold SeqAt.shaped; rw [la.1, Bool.true_and]; exact decide_eq_true (Nat.le_trans la.2 (by decide))
  · have e : kqdP (.str z) = .str z := by rw [kqdP]
    rw [e] at lb
    unfold SeqAt.shaped; rw [lb.1, Bool.true_and]; exact decide_eq_true (Nat.le_trans lb.2 (by decide))
  · have e : PyData.eqv (kqdP (.tuple [.int x, .int y])) (.str z) = false := by rw [kqdP]; rfl
    rw [e]; exact h
theorem ints_snoc {ys : List Value} {ns : List Int} {n : Int} (h : IntsAre ys (ns ++ [n])) : ∃ ys1 t, ys = ys1 ++ [.int n t] ∧ IntsAre ys1 ns := by
  induction ns generalizing ys with
  | nil => cases h with | cons _ t r => cases r; exact ⟨[], t, rfl, .nil⟩
  | cons a ns ih =>
    cases h with
    | cons _ t r =>
      obtain ⟨ys1, t', rfl, h'⟩ := ih r
      exact ⟨.int a t :: ys1, t', rfl, .cons _ _ h'⟩
theorem row_at {i0 i1 i2 : Addr} {n0 n1 n2 : Nat} {v0 v1 v2 : List Value} {r0 r1 r2 : List Item} {news : List (Addr × Obj)} {line : Int}
    (h0 : (i0, listOf v0.toArray n0) ∈ news) (h1 : (i1, listOf v1.toArray n1) ∈ news) (h2 : (i2, listOf v2.toArray n2) ∈ news) (d0 : DatAll news v0 (r0.map Item.dat)) (d1 : DatAll news v1 (r1.map Item.dat)) (d2 : DatAll news v2 (r2.map Item.dat)) (hl : 1 ≤ line ∧ line ≤ 3) :
    ∃ ia na va r, ([.ref i0, .ref i1, .ref i2] : List Value)[(line - 1).toNat]? = some (.ref ia) ∧ (ia, listOf va.toArray na) ∈ news ∧ DatAll news va (r.map Item.dat) ∧ [r0, r1, r2].getD (line - 1).toNat [] = r ∧ r ∈ [r0, r1, r2] := by
  have h : line = 1 ∨ line = 2 ∨ line = 3 := by omega
  rcases h with rfl | rfl | rfl
  · exact ⟨_, _, _, _, rfl, h0, d0, rfl, by simp⟩
  · exact ⟨_, _, _, _, rfl, h1, d1, rfl, by simp⟩
  · exact ⟨_, _, _, _, rfl, h2, d2, rfl, by simp⟩
theorem ret_as {ds ds' : List Dat} {news : List (Addr × Obj)} {h₀ : Heap} {L : Addr} {m : Str → Option Value} {s : Shared} {Q : Value → Shared → Prop} (e : ds = ds') (hret : ∀ r nx h' tk', Fr h₀ L h' m → News h₀ L h' nx → RetW news (.list ds) nx r → Q r { s with heap := h', toks := tk' }) :
    ∀ r nx h' tk', Fr h₀ L h' m → News h₀ L h' nx → RetW news (.list ds') nx r → Q r { s with heap := h', toks := tk' } := e ▸ hret
theorem due_end {h₀ : Heap} {L I lw li aR aS aC D D2 D3 : Addr} {oI oR oS oC oD2 oD3 : Obj} {nw i c : Nat} {news rest : List (Addr × Obj)} {s₁ s₂ : Shared} {Q : Flow → Shared → Prop} {m' : Str → Option Value} {us : List Value} {pre : List Dat} {rows : List (List Item)} {line0 col0 turn pl pc : Int} {s0 s1 t1 t2 : Tok} {vR vS : Option Value}
    (F : Fr h₀ L s₂.heap m') (N : News h₀ L s₂.heap ((D, ({ cls := .type "tuple", data := .seq #[.int pl s0, .int pc s1] c } : Obj)) :: (D3, oD3) :: (D2, oD2) :: (I, oI) :: (lw, listOf (us ++ [Value.ref D]).toArray nw) :: (aR, oR) :: (aS, oS) :: (aC, oC) :: rest))
    (e : s₂ = { s₁ with heap := s₂.heap, toks := s₂.toks }) (b1 : m' (PySem.Str.ofString "walked") = some (.ref lw)) (b2 : m' (PySem.Str.ofString "items") = some (.ref li)) (b3 : m' (PySem.Str.ofString "line") = some (.int pl t1))
    (dR : oR.data = .cell vR) (dS : oS.data = .cell vS) (dC : oC.data = .cell (some (.int pc t2))) (du : DatAll rest us pre) (hW : WalkAt (duStep rows) line0 col0 turn (i + 1) pl pc (pre ++ [.tuple [.int pl, .int pc]])) (hok : 1 ≤ pl ∧ pl ≤ 4)
    (hr0 : ∀ p ∈ news, p ∈ rest) (e0 : ∀ p ∈ rest, p.1 ≠ lw) (e1 : ∀ p ∈ rest, p.1 ≠ aR) (e2 : ∀ p ∈ rest, p.1 ≠ aS) (e3 : ∀ p ∈ rest, p.1 ≠ aC) (hro : ∀ p ∈ rest, p ∈ news ∨ @LT.lt Nat _ aC p.1)
    (hDl : @LT.lt Nat _ lw D ∧ @LT.lt Nat _ aR D ∧ @LT.lt Nat _ aS D ∧ @LT.lt Nat _ aC D) (hDI : @LT.lt Nat _ I D) (y0 : @Ne Nat lw I) (y1 : @Ne Nat aR I) (y2 : @Ne Nat aS I) (y3 : @Ne Nat aC I) (yr : ∀ p ∈ rest, p.1 ≠ I) :
    PostX h₀ L I oI [] (dueJ lw li aC aS aR rows line0 col0 turn news (i + 1)) s₁ Q .next s₂ := by
  refine postX_next F (nx := (lw, listOf (us ++ [Value.ref D]).toArray nw) :: (aR, oR) :: (aS, oS) :: (aC, oC) :: (D, ({ cls := .type "tuple", data := .seq #[.int pl s0, .int pc s1] c } : Obj)) :: rest) (fun p hp => N p ?_) e ?_ (fun _ h => nomatch h) ⟨us ++ [Value.ref D], nw, oR, oS, oC, vR, vS, pl, pc, t1, t2, _, (D, _) :: rest, rfl, dR, dS, dC, ?_, hW, hok, ?_, ?_, ?_, ?_, ?_, ?_, b1, b2, b3⟩
  · simp only [List.mem_cons] at hp ⊢
    rcases hp with h | h | h | h | h | h | h <;> simp [h]
  · exact List.forall_mem_cons.mpr ⟨y0, List.forall_mem_cons.mpr ⟨y1, List.forall_mem_cons.mpr ⟨y2, List.forall_mem_cons.mpr ⟨y3, List.forall_mem_cons.mpr ⟨Nat.ne_of_gt hDI, yr⟩⟩⟩⟩⟩
  · exact (du.mono fun p hp => .tail _ hp).append (.one (dat_pair (.head _) (.int _ _) (.int _ _)))
  · exact fun p hp => .tail _ (hr0 p hp)
  · exact List.forall_mem_cons.mpr ⟨Nat.ne_of_gt hDl.1, e0⟩
  · exact List.forall_mem_cons.mpr ⟨Nat.ne_of_gt hDl.2.1, e1⟩
  · exact List.forall_mem_cons.mpr ⟨Nat.ne_of_gt hDl.2.2.1, e2⟩
  · exact List.forall_mem_cons.mpr ⟨Nat.ne_of_gt hDl.2.2.2, e3⟩
  · exact List.forall_mem_cons.mpr ⟨.inr hDl.2.2.2, hro⟩
theorem due_tells {w : World} (li i0 i1 i2 : Addr) (n3 n0 n1 n2 : Nat) (v0 v1 v2 : List Value) (r0 r1 r2 : List Item) (line col turn : Int) (tl tc tt : Tok) (news : List (Addr × Obj)) (hli : (li, listOf #[.ref i0, .ref i1, .ref i2] n3) ∈ news)
    (h0 : (i0, listOf v0.toArray n0) ∈ news) (h1 : (i1, listOf v1.toArray n1) ∈ news) (h2 : (i2, listOf v2.toArray n2) ∈ news) (d0 : DatAll news v0 (r0.map Item.dat)) (d1 : DatAll news v1 (r1.map Item.dat)) (d2 : DatAll news v2 (r2.map Item.dat))
    (hok : ∀ r ∈ [r0, r1, r2], r.length ≤ 1000 ∧ ∀ it ∈ r, WordOk it.word) (hln : 1 ≤ line ∧ line ≤ 4) (htn : 0 ≤ turn ∧ turn ≤ 1) :
    Tells w 78 12 [.ref li, .int line tl, .int col tc, .int turn tt] news (RetW news (.list (dueP [r0, r1, r2] line col turn))) := by
  revert w li i0 i1 i2 n3 n0 n1 n2 v0 v1 v2 r0 r1 r2 line col turn tl tc tt news
  refine no_implicit_lambda% (closedW ?_)
  with_reducible generalize wit _ _ = w
  refine no_implicit_lambda% (@id (Unit → Unit → Unit → _) ?_ () () ())
  refine no_implicit_lambda% (closed24 ?_)
  with_reducible generalize wit _ _ = tQ
  with_reducible generalize Prod.fst (Prod.snd (Prod.snd (Prod.snd (tQ)))) = li
  with_reducible generalize Prod.fst (Prod.snd (Prod.snd (Prod.snd (Prod.snd (tQ))))) = i0
  with_reducible generalize Prod.fst (Prod.snd (Prod.snd (Prod.snd (Prod.snd (Prod.snd (tQ)))))) = i1
  with_reducible generalize Prod.fst (Prod.snd (Prod.snd (Prod.snd (Prod.snd (Prod.snd (Prod.snd (tQ))))))) = i2
  with_reducible generalize Prod.fst (Prod.snd (Prod.snd (Prod.snd (Prod.snd (Prod.snd (Prod.snd (Prod.snd (tQ)))))))) = n3
  with_reducible generalize Prod.fst (Prod.snd (Prod.snd (Prod.snd (Prod.snd (Prod.snd (Prod.snd (Prod.snd (Prod.snd (tQ))))))))) = n0
  with_reducible generalize Prod.fst (Prod.snd (Prod.snd (Prod.snd (Prod.snd (Prod.snd (Prod.snd (Prod.snd (Prod.snd (Prod.snd (tQ)))))))))) = n1
  with_reducible generalize Prod.fst (Prod.snd (Prod.snd (Prod.snd (Prod.snd (Prod.snd (Prod.snd (Prod.snd (Prod.snd (Prod.snd (Prod.snd (tQ))))))))))) = n2
  with_reducible generalize Prod.fst (Prod.snd (Prod.snd (Prod.snd (Prod.snd (Prod.snd (Prod.snd (Prod.snd (Prod.snd (Prod.snd (Prod.snd (Prod.snd (tQ)))))))))))) = v0
  with_reducible generalize Prod.fst (Prod.snd (Prod.snd (Prod.snd (Prod.snd (Prod.snd (Prod.snd (Prod.snd (Prod.snd (Prod.snd (Prod.snd (Prod.snd (Prod.snd (tQ))))))))))))) = v1
  with_reducible generalize Prod.fst (Prod.snd (Prod.snd (Prod.snd (Prod.snd (Prod.snd (Prod.snd (Prod.snd (Prod.snd (Prod.snd (Prod.snd (Prod.snd (Prod.snd (Prod.snd (tQ)))))))))))))) = v2
  with_reducible generalize Prod.fst (Prod.snd (Prod.snd (Prod.snd (Prod.snd (Prod.snd (Prod.snd (Prod.snd (Prod.snd (Prod.snd (Prod.snd (Prod.snd (Prod.snd (Prod.snd (Prod.snd (tQ))))))))))))))) = r0
  with_reducible generalize Prod.fst (Prod.snd (Prod.snd (Prod.snd (Prod.snd (Prod.snd (Prod.snd (Prod.snd (Prod.snd (Prod.snd (Prod.snd (Prod.snd (Prod.snd (Prod.snd (Prod.snd (Prod.snd (tQ)))))))))))))))) = r1
  with_reducible generalize Prod.fst (Prod.snd (Prod.snd (Prod.snd (Prod.snd (Prod.snd (Prod.snd (Prod.snd (Prod.snd (Prod.snd (Prod.snd (Prod.snd (Prod.snd (Prod.snd (Prod.snd (Prod.snd (Prod.snd (tQ))))))))))))))))) = r2
  with_reducible generalize Prod.fst (Prod.snd (Prod.snd (Prod.snd (Prod.snd (Prod.snd (Prod.snd (Prod.snd (Prod.snd (Prod.snd (Prod.snd (Prod.snd (Prod.snd (Prod.snd (Prod.snd (Prod.snd (Prod.snd (Prod.snd (tQ)))))))))))))))))) = line
  with_reducible generalize Prod.fst (Prod.snd (Prod.snd (Prod.snd (Prod.snd (Prod.snd (Prod.snd (Prod.snd (Prod.snd (Prod.snd (Prod.snd (Prod.snd (Prod.snd (Prod.snd (Prod.snd (Prod.snd (Prod.snd (Prod.snd (Prod.snd (tQ))))))))))))))))))) = col
  with_reducible generalize Prod.fst (Prod.snd (Prod.snd (Prod.snd (Prod.snd (Prod.snd (Prod.snd (Prod.snd (Prod.snd (Prod.snd (Prod.snd (Prod.snd (Prod.snd (Prod.snd (Prod.snd (Prod.snd (Prod.snd (Prod.snd (Prod.snd (Prod.snd (tQ)))))))))))))))))))) = turn
  with_reducible generalize Prod.fst (Prod.snd (Prod.snd (Prod.snd (Prod.snd (Prod.snd (Prod.snd (Prod.snd (Prod.snd (Prod.snd (Prod.snd (Prod.snd (Prod.snd (Prod.snd (Prod.snd (Prod.snd (Prod.snd (Prod.snd (Prod.snd (Prod.snd (Prod.snd (tQ))))))))))))))))))))) = tl
  with_reducible generalize Prod.fst (Prod.snd (Prod.snd (Prod.snd (Prod.snd (Prod.snd (Prod.snd (Prod.snd (Prod.snd (Prod.snd (Prod.snd (Prod.snd (Prod.snd (Prod.snd (Prod.snd (Prod.snd (Prod.snd (Prod.snd (Prod.snd (Prod.snd (Prod.snd (Prod.snd (tQ)))))))))))))))))))))) = tc
  with_reducible generalize Prod.fst (Prod.snd (Prod.snd (Prod.snd (Prod.snd (Prod.snd (Prod.snd (Prod.snd (Prod.snd (Prod.snd (Prod.snd (Prod.snd (Prod.snd (Prod.snd (Prod.snd (Prod.snd (Prod.snd (Prod.snd (Prod.snd (Prod.snd (Prod.snd (Prod.snd (Prod.snd (tQ))))))))))))))))))))))) = tt
  with_reducible generalize Prod.snd (Prod.snd (Prod.snd (Prod.snd (Prod.snd (Prod.snd (Prod.snd (Prod.snd (Prod.snd (Prod.snd (Prod.snd (Prod.snd (Prod.snd (Prod.snd (Prod.snd (Prod.snd (Prod.snd (Prod.snd (Prod.snd (Prod.snd (Prod.snd (Prod.snd (Prod.snd (tQ))))))))))))))))))))))) = news
  clear tQ
  intro hli h0 h1 h2 d0 d1 d2 hok hln htn
  refine tells_close ?_
  unfold TellsAt
  with_reducible generalize TV.p _ = p
  with_reducible generalize TV.loose _ = loose
  with_reducible generalize TV.mean _ = mean
  with_reducible generalize TV.mg _ = mg
  with_reducible generalize TV.mb _ = mb
  with_reducible generalize TV.dp _ = dp
  with_reducible generalize TV.un _ = un
  with_reducible generalize TV.gd _ = gd
  with_reducible generalize TV.cn _ = cn
  with_reducible generalize TV.cs _ = cs
  with_reducible generalize TV.a _ = a
  with_reducible generalize TV.ccd _ = ccd
  with_reducible generalize TV.cl _ = cl
  with_reducible generalize TV.outer _ = outer
  with_reducible generalize TV.A₀ _ = A₀
  with_reducible generalize TV.base _ = base
  with_reducible generalize TV.h₀ _ = h₀
  with_reducible generalize TV.L _ = L
  with_reducible generalize TV.m _ = m
  with_reducible generalize TV.s _ = s
  with_reducible generalize TV.Q _ = Q
  with_reducible generalize TV.E _ = E
  k_fill
  intro X B F N T hk hdp hun hret
  refine wpAny_call ?_
  k_dflt (walk_at "enter cells")
  rename_i g' L' h' tk' FG' F' B' X' T' l1 oR oS oC dR dS dC N'
  replace F' : Fr g' L' h' (fun y => if y = PySem.Str.ofString "turn" then some (.int turn tt) else if y = PySem.Str.ofString "line" then some (.int line tl) else if y = PySem.Str.ofString "items" then some (.ref li) else none) := F'
  replace dR : oR.data = .cell none := dR
  replace dS : oS.data = .cell none := dS
  replace dC : oC.data = .cell (some (.int col tc)) := dC
  k_steps
  rename_i lw _ l2 _ _ _ _ _ _ _ _ hR F1 N1 _
  refine Stop.mk ?_
  rename_i yA79 yA81 yA82 yA83 yA85 yA86 yA87 yA88 yA89 yA93
  clear yA79 tk' h'
  revert FG' B' X' T' l1 dR dS dC l2 yA82 yA83 hR F1 N1 yA93
  revert g' L' oR oS oC lw yA81 tk yA85 yA86 yA87 yA88 yA89
  refine no_implicit_lambda% (@id (Unit → _) ?_ ())
  refine no_implicit_lambda% (closed14 ?_)
  with_reducible generalize wit _ _ = tQ
  with_reducible generalize Prod.fst (Prod.snd (tQ)) = g'
  with_reducible generalize Prod.fst (Prod.snd (Prod.snd (tQ))) = L'
  with_reducible generalize Prod.fst (Prod.snd (Prod.snd (Prod.snd (tQ)))) = oR
  with_reducible generalize Prod.fst (Prod.snd (Prod.snd (Prod.snd (Prod.snd (tQ))))) = oS
  with_reducible generalize Prod.fst (Prod.snd (Prod.snd (Prod.snd (Prod.snd (Prod.snd (tQ)))))) = oC
  with_reducible generalize Prod.fst (Prod.snd (Prod.snd (Prod.snd (Prod.snd (Prod.snd (Prod.snd (tQ))))))) = lw
  with_reducible generalize Prod.fst (Prod.snd (Prod.snd (Prod.snd (Prod.snd (Prod.snd (Prod.snd (Prod.snd (tQ)))))))) = yA81
  with_reducible generalize Prod.fst (Prod.snd (Prod.snd (Prod.snd (Prod.snd (Prod.snd (Prod.snd (Prod.snd (Prod.snd (tQ))))))))) = tk
  with_reducible generalize Prod.fst (Prod.snd (Prod.snd (Prod.snd (Prod.snd (Prod.snd (Prod.snd (Prod.snd (Prod.snd (Prod.snd (tQ)))))))))) = yA85
  with_reducible generalize Prod.fst (Prod.snd (Prod.snd (Prod.snd (Prod.snd (Prod.snd (Prod.snd (Prod.snd (Prod.snd (Prod.snd (Prod.snd (tQ))))))))))) = yA86
  with_reducible generalize Prod.fst (Prod.snd (Prod.snd (Prod.snd (Prod.snd (Prod.snd (Prod.snd (Prod.snd (Prod.snd (Prod.snd (Prod.snd (Prod.snd (tQ)))))))))))) = yA87
  with_reducible generalize Prod.fst (Prod.snd (Prod.snd (Prod.snd (Prod.snd (Prod.snd (Prod.snd (Prod.snd (Prod.snd (Prod.snd (Prod.snd (Prod.snd (Prod.snd (tQ))))))))))))) = yA88
  with_reducible generalize Prod.snd (Prod.snd (Prod.snd (Prod.snd (Prod.snd (Prod.snd (Prod.snd (Prod.snd (Prod.snd (Prod.snd (Prod.snd (Prod.snd (Prod.snd (tQ))))))))))))) = yA89
  clear tQ
  intro FG' B' X' T' l1 dR dS dC l2 _ _ hR F1 N1 _
  refine iter_rangeX (n := 3) (dueJ lw li (L' + 1) (L' + 1 + 1) (L' + 1 + 1 + 1) [r0, r1, r2] line col turn news) (by passes_own) rfl hR ?sm ?rs F1 N1 ?hj ?turn ?done
  case sm => exact small_one (by omega) (by omega) (by omega) (by omega)
  case rs => unfold Builtin.Range.rangeSize; simp only [show (1 : Int) > 0 from by decide, if_true, Int.ediv_one]; split <;> omega
  case hj =>
    exact ⟨[], 0, oR, oS, oC, none, none, line, col, tl, tc, [], news, rfl, dR, dS, dC, .nil, WalkAt.start, hln, fun _ h => h, ne_above l2.2.2.2 (Nat.le_refl _), (fun p hp => Nat.ne_of_lt (Nat.lt_trans (l1 p hp) (by omega))), (fun p hp => Nat.ne_of_lt (Nat.lt_trans (l1 p hp) (by omega))), (fun p hp => Nat.ne_of_lt (Nat.lt_trans (l1 p hp) (by omega))), (fun p hp => .inl hp), rfl, rfl, rfl⟩

  case turn =>
    rintro I i tk0 m₁ nx h tk oI hI hi hne ⟨us, nw, oR, oS, oC, vR, vS, ln, cl1, t1, t2, pre, rest, rfl, dR, dS, dC, du, hW, hln, hr0, e0, e1, e2, e3, hro, b1, b2, b3⟩ F2 N2
    have F3 := fr_puts F2 (.cons b1 (.cons b2 (.cons b3 .nil)))
    simp only [putsM] at F3
    clear F2 F1 N1 b1 b2 b3
    have hus : us.length ≤ 3 := by rw [du.length, hW.2.1]; exact hW.1
    have y0 : @Ne Nat lw I := hne _ (.head _)
    have y1 : @Ne Nat (L' + 1 + 1 + 1) I := hne _ (.tail _ (.head _))
    have y2 : @Ne Nat (L' + 1 + 1) I := hne _ (.tail _ (.tail _ (.head _)))
    have y3 : @Ne Nat (L' + 1) I := hne _ (.tail _ (.tail _ (.tail _ (.head _))))
    have yr : ∀ p ∈ rest, p.1 ≠ I := fun p hp => hne _ (.tail _ (.tail _ (.tail _ (.tail _ hp))))
    dsimp only
    revert hI hi hne dR dS dC du hW hln hr0 e0 e1 e2 e3 hro N2 F3 hus y0 y1 y2 y3 yr
    revert I i tk0 m₁ h tk oI us nw oR oS oC vR vS ln cl1 t1 t2 pre rest
    refine no_implicit_lambda% (@id (Unit → Unit → Unit → Unit → _) ?_ () () () ())
    refine no_implicit_lambda% (closed24 ?_)
    with_reducible generalize wit _ _ = tQ
    with_reducible generalize Prod.fst (Prod.snd (Prod.snd (Prod.snd (Prod.snd (tQ))))) = I
    with_reducible generalize Prod.fst (Prod.snd (Prod.snd (Prod.snd (Prod.snd (Prod.snd (tQ)))))) = i
    with_reducible generalize Prod.fst (Prod.snd (Prod.snd (Prod.snd (Prod.snd (Prod.snd (Prod.snd (tQ))))))) = tk0
    with_reducible generalize Prod.fst (Prod.snd (Prod.snd (Prod.snd (Prod.snd (Prod.snd (Prod.snd (Prod.snd (tQ)))))))) = m₁
    with_reducible generalize Prod.fst (Prod.snd (Prod.snd (Prod.snd (Prod.snd (Prod.snd (Prod.snd (Prod.snd (Prod.snd (tQ))))))))) = h
    with_reducible generalize Prod.fst (Prod.snd (Prod.snd (Prod.snd (Prod.snd (Prod.snd (Prod.snd (Prod.snd (Prod.snd (Prod.snd (tQ)))))))))) = tk
    with_reducible generalize Prod.fst (Prod.snd (Prod.snd (Prod.snd (Prod.snd (Prod.snd (Prod.snd (Prod.snd (Prod.snd (Prod.snd (Prod.snd (tQ))))))))))) = oI
    with_reducible generalize Prod.fst (Prod.snd (Prod.snd (Prod.snd (Prod.snd (Prod.snd (Prod.snd (Prod.snd (Prod.snd (Prod.snd (Prod.snd (Prod.snd (tQ)))))))))))) = us
    with_reducible generalize Prod.fst (Prod.snd (Prod.snd (Prod.snd (Prod.snd (Prod.snd (Prod.snd (Prod.snd (Prod.snd (Prod.snd (Prod.snd (Prod.snd (Prod.snd (tQ))))))))))))) = nw
    with_reducible generalize Prod.fst (Prod.snd (Prod.snd (Prod.snd (Prod.snd (Prod.snd (Prod.snd (Prod.snd (Prod.snd (Prod.snd (Prod.snd (Prod.snd (Prod.snd (Prod.snd (tQ)))))))))))))) = oR
    with_reducible generalize Prod.fst (Prod.snd (Prod.snd (Prod.snd (Prod.snd (Prod.snd (Prod.snd (Prod.snd (Prod.snd (Prod.snd (Prod.snd (Prod.snd (Prod.snd (Prod.snd (Prod.snd (tQ))))))))))))))) = oS
    with_reducible generalize Prod.fst (Prod.snd (Prod.snd (Prod.snd (Prod.snd (Prod.snd (Prod.snd (Prod.snd (Prod.snd (Prod.snd (Prod.snd (Prod.snd (Prod.snd (Prod.snd (Prod.snd (Prod.snd (tQ)))))))))))))))) = oC
    with_reducible generalize Prod.fst (Prod.snd (Prod.snd (Prod.snd (Prod.snd (Prod.snd (Prod.snd (Prod.snd (Prod.snd (Prod.snd (Prod.snd (Prod.snd (Prod.snd (Prod.snd (Prod.snd (Prod.snd (Prod.snd (tQ))))))))))))))))) = vR
    with_reducible generalize Prod.fst (Prod.snd (Prod.snd (Prod.snd (Prod.snd (Prod.snd (Prod.snd (Prod.snd (Prod.snd (Prod.snd (Prod.snd (Prod.snd (Prod.snd (Prod.snd (Prod.snd (Prod.snd (Prod.snd (Prod.snd (tQ)))))))))))))))))) = vS
    with_reducible generalize Prod.fst (Prod.snd (Prod.snd (Prod.snd (Prod.snd (Prod.snd (Prod.snd (Prod.snd (Prod.snd (Prod.snd (Prod.snd (Prod.snd (Prod.snd (Prod.snd (Prod.snd (Prod.snd (Prod.snd (Prod.snd (Prod.snd (tQ))))))))))))))))))) = ln
    with_reducible generalize Prod.fst (Prod.snd (Prod.snd (Prod.snd (Prod.snd (Prod.snd (Prod.snd (Prod.snd (Prod.snd (Prod.snd (Prod.snd (Prod.snd (Prod.snd (Prod.snd (Prod.snd (Prod.snd (Prod.snd (Prod.snd (Prod.snd (Prod.snd (tQ)))))))))))))))))))) = cl1
    with_reducible generalize Prod.fst (Prod.snd (Prod.snd (Prod.snd (Prod.snd (Prod.snd (Prod.snd (Prod.snd (Prod.snd (Prod.snd (Prod.snd (Prod.snd (Prod.snd (Prod.snd (Prod.snd (Prod.snd (Prod.snd (Prod.snd (Prod.snd (Prod.snd (Prod.snd (tQ))))))))))))))))))))) = t1
    with_reducible generalize Prod.fst (Prod.snd (Prod.snd (Prod.snd (Prod.snd (Prod.snd (Prod.snd (Prod.snd (Prod.snd (Prod.snd (Prod.snd (Prod.snd (Prod.snd (Prod.snd (Prod.snd (Prod.snd (Prod.snd (Prod.snd (Prod.snd (Prod.snd (Prod.snd (Prod.snd (tQ)))))))))))))))))))))) = t2
    with_reducible generalize Prod.fst (Prod.snd (Prod.snd (Prod.snd (Prod.snd (Prod.snd (Prod.snd (Prod.snd (Prod.snd (Prod.snd (Prod.snd (Prod.snd (Prod.snd (Prod.snd (Prod.snd (Prod.snd (Prod.snd (Prod.snd (Prod.snd (Prod.snd (Prod.snd (Prod.snd (Prod.snd (tQ))))))))))))))))))))))) = pre
    with_reducible generalize Prod.snd (Prod.snd (Prod.snd (Prod.snd (Prod.snd (Prod.snd (Prod.snd (Prod.snd (Prod.snd (Prod.snd (Prod.snd (Prod.snd (Prod.snd (Prod.snd (Prod.snd (Prod.snd (Prod.snd (Prod.snd (Prod.snd (Prod.snd (Prod.snd (Prod.snd (Prod.snd (tQ))))))))))))))))))))))) = rest
    clear tQ
    intro hI hi hne dR dS dC du hW hln hr0 e0 e1 e2 e3 hro N2 F3 hus y0 y1 y2 y3 yr
    k_steps
    · dsimp only [PostX]
      k_steps
      rename News h₀ L _ _ => NF
      rename Fr h₀ L _ _ => FF
      have e := hW.ends hi (duStep_row (by assumption))
      exact led_ret (aC := L' + 1) (ret_as e hret) FF NF (.head _) (by intro p hp; repeat (first | exact hp | refine .tail _ ?_)) hr0 hro (fun p hp => Nat.lt_succ_of_lt (l1 p hp)) (by omega) (du.append (.one (.str _ _)))
    rename Obj => oS2
    obtain ⟨ia, na, va, r, hia, mia, dia, hr, hrm⟩ := row_at (line := ln) h0 h1 h2 d0 d1 d2 (by omega)
    have hli' := hr0 _ hli
    refine' list_item (k := ln - 1) ?kN ?hm ?h0 ?h1 hia ?_
    (case kN => k_asm)
    (case hm => k_mem)
    (case h0 => omega)
    (case h1 => omega)
    replace mia := hr0 _ mia
    replace dia := dia.mono hr0
    obtain ⟨hrl, hrw⟩ := hok r hrm
    have hval : va.length = r.length := by have := dia.length; rwa [List.length_map] at this
    k_steps
    refine Stop.mk ?_
    rename_i _ oR2 _ _ dR2 _ _ _ _ _ hRg FR NR _
    refine LCt.CompSrcT.range (n := va.length) rfl FR NR hRg ?sm2 ?rs2 ?sz2 ?_
    case sm2 => exact small_one (by omega) (by omega) (by omega) (by omega)
    case rs2 => unfold Builtin.Range.rangeSize; simp only [show (1 : Int) > 0 from by decide, if_true, Int.ediv_one]; split <;> omega
    case sz2 => rw [hval]; exact Nat.le_trans hrl (by decide)
    intro g
    refine compT_rest (fun j ys nx => nx = _ ∧ IntsAre ys (foundZ r (abK (turn + i)) cl1 j)) ⟨rfl, .nil⟩ ?_ ?_
    · rintro j v ys nx Ic oIc C oCc D m₂ h tk E' hj ⟨t5, rfl⟩ ⟨rfl, hY⟩ hC hx F4 N4 off ne
      obtain ⟨vk, hvk⟩ : ∃ vk, va[((j : Int)).toNat]? = some vk := ⟨_, List.getElem?_eq_getElem (by simpa using hj)⟩
      obtain ⟨it, hit, hd⟩ := datAll_at dia hvk
      rw [Int.toNat_natCast] at hit
      obtain ⟨ai, ni, s0, s1, s2, u, rfl, mi, hu⟩ := datIn_item hd
      rw [Int.zero_add] at hx
      dsimp only
      clear hRg
      k_steps
      · refine LCg.CompEnd.intro F4 N4 _ (fun p hp => hp) off trivial ⟨rfl, ?_⟩
        rw [foundZ_yes hit (by simpa using (by assumption : (it.key == _) = true)) (by assumption)]
        exact hY.append (.cons _ _ .nil)
      · refine LCg.CompEnd.intro F4 N4 _ (fun p hp => hp) off trivial ⟨rfl, ?_⟩
        rw [foundZ_no hit (fun h => absurd h.2 (by assumption))]
        exact hY
      · refine LCg.CompEnd.intro F4 N4 _ (fun p hp => hp) off trivial ⟨rfl, ?_⟩
        rw [foundZ_no hit (fun h => by have h2 := (by assumption : (it.key == _) = false); rw [h.1, beq_self_eq_true] at h2; cases h2)]
        exact hY
    · rintro ys nx ⟨rfl, hY⟩ D h tk F4 N4 off
      rw [hval, foundZ_full] at hY
      have o1 : @Ne Nat I D := off.1
      have o2 : @Ne Nat lw D := off.2.1
      have o3 : @Ne Nat (L' + 1 + 1 + 1) D := off.2.2.1
      have o4 : @Ne Nat (L' + 1 + 1) D := off.2.2.2.1
      have o5 : @Ne Nat (L' + 1) D := off.2.2.2.2.1
      have oR : ∀ p ∈ rest, @Ne Nat p.1 D := off1_mem off.2.2.2.2.2
      clear off hRg FR NR
      dsimp only
      rename_i yD130 yD132 yD133 _ yD135 yD149 yD151 yD152 yD154 yD155 yD156 yD157 yD158 yD159
      clear g yD158 yD157 yD156 yD155 yD133 yD130
      revert yD132 hia hr hrm mia dia hrl hrw hval yD151 yD152 dR2 yD159 hY F4 N4 o1 o2 o3 o4 o5 oR
      revert oS2 yD135 ia na va r yD149 oR2 yD154 ys D h tk
      refine no_implicit_lambda% (@id (Unit → _) ?_ ())
      refine no_implicit_lambda% (closed14 ?_)
      with_reducible generalize wit _ _ = tQ
      with_reducible generalize Prod.fst (Prod.snd (tQ)) = oS2
      with_reducible generalize Prod.fst (Prod.snd (Prod.snd (tQ))) = yD135
      with_reducible generalize Prod.fst (Prod.snd (Prod.snd (Prod.snd (tQ)))) = ia
      with_reducible generalize Prod.fst (Prod.snd (Prod.snd (Prod.snd (Prod.snd (tQ))))) = na
      with_reducible generalize Prod.fst (Prod.snd (Prod.snd (Prod.snd (Prod.snd (Prod.snd (tQ)))))) = va
      with_reducible generalize Prod.fst (Prod.snd (Prod.snd (Prod.snd (Prod.snd (Prod.snd (Prod.snd (tQ))))))) = r
      with_reducible generalize Prod.fst (Prod.snd (Prod.snd (Prod.snd (Prod.snd (Prod.snd (Prod.snd (Prod.snd (tQ)))))))) = yD149
      with_reducible generalize Prod.fst (Prod.snd (Prod.snd (Prod.snd (Prod.snd (Prod.snd (Prod.snd (Prod.snd (Prod.snd (tQ))))))))) = oR2
      with_reducible generalize Prod.fst (Prod.snd (Prod.snd (Prod.snd (Prod.snd (Prod.snd (Prod.snd (Prod.snd (Prod.snd (Prod.snd (tQ)))))))))) = yD154
      with_reducible generalize Prod.fst (Prod.snd (Prod.snd (Prod.snd (Prod.snd (Prod.snd (Prod.snd (Prod.snd (Prod.snd (Prod.snd (Prod.snd (tQ))))))))))) = ys
      with_reducible generalize Prod.fst (Prod.snd (Prod.snd (Prod.snd (Prod.snd (Prod.snd (Prod.snd (Prod.snd (Prod.snd (Prod.snd (Prod.snd (Prod.snd (tQ)))))))))))) = D
      with_reducible generalize Prod.fst (Prod.snd (Prod.snd (Prod.snd (Prod.snd (Prod.snd (Prod.snd (Prod.snd (Prod.snd (Prod.snd (Prod.snd (Prod.snd (Prod.snd (tQ))))))))))))) = h
      with_reducible generalize Prod.snd (Prod.snd (Prod.snd (Prod.snd (Prod.snd (Prod.snd (Prod.snd (Prod.snd (Prod.snd (Prod.snd (Prod.snd (Prod.snd (Prod.snd (tQ))))))))))))) = tk
      clear tQ
      intro _ hia hr hrm mia dia hrl hrw hval _ _ dR2 _ hY F4 N4 o1 o2 o3 o4 o5 oR
      cases hfl : (foundL r (abK (turn + i)) cl1).getLast? with
      | none =>
        have hnil := List.getLast?_eq_none_iff.mp hfl
        rw [hnil] at hY
        cases hY
        k_steps
        dsimp only [PostX]
        k_steps
        rename News h₀ L _ _ => NF
        rename Fr h₀ L _ _ => FF
        have e := hW.ends hi (duStep_item (by assumption) hr hfl)
        exact led_ret (aC := L' + 1) (ret_as e hret) FF NF (.head _) (by intro p hp; repeat (first | exact hp | refine .tail _ ?_)) hr0 hro (fun p hp => Nat.lt_succ_of_lt (l1 p hp)) (by omega) (du.append (.one (.str _ _)))
      | some j =>
        have hj := foundL_lt hfl
        obtain ⟨fs, hfs⟩ := List.getLast?_eq_some_iff.mp hfl
        rw [hfs, List.map_append] at hY
        have hY2 : IntsAre ys (fs.map (fun (k : Nat) => (k : Int)) ++ [(j : Int)]) := hY
        clear hY
        obtain ⟨ys1, t7, rfl, hY1⟩ := ints_snoc hY2
        clear hY2
        have hyl : ys1.length ≤ 1000 := by
          have h1 := hY1.length
          have h2 := congrArg List.length hfs
          have h3 : (foundL r (abK (turn + i)) cl1).length ≤ r.length := by unfold foundL; exact Nat.le_trans (List.length_filter_le _ _) (by simp)
          rw [List.length_map] at h1
          rw [List.length_append, List.length_singleton] at h2
          omega
        k_steps
        rename News _ _ _ _ => N5
        rename Fr _ _ _ _ => F5
        refine Stop.mk ?_
        rename_i aw _ _
        have ej : ((j : Int) + 1).toNat = j + 1 := by omega
        rw [ej] at N5
        refine LCg.CompSrc.ledger (its := (va.take (j + 1)).toArray) (k := 0) (news := (aw, listOf (va.take (j + 1)).toArray 0) :: (I, oI) :: (lw, listOf us.toArray nw) :: (L' + 1 + 1 + 1, oR2) :: (L' + 1 + 1, oS2) :: (L' + 1, oC) :: rest) rfl F5 (fun p hp => N5 p ?_) (.head _) (by rw [List.size_toArray, List.length_take]; exact Nat.le_trans (Nat.min_le_right _ _) (by rw [hval]; exact Nat.le_trans hrl (by decide))) ?_
        · simp only [List.mem_cons] at hp ⊢
          rcases hp with h | h | h | h | h | h | h <;> simp [h]
        intro g2
        refine comp_rest (fun jj ys nx => nx = _ ∧ DatAll rest ys ((r.take jj).map fun it => it.word.dat)) ⟨rfl, .nil⟩ ?_ ?_
        · rintro jj v ys nx Ic oIc C oCc D2 m₂ h tk E' hjj hv2 ⟨rfl, hY⟩ hC hx F6 N6 off ne
          have hv3 : va[jj]? = some v := by
            have : (va.take (j + 1))[jj]? = some v := by simpa using hv2
            rw [List.getElem?_take] at this
            split at this
            · exact this
            · cases this
          obtain ⟨it, hit, hd⟩ := datAll_at dia hv3
          obtain ⟨ai, ni, s0, s1, s2, u, rfl, mi, hu⟩ := datIn_item hd
          dsimp only
          k_steps
          refine LCg.CompEnd.intro F6 N6 _ (fun p hp => hp) off (.inr ⟨_, .head _, rfl, _, rfl⟩) ⟨rfl, ?_⟩
          rw [List.take_add_one, hit, List.map_append]
          exact hY.append (.one hu)
        · rintro ys nx ⟨rfl, hY⟩ D2 h tk F6 N6 off
          have hws : DatAll rest ys ((wordsP r j).map Word.dat) := by
            have e1 : ((r.take (va.take (j + 1)).toArray.size).map fun it => it.word.dat) = (wordsP r j).map Word.dat := by
              unfold wordsP
              rw [List.map_map, List.size_toArray, List.length_take, hval, Nat.min_eq_left (by omega)]
              rfl
            rw [← e1]; exact hY
          have N7 : News g' L' h ((D2, LCg.lst ys) :: (I, oI) :: (lw, listOf us.toArray nw) :: (L' + 1 + 1 + 1, oR2) :: (L' + 1 + 1, oS2) :: (L' + 1, oC) :: rest) := fun p hp => N6 p (by
            rcases List.mem_cons.mp hp with h | h
            · rw [h]; exact .head _
            · exact .tail _ (.tail _ h))
          have p1 : @Ne Nat I D2 := off.2.1
          have p2 : @Ne Nat lw D2 := off.2.2.1
          have p3 : @Ne Nat (L' + 1 + 1 + 1) D2 := off.2.2.2.1
          have p4 : @Ne Nat (L' + 1 + 1) D2 := off.2.2.2.2.1
          have p5 : @Ne Nat (L' + 1) D2 := off.2.2.2.2.2.1
          have p6 : ∀ p ∈ rest, @Ne Nat p.1 D2 := off1_mem off.2.2.2.2.2.2
          have hyl2 : ys.length ≤ 1000 := by have h1 := hws.length; unfold wordsP at h1; rw [List.length_map, List.length_map, List.length_take] at h1; omega
          clear N6 N5 off hY hY1
          try clear F5
          try clear F4
          dsimp only
          k_steps
          refine Stop.mk ?_
          rename Fr _ _ _ _ => F7
          refine LCt.CompSrcT.ledger (its := ys.toArray) (k := ys.length) rfl F7 N7 (.head _) (by rw [List.size_toArray]; exact Nat.le_trans hyl2 (by decide)) ?_
          intro g3
          rw [List.size_toArray]
          refine compT_rest (fun jj zs nx => nx = _ ∧ DatAll rest zs ((((wordsP r j).take jj).filter isOdd).map Word.dat)) ⟨rfl, .nil⟩ ?_ ?_
          · rintro jj v zs nx Ic oIc C oCc D3 m₂ h tk E' hjj hv2 ⟨rfl, hZ⟩ hC hx F8 N8 off ne
            dsimp only
            obtain ⟨wd, hwd, hvd⟩ := words_get hws (by simpa using hv2 : ys[jj]? = some v)
            k_steps
            refine odd_in (by with_reducible assumption) (.head _) hvd (by kqd_sub) (by show un + 3 + 64 < cLine; omega) ?_
            have ht : (wordsP r j).take (jj + 1) = (wordsP r j).take jj ++ [wd] := by rw [List.take_add_one, hwd]; rfl
            cases ho : isOdd wd with
            | true =>
              k_steps
              with_reducible rename News _ _ _ _ => N9
              with_reducible rename Fr _ _ _ _ => F9
              refine LCg.CompEnd.intro F9 N9 _ (fun p hp => .tail _ hp) off (.inr ⟨_, .head _, rfl, _, rfl⟩) ⟨rfl, ?_⟩
              rw [ht, List.filter_append, List.map_append]
              have e : [wd].filter isOdd = [wd] := by simp [ho]
              rw [e]
              exact hZ.append (.one hvd)
            | false =>
              k_steps
              with_reducible rename News _ _ _ _ => N9
              with_reducible rename Fr _ _ _ _ => F9
              refine LCg.CompEnd.intro F9 N9 _ (fun p hp => .tail _ hp) off (.inr ⟨_, .head _, rfl, _, rfl⟩) ⟨rfl, ?_⟩
              rw [ht, List.filter_append, List.map_append]
              have e : [wd].filter isOdd = [] := by simp [ho]
              rw [e]
              simpa using hZ
          · rintro zs nx ⟨rfl, hZ⟩ D3 h tk F8 N8 off
            have hwl : ys.length = (wordsP r j).length := by have := hws.length; rwa [List.length_map] at this
            rw [hwl, List.take_length] at hZ
            have x1 : @Ne Nat D2 D3 := off.1
            have x2 : @Ne Nat I D3 := off.2.1
            have x3 : @Ne Nat lw D3 := off.2.2.1
            have x4 : @Ne Nat (L' + 1 + 1 + 1) D3 := off.2.2.2.1
            have x5 : @Ne Nat (L' + 1 + 1) D3 := off.2.2.2.2.1
            have x6 : @Ne Nat (L' + 1) D3 := off.2.2.2.2.2.1
            have x7 : ∀ p ∈ rest, @Ne Nat p.1 D3 := off1_mem off.2.2.2.2.2.2
            clear off N7
            try clear F7
            dsimp only
            cases hod : (wordsP r j).filter isOdd with
            | cons wd ows =>
              rw [hod] at hZ
              obtain ⟨vz, zs1, rfl, hz1, hz2⟩ : ∃ vz zs1, zs = vz :: zs1 ∧ DatIn rest vz wd.dat ∧ DatAll rest zs1 (ows.map Word.dat) := by
                cases hZ with | cons a b => exact ⟨_, _, rfl, a, b⟩
              have hzl : zs1.length ≤ 1000 := by
                have h1 := hz2.length
                have h2 := congrArg List.length hod
                have h3 := List.length_filter_le isOdd (wordsP r j)
                rw [List.length_map] at h1
                rw [List.length_cons] at h2
                omega
              k_steps
              dsimp only [PostX]
              k_steps
              rename News h₀ L _ _ => NF
              rename Fr h₀ L _ _ => FF
              have e := hW.ends hi ((duStep_word (by assumption) hr hfl).trans (wordEnd_odd hod))
              exact led_ret (aC := L' + 1) (ret_as e hret) FF NF (.head _) (by intro p hp; repeat (first | exact hp | refine .tail _ ?_)) hr0 hro (fun p hp => Nat.lt_succ_of_lt (l1 p hp)) (by omega) (du.append (.one hz1))
            | nil =>
              rw [hod] at hZ
              cases hZ
              obtain ⟨itj, hitj⟩ : ∃ it, r[j]? = some it := ⟨_, List.getElem?_eq_getElem hj⟩
              have hlast := words_last hitj
              obtain ⟨ys1, yl, rfl, hyw⟩ := words_end hws hlast
              have hyl3 : ys1.length ≤ 1000 := by rw [List.length_append, List.length_singleton] at hyl2; omega
              cases hwj : itj.word with
              | place pl pc =>
                rw [hwj] at hyw hlast
                obtain ⟨ap, np, s0, s1, rfl, mp⟩ := datIn_pair (x := (pl, pc)) hyw
                dsimp only at mp
                k_steps
                refine eq_place_str (by with_reducible assumption) (.tail _ (.tail _ (.tail _ (.tail _ (.tail _ (.tail _ (.tail _ mp))))))) (by kernel_rfl) (by show un + 3 + 64 < cLine; omega) ?_
                k_steps
                with_reducible rename News _ _ _ _ => N9
                with_reducible rename Fr _ _ _ _ => F9
                have e := hW.next hi ((duStep_word (by assumption) hr hfl).trans (wordEnd_place hod hlast))
                have hwok := hrw itj (List.mem_of_getElem? hitj)
                rw [hwj] at hwok
                rw [List.push_toArray] at N9
                exact due_end F9 N9 rfl rfl rfl rfl (by assumption) (by assumption) (by assumption) du e hwok hr0 e0 e1 e2 e3 hro (by omega) (by omega) y0 y1 y2 y3 yr
              | noPlace =>
                rw [hwj] at hyw hlast
                cases hyw
                k_steps
                dsimp only [PostX]
                k_steps
                rename News h₀ L _ _ => NF
                rename Fr h₀ L _ _ => FF
                have e := hW.ends hi ((duStep_word (by assumption) hr hfl).trans (wordEnd_no hod hlast))
                exact led_ret (aC := L' + 1) (ret_as e hret) FF NF (.head _) (by intro p hp; repeat (first | exact hp | refine .tail _ ?_)) hr0 hro (fun p hp => Nat.lt_succ_of_lt (l1 p hp)) (by omega) (du.append (.one (.str _ _)))
              | noValue =>
                rw [hwj] at hyw hlast
                exact absurd (List.mem_filter.mpr ⟨List.mem_of_getLast? hlast, rfl⟩) (by rw [hod]; exact List.not_mem_nil)
              | noEq =>
                rw [hwj] at hyw hlast
                exact absurd (List.mem_filter.mpr ⟨List.mem_of_getLast? hlast, rfl⟩) (by rw [hod]; exact List.not_mem_nil)
  case done =>
    rintro m₁ nx h tk ⟨us, nw, oR, oS, oC, vR, vS, ln, cl1, t1, t2, pre, rest, rfl, dR, dS, dC, du, hW, hln, hr0, e0, e1, e2, e3, hro, b1, b2, b3⟩ F2 N2
    have F3 := fr_puts F2 (.cons b1 .nil)
    simp only [putsM] at F3
    clear F2 F1 N1 b1 b2 b3
    dsimp only
    k_steps
    rename News h₀ L _ _ => NF
    rename Fr h₀ L _ _ => FF
    exact led_ret (aC := L' + 1) (ret_as hW.full hret) FF NF (.head _) (by intro p hp; repeat (first | exact hp | refine .tail _ ?_)) hr0 hro (fun p hp => Nat.lt_succ_of_lt (l1 p hp)) l2.2.2.1 du

end Mine
end

section
open PySem PySem.W PyProof.Rows
set_option maxRecDepth 100000
set_option maxHeartbeats 2400000
namespace Mine
/-- what get_line_col makes of the text v -/
noncomputable def GlcOk (v : Str) (d : Dat ⊕ (Int × Int)) : Prop :=
  (∃ p q l c, Txt.split v (PySem.Str.ofString ".") = [p, q] ∧ PySem.intText? p = some l ∧ PySem.intText? q = some c ∧ p.length ≤ 640 ∧ q.length ≤ 640 ∧ 1 ≤ l ∧ l ≤ 4 ∧ d = .inr (l, c)) ∨
  (∃ p n, Txt.split v (PySem.Str.ofString ".") = [p] ∧ PySem.intText? p = some n ∧ p.length ≤ 640 ∧ d = .inl (.str (PySem.Str.ofString "no place")))
/-- what is said of the key by the parts leads to d -/
noncomputable def SaidOk (parts : List Str) (key : Str) (d : Dat ⊕ (Int × Int)) : Prop :=
  (∀ x ∈ parts, kvP x ≠ .bad) ∧ parts.length ≤ 1000 ∧ (∀ x ∈ parts, x.length ≤ 1000) ∧
  ((keqvOut parts = some "ValueError" ∧ d = .inl (.str (PySem.Str.ofString "no equals sign"))) ∨ (keqvOut parts = some "IndexError" ∧ d = .inl (.str (PySem.Str.ofString "no value"))) ∨
   (keqvOut parts = none ∧ ∀ ps : List (Str × Str), parts.map kvP = ps.map (fun p => KvR.pair p.1 p.2) → ∃ v, PySem.Spec.lookup (PyData.str key) (dD ps) = some (.str v) ∧ v.length ≤ 1000 ∧ GlcOk v d))
/-- the step from line and col with the key: by the row's text it is what the table says -/
noncomputable def StepOk (row : Row) (key : Str) (col : Int) (d : Dat ⊕ (Int × Int)) : Prop :=
  match revP (hitsOf key row.2) col with
  | none => d = .inl (.str (PySem.Str.ofString "no item"))
  | some h => 0 ≤ h.2 ∧ h.2 ≤ 1000 ∧ SaidOk (httpList (Txt.slice row.1 none (some h.2))) key d
end Mine
end

section
open PySem PySem.W PyProof.Rows PySem.Spec PySem.Calls
set_option maxRecDepth 100000
set_option maxHeartbeats 4000000
namespace Mine
/-- as Tells, from a frame below which no other stands; what is called may catch -/
noncomputable def TellsT (w : World) (f : Addr) (k : Nat) (vs : List Value) (news : List (Addr × Obj)) (R : List (Addr × Obj) → Value → Prop) : Prop :=
  ∀ (p : Program) (loose : List Str) (mean : ExcName → Option Value) (mg mb : Str → Option Value) (dp un : Nat) (gd : Option (List Code)) (cn : Str) (cs : Scope) (a : Addr) (ccd : Value) (cl : List (Str × Addr)) (A₀ : Around) (base h₀ : Heap) (L : Addr) (m : Str → Option Value) (s : Shared)
    (Q E : Value → Shared → Prop), (Mine.hd.heap_39 w.params).In h₀ → (Mine.hd.heap_39 w.params).In base → Below A₀ base [] h₀ → Fr h₀ L s.heap m → News h₀ L s.heap news → Top p loose mean mg mb h₀ → Top p loose mean mg mb base → cs.kind = .function → dp + k < recursionLimit → un + 8 * k < cLine →
    (∀ r nx h' tk', Fr h₀ L h' m → News h₀ L h' nx → R nx r → Q r { s with heap := h', toks := tk' }) →
    wpAny (model PySem.Challenge.rw_mq0134_01.row.prog w) (ktrTop dp un gd cn cs L a ccd cl []) (call (.ref f) vs) Q E s
noncomputable def TellsTAt (w : World) (f : Addr) (k : Nat) (vs : List Value) (news : List (Addr × Obj)) (R : List (Addr × Obj) → Value → Prop) (v : TV) : Prop :=
  (Mine.hd.heap_39 w.params).In v.h₀ → (Mine.hd.heap_39 w.params).In v.base → Below v.A₀ v.base [] v.h₀ → Fr v.h₀ v.L v.s.heap v.m → News v.h₀ v.L v.s.heap news → Top v.p v.loose v.mean v.mg v.mb v.h₀ → Top v.p v.loose v.mean v.mg v.mb v.base → v.cs.kind = .function → v.dp + k < recursionLimit → v.un + 8 * k < cLine →
    (∀ r nx h' tk', Fr v.h₀ v.L h' v.m → News v.h₀ v.L h' nx → R nx r → v.Q r { v.s with heap := h', toks := tk' }) →
    wpAny (model PySem.Challenge.rw_mq0134_01.row.prog w) (ktrTop v.dp v.un v.gd v.cn v.cs v.L v.a v.ccd v.cl []) (call (.ref f) vs) v.Q v.E v.s
theorem tellsT_close {w : World} {f : Addr} {k : Nat} {vs : List Value} {news : List (Addr × Obj)} {R : List (Addr × Obj) → Value → Prop} (h : TellsTAt w f k vs news R (wit neTV (TellsTAt w f k vs news R))) : TellsT w f k vs news R :=
  fun p loose mean mg mb dp un gd cn cs a ccd cl A₀ base h₀ L m s Q E => closed' neTV h ⟨p, loose, mean, mg, mb, dp, un, gd, cn, cs, a, ccd, cl, [], A₀, base, h₀, L, m, s, Q, E⟩
section
variable {prog : Program} {w : World} {A₀ A : Around} {s : Shared} {base h₀ : Heap} {L a : Addr} {m : Str → Option Value} {cn : Str} {cs : Scope} {ccd : Value} {cl : List (Str × Addr)} {news : List (Addr × Obj)} {K : Frag} {p : Program} {loose : List Str} {mean : ExcName → Option Value} {mg mb : Str → Option Value}
    {R : Result → Shared → Prop} {name qual : Str} {params : Arguments} {body : List Stmt} {scope : Scope} {dV kV doc pm cdv ct oc : Value} {an od : Option Addr} {osl : Array (Option Value)} {f : Addr} {args : Args} {binds : List (Str × Value)}
/-- a def without cells, entered from a frame that may have cells; what it catches turns that frame's slots alone -/
theorem enterX0 (B : Below A₀ base [] h₀) (F : Fr h₀ L s.heap m) (X₀ : K.In h₀) (N : News h₀ L s.heap news) (T : Top p loose mean mg mb h₀) (hA : A.frames = some [envX cn cs L a ccd cl])
    (ho : K.lookup f = some ⟨oc, od, .func (fnOf name qual params body scope dV kV doc pm an cdv ct), osl⟩) (hcd : codeIn K cdv qual = true) (hroom : A.depth < recursionLimit)
    (hbind : BindsTo s (fnOf name qual params body scope dV kV doc pm an cdv ct) args binds) (hloc : ∀ y ∈ binds, scope.names.lookup y.1 = some .local)
    (h : ∀ g L' h₁, Fr h₀ L g m → Fr g L' h₁ (fun y => binds.reverse.lookup y) → News g L' h₁ news → Below A base [envX cn cs L a ccd cl] g → K.In g → Top p loose mean mg mb g → KtsDicts ([envX cn cs L a ccd cl].filterMap (·.frame)) g →
      wpAny (model prog w) (A.deeper (envOf qual scope L' f cdv)) (execs body (envOf qual scope L' f cdv))
        (fun fl s' => LeaveS0 ([envX cn cs L a ccd cl].filterMap (·.frame)) h₀ L m g R (match fl with | .ret v => v | _ => .none) s')
        (fun e s' => wpAny (model prog w) (A.deeper (envOf qual scope L' f cdv)) (leaving (envOf qual scope L' f cdv) e) (fun _ s'' => R (.error e) s'') (fun e' s'' => R (.error e') s'') s')
        { s with heap := h₁, toks := s.toks + binds.length })
    (hck : cs.kind = .function) (hco : scope.isCoroutine = false) (hgen : scope.isGenerator = false) (hk : scope.kind = .function)
    (hcell : ∀ x ∈ scope.names, x.2 ≠ .cell) : codeAny (model prog w) A (.call (.ref f) args) R s := by
  have nm : ∀ b o, h₀.get? b = some o → b ∉ news.map (·.1) := fun b o e q => by
    obtain ⟨x, hx, rfl⟩ := List.mem_map.mp q
    rw [(N x hx).2.2] at e; cases e
  have st : h₀.StaysIn (hideAll s.heap (news.map (·.1))) := fun b o e => hideAll_get _ (F.keep b o e) (nm b o e)
  obtain ⟨oL, es, ep, hL, hLd, hLk, hLf⟩ := F.ns
  have nL : L ∉ news.map (·.1) := fun q => by
    obtain ⟨x, hx, e⟩ := List.mem_map.mp q
    exact (N x hx).2.1 e
  have hLg := hideAll_get (news.map (·.1)) hL nL
  have B₁ := pushX (env := envX cn cs L a ccd cl) B F rfl hck
  have B₂ : Below A base [envX cn cs L a ccd cl] (hideAll s.heap (news.map (·.1))) := ⟨hA, fun b o e => st b o (B.stays b o e), funFrames_hideAll B₁.frames fun env he b hb hf => by
    cases he with
    | head => exact nL ((Option.some.inj hf : L = b) ▸ hb)
    | tail _ he => cases he⟩
  have hmem : ∀ b ∈ [envX cn cs L a ccd cl].filterMap (·.frame), b = L := fun b hb => by simpa using hb
  refine codeAny_call_def (fd := fnOf name qual params body scope dV kV doc pm an cdv ct) (body := body) (binds := binds) hroom (X₀.keeps F.keep _ _ ho) rfl (T.nolimit.keeps F.keep) (codeRec_of (X₀.keeps F.keep) hcd) rfl hbind hcell hloc (fun h₁ hns hk₁ => ?_) hco hgen hk
  refine wpAny_mono (h _ s.heap.objs.size h₁ ⟨⟨oL, es, ep, hLg, hLd, hLk, hLf⟩, st, F.above⟩ ⟨hns, fun b o e => hk₁ b o (of_hideAll _ e), Nat.le_of_eq (hideAll_size _ _)⟩
    (fun x hx => ⟨hk₁ _ _ (N x hx).1, Nat.ne_of_lt (Heap.lt_size (N x hx).1), hideAll_none _ (List.mem_map_of_mem hx)⟩) B₂ (X₀.keeps st) (T.keeps st) (fun b hb => by
      rw [hmem b hb]; exact ⟨oL, es, ep, hLg, hLd⟩)) (fun fl s' hl => ?_) fun _ _ y => y
  obtain ⟨g', L', m', news', T', F', N', k⟩ := hl
  have nL₀ : h₀.get? L = none := kts_self F
  obtain ⟨sl, hs⟩ := T'.up hLg
  refine k ⟨⟨_, es, ep, F'.keep _ _ hs, hLd, hLk, hLf⟩, fun b o e => F'.keep b o (T'.other b o (st b o e) fun q => by
    rw [hmem b q, nL₀] at e; cases e), F.above⟩ fun x hx => ⟨(N' x hx).1, fun q => ?_, ?_⟩
  · have := (N' x hx).2.2; rw [q, hs] at this; cases this
  · cases q : h₀.get? x.1 with
    | none => rfl
    | some o =>
      obtain ⟨sl', hs'⟩ := T'.up (st _ _ q)
      have := (N' x hx).2.2
      rw [hs'] at this
      cases this
end
end Mine
end

section
open PySem PySem.W PyProof.Rows
set_option maxRecDepth 100000
set_option maxHeartbeats 40000000
namespace Mine
theorem reg_Walked_1 : True := by
  w_top off
  k_with_none
  k_with "my big" => lia
  k_with "my omega" => first
      | with_reducible assumption
      | decide
      | ((fail_if_success (fail_if_success omega (config := {})))
         first
           | k_extra "my om"
           | k_extra "my big"
           | omega (config := {}))
  k_with "my om" => first
      | (with_reducible refine' rm0 ?h; (case h => with_reducible assumption))
      | (with_reducible refine' rm1 ?h ?e; (case h => with_reducible assumption); (case e => decide))
      | (with_reducible refine' rm2 ?h ?e; (case h => with_reducible assumption); (case e => decide))
      | (with_reducible refine' rm3 ?h ?e; (case h => with_reducible assumption); (case e => decide))
      | (with_reducible refine' bd1 ?h ?e; (case h => with_reducible assumption); (case e => decide))
      | (with_reducible refine' bd3 ?h ?e; (case h => with_reducible assumption); (case e => decide))
      | (with_reducible refine' bd4 ?h ?e; (case h => with_reducible assumption); (case e => decide))
      | (with_reducible refine' bz1 ?h ?e; (case h => walk_at "lt"); (case e => decide))
      | (with_reducible refine' bz3 ?h ?e; (case h => walk_at "lt"); (case e => decide))
      | (with_reducible refine' bd2 ?q ?h ?e; (case q => with_reducible assumption); (case h => with_reducible assumption); (case e => decide))
      | walk_at "lt2"
      | (with_reducible refine Nat.le_of_lt ?_; walk_at "lt2")
      | (with_reducible refine Nat.ne_of_lt ?_; walk_at "lt2")
      | (with_reducible refine Nat.ne_of_gt ?_; walk_at "lt2")
      | ((with_reducible refine And.intro ?_ ?_) <;> k_extra "my omega")
      | (with_reducible refine' Nat.lt_trans ?a ?b; (case b => with_reducible assumption); (case a => walk_at "lt2"))
      | (with_reducible refine' Nat.lt_trans ?a ?b; (case a => with_reducible assumption); (case b => walk_at "lt2"))
      | (with_reducible refine' Nat.lt_of_le_of_lt ?a ?b; (case b => with_reducible assumption); (case a => walk_at "lt2"))
      | (with_reducible refine' Nat.lt_of_le_of_lt ?a ?b; (case a => with_reducible assumption); (case b => walk_at "lt2"))
      | (with_reducible refine' Nat.lt_of_lt_of_le ?a ?b; (case b => with_reducible assumption); (case a => walk_at "lt2"))
      | (with_reducible refine' Nat.lt_of_lt_of_le ?a ?b; (case a => with_reducible assumption); (case b => walk_at "lt2"))
      | (with_reducible refine' Nat.le_trans ?a ?b; (case b => with_reducible assumption); (case a => walk_at "lt2"))
      | (with_reducible refine' Nat.le_trans ?a ?b; (case a => with_reducible assumption); (case b => walk_at "lt2"))
  k_with "my lt" => first
      | with_reducible assumption
      | (refine' And.left ?h; (case h => with_reducible assumption))
      | (refine' And.left (And.right ?h); (case h => with_reducible assumption))
      | (refine' And.left (And.right (And.right ?h)); (case h => with_reducible assumption))
      | (refine' And.left (And.right (And.right (And.right ?h))); (case h => with_reducible assumption))
      | (refine' And.left (And.right (And.right (And.right (And.right ?h)))); (case h => with_reducible assumption))
      | (refine' And.left (And.right (And.right (And.right (And.right (And.right ?h))))); (case h => with_reducible assumption))
      | (refine' And.left (And.right (And.right (And.right (And.right (And.right (And.right ?h)))))); (case h => with_reducible assumption))
      | (refine' And.left (And.right (And.right (And.right (And.right (And.right (And.right (And.right ?h))))))); (case h => with_reducible assumption))
      | (refine' And.left (And.right (And.right (And.right (And.right (And.right (And.right (And.right (And.right ?h)))))))); (case h => with_reducible assumption))
      | (refine' And.left (And.right (And.right (And.right (And.right (And.right (And.right (And.right (And.right (And.right ?h))))))))); (case h => with_reducible assumption))
      | (refine' And.left (And.right (And.right (And.right (And.right (And.right (And.right (And.right (And.right (And.right (And.right ?h)))))))))); (case h => with_reducible assumption))
  k_with "my lt2" => first
      | walk_at "lt"
      | (with_reducible exact ad1)
      | (with_reducible exact ad2)
      | (with_reducible exact ad3)
      | (with_reducible exact ad4)
      | (with_reducible refine ar1 ?_; walk_at "lt")
      | (with_reducible refine ar2 ?_; walk_at "lt")
      | (with_reducible refine ar3 ?_; walk_at "lt")
      | (with_reducible refine ar4 ?_; walk_at "lt")
      | (with_reducible refine as1 ?_; walk_at "lt")
      | (with_reducible refine as2 ?_; walk_at "lt")
      | (with_reducible refine as3 ?_; walk_at "lt")
      | (with_reducible refine as4 ?_; walk_at "lt")
  k_with "my ar" => ((try dsimp only); first
      | with_reducible exact Nat.le_refl _
      | walk_at "lt2"
      | (refine Nat.le_of_lt ?_; walk_at "lt2")
      | (refine Nat.ne_of_lt ?_; walk_at "lt2")
      | (refine Nat.ne_of_gt ?_; walk_at "lt2")
      | k_extra "my ar2"
      | omega)
  k_with "my k_ne" => (refine neN ?_; (try dsimp only); first
      | with_reducible assumption
      | (refine Ne.symm ?_; with_reducible assumption)
      | (refine Nat.ne_of_lt ?_; walk_at "lt")
      | (refine Nat.ne_of_gt ?_; walk_at "lt")
      | omega)
  k_with "my k_all" => first | assumption | exact ne_above (by assumption) (by walk_at "ar")
  k_with "my k_mem" => first | with_reducible_and_instances assumption | (with_reducible_and_instances refine List.mem_append.mpr (Or.inl ?_); k_mem) | (with_reducible_and_instances refine List.mem_append.mpr (Or.inr ?_); k_mem)
  k_with "my pyIter ref" => refine stop_here ?_
  k_with "my exec For Name Call cons nil" => refine stop_here ?_
  k_with "my call ref" => (k_here; refine stop_here ?_)
  k_with "my binaryOp Add ref ref" => (k_here; k_dflt (refine' add_led ?F ?N ?m ?m2 ?z ?_; (case F => k_asm); (case N => k_asm); (case m => k_mem); (case m2 => k_mem); (case z => (try simp only [List.length_cons, List.length_nil]); omega); k_whole); walk_at "i5")
  k_with "my subscriptTail" => (k_here; (with_reducible show wpAny _ _ (subscriptTail _ _ (Value.ref _) (Value.int _ _)) _ _ _); k_dflt (refine' list_item ?kN ?hm ?h0 ?h1 ?hx ?_ ?hs; (case kN => k_asm); (case hm => k_mem); (case hx => with_reducible assumption); (case h0 => omega); (case h1 => omega); (case hs => with_unfolding_all rfl); k_whole))
  k_with "my getMethod ref" => (k_here; k_dflt (refine' getMethod_fn ?N ?m ?c ?n ?d ?D ?x ?_; (case N => k_asm); (case m => k_mem); (case c => rfl); (case n => rfl); (case d => rfl); (case D => k_mem); (case x => first | exact fn_no_span | exact fn_no_search); k_whole))
  k_with "my callWith ref" => (k_here; k_dflt (first
      | (refine' callWith_F ?k1 ?_; (case k1 => exact FnAt.of (by k_asm) (by k_mem)); k_whole)
      | (refine' callWith_F0 ?k1 ?_; (case k1 => exact FnAt.of (by k_asm) (by k_mem)); k_whole; try dsimp only [List.nil_append, List.cons_append])))
  k_with "my newList" => (k_here; k_dflt (refine' newList_K ?k1 ?k2 ?_ ?k3; (case k1 => k_asm); (case k2 => k_asm); (case k3 => (simp only [List.length_cons, List.length_nil]; exact (by decide))); k_whole); walk_at "i5")
  trivial
noncomputable def walkedJ (lw lr lp : Addr) (its : List (List Item)) (line0 col0 turn : Int) (news : List (Addr × Obj)) (i : Nat) (m : Str → Option Value) (nx : List (Addr × Obj)) : Prop :=
  ∃ us nw ln cl t1 t2 pre rest, nx = (lw, listOf us.toArray nw) :: rest ∧ DatAll rest us pre ∧ WalkAt (duStep its) line0 col0 turn i ln cl pre ∧ (1 ≤ ln ∧ ln ≤ 4) ∧ (∀ p ∈ news, p ∈ rest) ∧ (∀ p ∈ rest, p.1 ≠ lw) ∧ (∀ p ∈ rest, p ∈ news ∨ ∀ q ∈ news, p.1 ≠ q.1) ∧
    m (PySem.Str.ofString "walked") = some (.ref lw) ∧ m (PySem.Str.ofString "rows") = some (.ref lr) ∧ m (PySem.Str.ofString "progs") = some (.ref lp) ∧ m (PySem.Str.ofString "line") = some (.int ln t1) ∧ m (PySem.Str.ofString "col") = some (.int cl t2)
/-- the programs of a row -/
noncomputable def ProgsAt (w : World) (news : List (Addr × Obj)) (row : Row) (pv : Value) : Prop :=
  ∃ pa va vb n, pv = .ref pa ∧ (pa, listOf #[va, vb] n) ∈ news ∧ IsProg w news va row.1 (hitsOf (abK 0) row.2) ∧ IsProg w news vb row.1 (hitsOf (abK 1) row.2)
theorem row_text {x0 x1 x2 : Row} {p0 p1 p2 : Value} {s0 s1 s2 : Tok} {w : World} {news : List (Addr × Obj)} {ln : Int} (h0 : ProgsAt w news x0 p0) (h1 : ProgsAt w news x1 p1) (h2 : ProgsAt w news x2 p2) (hl : 1 ≤ ln ∧ ln ≤ 3) :
    ∃ x t pv, ([.str x0.1 s0, .str x1.1 s1, .str x2.1 s2] : List Value)[(ln - 1).toNat]? = some (.str x.1 t) ∧ ([p0, p1, p2] : List Value)[(ln - 1).toNat]? = some pv ∧ ProgsAt w news x pv ∧ [x0, x1, x2][(ln - 1).toNat]? = some x := by
  have h : ln = 1 ∨ ln = 2 ∨ ln = 3 := by omega
  rcases h with rfl | rfl | rfl
  · exact ⟨_, _, _, rfl, rfl, h0, rfl⟩
  · exact ⟨_, _, _, rfl, rfl, h1, rfl⟩
  · exact ⟨_, _, _, rfl, rfl, h2, rfl⟩
theorem prog_par {w : World} {news : List (Addr × Obj)} {x : Row} {va vb : Value} {st : Int} (ha : IsProg w news va x.1 (hitsOf (abK 0) x.2)) (hb : IsProg w news vb x.1 (hitsOf (abK 1) x.2)) :
    ∃ vp, ([va, vb] : List Value)[(Int.fmod st 2).toNat]? = some vp ∧ IsProg w news vp x.1 (hitsOf (abK st) x.2) ∧ 0 ≤ Int.fmod st 2 ∧ Int.fmod st 2 < 2 := by
  have f0 := Int.fmod_nonneg_of_pos st (b := 2) (by decide)
  have f1 := Int.fmod_lt_of_pos st (b := 2) (by decide)
  have h : Int.fmod st 2 = 0 ∨ Int.fmod st 2 = 1 := by omega
  rcases h with h | h
  · refine ⟨va, by rw [h]; rfl, ?_, f0, f1⟩
    have e : abK st = abK 0 := by unfold abK; rw [h]; rfl
    rw [e]; exact ha
  · refine ⟨vb, by rw [h]; rfl, ?_, f0, f1⟩
    have e : abK st = abK 1 := by unfold abK; rw [h]; rfl
    rw [e]; exact hb
theorem IsProg.mono {w : World} {news news' : List (Addr × Obj)} {v : Value} {text : Str} {hits : List (Int × Int)} (hs : ∀ p ∈ news, p ∈ news') (h : IsProg w news v text hits) : IsProg w news' v text hits := by
  obtain ⟨f, d, tk, g, fd, fdg, slf, odg, slg, h1, h2, h3, h4, h5, h6⟩ := h
  exact ⟨f, d, tk, g, fd, fdg, slf, odg, slg, h1, hs _ h2, hs _ h3, hs _ h4, fun nw hn => h5 nw fun p hp => hn p (hs p hp), fun nw hn => h6 nw fun p hp => hn p (hs p hp)⟩
theorem tellsO_use {w : World} {f : Addr} {k : Nat} {vs : List Value} {news : List (Addr × Obj)} {R : List (Addr × Obj) → Value → Prop} {o : Option String} (C : TellsO w f k vs news R o)
    {p : Program} {loose : List Str} {mean : ExcName → Option Value} {mg mb : Str → Option Value} {dp un : Nat} {gd : Option (List Code)} {cn : Str} {cs : Scope} {a : Addr} {ccd : Value} {cl : List (Str × Addr)} {outer : List Env} {A₀ : Around} {base h₀ : Heap} {L : Addr} {m : Str → Option Value} {s : Shared}
    {Q E : Value → Shared → Prop} (X : (Mine.hd.heap_39 w.params).In h₀) (B : Below A₀ base outer h₀) (F : Fr h₀ L s.heap m) (N : News h₀ L s.heap news) (T : Top p loose mean mg mb h₀) (hk : cs.kind = .function) (hd : dp + k < recursionLimit) (hu : un + 8 * k < cLine)
    (ret : o = none → ∀ r nx h' tk', Fr h₀ L h' m → News h₀ L h' nx → R nx r → Q r { s with heap := h', toks := tk' })
    (raise : ∀ X, o = some X → ∀ G e nw h' tk', Fr h₀ L G m → (∀ q ∈ news, q ∈ nw) → RaisedSN base G (envX cn cs L a ccd cl :: outer) e (.type X) nw h' → G.UpToSlots h' → E (.ref e) { s with heap := h', toks := tk' }) :
    wpAny (model PySem.Challenge.rw_mq0134_01.row.prog w) (ktrTop dp un gd cn cs L a ccd cl outer) (call (.ref f) vs) Q E s :=
  C p loose mean mg mb dp un gd cn cs a ccd cl outer A₀ base h₀ L m s Q E X B F N T hk hd hu ret raise
theorem list_strs {news : List (Addr × Obj)} {r : Value} {xs : List Str} (h : DatIn news r (.list (xs.map .str))) : ∃ a vs n, r = .ref a ∧ (a, listOf vs.toArray n) ∈ news ∧ StrsAre vs xs := by
  cases h with
  | list hm ha =>
    refine ⟨_, _, _, rfl, hm, ?_⟩
    rename_i a vs n
    clear hm
    induction xs generalizing vs with
    | nil => cases ha; exact .nil
    | cons x xs ih =>
      cases ha with
      | cons h1 h2 =>
        cases h1
        exact .cons _ _ (ih h2)
theorem led_retW {news rest full : List (Addr × Obj)} {h₀ h' : Heap} {L a : Addr} {m : Str → Option Value} {s : Shared} {Q : Value → Shared → Prop} {tk' c : Nat} {vs : List Value} {ds : List Dat}
    (hret : ∀ r nx h' tk', Fr h₀ L h' m → News h₀ L h' nx → RetW news (.list ds) nx r → Q r { s with heap := h', toks := tk' }) (F : Fr h₀ L h' m) (N : News h₀ L h' full) (ha : (a, listOf vs.toArray c) ∈ full) (hr : ∀ p ∈ rest, p ∈ full) (hr0 : ∀ p ∈ news, p ∈ rest)
    (hro : ∀ p ∈ rest, p ∈ news ∨ ∀ q ∈ news, p.1 ≠ q.1) (hal : ∀ q ∈ news, @LT.lt Nat _ q.1 a) (hd : DatAll rest vs ds) : Q (.ref a) { s with heap := h', toks := tk' } := by
  refine hret _ (news ++ (a, listOf vs.toArray c) :: rest.filter (fun p => decide (∀ q ∈ news, @Ne Nat p.1 q.1))) h' tk' F (fun p hp => N p ?_) ⟨⟨_, rfl, fun p hp q hq => ?_⟩, .list (List.mem_append.mpr (.inr (.head _))) (hd.mono fun p hp => ?_)⟩
  · rcases List.mem_append.mp hp with hp | hp
    · exact hr p (hr0 p hp)
    · rcases List.mem_cons.mp hp with rfl | hp
      · exact ha
      · exact hr p (List.mem_filter.mp hp).1
  · rcases List.mem_cons.mp hp with rfl | hp
    · exact Nat.ne_of_gt (hal q hq)
    · exact of_decide_eq_true (List.mem_filter.mp hp).2 q hq
  · rcases hro p hp with h | h
    · exact List.mem_append.mpr (.inl h)
    · exact List.mem_append.mpr (.inr (.tail _ (List.mem_filter.mpr ⟨hp, decide_eq_true h⟩)))
theorem tellsX_use {w : World} {f : Addr} {k : Nat} {vs : List Value} {news : List (Addr × Obj)} {X : String} (C : TellsX w f k vs news X)
    {p : Program} {loose : List Str} {mean : ExcName → Option Value} {mg mb : Str → Option Value} {dp un : Nat} {gd : Option (List Code)} {cn : Str} {cs : Scope} {a : Addr} {ccd : Value} {cl : List (Str × Addr)} {outer : List Env} {A₀ : Around} {base h₀ : Heap} {L : Addr} {m : Str → Option Value} {s : Shared}
    {Q E : Value → Shared → Prop} (X₀ : (Mine.hd.heap_39 w.params).In h₀) (B : Below A₀ base outer h₀) (F : Fr h₀ L s.heap m) (N : News h₀ L s.heap news) (T : Top p loose mean mg mb h₀) (hk : cs.kind = .function) (hd : dp + k < recursionLimit) (hu : un + 8 * k < cLine)
    (raise : ∀ G e nw h' tk', Fr h₀ L G m → (∀ q ∈ news, q ∈ nw) → RaisedSN base G (envX cn cs L a ccd cl :: outer) e (.type X) nw h' → G.UpToSlots h' → E (.ref e) { s with heap := h', toks := tk' }) :
    wpAny (model PySem.Challenge.rw_mq0134_01.row.prog w) (ktrTop dp un gd cn cs L a ccd cl outer) (call (.ref f) vs) Q E s :=
  C p loose mean mg mb dp un gd cn cs a ccd cl outer A₀ base h₀ L m s Q E X₀ B F N T hk hd hu raise
theorem walked_end {h₀ : Heap} {L I lw lr lp a8 : Addr} {oI : Obj} {n' i : Nat} {news rest tl8 full : List (Addr × Obj)} {s₁ s₂ : Shared} {Q : Flow → Shared → Prop} {m' : Str → Option Value} {us : List Value} {pre : List Dat} {its : List (List Item)} {line0 col0 turn pl pc : Int} {t1 t2 : Tok}
    (F : Fr h₀ L s₂.heap m') (N : News h₀ L s₂.heap full) (e : s₂ = { s₁ with heap := s₂.heap, toks := s₂.toks }) (mI : (I, oI) ∈ full) (mlw : (lw, listOf (us ++ [Value.ref a8]).toArray n') ∈ full) (mr : ∀ p ∈ rest ++ tl8, p ∈ full)
    (b1 : m' (PySem.Str.ofString "walked") = some (.ref lw)) (b2 : m' (PySem.Str.ofString "rows") = some (.ref lr)) (b3 : m' (PySem.Str.ofString "progs") = some (.ref lp)) (b4 : m' (PySem.Str.ofString "line") = some (.int pl t1)) (b5 : m' (PySem.Str.ofString "col") = some (.int pc t2))
    (du : DatAll rest us pre) (hd8 : DatIn tl8 (.ref a8) (.tuple [.int pl, .int pc])) (hW : WalkAt (duStep its) line0 col0 turn (i + 1) pl pc (pre ++ [.tuple [.int pl, .int pc]])) (hok : 1 ≤ pl ∧ pl ≤ 4) (hr0 : ∀ p ∈ news, p ∈ rest) (e0 : ∀ p ∈ rest ++ tl8, p.1 ≠ lw)
    (hro : ∀ p ∈ rest ++ tl8, p ∈ news ∨ ∀ q ∈ news, p.1 ≠ q.1) (y0 : @Ne Nat lw I) (yr : ∀ p ∈ rest ++ tl8, p.1 ≠ I) :
    PostX h₀ L I oI [] (walkedJ lw lr lp its line0 col0 turn news (i + 1)) s₁ Q .next s₂ := by
  refine postX_next F (nx := (lw, listOf (us ++ [Value.ref a8]).toArray n') :: (rest ++ tl8)) (fun p hp => ?_) e (List.forall_mem_cons.mpr ⟨y0, yr⟩) (fun _ h => nomatch h) ⟨us ++ [Value.ref a8], n', pl, pc, t1, t2, _, rest ++ tl8, rfl, ?_, hW, hok, fun p hp => List.mem_append.mpr (.inl (hr0 p hp)), e0, hro, b1, b2, b3, b4, b5⟩
  · rcases List.mem_cons.mp hp with rfl | hp
    · exact N _ mI
    · rcases List.mem_cons.mp hp with rfl | hp
      · exact N _ mlw
      · exact N _ (mr p hp)
  · exact (du.mono fun p hp => List.mem_append.mpr (.inl hp)).append (.one (hd8.mono fun p hp => List.mem_append.mpr (.inr hp)))
theorem walked_tells {w : World} (lr lp : Addr) (n1 n2 : Nat) (x0 x1 x2 : Row) (p0 p1 p2 : Value) (s0 s1 s2 : Tok) (line col turn : Int) (tl tc tt : Tok) (news : List (Addr × Obj)) (htn : 0 ≤ turn ∧ turn ≤ 1) (hln : 1 ≤ line ∧ line ≤ 4)
    (hlr : (lr, listOf #[.str x0.1 s0, .str x1.1 s1, .str x2.1 s2] n1) ∈ news) (hlp : (lp, listOf #[p0, p1, p2] n2) ∈ news) (h0 : ProgsAt w news x0 p0) (h1 : ProgsAt w news x1 p1) (h2 : ProgsAt w news x2 p2)
    (hok : ∀ ln : Int, ∀ x : Row, 1 ≤ ln → ln ≤ 3 → [x0, x1, x2][(ln - 1).toNat]? = some x → x.1.length ≤ 1000 ∧ (∀ k : Int, ∀ h ∈ hitsOf (abK k) x.2, h.1 < h.2) ∧ ∀ cl step, StepOk x (abK step) cl (duStep ([x0, x1, x2].map (·.2)) ln cl step)) :
    TellsT w 73 16 [.ref lr, .ref lp, .int line tl, .int col tc, .int turn tt] news (RetW news (.list (dueP ([x0, x1, x2].map (·.2)) line col turn))) := by
  revert htn hln hlr hlp h0 h1 h2 hok
  revert w lr lp n1 n2 x0 x1 x2 p0 p1 p2 s0 s1 s2 line col turn tl tc tt news
  refine no_implicit_lambda% (closedW ?_)
  with_reducible generalize wit _ _ = w
  refine no_implicit_lambda% (@id (Unit → Unit → Unit → Unit → _) ?_ () () () ())
  refine no_implicit_lambda% (closed24 ?_)
  with_reducible generalize wit _ _ = tQ
  with_reducible generalize Prod.fst (Prod.snd (Prod.snd (Prod.snd (Prod.snd (tQ))))) = lr
  with_reducible generalize Prod.fst (Prod.snd (Prod.snd (Prod.snd (Prod.snd (Prod.snd (tQ)))))) = lp
  with_reducible generalize Prod.fst (Prod.snd (Prod.snd (Prod.snd (Prod.snd (Prod.snd (Prod.snd (tQ))))))) = n1
  with_reducible generalize Prod.fst (Prod.snd (Prod.snd (Prod.snd (Prod.snd (Prod.snd (Prod.snd (Prod.snd (tQ)))))))) = n2
  with_reducible generalize Prod.fst (Prod.snd (Prod.snd (Prod.snd (Prod.snd (Prod.snd (Prod.snd (Prod.snd (Prod.snd (tQ))))))))) = x0
  with_reducible generalize Prod.fst (Prod.snd (Prod.snd (Prod.snd (Prod.snd (Prod.snd (Prod.snd (Prod.snd (Prod.snd (Prod.snd (tQ)))))))))) = x1
  with_reducible generalize Prod.fst (Prod.snd (Prod.snd (Prod.snd (Prod.snd (Prod.snd (Prod.snd (Prod.snd (Prod.snd (Prod.snd (Prod.snd (tQ))))))))))) = x2
  with_reducible generalize Prod.fst (Prod.snd (Prod.snd (Prod.snd (Prod.snd (Prod.snd (Prod.snd (Prod.snd (Prod.snd (Prod.snd (Prod.snd (Prod.snd (tQ)))))))))))) = p0
  with_reducible generalize Prod.fst (Prod.snd (Prod.snd (Prod.snd (Prod.snd (Prod.snd (Prod.snd (Prod.snd (Prod.snd (Prod.snd (Prod.snd (Prod.snd (Prod.snd (tQ))))))))))))) = p1
  with_reducible generalize Prod.fst (Prod.snd (Prod.snd (Prod.snd (Prod.snd (Prod.snd (Prod.snd (Prod.snd (Prod.snd (Prod.snd (Prod.snd (Prod.snd (Prod.snd (Prod.snd (tQ)))))))))))))) = p2
  with_reducible generalize Prod.fst (Prod.snd (Prod.snd (Prod.snd (Prod.snd (Prod.snd (Prod.snd (Prod.snd (Prod.snd (Prod.snd (Prod.snd (Prod.snd (Prod.snd (Prod.snd (Prod.snd (tQ))))))))))))))) = s0
  with_reducible generalize Prod.fst (Prod.snd (Prod.snd (Prod.snd (Prod.snd (Prod.snd (Prod.snd (Prod.snd (Prod.snd (Prod.snd (Prod.snd (Prod.snd (Prod.snd (Prod.snd (Prod.snd (Prod.snd (tQ)))))))))))))))) = s1
  with_reducible generalize Prod.fst (Prod.snd (Prod.snd (Prod.snd (Prod.snd (Prod.snd (Prod.snd (Prod.snd (Prod.snd (Prod.snd (Prod.snd (Prod.snd (Prod.snd (Prod.snd (Prod.snd (Prod.snd (Prod.snd (tQ))))))))))))))))) = s2
  with_reducible generalize Prod.fst (Prod.snd (Prod.snd (Prod.snd (Prod.snd (Prod.snd (Prod.snd (Prod.snd (Prod.snd (Prod.snd (Prod.snd (Prod.snd (Prod.snd (Prod.snd (Prod.snd (Prod.snd (Prod.snd (Prod.snd (tQ)))))))))))))))))) = line
  with_reducible generalize Prod.fst (Prod.snd (Prod.snd (Prod.snd (Prod.snd (Prod.snd (Prod.snd (Prod.snd (Prod.snd (Prod.snd (Prod.snd (Prod.snd (Prod.snd (Prod.snd (Prod.snd (Prod.snd (Prod.snd (Prod.snd (Prod.snd (tQ))))))))))))))))))) = col
  with_reducible generalize Prod.fst (Prod.snd (Prod.snd (Prod.snd (Prod.snd (Prod.snd (Prod.snd (Prod.snd (Prod.snd (Prod.snd (Prod.snd (Prod.snd (Prod.snd (Prod.snd (Prod.snd (Prod.snd (Prod.snd (Prod.snd (Prod.snd (Prod.snd (tQ)))))))))))))))))))) = turn
  with_reducible generalize Prod.fst (Prod.snd (Prod.snd (Prod.snd (Prod.snd (Prod.snd (Prod.snd (Prod.snd (Prod.snd (Prod.snd (Prod.snd (Prod.snd (Prod.snd (Prod.snd (Prod.snd (Prod.snd (Prod.snd (Prod.snd (Prod.snd (Prod.snd (Prod.snd (tQ))))))))))))))))))))) = tl
  with_reducible generalize Prod.fst (Prod.snd (Prod.snd (Prod.snd (Prod.snd (Prod.snd (Prod.snd (Prod.snd (Prod.snd (Prod.snd (Prod.snd (Prod.snd (Prod.snd (Prod.snd (Prod.snd (Prod.snd (Prod.snd (Prod.snd (Prod.snd (Prod.snd (Prod.snd (Prod.snd (tQ)))))))))))))))))))))) = tc
  with_reducible generalize Prod.fst (Prod.snd (Prod.snd (Prod.snd (Prod.snd (Prod.snd (Prod.snd (Prod.snd (Prod.snd (Prod.snd (Prod.snd (Prod.snd (Prod.snd (Prod.snd (Prod.snd (Prod.snd (Prod.snd (Prod.snd (Prod.snd (Prod.snd (Prod.snd (Prod.snd (Prod.snd (tQ))))))))))))))))))))))) = tt
  with_reducible generalize Prod.snd (Prod.snd (Prod.snd (Prod.snd (Prod.snd (Prod.snd (Prod.snd (Prod.snd (Prod.snd (Prod.snd (Prod.snd (Prod.snd (Prod.snd (Prod.snd (Prod.snd (Prod.snd (Prod.snd (Prod.snd (Prod.snd (Prod.snd (Prod.snd (Prod.snd (Prod.snd (tQ))))))))))))))))))))))) = news
  clear tQ
  intro htn hln hlr hlp h0 h1 h2 hok
  refine tellsT_close ?_
  unfold TellsTAt
  with_reducible generalize TV.p _ = p
  with_reducible generalize TV.loose _ = loose
  with_reducible generalize TV.mean _ = mean
  with_reducible generalize TV.mg _ = mg
  with_reducible generalize TV.mb _ = mb
  with_reducible generalize TV.dp _ = dp
  with_reducible generalize TV.un _ = un
  with_reducible generalize TV.gd _ = gd
  with_reducible generalize TV.cn _ = cn
  with_reducible generalize TV.cs _ = cs
  with_reducible generalize TV.a _ = a
  with_reducible generalize TV.ccd _ = ccd
  with_reducible generalize TV.cl _ = cl
  with_reducible generalize TV.A₀ _ = A₀
  with_reducible generalize TV.base _ = base
  with_reducible generalize TV.h₀ _ = h₀
  with_reducible generalize TV.L _ = L
  with_reducible generalize TV.m _ = m
  with_reducible generalize TV.s _ = s
  with_reducible generalize TV.Q _ = Q
  with_reducible generalize TV.E _ = E
  k_fill
  intro X XB B F N T TB hk hdp hun hret
  refine wpAny_call ?_
  k_dflt (refine' enterX0 ?k1 ?k2 ?k3 ?k4 ?k5 ?kA ?k6 ?k7 ?k8 ?k9 ?kB ?_ ?cK ?c2 ?c3 ?c4 ?c5; (case kA => exact rfl); (case k2 => k_asm); (case k1 => k_asm); (case k3 => k_asm); (case k4 => k_asm); (case k5 => k_asm); (case k6 => k_is); (case k7 => k_is); (case k8 => ktr_room); (case k9 => exact BindsTo.of_eq rfl); (case kB => exact locs rfl); (case cK => exact hk); (case c2 => exact rfl); (case c3 => exact rfl); (case c4 => exact rfl); (case c5 => decide); k_whole; intro g' L' h' FG' F' N' B' X' T' D'; (try dsimp only); (try k_lift B'); (try k_fold))
  k_steps
  rename_i lw _ l0 _ F1 N1
  refine Stop.mk ?_
  refine for_open ?_
  k_steps
  refine Stop.mk ?_
  rename IsRange _ _ _ _ _ _ _ _ => hR
  rename Fr g' _ _ _ => F1
  rename News g' _ _ _ => N1
  rename_i yA71 yA73 yA75 yA76 yA77 yA79 yA80 yA81 yA82 yA83 yA87
  dsimp only [qk, ek]
  clear ek qk
  clear yA73 yA71 h'
  revert FG' B' X' T' D' l0 yA76 yA77 hR F1 N1 yA87
  revert g' L' lw yA75 tk yA79 yA80 yA81 yA82 yA83
  refine no_implicit_lambda% (closed10 ?_)
  with_reducible generalize wit _ _ = tQ
  with_reducible generalize Prod.fst (tQ) = g'
  with_reducible generalize Prod.fst (Prod.snd (tQ)) = L'
  with_reducible generalize Prod.fst (Prod.snd (Prod.snd (tQ))) = lw
  with_reducible generalize Prod.fst (Prod.snd (Prod.snd (Prod.snd (tQ)))) = yA75
  with_reducible generalize Prod.fst (Prod.snd (Prod.snd (Prod.snd (Prod.snd (tQ))))) = tk
  with_reducible generalize Prod.fst (Prod.snd (Prod.snd (Prod.snd (Prod.snd (Prod.snd (tQ)))))) = yA79
  with_reducible generalize Prod.fst (Prod.snd (Prod.snd (Prod.snd (Prod.snd (Prod.snd (Prod.snd (tQ))))))) = yA80
  with_reducible generalize Prod.fst (Prod.snd (Prod.snd (Prod.snd (Prod.snd (Prod.snd (Prod.snd (Prod.snd (tQ)))))))) = yA81
  with_reducible generalize Prod.fst (Prod.snd (Prod.snd (Prod.snd (Prod.snd (Prod.snd (Prod.snd (Prod.snd (Prod.snd (tQ))))))))) = yA82
  with_reducible generalize Prod.snd (Prod.snd (Prod.snd (Prod.snd (Prod.snd (Prod.snd (Prod.snd (Prod.snd (Prod.snd (tQ))))))))) = yA83
  clear tQ
  intro FG' B' X' T' D' l0 _ _ hR F1 N1 _
  refine iter_rangeX (n := 3) (walkedJ lw lr lp ([x0, x1, x2].map (·.2)) line col turn news) (by passes_own) rfl hR ?sm ?rs F1 N1 ?hj ?turn ?done
  case sm => exact small_one (by omega) (by omega) (by omega) (by omega)
  case rs => unfold Builtin.Range.rangeSize; simp only [show (1 : Int) > 0 from by decide, if_true, Int.ediv_one]; split <;> omega
  case hj =>
    exact ⟨[], 0, line, col, tl, tc, [], news, rfl, .nil, WalkAt.start, hln, fun _ h => h, fun p hp => Nat.ne_of_lt (l0 p hp), fun p hp => .inl hp, rfl, rfl, rfl, rfl, rfl⟩

  case turn =>
    rintro I i tk0 m₁ nx h tk oI hI hi hne ⟨us, nw, ln, cl, t1, t2, pre, rest, rfl, du, hW, hln1, hr0, e0, hro, b1, b2, b3, b4, b5⟩ F2 N2
    have F3 := fr_puts F2 (.cons b1 (.cons b2 (.cons b3 (.cons b4 (.cons b5 .nil)))))
    simp only [putsM] at F3
    clear F2 F1 N1 b1 b2 b3 b4 b5
    have y0 : @Ne Nat lw I := hne _ (.head _)
    have yr : ∀ p ∈ rest, p.1 ≠ I := fun p hp => hne _ (.tail _ hp)
    have hus : us.length ≤ 3 := by rw [du.length, hW.2.1]; exact hW.1
    dsimp only
    rename_i yB41 yB65 yB77 yB78 yB80
    revert hI hi hne du hW hln1 hr0 e0 hro N2 F3 y0 yr hus
    revert I i tk0 m₁ h tk oI us nw ln cl t1 t2 pre rest
    refine no_implicit_lambda% (@id (Unit → Unit → Unit → Unit → _) ?_ () () () ())
    refine no_implicit_lambda% (closed19 ?_)
    with_reducible generalize wit _ _ = tQ
    with_reducible generalize Prod.fst (Prod.snd (Prod.snd (Prod.snd (Prod.snd (tQ))))) = I
    with_reducible generalize Prod.fst (Prod.snd (Prod.snd (Prod.snd (Prod.snd (Prod.snd (tQ)))))) = i
    with_reducible generalize Prod.fst (Prod.snd (Prod.snd (Prod.snd (Prod.snd (Prod.snd (Prod.snd (tQ))))))) = tk0
    with_reducible generalize Prod.fst (Prod.snd (Prod.snd (Prod.snd (Prod.snd (Prod.snd (Prod.snd (Prod.snd (tQ)))))))) = m₁
    with_reducible generalize Prod.fst (Prod.snd (Prod.snd (Prod.snd (Prod.snd (Prod.snd (Prod.snd (Prod.snd (Prod.snd (tQ))))))))) = h
    with_reducible generalize Prod.fst (Prod.snd (Prod.snd (Prod.snd (Prod.snd (Prod.snd (Prod.snd (Prod.snd (Prod.snd (Prod.snd (tQ)))))))))) = tk
    with_reducible generalize Prod.fst (Prod.snd (Prod.snd (Prod.snd (Prod.snd (Prod.snd (Prod.snd (Prod.snd (Prod.snd (Prod.snd (Prod.snd (tQ))))))))))) = oI
    with_reducible generalize Prod.fst (Prod.snd (Prod.snd (Prod.snd (Prod.snd (Prod.snd (Prod.snd (Prod.snd (Prod.snd (Prod.snd (Prod.snd (Prod.snd (tQ)))))))))))) = us
    with_reducible generalize Prod.fst (Prod.snd (Prod.snd (Prod.snd (Prod.snd (Prod.snd (Prod.snd (Prod.snd (Prod.snd (Prod.snd (Prod.snd (Prod.snd (Prod.snd (tQ))))))))))))) = nw
    with_reducible generalize Prod.fst (Prod.snd (Prod.snd (Prod.snd (Prod.snd (Prod.snd (Prod.snd (Prod.snd (Prod.snd (Prod.snd (Prod.snd (Prod.snd (Prod.snd (Prod.snd (tQ)))))))))))))) = ln
    with_reducible generalize Prod.fst (Prod.snd (Prod.snd (Prod.snd (Prod.snd (Prod.snd (Prod.snd (Prod.snd (Prod.snd (Prod.snd (Prod.snd (Prod.snd (Prod.snd (Prod.snd (Prod.snd (tQ))))))))))))))) = cl
    with_reducible generalize Prod.fst (Prod.snd (Prod.snd (Prod.snd (Prod.snd (Prod.snd (Prod.snd (Prod.snd (Prod.snd (Prod.snd (Prod.snd (Prod.snd (Prod.snd (Prod.snd (Prod.snd (Prod.snd (tQ)))))))))))))))) = t1
    with_reducible generalize Prod.fst (Prod.snd (Prod.snd (Prod.snd (Prod.snd (Prod.snd (Prod.snd (Prod.snd (Prod.snd (Prod.snd (Prod.snd (Prod.snd (Prod.snd (Prod.snd (Prod.snd (Prod.snd (Prod.snd (tQ))))))))))))))))) = t2
    with_reducible generalize Prod.fst (Prod.snd (Prod.snd (Prod.snd (Prod.snd (Prod.snd (Prod.snd (Prod.snd (Prod.snd (Prod.snd (Prod.snd (Prod.snd (Prod.snd (Prod.snd (Prod.snd (Prod.snd (Prod.snd (Prod.snd (tQ)))))))))))))))))) = pre
    with_reducible generalize Prod.snd (Prod.snd (Prod.snd (Prod.snd (Prod.snd (Prod.snd (Prod.snd (Prod.snd (Prod.snd (Prod.snd (Prod.snd (Prod.snd (Prod.snd (Prod.snd (Prod.snd (Prod.snd (Prod.snd (Prod.snd (tQ)))))))))))))))))) = rest
    clear tQ
    intro hI hi hne du hW hln1 hr0 e0 hro N2 F3 y0 yr hus
    by_cases h4 : ln = 4
    · subst h4
      k_steps
      dsimp only [PostX]
      k_steps
      rename News h₀ L _ _ => NF
      rename Fr h₀ L _ _ => FF
      rename _ ∧ _ ∧ _ ∧ _ ∧ AllLt _ rest => lA
      have e := hW.ends hi (duStep_row rfl)
      exact led_retW (ret_as e hret) FF NF (.head _) (by intro p hp; repeat (first | exact hp | refine .tail _ ?_)) hr0 hro (fun q hq => ktn_ltOf lA.2.2.2.2 q (hr0 q hq)) (du.append (.one (.str _ _)))
    obtain ⟨x, tx, pv, hxt, hpv, hPA, hxx⟩ := row_text (s0 := s0) (s1 := s1) (s2 := s2) h0 h1 h2 (show 1 ≤ ln ∧ ln ≤ 3 by omega)
    obtain ⟨pa, va, vb, npa, rfl, hpa, hIa, hIb⟩ := hPA
    have hlr' := hr0 _ hlr
    have hlp' := hr0 _ hlp
    have hpa' := hr0 _ hpa
    obtain ⟨hx1000, hinc, hstep⟩ := hok ln x hln1.1 (by omega) hxx
    obtain ⟨vp, hvp, hIp, hf0, hf1⟩ := prog_par (st := turn + i) hIa hIb
    k_steps
    rotate_left 1
    · exfalso
      have hany := (by assumption : ([1, 2, 3].any fun x => x == ln) = false)
      simp at hany
      omega
    refine Stop.mk ?_
    refine' tells_use (rev_tells _ vp x.1 (hitsOf (abK (turn + i)) x.2) cl _ _ (hIp.mono ?hmm) (hinc _)) ?k1 ?k2 ?k3 ?k4 ?k5 ?k6 ?k7 ?k8 ?_
    (case k1 => k_asm)
    (case k2 => k_asm)
    (case k3 => k_asm)
    (case k4 => k_asm)
    (case k5 => k_asm)
    (case k6 => exact rfl)
    (case k7 => ktr_room)
    (case k8 => ktr_units)
    case hmm => intro p hp; repeat (first | exact hr0 p hp | refine .tail _ ?_)
    rintro r nx h' tk' F4 N4 ⟨rfl, hS⟩
    have hst := hstep cl (turn + i)
    unfold StepOk at hst
    dsimp only
    cases hrev : revP (hitsOf (abK (turn + i)) x.2) cl with
    | none =>
      rw [hrev] at hS hst
      have hr : r = .none := hS
      subst hr
      k_steps
      dsimp only [PostX]
      k_steps
      rename News h₀ L _ _ => NF
      rename Fr h₀ L _ _ => FF
      rename _ ∧ _ ∧ _ ∧ _ ∧ _ ∧ AllLt _ rest => lA
      have e := hW.ends hi hst
      exact led_retW (ret_as e hret) FF NF (.head _) (by intro p hp; repeat (first | exact hp | refine .tail _ ?_)) hr0 hro (fun q hq => ktn_ltOf lA.2.2.2.2.2 q (hr0 q hq)) (du.append (.one (.str _ _)))
    | some hh =>
      rw [hrev] at hS hst
      obtain ⟨hh0, hh1, hsaid⟩ := hst
      have hS' : IsHit w _ r hh.1 hh.2 := hS
      obtain ⟨fh, dh, tkh, gh, fdh, fdgh, slfh, odgh, slgh, rfl, q1, q2, q3, T2⟩ := hS'
      k_steps
      refine Stop.mk ?_
      refine' tells_use (T2 _ (fun _ h => h)) ?k1 ?k2 ?k3 ?k4 ?k5 ?k6 ?k7 ?k8 ?_; (case k1 => k_asm); (case k2 => k_asm); (case k3 => k_asm); (case k4 => k_asm); (case k5 => k_asm); (case k6 => exact rfl); (case k7 => ktr_room); (case k8 => ktr_units)
      intro r nx5 h' tk' F5 N5 hR5
      obtain ⟨tl5, a5, n5, v51, v52, rfl, ho5, rfl, ma5⟩ := hR5.two
      simp only [List.cons_append] at N5 ma5
      dsimp only
      k_steps
      refine Stop.mk ?_
      have hsl : (Txt.slice x.1 none (some hh.2)).length ≤ 1000 := Nat.le_trans (Txt.slice_le _ _ _) hx1000
      refine' tells_use (http_tells (Txt.slice x.1 none (some hh.2)) _ _ hsl) ?k1 ?k2 ?k3 ?k4 ?k5 ?k6 ?k7 ?k8 ?_; (case k1 => k_asm); (case k2 => k_asm); (case k3 => k_asm); (case k4 => k_asm); (case k5 => k_asm); (case k6 => exact rfl); (case k7 => ktr_room); (case k8 => ktr_units)
      rintro r nx6 h' tk' F6 N6 ⟨⟨tl6, rfl, hne6⟩, hd6⟩
      obtain ⟨a6, v6, n6, rfl, ma6, hs6⟩ := list_strs hd6
      simp only [List.cons_append] at N6 ma6 hd6
      obtain ⟨hs1, hs2, hs3, hs4⟩ := hsaid
      dsimp only
      k_steps
      refine Stop.mk ?_
      refine' tellsO_use (keqv_tells (httpList (Txt.slice x.1 none (some hh.2))) a6 v6 n6 _ ?hm6 hs6 hs3 hs1 hs2) ?k1 ?k2 ?k3 ?k4 ?k5 ?k6 ?k7 ?k8 ?ret ?raise; (case k1 => k_asm); (case k2 => k_asm); (case k3 => k_asm); (case k4 => k_asm); (case k5 => k_asm); (case k6 => exact rfl); (case k7 => ktr_room); (case k8 => ktr_units)
      case hm6 => repeat (first | exact ma6 | refine .tail _ ?_)
      case raise =>
        intro X8 hX8 G8 e8 nw8 h' tk' F8 hsub8 R8 U8
        rcases hs4 with ⟨hk1, hk2⟩ | ⟨hk1, hk2⟩ | ⟨hk1, hk2⟩
        rotate_left 2
        · rw [hk1] at hX8; cases hX8
        all_goals (
          rw [hk1] at hX8; cases hX8
          have mlw8 : (lw, listOf us.toArray nw) ∈ nw8 := hsub8 _ (by repeat (first | exact .head _ | refine .tail _ ?_))
          have hsr8 : ∀ p ∈ rest, p ∈ nw8 := fun p hp => hsub8 p (by repeat (first | exact List.mem_append.mpr (.inl (List.mem_append.mpr (.inl hp))) | refine .tail _ ?_))
          dsimp only
          k_steps
          dsimp only [PostX]
          k_steps
          rename News h₀ L _ _ => NF
          rename Fr h₀ L _ _ => FF
          rename _ ∧ AllLt _ nw8 => lA
          have e := hW.ends hi hk2
          exact led_retW (ret_as e hret) FF NF (.head _) (fun p hp => .tail _ (.tail _ (hsr8 p hp))) hr0 hro (fun q hq => ktn_ltOf lA.2 q (hsr8 q (hr0 q hq))) (du.append (.one (.str _ _))))
      case ret =>
        rintro hnone r nx7 h' tk' F7 N7 ⟨d7, o7, kvs7, ps7, tl7, rfl, rfl, hne7, md7, hD7, hP7, hps7, lo7⟩
        dsimp only
        rcases hs4 with ⟨hk1, _⟩ | ⟨hk1, _⟩ | ⟨_, hsd⟩
        · rw [hk1] at hnone; cases hnone
        · rw [hk1] at hnone; cases hnone
        obtain ⟨vv, hlook, hvl, hglc⟩ := hsd ps7 hps7
        simp only [List.cons_append] at N7 md7
        k_steps
        refine Stop.mk ?_
        rcases hglc with ⟨gp, gq, gl, gc, g1, g2, g3, g4, g5, g6, g7, g8⟩ | ⟨gp, gn, g1, g2, g3, g4⟩
        · refine' tells_use (glc_tells vv _ gp gq gl gc _ hvl g1 g2 g3 g4 g5) ?k1 ?k2 ?k3 ?k4 ?k5 ?k6 ?k7 ?k8 ?_; (case k1 => k_asm); (case k2 => k_asm); (case k3 => k_asm); (case k4 => k_asm); (case k5 => k_asm); (case k6 => exact rfl); (case k7 => ktr_room); (case k8 => ktr_units)
          rintro r nx8 h' tk' F8 N8 ⟨tl8, rfl, hne8, hd8⟩
          obtain ⟨a8, n8, w1, w2, rfl, m8⟩ := datIn_pair (x := (gl, gc)) hd8
          dsimp only at m8
          obtain ⟨rest9, h9⟩ : ∃ r, r = rest ++ tl5 ++ tl6 ++ tl7 ++ tl8 := ⟨_, rfl⟩
          simp only [List.cons_append] at N8
          rw [← h9] at N8
          have m9 : (a8, ({ cls := .type "tuple", data := .seq #[.int gl w1, .int gc w2] n8 } : Obj)) ∈ rest9 := by rw [h9]; exact List.mem_append.mpr (.inr m8)
          have in5 : ∀ p ∈ rest9, p ∈ rest ∨ p ∈ tl5 ∨ p ∈ tl6 ∨ p ∈ tl7 ∨ p ∈ tl8 := fun p hp => by
            rw [h9] at hp
            simp only [List.mem_append, or_assoc] at hp
            exact hp
          have z9 : ∀ p ∈ rest9, p.1 ≠ lw := fun p hp => by
            rcases in5 p hp with h | h | h | h | h
            · exact e0 p h
            · exact Nat.ne_of_gt (ho5 (lw, listOf us.toArray nw) (by repeat (first | exact .head _ | refine .tail _ ?_)) p h)
            · exact hne6 p h (lw, listOf us.toArray nw) (by repeat (first | exact .head _ | refine .tail _ ?_))
            · exact hne7 p h (lw, listOf us.toArray nw) (by repeat (first | exact .head _ | refine .tail _ ?_))
            · exact hne8 p h (lw, listOf us.toArray nw) (by repeat (first | exact .head _ | refine .tail _ ?_))
          have hus2 : us.length ≤ 1000 := Nat.le_trans hus (by decide)
          dsimp only
          k_steps
          with_reducible rename News _ _ _ _ => N9
          with_reducible rename Fr _ _ _ _ => F9
          have e := hW.next hi g8
          rw [List.push_toArray] at N9
          have s8 : ∀ p ∈ rest ++ tl8, p ∈ rest9 := fun p hp => by
            rw [h9]
            rcases List.mem_append.mp hp with h | h
            · exact List.mem_append.mpr (.inl (List.mem_append.mpr (.inl (List.mem_append.mpr (.inl (List.mem_append.mpr (.inl h)))))))
            · exact List.mem_append.mpr (.inr h)
          refine walked_end F9 N9 rfl (by repeat (first | exact .head _ | refine .tail _ ?_)) (by repeat (first | exact .head _ | refine .tail _ ?_)) (fun p hp => by
            have := s8 p hp
            repeat (first | exact this | refine .tail _ ?_)) rfl rfl rfl rfl rfl du hd8 e ⟨g6, g7⟩ hr0 (fun p hp => z9 p (s8 p hp)) ?_ y0 ?_
          · intro p hp
            rcases List.mem_append.mp hp with h | h
            · exact hro p h
            · exact .inr fun q hq => hne8 p h q (by
                have := hr0 q hq
                repeat (first | exact List.mem_append.mpr (.inl (List.mem_append.mpr (.inl (List.mem_append.mpr (.inl this))))) | refine .tail _ ?_))
          · intro p hp
            rcases List.mem_append.mp hp with h | h
            · exact yr p h
            · exact hne8 p h (I, oI) (by repeat (first | exact .head _ | refine .tail _ ?_))
        · refine' tellsX_use (glc_raises vv _ gp gn _ hvl g1 g2 g3) ?k1 ?k2 ?k3 ?k4 ?k5 ?k6 ?k7 ?k8 ?_; (case k1 => k_asm); (case k2 => k_asm); (case k3 => k_asm); (case k4 => k_asm); (case k5 => k_asm); (case k6 => exact rfl); (case k7 => ktr_room); (case k8 => ktr_units)
          intro G8 e8 nw8 h' tk' F8 hsub8 R8 U8
          have mlw8 : (lw, listOf us.toArray nw) ∈ nw8 := hsub8 _ (by repeat (first | exact .head _ | refine .tail _ ?_))
          have hsr8 : ∀ p ∈ rest, p ∈ nw8 := fun p hp => hsub8 p (by repeat (first | exact List.mem_append.mpr (.inl (List.mem_append.mpr (.inl (List.mem_append.mpr (.inl hp))))) | refine .tail _ ?_))
          dsimp only
          k_steps
          dsimp only [PostX]
          k_steps
          rename News h₀ L _ _ => NF
          rename Fr h₀ L _ _ => FF
          rename _ ∧ AllLt _ nw8 => lA
          have e := hW.ends hi g4
          exact led_retW (ret_as e hret) FF NF (.head _) (fun p hp => .tail _ (.tail _ (hsr8 p hp))) hr0 hro (fun q hq => ktn_ltOf lA.2 q (hsr8 q (hr0 q hq))) (du.append (.one (.str _ _)))
  case done =>
    rintro m₁ nx h tk ⟨us, nw, ln, cl, t1, t2, pre, rest, rfl, du, hW, hln1, hr0, e0, hro, b1, b2, b3, b4, b5⟩ F2 N2
    have F3 := fr_puts F2 (.cons b1 .nil)
    simp only [putsM] at F3
    clear F2 F1 N1 b1 b2 b3 b4 b5
    dsimp only
    k_steps
    rename News h₀ L _ _ => NF
    rename Fr h₀ L _ _ => FF
    exact led_retW (ret_as hW.full hret) FF NF (.head _) (fun p hp => .tail _ hp) hr0 hro l0 du

end Mine
end

section
open PySem PySem.W PyProof.Rows
set_option maxRecDepth 100000
set_option maxHeartbeats 40000000
namespace Mine
theorem reg_Law_1 : True := by
  w_top off
  k_with_none
  k_with "my big" => lia
  k_with "my omega" => first
      | with_reducible assumption
      | decide
      | ((fail_if_success (fail_if_success omega (config := {})))
         first
           | k_extra "my om"
           | k_extra "my big"
           | omega (config := {}))
  k_with "my om" => first
      | (with_reducible refine' rm0 ?h; (case h => with_reducible assumption))
      | (with_reducible refine' rm1 ?h ?e; (case h => with_reducible assumption); (case e => decide))
      | (with_reducible refine' rm2 ?h ?e; (case h => with_reducible assumption); (case e => decide))
      | (with_reducible refine' rm3 ?h ?e; (case h => with_reducible assumption); (case e => decide))
      | (with_reducible refine' bd1 ?h ?e; (case h => with_reducible assumption); (case e => decide))
      | (with_reducible refine' bd3 ?h ?e; (case h => with_reducible assumption); (case e => decide))
      | (with_reducible refine' bd4 ?h ?e; (case h => with_reducible assumption); (case e => decide))
      | (with_reducible refine' bz1 ?h ?e; (case h => walk_at "lt"); (case e => decide))
      | (with_reducible refine' bz3 ?h ?e; (case h => walk_at "lt"); (case e => decide))
      | (with_reducible refine' bd2 ?q ?h ?e; (case q => with_reducible assumption); (case h => with_reducible assumption); (case e => decide))
      | walk_at "lt2"
      | (with_reducible refine Nat.le_of_lt ?_; walk_at "lt2")
      | (with_reducible refine Nat.ne_of_lt ?_; walk_at "lt2")
      | (with_reducible refine Nat.ne_of_gt ?_; walk_at "lt2")
      | ((with_reducible refine And.intro ?_ ?_) <;> k_extra "my omega")
      | (with_reducible refine' Nat.lt_trans ?a ?b; (case b => with_reducible assumption); (case a => walk_at "lt2"))
      | (with_reducible refine' Nat.lt_trans ?a ?b; (case a => with_reducible assumption); (case b => walk_at "lt2"))
      | (with_reducible refine' Nat.lt_of_le_of_lt ?a ?b; (case b => with_reducible assumption); (case a => walk_at "lt2"))
      | (with_reducible refine' Nat.lt_of_le_of_lt ?a ?b; (case a => with_reducible assumption); (case b => walk_at "lt2"))
      | (with_reducible refine' Nat.lt_of_lt_of_le ?a ?b; (case b => with_reducible assumption); (case a => walk_at "lt2"))
      | (with_reducible refine' Nat.lt_of_lt_of_le ?a ?b; (case a => with_reducible assumption); (case b => walk_at "lt2"))
      | (with_reducible refine' Nat.le_trans ?a ?b; (case b => with_reducible assumption); (case a => walk_at "lt2"))
      | (with_reducible refine' Nat.le_trans ?a ?b; (case a => with_reducible assumption); (case b => walk_at "lt2"))
  k_with "my lt" => first
      | with_reducible assumption
      | (refine' And.left ?h; (case h => with_reducible assumption))
      | (refine' And.left (And.right ?h); (case h => with_reducible assumption))
      | (refine' And.left (And.right (And.right ?h)); (case h => with_reducible assumption))
      | (refine' And.left (And.right (And.right (And.right ?h))); (case h => with_reducible assumption))
      | (refine' And.left (And.right (And.right (And.right (And.right ?h)))); (case h => with_reducible assumption))
      | (refine' And.left (And.right (And.right (And.right (And.right (And.right ?h))))); (case h => with_reducible assumption))
      | (refine' And.left (And.right (And.right (And.right (And.right (And.right (And.right ?h)))))); (case h => with_reducible assumption))
      | (refine' And.left (And.right (And.right (And.right (And.right (And.right (And.right (And.right ?h))))))); (case h => with_reducible assumption))
      | (refine' And.left (And.right (And.right (And.right (And.right (And.right (And.right (And.right (And.right ?h)))))))); (case h => with_reducible assumption))
      | (refine' And.left (And.right (And.right (And.right (And.right (And.right (And.right (And.right (And.right (And.right ?h))))))))); (case h => with_reducible assumption))
      | (refine' And.left (And.right (And.right (And.right (And.right (And.right (And.right (And.right (And.right (And.right (And.right ?h)))))))))); (case h => with_reducible assumption))
  k_with "my lt2" => first
      | walk_at "lt"
      | (with_reducible exact ad1)
      | (with_reducible exact ad2)
      | (with_reducible exact ad3)
      | (with_reducible exact ad4)
      | (with_reducible refine ar1 ?_; walk_at "lt")
      | (with_reducible refine ar2 ?_; walk_at "lt")
      | (with_reducible refine ar3 ?_; walk_at "lt")
      | (with_reducible refine ar4 ?_; walk_at "lt")
      | (with_reducible refine as1 ?_; walk_at "lt")
      | (with_reducible refine as2 ?_; walk_at "lt")
      | (with_reducible refine as3 ?_; walk_at "lt")
      | (with_reducible refine as4 ?_; walk_at "lt")
  k_with "my ar" => ((try dsimp only); first
      | with_reducible exact Nat.le_refl _
      | walk_at "lt2"
      | (refine Nat.le_of_lt ?_; walk_at "lt2")
      | (refine Nat.ne_of_lt ?_; walk_at "lt2")
      | (refine Nat.ne_of_gt ?_; walk_at "lt2")
      | k_extra "my ar2"
      | omega)
  k_with "my k_ne" => (refine neN ?_; (try dsimp only); first
      | with_reducible assumption
      | (refine Ne.symm ?_; with_reducible assumption)
      | (refine Nat.ne_of_lt ?_; walk_at "lt")
      | (refine Nat.ne_of_gt ?_; walk_at "lt")
      | omega)
  k_with "my k_all" => first | assumption | exact ne_above (by assumption) (by walk_at "ar")
  k_with "my k_mem" => first | assumption | (refine List.mem_append.mpr (Or.inl ?_); k_mem) | (refine List.mem_append.mpr (Or.inr ?_); k_mem)
  k_with "my call ref" => (k_here; refine stop_here ?_)
  k_with "my pyIter ref" => refine stop_here ?_
  k_with "my exec For Name List cons nil" => refine stop_here ?_
  k_with "my exec Assign cons ListComp" => (k_here; refine stop_here ?_)
  k_with "my eval Subscript BoolOp Slice" => (k_here; (with_reducible show wpAny _ _ _ (fun _ _ => wpAny _ _ _ _ _ _) _ _); refine stop_here ?_)
  k_with "my subscriptTail" => (k_here; (with_reducible show wpAny _ _ (subscriptTail _ _ (Value.ref _) (Value.int _ _)) _ _ _); k_dflt (refine' list_item ?kN ?hm ?h0 ?h1 ?hx ?_ ?hs; (case kN => k_asm); (case hm => k_mem); (case hx => with_reducible assumption); (case h0 => omega); (case h1 => omega); (case hs => with_unfolding_all rfl); k_whole))
  k_with "my mm" => first | with_reducible exact mat 0 rfl | exact mat 0 rfl | exact mat 1 rfl | exact mat 2 rfl | exact mat 3 rfl | exact mat 4 rfl | exact mat 5 rfl | exact mat 6 rfl | exact mat 7 rfl | exact mat 8 rfl | exact mat 9 rfl | exact mat 10 rfl | exact mat 11 rfl
  k_with "my sub" => (repeat (refine allc ?mm ?_; (case mm => walk_at "mm")))
  trivial
/-- the list of numbers stands -/
noncomputable def NumsAt (h₀ : Heap) (L : Addr) (s : Shared) (v : Value) (s₁ : Shared) : Prop :=
  ∃ D m vs ns nn h' tk' o1 o2 c1 c2, v = .ref D ∧ s₁ = { s with heap := h', toks := tk' } ∧ Fr h₀ L h' m ∧ News h₀ L h' [(D, listOf vs.toArray nn), (L + 1 + 1, o1), (L + 1, o2), (56, tabObj #[]), (63, tabObj #[])] ∧ IntsAre vs ns ∧ (1 ≤ ns.length ∧ ns.length ≤ 6) ∧ @LT.lt Nat _ (L + 1 + 1) D ∧ o1.data = .cell c1 ∧ o2.data = .cell c2
theorem join_nums {M : Model} {A : Around} {c : Sem Value} {h₀ : Heap} {L : Addr} {m : Str → Option Value} {s : Shared} {Q E : Value → Shared → Prop}
    (F : Fr h₀ L s.heap m) (h1 : wpAny M A c (NumsAt h₀ L s) E s) (h2 : ∀ v s₁, NumsAt h₀ L s v s₁ → Q v s₁) : wpAny M A c Q E s :=
  wpAny_mono h1 h2 fun _ _ e => e
theorem nums_at1 {h₀ h' : Heap} {L D : Addr} {m : Str → Option Value} {o1 o2 : Obj} {c1 c2 : Option Value} {s s₁ : Shared} {vs : List Value} {ns : List Int} {nn tk' : Nat} (F : Fr h₀ L h' m) (N : News h₀ L h' [(D, listOf vs.toArray nn), (L + 1 + 1, o1), (L + 1, o2), (56, tabObj #[]), (63, tabObj #[])])
    (hI : IntsAre vs ns) (hl : 1 ≤ ns.length ∧ ns.length ≤ 6) (hD : @LT.lt Nat _ (L + 1 + 1) D) (e1 : o1.data = .cell c1) (e2 : o2.data = .cell c2) (e : s₁ = { s with heap := h', toks := tk' }) : NumsAt h₀ L s (.ref D) s₁ :=
  ⟨D, m, vs, ns, nn, h', tk', o1, o2, c1, c2, rfl, e, F, N, hI, hl, hD, e1, e2⟩
theorem nums_at2 {h₀ h' : Heap} {L D : Addr} {m : Str → Option Value} {o1 o2 : Obj} {x : Addr × Obj} {c1 c2 : Option Value} {s s₁ : Shared} {vs : List Value} {ns : List Int} {nn tk' : Nat} (F : Fr h₀ L h' m) (N : News h₀ L h' [(D, listOf vs.toArray nn), x, (L + 1 + 1, o1), (L + 1, o2), (56, tabObj #[]), (63, tabObj #[])])
    (hI : IntsAre vs ns) (hl : 1 ≤ ns.length ∧ ns.length ≤ 6) (hD : @LT.lt Nat _ (L + 1 + 1) D) (e1 : o1.data = .cell c1) (e2 : o2.data = .cell c2) (e : s₁ = { s with heap := h', toks := tk' }) : NumsAt h₀ L s (.ref D) s₁ :=
  ⟨D, m, vs, ns, nn, h', tk', o1, o2, c1, c2, rfl, e, F, fun p hp => N p ((List.mem_cons.mp hp).elim (fun h => List.mem_cons.mpr (.inl h)) fun hp => .tail _ (.tail _ hp)), hI, hl, hD, e1, e2⟩
mutual
theorem DatIn.only {news news' : List (Addr × Obj)} (hs : ∀ p ∈ news, (∃ xs n, p.2.data = .seq xs n) → p ∈ news') : ∀ {v : Value} {d : Dat}, DatIn news v d → DatIn news' v d
  | _, _, .none => .none
  | _, _, .bool b => .bool b
  | _, _, .int i t => .int i t
  | _, _, .str x t => .str x t
  | _, _, .bytes b t => .bytes b t
  | _, _, .tuple h r => .tuple (hs _ h ⟨_, _, rfl⟩) (DatAll.only hs r)
  | _, _, .list h r => .list (hs _ h ⟨_, _, rfl⟩) (DatAll.only hs r)
theorem DatAll.only {news news' : List (Addr × Obj)} (hs : ∀ p ∈ news, (∃ xs n, p.2.data = .seq xs n) → p ∈ news') : ∀ {vs : List Value} {ds : List Dat}, DatAll news vs ds → DatAll news' vs ds
  | _, _, .nil => .nil
  | _, _, .cons h r => .cons (DatIn.only hs h) (DatAll.only hs r)
end
theorem datIn_itemsD {news : List (Addr × Obj)} {v : Value} {l : List Item} (h : DatIn news v (itemsD l)) : ∃ i vs n, v = .ref i ∧ (i, listOf vs.toArray n) ∈ news ∧ DatAll news vs (l.map Item.dat) := by
  unfold itemsD at h
  cases h with
  | list hm ha => exact ⟨_, _, _, rfl, hm, ha⟩
/-- what the rows are in the ledger -/
noncomputable def RowsIn (ns : List Int) (lr li i0 i1 i2 : Addr) (rest : List (Addr × Obj)) : Prop :=
  ∃ t0 t1 t2 n1 n2 v0 v1 v2 k0 k1 k2, (lr, listOf #[.str (rowOf ns 0).1 t0, .str (rowOf ns 1).1 t1, .str (rowOf ns 2).1 t2] n1) ∈ rest ∧ (li, listOf #[.ref i0, .ref i1, .ref i2] n2) ∈ rest ∧
    (i0, listOf (v0 : List Value).toArray k0) ∈ rest ∧ DatAll rest v0 ((rowOf ns 0).2.map Item.dat) ∧ (i1, listOf (v1 : List Value).toArray k1) ∈ rest ∧ DatAll rest v1 ((rowOf ns 1).2.map Item.dat) ∧ (i2, listOf (v2 : List Value).toArray k2) ∈ rest ∧ DatAll rest v2 ((rowOf ns 2).2.map Item.dat)
theorem only5 {D C1 C2 : Addr} {o1 o2 oD : Obj} {tl : List (Addr × Obj)} {c1 c2 : Option Value} (h1 : o1.data = .cell c1) (h2 : o2.data = .cell c2) :
    ∀ p ∈ (D, oD) :: (C2, o1) :: (C1, o2) :: (56, tabObj #[]) :: (63, tabObj #[]) :: tl, (∃ xs n, p.2.data = .seq xs n) → p ∈ (D, oD) :: tl :=
  allc (fun _ => .head _) (allc (fun ⟨_, _, e⟩ => by have e := h1.symm.trans e; cases e) (allc (fun ⟨_, _, e⟩ => by have e := h2.symm.trans e; cases e) (allc (fun ⟨_, _, e⟩ => nomatch e) (allc (fun ⟨_, _, e⟩ => nomatch e) fun _ hp _ => .tail _ hp))))
theorem rows_in {ns : List Int} {news : List (Addr × Obj)} {r : Value} (h : DatIn news r (rowsDat ns)) : ∃ a lr li i0 i1 i2 n, r = .ref a ∧ (a, ({ cls := .type "tuple", data := .seq #[.ref lr, .ref li] n } : Obj)) ∈ news ∧ RowsIn ns lr li i0 i1 i2 news := by
  unfold rowsDat at h
  obtain ⟨a, x, n, rfl, hm, h⟩ := inv_tuple h
  obtain ⟨v, u, rfl, h1, h2⟩ := inv2 h
  obtain ⟨lr, x, n1, rfl, m1, h1⟩ := inv_list h1
  obtain ⟨li, y, n2, rfl, m2, h2⟩ := inv_list h2
  obtain ⟨s0, s1, s2, rfl, b0, b1, b2⟩ := inv3 h1
  obtain ⟨c0, c1, c2, rfl, d0, d1, d2⟩ := inv3 h2
  obtain ⟨t0, rfl⟩ := inv_str b0
  obtain ⟨t1, rfl⟩ := inv_str b1
  obtain ⟨t2, rfl⟩ := inv_str b2
  obtain ⟨i0, v0, k0, rfl, g0, d0⟩ := datIn_itemsD d0
  obtain ⟨i1, v1, k1, rfl, g1, d1⟩ := datIn_itemsD d1
  obtain ⟨i2, v2, k2, rfl, g2, d2⟩ := datIn_itemsD d2
  exact ⟨_, _, _, i0, i1, i2, _, rfl, hm, _, _, _, _, _, v0, v1, v2, k0, k1, k2, m1, m2, g0, d0, g1, d1, g2, d2⟩
theorem rows_un {ns : List Int} {D L : Addr} {o1 o2 oD : Obj} {nx : List (Addr × Obj)} {r : Value} (h : RetD [(D, oD), (L + 1 + 1, o1), (L + 1, o2), (56, tabObj #[]), (63, tabObj #[])] (rowsDat ns) nx r)
    (h1 : ∃ v, o1.data = .cell v) (h2 : ∃ v, o2.data = .cell v) (hD : @LT.lt Nat _ (L + 1 + 1) D) :
    ∃ a lr li i0 i1 i2 n rest, r = .ref a ∧ (∀ p ∈ (L + 1 + 1, o1) :: (L + 1, o2) :: (56, tabObj #[]) :: (63, tabObj #[]) :: rest, p ∈ nx) ∧ (a, ({ cls := .type "tuple", data := .seq #[.ref lr, .ref li] n } : Obj)) ∈ rest ∧ RowsIn ns lr li i0 i1 i2 rest ∧ (∀ p ∈ rest, @LT.lt Nat _ (L + 1 + 1) p.1) := by
  obtain ⟨⟨tl, rfl, ho⟩, hd⟩ := h
  obtain ⟨c1, h1⟩ := h1
  obtain ⟨c2, h2⟩ := h2
  obtain ⟨a, lr, li, i0, i1, i2, n, rfl, hm, hR⟩ := rows_in (Mine.DatIn.only (only5 h1 h2) hd)
  exact ⟨a, lr, li, i0, i1, i2, n, (D, oD) :: tl, rfl, allc (mat 1 rfl) (allc (mat 2 rfl) (allc (mat 3 rfl) (allc (mat 4 rfl) (allc (mat 0 rfl) fun _ hp => mdr 5 rfl hp)))), hm, hR, allc hD (ho _ (.tail _ (.head _)))⟩
theorem three_at {i : Nat} {v : Value} {t : Tok} (h : ([.int 1 t, .int 2 (t + 1), .int 3 (t + 1 + 1)] : List Value)[i]? = some v) : ∃ ln u, v = .int ln u ∧ 1 ≤ ln ∧ ln ≤ 3 := by
  match i with
  | 0 => simp at h; exact ⟨_, _, h.symm, by omega, by omega⟩
  | 1 => simp at h; exact ⟨_, _, h.symm, by omega, by omega⟩
  | 2 => simp at h; exact ⟨_, _, h.symm, by omega, by omega⟩
  | i + 3 => simp at h
theorem two_at {i : Nat} {v : Value} {a b : Int} {t u : Tok} (h : ([.int a t, .int b u] : List Value)[i]? = some v) : ∃ c u, v = .int c u ∧ (c = a ∨ c = b) := by
  match i with
  | 0 => simp at h; exact ⟨_, _, h.symm, .inl rfl⟩
  | 1 => simp at h; exact ⟨_, _, h.symm, .inr rfl⟩
  | i + 2 => simp at h
theorem txt_at {ns : List Int} {s0 s1 s2 : Tok} {ln : Int} (hl : ns.length ≤ 6) (h : 1 ≤ ln ∧ ln ≤ 3) : ∃ x t, ([.str (rowOf ns 0).1 s0, .str (rowOf ns 1).1 s1, .str (rowOf ns 2).1 s2] : List Value)[(ln - 1).toNat]? = some (.str x t) ∧ x.length ≤ 1000 := by
  have h0 := rowOf_len ns 0
  have h1 := rowOf_len ns 1
  have h2 := rowOf_len ns 2
  have h3 : ln = 1 ∨ ln = 2 ∨ ln = 3 := by omega
  rcases h3 with rfl | rfl | rfl
  · exact ⟨_, _, rfl, by omega⟩
  · exact ⟨_, _, rfl, by omega⟩
  · exact ⟨_, _, rfl, by omega⟩
theorem tellsT_use {w : World} {f : Addr} {k : Nat} {vs : List Value} {news : List (Addr × Obj)} {R : List (Addr × Obj) → Value → Prop} (Ct : TellsT w f k vs news R)
    {p : Program} {loose : List Str} {mean : ExcName → Option Value} {mg mb : Str → Option Value} {dp un : Nat} {gd : Option (List Code)} {cn : Str} {cs : Scope} {a : Addr} {ccd : Value} {cl : List (Str × Addr)} {A₀ : Around} {h₀ : Heap} {L : Addr} {m : Str → Option Value} {s : Shared}
    {Q E : Value → Shared → Prop} (X : (Mine.hd.heap_39 w.params).In h₀) (B : Below A₀ h₀ [] h₀) (F : Fr h₀ L s.heap m) (N : News h₀ L s.heap news) (T : Top p loose mean mg mb h₀) (hk : cs.kind = .function) (hd : dp + k < recursionLimit) (hu : un + 8 * k < cLine)
    (ret : ∀ r nx h' tk', Fr h₀ L h' m → News h₀ L h' nx → R nx r → Q r { s with heap := h', toks := tk' }) :
    wpAny (model PySem.Challenge.rw_mq0134_01.row.prog w) (ktrTop dp un gd cn cs L a ccd cl []) (call (.ref f) vs) Q E s :=
  Ct p loose mean mg mb dp un gd cn cs a ccd cl A₀ h₀ h₀ L m s Q E X X B F N T T hk hd hu ret
theorem news_hide {h₀ h : Heap} {L : Addr} {l : List (Addr × Obj)} (N : News h₀ L h l) : ∃ nw, News h₀ L h nw ∧ ∀ p ∈ l, p ∈ nw := ⟨l, N, fun _ h => h⟩
theorem walkN_ok {f : Int → Int → Int → Dat ⊕ (Int × Int)} (hf : ∀ l c s d, f l c s = .inl d → kqdOk 8 d = true) : ∀ (n : Nat) (l c s : Int), ∀ d ∈ walkN f n l c s, kqdOk 8 d = true
  | 0, _, _, _, d, h => nomatch h
  | n + 1, l, c, s, d, h => by
    rw [walkN] at h
    split at h
    · rename_i d' e
      rw [List.mem_singleton.mp h]; exact hf _ _ _ _ e
    · rcases List.mem_cons.mp h with rfl | h
      · rfl
      · exact walkN_ok hf n _ _ _ d h
theorem wordEnd_ok {ws : List Word} {d : Dat} (h : wordEnd ws = .inl d) : kqdOk 8 d = true := by
  unfold wordEnd at h
  split at h
  · cases h; exact okD _
  · split at h
    · cases h
    · cases h; show PyData.strOk (PySem.Str.ofString "no place") = true; kernel_rfl
theorem dueP_ok (rows : List (List Item)) (line col turn : Int) : ∀ d ∈ dueP rows line col turn, kqdOk 8 d = true := by
  refine walkN_ok (fun l c s d h => ?_) 3 line col turn
  unfold duStep at h
  split at h
  · cases h; show PyData.strOk (PySem.Str.ofString "no row") = true; kernel_rfl
  · split at h
    · cases h; show PyData.strOk (PySem.Str.ofString "no item") = true; kernel_rfl
    · exact wordEnd_ok h
theorem ne_same {prog : Program} {w : World} {A : Around} {E : Value → Shared → Prop} {s : Shared} {h₀ : Heap} {L a b : Addr} {news : List (Addr × Obj)} {xs ys : List Value} {ka kb : Nat} {ds es : List Dat} {Q : Value → Shared → Prop} (N : News h₀ L s.heap news)
    (ma : (a, listOf xs.toArray ka) ∈ news) (Da : DatAll news xs ds) (mb : (b, listOf ys.toArray kb) ∈ news) (Db : DatAll news ys es) (e : ds = es) (ha : ∀ d ∈ ds, kqdOk 8 d = true) (hu : A.units + 64 < cLine) (h : Q (.bool false) s) :
    wpAny (model prog w) A (compareOp .NotEq (.ref a) (.ref b)) Q E s := by
  subst e
  refine kqd_ne N ma rfl rfl Da (fun _ h => h) mb rfl rfl Db (fun _ h => h) ha ha hu ?_
  simpa using h
/-- what the plain law must show -/
structure PlainOk (ns : List Int) : Prop where
  inc : ∀ k j : Int, Incr 0 (hitsOf (abK j) (rowOf ns k).2)
  bd : ∀ k j : Int, ∀ h ∈ hitsOf (abK j) (rowOf ns k).2, h.2 ≤ 1000
  word : ∀ k : Int, ∀ it ∈ (rowOf ns k).2, WordOk it.word
  step : ∀ (ln : Int) (x : Row), 1 ≤ ln → ln ≤ 3 → [rowOf ns 0, rowOf ns 1, rowOf ns 2][(ln - 1).toNat]? = some x → ∀ cl st, StepOk x (abK st) cl (duStep ([rowOf ns 0, rowOf ns 1, rowOf ns 2].map (·.2)) ln cl st)
theorem rows_at {ns : List Int} {lr li i0 i1 i2 : Addr} {rest : List (Addr × Obj)} (h : RowsIn ns lr li i0 i1 i2 rest) : ∃ ts is n1 n2, (lr, listOf (ts : List Value).toArray n1) ∈ rest ∧ (li, listOf (is : List Value).toArray n2) ∈ rest ∧
    ∀ i : Nat, i < 3 → ∃ t l vs k, ts[((0 : Int) + (i : Int)).toNat]? = some (.str (rowOf ns i).1 t) ∧ is[((0 : Int) + (i : Int)).toNat]? = some (.ref l) ∧ (l, listOf (vs : List Value).toArray k) ∈ rest ∧ DatAll rest vs ((rowOf ns i).2.map Item.dat) := by
  obtain ⟨t0, t1, t2, n1, n2, v0, v1, v2, k0, k1, k2, mlr, mli, m0, d0, m1, d1, m2, d2⟩ := h
  refine ⟨[_, _, _], [_, _, _], n1, n2, mlr, mli, fun i hi => ?_⟩
  have h3 : i = 0 ∨ i = 1 ∨ i = 2 := by omega
  rcases h3 with rfl | rfl | rfl
  · exact ⟨_, _, _, _, rfl, rfl, m0, d0⟩
  · exact ⟨_, _, _, _, rfl, rfl, m1, d1⟩
  · exact ⟨_, _, _, _, rfl, rfl, m2, d2⟩
noncomputable def Away (C1 C2 : Addr) (l : List (Addr × Obj)) : Prop := ∀ p ∈ l, (@Ne Nat p.1 C2) ∧ (@Ne Nat p.1 C1) ∧ (@Ne Nat p.1 56) ∧ (@Ne Nat p.1 63)
noncomputable def progsJ (w : World) (ns : List Int) (C1 C2 : Addr) (o1 o2 : Obj) (rest0 : List (Addr × Obj)) (i : Nat) (ys : List Value) (nx : List (Addr × Obj)) : Prop :=
  ∃ ps pz rest, nx = (C2, o1) :: (C1, o2) :: (56, tabObj ps) :: (63, tabObj pz) :: rest ∧ (∀ p ∈ rest0, p ∈ rest) ∧ Tab56 rest ps ∧ Tab63 rest pz ∧ Away C1 C2 rest ∧ ys.length = i ∧ ∀ j : Nat, j < i → ∃ v, ys[j]? = some v ∧ ProgsAt w rest (rowOf ns j) v
noncomputable def progJ2 (w : World) (x : Row) (front : List (Addr × Obj)) (rest0 : List (Addr × Obj)) (C1 C2 : Addr) (i : Nat) (ys : List Value) (nx : List (Addr × Obj)) : Prop :=
  ∃ ps pz rest, nx = front ++ (56, tabObj ps) :: (63, tabObj pz) :: rest ∧ (∀ p ∈ rest0, p ∈ rest) ∧ Tab56 rest ps ∧ Tab63 rest pz ∧ Away C1 C2 rest ∧ (∀ p ∈ rest, ∀ q ∈ front, p.1 ≠ q.1) ∧ ys.length = i ∧ ∀ j : Nat, j < i → ∃ v, ys[j]? = some v ∧ IsProg w rest v x.1 (hitsOf (abK j) x.2)
theorem progJ2_step {w : World} {x : Row} {front rest0 rs tl : List (Addr × Obj)} {C1 C2 : Addr} {j : Nat} {ys : List Value} {ps pz : Array Value} {r : Value} (y0 : ∀ p ∈ rest0, p ∈ rs) (t1 : Tab56 (rs ++ tl) ps) (t2 : Tab63 (rs ++ tl) pz) (y3 : Away C1 C2 rs) (y4 : ∀ p ∈ rs, ∀ q ∈ front, p.1 ≠ q.1) (y5 : ys.length = j)
    (y6 : ∀ i : Nat, i < j → ∃ v, ys[i]? = some v ∧ IsProg w rs v x.1 (hitsOf (abK i) x.2)) (a : Away C1 C2 tl) (b : ∀ p ∈ tl, ∀ q ∈ front, p.1 ≠ q.1) (hP : IsProg w (rs ++ tl) r x.1 (hitsOf (abK j) x.2)) :
    progJ2 w x front rest0 C1 C2 (j + 1) (ys ++ [r]) (front ++ (56, tabObj ps) :: (63, tabObj pz) :: (rs ++ tl)) := by
  refine ⟨ps, pz, rs ++ tl, rfl, fun p hp => List.mem_append.mpr (.inl (y0 p hp)), t1, t2, fun p hp => (List.mem_append.mp hp).elim (y3 p) (a p), fun p hp => (List.mem_append.mp hp).elim (y4 p) (b p), by simp [y5], fun i hi => ?_⟩
  by_cases e : i < j
  · obtain ⟨v, hv, h⟩ := y6 i e
    exact ⟨v, by rw [List.getElem?_append_left (by omega)]; exact hv, h.mono fun p hp => List.mem_append.mpr (.inl hp)⟩
  · obtain rfl : i = j := by omega
    exact ⟨r, by rw [List.getElem?_append_right (by omega), y5]; simp, hP⟩
theorem ProgsAt.mono {w : World} {news news' : List (Addr × Obj)} {x : Row} {v : Value} (hs : ∀ p ∈ news, p ∈ news') (h : ProgsAt w news x v) : ProgsAt w news' x v := by
  obtain ⟨pa, va, vb, n, e1, e2, e3, e4⟩ := h
  exact ⟨pa, va, vb, n, e1, hs _ e2, e3.mono hs, e4.mono hs⟩
theorem progsJ_step {w : World} {ns : List Int} {C1 C2 D : Addr} {o1 o2 : Obj} {rest0 rs : List (Addr × Obj)} {i : Nat} {ys ys2 : List Value} {ps pz : Array Value} (r0 : ∀ p ∈ rest0, p ∈ rs) (t1 : Tab56 rs ps) (t2 : Tab63 rs pz) (r3 : Away C1 C2 rs) (r4 : ys.length = i) (r5 : ∀ j : Nat, j < i → ∃ v, ys[j]? = some v ∧ ProgsAt w rs (rowOf ns j) v)
    (hD : (@Ne Nat D C2) ∧ (@Ne Nat D C1) ∧ (@Ne Nat D 56) ∧ (@Ne Nat D 63)) (h2 : ys2.length = 2) (h3 : ∀ j : Nat, j < 2 → ∃ v, ys2[j]? = some v ∧ IsProg w rs v (rowOf ns i).1 (hitsOf (abK j) (rowOf ns i).2)) :
    progsJ w ns C1 C2 o1 o2 rest0 (i + 1) (ys ++ [.ref D]) ((C2, o1) :: (C1, o2) :: (56, tabObj ps) :: (63, tabObj pz) :: (D, LCg.lst ys2) :: rs) := by
  refine ⟨ps, pz, (D, LCg.lst ys2) :: rs, rfl, fun p hp => .tail _ (r0 p hp), t1.mono fun p hp => .tail _ hp, ?_, List.forall_mem_cons.mpr ⟨hD, r3⟩, by simp [r4], fun j hj => ?_⟩
  · rcases t2 with e | ⟨c1, c2, oc1, vs1, u1, oc2, vs2, u2, r0, r1, r2, r3, r4, r5, r6⟩
    · exact .inl e
    · exact .inr ⟨c1, c2, oc1, vs1, u1, oc2, vs2, u2, r0, .tail _ r1, r2, r3, .tail _ r4, r5, r6⟩
  by_cases e : j < i
  · obtain ⟨v, hv, pa, va, vb, n, e1, e2, e3, e4⟩ := r5 j e
    exact ⟨v, by rw [List.getElem?_append_left (by omega)]; exact hv, pa, va, vb, n, e1, .tail _ e2, e3.mono fun p hp => .tail _ hp, e4.mono fun p hp => .tail _ hp⟩
  · obtain rfl : j = i := by omega
    obtain ⟨va, ha, pa⟩ := h3 0 (by omega)
    obtain ⟨vb, hb, pb⟩ := h3 1 (by omega)
    obtain rfl := list2 h2 ha hb
    exact ⟨.ref D, by rw [List.getElem?_append_right (by omega), r4]; simp, D, va, vb, 2, rfl, .head _, pa.mono fun p hp => .tail _ hp, pb.mono fun p hp => .tail _ hp⟩
/-- how the law's own statements end -/
noncomputable def LawEnd (h₀ : Heap) (L : Addr) (s : Shared) (f : Flow) (s' : Shared) : Prop :=
  ∃ h tk m x1 x2 x3 ps pz rs, f = .ret (.bool true) ∧ s' = { s with heap := h, toks := tk } ∧ Fr h₀ L h m ∧ News h₀ L h (x1 :: x2 :: x3 :: (56, tabObj ps) :: (63, tabObj pz) :: rs)
theorem law_join {M : Model} {A : Around} {c : Sem Flow} {s : Shared} {Q : Flow → Shared → Prop} {E : Value → Shared → Prop} {h₀ : Heap} {L : Addr} {m : Str → Option Value} (_ : Fr h₀ L s.heap m)
    (h1 : wpAny M A c (LawEnd h₀ L s) (fun _ _ => False) s) (h2 : ∀ f s', LawEnd h₀ L s f s' → Q f s') : wpAny M A c Q E s :=
  wpAny_mono h1 h2 fun _ _ e => e.elim
theorem reg_Law_2 : True := by
  k_with "my execs cons" => (k_here; (with_reducible show wpAny _ _ (execs [_, _, _, _] _) _ (fun _ _ => wpAny _ _ (leaving _ _) _ _ _) _); refine stop_here ?_)
  trivial
theorem law_of (PO : ∀ ns : List Int, ns.length ≤ 6 → PlainOk ns) : PySem.Challenge.rw_mq0134_01.Holds := Mine.hd (by
  k_go0
  (all_goals try k_fold)
  k_steps
  refine Stop.mk ?_
  rename Fr _ _ _ _ => F0
  rename World => w
  rename Shared => sA
  refine law_join F0 ?walk ?fin
  case fin =>
    rintro f s' ⟨h, tk, m, x1, x2, x3, ps, pz, rs, rfl, rfl, FE, NE⟩
    clear F0
    dsimp only
    k_steps
  k_steps
  refine Stop.mk ?_
  refine join_nums F0 ?_ ?_
  · k_steps
    · exact nums_at1 (nn := 0) (by assumption) (by assumption) (by assumption) (by constructor <;> omega) (by omega) (by assumption) (by assumption) rfl
    · exact nums_at2 (nn := 0) (vs := [_, _, _, _, _, _]) (by assumption) (by assumption) (.cons _ _ (.cons _ _ (.cons _ _ (.cons _ _ (.cons _ _ (.cons _ _ .nil)))))) (by decide) (by omega) (by assumption) (by assumption) rfl
  · rintro v s₁ ⟨D, m0, vs, ns, nn, h', tk', o1, o2, c1, c2, rfl, rfl, F1, N1, hI, hl, hD, e1, e2⟩
    clear F0
    rename_i yA2 yA4 yA5 yA6 yA7 yA8 yA9 yA10 yA11 yA12 yA13 yA14 yA15 yA17 yA18 yA19 yA20 yA21 yA22 yA24 yA25 yA26 yA27 yA28 yA29 yA30 yA31 yA32 yA33 yA34 yA35 yA36 yA37 yA38 yA39 yA40 yA41 yA42 yA43 yA44 yA45 yA46 yA47 yA48 yA49 yA50 yA51 yA52 yA53 yA55 yA57 yA58
    clear yA57 lifted yA49 yA48 yA43 yA42 yA41 yA40 yA39 yA38 yA37 yA36 yA35 yA29 yA28 yA27 yA26 yA25 hT9 yA22 yA21 yA20 yA19 yA18 yA17 yA15 yA14 yA13 yA7 yA6
    clear yA34 yA33 yA31 yA30 yA24 yA9
    revert hT8 yA50 yA51 yA52 yA53 yA55 codeHd yA58 F1 N1 hI hl hD e1 e2
    revert yA4 yA5 yA8 yA10 yA11 yA12 yA32 yA44 yA45 yA46 yA47 D m0 vs ns nn h' tk' o1 o2 c1 c2
    revert yA2 sA
    revert w
    refine no_implicit_lambda% (closedW ?_)
    with_reducible generalize wit _ _ = w
    refine no_implicit_lambda% (closed' neS ?_)
    with_reducible generalize wit _ _ = yA2
    refine no_implicit_lambda% (closed' neS ?_)
    with_reducible generalize wit _ _ = sA
    refine no_implicit_lambda% (@id (Unit → Unit → _) ?_ () ())
    refine no_implicit_lambda% (closed24 ?_)
    with_reducible generalize wit _ _ = tQ
    with_reducible generalize Prod.fst (Prod.snd (Prod.snd (tQ))) = yA4
    with_reducible generalize Prod.fst (Prod.snd (Prod.snd (Prod.snd (tQ)))) = yA5
    with_reducible generalize Prod.fst (Prod.snd (Prod.snd (Prod.snd (Prod.snd (tQ))))) = yA8
    with_reducible generalize Prod.fst (Prod.snd (Prod.snd (Prod.snd (Prod.snd (Prod.snd (tQ)))))) = yA10
    with_reducible generalize Prod.fst (Prod.snd (Prod.snd (Prod.snd (Prod.snd (Prod.snd (Prod.snd (tQ))))))) = yA11
    with_reducible generalize Prod.fst (Prod.snd (Prod.snd (Prod.snd (Prod.snd (Prod.snd (Prod.snd (Prod.snd (tQ)))))))) = yA12
    with_reducible generalize Prod.fst (Prod.snd (Prod.snd (Prod.snd (Prod.snd (Prod.snd (Prod.snd (Prod.snd (Prod.snd (tQ))))))))) = yA32
    with_reducible generalize Prod.fst (Prod.snd (Prod.snd (Prod.snd (Prod.snd (Prod.snd (Prod.snd (Prod.snd (Prod.snd (Prod.snd (tQ)))))))))) = yA44
    with_reducible generalize Prod.fst (Prod.snd (Prod.snd (Prod.snd (Prod.snd (Prod.snd (Prod.snd (Prod.snd (Prod.snd (Prod.snd (Prod.snd (tQ))))))))))) = yA45
    with_reducible generalize Prod.fst (Prod.snd (Prod.snd (Prod.snd (Prod.snd (Prod.snd (Prod.snd (Prod.snd (Prod.snd (Prod.snd (Prod.snd (Prod.snd (tQ)))))))))))) = yA46
    with_reducible generalize Prod.fst (Prod.snd (Prod.snd (Prod.snd (Prod.snd (Prod.snd (Prod.snd (Prod.snd (Prod.snd (Prod.snd (Prod.snd (Prod.snd (Prod.snd (tQ))))))))))))) = yA47
    with_reducible generalize Prod.fst (Prod.snd (Prod.snd (Prod.snd (Prod.snd (Prod.snd (Prod.snd (Prod.snd (Prod.snd (Prod.snd (Prod.snd (Prod.snd (Prod.snd (Prod.snd (tQ)))))))))))))) = D
    with_reducible generalize Prod.fst (Prod.snd (Prod.snd (Prod.snd (Prod.snd (Prod.snd (Prod.snd (Prod.snd (Prod.snd (Prod.snd (Prod.snd (Prod.snd (Prod.snd (Prod.snd (Prod.snd (tQ))))))))))))))) = m0
    with_reducible generalize Prod.fst (Prod.snd (Prod.snd (Prod.snd (Prod.snd (Prod.snd (Prod.snd (Prod.snd (Prod.snd (Prod.snd (Prod.snd (Prod.snd (Prod.snd (Prod.snd (Prod.snd (Prod.snd (tQ)))))))))))))))) = vs
    with_reducible generalize Prod.fst (Prod.snd (Prod.snd (Prod.snd (Prod.snd (Prod.snd (Prod.snd (Prod.snd (Prod.snd (Prod.snd (Prod.snd (Prod.snd (Prod.snd (Prod.snd (Prod.snd (Prod.snd (Prod.snd (tQ))))))))))))))))) = ns
    with_reducible generalize Prod.fst (Prod.snd (Prod.snd (Prod.snd (Prod.snd (Prod.snd (Prod.snd (Prod.snd (Prod.snd (Prod.snd (Prod.snd (Prod.snd (Prod.snd (Prod.snd (Prod.snd (Prod.snd (Prod.snd (Prod.snd (tQ)))))))))))))))))) = nn
    with_reducible generalize Prod.fst (Prod.snd (Prod.snd (Prod.snd (Prod.snd (Prod.snd (Prod.snd (Prod.snd (Prod.snd (Prod.snd (Prod.snd (Prod.snd (Prod.snd (Prod.snd (Prod.snd (Prod.snd (Prod.snd (Prod.snd (Prod.snd (tQ))))))))))))))))))) = h'
    with_reducible generalize Prod.fst (Prod.snd (Prod.snd (Prod.snd (Prod.snd (Prod.snd (Prod.snd (Prod.snd (Prod.snd (Prod.snd (Prod.snd (Prod.snd (Prod.snd (Prod.snd (Prod.snd (Prod.snd (Prod.snd (Prod.snd (Prod.snd (Prod.snd (tQ)))))))))))))))))))) = tk'
    with_reducible generalize Prod.fst (Prod.snd (Prod.snd (Prod.snd (Prod.snd (Prod.snd (Prod.snd (Prod.snd (Prod.snd (Prod.snd (Prod.snd (Prod.snd (Prod.snd (Prod.snd (Prod.snd (Prod.snd (Prod.snd (Prod.snd (Prod.snd (Prod.snd (Prod.snd (tQ))))))))))))))))))))) = o1
    with_reducible generalize Prod.fst (Prod.snd (Prod.snd (Prod.snd (Prod.snd (Prod.snd (Prod.snd (Prod.snd (Prod.snd (Prod.snd (Prod.snd (Prod.snd (Prod.snd (Prod.snd (Prod.snd (Prod.snd (Prod.snd (Prod.snd (Prod.snd (Prod.snd (Prod.snd (Prod.snd (tQ)))))))))))))))))))))) = o2
    with_reducible generalize Prod.fst (Prod.snd (Prod.snd (Prod.snd (Prod.snd (Prod.snd (Prod.snd (Prod.snd (Prod.snd (Prod.snd (Prod.snd (Prod.snd (Prod.snd (Prod.snd (Prod.snd (Prod.snd (Prod.snd (Prod.snd (Prod.snd (Prod.snd (Prod.snd (Prod.snd (Prod.snd (tQ))))))))))))))))))))))) = c1
    with_reducible generalize Prod.snd (Prod.snd (Prod.snd (Prod.snd (Prod.snd (Prod.snd (Prod.snd (Prod.snd (Prod.snd (Prod.snd (Prod.snd (Prod.snd (Prod.snd (Prod.snd (Prod.snd (Prod.snd (Prod.snd (Prod.snd (Prod.snd (Prod.snd (Prod.snd (Prod.snd (Prod.snd (tQ))))))))))))))))))))))) = c2
    clear tQ
    intro hT8 _ _ _ _ _ codeHd _ F1 N1 hI hl hD e1 e2
    k_steps
    refine Stop.mk ?_
    refine tells_use (rows_tells ns D vs nn _ (.head _) hI hl.2) (by assumption) (by assumption) F1 N1 (by assumption) rfl (by ktr_room) (by ktr_units) ?_
    rintro r nx h2 tk2 F2 N2 hR
    obtain ⟨a, lr, li, i0, i1, i2, nt, rest, rfl, hsub, mA, hIn, hab⟩ := rows_un hR ⟨_, e1⟩ ⟨_, e2⟩ hD
    have N3 : News _ _ _ _ := fun p hp => N2 p (hsub p hp)
    clear N2 N1 F1 hR hsub
    have q1 := fun p hp => Nat.ne_of_gt (hab p hp)
    have q2 := fun p hp => Nat.ne_of_gt (Nat.lt_trans (Nat.lt_succ_self _) (hab p hp))
    have q3 : ∀ p ∈ rest, p.1 ≠ 56 := fun p hp => Nat.ne_of_gt (by have := hab p hp; omega)
    have q4 : ∀ p ∈ rest, p.1 ≠ 63 := fun p hp => Nat.ne_of_gt (by have := hab p hp; omega)
    k_steps
    rename Fr _ _ _ _ => F4
    rename News _ _ _ _ => N4
    rename_i oR dR hx oI dI
    obtain ⟨ts, is, n1, n2, mlr, mli, hrow⟩ := rows_at hIn
    refine Stop.mk ?_
    refine Assign_ListComp_C (progsJ w ns (sA.heap.objs.size + 1) (sA.heap.objs.size + 1 + 1) oI oR rest) 3 0 F4 rfl (by with_unfolding_all rfl) (by rfl) (by intro _; rfl) (by intro _; rfl) (by rfl) (by decide) (by rfl) (by rfl) (by rfl) (by rw [sizeLine_eq]; omega) ?_
    k_steps
    rename IsRange _ _ _ _ _ _ _ _ => hR
    rename Fr _ _ _ _ => F5
    rename News _ _ _ _ => N5
    refine ⟨_, _, _, _, _, _, rfl, rfl, F5, N5, hR, by decide, by decide, ⟨#[], #[], rest, rfl, fun _ h => h, .inl rfl, .inl rfl, (fun p hp => ⟨q1 p hp, q2 p hp, q3 p hp, q4 p hp⟩), rfl, fun j hj => absurd hj (Nat.not_lt_zero j)⟩, ?turn, ?fin⟩
    case fin =>
      rintro ys nx D5 h5 tk5 ⟨ps, pz, rs, rfl, r0, r1, r2, r3, r4, r5⟩ F6 N6 offD
      obtain ⟨u0, hu0, pr0⟩ := r5 0 (by omega)
      obtain ⟨u1, hu1, pr1⟩ := r5 1 (by omega)
      obtain ⟨u2, hu2, pr2⟩ := r5 2 (by omega)
      obtain rfl := list3 r4 hu0 hu1 hu2
      clear hu0 hu1 hu2 r5 r4
      dsimp only
      rename_i yB57 yB58 yB63 yB64 yB74 yB75 yB76 yB77 yB78 yB82
      clear yB75 yB58 yB57 tk2 h2 nx
      revert mA hIn hab q1 q2 q3 q4 dR yB63 yB64 dI mlr mli hrow hR F5 N5 yB82 r0 r1 r2 r3 F6 offD pr0 pr1 pr2 N6
      revert a lr li i0 i1 i2 nt rest oR hx oI tk ts is n1 n2 yB74 yB76 yB77 yB78 D5 h5 tk5 ps pz rs u0 u1 u2
      refine no_implicit_lambda% (closed24 ?_)
      with_reducible generalize wit _ _ = tQ
      with_reducible generalize Prod.fst (tQ) = a
      with_reducible generalize Prod.fst (Prod.snd (tQ)) = lr
      with_reducible generalize Prod.fst (Prod.snd (Prod.snd (tQ))) = li
      with_reducible generalize Prod.fst (Prod.snd (Prod.snd (Prod.snd (tQ)))) = i0
      with_reducible generalize Prod.fst (Prod.snd (Prod.snd (Prod.snd (Prod.snd (tQ))))) = i1
      with_reducible generalize Prod.fst (Prod.snd (Prod.snd (Prod.snd (Prod.snd (Prod.snd (tQ)))))) = i2
      with_reducible generalize Prod.fst (Prod.snd (Prod.snd (Prod.snd (Prod.snd (Prod.snd (Prod.snd (tQ))))))) = nt
      with_reducible generalize Prod.fst (Prod.snd (Prod.snd (Prod.snd (Prod.snd (Prod.snd (Prod.snd (Prod.snd (tQ)))))))) = rest
      with_reducible generalize Prod.fst (Prod.snd (Prod.snd (Prod.snd (Prod.snd (Prod.snd (Prod.snd (Prod.snd (Prod.snd (tQ))))))))) = oR
      with_reducible generalize Prod.fst (Prod.snd (Prod.snd (Prod.snd (Prod.snd (Prod.snd (Prod.snd (Prod.snd (Prod.snd (Prod.snd (tQ)))))))))) = hx
      with_reducible generalize Prod.fst (Prod.snd (Prod.snd (Prod.snd (Prod.snd (Prod.snd (Prod.snd (Prod.snd (Prod.snd (Prod.snd (Prod.snd (tQ))))))))))) = oI
      with_reducible generalize Prod.fst (Prod.snd (Prod.snd (Prod.snd (Prod.snd (Prod.snd (Prod.snd (Prod.snd (Prod.snd (Prod.snd (Prod.snd (Prod.snd (tQ)))))))))))) = tk
      with_reducible generalize Prod.fst (Prod.snd (Prod.snd (Prod.snd (Prod.snd (Prod.snd (Prod.snd (Prod.snd (Prod.snd (Prod.snd (Prod.snd (Prod.snd (Prod.snd (tQ))))))))))))) = ts
      with_reducible generalize Prod.fst (Prod.snd (Prod.snd (Prod.snd (Prod.snd (Prod.snd (Prod.snd (Prod.snd (Prod.snd (Prod.snd (Prod.snd (Prod.snd (Prod.snd (Prod.snd (tQ)))))))))))))) = is
      with_reducible generalize Prod.fst (Prod.snd (Prod.snd (Prod.snd (Prod.snd (Prod.snd (Prod.snd (Prod.snd (Prod.snd (Prod.snd (Prod.snd (Prod.snd (Prod.snd (Prod.snd (Prod.snd (tQ))))))))))))))) = n1
      with_reducible generalize Prod.fst (Prod.snd (Prod.snd (Prod.snd (Prod.snd (Prod.snd (Prod.snd (Prod.snd (Prod.snd (Prod.snd (Prod.snd (Prod.snd (Prod.snd (Prod.snd (Prod.snd (Prod.snd (tQ)))))))))))))))) = n2
      with_reducible generalize Prod.fst (Prod.snd (Prod.snd (Prod.snd (Prod.snd (Prod.snd (Prod.snd (Prod.snd (Prod.snd (Prod.snd (Prod.snd (Prod.snd (Prod.snd (Prod.snd (Prod.snd (Prod.snd (Prod.snd (tQ))))))))))))))))) = yB74
      with_reducible generalize Prod.fst (Prod.snd (Prod.snd (Prod.snd (Prod.snd (Prod.snd (Prod.snd (Prod.snd (Prod.snd (Prod.snd (Prod.snd (Prod.snd (Prod.snd (Prod.snd (Prod.snd (Prod.snd (Prod.snd (Prod.snd (tQ)))))))))))))))))) = yB76
      with_reducible generalize Prod.fst (Prod.snd (Prod.snd (Prod.snd (Prod.snd (Prod.snd (Prod.snd (Prod.snd (Prod.snd (Prod.snd (Prod.snd (Prod.snd (Prod.snd (Prod.snd (Prod.snd (Prod.snd (Prod.snd (Prod.snd (Prod.snd (tQ))))))))))))))))))) = yB77
      with_reducible generalize Prod.fst (Prod.snd (Prod.snd (Prod.snd (Prod.snd (Prod.snd (Prod.snd (Prod.snd (Prod.snd (Prod.snd (Prod.snd (Prod.snd (Prod.snd (Prod.snd (Prod.snd (Prod.snd (Prod.snd (Prod.snd (Prod.snd (Prod.snd (tQ)))))))))))))))))))) = yB78
      with_reducible generalize Prod.fst (Prod.snd (Prod.snd (Prod.snd (Prod.snd (Prod.snd (Prod.snd (Prod.snd (Prod.snd (Prod.snd (Prod.snd (Prod.snd (Prod.snd (Prod.snd (Prod.snd (Prod.snd (Prod.snd (Prod.snd (Prod.snd (Prod.snd (Prod.snd (tQ))))))))))))))))))))) = D5
      with_reducible generalize Prod.fst (Prod.snd (Prod.snd (Prod.snd (Prod.snd (Prod.snd (Prod.snd (Prod.snd (Prod.snd (Prod.snd (Prod.snd (Prod.snd (Prod.snd (Prod.snd (Prod.snd (Prod.snd (Prod.snd (Prod.snd (Prod.snd (Prod.snd (Prod.snd (Prod.snd (tQ)))))))))))))))))))))) = h5
      with_reducible generalize Prod.fst (Prod.snd (Prod.snd (Prod.snd (Prod.snd (Prod.snd (Prod.snd (Prod.snd (Prod.snd (Prod.snd (Prod.snd (Prod.snd (Prod.snd (Prod.snd (Prod.snd (Prod.snd (Prod.snd (Prod.snd (Prod.snd (Prod.snd (Prod.snd (Prod.snd (Prod.snd (tQ))))))))))))))))))))))) = tk5
      with_reducible generalize Prod.snd (Prod.snd (Prod.snd (Prod.snd (Prod.snd (Prod.snd (Prod.snd (Prod.snd (Prod.snd (Prod.snd (Prod.snd (Prod.snd (Prod.snd (Prod.snd (Prod.snd (Prod.snd (Prod.snd (Prod.snd (Prod.snd (Prod.snd (Prod.snd (Prod.snd (Prod.snd (tQ))))))))))))))))))))))) = ps
      clear tQ
      refine no_implicit_lambda% (@id (Unit → _) ?_ ())
      refine no_implicit_lambda% (closed6 ?_)
      with_reducible generalize wit _ _ = tQ
      with_reducible generalize Prod.fst (Prod.snd (tQ)) = pz
      with_reducible generalize Prod.fst (Prod.snd (Prod.snd (tQ))) = rs
      with_reducible generalize Prod.fst (Prod.snd (Prod.snd (Prod.snd (tQ)))) = u0
      with_reducible generalize Prod.fst (Prod.snd (Prod.snd (Prod.snd (Prod.snd (tQ))))) = u1
      with_reducible generalize Prod.snd (Prod.snd (Prod.snd (Prod.snd (Prod.snd (tQ))))) = u2
      clear tQ
      intro mA hIn hab q1 q2 q3 q4 dR _ _ dI mlr mli hrow hR F5 N5 _ r0 r1 r2 r3 F6 offD pr0 pr1 pr2 N6
      k_steps
      refine Stop.mk ?_
      refine for_open ?_
      k_steps
      rename Fr _ _ _ _ => F7
      rename News _ _ _ _ => N7
      refine Stop.mk ?_
      obtain ⟨base1, hb1⟩ : ∃ b, b = (D5, LCg.lst [u0, u1, u2]) :: (sA.heap.objs.size + 1 + 1, oI) :: (sA.heap.objs.size + 1, oR) :: (56, tabObj ps) :: (63, tabObj pz) :: rs := ⟨_, rfl⟩
      refine iter_listX (fun i m nx => nx = _ ∧ m (PySem.Str.ofString "progs") = some (.ref D5)) (by passes_own) rfl (.head _) F7 N7 ⟨rfl, rfl⟩ ?turn1 ?done1
      case done1 =>
        rintro m1 nx1 h6 tk6 ⟨rfl, b1⟩ hlm F8 N8
        dsimp only
        k_steps
        with_reducible rename News _ _ _ _ => NE
        with_reducible rename Fr _ _ _ _ => FE
        exact ⟨_, _, _, _, _, _, _, _, _, rfl, rfl, FE, fun p hp => NE p (.tail _ hp)⟩
      case turn1 =>
        rintro I1 i v m1 nx1 h6 tk6 oJ1 hI1 hv hne1 hlm1 ⟨rfl, b1⟩ F8 N8
        obtain ⟨ln, u5, rfl, hln⟩ := three_at hv
        obtain ⟨s0, s1, s2, n1', n2', v0, v1, v2, k0, k1, k2, mlr', mli', m0', d0, m1', d1, m2', d2⟩ := hIn
        obtain ⟨x, tx, hx3, hxl⟩ := txt_at (s0 := s0) (s1 := s1) (s2 := s2) hl.2 hln
        have mlr2 : (lr, listOf ([.str (rowOf ns 0).1 s0, .str (rowOf ns 1).1 s1, .str (rowOf ns 2).1 s2] : List Value).toArray n1') ∈ rs := r0 _ mlr'
        clear mlr'
        have F9 := fr_puts F8 (.cons b1 .nil)
        simp only [putsM] at F9
        clear F8 b1 hv
        dsimp only
        rename_i yC189 yC190 yC193
        clear i
        revert F7 N7 yC193 hb1 hI1 hne1 hlm1 N8 hln mli' m0' d0 m1' d1 m2' d2 hx3 hxl mlr2 F9
        revert yC189 yC190 base1 I1 m1 h6 tk6 oJ1 ln u5 s0 s1 s2 n1' n2' v0 v1 v2 k0 k1 k2 x tx
        refine no_implicit_lambda% (@id (Unit → _) ?_ ())
        refine no_implicit_lambda% (closed24 ?_)
        with_reducible generalize wit _ _ = tQ
        with_reducible generalize Prod.fst (Prod.snd (tQ)) = yC189
        with_reducible generalize Prod.fst (Prod.snd (Prod.snd (tQ))) = yC190
        with_reducible generalize Prod.fst (Prod.snd (Prod.snd (Prod.snd (tQ)))) = base1
        with_reducible generalize Prod.fst (Prod.snd (Prod.snd (Prod.snd (Prod.snd (tQ))))) = I1
        with_reducible generalize Prod.fst (Prod.snd (Prod.snd (Prod.snd (Prod.snd (Prod.snd (tQ)))))) = m1
        with_reducible generalize Prod.fst (Prod.snd (Prod.snd (Prod.snd (Prod.snd (Prod.snd (Prod.snd (tQ))))))) = h6
        with_reducible generalize Prod.fst (Prod.snd (Prod.snd (Prod.snd (Prod.snd (Prod.snd (Prod.snd (Prod.snd (tQ)))))))) = tk6
        with_reducible generalize Prod.fst (Prod.snd (Prod.snd (Prod.snd (Prod.snd (Prod.snd (Prod.snd (Prod.snd (Prod.snd (tQ))))))))) = oJ1
        with_reducible generalize Prod.fst (Prod.snd (Prod.snd (Prod.snd (Prod.snd (Prod.snd (Prod.snd (Prod.snd (Prod.snd (Prod.snd (tQ)))))))))) = ln
        with_reducible generalize Prod.fst (Prod.snd (Prod.snd (Prod.snd (Prod.snd (Prod.snd (Prod.snd (Prod.snd (Prod.snd (Prod.snd (Prod.snd (tQ))))))))))) = u5
        with_reducible generalize Prod.fst (Prod.snd (Prod.snd (Prod.snd (Prod.snd (Prod.snd (Prod.snd (Prod.snd (Prod.snd (Prod.snd (Prod.snd (Prod.snd (tQ)))))))))))) = s0
        with_reducible generalize Prod.fst (Prod.snd (Prod.snd (Prod.snd (Prod.snd (Prod.snd (Prod.snd (Prod.snd (Prod.snd (Prod.snd (Prod.snd (Prod.snd (Prod.snd (tQ))))))))))))) = s1
        with_reducible generalize Prod.fst (Prod.snd (Prod.snd (Prod.snd (Prod.snd (Prod.snd (Prod.snd (Prod.snd (Prod.snd (Prod.snd (Prod.snd (Prod.snd (Prod.snd (Prod.snd (tQ)))))))))))))) = s2
        with_reducible generalize Prod.fst (Prod.snd (Prod.snd (Prod.snd (Prod.snd (Prod.snd (Prod.snd (Prod.snd (Prod.snd (Prod.snd (Prod.snd (Prod.snd (Prod.snd (Prod.snd (Prod.snd (tQ))))))))))))))) = n1'
        with_reducible generalize Prod.fst (Prod.snd (Prod.snd (Prod.snd (Prod.snd (Prod.snd (Prod.snd (Prod.snd (Prod.snd (Prod.snd (Prod.snd (Prod.snd (Prod.snd (Prod.snd (Prod.snd (Prod.snd (tQ)))))))))))))))) = n2'
        with_reducible generalize Prod.fst (Prod.snd (Prod.snd (Prod.snd (Prod.snd (Prod.snd (Prod.snd (Prod.snd (Prod.snd (Prod.snd (Prod.snd (Prod.snd (Prod.snd (Prod.snd (Prod.snd (Prod.snd (Prod.snd (tQ))))))))))))))))) = v0
        with_reducible generalize Prod.fst (Prod.snd (Prod.snd (Prod.snd (Prod.snd (Prod.snd (Prod.snd (Prod.snd (Prod.snd (Prod.snd (Prod.snd (Prod.snd (Prod.snd (Prod.snd (Prod.snd (Prod.snd (Prod.snd (Prod.snd (tQ)))))))))))))))))) = v1
        with_reducible generalize Prod.fst (Prod.snd (Prod.snd (Prod.snd (Prod.snd (Prod.snd (Prod.snd (Prod.snd (Prod.snd (Prod.snd (Prod.snd (Prod.snd (Prod.snd (Prod.snd (Prod.snd (Prod.snd (Prod.snd (Prod.snd (Prod.snd (tQ))))))))))))))))))) = v2
        with_reducible generalize Prod.fst (Prod.snd (Prod.snd (Prod.snd (Prod.snd (Prod.snd (Prod.snd (Prod.snd (Prod.snd (Prod.snd (Prod.snd (Prod.snd (Prod.snd (Prod.snd (Prod.snd (Prod.snd (Prod.snd (Prod.snd (Prod.snd (Prod.snd (tQ)))))))))))))))))))) = k0
        with_reducible generalize Prod.fst (Prod.snd (Prod.snd (Prod.snd (Prod.snd (Prod.snd (Prod.snd (Prod.snd (Prod.snd (Prod.snd (Prod.snd (Prod.snd (Prod.snd (Prod.snd (Prod.snd (Prod.snd (Prod.snd (Prod.snd (Prod.snd (Prod.snd (Prod.snd (tQ))))))))))))))))))))) = k1
        with_reducible generalize Prod.fst (Prod.snd (Prod.snd (Prod.snd (Prod.snd (Prod.snd (Prod.snd (Prod.snd (Prod.snd (Prod.snd (Prod.snd (Prod.snd (Prod.snd (Prod.snd (Prod.snd (Prod.snd (Prod.snd (Prod.snd (Prod.snd (Prod.snd (Prod.snd (Prod.snd (tQ)))))))))))))))))))))) = k2
        with_reducible generalize Prod.fst (Prod.snd (Prod.snd (Prod.snd (Prod.snd (Prod.snd (Prod.snd (Prod.snd (Prod.snd (Prod.snd (Prod.snd (Prod.snd (Prod.snd (Prod.snd (Prod.snd (Prod.snd (Prod.snd (Prod.snd (Prod.snd (Prod.snd (Prod.snd (Prod.snd (Prod.snd (tQ))))))))))))))))))))))) = x
        with_reducible generalize Prod.snd (Prod.snd (Prod.snd (Prod.snd (Prod.snd (Prod.snd (Prod.snd (Prod.snd (Prod.snd (Prod.snd (Prod.snd (Prod.snd (Prod.snd (Prod.snd (Prod.snd (Prod.snd (Prod.snd (Prod.snd (Prod.snd (Prod.snd (Prod.snd (Prod.snd (Prod.snd (tQ))))))))))))))))))))))) = tx
        clear tQ
        intro F7 N7 _ hb1 hI1 hne1 hlm1 N8 hln mli' m0' d0 m1' d1 m2' d2 hx3 hxl mlr2 F9
        k_steps
        refine Stop.mk ?_
        refine for_open ?_
        k_steps
        rename Fr _ _ _ _ => F10
        rename News _ _ _ _ => N10
        refine Stop.mk ?_
        refine iter_listX (vs := [_, _]) (fun i m nx => nx = _ ∧ m (PySem.Str.ofString "progs") = some (.ref D5) ∧ m (PySem.Str.ofString "line") = some (.int ln u5)) (by passes_own) rfl (.head _) F10 N10 ⟨rfl, rfl, rfl⟩ ?turn2 ?done2
        case done2 =>
          rintro m2 nx2 h7 tk7 ⟨rfl, b1, b2⟩ hlm2 F11 N11
          dsimp only
          k_steps
          exact postX_next F11 (fun p hp => N11 p (.tail _ hp)) rfl hne1 (fun p hp => by rw [List.mem_singleton.mp hp]; exact hlm1) ⟨rfl, b1⟩
        case turn2 =>
          rintro I2 jb v m2 nx2 h7 tk7 oJ2 hI2 hv hne2 hlm2 ⟨rfl, b1, b2⟩ F11 N11
          obtain ⟨cl, u6, rfl, hcl⟩ := two_at hv
          have F12 := fr_puts F11 (.cons b1 (.cons b2 .nil))
          simp only [putsM] at F12
          clear F11 b1 b2 hv
          dsimp only
          rename_i yC2130 yC2132 yC2133 yC2136
          clear jb yC2130
          revert F10 N10 yC2136 hI2 hne2 hlm2 N11 hcl F12
          revert tk yC2132 yC2133 I2 m2 h7 tk7 oJ2 cl u6
          refine no_implicit_lambda% (closed10 ?_)
          with_reducible generalize wit _ _ = tQ
          with_reducible generalize Prod.fst (tQ) = tk
          with_reducible generalize Prod.fst (Prod.snd (tQ)) = yC2132
          with_reducible generalize Prod.fst (Prod.snd (Prod.snd (tQ))) = yC2133
          with_reducible generalize Prod.fst (Prod.snd (Prod.snd (Prod.snd (tQ)))) = I2
          with_reducible generalize Prod.fst (Prod.snd (Prod.snd (Prod.snd (Prod.snd (tQ))))) = m2
          with_reducible generalize Prod.fst (Prod.snd (Prod.snd (Prod.snd (Prod.snd (Prod.snd (tQ)))))) = h7
          with_reducible generalize Prod.fst (Prod.snd (Prod.snd (Prod.snd (Prod.snd (Prod.snd (Prod.snd (tQ))))))) = tk7
          with_reducible generalize Prod.fst (Prod.snd (Prod.snd (Prod.snd (Prod.snd (Prod.snd (Prod.snd (Prod.snd (tQ)))))))) = oJ2
          with_reducible generalize Prod.fst (Prod.snd (Prod.snd (Prod.snd (Prod.snd (Prod.snd (Prod.snd (Prod.snd (Prod.snd (tQ))))))))) = cl
          with_reducible generalize Prod.snd (Prod.snd (Prod.snd (Prod.snd (Prod.snd (Prod.snd (Prod.snd (Prod.snd (Prod.snd (tQ))))))))) = u6
          clear tQ
          intro F10 N10 _ hI2 hne2 hlm2 N11 hcl F12
          k_steps
          refine Stop.mk ?_
          refine for_open ?_
          k_steps
          rename Fr _ _ _ _ => F13
          rename News _ _ _ _ => N13
          refine Stop.mk ?_
          refine iter_listX (vs := [_, _]) (fun i m nx => nx = _ ∧ m (PySem.Str.ofString "progs") = some (.ref D5) ∧ m (PySem.Str.ofString "line") = some (.int ln u5) ∧ m (PySem.Str.ofString "col") = some (.int cl u6)) (by passes_own) rfl (.head _) F13 N13 ⟨rfl, rfl, rfl, rfl⟩ ?turn3 ?done3
          case done3 =>
            rintro m3 nx3 h8 tk8 ⟨rfl, b1, b2, b3⟩ hlm3 F14 N14
            dsimp only
            k_steps
            exact postX_next F14 (fun p hp => N14 p (.tail _ hp)) rfl hne2 (fun p hp => by rw [List.mem_singleton.mp hp]; exact hlm2) ⟨rfl, b1, b2⟩
          case turn3 =>
            rintro I3 jc v m3 nx3 h8 tk8 oJ3 hI3 hv hne3 hlm3 ⟨rfl, b1, b2, b3⟩ F14 N14
            obtain ⟨tn, u7, rfl, htn⟩ := two_at hv
            have F15 := fr_puts F14 (.cons b1 (.cons b2 (.cons b3 .nil)))
            simp only [putsM] at F15
            clear F14 b1 b2 b3 hv
            dsimp only
            rename_i yC3147 yC3149 yC3150 yC3153
            clear jc yC3147
            revert F13 N13 yC3153 hI3 hne3 hlm3 N14 htn F15
            revert tk yC3149 yC3150 I3 m3 h8 tk8 oJ3 tn u7
            refine no_implicit_lambda% (closed10 ?_)
            with_reducible generalize wit _ _ = tQ
            with_reducible generalize Prod.fst (tQ) = tk
            with_reducible generalize Prod.fst (Prod.snd (tQ)) = yC3149
            with_reducible generalize Prod.fst (Prod.snd (Prod.snd (tQ))) = yC3150
            with_reducible generalize Prod.fst (Prod.snd (Prod.snd (Prod.snd (tQ)))) = I3
            with_reducible generalize Prod.fst (Prod.snd (Prod.snd (Prod.snd (Prod.snd (tQ))))) = m3
            with_reducible generalize Prod.fst (Prod.snd (Prod.snd (Prod.snd (Prod.snd (Prod.snd (tQ)))))) = h8
            with_reducible generalize Prod.fst (Prod.snd (Prod.snd (Prod.snd (Prod.snd (Prod.snd (Prod.snd (tQ))))))) = tk8
            with_reducible generalize Prod.fst (Prod.snd (Prod.snd (Prod.snd (Prod.snd (Prod.snd (Prod.snd (Prod.snd (tQ)))))))) = oJ3
            with_reducible generalize Prod.fst (Prod.snd (Prod.snd (Prod.snd (Prod.snd (Prod.snd (Prod.snd (Prod.snd (Prod.snd (tQ))))))))) = tn
            with_reducible generalize Prod.snd (Prod.snd (Prod.snd (Prod.snd (Prod.snd (Prod.snd (Prod.snd (Prod.snd (Prod.snd (tQ))))))))) = u7
            clear tQ
            intro F13 N13 _ hI3 hne3 hlm3 N14 htn F15
            k_steps
            refine Stop.mk ?_
            rename News _ _ _ _ => N16
            rename Fr _ _ _ _ => F16
            have htn' : 0 ≤ tn ∧ tn ≤ 1 := by omega
            have hln' : 1 ≤ ln ∧ ln ≤ 4 := by omega
            have po := PO ns hl.2
            obtain ⟨nw, N16', sub⟩ := news_hide N16
            have hrs : ∀ p ∈ rs, p ∈ nw := fun p hp => sub p (mdr 11 rfl hp)
            have mD : (D5, listOf #[u0, u1, u2] 3) ∈ nw := sub _ (mat 6 rfl)
            have mI : (sA.heap.objs.size + 1 + 1, oI) ∈ nw := sub _ (mat 7 rfl)
            refine tellsT_use (walked_tells (w := w) lr D5 n1' 3 (rowOf ns 0) (rowOf ns 1) (rowOf ns 2) u0 u1 u2 s0 s1 s2 ln cl tn u5 u6 u7 nw htn' hln' (hrs _ mlr2) mD (pr0.mono hrs) (pr1.mono hrs) (pr2.mono hrs) ?hok) (by assumption) (by assumption) F16 N16' (by assumption) rfl (by ktr_room) (by ktr_units) ?_
            case hok =>
              intro ln' x' h1' h2' h3'
              have hxk : ∃ k, x' = rowOf ns k := by
                have h3 : ln' = 1 ∨ ln' = 2 ∨ ln' = 3 := by omega
                rcases h3 with rfl | rfl | rfl
                · exact ⟨0, (Option.some.inj h3').symm⟩
                · exact ⟨1, (Option.some.inj h3').symm⟩
                · exact ⟨2, (Option.some.inj h3').symm⟩
              obtain ⟨k', rfl⟩ := hxk
              have hrl := rowOf_len ns k'
              exact ⟨by omega, fun k h hh => ((po.inc k' k).mem h hh).2, fun cl' st => po.step ln' _ h1' h2' h3' cl' st⟩
            rintro rw1 nxw h9 tk9 F17 N17 ⟨⟨tlw, rfl, how⟩, hdw⟩
            have mI2 : (sA.heap.objs.size + 1 + 1, oI) ∈ nw ++ tlw := List.mem_append.mpr (.inl mI)
            have hrs2 : ∀ p ∈ rest, p ∈ nw ++ tlw := fun p hp => List.mem_append.mpr (.inl (hrs p (r0 p hp)))
            k_steps
            refine Stop.mk ?_
            have hit : ∀ k, (rowOf ns k).2.length ≤ 1000 := fun k => by have := rowOf_len ns k; omega
            refine tells_use (due_tells (w := w) li i0 i1 i2 n2' k0 k1 k2 v0 v1 v2 (rowOf ns 0).2 (rowOf ns 1).2 (rowOf ns 2).2 ln cl tn u5 u6 u7 (nw ++ tlw) (hrs2 _ mli') (hrs2 _ m0') (hrs2 _ m1') (hrs2 _ m2') (d0.mono hrs2) (d1.mono hrs2) (d2.mono hrs2) ?hok2 hln' htn') (by assumption) (by assumption) F17 N17 (by assumption) rfl (by ktr_room) (by ktr_units) ?_
            case hok2 =>
              exact allc ⟨hit 0, po.word 0⟩ (allc ⟨hit 1, po.word 1⟩ (allc ⟨hit 2, po.word 2⟩ alln))
            rintro rd nxd h10 tk10 F19 N19 ⟨⟨tld, rfl, hod⟩, hdd⟩
            have hdw2 := hdw.mono (news' := (nw ++ tlw) ++ tld) fun p hp => List.mem_append.mpr (.inl hp)
            clear hdw
            cases hdw2 with
            | list ma Da =>
              cases hdd with
              | list mb Db =>
                refine ne_same N19 ma Da mb Db rfl (dueP_ok _ _ _ _) (show callerA.units + 3 + 64 < cLine by decide) ?_
                k_steps
                exact postX_next F19 (fun p hp => N19 p (List.mem_append.mpr (.inl (List.mem_append.mpr (.inl (sub p hp)))))) rfl hne3 (fun p hp => by rw [List.mem_singleton.mp hp]; exact hlm3) ⟨rfl, rfl, rfl, rfl⟩
    case turn =>
      rintro I hI2 g i ys nx oI2 oC oK C K D2 tv h tk E' hi ⟨ps, pz, rs, rfl, r0, r1, r2, r3, r4, r5⟩ dK F6 N6 off df
      have z1 := off (56, tabObj ps) (.tail _ (.tail _ (.head _)))
      have z2 := off (63, tabObj pz) (.tail _ (.tail _ (.tail _ (.head _))))
      have z3 := off _ (.head _)
      have z4 := off _ (.tail _ (.head _))
      have zr : ∀ p ∈ rs, _ := fun p hp => off p (.tail _ (.tail _ (.tail _ (.tail _ hp))))
      rename_i yT57 yT58 yT63 yT64 yT66 yT74 yT75 yT76 yT77 yT78 yT82
      clear yT58 yT57 tk2 h2 nx
      revert mA hIn hab q1 q2 q3 q4 dR yT63 yT64 dI mlr mli hrow hR F5 N5 yT82 hI2 hi r0 r1 r2 r3 r4 r5 dK F6 N6 off df z1 z2 z3 z4 zr
      revert a lr li i0 i1 i2 nt rest oR hx oI yT66 ts is n1 n2 yT74 yT75 yT76 yT77 yT78 I g i ys oI2 oC oK C K D2 tv h tk E' ps pz rs
      refine no_implicit_lambda% (closed24 ?_)
      with_reducible generalize wit _ _ = tQ
      with_reducible generalize Prod.fst (tQ) = a
      with_reducible generalize Prod.fst (Prod.snd (tQ)) = lr
      with_reducible generalize Prod.fst (Prod.snd (Prod.snd (tQ))) = li
      with_reducible generalize Prod.fst (Prod.snd (Prod.snd (Prod.snd (tQ)))) = i0
      with_reducible generalize Prod.fst (Prod.snd (Prod.snd (Prod.snd (Prod.snd (tQ))))) = i1
      with_reducible generalize Prod.fst (Prod.snd (Prod.snd (Prod.snd (Prod.snd (Prod.snd (tQ)))))) = i2
      with_reducible generalize Prod.fst (Prod.snd (Prod.snd (Prod.snd (Prod.snd (Prod.snd (Prod.snd (tQ))))))) = nt
      with_reducible generalize Prod.fst (Prod.snd (Prod.snd (Prod.snd (Prod.snd (Prod.snd (Prod.snd (Prod.snd (tQ)))))))) = rest
      with_reducible generalize Prod.fst (Prod.snd (Prod.snd (Prod.snd (Prod.snd (Prod.snd (Prod.snd (Prod.snd (Prod.snd (tQ))))))))) = oR
      with_reducible generalize Prod.fst (Prod.snd (Prod.snd (Prod.snd (Prod.snd (Prod.snd (Prod.snd (Prod.snd (Prod.snd (Prod.snd (tQ)))))))))) = hx
      with_reducible generalize Prod.fst (Prod.snd (Prod.snd (Prod.snd (Prod.snd (Prod.snd (Prod.snd (Prod.snd (Prod.snd (Prod.snd (Prod.snd (tQ))))))))))) = oI
      with_reducible generalize Prod.fst (Prod.snd (Prod.snd (Prod.snd (Prod.snd (Prod.snd (Prod.snd (Prod.snd (Prod.snd (Prod.snd (Prod.snd (Prod.snd (tQ)))))))))))) = yT66
      with_reducible generalize Prod.fst (Prod.snd (Prod.snd (Prod.snd (Prod.snd (Prod.snd (Prod.snd (Prod.snd (Prod.snd (Prod.snd (Prod.snd (Prod.snd (Prod.snd (tQ))))))))))))) = ts
      with_reducible generalize Prod.fst (Prod.snd (Prod.snd (Prod.snd (Prod.snd (Prod.snd (Prod.snd (Prod.snd (Prod.snd (Prod.snd (Prod.snd (Prod.snd (Prod.snd (Prod.snd (tQ)))))))))))))) = is
      with_reducible generalize Prod.fst (Prod.snd (Prod.snd (Prod.snd (Prod.snd (Prod.snd (Prod.snd (Prod.snd (Prod.snd (Prod.snd (Prod.snd (Prod.snd (Prod.snd (Prod.snd (Prod.snd (tQ))))))))))))))) = n1
      with_reducible generalize Prod.fst (Prod.snd (Prod.snd (Prod.snd (Prod.snd (Prod.snd (Prod.snd (Prod.snd (Prod.snd (Prod.snd (Prod.snd (Prod.snd (Prod.snd (Prod.snd (Prod.snd (Prod.snd (tQ)))))))))))))))) = n2
      with_reducible generalize Prod.fst (Prod.snd (Prod.snd (Prod.snd (Prod.snd (Prod.snd (Prod.snd (Prod.snd (Prod.snd (Prod.snd (Prod.snd (Prod.snd (Prod.snd (Prod.snd (Prod.snd (Prod.snd (Prod.snd (tQ))))))))))))))))) = yT74
      with_reducible generalize Prod.fst (Prod.snd (Prod.snd (Prod.snd (Prod.snd (Prod.snd (Prod.snd (Prod.snd (Prod.snd (Prod.snd (Prod.snd (Prod.snd (Prod.snd (Prod.snd (Prod.snd (Prod.snd (Prod.snd (Prod.snd (tQ)))))))))))))))))) = yT75
      with_reducible generalize Prod.fst (Prod.snd (Prod.snd (Prod.snd (Prod.snd (Prod.snd (Prod.snd (Prod.snd (Prod.snd (Prod.snd (Prod.snd (Prod.snd (Prod.snd (Prod.snd (Prod.snd (Prod.snd (Prod.snd (Prod.snd (Prod.snd (tQ))))))))))))))))))) = yT76
      with_reducible generalize Prod.fst (Prod.snd (Prod.snd (Prod.snd (Prod.snd (Prod.snd (Prod.snd (Prod.snd (Prod.snd (Prod.snd (Prod.snd (Prod.snd (Prod.snd (Prod.snd (Prod.snd (Prod.snd (Prod.snd (Prod.snd (Prod.snd (Prod.snd (tQ)))))))))))))))))))) = yT77
      with_reducible generalize Prod.fst (Prod.snd (Prod.snd (Prod.snd (Prod.snd (Prod.snd (Prod.snd (Prod.snd (Prod.snd (Prod.snd (Prod.snd (Prod.snd (Prod.snd (Prod.snd (Prod.snd (Prod.snd (Prod.snd (Prod.snd (Prod.snd (Prod.snd (Prod.snd (tQ))))))))))))))))))))) = yT78
      with_reducible generalize Prod.fst (Prod.snd (Prod.snd (Prod.snd (Prod.snd (Prod.snd (Prod.snd (Prod.snd (Prod.snd (Prod.snd (Prod.snd (Prod.snd (Prod.snd (Prod.snd (Prod.snd (Prod.snd (Prod.snd (Prod.snd (Prod.snd (Prod.snd (Prod.snd (Prod.snd (tQ)))))))))))))))))))))) = I
      with_reducible generalize Prod.fst (Prod.snd (Prod.snd (Prod.snd (Prod.snd (Prod.snd (Prod.snd (Prod.snd (Prod.snd (Prod.snd (Prod.snd (Prod.snd (Prod.snd (Prod.snd (Prod.snd (Prod.snd (Prod.snd (Prod.snd (Prod.snd (Prod.snd (Prod.snd (Prod.snd (Prod.snd (tQ))))))))))))))))))))))) = g
      with_reducible generalize Prod.snd (Prod.snd (Prod.snd (Prod.snd (Prod.snd (Prod.snd (Prod.snd (Prod.snd (Prod.snd (Prod.snd (Prod.snd (Prod.snd (Prod.snd (Prod.snd (Prod.snd (Prod.snd (Prod.snd (Prod.snd (Prod.snd (Prod.snd (Prod.snd (Prod.snd (Prod.snd (tQ))))))))))))))))))))))) = i
      clear tQ
      refine no_implicit_lambda% (closed14 ?_)
      with_reducible generalize wit _ _ = tQ
      with_reducible generalize Prod.fst (tQ) = ys
      with_reducible generalize Prod.fst (Prod.snd (tQ)) = oI2
      with_reducible generalize Prod.fst (Prod.snd (Prod.snd (tQ))) = oC
      with_reducible generalize Prod.fst (Prod.snd (Prod.snd (Prod.snd (tQ)))) = oK
      with_reducible generalize Prod.fst (Prod.snd (Prod.snd (Prod.snd (Prod.snd (tQ))))) = C
      with_reducible generalize Prod.fst (Prod.snd (Prod.snd (Prod.snd (Prod.snd (Prod.snd (tQ)))))) = K
      with_reducible generalize Prod.fst (Prod.snd (Prod.snd (Prod.snd (Prod.snd (Prod.snd (Prod.snd (tQ))))))) = D2
      with_reducible generalize Prod.fst (Prod.snd (Prod.snd (Prod.snd (Prod.snd (Prod.snd (Prod.snd (Prod.snd (tQ)))))))) = tv
      with_reducible generalize Prod.fst (Prod.snd (Prod.snd (Prod.snd (Prod.snd (Prod.snd (Prod.snd (Prod.snd (Prod.snd (tQ))))))))) = h
      with_reducible generalize Prod.fst (Prod.snd (Prod.snd (Prod.snd (Prod.snd (Prod.snd (Prod.snd (Prod.snd (Prod.snd (Prod.snd (tQ)))))))))) = tk
      with_reducible generalize Prod.fst (Prod.snd (Prod.snd (Prod.snd (Prod.snd (Prod.snd (Prod.snd (Prod.snd (Prod.snd (Prod.snd (Prod.snd (tQ))))))))))) = E'
      with_reducible generalize Prod.fst (Prod.snd (Prod.snd (Prod.snd (Prod.snd (Prod.snd (Prod.snd (Prod.snd (Prod.snd (Prod.snd (Prod.snd (Prod.snd (tQ)))))))))))) = ps
      with_reducible generalize Prod.fst (Prod.snd (Prod.snd (Prod.snd (Prod.snd (Prod.snd (Prod.snd (Prod.snd (Prod.snd (Prod.snd (Prod.snd (Prod.snd (Prod.snd (tQ))))))))))))) = pz
      with_reducible generalize Prod.snd (Prod.snd (Prod.snd (Prod.snd (Prod.snd (Prod.snd (Prod.snd (Prod.snd (Prod.snd (Prod.snd (Prod.snd (Prod.snd (Prod.snd (tQ))))))))))))) = rs
      clear tQ
      intro mA hIn hab q1 q2 q3 q4 dR _ _ dI mlr mli hrow hR F5 N5 _ hI2 hi r0 r1 r2 r3 r4 r5 dK F6 N6 off df z1 z2 z3 z4 zr
      refine ListComp_S F6 (by with_unfolding_all rfl) (by decide) (by rfl) (by decide) (by rfl) ?_
      k_steps
      obtain ⟨t1, il, vs1, k1, hts, his, mil, dil⟩ := hrow i hi
      refine ⟨_, _, _, rfl, rfl, F6, N6, by decide, fun g1 => comp_rest (progJ2 w (rowOf ns i) [(I, oI2), (C, oC), (K, oK), (D2, LCg.lst ys), (sA.heap.objs.size + 1 + 1, oI), (sA.heap.objs.size + 1, oR)] rs (sA.heap.objs.size + 1) (sA.heap.objs.size + 1 + 1)) ⟨ps, pz, rs, rfl, fun _ h => h, r1, r2, r3, ?ne0, rfl, fun j hj => absurd hj (Nat.not_lt_zero j)⟩ ?turn2 ?fin2⟩
      case ne0 =>
        exact fun p hp => allc (zr p hp).1 (allc (zr p hp).2.1 (allc (zr p hp).2.2.1 (allc (zr p hp).2.2.2 (allc (r3 p hp).1 (allc (r3 p hp).2.1 alln)))))
      case turn2 =>
        rintro j v ys2 nx2 I2 oJ C3 oC3 D3 m3 h3 tk3 E3 hj ⟨ch, u, hch, rfl⟩ ⟨ps2, pz2, rs2, rfl, y0, y1, y2, y3, y4, y5, y6⟩ hC3 hxC F7 N7 off2 df2
        simp only [List.cons_append, List.nil_append] at N7
        have mlr2 := y0 _ (r0 _ mlr)
        have mli2 := y0 _ (r0 _ mli)
        have hkey : (⟨#[ch]⟩ : Str) = abK (j : Int) := by
          have h2 : j = 0 ∨ j = 1 := by have : j < 2 := hj; omega
          rcases h2 with rfl | rfl
          · have e : some ch = some 97 := hch.symm
            cases e; rfl
          · have e : some ch = some 98 := hch.symm
            cases e; rfl
        dsimp only
        clear g1
        revert hts his mil dil hj hch y0 y1 y2 y3 y4 y5 y6 hC3 hxC F7 N7 off2 df2 mlr2 mli2 hkey
        revert t1 il vs1 k1 j ys2 I2 oJ C3 oC3 D3 m3 h3 tk3 E3 ch u ps2 pz2 rs2
        refine no_implicit_lambda% (@id (Unit → Unit → Unit → Unit → _) ?_ () () () ())
        refine no_implicit_lambda% (closed24 ?_)
        with_reducible generalize wit _ _ = tQ
        with_reducible generalize Prod.fst (Prod.snd (Prod.snd (Prod.snd (Prod.snd (tQ))))) = t1
        with_reducible generalize Prod.fst (Prod.snd (Prod.snd (Prod.snd (Prod.snd (Prod.snd (tQ)))))) = il
        with_reducible generalize Prod.fst (Prod.snd (Prod.snd (Prod.snd (Prod.snd (Prod.snd (Prod.snd (tQ))))))) = vs1
        with_reducible generalize Prod.fst (Prod.snd (Prod.snd (Prod.snd (Prod.snd (Prod.snd (Prod.snd (Prod.snd (tQ)))))))) = k1
        with_reducible generalize Prod.fst (Prod.snd (Prod.snd (Prod.snd (Prod.snd (Prod.snd (Prod.snd (Prod.snd (Prod.snd (tQ))))))))) = j
        with_reducible generalize Prod.fst (Prod.snd (Prod.snd (Prod.snd (Prod.snd (Prod.snd (Prod.snd (Prod.snd (Prod.snd (Prod.snd (tQ)))))))))) = ys2
        with_reducible generalize Prod.fst (Prod.snd (Prod.snd (Prod.snd (Prod.snd (Prod.snd (Prod.snd (Prod.snd (Prod.snd (Prod.snd (Prod.snd (tQ))))))))))) = I2
        with_reducible generalize Prod.fst (Prod.snd (Prod.snd (Prod.snd (Prod.snd (Prod.snd (Prod.snd (Prod.snd (Prod.snd (Prod.snd (Prod.snd (Prod.snd (tQ)))))))))))) = oJ
        with_reducible generalize Prod.fst (Prod.snd (Prod.snd (Prod.snd (Prod.snd (Prod.snd (Prod.snd (Prod.snd (Prod.snd (Prod.snd (Prod.snd (Prod.snd (Prod.snd (tQ))))))))))))) = C3
        with_reducible generalize Prod.fst (Prod.snd (Prod.snd (Prod.snd (Prod.snd (Prod.snd (Prod.snd (Prod.snd (Prod.snd (Prod.snd (Prod.snd (Prod.snd (Prod.snd (Prod.snd (tQ)))))))))))))) = oC3
        with_reducible generalize Prod.fst (Prod.snd (Prod.snd (Prod.snd (Prod.snd (Prod.snd (Prod.snd (Prod.snd (Prod.snd (Prod.snd (Prod.snd (Prod.snd (Prod.snd (Prod.snd (Prod.snd (tQ))))))))))))))) = D3
        with_reducible generalize Prod.fst (Prod.snd (Prod.snd (Prod.snd (Prod.snd (Prod.snd (Prod.snd (Prod.snd (Prod.snd (Prod.snd (Prod.snd (Prod.snd (Prod.snd (Prod.snd (Prod.snd (Prod.snd (tQ)))))))))))))))) = m3
        with_reducible generalize Prod.fst (Prod.snd (Prod.snd (Prod.snd (Prod.snd (Prod.snd (Prod.snd (Prod.snd (Prod.snd (Prod.snd (Prod.snd (Prod.snd (Prod.snd (Prod.snd (Prod.snd (Prod.snd (Prod.snd (tQ))))))))))))))))) = h3
        with_reducible generalize Prod.fst (Prod.snd (Prod.snd (Prod.snd (Prod.snd (Prod.snd (Prod.snd (Prod.snd (Prod.snd (Prod.snd (Prod.snd (Prod.snd (Prod.snd (Prod.snd (Prod.snd (Prod.snd (Prod.snd (Prod.snd (tQ)))))))))))))))))) = tk3
        with_reducible generalize Prod.fst (Prod.snd (Prod.snd (Prod.snd (Prod.snd (Prod.snd (Prod.snd (Prod.snd (Prod.snd (Prod.snd (Prod.snd (Prod.snd (Prod.snd (Prod.snd (Prod.snd (Prod.snd (Prod.snd (Prod.snd (Prod.snd (tQ))))))))))))))))))) = E3
        with_reducible generalize Prod.fst (Prod.snd (Prod.snd (Prod.snd (Prod.snd (Prod.snd (Prod.snd (Prod.snd (Prod.snd (Prod.snd (Prod.snd (Prod.snd (Prod.snd (Prod.snd (Prod.snd (Prod.snd (Prod.snd (Prod.snd (Prod.snd (Prod.snd (tQ)))))))))))))))))))) = ch
        with_reducible generalize Prod.fst (Prod.snd (Prod.snd (Prod.snd (Prod.snd (Prod.snd (Prod.snd (Prod.snd (Prod.snd (Prod.snd (Prod.snd (Prod.snd (Prod.snd (Prod.snd (Prod.snd (Prod.snd (Prod.snd (Prod.snd (Prod.snd (Prod.snd (Prod.snd (tQ))))))))))))))))))))) = u
        with_reducible generalize Prod.fst (Prod.snd (Prod.snd (Prod.snd (Prod.snd (Prod.snd (Prod.snd (Prod.snd (Prod.snd (Prod.snd (Prod.snd (Prod.snd (Prod.snd (Prod.snd (Prod.snd (Prod.snd (Prod.snd (Prod.snd (Prod.snd (Prod.snd (Prod.snd (Prod.snd (tQ)))))))))))))))))))))) = ps2
        with_reducible generalize Prod.fst (Prod.snd (Prod.snd (Prod.snd (Prod.snd (Prod.snd (Prod.snd (Prod.snd (Prod.snd (Prod.snd (Prod.snd (Prod.snd (Prod.snd (Prod.snd (Prod.snd (Prod.snd (Prod.snd (Prod.snd (Prod.snd (Prod.snd (Prod.snd (Prod.snd (Prod.snd (tQ))))))))))))))))))))))) = pz2
        with_reducible generalize Prod.snd (Prod.snd (Prod.snd (Prod.snd (Prod.snd (Prod.snd (Prod.snd (Prod.snd (Prod.snd (Prod.snd (Prod.snd (Prod.snd (Prod.snd (Prod.snd (Prod.snd (Prod.snd (Prod.snd (Prod.snd (Prod.snd (Prod.snd (Prod.snd (Prod.snd (Prod.snd (tQ))))))))))))))))))))))) = rs2
        clear tQ
        intro hts his mil dil hj hch y0 y1 y2 y3 y4 y5 y6 hC3 hxC F7 N7 off2 df2 mlr2 mli2 hkey
        k_steps
        refine Stop.mk ?_
        rw [hkey]
        have w1 := off2.mem (56, tabObj ps2) (by walk_at "mm")
        have w2 := off2.mem (63, tabObj pz2) (by walk_at "mm")
        have hneF : ∀ p ∈ (I2, oJ) :: (C3, oC3) :: (D3, LCg.lst ys2) :: (I, oI2) :: (C, oC) :: (K, oK) :: (D2, LCg.lst ys) :: (sA.heap.objs.size + 1 + 1, oI) :: (sA.heap.objs.size + 1, oR) :: rs2, (@Ne Nat p.1 56) ∧ (@Ne Nat p.1 63) := by
          have g63 : @LT.lt Nat _ 63 (sA.heap.objs.size + 1) := by omega
          have g56 : @LT.lt Nat _ 56 (sA.heap.objs.size + 1) := Nat.lt_trans (by decide) g63
          exact allc ⟨Ne.symm w1.1, Ne.symm w2.1⟩ (allc ⟨Ne.symm w1.2.1, Ne.symm w2.2.1⟩ (allc ⟨Ne.symm w1.2.2, Ne.symm w2.2.2⟩ (allc ⟨Ne.symm z1.1, Ne.symm z2.1⟩ (allc ⟨Ne.symm z1.2.1, Ne.symm z2.2.1⟩ (allc ⟨Ne.symm z1.2.2.1, Ne.symm z2.2.2.1⟩ (allc ⟨Ne.symm z1.2.2.2, Ne.symm z2.2.2.2⟩ (allc ⟨Nat.ne_of_gt (Nat.lt_succ_of_lt g56), Nat.ne_of_gt (Nat.lt_succ_of_lt g63)⟩ (allc ⟨Nat.ne_of_gt g56, Nat.ne_of_gt g63⟩ fun p hp => (y3 p hp).2.2))))))))
        have subF : ∀ p ∈ rs2, p ∈ (I2, oJ) :: (C3, oC3) :: (D3, LCg.lst ys2) :: (I, oI2) :: (C, oC) :: (K, oK) :: (D2, LCg.lst ys) :: (sA.heap.objs.size + 1 + 1, oI) :: (sA.heap.objs.size + 1, oR) :: rs2 := fun p hp => mdr 9 rfl hp
        have hrl := rowOf_len ns i
        have hv1 : vs1.length ≤ 1000 := by have := dil.length; rw [List.length_map] at this; omega
        refine tells_use (prog_tells (rowOf ns i).1 t1 il vs1 k1 (rowOf ns i).2 (abK j) u _ (fun p hp => (hneF p hp).1) (fun p hp => (hneF p hp).2) (subF _ (y0 _ (r0 _ mil))) (dil.mono fun p hp => subF p (y0 p (r0 p hp))) hv1 ps2 rs2 subF y1 pz2 y2 ((PO ns hl.2).inc _ _) ((PO ns hl.2).bd _ _) (by omega)) (by assumption) (by assumption) F7 (fun p hp => N7 p ((?hsub : ∀ q ∈ (_ : List (Addr × Obj)), q ∈ (_ : List (Addr × Obj))) p hp)) (by assumption) rfl (by ktr_room) (by ktr_units) ?_
        case hsub =>
          (walk_at "sub")
          exact fun p hp => mdr 11 rfl hp
        rintro r nx3 h4 tk4 F8 N9 ⟨ps3, pz3, tl3, rfl, T56, T63, hlt, h63, hP⟩
        (first | k_unfold | skip)
        refine LCg.CompEnd.intro F8 N9 _ ?sub3 ?off3 True.intro (progJ2_step y0 T56 T63 y3 y4 y5 y6 ?a3 ?b3 hP)
        case sub3 =>
          dsimp only [List.cons_append, List.nil_append]
          (walk_at "sub")
          exact fun p hp => mdr 11 rfl hp
        case off3 =>
          dsimp only [List.cons_append, List.nil_append]
          exact LCg.Off3.of (allc (off2.mem _ (by walk_at "mm")) (allc (off2.mem _ (by walk_at "mm")) (allc (off2.mem _ (by walk_at "mm")) (allc (off2.mem _ (by walk_at "mm")) (allc (off2.mem _ (by walk_at "mm")) (allc (off2.mem _ (by walk_at "mm")) (allc w1 (allc w2 (alla (fun p hp => off2.mem _ (mdr 8 rfl hp)) fun p hp => ⟨Nat.ne_of_gt (hlt p hp _ (.head _)), Nat.ne_of_gt (hlt p hp _ (.tail _ (.head _))), Nat.ne_of_gt (hlt p hp _ (.tail _ (.tail _ (.head _))))⟩)))))))))
        case a3 =>
          exact fun p hp => ⟨Nat.ne_of_gt (hlt p hp (sA.heap.objs.size + 1 + 1, oI) (by walk_at "mm")), Nat.ne_of_gt (hlt p hp (sA.heap.objs.size + 1, oR) (by walk_at "mm")), Nat.ne_of_gt (Nat.lt_trans (by decide) (h63 p hp)), Nat.ne_of_gt (h63 p hp)⟩
        case b3 =>
          refine fun p hp q hq => Nat.ne_of_gt (hlt p hp q ((?hsub2 : ∀ q ∈ (_ : List (Addr × Obj)), q ∈ (_ : List (Addr × Obj))) q hq))
          case hsub2 =>
            (walk_at "sub")
            exact alln
      case fin2 =>
        rintro ys2 nx2 ⟨ps2, pz2, rs2, rfl, y0, y1, y2, y3, y4, y5, y6⟩ D3 h3 tk3 F8 N8 off1
        have o1m := off1_mem off1
        (first | k_unfold | skip)
        refine ⟨h3, tk3, (sA.heap.objs.size + 1 + 1, oI) :: (sA.heap.objs.size + 1, oR) :: (56, tabObj ps2) :: (63, tabObj pz2) :: (D3, LCg.lst ys2) :: rs2, rfl, F8, fun p hp => N8 p ((?sub4 : ∀ q ∈ (_ : List (Addr × Obj)), q ∈ (_ : List (Addr × Obj))) p hp), ?off4, progsJ_step (fun p hp => y0 p (r0 p hp)) y1 y2 y3 r4 (fun j hj => let ⟨v, hv, hp⟩ := r5 j hj; ⟨v, hv, hp.mono y0⟩) ⟨Ne.symm (o1m (sA.heap.objs.size + 1 + 1, oI) (by walk_at "mm")), Ne.symm (o1m (sA.heap.objs.size + 1, oR) (by walk_at "mm")), Ne.symm (o1m (56, tabObj ps2) (by walk_at "mm")), Ne.symm (o1m (63, tabObj pz2) (by walk_at "mm"))⟩ y5 y6⟩
        case sub4 =>
          dsimp only [List.cons_append, List.nil_append]
          (walk_at "sub")
          exact fun p hp => mdr 9 rfl hp
        case off4 =>
          exact allc z3 (allc z4 (allc z1 (allc z2 (allc ⟨Ne.symm (o1m (I, oI2) (by walk_at "mm")), Ne.symm (o1m (C, oC) (by walk_at "mm")), Ne.symm (o1m (K, oK) (by walk_at "mm")), Ne.symm (o1m (D2, LCg.lst ys) (by walk_at "mm"))⟩ fun p hp => ⟨y4 p hp (I, oI2) (by walk_at "mm"), y4 p hp (C, oC) (by walk_at "mm"), y4 p hp (K, oK) (by walk_at "mm"), y4 p hp (D2, LCg.lst ys) (by walk_at "mm")⟩)))))
end Mine
end

section
open PySem PySem.W PyProof.Rows
open PySem.Builtin PySem.Builtin.Str
set_option maxRecDepth 100000
set_option maxHeartbeats 2400000
namespace MineP
theorem reg_PlainI_1 : True := by
  w_top off
  k_with_none
  k_with "my big" => lia
  k_with "my omega" => first
      | with_reducible assumption
      | decide
      | ((fail_if_success (fail_if_success omega (config := {})))
         first
           | k_extra "my om"
           | k_extra "my big"
           | omega (config := {}))
  k_with "my om" => first
      | (with_reducible refine' rm0 ?h; (case h => with_reducible assumption))
      | (with_reducible refine' rm1 ?h ?e; (case h => with_reducible assumption); (case e => decide))
      | (with_reducible refine' rm2 ?h ?e; (case h => with_reducible assumption); (case e => decide))
      | (with_reducible refine' rm3 ?h ?e; (case h => with_reducible assumption); (case e => decide))
      | (with_reducible refine' bd1 ?h ?e; (case h => with_reducible assumption); (case e => decide))
      | (with_reducible refine' bd3 ?h ?e; (case h => with_reducible assumption); (case e => decide))
      | (with_reducible refine' bd4 ?h ?e; (case h => with_reducible assumption); (case e => decide))
      | (with_reducible refine' bz1 ?h ?e; (case h => walk_at "lt"); (case e => decide))
      | (with_reducible refine' bz3 ?h ?e; (case h => walk_at "lt"); (case e => decide))
      | (with_reducible refine' bd2 ?q ?h ?e; (case q => with_reducible assumption); (case h => with_reducible assumption); (case e => decide))
      | walk_at "lt2"
      | (with_reducible refine Nat.le_of_lt ?_; walk_at "lt2")
      | (with_reducible refine Nat.ne_of_lt ?_; walk_at "lt2")
      | (with_reducible refine Nat.ne_of_gt ?_; walk_at "lt2")
      | ((with_reducible refine And.intro ?_ ?_) <;> k_extra "my omega")
      | (with_reducible refine' Nat.lt_trans ?a ?b; (case b => with_reducible assumption); (case a => walk_at "lt2"))
      | (with_reducible refine' Nat.lt_trans ?a ?b; (case a => with_reducible assumption); (case b => walk_at "lt2"))
      | (with_reducible refine' Nat.lt_of_le_of_lt ?a ?b; (case b => with_reducible assumption); (case a => walk_at "lt2"))
      | (with_reducible refine' Nat.lt_of_le_of_lt ?a ?b; (case a => with_reducible assumption); (case b => walk_at "lt2"))
      | (with_reducible refine' Nat.lt_of_lt_of_le ?a ?b; (case b => with_reducible assumption); (case a => walk_at "lt2"))
      | (with_reducible refine' Nat.lt_of_lt_of_le ?a ?b; (case a => with_reducible assumption); (case b => walk_at "lt2"))
      | (with_reducible refine' Nat.le_trans ?a ?b; (case b => with_reducible assumption); (case a => walk_at "lt2"))
      | (with_reducible refine' Nat.le_trans ?a ?b; (case a => with_reducible assumption); (case b => walk_at "lt2"))
  k_with "my lt" => first
      | with_reducible assumption
      | (refine' And.left ?h; (case h => with_reducible assumption))
      | (refine' And.left (And.right ?h); (case h => with_reducible assumption))
      | (refine' And.left (And.right (And.right ?h)); (case h => with_reducible assumption))
      | (refine' And.left (And.right (And.right (And.right ?h))); (case h => with_reducible assumption))
      | (refine' And.left (And.right (And.right (And.right (And.right ?h)))); (case h => with_reducible assumption))
      | (refine' And.left (And.right (And.right (And.right (And.right (And.right ?h))))); (case h => with_reducible assumption))
      | (refine' And.left (And.right (And.right (And.right (And.right (And.right (And.right ?h)))))); (case h => with_reducible assumption))
      | (refine' And.left (And.right (And.right (And.right (And.right (And.right (And.right (And.right ?h))))))); (case h => with_reducible assumption))
      | (refine' And.left (And.right (And.right (And.right (And.right (And.right (And.right (And.right (And.right ?h)))))))); (case h => with_reducible assumption))
      | (refine' And.left (And.right (And.right (And.right (And.right (And.right (And.right (And.right (And.right (And.right ?h))))))))); (case h => with_reducible assumption))
      | (refine' And.left (And.right (And.right (And.right (And.right (And.right (And.right (And.right (And.right (And.right (And.right ?h)))))))))); (case h => with_reducible assumption))
  k_with "my lt2" => first
      | walk_at "lt"
      | (with_reducible exact ad1)
      | (with_reducible exact ad2)
      | (with_reducible exact ad3)
      | (with_reducible exact ad4)
      | (with_reducible refine ar1 ?_; walk_at "lt")
      | (with_reducible refine ar2 ?_; walk_at "lt")
      | (with_reducible refine ar3 ?_; walk_at "lt")
      | (with_reducible refine ar4 ?_; walk_at "lt")
      | (with_reducible refine as1 ?_; walk_at "lt")
      | (with_reducible refine as2 ?_; walk_at "lt")
      | (with_reducible refine as3 ?_; walk_at "lt")
      | (with_reducible refine as4 ?_; walk_at "lt")
  k_with "my ar" => ((try dsimp only); first
      | with_reducible exact Nat.le_refl _
      | walk_at "lt2"
      | (refine Nat.le_of_lt ?_; walk_at "lt2")
      | (refine Nat.ne_of_lt ?_; walk_at "lt2")
      | (refine Nat.ne_of_gt ?_; walk_at "lt2")
      | k_extra "my ar2"
      | omega)
  k_with "my k_ne" => (refine neN ?_; (try dsimp only); first
      | with_reducible assumption
      | (refine Ne.symm ?_; with_reducible assumption)
      | (refine Nat.ne_of_lt ?_; walk_at "lt")
      | (refine Nat.ne_of_gt ?_; walk_at "lt")
      | omega)
  trivial
open Mine
/-- what kvP makes of the read text ht of an item with the word w -/
noncomputable def WordRel (key ht : Str) : Word → Prop
  | .noEq => kvP ht = .noEq
  | .noValue => kvP ht = .noVal
  | .place l c => ∃ v, kvP ht = .pair key v ∧ v.length ≤ 1000 ∧ (key = PySem.Str.ofString "c" ∨ GlcOk v (.inr (l, c)))
  | .noPlace => ∃ v, kvP ht = .pair key v ∧ v.length ≤ 1000 ∧ GlcOk v (.inl (.str (PySem.Str.ofString "no place")))
structure ItemFacts (t h : Str) (w : Word) : Prop where
  run : httpRun t.cps.toList = ⟨[], h, false, false⟩
  pos : h.length ≠ 0
  len : h.length ≤ 1000
  strip1 : Txt.strip (sgn 32 ++ h) = h
  strip0 : Txt.strip h = h
  word : WordRel (Txt.item t 0) h w
/-- digits -/
structure Digs (x : Str) (i : Int) : Prop where
  all : ∀ c ∈ x.cps.toList, 48 ≤ c ∧ c ≤ 57
  pos : 1 ≤ x.length
  len : x.length ≤ 2
  i0 : PySem.intText? x = some i
  i1 : PySem.intText? (PySem.Str.ofString "0" ++ x) = some i
  i2 : PySem.intText? (PySem.Str.ofString "+" ++ x) = some i
  i3 : PySem.intText? (PySem.Str.ofString " " ++ x) = some i
noncomputable def digChk (x : Str) (i : Int) : Bool := (x.cps.toList.all fun c => decide (48 ≤ c) && decide (c ≤ 57)) && decide (1 ≤ x.length) && decide (x.length ≤ 2) && PySem.intText? x == some i && PySem.intText? (PySem.Str.ofString "0" ++ x) == some i && PySem.intText? (PySem.Str.ofString "+" ++ x) == some i && PySem.intText? (PySem.Str.ofString " " ++ x) == some i
theorem digChk_all : ∀ (c : Fin 28), digChk (tI (c.val : Nat)) (c.val : Nat) = true := by decide +kernel
theorem digs_of {i : Int} (h0 : 0 ≤ i) (h1 : i < 28) : Digs (tI i) i := by
  have h := digChk_all ⟨i.toNat, by omega⟩
  have e : ((i.toNat : Nat) : Int) = i := by omega
  simp only [e] at h
  unfold digChk at h
  simp only [Bool.and_eq_true, beq_iff_eq, decide_eq_true_eq, List.all_eq_true] at h
  obtain ⟨⟨⟨⟨⟨⟨a, b⟩, c⟩, d⟩, e⟩, f⟩, g⟩ := h
  exact ⟨a, b, c, d, e, f, g⟩
/-- texts out of code points -/
noncomputable def S (l : List Nat) : Str := ⟨l.toArray⟩
theorem S_app (a b : List Nat) : S (a ++ b) = S a ++ S b := Str.ext' (by simp [S, Str.cps_append])
theorem S_list (a : List Nat) : (S a).cps.toList = a := by simp [S]
theorem S_len (a : List Nat) : (S a).length = a.length := by simp [S, PySem.Str.length]
theorem S_of (x : Str) : x = S x.cps.toList := Str.ext' (by simp [S])
theorem sgn_S (c : Nat) : sgn c = S [c] := rfl
theorem fold_plain {q : Bool} : ∀ (D : List Nat), (∀ x ∈ D, x ≠ 34 ∧ x ≠ 44 ∧ x ≠ 92) → ∀ (res : List Str) (p : List Nat), D.foldl httpStep ⟨res, S p, false, q⟩ = ⟨res, S (p ++ D), false, q⟩
  | [], _, res, p => by simp
  | x :: D, h, res, p => by
    have hx := h x (.head _)
    have e : httpStep ⟨res, S p, false, q⟩ x = ⟨res, S (p ++ [x]), false, q⟩ := by
      cases q <;> simp [httpStep, hx.1, hx.2.1, hx.2.2, sgn_S, S_app]
    rw [List.foldl_cons, e, fold_plain D (fun y hy => h y (.tail _ hy))]
    simp
theorem step_quo {res : List Str} {p : List Nat} : httpStep ⟨res, S p, false, false⟩ 34 = ⟨res, S (p ++ [34]), false, true⟩ := by simp [httpStep, sgn_S, S_app]
theorem step_unq {res : List Str} {p : List Nat} : httpStep ⟨res, S p, false, true⟩ 34 = ⟨res, S (p ++ [34]), false, false⟩ := by simp [httpStep, sgn_S, S_app]
theorem step_esc {res : List Str} {p : List Nat} : httpStep ⟨res, S p, false, true⟩ 92 = ⟨res, S p, true, true⟩ := by simp [httpStep]
theorem step_escd {res : List Str} {p : List Nat} {c : Nat} : httpStep ⟨res, S p, true, true⟩ c = ⟨res, S (p ++ [c]), false, true⟩ := by simp [httpStep, sgn_S, S_app]
theorem step_com {res : List Str} {p : List Nat} : httpStep ⟨res, S p, false, true⟩ 44 = ⟨res, S (p ++ [44]), false, true⟩ := by simp [httpStep, sgn_S, S_app]
/-- strip -/
theorem isSpace_32 : Unicode.isSpace 32 = true := by decide +kernel
theorem hi_of {l m : List Nat} {b : Nat} (hb : Unicode.isSpace b = false) : ((m ++ [b]).reverse.takeWhile Unicode.isSpace) = [] := by
  simp [hb]
theorem strip_ends {l m : List Nat} {a b : Nat} (ha : Unicode.isSpace a = false) (hb : Unicode.isSpace b = false) (h1 : l = a :: m) (h2 : ∃ r, l = r ++ [b]) : Txt.strip (S l) = S l ∧ Txt.strip (sgn 32 ++ S l) = S l := by
  obtain ⟨r, h2⟩ := h2
  have lo0 : stripLo Unicode.isSpace true (S l) = 0 := by
    simp only [stripLo, if_true, S_list]
    rw [h1]; simp [ha]
  have hi0 : stripHi Unicode.isSpace true (S l) 0 = (S l).length := by
    simp only [stripHi, if_true, List.drop_zero, S_list]
    rw [h2]; simp [hb]
  have e32 : (sgn 32 ++ S l) = S (32 :: l) := by rw [sgn_S, ← S_app]; rfl
  have lo1 : stripLo Unicode.isSpace true (S (32 :: l)) = 1 := by
    simp only [stripLo, if_true, S_list]
    rw [h1]; simp [ha, isSpace_32]
  have hi1 : stripHi Unicode.isSpace true (S (32 :: l)) 1 = l.length + 1 := by
    simp only [stripHi, if_true, S_list, List.drop_succ_cons, List.drop_zero, S_len, List.length_cons]
    rw [h2]; simp [hb]
  constructor
  · unfold Txt.strip Txt.stripBy
    rw [if_pos (by unfold stripSame; rw [lo0, hi0]; simp)]
  · rw [e32]
    unfold Txt.strip Txt.stripBy
    rw [if_neg (by unfold stripSame; rw [lo1]; simp)]
    unfold PySem.stripped
    rw [lo1, hi1, S_of (strSub _ _ _), StrLaws.strSub_toList, S_list]
    simp
/-- cutting at the first sign c -/
theorem forIn_miss {x y : Str} {lim : Nat} : ∀ (l : List Nat) (st : Array Nat × Nat), (∀ i ∈ l, ¬ ((st.fst.size < lim ∧ st.snd ≤ i) ∧ i + y.length ≤ x.length ∧ subAt x y i = true)) → (forIn (m := Id) l st (StrLaws.occBody x y x.length lim)).run = st
  | [], st, _ => rfl
  | i :: r, st, h => by
    have hi : ¬ (((st.fst.size < lim ∧ st.snd ≤ i) ∧ i + y.length ≤ x.length) ∧ subAt x y i = true) := fun c => h i (.head _) ⟨c.1.1, c.1.2, c.2⟩
    simp only [List.forIn_cons, StrLaws.occBody, if_neg hi]
    exact forIn_miss r st fun j hj => h j (.tail _ hj)
theorem forIn_app {x y : Str} {hi lim : Nat} : ∀ (l r : List Nat) (st : Array Nat × Nat), forIn (m := Id) (l ++ r) st (StrLaws.occBody x y hi lim) = forIn (m := Id) r (forIn (m := Id) l st (StrLaws.occBody x y hi lim)) (StrLaws.occBody x y hi lim)
  | [], r, st => rfl
  | a :: l, r, st => by
    rw [List.cons_append, List.forIn_cons, List.forIn_cons]
    unfold StrLaws.occBody
    split
    · exact forIn_app l r _
    · exact forIn_app l r _
theorem occ_once {p q : List Nat} {c lim : Nat} (hp : c ∉ p) (h1 : 1 ≤ lim) (hq : lim = 1 ∨ c ∉ q) : occurrences (S (p ++ c :: q)) ⟨#[c]⟩ 0 (S (p ++ c :: q)).length lim = [p.length] := by
  rw [StrLaws.occ_eq]
  have hlen : (S (p ++ c :: q)).length = p.length + (q.length + 1) := by rw [S_len]; simp
  have key := StrLaws.subAt_one (S (p ++ c :: q)) c
  rw [S_list] at key
  rw [hlen] at key ⊢
  have e : List.range' 0 (p.length + (q.length + 1) + 1 - 0) = List.range' 0 p.length ++ p.length :: List.range' (p.length + 1) (q.length + 1) := by
    rw [show p.length + (q.length + 1) + 1 - 0 = p.length + (q.length + 1 + 1) by omega, ← List.range'_append_1, List.range'_succ]; simp
  have m1 := forIn_miss (x := S (p ++ c :: q)) (y := ⟨#[c]⟩) (lim := lim) (List.range' 0 p.length) (#[], 0) (by
    rintro i hi ⟨_, h⟩
    rw [hlen] at h
    have := (key i).mp h
    have hi' : i < p.length := by have := List.mem_range'.mp hi; omega
    rw [List.getElem?_append_left hi'] at this
    exact hp (List.mem_of_getElem? this))
  rw [hlen] at m1
  have m2 := forIn_miss (x := S (p ++ c :: q)) (y := ⟨#[c]⟩) (lim := lim) (List.range' (p.length + 1) (q.length + 1)) (#[p.length], p.length + 1) (by
    rintro i hi ⟨h3, h⟩
    rw [hlen] at h
    rcases hq with rfl | hq
    · simp at h3
    · have := (key i).mp h
      have hi' : p.length < i := by have := List.mem_range'.mp hi; omega
      rw [List.getElem?_append_right (by omega), show i - p.length = (i - p.length - 1) + 1 by omega, List.getElem?_cons_succ] at this
      exact hq (List.mem_of_getElem? this))
  rw [hlen] at m2
  have hit : ((((#[] : Array Nat), 0).fst.size < lim ∧ ((#[] : Array Nat), 0).snd ≤ p.length) ∧ p.length + (⟨#[c]⟩ : Str).length ≤ p.length + (q.length + 1)) ∧ subAt (S (p ++ c :: q)) ⟨#[c]⟩ p.length = true := by
    have := (key p.length).mpr (by simp)
    exact ⟨⟨⟨h1, Nat.zero_le _⟩, this.1⟩, this.2⟩
  rw [e, forIn_app]
  show (((forIn (m := Id) (List.range' 0 p.length) ((#[] : Array Nat), 0) (StrLaws.occBody (S (p ++ c :: q)) ⟨#[c]⟩ (p.length + (q.length + 1)) lim)).run |> fun st => forIn (m := Id) (p.length :: List.range' (p.length + 1) (q.length + 1)) st (StrLaws.occBody (S (p ++ c :: q)) ⟨#[c]⟩ (p.length + (q.length + 1)) lim)).run).fst.toList = _
  rw [m1]
  simp only [List.forIn_cons]
  rw [show StrLaws.occBody (S (p ++ c :: q)) ⟨#[c]⟩ (p.length + (q.length + 1)) lim p.length (#[], 0) = pure (ForInStep.yield (#[p.length], p.length + 1)) by unfold StrLaws.occBody; rw [if_pos hit]; rfl]
  show ((forIn (m := Id) (List.range' (p.length + 1) (q.length + 1)) ((#[p.length] : Array Nat), p.length + 1) (StrLaws.occBody (S (p ++ c :: q)) ⟨#[c]⟩ (p.length + (q.length + 1)) lim)).run).fst.toList = _
  rw [m2]
theorem kind_one {c : Nat} (hc : c < 256) : PySem.Builtin.Str.strKind ⟨#[c]⟩ = 1 := by unfold PySem.Builtin.Str.strKind; simp [hc]
theorem parts_once {p q : List Nat} {c : Nat} : partsBetween (S (p ++ c :: q)) [p.length] (⟨#[c]⟩ : Str).length = [S p, S q] := by
  show [strSub _ 0 p.length, strSub _ (p.length + 1) (S (p ++ c :: q)).length] = _
  rw [S_of (strSub _ 0 _), S_of (strSub _ (p.length + 1) _), StrLaws.strSub_toList, StrLaws.strSub_toList, S_list, S_len]
  simp
  rw [List.take_of_length_le (by omega)]
theorem splitMax_one {p q : List Nat} {c : Nat} (hc : c < 256) (hp : c ∉ p) : Txt.splitMax (S (p ++ c :: q)) ⟨#[c]⟩ 1 = [S p, S q] := by
  have hk := PyProof.Rows.strKind_pos (S (p ++ c :: q))
  have hk2 := kind_one hc
  have hl : (S (p ++ c :: q)).length = p.length + (q.length + 1) := by rw [S_len]; simp
  unfold Txt.splitMax
  have hL : limitOf (S (p ++ c :: q)) 1 = 1 := rfl
  rw [if_neg (by rw [hk2, hl]; simp [PySem.Str.length]; omega), hL, occ_once hp (Nat.le_refl 1) (.inl rfl), if_neg (by simp), parts_once]
theorem split_one_at {p q : List Nat} {c : Nat} (hc : c < 256) (hp : c ∉ p) (hq : c ∉ q) : Txt.split (S (p ++ c :: q)) ⟨#[c]⟩ = [S p, S q] := by
  have hk := PyProof.Rows.strKind_pos (S (p ++ c :: q))
  have hk2 := kind_one hc
  have hl : (S (p ++ c :: q)).length = p.length + (q.length + 1) := by rw [S_len]; simp
  unfold Txt.split
  rw [if_neg (by rw [hk2, hl]; simp [PySem.Str.length]; omega), occ_once hp (by omega) (.inr hq), if_neg (by simp), parts_once]
end MineP
end

section
open PySem PySem.W PyProof.Rows
open PySem.Builtin PySem.Builtin.Str
set_option maxRecDepth 100000
set_option maxHeartbeats 2400000
namespace MineP
theorem reg_PlainJ_1 : True := by
  w_top off
  k_with_none
  k_with "my big" => lia
  k_with "my omega" => first
      | with_reducible assumption
      | decide
      | ((fail_if_success (fail_if_success omega (config := {})))
         first
           | k_extra "my om"
           | k_extra "my big"
           | omega (config := {}))
  k_with "my om" => first
      | (with_reducible refine' rm0 ?h; (case h => with_reducible assumption))
      | (with_reducible refine' rm1 ?h ?e; (case h => with_reducible assumption); (case e => decide))
      | (with_reducible refine' rm2 ?h ?e; (case h => with_reducible assumption); (case e => decide))
      | (with_reducible refine' rm3 ?h ?e; (case h => with_reducible assumption); (case e => decide))
      | (with_reducible refine' bd1 ?h ?e; (case h => with_reducible assumption); (case e => decide))
      | (with_reducible refine' bd3 ?h ?e; (case h => with_reducible assumption); (case e => decide))
      | (with_reducible refine' bd4 ?h ?e; (case h => with_reducible assumption); (case e => decide))
      | (with_reducible refine' bz1 ?h ?e; (case h => walk_at "lt"); (case e => decide))
      | (with_reducible refine' bz3 ?h ?e; (case h => walk_at "lt"); (case e => decide))
      | (with_reducible refine' bd2 ?q ?h ?e; (case q => with_reducible assumption); (case h => with_reducible assumption); (case e => decide))
      | walk_at "lt2"
      | (with_reducible refine Nat.le_of_lt ?_; walk_at "lt2")
      | (with_reducible refine Nat.ne_of_lt ?_; walk_at "lt2")
      | (with_reducible refine Nat.ne_of_gt ?_; walk_at "lt2")
      | ((with_reducible refine And.intro ?_ ?_) <;> k_extra "my omega")
      | (with_reducible refine' Nat.lt_trans ?a ?b; (case b => with_reducible assumption); (case a => walk_at "lt2"))
      | (with_reducible refine' Nat.lt_trans ?a ?b; (case a => with_reducible assumption); (case b => walk_at "lt2"))
      | (with_reducible refine' Nat.lt_of_le_of_lt ?a ?b; (case b => with_reducible assumption); (case a => walk_at "lt2"))
      | (with_reducible refine' Nat.lt_of_le_of_lt ?a ?b; (case a => with_reducible assumption); (case b => walk_at "lt2"))
      | (with_reducible refine' Nat.lt_of_lt_of_le ?a ?b; (case b => with_reducible assumption); (case a => walk_at "lt2"))
      | (with_reducible refine' Nat.lt_of_lt_of_le ?a ?b; (case a => with_reducible assumption); (case b => walk_at "lt2"))
      | (with_reducible refine' Nat.le_trans ?a ?b; (case b => with_reducible assumption); (case a => walk_at "lt2"))
      | (with_reducible refine' Nat.le_trans ?a ?b; (case a => with_reducible assumption); (case b => walk_at "lt2"))
  k_with "my lt" => first
      | with_reducible assumption
      | (refine' And.left ?h; (case h => with_reducible assumption))
      | (refine' And.left (And.right ?h); (case h => with_reducible assumption))
      | (refine' And.left (And.right (And.right ?h)); (case h => with_reducible assumption))
      | (refine' And.left (And.right (And.right (And.right ?h))); (case h => with_reducible assumption))
      | (refine' And.left (And.right (And.right (And.right (And.right ?h)))); (case h => with_reducible assumption))
      | (refine' And.left (And.right (And.right (And.right (And.right (And.right ?h))))); (case h => with_reducible assumption))
      | (refine' And.left (And.right (And.right (And.right (And.right (And.right (And.right ?h)))))); (case h => with_reducible assumption))
      | (refine' And.left (And.right (And.right (And.right (And.right (And.right (And.right (And.right ?h))))))); (case h => with_reducible assumption))
      | (refine' And.left (And.right (And.right (And.right (And.right (And.right (And.right (And.right (And.right ?h)))))))); (case h => with_reducible assumption))
      | (refine' And.left (And.right (And.right (And.right (And.right (And.right (And.right (And.right (And.right (And.right ?h))))))))); (case h => with_reducible assumption))
      | (refine' And.left (And.right (And.right (And.right (And.right (And.right (And.right (And.right (And.right (And.right (And.right ?h)))))))))); (case h => with_reducible assumption))
  k_with "my lt2" => first
      | walk_at "lt"
      | (with_reducible exact ad1)
      | (with_reducible exact ad2)
      | (with_reducible exact ad3)
      | (with_reducible exact ad4)
      | (with_reducible refine ar1 ?_; walk_at "lt")
      | (with_reducible refine ar2 ?_; walk_at "lt")
      | (with_reducible refine ar3 ?_; walk_at "lt")
      | (with_reducible refine ar4 ?_; walk_at "lt")
      | (with_reducible refine as1 ?_; walk_at "lt")
      | (with_reducible refine as2 ?_; walk_at "lt")
      | (with_reducible refine as3 ?_; walk_at "lt")
      | (with_reducible refine as4 ?_; walk_at "lt")
  k_with "my ar" => ((try dsimp only); first
      | with_reducible exact Nat.le_refl _
      | walk_at "lt2"
      | (refine Nat.le_of_lt ?_; walk_at "lt2")
      | (refine Nat.ne_of_lt ?_; walk_at "lt2")
      | (refine Nat.ne_of_gt ?_; walk_at "lt2")
      | k_extra "my ar2"
      | omega)
  k_with "my k_ne" => (refine neN ?_; (try dsimp only); first
      | with_reducible assumption
      | (refine Ne.symm ?_; with_reducible assumption)
      | (refine Nat.ne_of_lt ?_; walk_at "lt")
      | (refine Nat.ne_of_gt ?_; walk_at "lt")
      | omega)
  trivial
open Mine
noncomputable def Pl (l : List Nat) : Prop := ∀ x ∈ l, x ≠ 34 ∧ x ≠ 44 ∧ x ≠ 92
theorem Pl.app {a b : List Nat} (ha : Pl a) (hb : Pl b) : Pl (a ++ b) := fun x hx => (List.mem_append.mp hx).elim (ha x) (hb x)
theorem Pl.cons {a : Nat} {b : List Nat} (ha : a ≠ 34 ∧ a ≠ 44 ∧ a ≠ 92) (hb : Pl b) : Pl (a :: b) := fun x hx => by
  rcases List.mem_cons.mp hx with rfl | hx
  · exact ha
  · exact hb x hx
theorem Pl.nil : Pl [] := fun _ h => nomatch h
theorem Digs.pl {x : List Nat} {i : Int} (h : Digs (S x) i) : Pl x := fun c hc => by
  have := h.all c (by rw [S_list]; exact hc)
  omega
theorem Digs.no {x : List Nat} {i : Int} (h : Digs (S x) i) {c : Nat} (hc : c < 48) : c ∉ x := fun hm => by
  have := h.all c (by rw [S_list]; exact hm)
  omega
theorem empty_S : PySem.Str.empty = S [] := rfl
theorem run_bare {l : List Nat} (h : Pl l) : httpRun l = ⟨[], S l, false, false⟩ := by
  unfold httpRun
  rw [empty_S, fold_plain l h]; rfl
/-- the turn through a quoted text -/
noncomputable def Quo (v w : List Nat) : Prop := ∀ p : List Nat, v.foldl httpStep ⟨[], S p, false, true⟩ = ⟨[], S (p ++ w), false, true⟩
theorem Quo.pl {v : List Nat} (h : Pl v) : Quo v v := fun p => fold_plain v h [] p
theorem Quo.app {a b a' b' : List Nat} (h : Quo a a') (k : Quo b b') : Quo (a ++ b) (a' ++ b') := fun p => by
  rw [List.foldl_append, h, k, List.append_assoc]
theorem Quo.esc {c : Nat} : Quo [92, c] [c] := fun p => by
  rw [List.foldl_cons, step_esc, List.foldl_cons, step_escd]; rfl
theorem Quo.com : Quo [44] [44] := fun p => by
  rw [List.foldl_cons, step_com]; rfl
theorem run_quoted {k : Nat} {v w : List Nat} (hk : k ≠ 34 ∧ k ≠ 44 ∧ k ≠ 92) (h : Quo v w) : httpRun (k :: 61 :: 34 :: (v ++ [34])) = ⟨[], S (k :: 61 :: 34 :: (w ++ [34])), false, false⟩ := by
  unfold httpRun
  rw [show k :: 61 :: 34 :: (v ++ [34]) = [k, 61] ++ (34 :: (v ++ [34])) from rfl, List.foldl_append, empty_S, fold_plain [k, 61] (Pl.cons hk (Pl.cons (by decide) Pl.nil)), List.foldl_cons, step_quo, List.foldl_append, h, List.foldl_cons, step_unq]
  simp
theorem dQ : PySem.Str.ofString "\"" = S [34] := by kernel_rfl
theorem dE : PySem.Str.ofString "=" = S [61] := by kernel_rfl
theorem dD' : PySem.Str.ofString "." = S [46] := by kernel_rfl
theorem S_inj {a b : List Nat} (h : S a = S b) : a = b := by rw [← S_list a, h, S_list]
theorem item_head {a : Nat} {l : List Nat} : Txt.item (S (a :: l)) 0 = S [a] := by
  unfold Txt.item Txt.charAt seqIndex?
  rw [S_len]
  simp [S]
theorem item_last {a : Nat} {l : List Nat} : Txt.item (S (l ++ [a])) (-1) = S [a] := by
  unfold Txt.item Txt.charAt seqIndex?
  rw [S_len]
  have e : (-1 : Int) + ((l ++ [a]).length : Nat) = (l.length : Nat) := by rw [List.length_append]; simp; omega
  simp only [show (-1 : Int) < 0 by decide, if_true, e]
  have e2 : (0 : Int) ≤ (l.length : Nat) ∧ ((l.length : Nat) : Int) < ((l ++ [a]).length : Nat) := by rw [List.length_append]; simp; omega
  rw [if_pos (by simpa using e2)]
  simp [S]
theorem slice_mid {a b : Nat} {l : List Nat} : Txt.slice (S (a :: (l ++ [b]))) (some 1) (some (-1)) = S l := by
  have hl : (S (a :: (l ++ [b]))).length = l.length + 2 := by rw [S_len]; simp
  have e : Txt.slice (S (a :: (l ++ [b]))) (some 1) (some (-1)) = StrLaws.sliceText (S (a :: (l ++ [b]))) (some ((1 : Nat) : Int)) (some ((l.length + 1 : Nat) : Int)) := by
    unfold Txt.slice StrLaws.sliceText
    have e2 : strSliceIndices (some 1) (some (-1)) 1 (S (a :: (l ++ [b]))).length = strSliceIndices (some ((1 : Nat) : Int)) (some ((l.length + 1 : Nat) : Int)) 1 (S (a :: (l ++ [b]))).length := by
      rw [hl]
      unfold strSliceIndices
      simp only [show ¬ ((1 : Int) < 0) by decide, show ((-1 : Int) < 0) by decide, show ¬ (((1 : Nat) : Int) < 0) by omega, show ¬ (((l.length + 1 : Nat) : Int) < 0) by omega, if_true, if_false]
      have e3 : (-1 : Int) + ((l.length + 2 : Nat) : Int) = ((l.length + 1 : Nat) : Int) := by omega
      rw [e3]; rfl
    rw [e2]
  rw [e, StrLaws.sliceText_nat _ (by omega) (by rw [hl]; omega), S_list]
  simp [S]
theorem unq_quoted {v : List Nat} : unq (S (34 :: (v ++ [34]))) = S v := by
  unfold unq
  rw [item_head, show 34 :: (v ++ [34]) = (34 :: v) ++ [34] from rfl, item_last, dQ, if_pos (by simp), if_pos (by simp)]
  exact slice_mid
theorem unq_bare {a : Nat} {v : List Nat} (h : a ≠ 34) : unq (S (a :: v)) = S (a :: v) := by
  unfold unq
  rw [item_head, dQ, if_neg (by
    intro e
    have := S_inj (beq_iff_eq.mp e)
    simp at this; exact h this)]
theorem kv_some {k : Nat} {q : List Nat} (hk : k ≠ 61) (hq : q ≠ []) : kvP (S (k :: 61 :: q)) = .pair (S [k]) (unq (S q)) := by
  unfold kvP
  rw [dE, show S [61] = (⟨#[61]⟩ : Str) from rfl, show k :: 61 :: q = [k] ++ 61 :: q from rfl, splitMax_one (by decide) (by simpa using Ne.symm hk)]
  simp only [S_len]
  rw [if_neg (by simpa using hq)]
theorem kv_none {k : Nat} (hk : k ≠ 61) : kvP (S [k, 61]) = .noVal := by
  unfold kvP
  rw [dE, show S [61] = (⟨#[61]⟩ : Str) from rfl, show [k, 61] = [k] ++ 61 :: [] from rfl, splitMax_one (by decide) (by simpa using Ne.symm hk)]
  simp only [S_len]
  rfl
theorem occ_zero {p : List Nat} {c lim : Nat} (hp : c ∉ p) : occurrences (S p) ⟨#[c]⟩ 0 (S p).length lim = [] := by
  rw [StrLaws.occ_eq, forIn_miss]
  · rintro i _ ⟨_, h⟩
    have := (StrLaws.subAt_one (S p) c i).mp h
    rw [S_list] at this
    exact hp (List.mem_of_getElem? this)
theorem split_none_at {p : List Nat} {c : Nat} (hp : c ∉ p) : Txt.split (S p) ⟨#[c]⟩ = [S p] := by
  unfold Txt.split
  split
  · rfl
  · rw [occ_zero hp]; rfl
theorem kv_noEq {k : Nat} (hk : k ≠ 61) : kvP (S [k]) = .noEq := by
  unfold kvP
  have e : Txt.splitMax (S [k]) (PySem.Str.ofString "=") 1 = [S [k]] := by
    unfold Txt.splitMax
    split
    · rfl
    · rw [dE, show S [61] = (⟨#[61]⟩ : Str) from rfl, occ_zero (by simpa using Ne.symm hk)]; rfl
  rw [e]
theorem sp_dig {c : Nat} (h : 48 ≤ c ∧ c ≤ 57) : Unicode.isSpace c = false := KXs.no_space c (by omega) (by omega)
theorem sp_k {k : Nat} (h : 97 ≤ k ∧ k ≤ 99) : Unicode.isSpace k = false := KXs.no_space k (by omega) (by omega)
theorem facts_quoted {k : Nat} {v w : List Nat} {wd : Word} (hk : 97 ≤ k ∧ k ≤ 99) (h : Quo v w) (hl : w.length ≤ 900)
    (hw : kvP (S (k :: 61 :: 34 :: (w ++ [34]))) = .pair (S [k]) (S w) → WordRel (S [k]) (S (k :: 61 :: 34 :: (w ++ [34]))) wd) :
    ItemFacts (S (k :: 61 :: 34 :: (v ++ [34]))) (S (k :: 61 :: 34 :: (w ++ [34]))) wd := by
  have hs := strip_ends (l := k :: 61 :: 34 :: (w ++ [34])) (b := 34) (sp_k hk) (KXs.no_space 34 (by decide) (by decide)) rfl ⟨k :: 61 :: 34 :: w, rfl⟩
  refine ⟨by rw [S_list]; exact run_quoted (by omega) h, by rw [S_len]; simp, by rw [S_len]; simp; omega, hs.2, hs.1, ?_⟩
  rw [item_head]
  exact hw (by rw [kv_some (by omega) (by simp), unq_quoted])
theorem facts_bare {k b : Nat} {v r : List Nat} {wd : Word} (hk : 97 ≤ k ∧ k ≤ 99) (h : Pl v) (hl : v.length ≤ 900) (hv : v = r ++ [b]) (hb : 48 ≤ b ∧ b ≤ 57)
    (ha : ∃ a m, v = a :: m ∧ a ≠ 34)
    (hw : kvP (S (k :: 61 :: v)) = .pair (S [k]) (S v) → WordRel (S [k]) (S (k :: 61 :: v)) wd) :
    ItemFacts (S (k :: 61 :: v)) (S (k :: 61 :: v)) wd := by
  have hs := strip_ends (l := k :: 61 :: v) (b := b) (sp_k hk) (sp_dig hb) rfl ⟨k :: 61 :: r, by rw [hv]; rfl⟩
  refine ⟨by rw [S_list]; exact run_bare (Pl.cons (by omega) (Pl.cons (by decide) h)), by rw [S_len]; simp, by rw [S_len]; simp; omega, hs.2, hs.1, ?_⟩
  rw [item_head]
  obtain ⟨a, m, e, ha⟩ := ha
  exact hw (by rw [kv_some (by omega) (by rw [e]; simp), e, unq_bare ha])
theorem glc_two {p q : List Nat} {l c : Int} (hp : 46 ∉ p) (hq : 46 ∉ q) (h1 : PySem.intText? (S p) = some l) (h2 : PySem.intText? (S q) = some c) (l1 : p.length ≤ 600) (l2 : q.length ≤ 600) (hl : 1 ≤ l ∧ l ≤ 4) : GlcOk (S (p ++ 46 :: q)) (.inr (l, c)) := by
  refine .inl ⟨S p, S q, l, c, ?_, h1, h2, by rw [S_len]; omega, by rw [S_len]; omega, hl.1, hl.2, rfl⟩
  rw [dD']; exact split_one_at (by decide) hp hq
theorem glc_one {p : List Nat} {l : Int} (hp : 46 ∉ p) (h1 : PySem.intText? (S p) = some l) (l1 : p.length ≤ 600) : GlcOk (S p) (.inl (.str (PySem.Str.ofString "no place"))) := by
  refine .inr ⟨S p, l, ?_, h1, by rw [S_len]; omega, rfl⟩
  rw [dD']; exact split_none_at hp
theorem Digs.ends {x : List Nat} {i : Int} (h : Digs (S x) i) : (∃ a m, x = a :: m ∧ 48 ≤ a ∧ a ≤ 57) ∧ (∃ r b, x = r ++ [b] ∧ 48 ≤ b ∧ b ≤ 57) ∧ x.length ≤ 2 := by
  have hp := h.pos
  have hl := h.len
  have ha := h.all
  rw [S_len] at hp hl
  rw [S_list] at ha
  match x, hp, hl with
  | [a], _, _ => exact ⟨⟨a, [], rfl, ha a (by simp)⟩, ⟨[], a, rfl, ha a (by simp)⟩, by simp⟩
  | [a, b], _, _ => exact ⟨⟨a, [b], rfl, ha a (by simp)⟩, ⟨[a], b, rfl, ha b (by simp)⟩, by simp⟩
theorem d0 : PySem.Str.ofString "0" = S [48] := by kernel_rfl
theorem dP : PySem.Str.ofString "+" = S [43] := by kernel_rfl
theorem dB : PySem.Str.ofString " " = S [32] := by kernel_rfl
section
variable {k : Nat} {x y : List Nat} {l c : Int} (hk : 97 ≤ k ∧ k ≤ 99) (hx : Digs (S x) l) (hy : Digs (S y) c) (hl : 1 ≤ l ∧ l ≤ 4)
include hk hx hy hl
theorem st0 : ItemFacts (S (k :: 61 :: 34 :: ((x ++ 46 :: y) ++ [34]))) (S (k :: 61 :: 34 :: ((x ++ 46 :: y) ++ [34]))) (.place l c) := by
  have ex := hx.ends.2.2
  have ey := hy.ends.2.2
  have hlen : (x ++ 46 :: y).length ≤ 900 := by simp; omega
  refine facts_quoted hk (Quo.pl (hx.pl.app (Pl.cons (by decide) hy.pl))) hlen fun e => ⟨_, e, by rw [S_len]; omega, .inr ?_⟩
  exact glc_two (hx.no (by decide)) (hy.no (by decide)) hx.i0 hy.i0 (by omega) (by omega) hl
theorem st1 : ItemFacts (S (k :: 61 :: (x ++ 46 :: y))) (S (k :: 61 :: (x ++ 46 :: y))) (.place l c) := by
  have ex := hx.ends.2.2
  have ey := hy.ends.2.2
  have hlen : (x ++ 46 :: y).length ≤ 900 := by simp; omega
  obtain ⟨a, m, e1, ha⟩ := hx.ends.1
  obtain ⟨r, b, e2, hb⟩ := hy.ends.2.1
  refine facts_bare (r := x ++ 46 :: r) hk (hx.pl.app (Pl.cons (by decide) hy.pl)) hlen (by rw [e2]; simp) hb ⟨a, m ++ 46 :: y, by rw [e1]; rfl, by omega⟩ fun e => ⟨_, e, by rw [S_len]; omega, .inr ?_⟩
  exact glc_two (hx.no (by decide)) (hy.no (by decide)) hx.i0 hy.i0 (by omega) (by omega) hl
theorem st2 : ItemFacts (S (k :: 61 :: 34 :: ((x ++ ([92, 46] ++ y)) ++ [34]))) (S (k :: 61 :: 34 :: ((x ++ 46 :: y) ++ [34]))) (.place l c) := by
  have ex := hx.ends.2.2
  have ey := hy.ends.2.2
  have hlen : (x ++ 46 :: y).length ≤ 900 := by simp; omega
  refine facts_quoted hk ((Quo.pl hx.pl).app (Quo.esc.app (Quo.pl hy.pl))) hlen fun e => ⟨_, e, by rw [S_len]; omega, .inr ?_⟩
  exact glc_two (hx.no (by decide)) (hy.no (by decide)) hx.i0 hy.i0 (by omega) (by omega) hl
theorem st3 : ItemFacts (S (k :: 61 :: 34 :: (((32 :: x) ++ 46 :: (48 :: y)) ++ [34]))) (S (k :: 61 :: 34 :: (((32 :: x) ++ 46 :: (48 :: y)) ++ [34]))) (.place l c) := by
  have ex := hx.ends.2.2
  have ey := hy.ends.2.2
  have hlen : ((32 :: x) ++ 46 :: (48 :: y)).length ≤ 900 := by simp; omega
  refine facts_quoted hk (Quo.pl (Pl.app (Pl.cons (by decide) hx.pl) (Pl.cons (by decide) (Pl.cons (by decide) hy.pl)))) hlen fun e => ⟨_, e, by rw [S_len]; omega, .inr ?_⟩
  have i3 := hx.i3
  have i1 := hy.i1
  rw [dB, ← S_app] at i3
  rw [d0, ← S_app] at i1
  exact glc_two (by simpa using hx.no (by decide)) (by simpa using hy.no (by decide)) i3 i1 (by simp; omega) (by simp; omega) hl
theorem st4 : ItemFacts (S (k :: 61 :: ((43 :: x) ++ 46 :: (43 :: y)))) (S (k :: 61 :: ((43 :: x) ++ 46 :: (43 :: y)))) (.place l c) := by
  have ex := hx.ends.2.2
  have ey := hy.ends.2.2
  have hlen : ((43 :: x) ++ 46 :: (43 :: y)).length ≤ 900 := by simp; omega
  obtain ⟨r, b, e2, hb⟩ := hy.ends.2.1
  refine facts_bare (r := (43 :: x) ++ 46 :: (43 :: r)) hk (Pl.app (Pl.cons (by decide) hx.pl) (Pl.cons (by decide) (Pl.cons (by decide) hy.pl))) hlen (by rw [e2]; simp) hb ⟨43, x ++ 46 :: 43 :: y, rfl, by decide⟩ fun e => ⟨_, e, by rw [S_len]; omega, .inr ?_⟩
  have i2 := hx.i2
  have j2 := hy.i2
  rw [dP, ← S_app] at i2 j2
  exact glc_two (by simpa using hx.no (by decide)) (by simpa using hy.no (by decide)) i2 j2 (by simp; omega) (by simp; omega) hl
theorem st5 : ItemFacts (S (99 :: 61 :: 34 :: ((x ++ ([44] ++ y)) ++ [34]))) (S (99 :: 61 :: 34 :: ((x ++ ([44] ++ y)) ++ [34]))) (.place l c) := by
  have ex := hx.ends.2.2
  have ey := hy.ends.2.2
  have hlen : (x ++ ([44] ++ y)).length ≤ 900 := by simp; omega
  exact facts_quoted (by decide) ((Quo.pl hx.pl).app (Quo.com.app (Quo.pl hy.pl))) hlen fun e => ⟨_, e, by rw [S_len]; omega, .inl (by kernel_rfl)⟩
theorem st6 : ItemFacts (S (k :: 61 :: 34 :: (x ++ [34]))) (S (k :: 61 :: 34 :: (x ++ [34]))) .noPlace := by
  have ex := hx.ends.2.2
  refine facts_quoted hk (Quo.pl hx.pl) (by omega) fun e => ⟨_, e, by rw [S_len]; omega, ?_⟩
  exact glc_one (hx.no (by decide)) hx.i0 (by omega)
theorem st7 : ItemFacts (S [k, 61]) (S [k, 61]) .noValue := by
  have hs := strip_ends (l := [k, 61]) (b := 61) (sp_k hk) (KXs.no_space 61 (by decide) (by decide)) rfl ⟨[k], rfl⟩
  exact ⟨by rw [S_list]; exact run_bare (Pl.cons (by omega) (Pl.cons (by decide) Pl.nil)), by rw [S_len]; simp, by rw [S_len]; simp, hs.2, hs.1, kv_none (by omega)⟩
theorem st8 : ItemFacts (S [k]) (S [k]) .noEq := by
  have hs := strip_ends (l := [k]) (b := k) (sp_k hk) (sp_k hk) rfl ⟨[], rfl⟩
  exact ⟨by rw [S_list]; exact run_bare (Pl.cons (by omega) Pl.nil), by rw [S_len]; simp, by rw [S_len]; simp, hs.2, hs.1, kv_noEq (by omega)⟩
end
theorem ab_S (n : Int) : ∃ k, (97 ≤ k ∧ k ≤ 99) ∧ iAB n = S [k] := by
  have h1 := Int.fmod_nonneg_of_pos n (b := 2) (by decide)
  have h2 := Int.fmod_lt_of_pos n (b := 2) (by decide)
  have h : Int.fmod n 2 = 0 ∨ Int.fmod n 2 = 1 := by omega
  unfold iAB
  rcases h with h | h
  · rw [h]; exact ⟨97, by decide, by kernel_rfl⟩
  · rw [h]; exact ⟨98, by decide, by kernel_rfl⟩
theorem q0 : PySem.Str.ofString "=\"" = S [61, 34] := by kernel_rfl
theorem q2 : PySem.Str.ofString "\\." = S [92, 46] := by kernel_rfl
theorem q3 : PySem.Str.ofString "=\" " = S [61, 34, 32] := by kernel_rfl
theorem q4 : PySem.Str.ofString ".0" = S [46, 48] := by kernel_rfl
theorem q5 : PySem.Str.ofString "=+" = S [61, 43] := by kernel_rfl
theorem q6 : PySem.Str.ofString ".+" = S [46, 43] := by kernel_rfl
theorem q7 : PySem.Str.ofString "," = S [44] := by kernel_rfl
theorem q8 : PySem.Str.ofString "c" = S [99] := by kernel_rfl
theorem item_facts (n : Int) : ∃ h, ItemFacts (itemText n) h (itemWord n) := by
  obtain ⟨k, hk, ek⟩ := ab_S n
  have hl1 := Int.fmod_nonneg_of_pos (Int.fdiv n 16) (b := 4) (by decide)
  have hl2 := Int.fmod_lt_of_pos (Int.fdiv n 16) (b := 4) (by decide)
  have hc1 := Int.fmod_nonneg_of_pos (Int.fdiv n 64) (b := 28) (by decide)
  have hc2 := Int.fmod_lt_of_pos (Int.fdiv n 64) (b := 28) (by decide)
  have hs1 := Int.fmod_nonneg_of_pos (Int.fdiv n 2) (b := 8) (by decide)
  have hs2 := Int.fmod_lt_of_pos (Int.fdiv n 2) (b := 8) (by decide)
  have hx : Digs (tI (iLine n)) (iLine n) := digs_of (by unfold iLine; omega) (by unfold iLine; omega)
  have hy : Digs (tI (iCol n)) (iCol n) := digs_of hc1 hc2
  have hl : 1 ≤ iLine n ∧ iLine n ≤ 4 := by unfold iLine; omega
  unfold itemText itemWord
  generalize iLine n = l at *
  generalize iCol n = c at *
  rw [ek]
  rw [S_of (tI l)] at hx ⊢
  rw [S_of (tI c)] at hy ⊢
  generalize (tI l).cps.toList = x at *
  generalize (tI c).cps.toList = y at *
  simp only [q0, q2, q3, q4, q5, q6, q7, q8, dE, dD', dQ, ← S_app]
  by_cases a0 : iStyle n = 0
  · rw [if_pos a0, if_pos (by omega)]; exact ⟨_, by simpa using st0 hk hx hy hl⟩
  rw [if_neg a0]
  by_cases a1 : iStyle n = 1
  · rw [if_pos a1, if_pos (by omega)]; exact ⟨_, by simpa using st1 hk hx hy hl⟩
  rw [if_neg a1]
  by_cases a2 : iStyle n = 2
  · rw [if_pos a2, if_pos (by omega)]; exact ⟨_, by simpa using st2 hk hx hy hl⟩
  rw [if_neg a2]
  by_cases a3 : iStyle n = 3
  · rw [if_pos a3, if_pos (by omega)]; exact ⟨_, by simpa using st3 hk hx hy hl⟩
  rw [if_neg a3]
  by_cases a4 : iStyle n = 4
  · rw [if_pos a4, if_pos (by omega)]; exact ⟨_, by simpa using st4 hk hx hy hl⟩
  rw [if_neg a4]
  by_cases a5 : iStyle n = 5
  · rw [if_pos a5, if_pos (by omega)]; exact ⟨_, by simpa using st5 hk hx hy hl⟩
  rw [if_neg a5]
  by_cases a6 : iStyle n = 6
  · rw [if_pos a6, if_neg (by omega), if_pos a6]; exact ⟨_, by simpa using st6 hk hx hy hl⟩
  have a8 : ¬ iStyle n < 6 := by
    have h0 : 0 ≤ iStyle n := hs1
    omega
  rw [if_neg a6, if_neg a8, if_neg a6]
  by_cases a7 : Int.fmod c 2 = 1
  · rw [if_pos a7, if_pos a7]; exact ⟨_, by simpa using st7 hk hx hy hl⟩
  · rw [if_neg a7, if_neg a7]; exact ⟨_, st8 hk hx hy hl⟩
end MineP
end

section
open PySem PySem.W PyProof.Rows
open PySem.Builtin PySem.Builtin.Str
set_option maxRecDepth 100000
set_option maxHeartbeats 2400000
namespace MineP
theorem reg_PlainK_1 : True := by
  w_top off
  k_with_none
  k_with "my big" => lia
  k_with "my omega" => first
      | with_reducible assumption
      | decide
      | ((fail_if_success (fail_if_success omega (config := {})))
         first
           | k_extra "my om"
           | k_extra "my big"
           | omega (config := {}))
  k_with "my om" => first
      | (with_reducible refine' rm0 ?h; (case h => with_reducible assumption))
      | (with_reducible refine' rm1 ?h ?e; (case h => with_reducible assumption); (case e => decide))
      | (with_reducible refine' rm2 ?h ?e; (case h => with_reducible assumption); (case e => decide))
      | (with_reducible refine' rm3 ?h ?e; (case h => with_reducible assumption); (case e => decide))
      | (with_reducible refine' bd1 ?h ?e; (case h => with_reducible assumption); (case e => decide))
      | (with_reducible refine' bd3 ?h ?e; (case h => with_reducible assumption); (case e => decide))
      | (with_reducible refine' bd4 ?h ?e; (case h => with_reducible assumption); (case e => decide))
      | (with_reducible refine' bz1 ?h ?e; (case h => walk_at "lt"); (case e => decide))
      | (with_reducible refine' bz3 ?h ?e; (case h => walk_at "lt"); (case e => decide))
      | (with_reducible refine' bd2 ?q ?h ?e; (case q => with_reducible assumption); (case h => with_reducible assumption); (case e => decide))
      | walk_at "lt2"
      | (with_reducible refine Nat.le_of_lt ?_; walk_at "lt2")
      | (with_reducible refine Nat.ne_of_lt ?_; walk_at "lt2")
      | (with_reducible refine Nat.ne_of_gt ?_; walk_at "lt2")
      | ((with_reducible refine And.intro ?_ ?_) <;> k_extra "my omega")
      | (with_reducible refine' Nat.lt_trans ?a ?b; (case b => with_reducible assumption); (case a => walk_at "lt2"))
      | (with_reducible refine' Nat.lt_trans ?a ?b; (case a => with_reducible assumption); (case b => walk_at "lt2"))
      | (with_reducible refine' Nat.lt_of_le_of_lt ?a ?b; (case b => with_reducible assumption); (case a => walk_at "lt2"))
      | (with_reducible refine' Nat.lt_of_le_of_lt ?a ?b; (case a => with_reducible assumption); (case b => walk_at "lt2"))
      | (with_reducible refine' Nat.lt_of_lt_of_le ?a ?b; (case b => with_reducible assumption); (case a => walk_at "lt2"))
      | (with_reducible refine' Nat.lt_of_lt_of_le ?a ?b; (case a => with_reducible assumption); (case b => walk_at "lt2"))
      | (with_reducible refine' Nat.le_trans ?a ?b; (case b => with_reducible assumption); (case a => walk_at "lt2"))
      | (with_reducible refine' Nat.le_trans ?a ?b; (case a => with_reducible assumption); (case b => walk_at "lt2"))
  k_with "my lt" => first
      | with_reducible assumption
      | (refine' And.left ?h; (case h => with_reducible assumption))
      | (refine' And.left (And.right ?h); (case h => with_reducible assumption))
      | (refine' And.left (And.right (And.right ?h)); (case h => with_reducible assumption))
      | (refine' And.left (And.right (And.right (And.right ?h))); (case h => with_reducible assumption))
      | (refine' And.left (And.right (And.right (And.right (And.right ?h)))); (case h => with_reducible assumption))
      | (refine' And.left (And.right (And.right (And.right (And.right (And.right ?h))))); (case h => with_reducible assumption))
      | (refine' And.left (And.right (And.right (And.right (And.right (And.right (And.right ?h)))))); (case h => with_reducible assumption))
      | (refine' And.left (And.right (And.right (And.right (And.right (And.right (And.right (And.right ?h))))))); (case h => with_reducible assumption))
      | (refine' And.left (And.right (And.right (And.right (And.right (And.right (And.right (And.right (And.right ?h)))))))); (case h => with_reducible assumption))
      | (refine' And.left (And.right (And.right (And.right (And.right (And.right (And.right (And.right (And.right (And.right ?h))))))))); (case h => with_reducible assumption))
      | (refine' And.left (And.right (And.right (And.right (And.right (And.right (And.right (And.right (And.right (And.right (And.right ?h)))))))))); (case h => with_reducible assumption))
  k_with "my lt2" => first
      | walk_at "lt"
      | (with_reducible exact ad1)
      | (with_reducible exact ad2)
      | (with_reducible exact ad3)
      | (with_reducible exact ad4)
      | (with_reducible refine ar1 ?_; walk_at "lt")
      | (with_reducible refine ar2 ?_; walk_at "lt")
      | (with_reducible refine ar3 ?_; walk_at "lt")
      | (with_reducible refine ar4 ?_; walk_at "lt")
      | (with_reducible refine as1 ?_; walk_at "lt")
      | (with_reducible refine as2 ?_; walk_at "lt")
      | (with_reducible refine as3 ?_; walk_at "lt")
      | (with_reducible refine as4 ?_; walk_at "lt")
  k_with "my ar" => ((try dsimp only); first
      | with_reducible exact Nat.le_refl _
      | walk_at "lt2"
      | (refine Nat.le_of_lt ?_; walk_at "lt2")
      | (refine Nat.ne_of_lt ?_; walk_at "lt2")
      | (refine Nat.ne_of_gt ?_; walk_at "lt2")
      | k_extra "my ar2"
      | omega)
  k_with "my k_ne" => (refine neN ?_; (try dsimp only); first
      | with_reducible assumption
      | (refine Ne.symm ?_; with_reducible assumption)
      | (refine Nat.ne_of_lt ?_; walk_at "lt")
      | (refine Nat.ne_of_gt ?_; walk_at "lt")
      | omega)
  trivial
open Mine
noncomputable def hT (n : Int) : Str := Classical.choose (item_facts n)
theorem hT_facts (n : Int) : ItemFacts (itemText n) (hT n) (itemWord n) := Classical.choose_spec (item_facts n)
noncomputable def rowT (ms : List Int) : Row := ms.foldl addItem (PySem.Str.ofString "", [])
theorem rowT_snoc (ms : List Int) (m : Int) : rowT (ms ++ [m]) = addItem (rowT ms) m := by simp [rowT, List.foldl_append]
theorem rowOf_eq (ns : List Int) (k : Int) : rowOf ns k = rowT ((ns.filter fun n => decide (Int.fmod n 3 = k)).map fun n => Int.fdiv n 3) := by
  unfold rowOf rowT; rw [List.foldl_map]
theorem res_mono : ∀ (t : List Nat) (h : HS), h.res.length ≤ (t.foldl httpStep h).res.length
  | [], h => Nat.le_refl _
  | c :: t, h => by
    refine Nat.le_trans ?_ (res_mono t (httpStep h c))
    unfold httpStep
    repeat' split
    all_goals simp
theorem step_lift {h : HS} {c : Nat} {res : List Str} {p0 : Str} (h0 : h.res = []) (hs : (httpStep h c).res = []) : httpStep ⟨res, p0 ++ h.part, h.esc, h.quo⟩ c = ⟨res, p0 ++ (httpStep h c).part, (httpStep h c).esc, (httpStep h c).quo⟩ := by
  obtain ⟨r, p, e, q⟩ := h
  cases e <;> cases q <;> by_cases h1 : c = 92 <;> by_cases h2 : c = 34 <;> by_cases h3 : c = 44 <;> simp_all [httpStep, Str.append_assoc]
theorem run_lift : ∀ (t : List Nat) (h : HS) (res : List Str) (p0 : Str), h.res = [] → (t.foldl httpStep h).res = [] → t.foldl httpStep ⟨res, p0 ++ h.part, h.esc, h.quo⟩ = ⟨res, p0 ++ (t.foldl httpStep h).part, (t.foldl httpStep h).esc, (t.foldl httpStep h).quo⟩
  | [], h, res, p0, _, _ => rfl
  | c :: t, h, res, p0, h0, h1 => by
    have hs : (httpStep h c).res = [] := by
      have := res_mono t (httpStep h c)
      rw [List.foldl_cons] at h1
      rw [h1] at this
      exact List.length_eq_zero_iff.mp (Nat.le_zero.mp this)
    rw [List.foldl_cons, step_lift h0 hs, List.foldl_cons]
    exact run_lift t (httpStep h c) res p0 hs h1
theorem run_item {t h : Str} {res : List Str} {p0 : Str} (e : httpRun t.cps.toList = ⟨[], h, false, false⟩) : t.cps.toList.foldl httpStep ⟨res, p0, false, false⟩ = ⟨res, p0 ++ h, false, false⟩ := by
  have := run_lift t.cps.toList ⟨[], PySem.Str.empty, false, false⟩ res p0 rfl (by rw [show List.foldl httpStep _ _ = httpRun t.cps.toList from rfl, e])
  rw [show List.foldl httpStep ⟨[], PySem.Str.empty, false, false⟩ t.cps.toList = httpRun t.cps.toList from rfl, e] at this
  simpa only [Str.append_empty] using this
theorem dN : PySem.Str.ofString "" = PySem.Str.empty := by kernel_rfl
theorem dC : PySem.Str.ofString ", " = S [44, 32] := by kernel_rfl
theorem ahead_len (t : Str) : t.length ≤ (aheadOf t).length := by
  unfold aheadOf
  split
  · omega
  · rw [Str.length_append]; omega
theorem row_len (ms : List Int) : (rowT ms).2.length = ms.length := by
  induction ms using PyProof.Rows.snocInd with
  | nil => rfl
  | snoc l a ih => rw [rowT_snoc]; simp [addItem, ih]
theorem row_nil (ms : List Int) : (rowT ms).1.length = 0 → ms = [] := by
  induction ms using PyProof.Rows.snocInd with
  | nil => exact fun _ => rfl
  | snoc l a ih =>
    intro h
    rw [rowT_snoc] at h
    have h1 := (itemText_len a).1
    have h2 : (addItem (rowT l) a).1.length = (aheadOf (rowT l).1).length + (itemText a).length := by
      show (aheadOf _ ++ itemText _).length = _
      rw [Str.length_append]
    omega
theorem row_run (ms : List Int) : ms ≠ [] → ∃ res p, httpRun (rowT ms).1.cps.toList = ⟨res, p, false, false⟩ ∧ (res ++ [p]).map Txt.strip = ms.map hT ∧ p.length ≠ 0 := by
  induction ms using PyProof.Rows.snocInd with
  | nil => exact fun h => absurd rfl h
  | snoc l a ih =>
    intro _
    have fa := hT_facts a
    rw [rowT_snoc]
    show ∃ res p, httpRun (aheadOf (rowT l).1 ++ itemText a).cps.toList = _ ∧ _
    by_cases hl : l = []
    · subst hl
      have e : aheadOf (rowT []).1 ++ itemText a = itemText a := by
        show aheadOf (PySem.Str.ofString "") ++ itemText a = _
        unfold aheadOf
        rw [if_pos (by rw [dN]; rfl), dN, Str.empty_append]
      rw [e]
      exact ⟨[], hT a, fa.run, by simp [fa.strip0], fa.pos⟩
    · obtain ⟨res, p, h1, h2, h3⟩ := ih hl
      have hne : (rowT l).1.length ≠ 0 := fun h => hl (row_nil l h)
      unfold aheadOf
      rw [if_neg hne, PyProof.Rows.cps_toList_append, PyProof.Rows.cps_toList_append, dC, S_list]
      refine ⟨res ++ [p], sgn 32 ++ hT a, ?_, by rw [List.map_append, h2]; simp [fa.strip1], by rw [Str.length_append]; have := fa.pos; omega⟩
      unfold httpRun at h1 ⊢
      rw [List.foldl_append, List.foldl_append, h1]
      have e2 : [44, 32].foldl httpStep ⟨res, p, false, false⟩ = ⟨res ++ [p], sgn 32, false, false⟩ := by
        simp [httpStep, Str.empty_append]
      rw [e2, run_item fa.run]
theorem row_http {ms : List Int} (h : ms ≠ []) : httpList (rowT ms).1 = ms.map hT := by
  obtain ⟨res, p, h1, h2, h3⟩ := row_run ms h
  unfold httpList httpParts
  rw [h1]
  simp only [if_neg h3]
  exact h2
theorem row_words (ms : List Int) : (rowT ms).2.map Item.word = ms.map itemWord := by
  induction ms using PyProof.Rows.snocInd with
  | nil => rfl
  | snoc l a ih => rw [rowT_snoc]; simp [addItem, ih]
theorem row_item (ms : List Int) : ∀ (j : Nat) (m : Int), ms[j]? = some m → ∃ it, (rowT ms).2[j]? = some it ∧ it.key = Txt.item (itemText m) 0 ∧ it.behind = ((rowT (ms.take (j + 1))).1.length : Nat) ∧ ∃ y, (rowT ms).1 = (rowT (ms.take (j + 1))).1 ++ y := by
  induction ms using PyProof.Rows.snocInd with
  | nil => intro j m h; simp at h
  | snoc l a ih =>
    intro j m h
    have hl := row_len l
    by_cases hj : j < l.length
    · rw [List.getElem?_append_left hj] at h
      obtain ⟨it, h1, h2, h3, y, h4⟩ := ih j m h
      rw [List.take_append_of_le_length (by omega), rowT_snoc]
      refine ⟨it, ?_, h2, h3, ?_⟩
      · show ((rowT l).2 ++ [_])[j]? = _
        rw [List.getElem?_append_left (by omega)]; exact h1
      · show ∃ y, aheadOf (rowT l).1 ++ itemText a = _
        have hne : (rowT l).1.length ≠ 0 := fun h0 => by have := row_nil l h0; subst this; simp at hj
        unfold aheadOf
        rw [if_neg hne, h4]
        exact ⟨y ++ PySem.Str.ofString ", " ++ itemText a, by simp only [Str.append_assoc]⟩
    · have hj2 : j = l.length := by
        have := (List.getElem?_eq_some_iff.mp h).1
        simp at this; omega
      subst hj2
      rw [List.getElem?_append_right (Nat.le_refl _), Nat.sub_self] at h
      cases h
      rw [List.take_of_length_le (by simp), rowT_snoc]
      refine ⟨_, by show ((rowT l).2 ++ [_])[l.length]? = _; rw [List.getElem?_append_right (by omega), hl, Nat.sub_self]; rfl, rfl, ?_, PySem.Str.empty, by rw [Str.append_empty]⟩
      show ((aheadOf (rowT l).1).length : Int) + (itemText a).length = ((aheadOf (rowT l).1 ++ itemText a).length : Nat)
      rw [Str.length_append]; omega
theorem hits_snoc (key : Str) (l : List Item) (it : Item) : hitsOf key (l ++ [it]) = hitsOf key l ++ (if it.key = key then [(it.first, it.behind)] else []) := by
  unfold hitsOf
  by_cases h : it.key = key <;> simp [h]
theorem incr_snoc : ∀ (hits : List (Int × Int)) (lo f b : Int), Incr lo hits → (∀ h ∈ hits, h.2 ≤ f) → lo ≤ f → f < b → Incr lo (hits ++ [(f, b)])
  | [], lo, f, b, _, _, h1, h2 => ⟨h1, h2, trivial⟩
  | a :: t, lo, f, b, h, hb, h1, h2 => ⟨h.1, h.2.1, incr_snoc t a.2 f b h.2.2 (fun x hx => hb x (.tail _ hx)) (hb a (.head _)) h2⟩
theorem row_hits (key : Str) (ms : List Int) : Incr 0 (hitsOf key (rowT ms).2) ∧ ∀ h ∈ hitsOf key (rowT ms).2, h.2 ≤ ((rowT ms).1.length : Nat) := by
  induction ms using PyProof.Rows.snocInd with
  | nil => exact ⟨trivial, fun h hh => nomatch hh⟩
  | snoc l a ih =>
    rw [rowT_snoc]
    show Incr 0 (hitsOf key ((rowT l).2 ++ [_])) ∧ ∀ h ∈ hitsOf key ((rowT l).2 ++ [_]), h.2 ≤ ((aheadOf (rowT l).1 ++ itemText a).length : Nat)
    have h1 := ahead_len (rowT l).1
    have h2 := (itemText_len a).1
    rw [hits_snoc, Str.length_append]
    have hb : ∀ h ∈ hitsOf key (rowT l).2, h.2 ≤ ((aheadOf (rowT l).1).length : Nat) := fun h hh => by
      have := ih.2 h hh
      omega
    split
    · refine ⟨incr_snoc _ _ _ _ ih.1 hb (by dsimp only; omega) (by dsimp only; omega), fun h hh => ?_⟩
      rcases List.mem_append.mp hh with hh | hh
      · have := hb h hh; omega
      · rw [List.mem_singleton.mp hh]; simp
    · rw [List.append_nil]
      exact ⟨ih.1, fun h hh => by have := hb h hh; omega⟩
theorem tw_filter {col : Int} : ∀ (hits : List (Int × Int)) (lo : Int), Incr lo hits → (hits.takeWhile fun h => decide (h.1 < col) && decide (h.2 ≤ col)) = hits.filter fun h => decide (h.2 ≤ col)
  | [], _, _ => rfl
  | a :: t, lo, h => by
    have h2 := h.2.1
    by_cases ha : a.2 ≤ col
    · have ha1 : a.1 < col := by omega
      rw [List.takeWhile_cons, List.filter_cons, if_pos (by simp [ha, ha1]), if_pos (by simp [ha]), tw_filter t a.2 h.2.2]
    · rw [List.takeWhile_cons, List.filter_cons, if_neg (by simp [ha]), if_neg (by simp [ha])]
      refine (List.filter_eq_nil_iff.mpr fun x hx => ?_).symm
      have := Incr.mem h.2.2 x hx
      simp; omega
theorem found_snoc (key : Str) (col : Int) (l : List Item) (it : Item) : foundL (l ++ [it]) key col = foundL l key col ++ (if it.key = key ∧ it.behind ≤ col then [l.length] else []) := by
  have e : (List.range l.length).filter (okAt (l ++ [it]) key col) = (List.range l.length).filter (okAt l key col) := by
    refine List.filter_congr fun k hk => ?_
    unfold okAt
    rw [List.getElem?_append_left (List.mem_range.mp hk)]
  have e2 : okAt (l ++ [it]) key col l.length = (decide (it.key = key) && decide (it.behind ≤ col)) := by
    unfold okAt
    rw [List.getElem?_append_right (Nat.le_refl _), Nat.sub_self]; rfl
  unfold foundL
  rw [List.length_append, show [it].length = 1 from rfl, range_filter_succ, e, e2]
  by_cases h1 : it.key = key <;> by_cases h2 : it.behind ≤ col <;> simp [h1, h2]
noncomputable def LastOf (key : Str) (col : Int) (items : List Item) : Prop :=
  match (foundL items key col).getLast? with
  | none => (hitsOf key items).filter (fun h => decide (h.2 ≤ col)) = []
  | some j => ∃ it, items[j]? = some it ∧ it.key = key ∧ ((hitsOf key items).filter (fun h => decide (h.2 ≤ col))).getLast? = some (it.first, it.behind)
theorem last_found (key : Str) (col : Int) (items : List Item) : LastOf key col items := by
  induction items using PyProof.Rows.snocInd with
  | nil => rfl
  | snoc l it ih =>
    unfold LastOf
    rw [found_snoc, hits_snoc]
    by_cases h1 : it.key = key
    · by_cases h2 : it.behind ≤ col
      · rw [if_pos ⟨h1, h2⟩, if_pos h1, List.getLast?_append]
        exact ⟨it, by simp, h1, by rw [List.filter_append]; simp [h2]⟩
      · rw [if_neg (fun h => h2 h.2), if_pos h1, List.append_nil, List.filter_append, show List.filter (fun h : Int × Int => decide (h.2 ≤ col)) [(it.first, it.behind)] = [] by simp [h2], List.append_nil]
        unfold LastOf at ih
        revert ih
        split
        · exact id
        · rintro ⟨x, a, b, c⟩
          exact ⟨x, by rw [List.getElem?_append_left (List.getElem?_eq_some_iff.mp a).1]; exact a, b, c⟩
    · rw [if_neg (fun h => h1 h.1), if_neg h1, List.append_nil, List.append_nil]
      unfold LastOf at ih
      revert ih
      split
      · exact id
      · rintro ⟨x, a, b, c⟩
        exact ⟨x, by rw [List.getElem?_append_left (List.getElem?_eq_some_iff.mp a).1]; exact a, b, c⟩
theorem odd_first : ∀ mt : List Int, match (mt.map itemWord).filter isOdd with
    | [] => keqvOut (mt.map hT) = none
    | w :: _ => (w = .noEq ∧ keqvOut (mt.map hT) = some "ValueError") ∨ (w = .noValue ∧ keqvOut (mt.map hT) = some "IndexError")
  | [] => rfl
  | n :: mt => by
    have ih := odd_first mt
    have hw := (hT_facts n).word
    rw [List.map_cons, List.map_cons]
    cases e : itemWord n with
    | place l c =>
      rw [e] at hw
      obtain ⟨v, hv, _⟩ := hw
      simpa only [List.filter_cons, isOdd, Bool.false_eq_true, if_false, keqvOut, hv] using ih
    | noPlace =>
      rw [e] at hw
      obtain ⟨v, hv, _⟩ := hw
      simpa only [List.filter_cons, isOdd, Bool.false_eq_true, if_false, keqvOut, hv] using ih
    | noValue =>
      rw [e] at hw
      have hv : kvP (hT n) = .noVal := hw
      simp only [List.filter_cons, isOdd, if_true, keqvOut, hv]
      exact .inr ⟨trivial, trivial⟩
    | noEq =>
      rw [e] at hw
      have hv : kvP (hT n) = .noEq := hw
      simp only [List.filter_cons, isOdd, if_true, keqvOut, hv]
      exact .inl ⟨trivial, trivial⟩
theorem not_bad (n : Int) : kvP (hT n) ≠ .bad := by
  have hw := (hT_facts n).word
  intro hb
  cases e : itemWord n with
  | place l c => rw [e] at hw; obtain ⟨v, hv, _⟩ := hw; rw [hv] at hb; cases hb
  | noPlace => rw [e] at hw; obtain ⟨v, hv, _⟩ := hw; rw [hv] at hb; cases hb
  | noValue => rw [e] at hw; have hv : kvP (hT n) = .noVal := hw; rw [hv] at hb; cases hb
  | noEq => rw [e] at hw; have hv : kvP (hT n) = .noEq := hw; rw [hv] at hb; cases hb
theorem lookup_end (k v : PyData) (hk : PySem.Spec.same k k = true) : ∀ D : List (PyData × PyData), ¬ D.any (fun p => PySem.Spec.same p.1 k) = true → PySem.Spec.lookup k (D ++ [(k, v)]) = some v
  | [], _ => by unfold PySem.Spec.lookup; rw [List.nil_append]; simp [hk]
  | (a, b) :: D, h => by
    have hp : ¬ PySem.Spec.same a k = true := fun e => h (by simp [e])
    rw [List.cons_append]
    unfold PySem.Spec.lookup
    rw [if_neg hp]
    exact lookup_end k v hk D (fun e => h (by simp only [List.any_cons, Bool.or_eq_true]; exact .inr e))
theorem lookup_put (k v : PyData) (D : List (PyData × PyData)) : PySem.Spec.lookup k (PyProof.V.putD k v D) = some v := by
  unfold PyProof.V.putD
  split
  · rename_i h; exact PyProof.V.lookup_map_putK k v D h
  · rename_i h; exact lookup_end k v (PySem.Spec.same_self k) D h
theorem lookup_last {ps : List (Str × Str)} {mt : List Int} {m : Int} {key v : Str} (h : (mt ++ [m]).map (fun n => kvP (hT n)) = ps.map fun p => KvR.pair p.1 p.2) (hm : kvP (hT m) = .pair key v) : PySem.Spec.lookup (PyData.str key) (dD ps) = some (.str v) := by
  have hne : ps ≠ [] := by
    intro e; subst e; simp at h
  obtain ⟨ps', p, rfl⟩ : ∃ ps' p, ps = ps' ++ [p] := ⟨ps.dropLast, ps.getLast hne, (List.dropLast_concat_getLast hne).symm⟩
  rw [List.map_append, List.map_append] at h
  have h2 := (List.append_inj' h rfl).2
  simp only [List.map_cons, List.map_nil, hm, List.cons.injEq, KvR.pair.injEq, and_true] at h2
  obtain ⟨rfl, rfl⟩ := h2
  unfold dD
  rw [List.foldl_append]
  exact lookup_put _ _ _
theorem said_ok {mt : List Int} {m : Int} {key : Str} (hk : Txt.item (itemText m) 0 = key) (hc : key ≠ PySem.Str.ofString "c") (hl : (mt ++ [m]).length ≤ 1000) : SaidOk ((mt ++ [m]).map hT) key (wordEnd ((mt ++ [m]).map itemWord)) := by
  refine ⟨fun x hx => ?_, by rw [List.length_map]; exact hl, fun x hx => ?_, ?_⟩
  · obtain ⟨n, _, rfl⟩ := List.mem_map.mp hx
    exact not_bad n
  · obtain ⟨n, _, rfl⟩ := List.mem_map.mp hx
    exact (hT_facts n).len
  · have ho := odd_first (mt ++ [m])
    cases e : ((mt ++ [m]).map itemWord).filter isOdd with
    | cons w r =>
      rw [e] at ho
      rw [wordEnd_odd e]
      rcases ho with ⟨rfl, h⟩ | ⟨rfl, h⟩
      · exact .inl ⟨h, rfl⟩
      · exact .inr (.inl ⟨h, rfl⟩)
    | nil =>
      rw [e] at ho
      refine .inr (.inr ⟨ho, fun ps hps => ?_⟩)
      rw [List.map_map] at hps
      have hlast : ((mt ++ [m]).map itemWord).getLast? = some (itemWord m) := by simp
      have hodd : isOdd (itemWord m) = false := by
        rw [List.filter_eq_nil_iff] at e
        simpa using e (itemWord m) (by simp)
      have hw := (hT_facts m).word
      rw [hk] at hw
      cases ew : itemWord m with
      | place l c =>
        rw [ew] at hw hlast
        obtain ⟨v, hv, hvl, hg⟩ := hw
        rw [wordEnd_place e hlast]
        exact ⟨v, lookup_last hps hv, hvl, hg.resolve_left hc⟩
      | noPlace =>
        rw [ew] at hw hlast
        obtain ⟨v, hv, hvl, hg⟩ := hw
        rw [wordEnd_no e hlast]
        exact ⟨v, lookup_last hps hv, hvl, hg⟩
      | noValue => rw [ew] at hodd; cases hodd
      | noEq => rw [ew] at hodd; cases hodd
theorem abK_ne (st : Int) : abK st ≠ PySem.Str.ofString "c" := by
  have h1 := Int.fmod_nonneg_of_pos st (b := 2) (by decide)
  have h2 := Int.fmod_lt_of_pos st (b := 2) (by decide)
  have h : Int.fmod st 2 = 0 ∨ Int.fmod st 2 = 1 := by omega
  unfold abK
  rw [q8]
  intro e
  rcases h with h | h
  · rw [h, show Txt.item (PySem.Str.ofString "ab") 0 = S [97] by kernel_rfl] at e
    have := S_inj e; simp at this
  · rw [h, show Txt.item (PySem.Str.ofString "ab") 1 = S [98] by kernel_rfl] at e
    have := S_inj e; simp at this
theorem slice_front (x y : Str) : Txt.slice (x ++ y) none (some ((x.length : Nat) : Int)) = x := by
  have e := StrLaws.sliceText_to (x := x ++ y) (j := ((x.length : Nat) : Int)) ⟨by omega, by rw [PyProof.Rows.cps_toList_append]; simp [PySem.Str.length]; omega⟩
  rw [show Txt.slice (x ++ y) none (some ((x.length : Nat) : Int)) = StrLaws.sliceText (x ++ y) none (some ((x.length : Nat) : Int)) from rfl, e, PyProof.Rows.cps_toList_append]
  refine Str.ext' ?_
  simp [PySem.Str.length]
theorem step_ok {ms : List Int} {rows : List (List Item)} {line : Int} (h1 : (rowT ms).1.length ≤ 1000) (h2 : ms.length ≤ 1000) (hl : ¬ line = 4) (hr : rows.getD (line - 1).toNat [] = (rowT ms).2) (col st : Int) : StepOk (rowT ms) (abK st) col (duStep rows line col st) := by
  have hh := row_hits (abK st) ms
  have L := last_found (abK st) col (rowT ms).2
  have er : revP (hitsOf (abK st) (rowT ms).2) col = ((hitsOf (abK st) (rowT ms).2).filter fun h => decide (h.2 ≤ col)).getLast? := by
    unfold revP; rw [tw_filter _ 0 hh.1]
  unfold StepOk
  rw [er]
  unfold LastOf at L
  cases hf : (foundL (rowT ms).2 (abK st) col).getLast? with
  | none =>
    rw [hf] at L
    rw [duStep_item hl hr hf]
    simp only at L
    rw [L]; rfl
  | some j =>
    rw [hf] at L
    obtain ⟨it, a, b, c⟩ := L
    rw [duStep_word hl hr hf, c]
    have hj : j < ms.length := by have := (List.getElem?_eq_some_iff.mp a).1; rw [row_len] at this; exact this
    obtain ⟨it', a', k1, k2, y, k3⟩ := row_item ms j ms[j] (List.getElem?_eq_getElem hj)
    rw [a] at a'; cases a'
    have hp : (rowT (ms.take (j + 1))).1.length ≤ (rowT ms).1.length := by rw [k3, Str.length_append]; omega
    have et : ms.take (j + 1) = ms.take j ++ [ms[j]] := by rw [List.take_add_one, List.getElem?_eq_getElem hj]; rfl
    refine ⟨by show 0 ≤ it.behind; omega, by show it.behind ≤ 1000; omega, ?_⟩
    show SaidOk (httpList (Txt.slice (rowT ms).1 none (some it.behind))) _ _
    have es : Txt.slice (rowT ms).1 none (some it.behind) = (rowT (ms.take (j + 1))).1 := by rw [k2, k3]; exact slice_front _ _
    have ew : wordsP (rowT ms).2 j = (ms.take (j + 1)).map itemWord := by
      unfold wordsP; rw [List.map_take, row_words, ← List.map_take]
    have hne : ms.take (j + 1) ≠ [] := fun e => by
      have := congrArg List.length e
      rw [List.length_take, List.length_nil] at this; omega
    rw [es, row_http hne, ew, et]
    exact said_ok (k1.symm.trans b) (abK_ne st) (by rw [← et, List.length_take]; omega)
end MineP
end

section
open PySem PySem.W PyProof.Rows
set_option maxRecDepth 100000
set_option maxHeartbeats 2400000
namespace MineP
theorem reg_PlainL_1 : True := by
  w_top off
  k_with_none
  k_with "my omega" => first
      | with_reducible assumption
      | decide
      | ((fail_if_success (fail_if_success omega (config := {})))
         first
           | k_extra "my om"
           | k_extra "my big"
           | omega (config := {}))
  k_with "my om" => first
      | (with_reducible refine' rm0 ?h; (case h => with_reducible assumption))
      | (with_reducible refine' rm1 ?h ?e; (case h => with_reducible assumption); (case e => decide))
      | (with_reducible refine' rm2 ?h ?e; (case h => with_reducible assumption); (case e => decide))
      | (with_reducible refine' rm3 ?h ?e; (case h => with_reducible assumption); (case e => decide))
      | (with_reducible refine' bd1 ?h ?e; (case h => with_reducible assumption); (case e => decide))
      | (with_reducible refine' bd3 ?h ?e; (case h => with_reducible assumption); (case e => decide))
      | (with_reducible refine' bd4 ?h ?e; (case h => with_reducible assumption); (case e => decide))
      | (with_reducible refine' bz1 ?h ?e; (case h => walk_at "lt"); (case e => decide))
      | (with_reducible refine' bz3 ?h ?e; (case h => walk_at "lt"); (case e => decide))
      | (with_reducible refine' bd2 ?q ?h ?e; (case q => with_reducible assumption); (case h => with_reducible assumption); (case e => decide))
      | walk_at "lt2"
      | (with_reducible refine Nat.le_of_lt ?_; walk_at "lt2")
      | (with_reducible refine Nat.ne_of_lt ?_; walk_at "lt2")
      | (with_reducible refine Nat.ne_of_gt ?_; walk_at "lt2")
      | ((with_reducible refine And.intro ?_ ?_) <;> k_extra "my omega")
      | (with_reducible refine' Nat.lt_trans ?a ?b; (case b => with_reducible assumption); (case a => walk_at "lt2"))
      | (with_reducible refine' Nat.lt_trans ?a ?b; (case a => with_reducible assumption); (case b => walk_at "lt2"))
      | (with_reducible refine' Nat.lt_of_le_of_lt ?a ?b; (case b => with_reducible assumption); (case a => walk_at "lt2"))
      | (with_reducible refine' Nat.lt_of_le_of_lt ?a ?b; (case a => with_reducible assumption); (case b => walk_at "lt2"))
      | (with_reducible refine' Nat.lt_of_lt_of_le ?a ?b; (case b => with_reducible assumption); (case a => walk_at "lt2"))
      | (with_reducible refine' Nat.lt_of_lt_of_le ?a ?b; (case a => with_reducible assumption); (case b => walk_at "lt2"))
      | (with_reducible refine' Nat.le_trans ?a ?b; (case b => with_reducible assumption); (case a => walk_at "lt2"))
      | (with_reducible refine' Nat.le_trans ?a ?b; (case a => with_reducible assumption); (case b => walk_at "lt2"))
  k_with "my lt" => first
      | with_reducible assumption
      | (refine' And.left ?h; (case h => with_reducible assumption))
      | (refine' And.left (And.right ?h); (case h => with_reducible assumption))
      | (refine' And.left (And.right (And.right ?h)); (case h => with_reducible assumption))
      | (refine' And.left (And.right (And.right (And.right ?h))); (case h => with_reducible assumption))
      | (refine' And.left (And.right (And.right (And.right (And.right ?h)))); (case h => with_reducible assumption))
      | (refine' And.left (And.right (And.right (And.right (And.right (And.right ?h))))); (case h => with_reducible assumption))
      | (refine' And.left (And.right (And.right (And.right (And.right (And.right (And.right ?h)))))); (case h => with_reducible assumption))
      | (refine' And.left (And.right (And.right (And.right (And.right (And.right (And.right (And.right ?h))))))); (case h => with_reducible assumption))
      | (refine' And.left (And.right (And.right (And.right (And.right (And.right (And.right (And.right (And.right ?h)))))))); (case h => with_reducible assumption))
      | (refine' And.left (And.right (And.right (And.right (And.right (And.right (And.right (And.right (And.right (And.right ?h))))))))); (case h => with_reducible assumption))
      | (refine' And.left (And.right (And.right (And.right (And.right (And.right (And.right (And.right (And.right (And.right (And.right ?h)))))))))); (case h => with_reducible assumption))
  k_with "my lt2" => first
      | walk_at "lt"
      | (with_reducible exact ad1)
      | (with_reducible exact ad2)
      | (with_reducible exact ad3)
      | (with_reducible exact ad4)
      | (with_reducible refine ar1 ?_; walk_at "lt")
      | (with_reducible refine ar2 ?_; walk_at "lt")
      | (with_reducible refine ar3 ?_; walk_at "lt")
      | (with_reducible refine ar4 ?_; walk_at "lt")
      | (with_reducible refine as1 ?_; walk_at "lt")
      | (with_reducible refine as2 ?_; walk_at "lt")
      | (with_reducible refine as3 ?_; walk_at "lt")
      | (with_reducible refine as4 ?_; walk_at "lt")
  k_with "my ar" => ((try dsimp only); first
      | with_reducible exact Nat.le_refl _
      | walk_at "lt2"
      | (refine Nat.le_of_lt ?_; walk_at "lt2")
      | (refine Nat.ne_of_lt ?_; walk_at "lt2")
      | (refine Nat.ne_of_gt ?_; walk_at "lt2")
      | k_extra "my ar2"
      | omega)
  k_with "my k_ne" => (refine neN ?_; (try dsimp only); first
      | with_reducible assumption
      | (refine Ne.symm ?_; with_reducible assumption)
      | (refine Nat.ne_of_lt ?_; walk_at "lt")
      | (refine Nat.ne_of_gt ?_; walk_at "lt")
      | omega)
  trivial
open Mine
theorem item_word (n : Int) : WordOk (itemWord n) := by
  have hl1 := Int.fmod_nonneg_of_pos (Int.fdiv n 16) (b := 4) (by decide)
  have hl2 := Int.fmod_lt_of_pos (Int.fdiv n 16) (b := 4) (by decide)
  unfold itemWord
  repeat' split
  · show 1 ≤ iLine n ∧ iLine n ≤ 4
    unfold iLine; omega
  · trivial
  · trivial
  · trivial
theorem plain_ok (ns : List Int) (h : ns.length ≤ 6) : PlainOk ns := by
  have hl : ∀ k, (rowOf ns k).1.length ≤ 1000 := fun k => by have := rowOf_len ns k; omega
  refine ⟨fun k j => ?_, fun k j x hx => ?_, fun k it hit => ?_, fun ln x h1 h2 hx cl st => ?_⟩
  · rw [rowOf_eq]; exact (row_hits _ _).1
  · have h2 := hl k
    rw [rowOf_eq] at hx h2
    have := (row_hits _ _).2 x hx
    omega
  · rw [rowOf_eq] at hit
    have hm : it.word ∈ (rowT ((ns.filter fun n => decide (Int.fmod n 3 = k)).map fun n => Int.fdiv n 3)).2.map Item.word := List.mem_map.mpr ⟨it, hit, rfl⟩
    rw [row_words] at hm
    obtain ⟨n, _, e⟩ := List.mem_map.mp hm
    rw [← e]; exact item_word n
  · have key : ∀ k, ([rowOf ns 0, rowOf ns 1, rowOf ns 2].map (·.2)).getD (ln - 1).toNat [] = (rowOf ns k).2 → StepOk (rowOf ns k) (abK st) cl (duStep ([rowOf ns 0, rowOf ns 1, rowOf ns 2].map (·.2)) ln cl st) := by
      intro k hk
      have h3 := hl k
      have h4 : ((ns.filter fun n => decide (Int.fmod n 3 = k)).map fun n => Int.fdiv n 3).length ≤ 1000 := by
        rw [List.length_map]
        have := List.length_filter_le (fun n => decide (Int.fmod n 3 = k)) ns
        omega
      rw [rowOf_eq ns k] at hk h3 ⊢
      exact step_ok h3 h4 (by omega) hk cl st
    have h3 : ln = 1 ∨ ln = 2 ∨ ln = 3 := by omega
    rcases h3 with rfl | rfl | rfl
    · cases Option.some.inj hx; exact key 0 rfl
    · cases Option.some.inj hx; exact key 1 rfl
    · cases Option.some.inj hx; exact key 2 rfl
end MineP
end

set_option maxRecDepth 100000 in
set_option maxHeartbeats 8000000 in
theorem PySem.Challenge.cw_mq0134_01_holds : PySem.Challenge.rw_mq0134_01.Holds := by
  exact Mine.law_of MineP.plain_ok

