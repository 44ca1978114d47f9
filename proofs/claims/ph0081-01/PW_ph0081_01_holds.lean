import PyProof.Rows.All
import Wide.All
import OpenK.AllK
import Wide.FinOn
import Lean
import PySem.Challenge.RW_ph0081_01
open PySem PySem.W PyProof.Rows
set_option Elab.async false
set_option linter.all false
section
open PySem PySem.W PyProof.Rows
namespace Mine
/-- a text by its signs -/
abbrev S (l : List Nat) : Str := ⟨l.toArray⟩
theorem S_of (x : Str) : S x.cps.toList = x := by cases x; simp [S]
theorem S_len (l : List Nat) : (S l).length = l.length := by simp [S, Str.length]
theorem S_inj {l r : List Nat} (h : S l = S r) : l = r := by
  have := congrArg (fun x : Str => x.cps.toList) h
  simpa [S] using this
theorem S_beq (l r : List Nat) : (S l == S r) = decide (l = r) := by
  by_cases h : l = r
  · subst h; simp
  · rw [decide_eq_false h]
    exact beq_eq_false_iff_ne.mpr fun e => h (S_inj e)
theorem slice_from (l : List Nat) {k : Int} (h0 : 0 ≤ k) : Txt.slice (S l) (some k) none = S (l.drop k.toNat) := by
  by_cases h : k ≤ (S l).length
  · rw [slice_from_eq h0 h rfl]
    rw [S_len] at h ⊢
    have : (S l).cps.toList = l := by simp [S]
    rw [this, List.take_of_length_le]
    simp only [List.length_drop]
    omega
  · rw [slice_beyond (by omega)]
    rw [S_len] at h
    rw [List.drop_of_length_le (by omega)]
    rfl
theorem slice_all (x : Str) : Txt.slice x none none = x := by
  unfold Txt.slice
  rw [if_pos]
  simp [Builtin.Str.strSliceIndices, sliceRange]
  omega
theorem slice_to (l : List Nat) {k : Int} (h0 : k < 0) : Txt.slice (S l) none (some k) = S (l.take (l.length - (-k).toNat)) := by
  have key : Txt.slice (S l) none (some k) = Txt.slice (S l) none (some ((l.length - (-k).toNat : Nat) : Int)) := by
    unfold Txt.slice
    have e : Builtin.Str.strSliceIndices none (some k) 1 (S l).length = Builtin.Str.strSliceIndices none (some ((l.length - (-k).toNat : Nat) : Int)) 1 (S l).length := by
      rw [S_len]
      have h1 : ¬ (((l.length - (-k).toNat : Nat) : Int) < 0) := by omega
      have h2 : max 0 (min (k + (l.length : Int)) (l.length : Int)) = max 0 (min ((l.length - (-k).toNat : Nat) : Int) (l.length : Int)) := by omega
      simp only [Builtin.Str.strSliceIndices, h0, h1, if_true, if_false, h2, show (1 : Int) > 0 by decide]
    rw [e]
  rw [key]
  have c := beq_iff_eq.mp (slice_closes_to (x := S l) (j := ((l.length - (-k).toNat : Nat) : Int)) (by simp))
  rw [c]
  have : (S l).cps.toList = l := by simp [S]
  rw [this]
  simp
theorem item_at (l : List Nat) {k : Int} (h0 : 0 ≤ k) (h1 : k < l.length) : Txt.item (S l) k = S [l.getD k.toNat 0] := by
  unfold Txt.item Txt.charAt seqIndex?
  rw [S_len]
  have : ¬ k < 0 := by omega
  have hk : k.toNat < l.length := by omega
  simp [this, h0, h1, S, List.getD_eq_getElem?_getD]
theorem item_back (l : List Nat) {k : Int} (h0 : k < 0) (h1 : -k ≤ l.length) : Txt.item (S l) k = S [l.reverse.getD (-k - 1).toNat 0] := by
  unfold Txt.item Txt.charAt seqIndex?
  rw [S_len]
  have hj : 0 ≤ k + (l.length : Int) := by omega
  have hj' : k + (l.length : Int) < l.length := by omega
  have e : l.length - 1 - (-k - 1).toNat = (k + (l.length : Int)).toNat := by omega
  have hlt : (-k - 1).toNat < l.length := by omega
  have hr : l.reverse.getD (-k - 1).toNat 0 = l.getD (k + (l.length : Int)).toNat 0 := by
    rw [List.getD_eq_getElem?_getD, List.getElem?_reverse hlt, e, ← List.getD_eq_getElem?_getD]
  rw [hr]
  simp [h0, hj, hj', S, List.getD_eq_getElem?_getD]
/-- how many signs two texts share at their beginnings -/
def lcp : List Nat → List Nat → Nat
  | a :: r, b :: q => if a = b then lcp r q + 1 else 0
  | _, _ => 0
theorem lcp_eq {a b : Nat} {r q : List Nat} (h : a = b) : lcp (a :: r) (b :: q) = lcp r q + 1 := by rw [lcp]; exact if_pos h
theorem lcp_ne {a b : Nat} {r q : List Nat} (h : ¬ a = b) : lcp (a :: r) (b :: q) = 0 := by rw [lcp]; exact if_neg h
theorem lcp_nil_l (b : List Nat) : lcp [] b = 0 := by cases b <;> rfl
theorem lcp_nil_r (a : List Nat) : lcp a [] = 0 := by cases a <;> rfl
theorem lcp_le_l : ∀ a b : List Nat, lcp a b ≤ a.length
  | [], b => by rw [lcp_nil_l]; exact Nat.zero_le _
  | a :: r, [] => by rw [lcp_nil_r]; exact Nat.zero_le _
  | a :: r, b :: q => by unfold lcp; split; (· have := lcp_le_l r q; simp; exact this); simp
theorem lcp_le_r : ∀ a b : List Nat, lcp a b ≤ b.length
  | [], b => by rw [lcp_nil_l]; exact Nat.zero_le _
  | a :: r, [] => by rw [lcp_nil_r]; exact Nat.zero_le _
  | a :: r, b :: q => by unfold lcp; split; (· have := lcp_le_r r q; simp; exact this); simp
theorem lcp_step {a b : List Nat} {k : Nat} (ha : k < a.length) (hb : k < b.length) (he : a.getD k 0 = b.getD k 0) (hk : k + lcp (a.drop k) (b.drop k) = lcp a b) : k + 1 + lcp (a.drop (k + 1)) (b.drop (k + 1)) = lcp a b := by
  rw [List.drop_eq_getElem_cons ha, List.drop_eq_getElem_cons hb] at hk
  have e : a[k] = b[k] := by simpa [List.getD_eq_getElem?_getD, ha, hb] using he
  rw [lcp_eq e] at hk
  omega
theorem lcp_stop {a b : List Nat} {k : Nat} (h : k = a.length ∨ k = b.length ∨ (k < a.length ∧ k < b.length ∧ a.getD k 0 ≠ b.getD k 0)) (hk : k + lcp (a.drop k) (b.drop k) = lcp a b) : k = lcp a b := by
  rcases h with h | h | ⟨ha, hb, he⟩
  · rw [h, List.drop_length, lcp_nil_l] at hk; omega
  · rw [h, List.drop_length, lcp_nil_r] at hk; omega
  · rw [List.drop_eq_getElem_cons ha, List.drop_eq_getElem_cons hb] at hk
    have e : ¬ a[k] = b[k] := by simpa [List.getD_eq_getElem?_getD, ha, hb] using he
    rw [lcp_ne e] at hk
    omega
end Mine
end
section
open PySem PySem.W PyProof.Rows
namespace Mine
section
variable {prog : Program} {w : World} {A : Around} {E : Value → Shared → Prop} {Q : Flow → Shared → Prop} {s : Shared} {env : Env} {h₀ : Heap} {L : Addr} {m₀ : Str → Option Value} {news : List (Addr × Obj)} {t : Sem Flow}
/-- one name has got an int -/
def OutI (h₀ : Heap) (L : Addr) (m₀ : Str → Option Value) (news : List (Addr × Obj)) (x : Str) (p : Int) (s : Shared) (f : Flow) (s' : Shared) : Prop :=
  f = .next ∧ ∃ tk h' k, s' = { s with heap := h', toks := k } ∧ Fr h₀ L h' (fun z => if z = x then some (.int p tk) else m₀ z) ∧ News h₀ L h' news
theorem cutI (F : Fr h₀ L s.heap m₀) (N : News h₀ L s.heap news) (x : Str) (p : Int) (h : wpAny (model prog w) A t (OutI h₀ L m₀ news x p s) E s)
    (k : ∀ tk h' k', Fr h₀ L h' (fun z => if z = x then some (.int p tk) else m₀ z) → News h₀ L h' news → Q .next { s with heap := h', toks := k' }) : wpAny (model prog w) A t Q E s :=
  wpAny_mono h (fun f s' ⟨e, tk, h', k', e', F', N'⟩ => by subst e; subst e'; exact k tk h' k' F' N') fun _ _ e => e
theorem outI {x : Str} {p p' : Int} {h' : Heap} {k : Nat} {tk : Tok} {m' : Str → Option Value} (F : Fr h₀ L h' m') (N : News h₀ L h' news) (hx : m' x = some (.int p' tk)) (e : p' = p) (hm : ∀ z, z ≠ x → m' z = m₀ z) : OutI h₀ L m₀ news x p s .next { s with heap := h', toks := k } := by
  subst e
  have : m' = fun z => if z = x then some (.int p' tk) else m₀ z := by
    funext z
    by_cases hz : z = x
    · rw [if_pos hz, hz]; exact hx
    · rw [if_neg hz]; exact hm z hz
  subst this
  exact ⟨rfl, tk, h', k, rfl, F, N⟩
/-- one name has got a text -/
def OutS (h₀ : Heap) (L : Addr) (m₀ : Str → Option Value) (news : List (Addr × Obj)) (x : Str) (p : Str) (s : Shared) (f : Flow) (s' : Shared) : Prop :=
  f = .next ∧ ∃ tk h' k, s' = { s with heap := h', toks := k } ∧ Fr h₀ L h' (fun z => if z = x then some (.str p tk) else m₀ z) ∧ News h₀ L h' news
theorem cutS (F : Fr h₀ L s.heap m₀) (N : News h₀ L s.heap news) (x : Str) (p : Str) (h : wpAny (model prog w) A t (OutS h₀ L m₀ news x p s) E s)
    (k : ∀ tk h' k', Fr h₀ L h' (fun z => if z = x then some (.str p tk) else m₀ z) → News h₀ L h' news → Q .next { s with heap := h', toks := k' }) : wpAny (model prog w) A t Q E s :=
  wpAny_mono h (fun f s' ⟨e, tk, h', k', e', F', N'⟩ => by subst e; subst e'; exact k tk h' k' F' N') fun _ _ e => e
theorem outS {x : Str} {p p' : Str} {h' : Heap} {k : Nat} {tk : Tok} {m' : Str → Option Value} (F : Fr h₀ L h' m') (N : News h₀ L h' news) (hx : m' x = some (.str p' tk)) (e : p' = p) (hm : ∀ z, z ≠ x → m' z = m₀ z) : OutS h₀ L m₀ news x p s .next { s with heap := h', toks := k } := by
  subst e
  have : m' = fun z => if z = x then some (.str p' tk) else m₀ z := by
    funext z
    by_cases hz : z = x
    · rw [if_pos hz, hz]; exact hx
    · rw [if_neg hz]; exact hm z hz
  subst this
  exact ⟨rfl, tk, h', k, rfl, F, N⟩
/-- two names have got texts -/
def OutSS (h₀ : Heap) (L : Addr) (m₀ : Str → Option Value) (news : List (Addr × Obj)) (x y : Str) (p q : Str) (s : Shared) (f : Flow) (s' : Shared) : Prop :=
  f = .next ∧ ∃ tk tl h' k, s' = { s with heap := h', toks := k } ∧ Fr h₀ L h' (fun z => if z = x then some (.str p tk) else if z = y then some (.str q tl) else m₀ z) ∧ News h₀ L h' news
theorem cutSS (F : Fr h₀ L s.heap m₀) (N : News h₀ L s.heap news) (x y : Str) (p q : Str) (h : wpAny (model prog w) A t (OutSS h₀ L m₀ news x y p q s) E s)
    (k : ∀ tk tl h' k', Fr h₀ L h' (fun z => if z = x then some (.str p tk) else if z = y then some (.str q tl) else m₀ z) → News h₀ L h' news → Q .next { s with heap := h', toks := k' }) : wpAny (model prog w) A t Q E s :=
  wpAny_mono h (fun f s' ⟨e, tk, tl, h', k', e', F', N'⟩ => by subst e; subst e'; exact k tk tl h' k' F' N') fun _ _ e => e
theorem outSS {x y : Str} {p p' q q' : Str} {h' : Heap} {k : Nat} {tk tl : Tok} {m' : Str → Option Value} {news' : List (Addr × Obj)} (F : Fr h₀ L h' m') (N : News h₀ L h' news') (hn : ∀ p ∈ news, p ∈ news') (hx : m' x = some (.str p' tk)) (hy : m' y = some (.str q' tl)) (e : p' = p) (e' : q' = q) (hm : ∀ z, z ≠ x → z ≠ y → m' z = m₀ z) : OutSS h₀ L m₀ news x y p q s .next { s with heap := h', toks := k } := by
  subst e; subst e'
  have : m' = fun z => if z = x then some (.str p' tk) else if z = y then some (.str q' tl) else m₀ z := by
    funext z
    by_cases hz : z = x
    · rw [if_pos hz, hz]; exact hx
    · rw [if_neg hz]
      by_cases hw : z = y
      · rw [if_pos hw, hw]; exact hy
      · rw [if_neg hw]; exact hm z hz hw
  subst this
  exact ⟨rfl, tk, tl, h', k, rfl, F, fun p hp => N p (hn p hp)⟩
end
/-- the first loop's word: the turn, the three ends -/
def W1 (xs ys : List Nat) (p : Int) : Prop := 0 ≤ p ∧ p ≤ xs.length ∧ p ≤ ys.length ∧ p.toNat + lcp (xs.drop p.toNat) (ys.drop p.toNat) = lcp xs ys
theorem w1_start (xs ys : List Nat) : W1 xs ys 0 := ⟨by omega, by omega, by omega, by simp⟩
theorem w1_turn {xs ys : List Nat} {p : Int} (h : W1 xs ys p) (hx : ((Txt.slice (S xs) (some p) none).length : Int) ≠ 0) (hy : ((Txt.slice (S ys) (some p) none).length : Int) ≠ 0) (he : (Txt.item (S xs) p == Txt.item (S ys) p) = true) : W1 xs ys (p + 1) := by
  obtain ⟨h0, h1, h2, h3⟩ := h
  rw [slice_from _ h0, S_len, List.length_drop] at hx hy
  have hx' : p < xs.length := by omega
  have hy' : p < ys.length := by omega
  rw [item_at _ h0 hx', item_at _ h0 hy', S_beq, decide_eq_true_eq] at he
  have e : (p + 1).toNat = p.toNat + 1 := by omega
  refine ⟨by omega, by omega, by omega, ?_⟩
  rw [e]
  exact lcp_step (by omega) (by omega) (by injection he) h3
theorem w1_endx {xs ys : List Nat} {p : Int} (h : W1 xs ys p) (hx : ((Txt.slice (S xs) (some p) none).length : Int) = 0) : p = (lcp xs ys : Int) := by
  obtain ⟨h0, h1, h2, h3⟩ := h
  rw [slice_from _ h0, S_len, List.length_drop] at hx
  have := lcp_stop (.inl (by omega)) h3
  omega
theorem w1_endy {xs ys : List Nat} {p : Int} (h : W1 xs ys p) (hy : ((Txt.slice (S ys) (some p) none).length : Int) = 0) : p = (lcp xs ys : Int) := by
  obtain ⟨h0, h1, h2, h3⟩ := h
  rw [slice_from _ h0, S_len, List.length_drop] at hy
  have := lcp_stop (.inr (.inl (by omega))) h3
  omega
theorem w1_ende {xs ys : List Nat} {p : Int} (h : W1 xs ys p) (hx : ((Txt.slice (S xs) (some p) none).length : Int) ≠ 0) (hy : ((Txt.slice (S ys) (some p) none).length : Int) ≠ 0) (he : (Txt.item (S xs) p == Txt.item (S ys) p) = false) : p = (lcp xs ys : Int) := by
  obtain ⟨h0, h1, h2, h3⟩ := h
  rw [slice_from _ h0, S_len, List.length_drop] at hx hy
  have hx' : p < xs.length := by omega
  have hy' : p < ys.length := by omega
  rw [item_at _ h0 hx', item_at _ h0 hy', S_beq, decide_eq_false_iff_not] at he
  have := lcp_stop (.inr (.inr ⟨by omega, by omega, fun e => he (by rw [e])⟩)) h3
  omega
/-- the second loop's -/
def W2 (xs ys : List Nat) (p : Int) : Prop := p ≤ 0 ∧ -p ≤ xs.length ∧ -p ≤ ys.length ∧ (-p).toNat + lcp (xs.reverse.drop (-p).toNat) (ys.reverse.drop (-p).toNat) = lcp xs.reverse ys.reverse
theorem w2_start (xs ys : List Nat) : W2 xs ys 0 := ⟨by omega, by omega, by omega, by simp⟩
/-- a[:post or None] -/
def upTo (x : Str) (p : Int) : Str := if p ≠ 0 then Txt.slice x none (some p) else Txt.slice x none none
theorem upTo_eq (l : List Nat) {p : Int} (h : p ≤ 0) : upTo (S l) p = S (l.take (l.length - (-p).toNat)) := by
  unfold upTo
  split
  · exact slice_to l (by omega)
  · rw [slice_all, List.take_of_length_le (by omega)]
theorem w2_turn {xs ys : List Nat} {p : Int} (h : W2 xs ys p) (hx : ((upTo (S xs) p).length : Int) ≠ 0) (hy : ((upTo (S ys) p).length : Int) ≠ 0) (he : (Txt.item (S xs) (p - 1) == Txt.item (S ys) (p - 1)) = true) : W2 xs ys (p - 1) := by
  obtain ⟨h0, h1, h2, h3⟩ := h
  rw [upTo_eq _ h0, S_len, List.length_take] at hx hy
  have hx' : -(p - 1) ≤ xs.length := by omega
  have hy' : -(p - 1) ≤ ys.length := by omega
  rw [item_back _ (by omega) hx', item_back _ (by omega) hy', S_beq, decide_eq_true_eq] at he
  have e : (-(p - 1)).toNat = (-p).toNat + 1 := by omega
  have e' : (-(p - 1) - 1).toNat = (-p).toNat := by omega
  rw [e'] at he
  refine ⟨by omega, by omega, by omega, ?_⟩
  rw [e]
  exact lcp_step (by rw [List.length_reverse]; omega) (by rw [List.length_reverse]; omega) (by injection he) h3
theorem w2_endx {xs ys : List Nat} {p : Int} (h : W2 xs ys p) (hx : ((upTo (S xs) p).length : Int) = 0) : p = -(lcp xs.reverse ys.reverse : Int) := by
  obtain ⟨h0, h1, h2, h3⟩ := h
  rw [upTo_eq _ h0, S_len, List.length_take] at hx
  have := lcp_stop (.inl (by rw [List.length_reverse]; omega)) h3
  omega
theorem w2_endy {xs ys : List Nat} {p : Int} (h : W2 xs ys p) (hy : ((upTo (S ys) p).length : Int) = 0) : p = -(lcp xs.reverse ys.reverse : Int) := by
  obtain ⟨h0, h1, h2, h3⟩ := h
  rw [upTo_eq _ h0, S_len, List.length_take] at hy
  have := lcp_stop (.inr (.inl (by rw [List.length_reverse]; omega))) h3
  omega
theorem w2_ende {xs ys : List Nat} {p : Int} (h : W2 xs ys p) (hx : ((upTo (S xs) p).length : Int) ≠ 0) (hy : ((upTo (S ys) p).length : Int) ≠ 0) (he : (Txt.item (S xs) (p - 1) == Txt.item (S ys) (p - 1)) = false) : p = -(lcp xs.reverse ys.reverse : Int) := by
  obtain ⟨h0, h1, h2, h3⟩ := h
  rw [upTo_eq _ h0, S_len, List.length_take] at hx hy
  have hx' : -(p - 1) ≤ xs.length := by omega
  have hy' : -(p - 1) ≤ ys.length := by omega
  rw [item_back _ (by omega) hx', item_back _ (by omega) hy', S_beq, decide_eq_false_iff_not] at he
  have e' : (-(p - 1) - 1).toNat = (-p).toNat := by omega
  rw [e'] at he
  have := lcp_stop (.inr (.inr ⟨by rw [List.length_reverse]; omega, by rw [List.length_reverse]; omega, fun e => he (by rw [e])⟩)) h3
  omega
end Mine
namespace Mine
theorem upTo_le (x : Str) (p : Int) : (upTo x p).length ≤ x.length := by
  unfold upTo
  split <;> exact Txt.slice_le _ _ _
section
variable {prog : Program} {w : World} {A : Around} {E : Value → Shared → Prop} {Q : Value → Shared → Prop} {s : Shared} {env : Env} {h₀ : Heap} {L : Addr} {m₀ : Str → Option Value} {news : List (Addr × Obj)} {t : Sem Value} {x : Str} {p : Int} {tx tp : Tok}
/-- a text's value, the frame as it was -/
def OutV (h₀ : Heap) (L : Addr) (m₀ : Str → Option Value) (news : List (Addr × Obj)) (x : Str) (s : Shared) (v : Value) (s' : Shared) : Prop :=
  ∃ t h' k, v = .str x t ∧ s' = { s with heap := h', toks := k } ∧ Fr h₀ L h' m₀ ∧ News h₀ L h' news
theorem cutUp (F : Fr h₀ L s.heap m₀) (N : News h₀ L s.heap news) (nx np : Str) (hx : m₀ nx = some (.str x tx)) (hp : m₀ np = some (.int p tp)) (h : wpAny (model prog w) A t (OutV h₀ L m₀ news (upTo x p) s) E s)
    (k : ∀ t h' k', Fr h₀ L h' m₀ → News h₀ L h' news → (upTo x p).length ≤ x.length → Q (.str (upTo x p) t) { s with heap := h', toks := k' }) : wpAny (model prog w) A t Q E s :=
  wpAny_mono h (fun v s' ⟨t, h', k', e, e', F', N'⟩ => by subst e; subst e'; exact k t h' k' F' N' (upTo_le x p)) fun _ _ e => e
theorem outVN {h' : Heap} {k : Nat} {t : Tok} (F : Fr h₀ L h' m₀) (N : News h₀ L h' news) (hp : p ≠ 0) : OutV h₀ L m₀ news (upTo x p) s (.str (Txt.slice x none (some p)) t) { s with heap := h', toks := k } :=
  ⟨t, h', k, by rw [upTo, if_pos hp], rfl, F, N⟩
theorem outVZ {h' : Heap} {k : Nat} {t : Tok} (F : Fr h₀ L h' m₀) (N : News h₀ L h' news) (hp : p = 0) : OutV h₀ L m₀ news (upTo x p) s (.str (Txt.slice x none none) t) { s with heap := h', toks := k } :=
  ⟨t, h', k, by rw [upTo, if_neg (fun q => q hp)], rfl, F, N⟩
end
section
variable {xs ys : List Nat} {p : Int} (h : W2 xs ys p)
theorem room_up {l : List Nat} {p : Int} (h0 : p ≤ 0) (hx : ((upTo (S l) p).length : Int) ≠ 0) : -p < l.length ∧ ((S l).length : Int) = l.length := by
  rw [upTo_eq _ h0, S_len, List.length_take] at hx
  rw [S_len]
  omega
theorem W2.word (q : W2 xs ys p) : p ≤ 0 ∧ -p ≤ ((S xs).length : Int) ∧ -p ≤ ((S ys).length : Int) ∧ W2 xs ys p := ⟨q.1, by rw [S_len]; exact q.2.1, by rw [S_len]; exact q.2.2.1, q⟩
theorem W1.word (q : W1 xs ys p) : 0 ≤ p ∧ p ≤ ((S xs).length : Int) ∧ p ≤ ((S ys).length : Int) ∧ W1 xs ys p := ⟨q.1, by rw [S_len]; exact q.2.1, by rw [S_len]; exact q.2.2.1, q⟩
include h
theorem room_x (hx : ((upTo (S xs) p).length : Int) ≠ 0) : -p < xs.length ∧ ((S xs).length : Int) = xs.length := room_up h.1 hx
theorem room_y (hx : ((upTo (S ys) p).length : Int) ≠ 0) : -p < ys.length ∧ ((S ys).length : Int) = ys.length := room_up h.1 hx
end
end Mine
namespace Mine
/-- the cost of one sign in another one's place -/
def subCost (x y : Str) : Int := if x = y then 0 else if Txt.lower x = Txt.lower y then 1 else 2
def cst (c d : Nat) : Int := subCost (S [c]) (S [d])
/-- min of two, as Python's -/
def pmin (a b : Int) : Int := if b < a then b else a
/-- a turn of the inner loop: the row, distance, result, minimum -/
def inStep (c : Nat) (a : List Nat) (st : List Int × Int × Int × Int) (i : Nat) : List Int × Int × Int × Int :=
  let r := pmin (pmin st.2.2.1 (st.1.getD i 0) + 2) (st.2.1 + cst c (a.getD i 0))
  (st.1.set i r, st.1.getD i 0, r, if r < st.2.2.2 then r else st.2.2.2)
def inn (c : Nat) (a : List Nat) (row : List Int) (j : Int) : Nat → List Int × Int × Int × Int
  | 0 => (row, j * 2, j * 2, 9223372036854775807)
  | i + 1 => inStep c a (inn c a row j i) i
/-- the outer loop: the row, result, whether no row's least is over the bound -/
def outt (a b : List Nat) (mc : Int) (row : List Int) : Nat → List Int × Int × Bool
  | 0 => (row, 0, true)
  | j + 1 =>
    let st := outt a b mc row j
    let t := inn (b.getD j 0) a st.1 j a.length
    (t.1, t.2.2.1, st.2.2 && !decide (t.2.2.2 > mc))
def row0 (n : Nat) : List Int := (List.range n).map fun (k : Nat) => 2 + (k : Int) * 2
def levCore (a b : List Nat) (mc : Int) : Int :=
  let t := outt a b mc (row0 a.length) b.length
  if t.2.2 then t.2.1 else mc + 1
def cutA (x y : List Nat) : List Nat × List Nat :=
  let a := x.drop (lcp x y)
  let b := y.drop (lcp x y)
  let q := lcp a.reverse b.reverse
  (a.take (a.length - q), b.take (b.length - q))
def levIn (a b : List Nat) (mc : Int) : Int :=
  if a = [] ∨ b = [] then 2 * ((a.length : Int) + b.length)
  else
    let p := if b.length < a.length then (b, a) else (a, b)
    if ((p.2.length : Int) - p.1.length) * 2 > mc then mc + 1 else levCore p.1 p.2 mc
def lev (x y : List Nat) (mc : Int) : Int :=
  if x = y then 0 else levIn (cutA x y).1 (cutA x y).2 mc
end Mine
namespace Mine
theorem upTo_neg (l : List Nat) (q : Nat) : upTo (S l) (-(q : Int)) = S (l.take (l.length - q)) := by
  rw [upTo_eq _ (by omega)]
  simp
end Mine
namespace Mine
theorem cutA_eq {xs ys as bs : List Nat} (ha : xs.drop (lcp xs ys) = as) (hb : ys.drop (lcp xs ys) = bs) : cutA xs ys = (as.take (as.length - lcp as.reverse bs.reverse), bs.take (bs.length - lcp as.reverse bs.reverse)) := by
  subst ha; subst hb; rfl
theorem lev_cut {xs ys as bs a b : List Nat} {mc : Int} (hne : (S xs == S ys) = false) (ha : xs.drop (lcp xs ys) = as) (hb : ys.drop (lcp xs ys) = bs) (ha' : as.take (as.length - lcp as.reverse bs.reverse) = a) (hb' : bs.take (bs.length - lcp as.reverse bs.reverse) = b) : lev xs ys mc = levIn a b mc := by
  rw [S_beq, decide_eq_false_iff_not] at hne
  unfold lev
  rw [if_neg hne, cutA_eq ha hb, ha', hb']
theorem lev_same {xs ys : List Nat} {mc : Int} (he : (S xs == S ys) = true) : 0 = lev xs ys mc := by
  rw [S_beq, decide_eq_true_eq] at he
  unfold lev
  rw [if_pos he]
theorem len_zero {l : List Nat} (h : ((S l).length : Int) = 0) : l = [] := by
  rw [S_len] at h
  exact List.length_eq_zero_iff.mp (by omega)
theorem levIn_x {a b : List Nat} {mc : Int} (h : ((S a).length : Int) = 0) : 2 * (((S a).length : Int) + ((S b).length : Int)) = levIn a b mc := by
  unfold levIn
  rw [if_pos (.inl (len_zero h)), S_len, S_len]
theorem levIn_y {a b : List Nat} {mc : Int} (h : ((S b).length : Int) = 0) : 2 * (((S a).length : Int) + ((S b).length : Int)) = levIn a b mc := by
  unfold levIn
  rw [if_pos (.inr (len_zero h)), S_len, S_len]
/-- the shorter one first -/
def srt (a b : List Nat) : List Nat × List Nat := if b.length < a.length then (b, a) else (a, b)
theorem levIn_go {a b p q : List Nat} {mc : Int} (ha : ((S a).length : Int) ≠ 0) (hb : ((S b).length : Int) ≠ 0) (hp : (srt a b).1 = p) (hq : (srt a b).2 = q) :
    levIn a b mc = if ((q.length : Int) - p.length) * 2 > mc then mc + 1 else levCore p q mc := by
  rw [S_len] at ha hb
  have na : ¬ (a = [] ∨ b = []) := by
    rintro (h | h)
    · subst h; simp at ha
    · subst h; simp at hb
  unfold levIn
  rw [if_neg na]
  subst hp; subst hq
  rfl
theorem srt_swap {a b : List Nat} (h : ((S b).length : Int) < ((S a).length : Int)) : srt a b = (b, a) := by
  rw [S_len, S_len] at h
  exact if_pos (by omega)
theorem srt_stay {a b : List Nat} (h : ¬ ((S b).length : Int) < ((S a).length : Int)) : srt a b = (a, b) := by
  rw [S_len, S_len] at h
  exact if_neg (by omega)
theorem srt_le (a b : List Nat) : (srt a b).1.length ≤ (srt a b).2.length := by
  unfold srt
  split <;> simp <;> omega
theorem row0_length (n : Nat) : (row0 n).length = n := by simp [row0]
theorem row0_ints : ∀ (vs : List Value) (n : Nat), vs.length = n → (∀ (j : Nat) (v : Value), vs[j]? = some v → ∃ t, v = .int (2 + j * 2) t) → IntsAre vs (row0 n) := by
  have key : ∀ (vs : List Value) (a : Int), (∀ (j : Nat) (v : Value), vs[j]? = some v → ∃ t, v = .int (a + j * 2) t) → IntsAre vs ((List.range vs.length).map fun (k : Nat) => a + (k : Int) * 2) := by
    intro vs
    induction vs with
    | nil => intro a _; exact .nil
    | cons v r ih =>
      intro a h
      rw [List.length_cons, List.range_succ_eq_map, List.map_cons, List.map_map]
      obtain ⟨t, ht⟩ := h 0 v rfl
      have hv : v = .int a t := by rw [ht]; simp
      subst hv
      have hr := ih (a + 2) fun j v hj => by
        obtain ⟨t', ht'⟩ := h (j + 1) v hj
        refine ⟨t', ht'.trans ?_⟩
        congr 1
        omega
      have e : ((fun (k : Nat) => a + (k : Int) * 2) ∘ Nat.succ) = fun (k : Nat) => (a + 2) + (k : Int) * 2 := by
        funext k
        simp only [Function.comp]
        omega
      rw [e]
      simpa using IntsAre.cons a t hr
  intro vs n e h
  subst e
  exact key vs 2 h
section
variable {prog : Program} {w : World} {A : Around} {E : Value → Shared → Prop} {s : Shared} {h₀ : Heap} {L r : Addr} {m : Str → Option Value} {news : List (Addr × Obj)} {t₀ u₀ v₀ : Tok} {n : Nat} {b : Int} {Q : Value → Shared → Prop}
theorem list_row0 (hh : A.handled = none) (F : Fr h₀ L s.heap m) (N : News h₀ L s.heap news) (hr : IsRange s.heap r 2 b 2 t₀ u₀ v₀) (hb : b = 2 * ((n : Int) + 1)) (hz : n ≤ 40)
    (h : ∀ D us c h' tk, Fr h₀ L h' m → News h₀ L h' ((D, listOf (List.toArray us) c) :: news) → (∀ p ∈ news, p.1 < D) → IntsAre us (row0 n) → Q (.ref D) { s with heap := h', toks := tk }) :
    wpAny (model prog w) A (call (.type "list") [.ref r]) Q E s := by
  subst hb
  have hsmall : Builtin.Range.small 2 (2 * ((n : Int) + 1)) 2 = true := by
    have : ∀ k : Fin 41, Builtin.Range.small 2 (2 * (((k : Nat) : Int) + 1)) 2 = true := by decide +kernel
    exact this ⟨n, by omega⟩
  have hn : Builtin.Range.rangeSize 2 (2 * ((n : Int) + 1)) 2 = (n : Int) := by
    have : ∀ k : Fin 41, Builtin.Range.rangeSize 2 (2 * (((k : Nat) : Int) + 1)) 2 = ((k : Nat) : Int) := by decide +kernel
    exact this ⟨n, by omega⟩
  refine call_list_range hh hr hsmall hn (by omega) fun h' tk acc c hk hD hI => ?_
  have hD' : h'.get? s.heap.objs.size = some (listOf (List.toArray acc.toList) c) := by
    rw [Array.toArray_toList]
    exact hD
  exact h _ acc.toList c h' tk (F.keeps hk) (news_pushed F N hk hD' rfl) (fun p hp => Heap.lt_size (N p hp).1) (row0_ints _ _ (by rw [Array.length_toList]; exact hI.1) fun j v hj => hI.2 j v (by rw [← hj, Array.getElem?_toList]))
end
end Mine
namespace Mine
theorem srt_swap1 {a b : List Nat} (h : ((S b).length : Int) < ((S a).length : Int)) : S b = S (srt a b).1 := by rw [srt_swap h]
theorem srt_swap2 {a b : List Nat} (h : ((S b).length : Int) < ((S a).length : Int)) : S a = S (srt a b).2 := by rw [srt_swap h]
theorem srt_stay1 {a b : List Nat} (h : ¬ ((S b).length : Int) < ((S a).length : Int)) : S a = S (srt a b).1 := by rw [srt_stay h]
theorem srt_stay2 {a b : List Nat} (h : ¬ ((S b).length : Int) < ((S a).length : Int)) : S b = S (srt a b).2 := by rw [srt_stay h]
end Mine
namespace Mine
/-- the outer loop's word -/
def OW (a b : List Nat) (mc : Int) (n : Nat) (result : Int) (row : List Int) : Prop :=
  row.length = a.length ∧ outt a b mc (row0 a.length) n = (row, result, true)
theorem ow_start (a b : List Nat) (mc : Int) : OW a b mc 0 0 (row0 a.length) := ⟨row0_length _, rfl⟩
/-- the inner loop's word -/
def IW (a b : List Nat) (j : Int) (rw0 : List Int) (n : Nat) (distance result minimum : Int) (row : List Int) : Prop :=
  row.length = a.length ∧ inn (b.getD j.toNat 0) a rw0 j n = (row, distance, result, minimum)
theorem iw_start {a b : List Nat} {j : Int} {row : List Int} (h : row.length = a.length) : IW a b j row 0 (j * 2) (j * 2) 9223372036854775807 row := ⟨h, rfl⟩
end Mine
namespace Mine
theorem sub_0 {x y : Str} (h : (x == y) = true) : 0 = subCost x y := by rw [subCost, if_pos (beq_iff_eq.mp h)]
theorem sub_1 {x y : Str} (h : (x == y) = false) (h' : (Txt.lower x == Txt.lower y) = true) : 1 = subCost x y := by rw [subCost, if_neg (beq_eq_false_iff_ne.mp h), if_pos (beq_iff_eq.mp h')]
theorem sub_2 {x y : Str} (h : (x == y) = false) (h' : (Txt.lower x == Txt.lower y) = false) : 2 = subCost x y := by rw [subCost, if_neg (beq_eq_false_iff_ne.mp h), if_neg (beq_eq_false_iff_ne.mp h')]
end Mine
namespace Mine
/-- the call of a def: as the kit's claim, with more room -/
abbrev Cl (prog : Program) (w : World) (K : Frag) (p : Program) (loose : List Str) (mean : ExcName → Option Value) (mg mb : Str → Option Value) (f : Addr) (news : List (Addr × Obj)) (pre : Prop) (vs : List Value) (R : Tok → Value) : Prop :=
  ∀ (dp un : Nat) (gd : Option (List Code)) (cn : Str) (cs : Scope) (a : Addr) (ccd : Value) (cl : List (Str × Addr)) (outer : List Env) (A₀ : Around) (base h₀ : Heap) (L : Addr) (m : Str → Option Value) (s : Shared) (Q E : Value → Shared → Prop),
    Below A₀ base outer h₀ → Fr h₀ L s.heap m → K.In h₀ → News h₀ L s.heap news → Top p loose mean mg mb h₀ → cs.kind = .function →
    pre → dp + 5 < recursionLimit → un + 50 < cLine → CbRet h₀ L m news s Q R →
      wpAny (model prog w) (ktrTop dp un gd cn cs L a ccd cl outer) (call (.ref f) vs) Q E s
def turnV (a b : List Nat) (j k d r : Int) (row : List Int) : Int :=
  if d + subCost (Txt.item (S b) j) (Txt.item (S a) k) < (if row.getD k.toNat 0 < r then row.getD k.toNat 0 else r) + 2 then d + subCost (Txt.item (S b) j) (Txt.item (S a) k)
  else (if row.getD k.toNat 0 < r then row.getD k.toNat 0 else r) + 2
theorem turnV_eq {a b : List Nat} {j k d r : Int} {row : List Int} (hj0 : 0 ≤ j) (hj : j < b.length) (hk0 : 0 ≤ k) (hk : k < a.length) :
    turnV a b j k d r row = pmin (pmin r (row.getD k.toNat 0) + 2) (d + cst (b.getD j.toNat 0) (a.getD k.toNat 0)) := by
  unfold turnV
  rw [item_at _ hj0 hj, item_at _ hk0 hk]
  rfl
theorem iw_turnA {a b : List Nat} {j k d r m : Int} {r0 row pre : List Int} (hW : IW a b j r0 pre.length d r m row) (hk : k = pre.length) (hka : k < a.length) (hj0 : 0 ≤ j) (hj : j < b.length) (hlt : turnV a b j k d r row < m) :
    (row.set k.toNat (turnV a b j k d r row)).length = (S a).length ∧ IW a b j r0 (pre ++ [k]).length (row.getD k.toNat 0) (turnV a b j k d r row) (turnV a b j k d r row) (row.set k.toNat (turnV a b j k d r row)) := by
  obtain ⟨h1, h2⟩ := hW
  have hl : (row.set k.toNat (turnV a b j k d r row)).length = a.length := by rw [List.length_set]; exact h1
  refine ⟨by rw [S_len]; exact hl, hl, ?_⟩
  have e : (pre ++ [k]).length = pre.length + 1 := by simp
  have ek : k.toNat = pre.length := by omega
  rw [e, inn, h2, inStep]
  rw [turnV_eq hj0 hj (by omega) hka] at hlt ⊢
  rw [ek] at hlt ⊢
  simp only [if_pos hlt]
theorem iw_turnB {a b : List Nat} {j k d r m : Int} {r0 row pre : List Int} (hW : IW a b j r0 pre.length d r m row) (hk : k = pre.length) (hka : k < a.length) (hj0 : 0 ≤ j) (hj : j < b.length) (hlt : ¬ turnV a b j k d r row < m) :
    (row.set k.toNat (turnV a b j k d r row)).length = (S a).length ∧ IW a b j r0 (pre ++ [k]).length (row.getD k.toNat 0) (turnV a b j k d r row) m (row.set k.toNat (turnV a b j k d r row)) := by
  obtain ⟨h1, h2⟩ := hW
  have hl : (row.set k.toNat (turnV a b j k d r row)).length = a.length := by rw [List.length_set]; exact h1
  refine ⟨by rw [S_len]; exact hl, hl, ?_⟩
  have e : (pre ++ [k]).length = pre.length + 1 := by simp
  have ek : k.toNat = pre.length := by omega
  rw [e, inn, h2, inStep]
  rw [turnV_eq hj0 hj (by omega) hka] at hlt ⊢
  rw [ek] at hlt ⊢
  simp only [if_neg hlt]
theorem ow_turn {a b : List Nat} {mc j res d r m : Int} {r0 row pre : List Int} {n : Nat} (hO : OW a b mc pre.length res r0) (hI : IW a b j r0 n d r m row) (hn : n = a.length) (hj : j = pre.length) (hm : ¬ mc < m) :
    row.length = (S a).length ∧ OW a b mc (pre ++ [j]).length r row := by
  obtain ⟨h1, h2⟩ := hI
  refine ⟨by rw [S_len]; exact h1, h1, ?_⟩
  have e : (pre ++ [j]).length = pre.length + 1 := by simp
  have ej : j.toNat = pre.length := by omega
  rw [ej, hn, hj] at h2
  rw [e, outt, hO.2]
  simp only [h2]
  simp [hm]
theorem outt_false {a b : List Nat} {mc : Int} {row : List Int} {n : Nat} (h : (outt a b mc row n).2.2 = false) : ∀ k, (outt a b mc row (n + k)).2.2 = false := by
  intro k
  induction k with
  | zero => exact h
  | succ k ih =>
    rw [← Nat.add_assoc, outt]
    simp only [ih, Bool.false_and]
theorem ow_early {a b : List Nat} {mc j res d r m : Int} {r0 row pre : List Int} {n : Nat} (hO : OW a b mc pre.length res r0) (hI : IW a b j r0 n d r m row) (hn : n = a.length) (hj : j = pre.length) (hjb : pre.length < b.length) (hm : mc < m) :
    mc + 1 = levCore a b mc := by
  obtain ⟨h1, h2⟩ := hI
  have ej : j.toNat = pre.length := by omega
  rw [ej, hn, hj] at h2
  have hf : (outt a b mc (row0 a.length) (pre.length + 1)).2.2 = false := by
    rw [outt, hO.2]
    simp only [h2]
    simp [hm]
  have := outt_false hf (b.length - (pre.length + 1))
  rw [show pre.length + 1 + (b.length - (pre.length + 1)) = b.length by omega] at this
  unfold levCore
  simp only [this]
  simp
theorem ow_end {a b : List Nat} {mc res : Int} {row : List Int} {n : Nat} (hO : OW a b mc n res row) (hn : n = b.length) : res = levCore a b mc := by
  unfold levCore
  rw [← hn, hO.2]
  rfl
end Mine
end
section
open PySem PySem.W PyProof.Rows PySem.Calls
namespace Mine
/-! a loop over a list of the call's own: what a turn leaves -/
def SEnd {σ : Type} (h₀ : Heap) (L : Addr) (news own : List (Addr × Obj)) (x : Str) (ps : σ → List (Str × Value)) (stored : List Str) (m₀ : Str → Option Value) (P : σ → Prop) (s : Shared) (s₂ : Shared) : Prop :=
  ∃ (c : σ) (h' : Heap) (tk : Nat) (m' : Str → Option Value) (news' : List (Addr × Obj)), s₂ = { s with heap := h', toks := tk } ∧ Fr h₀ L h' m' ∧ News h₀ L h' news' ∧ (∀ p ∈ news ++ own, p ∈ news') ∧
    (∀ p ∈ ps c, m' p.1 = some p.2) ∧ (∀ z, z ≠ x → (∀ p ∈ ps c, z ≠ p.1) → stored.contains z = false → m' z = m₀ z) ∧ P c
def SPost {σ : Type} (h₀ : Heap) (L : Addr) (news own : List (Addr × Obj)) (x : Str) (ps : σ → List (Str × Value)) (stored : List Str) (m₀ : Str → Option Value) (P : σ → Prop) (s : Shared) (Q : Flow → Shared → Prop) (f : Flow) (s₂ : Shared) : Prop :=
  match f with
  | .ret v => Q (.ret v) s₂
  | .brk => Q .next s₂
  | _ => SEnd h₀ L news own x ps stored m₀ P s s₂
theorem sEnd {σ : Type} {h₀ : Heap} {L : Addr} {news own : List (Addr × Obj)} {x : Str} {ps : σ → List (Str × Value)} {stored : List Str} {m₀ : Str → Option Value} {P : σ → Prop} {s : Shared} (c : σ) {h' : Heap} {tk : Nat} {m' : Str → Option Value} {news' : List (Addr × Obj)}
    (F : Fr h₀ L h' m') (N : News h₀ L h' news') (hn : ∀ p ∈ news ++ own, p ∈ news') (hk : ∀ p ∈ ps c, m' p.1 = some p.2) (hr : ∀ z, z ≠ x → (∀ p ∈ ps c, z ≠ p.1) → stored.contains z = false → m' z = m₀ z) (hp : P c) :
    SEnd h₀ L news own x ps stored m₀ P s { s with heap := h', toks := tk } := ⟨c, h', tk, m', news', rfl, F, N, hn, hk, hr, hp⟩
section
variable {prog : Program} {w : World} {A : Around} {E : Value → Shared → Prop} {s : Shared} {env : Env} {h₀ : Heap} {x : Str} {body : List Stmt} {Q : Flow → Shared → Prop} {m₀ : Str → Option Value} {news : List (Addr × Obj)} {l : Addr} {vs : List Value} {nn : Nat}
theorem loopV {σ : Type} (ps : σ → List (Str × Value)) (stored : List Str) (P : Nat → σ → Prop) (c₀ : σ)
    (hh : A.handled = none) (hl : (l, W.listOf vs.toArray nn) ∈ news) (F : Fr h₀ env.locals s.heap m₀) (N : News h₀ env.locals s.heap news) (hk : ∀ p ∈ ps c₀, m₀ p.1 = some p.2) (hp : P 0 c₀)
    (turn : ∀ (c : σ) i v (u : Str → Option Value) h tk own, vs[i]? = some v → OwnOff own (news.map (·.1)) → P i c →
      Fr h₀ env.locals h (fun y => if y = x then some v else kstB (fun z => if stored.contains z then u z else m₀ z) (ps c) y) → News h₀ env.locals h (news ++ own) →
      wpAny (model prog w) A (execs body env) (SPost h₀ env.locals news own x ps stored m₀ (P (i + 1)) { s with heap := h, toks := tk } Q) E { s with heap := h, toks := tk })
    (done : ∀ (c : σ) (u : Str → Option Value) h tk, P vs.length c → Fr h₀ env.locals h (fun y => if y = x then u y else kstB (fun z => if stored.contains z then u z else m₀ z) (ps c) y) → News h₀ env.locals h news → Q .next { s with heap := h, toks := tk }) :
    wpAny (model prog w) A (pyIter (.ref l)) (fun it s₂ => LoopAtV prog w A h₀ env x body Q E it s₂) E s := by
  refine kdl_iter (fun i m nx => nx = news ∧ ∃ c : σ, (∀ p ∈ ps c, m p.1 = some p.2) ∧ (∀ z, z ≠ x → (∀ p ∈ ps c, z ≠ p.1) → stored.contains z = false → m z = m₀ z) ∧ P i c) hh hl F N ⟨rfl, c₀, hk, fun _ _ _ _ => rfl, hp⟩ ?_ ?_
  · rintro i v m₁ nx h tk own hv hoff hmem ⟨rfl, c, h1, h2, hp'⟩ F₁ N₁
    refine wpAny_mono (turn c i v m₁ h tk own hv hoff hp' (kst_fr' h1 h2 F₁) N₁) (fun f s₂ p => ?_) fun _ _ e => e
    have up : SEnd h₀ env.locals nx own x ps stored m₀ (P (i + 1)) { s with heap := h, toks := tk } s₂ → InvEndG h₀ env.locals (fun m' nx' => (l, W.listOf vs.toArray nn) ∈ nx' ∧ nx' = nx ∧ ∃ c : σ, (∀ p ∈ ps c, m' p.1 = some p.2) ∧ (∀ z, z ≠ x → (∀ p ∈ ps c, z ≠ p.1) → stored.contains z = false → m' z = m₀ z) ∧ P (i + 1) c) own { s with heap := h, toks := tk } s₂ := by
      rintro ⟨c', h', tk', m', news', rfl, F', N', hn, hk', hr', hP'⟩
      exact ⟨h', tk', m', news', nx, rfl, F', N', fun p hp => hn p (List.mem_append.mpr (.inl hp)), fun p hp => hn p (List.mem_append.mpr (.inr hp)), hoff, hl, rfl, c', hk', hr', hP'⟩
    cases f with
    | ret v => exact p
    | brk => exact p
    | next => exact up p
    | cont => exact up p
  · rintro m₁ nx h tk ⟨rfl, c, h1, h2, hp'⟩ F₁ N₁
    exact done c m₁ h tk hp' (kst_frOut h1 h2 F₁) N₁
where
  kst_fr' {σ : Type} {ps : σ → List (Str × Value)} {c : σ} {h : Heap} {L : Addr} {stored : List Str} {m₁ : Str → Option Value} {v : Value} (h1 : ∀ p ∈ ps c, m₁ p.1 = some p.2) (h2 : ∀ z, z ≠ x → (∀ p ∈ ps c, z ≠ p.1) → stored.contains z = false → m₁ z = m₀ z)
    (F : Fr h₀ L h (fun y => if y = x then some v else m₁ y)) : Fr h₀ L h (fun y => if y = x then some v else kstB (fun z => if stored.contains z then m₁ z else m₀ z) (ps c) y) := kst_fr h1 h2 F
/-- over texts -/
theorem loopS {σ : Type} {ys : List Str} (ps : σ → List (Str × Value)) (stored : List Str) (P : List Str → σ → Prop) (c₀ : σ)
    (hh : A.handled = none) (hl : (l, W.listOf vs.toArray nn) ∈ news) (hi : StrsAre vs ys) (F : Fr h₀ env.locals s.heap m₀) (N : News h₀ env.locals s.heap news) (hk : ∀ p ∈ ps c₀, m₀ p.1 = some p.2) (hp : P [] c₀)
    (turn : ∀ (c : σ) pre y post t (u : Str → Option Value) h tk own, ys = pre ++ y :: post → OwnOff own (news.map (·.1)) → P pre c →
      Fr h₀ env.locals h (fun z => if z = x then some (.str y t) else kstB (fun z => if stored.contains z then u z else m₀ z) (ps c) z) → News h₀ env.locals h (news ++ own) →
      wpAny (model prog w) A (execs body env) (SPost h₀ env.locals news own x ps stored m₀ (P (pre ++ [y])) { s with heap := h, toks := tk } Q) E { s with heap := h, toks := tk })
    (done : ∀ (c : σ) (u : Str → Option Value) h tk, P ys c → Fr h₀ env.locals h (fun y => if y = x then u y else kstB (fun z => if stored.contains z then u z else m₀ z) (ps c) y) → News h₀ env.locals h news → Q .next { s with heap := h, toks := tk }) :
    wpAny (model prog w) A (pyIter (.ref l)) (fun it s₂ => LoopAtV prog w A h₀ env x body Q E it s₂) E s := by
  have key : ∀ {vs : List Value} {ys : List Str}, StrsAre vs ys → vs.length = ys.length ∧ ∀ (i : Nat) (v : Value), vs[i]? = some v → ∃ (y : Str) (t : Tok), ys[i]? = some y ∧ v = Value.str y t := by
    intro vs ys h
    induction h with
    | nil => exact ⟨rfl, fun i v e => by simp at e⟩
    | cons y t _ ih =>
      refine ⟨by simp [ih.1], fun i v e => ?_⟩
      cases i with
      | zero => simp at e; exact ⟨y, t, rfl, e.symm⟩
      | succ i => simpa using ih.2 i v (by simpa using e)
  obtain ⟨hlen, hat⟩ := key hi
  refine loopV ps stored (fun i c => P (ys.take i) c) c₀ hh hl F N hk (by simpa using hp) ?_ ?_
  · intro c i v u h tk own hv hoff hP F₁ N₁
    obtain ⟨y, t, hy, rfl⟩ := hat i v hv
    have hs : ys.take (i + 1) = ys.take i ++ [y] := by simp [List.take_add_one, hy]
    have e : ys = ys.take i ++ y :: ys.drop (i + 1) := by
      have ht := List.take_append_drop (i + 1) ys
      rw [hs, List.append_assoc] at ht
      exact ht.symm
    rw [hs]
    exact turn c _ y _ t u h tk own e hoff hP F₁ N₁
  · intro c u h tk hP
    rw [hlen, List.take_length] at hP
    exact done c u h tk hP
end
section
variable {prog : Program} {w : World} {A : Around} {E : Value → Shared → Prop} {s : Shared} {h₀ : Heap} {L : Addr} {m : Str → Option Value} {news : List (Addr × Obj)} {x y : Str} {t u : Tok} {Q : Value → Shared → Prop}
/-- a text split -/
theorem split_c {ys : List Str} (hF : Fr h₀ L s.heap m) (hN : News h₀ L s.heap news) (hy : (y.length == 0) = false) (hsp : Txt.split x y = ys)
    (h : ∀ D vs h' k, Fr h₀ L h' m → News h₀ L h' ((D, W.listOf (List.toArray vs) 0) :: news) → (∀ p ∈ news, p.1 < D) → StrsAre vs ys → Q (.ref D) { s with heap := h', toks := k })
    (hsz : x.length + 2 ≤ sizeLine) : wpAny (model prog w) A (call (.builtin "str.split") [.str x t, .str y u]) Q E s := by
  refine splitN1 hF hN hy (fun l h' k e F N => ?_) hsz
  refine h s.heap.objs.size (strValues l) h' k F N (fun p hp => Heap.lt_size (hN p hp).1) ?_
  have := strsAre_of_values l
  rw [e, hsp] at this
  exact this
theorem gives_find4 (x y : Str) (i : Int) (t u v z : Tok) : Gives (Builtin.«str.find» ⟨[.str x t, .str y u, .int i v, .int x.length z], []⟩) (.int (Txt.find3 x y i)) := by
  show Gives (match Builtin.Str.occurrences x y (fromIndex x.length i) (min (max 0 (if ((x.length : Nat) : Int) < 0 then ((x.length : Nat) : Int) + x.length else (x.length : Nat))).toNat x.length) 1 with | k :: _ => retInt k | [] => (do rule "str.find.not-found"; retInt (-1))) _
  have e : min (max 0 (if ((x.length : Nat) : Int) < 0 then ((x.length : Nat) : Int) + x.length else (x.length : Nat))).toNat x.length = x.length := by
    rw [if_neg (by omega)]
    omega
  rw [e]
  unfold Txt.find3
  cases Builtin.Str.occurrences x y (fromIndex x.length i) x.length 1 with
  | nil => exact .rule (.of_eq rfl)
  | cons k _ => exact .of_eq rfl
theorem find4_c {i j : Int} {v z : Tok} (hj : j = x.length) (hq : Q (.int (Txt.find3 x y i) s.toks) { s with toks := s.toks + 1 }) : wpAny (model prog w) A (call (.builtin "str.find") [.str x t, .str y u, .int i v, .int j z]) Q E s := by
  subst hj
  exact call_gives F.slot_str_find (typeIs_str _ _ _) F.entry_str_find (F.args_str_find_4 _ _ _ _) (gives_find4 x y i t u v z) hq
end
end Mine
namespace Mine
/-- the fit, piece by piece -/
def ellF (x : Str) : List Str → Int → Bool
  | [], _ => true
  | w :: ws, p => if Txt.find3 x w p < 0 then false else ellF x ws (Txt.find3 x w p + w.length)
def EW (x : Str) (ys pre : List Str) (p : Int) : Prop := ∃ post, ys = pre ++ post ∧ ellF x post p = ellF x ys 0
theorem ew_start (x : Str) (ys : List Str) : EW x ys [] 0 := ⟨ys, rfl, rfl⟩
theorem ew_post {x : Str} {ys pre post : List Str} {p : Int} (h : EW x ys pre p) (e : ys = pre ++ post) : ellF x post p = ellF x ys 0 := by
  obtain ⟨q, e', h'⟩ := h
  rw [e] at e'
  rw [List.append_cancel_left e']
  exact h'
theorem ew_no {x y : Str} {ys pre post : List Str} {p : Int} (h : EW x ys pre p) (e : ys = pre ++ y :: post) (hn : Txt.find3 x y p < 0) : false = ellF x ys 0 := by
  have := ew_post h e
  rw [ellF, if_pos hn] at this
  exact this
theorem ew_go {x y : Str} {ys pre post : List Str} {p : Int} (h : EW x ys pre p) (e : ys = pre ++ y :: post) (hn : ¬ Txt.find3 x y p < 0) : EW x ys (pre ++ [y]) (Txt.find3 x y p + y.length) := by
  have := ew_post h e
  rw [ellF, if_neg hn] at this
  exact ⟨post, by rw [e]; simp, this⟩
theorem ew_end {x : Str} {ys : List Str} {p : Int} (h : EW x ys ys p) : true = ellF x ys 0 := by
  have := ew_post h (post := []) (by simp)
  exact this
abbrev E3 : Str := Str.ofString "..."
theorem strs_ends {vs : List Value} {mid : List Str} (h : StrsAre vs (Str.empty :: (mid ++ [Str.empty]))) : ∃ t0 t1 ms, vs = Value.str Str.empty t0 :: (ms ++ [Value.str Str.empty t1]) := by
  have snoc : ∀ {vs : List Value} {mid : List Str} {y : Str}, StrsAre vs (mid ++ [y]) → ∃ t ms, vs = ms ++ [Value.str y t] := by
    intro vs mid
    induction mid generalizing vs with
    | nil =>
      intro y h
      cases h with
      | cons y t h' => cases h'; exact ⟨t, [], rfl⟩
    | cons a r ih =>
      intro y h
      cases h with
      | cons a t h' =>
        obtain ⟨t', ms, e⟩ := ih h'
        exact ⟨t', Value.str a t :: ms, by rw [e]; rfl⟩
  cases h with
  | cons y t h' =>
    obtain ⟨t', ms, e⟩ := snoc h'
    exact ⟨t, t', ms, by rw [e]⟩
end Mine
namespace Mine
section
variable {prog : Program} {w : World} {A : Around} {E : Value → Shared → Prop} {s : Shared} {h₀ : Heap} {L l : Addr} {news : List (Addr × Obj)} {Q : Value → Shared → Prop} {vs ms : List Value} {nn n : Nat} {v v0 : Value} {u : Tok} {value slice : Expr}
theorem len_ws (N : News h₀ L s.heap news) (hm : (l, W.listOf vs.toArray nn) ∈ news) (hn : vs.length = n) (hfit : n ≤ 1048576)
    (h : Q (.int n (s.toks + 1)) { s with toks := s.toks + 1 + 1 }) : wpAny (model prog w) A (call (.builtin "len") [.ref l]) Q E s := by
  subst hn
  have hl := News.isList N hm
  refine len_list hl (by simp; omega) ?_
  simpa using h
theorem item_ws0 (N : News h₀ L s.heap news) (hm : (l, W.listOf (v :: vs).toArray nn) ∈ news) (h : Q v s)
    (hs : subscripted slice false (.ref l) (.int 0 u) = operate [.ref l, .int 0 u] (getItem (.ref l) (.int 0 u)) := by with_unfolding_all rfl) (hg : ∀ r, letTemporaryGo value (.ref l) r = pure () := by intro _; with_unfolding_all rfl) :
    wpAny (model prog w) A (subscriptTail value slice (.ref l) (.int 0 u)) Q E s :=
  item_list (News.isList N hm) (by decide) (by decide) (by simp) h hs hg
theorem item_wsL (N : News h₀ L s.heap news) (hm : (l, W.listOf (v0 :: (ms ++ [v])).toArray nn) ∈ news) (h : Q v s)
    (hs : subscripted slice false (.ref l) (.int (-1) u) = operate [.ref l, .int (-1) u] (getItem (.ref l) (.int (-1) u)) := by with_unfolding_all rfl) (hg : ∀ r, letTemporaryGo value (.ref l) r = pure () := by intro _; with_unfolding_all rfl) :
    wpAny (model prog w) A (subscriptTail value slice (.ref l) (.int (-1) u)) Q E s :=
  item_last (vi := v0 :: ms) (News.isList N hm) h hs hg
end
end Mine
namespace Mine
theorem piece_len {mid pre post ys : List Str} {y : Str} (h : ∀ y ∈ mid, y.length ≤ 100) (e : Str.empty :: (mid ++ [Str.empty]) = pre ++ y :: post) : y.length ≤ 100 := by
  have : y ∈ Str.empty :: (mid ++ [Str.empty]) := by rw [e]; simp
  rcases List.mem_cons.mp this with rfl | h'
  · decide
  · rcases List.mem_append.mp h' with h' | h'
    · exact h y h'
    · rw [List.mem_singleton.mp h']; decide
end Mine
end
section
open PySem PySem.W PyProof.Rows PySem.Calls
namespace Mine
/-! comprehensions: one clause over any source, two clauses -/
section
variable {prog : Program} {w : World} {A : Around} {R : Result → Shared → Prop} {s : Shared}
abbrev lc1 (elt t1 i1 : Expr) (scope : Scope) (pos : Pos) : Expr := .ListComp elt [⟨t1, i1, [], 0⟩] scope pos
abbrev lc2 (elt t1 i1 t2 i2 : Expr) (scope : Scope) (pos : Pos) : Expr := .ListComp elt [⟨t1, i1, [], 0⟩, ⟨t2, i2, [], 0⟩] scope pos
theorem compTurn_in (elt t1 i1 t2 i2 : Expr) (scope : Scope) (pos : Pos) (it acc : Value) (env : Env) :
    compTurn (lc2 elt t1 i1 t2 i2 scope pos) 1 it acc env = (standAt i2.pos >>= fun _ => pyNext it >>= fun r => match r with
      | none => pure (.done .next)
      | some v => letOwnedTupleGo t2 it v >>= fun _ => assign t2 env v >>= fun _ =>
        (eval elt env >>= fun x => call (.builtin "list.append") [acc, x] >>= fun _ => pure ()) >>= fun _ =>
          again (.compLoop (lc2 elt t1 i1 t2 i2 scope pos) 1 it acc env)) := by rfl
theorem compTurn_out (elt t1 i1 t2 i2 : Expr) (scope : Scope) (pos : Pos) (it acc : Value) (env : Env) :
    compTurn (lc2 elt t1 i1 t2 i2 scope pos) 0 it acc env = (standAt i1.pos >>= fun _ => pyNext it >>= fun r => match r with
      | none => pure (.done .next)
      | some v => letOwnedTupleGo t1 it v >>= fun _ => assign t1 env v >>= fun _ =>
        eval i2 env >>= fun x => standAt i2.pos >>= fun _ => foldedSetIterable i2 env x >>= fun x =>
          holding [x] (pyIter x) >>= fun it2 => runOwn (.compStart (lc2 elt t1 i1 t2 i2 scope pos) 1 it2 acc env) env >>= fun _ =>
          again (.compLoop (lc2 elt t1 i1 t2 i2 scope pos) 0 it acc env)) := by rfl
/-- a turn of a last clause -/
def TurnLast (prog : Program) (w : World) (A : Around) (it acc : Value) (tgt elt : Expr) (env : Env) (I : Nat → Shared → Prop) (R : Result → Shared → Prop) : Prop :=
  ∀ n s, I n s → wpAny (model prog w) A (pyNext it) (fun r s₁ => match r with
      | none => R (.ok .next) s₁
      | some v => wpAny (model prog w) A (letOwnedTupleGo tgt it v >>= fun _ => assign tgt env v) (fun _ s₂ => wpAny (model prog w) A (eval elt env) (fun x s₃ =>
          wpAny (model prog w) A (call (.builtin "list.append") [acc, x]) (fun _ s₄ => ∃ m, m < n ∧ I m s₄) (notedBy (model prog w) A env fun e s' => R (.error e) s') s₃)
            (notedBy (model prog w) A env fun e s' => R (.error e) s') s₂) (notedBy (model prog w) A env fun e s' => R (.error e) s') s₁) (notedBy (model prog w) A env fun e s' => R (.error e) s') s
theorem compLoop_in {elt t1 i1 t2 i2 : Expr} {scope : Scope} {pos : Pos} {it acc : Value} {env : Env} {I : Nat → Shared → Prop} (turn : TurnLast prog w A it acc t2 elt env I R) (n : Nat) (h : I n s) :
    codeAny (model prog w) A (.compLoop (lc2 elt t1 i1 t2 i2 scope pos) 1 it acc env) R s := by
  refine codeAny_loop rfl I (fun n s hI => ?_) n h
  show wpAny _ A ((compTurn (lc2 elt t1 i1 t2 i2 scope pos) 1 it acc env).onRaise (fun x => do noteFrame x env; theTreesLotGoes x)) _ _ s
  refine wpAny_noted ?_
  rw [compTurn_in]
  refine wpAny_bind (wpAny_standAt (wpAny_bind (wpAny_mono (turn n s hI) (fun r s₁ h₁ => ?_) fun _ _ h' => h')))
  cases r with
  | none => exact wpAny_pure h₁
  | some v =>
    have e : ∀ (k : Unit → Sem Fin), (letOwnedTupleGo t2 it v >>= fun _ => assign t2 env v >>= k) = ((letOwnedTupleGo t2 it v >>= fun _ => assign t2 env v) >>= k) := fun k => (Sem.bind_assoc _ _ _).symm
    show wpAny _ A (letOwnedTupleGo t2 it v >>= fun _ => assign t2 env v >>= _) _ _ s₁
    rw [e]
    refine wpAny_bind (wpAny_mono h₁ (fun _ s₃ h₃ => ?_) fun _ _ h' => h')
    refine wpAny_bind (wpAny_bind (wpAny_mono h₃ (fun x s₄ h₄ => wpAny_bind (wpAny_mono h₄ (fun _ s₅ h₅ => wpAny_pure (wpAny_pure ⟨rfl, h₅⟩)) fun _ _ h' => h')) fun _ _ h' => h'))
theorem compLoop_one {elt t1 i1 : Expr} {scope : Scope} {pos : Pos} {it acc : Value} {env : Env} {I : Nat → Shared → Prop} (turn : TurnLast prog w A it acc t1 elt env I R) (n : Nat) (h : I n s) :
    codeAny (model prog w) A (.compLoop (lc1 elt t1 i1 scope pos) 0 it acc env) R s := by
  refine codeAny_loop rfl I (fun n s hI => ?_) n h
  show wpAny _ A ((compTurn (lc1 elt t1 i1 scope pos) 0 it acc env).onRaise (fun x => do noteFrame x env; theTreesLotGoes x)) _ _ s
  refine wpAny_noted ?_
  rw [compTurn_list1]
  refine wpAny_bind (wpAny_standAt (wpAny_bind (wpAny_mono (turn n s hI) (fun r s₁ h₁ => ?_) fun _ _ h' => h')))
  cases r with
  | none => exact wpAny_pure h₁
  | some v =>
    have e : ∀ (k : Unit → Sem Fin), (letOwnedTupleGo t1 it v >>= fun _ => assign t1 env v >>= k) = ((letOwnedTupleGo t1 it v >>= fun _ => assign t1 env v) >>= k) := fun k => (Sem.bind_assoc _ _ _).symm
    show wpAny _ A (letOwnedTupleGo t1 it v >>= fun _ => assign t1 env v >>= _) _ _ s₁
    rw [e]
    refine wpAny_bind (wpAny_mono h₁ (fun _ s₃ h₃ => ?_) fun _ _ h' => h')
    refine wpAny_bind (wpAny_bind (wpAny_mono h₃ (fun x s₄ h₄ => wpAny_bind (wpAny_mono h₄ (fun _ s₅ h₅ => wpAny_pure (wpAny_pure ⟨rfl, h₅⟩)) fun _ _ h' => h')) fun _ _ h' => h'))
theorem compStart_in {elt t1 i1 t2 i2 : Expr} {scope : Scope} {pos : Pos} {it acc : Value} {env : Env}
    (h0 : codeAny (model prog w) A (.compLoop (lc2 elt t1 i1 t2 i2 scope pos) 1 it acc env) R s)
    (h : wpAny (model prog w) A (pyIter it) (fun it' s' => codeAny (model prog w) A (.compLoop (lc2 elt t1 i1 t2 i2 scope pos) 1 it' acc env) R s') (notedBy (model prog w) A env fun x s' => R (.error x) s') s) :
    codeAny (model prog w) A (.compStart (lc2 elt t1 i1 t2 i2 scope pos) 1 it acc env) R s := by
  refine codeAny_of_tree ?_
  show wpAny _ _ ((compStart (lc2 elt t1 i1 t2 i2 scope pos) 1 it acc env).onRaise (fun x => do noteFrame x env; standAt theWindowsPlace)) _ _ s
  refine wpAny_notedAt ?_
  unfold compStart
  show wpAny _ _ (ask >>= _) _ _ s
  refine wpAny_bind (wpAny_askSetting (wpAny_ite ?_))
  split
  · first
      | exact wpAny_bind (wpAny_pure (wpAny_pure (And.intro rfl h0)))
      | exact wpAny_pure (And.intro rfl h0)
  · first
      | exact wpAny_bind (wpAny_rule (wpAny_bind (wpAny_standAt (wpAny_bind (wpAny_mono h (fun it' s' h' => wpAny_pure (And.intro rfl h')) fun _ _ x => x)))))
      | (refine wpAny_bind (wpAny_rule ?_); show wpAny _ _ (standAt i2.pos >>= _) _ _ s; exact wpAny_bind (wpAny_standAt (wpAny_bind (wpAny_mono h (fun it' s' h' => wpAny_pure (And.intro rfl h')) fun _ _ x => x))))
/-- a turn of the first of two clauses -/
def TurnOut (prog : Program) (w : World) (A : Around) (it acc : Value) (elt t1 i1 t2 i2 : Expr) (scope : Scope) (pos : Pos) (env : Env) (I : Nat → Shared → Prop) (R : Result → Shared → Prop) : Prop :=
  ∀ n s, I n s → wpAny (model prog w) A (pyNext it) (fun r s₁ => match r with
      | none => R (.ok .next) s₁
      | some v => wpAny (model prog w) A (letOwnedTupleGo t1 it v >>= fun _ => assign t1 env v) (fun _ s₂ => wpAny (model prog w) A (eval i2 env) (fun x s₃ =>
          wpAny (model prog w) A (pyIter x) (fun it2 s₄ => codeAny (model prog w) A (.compStart (lc2 elt t1 i1 t2 i2 scope pos) 1 it2 acc env)
            (fun r s₅ => match r with | .ok _ => ∃ m, m < n ∧ I m s₅ | .error e => cameBackBy (model prog w) A env (notedBy (model prog w) A env fun e s' => R (.error e) s') e s₅) s₄)
            (notedBy (model prog w) A env fun e s' => R (.error e) s') s₃)
            (notedBy (model prog w) A env fun e s' => R (.error e) s') s₂) (notedBy (model prog w) A env fun e s' => R (.error e) s') s₁) (notedBy (model prog w) A env fun e s' => R (.error e) s') s
theorem compLoop_out {elt t1 i1 t2 i2 : Expr} {scope : Scope} {pos : Pos} {it acc : Value} {env : Env} {I : Nat → Shared → Prop} (hs : ∀ x, foldedSetIterable i2 env x = pure x)
    (turn : TurnOut prog w A it acc elt t1 i1 t2 i2 scope pos env I R) (n : Nat) (h : I n s) :
    codeAny (model prog w) A (.compLoop (lc2 elt t1 i1 t2 i2 scope pos) 0 it acc env) R s := by
  refine codeAny_loop rfl I (fun n s hI => ?_) n h
  show wpAny _ A ((compTurn (lc2 elt t1 i1 t2 i2 scope pos) 0 it acc env).onRaise (fun x => do noteFrame x env; theTreesLotGoes x)) _ _ s
  refine wpAny_noted ?_
  rw [compTurn_out]
  refine wpAny_bind (wpAny_standAt (wpAny_bind (wpAny_mono (turn n s hI) (fun r s₁ h₁ => ?_) fun _ _ h' => h')))
  cases r with
  | none => exact wpAny_pure h₁
  | some v =>
    have e : ∀ (k : Unit → Sem Fin), (letOwnedTupleGo t1 it v >>= fun _ => assign t1 env v >>= k) = ((letOwnedTupleGo t1 it v >>= fun _ => assign t1 env v) >>= k) := fun k => (Sem.bind_assoc _ _ _).symm
    show wpAny _ A (letOwnedTupleGo t1 it v >>= fun _ => assign t1 env v >>= _) _ _ s₁
    rw [e]
    refine wpAny_bind (wpAny_mono h₁ (fun _ s₂ h₂ => ?_) fun _ _ h' => h')
    refine wpAny_bind (wpAny_mono h₂ (fun x s₃ h₃ => ?_) fun _ _ h' => h')
    refine wpAny_bind (wpAny_standAt (wpAny_bind (wpAny_of_eq (hs x) ?_)))
    refine wpAny_bind (wpAny_holding (wpAny_mono h₃ (fun it2 s₄ h₄ => ?_) fun _ _ h' => h'))
    refine wpAny_bind (wpAny_runOwn (codeAny_mono h₄ fun r s₅ hr => ?_))
    cases r with
    | ok f => exact wpAny_pure ⟨rfl, hr⟩
    | error e => exact hr
end
/-- what holds while a comprehension runs: the frame, its own names, its list, the ledger -/
structure Held (h₀ : Heap) (L : Addr) (m : Str → Option Value) (C D I : Addr) (Z : Heap → Prop) (h : Heap) (mC : Str → Option Value) (ys : List Value) (nx : List (Addr × Obj)) : Prop where
  fr : Fr h₀ L h m
  ns : h.Ns C mC
  led : News h₀ L h nx
  lst : h.get? D = some (LCg.lst ys)
  sep : ∀ p ∈ nx, p.1 ≠ C ∧ p.1 ≠ D ∧ p.1 ≠ I
  z : Z h
/-- the fixed facts of the addresses -/
structure Apart (h₀ : Heap) (L : Addr) (C D I : Addr) (Z : Heap → Prop) : Prop where
  cl : C ≠ L
  dl : D ≠ L
  il : I ≠ L
  cd : C ≠ D
  ci : C ≠ I
  di : D ≠ I
  c0 : h₀.get? C = none
  d0 : h₀.get? D = none
  i0 : h₀.get? I = none
  keep : ∀ h h', Z h → (∀ b o, b ≠ C → b ≠ D → b ≠ I → h.get? b = some o → h'.get? b = some o) → Z h'
section
variable {h₀ : Heap} {L : Addr} {m : Str → Option Value} {C D I : Addr} {Z : Heap → Prop} {h h' : Heap} {mC mC' : Str → Option Value} {ys : List Value} {nx nx' : List (Addr × Obj)}
theorem Held.atI (x : Held h₀ L m C D I Z h mC ys nx) (a : Apart h₀ L C D I Z) (hk : ∀ b o, b ∉ [I] → h.get? b = some o → h'.get? b = some o) : Held h₀ L m C D I Z h' mC ys nx where
  fr := LCg.fr_but x.fr hk (Ne.symm a.il) a.i0
  ns := x.ns.at' fun o e => hk C o (by simpa using a.ci) e
  led := LCg.news_but x.led hk fun p hp => (x.sep p hp).2.2
  lst := hk D _ (by simpa using a.di) x.lst
  sep := x.sep
  z := a.keep _ _ x.z fun b o _ _ hb e => hk b o (by simpa using hb) e
theorem Held.atC (x : Held h₀ L m C D I Z h mC ys nx) (a : Apart h₀ L C D I Z) (hk : ∀ b o, b ≠ C → h.get? b = some o → h'.get? b = some o) (hn : h'.Ns C mC') : Held h₀ L m C D I Z h' mC' ys nx where
  fr := LCg.fr_but x.fr (fun b o hb e => hk b o (by simpa using hb) e) (Ne.symm a.cl) a.c0
  ns := hn
  led := LCg.news_but x.led (fun b o hb e => hk b o (by simpa using hb) e) fun p hp => (x.sep p hp).1
  lst := hk D _ (Ne.symm a.cd) x.lst
  sep := x.sep
  z := a.keep _ _ x.z fun b o hb _ _ e => hk b o hb e
theorem Held.ext (x : Held h₀ L m C D I Z h mC ys nx) (a : Apart h₀ L C D I Z) (hI : ∃ o, h.get? I = some o) (hk : ∀ b o, h.get? b = some o → h'.get? b = some o) (N : News h₀ L h' nx') (hn : ∀ p ∈ nx', p ∈ nx ∨ h.objs.size ≤ p.1) : Held h₀ L m C D I Z h' mC ys nx' where
  fr := x.fr.keeps hk
  ns := x.ns.at' fun o e => hk C o e
  led := N
  lst := hk D _ x.lst
  sep := fun p hp => by
    rcases hn p hp with q | q
    · exact x.sep p q
    · have hC := x.ns.lt
      have hD := Heap.lt_size x.lst
      obtain ⟨oI, eI⟩ := hI
      have hI' := Heap.lt_size eI
      exact ⟨fun e => absurd hC (by rw [← e]; exact Nat.not_lt.mpr q), fun e => absurd hD (by rw [← e]; exact Nat.not_lt.mpr q), fun e => absurd hI' (by rw [← e]; exact Nat.not_lt.mpr q)⟩
  z := a.keep _ _ x.z fun b o _ _ _ e => hk b o e
theorem Held.atD (x : Held h₀ L m C D I Z h mC ys nx) (a : Apart h₀ L C D I Z) {zs : List Value} (hs : Heap.SameBut D h h') (hD : h'.get? D = some (LCg.lst zs)) : Held h₀ L m C D I Z h' mC zs nx where
  fr := LCg.fr_but x.fr (fun b o hb e => hs.extBut b o (by simpa using hb) e) (Ne.symm a.dl) a.d0
  ns := x.ns.at' fun o e => hs.extBut C o a.cd e
  led := LCg.news_but x.led (fun b o hb e => hs.extBut b o (by simpa using hb) e) fun p hp => (x.sep p hp).2.1
  lst := hD
  sep := x.sep
  z := a.keep _ _ x.z fun b o _ hb _ e => hs.extBut b o hb e
end
section
variable {prog : Program} {w : World} {A : Around} {R : Result → Shared → Prop} {s : Shared} {h₀ : Heap} {L : Addr} {m : Str → Option Value} {C D I : Addr} {Z : Heap → Prop}
/-- the last clause's turns: T says of the clause's names, Rr of the list and the ledger -/
def LastInv (s : Shared) (h₀ : Heap) (L : Addr) (m : Str → Option Value) (C D I : Addr) (Z : Heap → Prop) (n : Nat) (St : Nat → Heap → Prop) (M : (Str → Option Value) → Prop) (Rr : Nat → List Value → List (Addr × Obj) → Prop) (k : Nat) (s' : Shared) : Prop :=
  ∃ j h tk mC ys nx, k = n + 1 - j ∧ j ≤ n ∧ s' = { s with heap := h, toks := tk } ∧ St j h ∧ Held h₀ L m C D I Z h mC ys nx ∧ M mC ∧ Rr j ys nx
theorem turn_last {fp : List Addr} {n : Nat} {P : Nat → Value → Prop} {St : Nat → Heap → Prop} {tgt elt : Expr} {env : Env} {M : (Str → Option Value) → Prop} {B : Value → (Str → Option Value) → Prop} {Rr : Nat → List Value → List (Addr × Obj) → Prop}
    (W : Walks prog w A I fp [I] n P St) (a : Apart h₀ L C D I Z) (hCf : C ∉ fp) (hDf : D ∉ fp) (hIo : ∀ i h, St i h → ∃ o, h.get? I = some o)
    (hlen : ∀ j ys nx, Rr j ys nx → ys.length ≤ 1048576)
    (hasg : ∀ j v h tk mC ys nx (E' : Value → Shared → Prop), j < n → P j v → M mC → Rr j ys nx → h.Ns C mC → News h₀ L h nx → St (j + 1) h → Z h →
      wpAny (model prog w) A (letOwnedTupleGo tgt (.ref I) v >>= fun _ => assign tgt env v) (fun _ s' => ∃ h' tk' mC', s' = { s with heap := h', toks := tk' } ∧ (∀ b o, b ≠ C → h.get? b = some o → h'.get? b = some o) ∧ h'.Ns C mC' ∧ M mC' ∧ B v mC') E' { s with heap := h, toks := tk })
    (helt : ∀ j v h tk mC ys nx (E' : Value → Shared → Prop), j < n → P j v → M mC → B v mC → Rr j ys nx → Fr h₀ L h m → h.Ns C mC → News h₀ L h nx → Z h →
      wpAny (model prog w) A (eval elt env) (fun y s' => ∃ h' tk' nx', s' = { s with heap := h', toks := tk' } ∧ (∀ b o, h.get? b = some o → h'.get? b = some o) ∧ News h₀ L h' nx' ∧ (∀ p ∈ nx', p ∈ nx ∨ h.objs.size ≤ p.1) ∧ Rr (j + 1) (ys ++ [y]) nx') E' { s with heap := h, toks := tk })
    (hdone : ∀ h tk mC ys nx, Held h₀ L m C D I Z h mC ys nx → M mC → Rr n ys nx → R (.ok .next) { s with heap := h, toks := tk }) :
    TurnLast prog w A (.ref I) (.ref D) tgt elt env (LastInv s h₀ L m C D I Z n St M Rr) R := by
  rintro k s' ⟨j, h, tk, mC, ys, nx, rfl, hj, rfl, hst, H, hM, hR⟩
  by_cases hlt : j < n
  · refine W.item j _ _ _ hlt hst fun v h₂ tk₂ hPv hst₂ hk₂ => ?_
    have H₂ := H.atI a hk₂
    refine wpAny_mono (hasg j v h₂ tk₂ mC ys nx _ hlt hPv hM hR H₂.ns H₂.led hst₂ H₂.z) (fun _ s₃ q => ?_) fun _ _ e => e
    obtain ⟨h₃, tk₃, mC', rfl, hk₃, hn₃, hM', hB⟩ := q
    have H₃ := H₂.atC a hk₃ hn₃
    have hst₃ : St (j + 1) h₃ := W.frame _ _ _ hst₂ fun b hb o e => hk₃ b o (fun q => hCf (q ▸ hb)) e
    refine wpAny_mono (helt j v h₃ tk₃ mC' ys nx _ hlt hPv hM' hB hR H₃.fr H₃.ns H₃.led H₃.z) (fun y s₄ q => ?_) fun _ _ e => e
    obtain ⟨h₄, tk₄, nx', rfl, hk₄, N₄, hn₄, hR₄⟩ := q
    have H₄ := H₃.ext a (hIo _ _ hst₃) hk₄ N₄ hn₄
    have hst₄ : St (j + 1) h₄ := W.frame _ _ _ hst₃ fun b _ o e => hk₄ b o e
    refine append_at (hsz := by show ys.toArray.size ≤ sizeLine; rw [List.size_toArray, sizeLine_eq]; have := hlen _ _ _ hR; omega) H₄.lst fun h₅ hs₅ hD₅ => ?_
    have H₅ := H₄.atD a hs₅ (zs := ys ++ [y]) (hD₅.trans (congrArg some (LCg.lst_snoc ys y)))
    exact ⟨n + 1 - (j + 1), by omega, j + 1, h₅, tk₄, mC', ys ++ [y], nx', rfl, hlt, rfl, W.frame _ _ _ hst₄ fun b hb o e => hs₅.extBut b o (fun q => hDf (q ▸ hb)) e, H₅, hM', hR₄⟩
  · obtain rfl : j = n := Nat.le_antisymm hj (Nat.not_lt.mp hlt)
    refine W.done _ _ _ hst fun h₂ tk₂ hk₂ => ?_
    exact hdone h₂ tk₂ mC ys nx (H.atI a hk₂) hM hR
/-- an inner source: what pyIter makes of it -/
def SrcIn (prog : Program) (w : World) (A : Around) (s : Shared) (C D I1 : Addr) (n2 : Nat) (P2 : Nat → Value → Prop) (h₃ : Heap) (it2 : Value) (s₄ : Shared) : Prop :=
  ∃ I2 h₄ tk₄ fp2 St2, it2 = .ref I2 ∧ s₄ = { s with heap := h₄, toks := tk₄ } ∧ (∀ b o, h₃.get? b = some o → h₄.get? b = some o) ∧ h₃.objs.size ≤ I2 ∧ (∀ i h, St2 i h → ∃ o, h.get? I2 = some o) ∧ Walks prog w A I2 fp2 [I2] n2 P2 St2 ∧ St2 0 h₄ ∧ C ∉ fp2 ∧ D ∉ fp2
def OutInv (s : Shared) (h₀ : Heap) (L : Addr) (m : Str → Option Value) (C D I : Addr) (n : Nat) (St : Nat → Heap → Prop) (Rr : Nat → Nat → List Value → List (Addr × Obj) → Prop) (k : Nat) (s' : Shared) : Prop :=
  ∃ i h tk mC ys nx, k = n + 1 - i ∧ i ≤ n ∧ s' = { s with heap := h, toks := tk } ∧ St i h ∧ Held h₀ L m C D I (fun _ => True) h mC ys nx ∧ Rr i 0 ys nx
theorem turn_out {fp : List Addr} {n n2 : Nat} {P P2 : Nat → Value → Prop} {St : Nat → Heap → Prop} {elt t1 i1 t2 i2 : Expr} {scope : Scope} {pos : Pos} {env : Env} {B1 : Value → (Str → Option Value) → Prop} {B2 : Value → (Str → Option Value) → Prop} {Rr : Nat → Nat → List Value → List (Addr × Obj) → Prop}
    (W : Walks prog w A I fp [I] n P St) (a : Apart h₀ L C D I (fun _ => True)) (hCf : C ∉ fp) (hDf : D ∉ fp) (hfo : ∀ i h, St i h → ∀ b ∈ fp, ∃ o, h.get? b = some o)
    (hlen : ∀ i j ys nx, Rr i j ys nx → ys.length ≤ 1048576) (hnext : ∀ i ys nx, Rr i n2 ys nx → Rr (i + 1) 0 ys nx)
    (hasg1 : ∀ i v h tk mC ys nx (E' : Value → Shared → Prop), i < n → P i v → Rr i 0 ys nx → h.Ns C mC → News h₀ L h nx → St (i + 1) h →
      wpAny (model prog w) A (letOwnedTupleGo t1 (.ref I) v >>= fun _ => assign t1 env v) (fun _ s' => ∃ h' tk' mC', s' = { s with heap := h', toks := tk' } ∧ (∀ b o, b ≠ C → h.get? b = some o → h'.get? b = some o) ∧ h'.Ns C mC' ∧ B1 v mC') E' { s with heap := h, toks := tk })
    (hsrc : ∀ i v h tk mC ys nx (E' : Value → Shared → Prop), i < n → P i v → B1 v mC → Rr i 0 ys nx → Fr h₀ L h m → h.Ns C mC → News h₀ L h nx → (∃ o, h.get? D = some o) →
      wpAny (model prog w) A (eval i2 env) (fun x s₃ => ∃ h₃ tk₃, s₃ = { s with heap := h₃, toks := tk₃ } ∧ (∀ b o, h.get? b = some o → h₃.get? b = some o) ∧ ∀ E'' : Value → Shared → Prop, wpAny (model prog w) A (pyIter x) (SrcIn prog w A s C D I n2 P2 h₃) E'' s₃) E' { s with heap := h, toks := tk })
    (hasg2 : ∀ i v1 I2 j v h tk mC ys nx (E' : Value → Shared → Prop), i < n → P i v1 → j < n2 → P2 j v → B1 v1 mC → Rr i j ys nx → h.Ns C mC → News h₀ L h nx →
      wpAny (model prog w) A (letOwnedTupleGo t2 (.ref I2) v >>= fun _ => assign t2 env v) (fun _ s' => ∃ h' tk' mC', s' = { s with heap := h', toks := tk' } ∧ (∀ b o, b ≠ C → h.get? b = some o → h'.get? b = some o) ∧ h'.Ns C mC' ∧ B1 v1 mC' ∧ B2 v mC') E' { s with heap := h, toks := tk })
    (helt : ∀ i v1 j v h tk mC ys nx (E' : Value → Shared → Prop), i < n → P i v1 → j < n2 → P2 j v → B1 v1 mC → B2 v mC → Rr i j ys nx → Fr h₀ L h m → h.Ns C mC → News h₀ L h nx →
      wpAny (model prog w) A (eval elt env) (fun y s' => ∃ h' tk' nx', s' = { s with heap := h', toks := tk' } ∧ (∀ b o, h.get? b = some o → h'.get? b = some o) ∧ News h₀ L h' nx' ∧ (∀ p ∈ nx', p ∈ nx ∨ h.objs.size ≤ p.1) ∧ Rr i (j + 1) (ys ++ [y]) nx') E' { s with heap := h, toks := tk })
    (hdone : ∀ h tk mC ys nx, Held h₀ L m C D I (fun _ => True) h mC ys nx → Rr n 0 ys nx → R (.ok .next) { s with heap := h, toks := tk }) :
    TurnOut prog w A (.ref I) (.ref D) elt t1 i1 t2 i2 scope pos env (OutInv s h₀ L m C D I n St Rr) R := by
  have hIf : I ∈ fp := W.sub I (List.mem_singleton.mpr rfl)
  rintro k s' ⟨i, h, tk, mC, ys, nx, rfl, hi, rfl, hst, H, hR⟩
  by_cases hlt : i < n
  · refine W.item i _ _ _ hlt hst fun v h₂ tk₂ hPv hst₂ hk₂ => ?_
    have H₂ := H.atI a hk₂
    refine wpAny_mono (hasg1 i v h₂ tk₂ mC ys nx _ hlt hPv hR H₂.ns H₂.led hst₂) (fun _ s₃ q => ?_) fun _ _ e => e
    obtain ⟨h₃, tk₃, mC', rfl, hk₃, hn₃, hB⟩ := q
    have H₃ := H₂.atC a hk₃ hn₃
    have hst₃ : St (i + 1) h₃ := W.frame _ _ _ hst₂ fun b hb o e => hk₃ b o (fun q => hCf (q ▸ hb)) e
    refine wpAny_mono (hsrc i v h₃ tk₃ mC' ys nx _ hlt hPv hB hR H₃.fr H₃.ns H₃.led ⟨_, H₃.lst⟩) (fun x s₄ q => ?_) fun _ _ e => e
    obtain ⟨h₄, tk₄, rfl, hk₄, hit⟩ := q
    refine wpAny_mono (hit _) (fun it2 s₅ q => ?_) fun _ _ e => e
    obtain ⟨I2, h₅, tk₅, fp2, St2, rfl, rfl, hk₅, hI2, hIo2, W2, hst5, hC2, hD2⟩ := q
    have up : ∀ b o, h₃.get? b = some o → h₅.get? b = some o := fun b o e => hk₅ b o (hk₄ b o e)
    have fresh : ∀ b o, h₃.get? b = some o → b ≠ I2 := fun b o e q => absurd (Heap.lt_size (hk₄ b o e)) (by rw [q]; exact Nat.not_lt.mpr hI2)
    obtain ⟨oC, eC, _⟩ := LCg.ns_obj H₃.ns
    obtain ⟨oL, eL, _⟩ := LCg.ns_obj H₃.fr.ns
    have i20 : h₀.get? I2 = none := by
      cases q : h₀.get? I2 with
      | none => rfl
      | some o => exact absurd rfl (fresh I2 o (H₃.fr.keep I2 o q))
    have hZ : ∀ h h', St (i + 1) h → (∀ b o, b ≠ C → b ≠ D → b ≠ I2 → h.get? b = some o → h'.get? b = some o) → St (i + 1) h' := by
      intro h h' st hk
      refine W.frame _ _ _ st fun b hb o e => hk b o (fun q => hCf (q ▸ hb)) (fun q => hDf (q ▸ hb)) ?_ e
      obtain ⟨o3, e3⟩ := hfo _ _ hst₃ b hb
      exact fresh b o3 e3
    have a2 : Apart h₀ L C D I2 (fun h => St (i + 1) h) := ⟨a.cl, a.dl, Ne.symm (fresh L oL eL), a.cd, fresh C oC eC, fresh D _ H₃.lst, a.c0, a.d0, i20, hZ⟩
    have H₅ : Held h₀ L m C D I2 (fun h => St (i + 1) h) h₅ mC' ys nx := ⟨H₃.fr.keeps up, H₃.ns.at' fun o e => up C o e, fun p hp => ⟨up _ _ (H₃.led p hp).1, (H₃.led p hp).2⟩, up D _ H₃.lst, fun p hp => ⟨(H₃.sep p hp).1, (H₃.sep p hp).2.1, fresh _ _ (H₃.led p hp).1⟩, W.frame _ _ _ hst₃ fun b _ o e => up b o e⟩
    have turn : TurnLast prog w A (.ref I2) (.ref D) t2 elt env (LastInv s h₀ L m C D I2 (fun h => St (i + 1) h) n2 St2 (B1 v) (fun j ys nx => Rr i j ys nx ∧ ∀ p ∈ nx, p.1 ≠ I))
        (fun r s₅ => match r with | .ok _ => ∃ m', m' < n + 1 - i ∧ OutInv s h₀ L m C D I n St Rr m' s₅ | .error e => cameBackBy (model prog w) A env (notedBy (model prog w) A env fun e s' => R (.error e) s') e s₅) := by
      refine turn_last (B := B2) W2 a2 hC2 hD2 hIo2 (fun j ys nx q => hlen _ _ _ _ q.1) ?_ ?_ ?_
      · intro j v2 h tk mC ys nx E' hj hP2 hM hR hn N _ _
        exact hasg2 i v I2 j v2 h tk mC ys nx E' hlt hPv hj hP2 hM hR.1 hn N
      · intro j v2 h tk mC ys nx E' hj hP2 hM hB2 hR F hn N z
        refine wpAny_mono (helt i v j v2 h tk mC ys nx E' hlt hPv hj hP2 hM hB2 hR.1 F hn N) (fun y s₆ q => ?_) fun _ _ e => e
        obtain ⟨h', tk', nx', e, hk, N', hnx, hR'⟩ := q
        refine ⟨h', tk', nx', e, hk, N', hnx, hR', fun p hp => ?_⟩
        rcases hnx p hp with q | q
        · exact hR.2 p q
        · obtain ⟨oI, eI⟩ := hfo _ _ z I hIf
          exact fun e => absurd (Heap.lt_size eI) (by rw [← e]; exact Nat.not_lt.mpr q)
      · intro h tk mC ys nx H hM hR
        exact ⟨n + 1 - (i + 1), by omega, i + 1, h, tk, mC, ys, nx, rfl, hlt, rfl, H.z, ⟨H.fr, H.ns, H.led, H.lst, fun p hp => ⟨(H.sep p hp).1, (H.sep p hp).2.1, hR.2 p hp⟩, trivial⟩, hnext _ _ _ hR.1⟩
    have start : LastInv s h₀ L m C D I2 (fun h => St (i + 1) h) n2 St2 (B1 v) (fun j ys nx => Rr i j ys nx ∧ ∀ p ∈ nx, p.1 ≠ I) (n2 + 1) { s with heap := h₅, toks := tk₅ } :=
      ⟨0, h₅, tk₅, mC', ys, nx, rfl, Nat.zero_le _, rfl, hst5, H₅, hB, hR, fun p hp => (H₃.sep p hp).2.2⟩
    exact compStart_in (compLoop_in turn _ start) (W2.self 0 _ _ _ hst5 (compLoop_in turn _ start))
  · obtain rfl : i = n := Nat.le_antisymm hi (Nat.not_lt.mp hlt)
    refine W.done _ _ _ hst fun h₂ tk₂ hk₂ => ?_
    exact hdone h₂ tk₂ mC ys nx (H.atI a hk₂) hR
/-- the list and the names are made; then the loop -/
theorem comp_block {E : Value → Shared → Prop} {elt t1 i1 : Expr} {rest : List Comprehension} {scope : Scope} {cl : List (Str × Addr)} {pos : Pos} {env : Env} {s₂ : Shared} {fp : List Addr} {news : List (Addr × Obj)} {RR : Value → Addr → Result → Shared → Prop}
    (hcell : ∀ y ∈ scope.names, y.2 ≠ .cell) (hkind : scope.kind = .function) (hfp : ∀ b ∈ fp, b < s₂.heap.objs.size) (hIlt : I < s₂.heap.objs.size)
    (F : Fr h₀ L s₂.heap m) (N : News h₀ L s₂.heap news) (hIL : I ≠ L) (hI₀ : h₀.get? I = none) (off : ∀ p ∈ news, p.1 ≠ I)
    (hself : ∀ (s : Shared) (Q : Value → Shared → Prop) (E : Value → Shared → Prop), (∀ b o, s₂.heap.get? b = some o → s.heap.get? b = some o) → Q (.ref I) s → wpAny (model prog w) A (pyIter (.ref I)) Q E s)
    (loop : ∀ C D h₁ tk₁, Apart h₀ L C D I (fun _ => True) → (∀ p ∈ news, p.1 < D) → C ∉ fp → D ∉ fp → (∀ b o, s₂.heap.get? b = some o → h₁.get? b = some o) → Held h₀ L m C D I (fun _ => True) h₁ (fun _ => none) [] news →
      codeAny (model prog w) A (.compLoop (.ListComp elt (⟨t1, i1, [], 0⟩ :: rest) scope pos) 0 (.ref I) (.ref D) (compEnvC scope cl C env)) (RR (.ref D) C) { s₂ with heap := h₁, toks := tk₁ }) :
    wpAny (model prog w) A (newList []) (fun acc s₃ => wpAny (model prog w) A (newFunctionEnv scope env.globals cl [] env.qual none .none (some env)) (fun cenv s₄ =>
      codeAny (model prog w) A (.compStart (.ListComp elt (⟨t1, i1, [], 0⟩ :: rest) scope pos) 0 (.ref I) acc { cenv with scope := relabel scope env }) (RR acc cenv.locals) s₄) E s₃) E s₂ := by
  refine wpAny_newObj_type (wpAny_newFunctionEnv hcell (by intro y hy; simp at hy) (fun h₁ hns₁ hsb₁ => ?_) hkind)
  dsimp only at hns₁ hsb₁ ⊢
  generalize hH2 : s₂.heap.push { cls := .type "list", dict := none, data := .seq ([] : List Value).toArray } = H2 at hns₁ hsb₁ ⊢
  have hC : H2.objs.size = s₂.heap.objs.size + 1 := by rw [← hH2, Heap.size_push]
  have hDC : s₂.heap.objs.size ≠ H2.objs.size := by rw [hC]; exact Nat.ne_of_lt (Nat.lt_succ_self _)
  have below : ∀ b, b < s₂.heap.objs.size → b ≠ H2.objs.size ∧ b ≠ s₂.heap.objs.size := fun b hb => ⟨by rw [hC]; exact Nat.ne_of_lt (Nat.lt_succ_of_lt hb), Nat.ne_of_lt hb⟩
  have hDf : s₂.heap.objs.size ∉ fp := fun hm => Nat.lt_irrefl _ (hfp _ hm)
  have hCf : H2.objs.size ∉ fp := fun hm => by have := hfp _ hm; rw [hC] at this; exact Nat.lt_irrefl _ (Nat.lt_of_succ_lt this)
  have old : ∀ b o, s₂.heap.get? b = some o → h₁.get? b = some o := fun b o e => hsb₁.extBut b o (below b (Heap.lt_size e)).1 (Heap.get?_push_of_some _ (hH2 ▸ Heap.get?_push_of_some _ e))
  have hacc : h₁.get? s₂.heap.objs.size = some (LCg.lst []) := hsb₁.extBut _ _ hDC (Heap.get?_push_of_some _ (hH2 ▸ Heap.get?_push_size _ rfl))
  have fresh₀ : ∀ a, s₂.heap.objs.size ≤ a → h₀.get? a = none := fun a ha => by
    cases e : h₀.get? a with
    | none => rfl
    | some o' => exact absurd (Heap.lt_size (F.keep a o' e)) (Nat.not_lt.mpr ha)
  have hLlt : L < s₂.heap.objs.size := F.ns.lt
  have ap : Apart h₀ L H2.objs.size s₂.heap.objs.size I (fun _ => True) := ⟨Ne.symm (below L hLlt).1, Ne.symm (below L hLlt).2, hIL, Ne.symm hDC, Ne.symm (below I hIlt).1, Ne.symm (below I hIlt).2, fresh₀ _ (by rw [hC]; exact Nat.le_succ _), fresh₀ _ (Nat.le_refl _), hI₀, fun _ _ _ _ => trivial⟩
  have H : Held h₀ L m H2.objs.size s₂.heap.objs.size I (fun _ => True) h₁ (fun _ => none) [] news :=
    ⟨F.keeps old, hns₁, fun p hp => ⟨old _ _ (N p hp).1, (N p hp).2⟩, hacc, fun p hp => ⟨(below _ (Heap.lt_size (N p hp).1)).1, (below _ (Heap.lt_size (N p hp).1)).2, off p hp⟩, trivial⟩
  have lp := loop _ _ h₁ (s₂.toks + ([] : List (Str × Value)).length) ap (fun p hp => Heap.lt_size (N p hp).1) hCf hDf old H
  exact codeAny_compStart_list lp (hself _ _ _ old lp)
/-- a source of the first clause, at its iterator -/
def SrcTop (prog : Program) (w : World) (A : Around) (h₀ : Heap) (L : Addr) (m : Str → Option Value) (news : List (Addr × Obj)) (n : Nat) (P : Nat → Value → Prop) (it : Value) (s₂ : Shared) : Prop :=
  ∃ I fp St, it = .ref I ∧ Fr h₀ L s₂.heap m ∧ News h₀ L s₂.heap news ∧ I ≠ L ∧ h₀.get? I = none ∧ (∀ p ∈ news, p.1 ≠ I) ∧ Walks prog w A I fp [I] n P St ∧ St 0 s₂.heap ∧ (∀ i h, St i h → ∀ b ∈ fp, ∃ o, h.get? b = some o)
section
variable {E : Value → Shared → Prop} {news : List (Addr × Obj)}
theorem srcTop_list {ax : Addr} {its : Array Value} (hh : A.handled = none) (F : Fr h₀ L s.heap m) (N : News h₀ L s.heap news) (hl : s.heap.IsList ax its) {Q : Value → Shared → Prop}
    (h : ∀ it h', SrcTop prog w A h₀ L m news its.size (fun i v => its[i]? = some v) it { s with heap := h' } → Q it { s with heap := h' }) : wpAny (model prog w) A (pyIter (.ref ax)) Q E s := by
  have hlt : ax < s.heap.objs.size := by obtain ⟨_, e, _⟩ := id hl; exact Heap.lt_size e
  refine wpAny_pyIter_list hl (h _ _ ?_)
  have up : ∀ b o, s.heap.get? b = some o → (s.heap.push { cls := .type "list_iterator", data := .fields #[.ref ax, .int 0 0] }).get? b = some o := fun b o e => Heap.get?_push_of_some _ e
  refine ⟨_, _, _, rfl, F.keeps up, N.grown up, Ne.symm (Nat.ne_of_lt F.ns.lt), next_is_new F, fun p hp => Nat.ne_of_lt (Heap.lt_size (N p hp).1), Walks.list hh s.heap.objs.size ax (Nat.ne_of_lt hlt) its, ⟨⟨_, Heap.get?_push_size _ rfl, rfl, rfl⟩, hl.push _⟩, ?_⟩
  intro i h st b hb
  rcases List.mem_cons.mp hb with rfl | hb
  · obtain ⟨o, e, _⟩ := st.1; exact ⟨o, e⟩
  · rw [List.mem_singleton.mp hb]; obtain ⟨o, e, _⟩ := st.2; exact ⟨o, e⟩
theorem srcTop_str {x : Str} {t : Tok} (hh : A.handled = none) (F : Fr h₀ L s.heap m) (N : News h₀ L s.heap news) {Q : Value → Shared → Prop}
    (h : ∀ it h', SrcTop prog w A h₀ L m news x.cps.size (SignAt x) it { s with heap := h' } → Q it { s with heap := h' }) : wpAny (model prog w) A (pyIter (.str x t)) Q E s := by
  have up : ∀ (ob : Obj) b o, s.heap.get? b = some o → (s.heap.push ob).get? b = some o := fun ob b o e => Heap.get?_push_of_some _ e
  cases ha : x.cps.all (· < 128)
  · refine wpAny_pyIter_wide ha (h _ _ ⟨_, _, _, rfl, F.keeps (up _), N.grown (up _), Ne.symm (Nat.ne_of_lt F.ns.lt), next_is_new F, fun p hp => Nat.ne_of_lt (Heap.lt_size (N p hp).1), Walks.strWide hh _ x t, ⟨_, Heap.get?_push_size _ rfl, rfl, rfl⟩, ?_⟩)
    intro i h st b hb
    rw [List.mem_singleton.mp hb]; obtain ⟨o, e, _⟩ := st; exact ⟨o, e⟩
  · refine wpAny_pyIter_ascii ha (h _ _ ⟨_, _, _, rfl, F.keeps (up _), N.grown (up _), Ne.symm (Nat.ne_of_lt F.ns.lt), next_is_new F, fun p hp => Nat.ne_of_lt (Heap.lt_size (N p hp).1), Walks.strAscii hh _ x t, ⟨_, Heap.get?_push_size _ rfl, rfl, rfl⟩, ?_⟩)
    intro i h st b hb
    rw [List.mem_singleton.mp hb]; obtain ⟨o, e, _⟩ := st; exact ⟨o, e⟩
end
section
variable {E : Value → Shared → Prop} {news : List (Addr × Obj)} {env : Env}
/-- the source, evaluated -/
def SrcAt1 (prog : Program) (w : World) (A : Around) (E : Value → Shared → Prop) (s : Shared) (h₀ : Heap) (L : Addr) (m : Str → Option Value) (news : List (Addr × Obj)) (n : Nat) (P : Nat → Value → Prop) (xv : Value) (s₁ : Shared) : Prop :=
  ∀ Q' : Value → Shared → Prop, (∀ it h' tk', SrcTop prog w A h₀ L m news n P it { s with heap := h', toks := tk' } → Q' it { s with heap := h', toks := tk' }) → wpAny (model prog w) A (pyIter xv) Q' E s₁
theorem held_let {Z : Heap → Prop} {h h' : Heap} {mC : Str → Option Value} {ys : List Value} {nx : List (Addr × Obj)} (H : Held h₀ L m C D I Z h mC ys nx) (a : Apart h₀ L C D I Z) (hs : Heap.SameBut C h h') :
    Fr h₀ L h' m ∧ News h₀ L h' ((D, LCg.lst ys) :: nx) := by
  refine ⟨LCg.fr_but H.fr (fun b o hb e => hs.extBut b o (by simpa using hb) e) (Ne.symm a.cl) a.c0, fun p hp => ?_⟩
  rcases List.mem_cons.mp hp with rfl | hp
  · exact ⟨hs.extBut _ _ (Ne.symm a.cd) H.lst, a.dl, a.d0⟩
  · exact ⟨hs.extBut _ _ (H.sep p hp).1 (H.led p hp).1, (H.led p hp).2⟩
/-- what the comprehension gives, by its loop -/
theorem comp_of {elt t1 i1 : Expr} {rest : List Comprehension} {scope : Scope} {cl : List (Str × Addr)} {pos : Pos} {n : Nat} {P : Nat → Value → Prop} {RR : Value → Addr → Result → Shared → Prop} {it : Value} {h₂ : Heap} {tk₂ : Nat}
    (hcell : ∀ y ∈ scope.names, y.2 ≠ .cell) (hkind : scope.kind = .function) (S : SrcTop prog w A h₀ L m news n P it { s with heap := h₂, toks := tk₂ })
    (loop : ∀ I fp St C D h₁ tk₁, it = .ref I → Walks prog w A I fp [I] n P St → (∀ i h, St i h → ∀ b ∈ fp, ∃ o, h.get? b = some o) → Apart h₀ L C D I (fun _ => True) → (∀ p ∈ news, p.1 < D) → C ∉ fp → D ∉ fp → St 0 h₁ → Held h₀ L m C D I (fun _ => True) h₁ (fun _ => none) [] news →
      codeAny (model prog w) A (.compLoop (.ListComp elt (⟨t1, i1, [], 0⟩ :: rest) scope pos) 0 (.ref I) (.ref D) (compEnvC scope cl C env)) (RR (.ref D) C) { s with heap := h₁, toks := tk₁ }) :
    wpAny (model prog w) A (newList []) (fun acc s₃ => wpAny (model prog w) A (newFunctionEnv scope env.globals cl [] env.qual none .none (some env)) (fun cenv s₄ =>
      codeAny (model prog w) A (.compStart (.ListComp elt (⟨t1, i1, [], 0⟩ :: rest) scope pos) 0 it acc { cenv with scope := relabel scope env }) (RR acc cenv.locals) s₄) E s₃) E { s with heap := h₂, toks := tk₂ } := by
  obtain ⟨I, fp, St, rfl, F, N, hIL, hI0, hoff, W, hst, hfo⟩ := S
  have hIf : I ∈ fp := W.sub I (List.mem_singleton.mpr rfl)
  refine comp_block (s₂ := { s with heap := h₂, toks := tk₂ }) (fp := fp) hcell hkind (fun b hb => ?_) ?_ F N hIL hI0 hoff ?_ ?_
  · obtain ⟨o, e⟩ := hfo _ _ hst b hb; exact Heap.lt_size e
  · obtain ⟨o, e⟩ := hfo _ _ hst I hIf; exact Heap.lt_size e
  · intro s' Q' E' up hq
    exact W.self 0 s' Q' E' (W.frame _ _ _ hst fun b _ o e => up b o e) hq
  · intro C D h₁ tk₁ ap hlt hC hD up H
    exact loop I fp St C D h₁ tk₁ rfl W hfo ap hlt hC hD (W.frame _ _ _ hst fun b _ o e => up b o e) H
end
end
end Mine
end
section
open PySem PySem.W PyProof.Rows PySem.Calls
namespace Mine
section
variable {prog : Program} {w : World} {A : Around} {E : Value → Shared → Prop} {R : Result → Shared → Prop} {s : Shared} {h₀ : Heap} {L : Addr} {m : Str → Option Value} {C D I : Addr} {Z : Heap → Prop} {news : List (Addr × Obj)} {env : Env}
/-- a name of the comprehension's own gets its item -/
theorem asg_name {x : Str} {px : Pos} {scope : Scope} {cl : List (Str × Addr)} {h : Heap} {tk : Nat} {mC : Str → Option Value} {v : Value} {it : Value} {E' : Value → Shared → Prop}
    (hx : scope.names.lookup x = some .local) (hkind : scope.kind = .function) (hn : h.Ns C mC) :
    wpAny (model prog w) A (letOwnedTupleGo (.Name x px) it v >>= fun _ => assign (.Name x px) (compEnvC scope cl C env) v)
      (fun _ s' => ∃ h' tk' mC', s' = { s with heap := h', toks := tk' } ∧ (∀ b o, b ≠ C → h.get? b = some o → h'.get? b = some o) ∧ h'.Ns C mC' ∧ mC' = fun z => if z = x then some v else mC z) E' { s with heap := h, toks := tk } := by
  refine wpAny_bind (wpAny_pure ?_)
  refine wpAny_assign_Name (wpAny_storeName_local (lookup_relabel_local hx) hn (fun h₃ hn₃ hs₃ => ?_) (by simp [compEnvC, relabel, hkind]))
  exact ⟨h₃, _, _, rfl, fun b o hb e => hs₃.extBut b o hb e, hn₃, rfl⟩
/-- the comprehension's ends -/
theorem post_E {Q : Value → Shared → Prop} {h : Heap} {tk : Nat} {mC : Str → Option Value} {ys : List Value} {nx : List (Addr × Obj)} (a : Apart h₀ L C D I Z) (H : Held h₀ L m C D I Z h mC ys nx)
    (k : ∀ h' tk', Fr h₀ L h' m → News h₀ L h' ((D, LCg.lst ys) :: nx) → (∀ p ∈ nx, p.1 ≠ D) → Q (.ref D) { s with heap := h', toks := tk' }) :
    compPost (model prog w) A E none Q (.ref D) C (.ok .next) { s with heap := h, toks := tk } := by
  refine ⟨mC, H.ns, fun h'' hs'' => ?_⟩
  obtain ⟨F', N'⟩ := held_let H a hs''
  exact k h'' tk F' N' fun p hp => (H.sep p hp).2.1
theorem post_A {Q : Flow → Shared → Prop} {y : Str} {py : Pos} {h : Heap} {tk : Nat} {mC : Str → Option Value} {ys : List Value} {nx : List (Addr × Obj)} (hL : env.locals = L) (hy : env.kindOf y = some .local) (hp : (env.scope.kind == .class || (env.scope.kind == .module && env.locals != env.globals)) = false)
    (a : Apart h₀ L C D I Z) (H : Held h₀ L m C D I Z h mC ys nx)
    (k : ∀ h' tk', Fr h₀ L h' (fun z => if z = y then some (.ref D) else m z) → News h₀ L h' ((D, LCg.lst ys) :: nx) → (∀ p ∈ nx, p.1 ≠ D) → Q .next { s with heap := h', toks := tk' }) :
    compPost (model prog w) A E (some (assign (.Name y py) env)) (fun _ s' => Q .next s') (.ref D) C (.ok .next) { s with heap := h, toks := tk } := by
  subst hL
  show wpAny _ A (assign (.Name y py) env (.ref D)) _ _ _
  refine wpAny_assign_Name (wpAny_storeName_local hy H.fr.ns (fun h₂ hn₂ hs₂ => ?_) hp)
  have hL₀ : h₀.get? env.locals = none := Heap.get?_none_of_le H.fr.above
  have F₂ : Fr h₀ env.locals h₂ (fun z => if z = y then some (.ref D) else m z) := ⟨hn₂, fun b o e => hs₂.extBut b o (fun q => by rw [q, hL₀] at e; cases e) (H.fr.keep b o e), H.fr.above⟩
  refine ⟨mC, H.ns.sameBut hs₂ a.cl, fun h'' hs'' => ?_⟩
  refine k h'' _ (F₂.change hs'' a.cl a.c0) (fun p hp => ?_) fun p hp => (H.sep p hp).2.1
  rcases List.mem_cons.mp hp with rfl | hp
  · exact ⟨hs''.extBut _ _ (Ne.symm a.cd) (hs₂.extBut _ _ a.dl H.lst), a.dl, a.d0⟩
  · exact ⟨hs''.extBut _ _ (H.sep p hp).1 (hs₂.extBut _ _ (H.led p hp).2.1 (H.led p hp).1), (H.led p hp).2⟩
/-- the one-clause loop -/
theorem loop_lc1 {elt t1 i1 : Expr} {scope : Scope} {cl : List (Str × Addr)} {pos : Pos} {n : Nat} {P : Nat → Value → Prop} {B : Addr → Value → (Str → Option Value) → Prop} {Rr : Nat → List Value → List (Addr × Obj) → Prop} {RR : Value → Addr → Result → Shared → Prop}
    (hcell : ∀ y ∈ scope.names, y.2 ≠ .cell) (hkind : scope.kind = .function)
    (hlen : ∀ j ys nx, Rr j ys nx → ys.length ≤ 1048576) (h0 : Rr 0 [] news)
    (hasg : ∀ C I j v h tk mC ys nx (E' : Value → Shared → Prop), j < n → P j v → Rr j ys nx → h.Ns C mC → News h₀ L h nx →
      wpAny (model prog w) A (letOwnedTupleGo t1 (.ref I) v >>= fun _ => assign t1 (compEnvC scope cl C env) v) (fun _ s' => ∃ h' tk' mC', s' = { s with heap := h', toks := tk' } ∧ (∀ b o, b ≠ C → h.get? b = some o → h'.get? b = some o) ∧ h'.Ns C mC' ∧ B C v mC') E' { s with heap := h, toks := tk })
    (helt : ∀ C j v h tk mC ys nx (E' : Value → Shared → Prop), j < n → P j v → B C v mC → Rr j ys nx → Fr h₀ L h m → h.Ns C mC → News h₀ L h nx →
      wpAny (model prog w) A (eval elt (compEnvC scope cl C env)) (fun y s' => ∃ h' tk' nx', s' = { s with heap := h', toks := tk' } ∧ (∀ b o, h.get? b = some o → h'.get? b = some o) ∧ News h₀ L h' nx' ∧ (∀ p ∈ nx', p ∈ nx ∨ h.objs.size ≤ p.1) ∧ Rr (j + 1) (ys ++ [y]) nx') E' { s with heap := h, toks := tk })
    (hfin : ∀ C D I Z h tk mC ys nx, Apart h₀ L C D I Z → (∀ p ∈ news, p.1 < D) → Held h₀ L m C D I Z h mC ys nx → Rr n ys nx → RR (.ref D) C (.ok .next) { s with heap := h, toks := tk })
    {it : Value} {h₂ : Heap} {tk₂ : Nat} (S : SrcTop prog w A h₀ L m news n P it { s with heap := h₂, toks := tk₂ }) :
    wpAny (model prog w) A (newList []) (fun acc s₃ => wpAny (model prog w) A (newFunctionEnv scope env.globals cl [] env.qual none .none (some env)) (fun cenv s₄ =>
      codeAny (model prog w) A (.compStart (lc1 elt t1 i1 scope pos) 0 it acc { cenv with scope := relabel scope env }) (RR acc cenv.locals) s₄) E s₃) E { s with heap := h₂, toks := tk₂ } := by
  refine comp_of (rest := []) hcell hkind S ?_
  intro I fp St C D h₁ tk₁ _ W hfo ap hlt hC hD hst H
  have hIf : I ∈ fp := W.sub I (List.mem_singleton.mpr rfl)
  refine compLoop_one (I := LastInv s h₀ L m C D I (fun _ => True) n St (fun _ => True) Rr) (turn_last (B := B C) W ap hC hD (fun i h st => hfo i h st I hIf) hlen ?_ ?_ ?_) (n + 1) ⟨0, h₁, tk₁, _, [], news, rfl, Nat.zero_le _, rfl, hst, H, trivial, h0⟩
  · intro j v h tk mC ys nx E' hj hP _ hR hn N _ _
    refine wpAny_mono (hasg C I j v h tk mC ys nx E' hj hP hR hn N) (fun _ s' q => ?_) fun _ _ e => e
    obtain ⟨h', tk', mC', e1, e2, e3, e4⟩ := q
    exact ⟨h', tk', mC', e1, e2, e3, trivial, e4⟩
  · intro j v h tk mC ys nx E' hj hP _ hB hR F hn N _
    exact helt C j v h tk mC ys nx E' hj hP hB hR F hn N
  · intro h tk mC ys nx H _ hR
    exact hfin C D I _ h tk mC ys nx ap hlt H hR
/-- the two-clause loop -/
theorem loop_lc2 {elt t1 i1 t2 i2 : Expr} {scope : Scope} {cl : List (Str × Addr)} {pos : Pos} {n n2 : Nat} {P P2 : Nat → Value → Prop} {B1 : Addr → Value → (Str → Option Value) → Prop} {B2 : Addr → Value → (Str → Option Value) → Prop} {Rr : Nat → Nat → List Value → List (Addr × Obj) → Prop} {RR : Value → Addr → Result → Shared → Prop}
    (hcell : ∀ y ∈ scope.names, y.2 ≠ .cell) (hkind : scope.kind = .function) (hs2 : ∀ C x, foldedSetIterable i2 (compEnvC scope cl C env) x = pure x)
    (hlen : ∀ i j ys nx, Rr i j ys nx → ys.length ≤ 1048576) (hnext : ∀ i ys nx, Rr i n2 ys nx → Rr (i + 1) 0 ys nx) (h0 : Rr 0 0 [] news)
    (hasg1 : ∀ C I i v h tk mC ys nx (E' : Value → Shared → Prop), i < n → P i v → Rr i 0 ys nx → h.Ns C mC → News h₀ L h nx →
      wpAny (model prog w) A (letOwnedTupleGo t1 (.ref I) v >>= fun _ => assign t1 (compEnvC scope cl C env) v) (fun _ s' => ∃ h' tk' mC', s' = { s with heap := h', toks := tk' } ∧ (∀ b o, b ≠ C → h.get? b = some o → h'.get? b = some o) ∧ h'.Ns C mC' ∧ B1 C v mC') E' { s with heap := h, toks := tk })
    (hsrc : ∀ C D I i v h tk mC ys nx (E' : Value → Shared → Prop), i < n → P i v → B1 C v mC → Rr i 0 ys nx → Fr h₀ L h m → h.Ns C mC → News h₀ L h nx → (∃ o, h.get? D = some o) →
      wpAny (model prog w) A (eval i2 (compEnvC scope cl C env)) (fun x s₃ => ∃ h₃ tk₃, s₃ = { s with heap := h₃, toks := tk₃ } ∧ (∀ b o, h.get? b = some o → h₃.get? b = some o) ∧ ∀ E'' : Value → Shared → Prop, wpAny (model prog w) A (pyIter x) (SrcIn prog w A s C D I n2 P2 h₃) E'' s₃) E' { s with heap := h, toks := tk })
    (hasg2 : ∀ C i v1 I2 j v h tk mC ys nx (E' : Value → Shared → Prop), i < n → P i v1 → j < n2 → P2 j v → B1 C v1 mC → Rr i j ys nx → h.Ns C mC → News h₀ L h nx →
      wpAny (model prog w) A (letOwnedTupleGo t2 (.ref I2) v >>= fun _ => assign t2 (compEnvC scope cl C env) v) (fun _ s' => ∃ h' tk' mC', s' = { s with heap := h', toks := tk' } ∧ (∀ b o, b ≠ C → h.get? b = some o → h'.get? b = some o) ∧ h'.Ns C mC' ∧ B1 C v1 mC' ∧ B2 C v mC') E' { s with heap := h, toks := tk })
    (helt : ∀ C i v1 j v h tk mC ys nx (E' : Value → Shared → Prop), i < n → P i v1 → j < n2 → P2 j v → B1 C v1 mC → B2 C v mC → Rr i j ys nx → Fr h₀ L h m → h.Ns C mC → News h₀ L h nx →
      wpAny (model prog w) A (eval elt (compEnvC scope cl C env)) (fun y s' => ∃ h' tk' nx', s' = { s with heap := h', toks := tk' } ∧ (∀ b o, h.get? b = some o → h'.get? b = some o) ∧ News h₀ L h' nx' ∧ (∀ p ∈ nx', p ∈ nx ∨ h.objs.size ≤ p.1) ∧ Rr i (j + 1) (ys ++ [y]) nx') E' { s with heap := h, toks := tk })
    (hfin : ∀ C D I Z h tk mC ys nx, Apart h₀ L C D I Z → (∀ p ∈ news, p.1 < D) → Held h₀ L m C D I Z h mC ys nx → Rr n 0 ys nx → RR (.ref D) C (.ok .next) { s with heap := h, toks := tk })
    {it : Value} {h₂ : Heap} {tk₂ : Nat} (S : SrcTop prog w A h₀ L m news n P it { s with heap := h₂, toks := tk₂ }) :
    wpAny (model prog w) A (newList []) (fun acc s₃ => wpAny (model prog w) A (newFunctionEnv scope env.globals cl [] env.qual none .none (some env)) (fun cenv s₄ =>
      codeAny (model prog w) A (.compStart (lc2 elt t1 i1 t2 i2 scope pos) 0 it acc { cenv with scope := relabel scope env }) (RR acc cenv.locals) s₄) E s₃) E { s with heap := h₂, toks := tk₂ } := by
  refine comp_of (rest := [⟨t2, i2, [], 0⟩]) hcell hkind S ?_
  intro I fp St C D h₁ tk₁ _ W hfo ap hlt hC hD hst H
  refine compLoop_out (I := OutInv s h₀ L m C D I n St Rr) (hs2 C) (turn_out (P2 := P2) (B1 := B1 C) (B2 := B2 C) W ap hC hD hfo hlen hnext ?_ ?_ ?_ ?_ ?_) (n + 1) ⟨0, h₁, tk₁, _, [], news, rfl, Nat.zero_le _, rfl, hst, H, h0⟩
  · intro i v h tk mC ys nx E' hi hP hR hn N _
    exact hasg1 C I i v h tk mC ys nx E' hi hP hR hn N
  · intro i v h tk mC ys nx E' hi hP hB hR F hn N hD'
    exact hsrc C D I i v h tk mC ys nx E' hi hP hB hR F hn N hD'
  · intro i v1 I2 j v h tk mC ys nx E' hi hP hj hP2 hB hR hn N
    exact hasg2 C i v1 I2 j v h tk mC ys nx E' hi hP hj hP2 hB hR hn N
  · intro i v1 j v h tk mC ys nx E' hi hP hj hP2 hB hB2 hR F hn N
    exact helt C i v1 j v h tk mC ys nx E' hi hP hj hP2 hB hB2 hR F hn N
  · intro h tk mC ys nx H hR
    exact hfin C D I _ h tk mC ys nx ap hlt H hR
/-- as a value, as an assignment -/
theorem eval_comp {elt t1 i1 : Expr} {rest : List Comprehension} {scope : Scope} {cl : List (Str × Addr)} {pos : Pos} {n : Nat} {P : Nat → Value → Prop} {Q : Value → Shared → Prop}
    (hclos : closureFor scope env = pure cl) (hkind : scope.kind = .function) (hnames : ∀ y ∈ scope.names, y.2 = .local → scope.names.lookup y.1 = some .local)
    (hs : ∀ x, foldedSetIterable i1 env x = pure x)
    (hsrc : wpAny (model prog w) A (eval i1 env) (SrcAt1 prog w A E s h₀ L m news n P) E s)
    (loop : ∀ it h₂ tk₂, SrcTop prog w A h₀ L m news n P it { s with heap := h₂, toks := tk₂ } →
      wpAny (model prog w) A (newList []) (fun acc s₃ => wpAny (model prog w) A (newFunctionEnv scope env.globals cl [] env.qual none .none (some env)) (fun cenv s₄ =>
        codeAny (model prog w) A (.compStart (.ListComp elt (⟨t1, i1, [], 0⟩ :: rest) scope pos) 0 it acc { cenv with scope := relabel scope env }) (compPost (model prog w) A E none Q acc cenv.locals) s₄) E s₃) E { s with heap := h₂, toks := tk₂ }) :
    wpAny (model prog w) A (eval (.ListComp elt (⟨t1, i1, [], 0⟩ :: rest) scope pos) env) Q E s := by
  rw [eval_ListComp]
  refine wpAny_comprehension_free (use := none) rfl hs hclos hkind hnames (wpAny_mono hsrc (fun xv s₁ h₁ => h₁ _ fun it h' tk' S => ?_) fun _ _ e => e)
  exact loop it h' tk' S
theorem exec_comp {elt t1 i1 : Expr} {rest : List Comprehension} {scope : Scope} {cl : List (Str × Addr)} {pos spos : Pos} {y : Str} {py : Pos} {n : Nat} {P : Nat → Value → Prop} {Q : Flow → Shared → Prop}
    (hsw : swapsWith (.ListComp elt (⟨t1, i1, [], 0⟩ :: rest) scope pos) (some (.Name y py)) spos.line env = pure true)
    (hclos : closureFor scope env = pure cl) (hkind : scope.kind = .function) (hnames : ∀ y ∈ scope.names, y.2 = .local → scope.names.lookup y.1 = some .local)
    (hs : ∀ x, foldedSetIterable i1 env x = pure x)
    (hsrc : wpAny (model prog w) A (eval i1 env) (SrcAt1 prog w A E s h₀ L m news n P) E s)
    (loop : ∀ it h₂ tk₂, SrcTop prog w A h₀ L m news n P it { s with heap := h₂, toks := tk₂ } →
      wpAny (model prog w) A (newList []) (fun acc s₃ => wpAny (model prog w) A (newFunctionEnv scope env.globals cl [] env.qual none .none (some env)) (fun cenv s₄ =>
        codeAny (model prog w) A (.compStart (.ListComp elt (⟨t1, i1, [], 0⟩ :: rest) scope pos) 0 it acc { cenv with scope := relabel scope env }) (compPost (model prog w) A E (some (assign (.Name y py) env)) (fun _ s' => Q .next s') acc cenv.locals) s₄) E s₃) E { s with heap := h₂, toks := tk₂ }) :
    wpAny (model prog w) A (exec (.Assign [.Name y py] (.ListComp elt (⟨t1, i1, [], 0⟩ :: rest) scope pos) spos) env) Q E s := by
  rw [exec_Assign_Name_used _ _ _ _ hsw]
  refine wpAny_bind (wpAny_standAt (wpAny_bind ?_))
  show wpAny _ A (do let _ ← comprehension (.ListComp elt (⟨t1, i1, [], 0⟩ :: rest) scope pos) scope env _ (newList []) false (eval i1 env) (some (assign (.Name y py) env))) _ _ s
  refine wpAny_bind (wpAny_mono (wpAny_comprehension_free (use := some (assign (.Name y py) env)) (Q := fun _ s' => Q .next s') rfl hs hclos hkind hnames
    (wpAny_mono hsrc (fun xv s₁ h₁ => h₁ _ fun it h' tk' S => ?_) fun _ _ e => e)) (fun _ s' hq => wpAny_pure (wpAny_pure hq)) fun _ _ e => e)
  exact loop it h' tk' S
end
/-! a loop over a range, with lists of the call's own that a turn makes anew -/
def REnd {σ : Type} (h₀ : Heap) (L : Addr) (news own : List (Addr × Obj)) (x : Str) (ps : σ → List (Str × Value)) (obs : σ → List (Addr × Obj)) (stored : List Str) (m₀ : Str → Option Value) (P : σ → Prop) (s : Shared) (s₂ : Shared) : Prop :=
  ∃ (c : σ) (h' : Heap) (tk : Nat) (m' : Str → Option Value) (news' : List (Addr × Obj)), s₂ = { s with heap := h', toks := tk } ∧ Fr h₀ L h' m' ∧ News h₀ L h' news' ∧ (∀ p ∈ obs c ++ news ++ own, p ∈ news') ∧ TbOff own (obs c ++ news) ∧
    (∀ p ∈ ps c, m' p.1 = some p.2) ∧ (∀ z, z ≠ x → (∀ p ∈ ps c, z ≠ p.1) → stored.contains z = false → m' z = m₀ z) ∧ P c
def RPost {σ : Type} (h₀ : Heap) (L : Addr) (news own : List (Addr × Obj)) (x : Str) (ps : σ → List (Str × Value)) (obs : σ → List (Addr × Obj)) (stored : List Str) (m₀ : Str → Option Value) (P : σ → Prop) (s : Shared) (Q : Flow → Shared → Prop) (f : Flow) (s₂ : Shared) : Prop :=
  match f with
  | .ret v => Q (.ret v) s₂
  | .brk => Q .next s₂
  | _ => REnd h₀ L news own x ps obs stored m₀ P s s₂
theorem rEnd {σ : Type} {h₀ : Heap} {L : Addr} {news own : List (Addr × Obj)} {x : Str} {ps : σ → List (Str × Value)} {obs : σ → List (Addr × Obj)} {stored : List Str} {m₀ : Str → Option Value} {P : σ → Prop} {s : Shared} (c : σ) {h' : Heap} {tk : Nat} {m' : Str → Option Value} {news' : List (Addr × Obj)}
    (F : Fr h₀ L h' m') (N : News h₀ L h' news') (hn : ∀ p ∈ obs c ++ news ++ own, p ∈ news') (ho : TbOff own (obs c ++ news)) (hk : ∀ p ∈ ps c, m' p.1 = some p.2) (hr : ∀ z, z ≠ x → (∀ p ∈ ps c, z ≠ p.1) → stored.contains z = false → m' z = m₀ z) (hp : P c) :
    REnd h₀ L news own x ps obs stored m₀ P s { s with heap := h', toks := tk } := ⟨c, h', tk, m', news', rfl, F, N, hn, ho, hk, hr, hp⟩
section
variable {prog : Program} {w : World} {A : Around} {E : Value → Shared → Prop} {s : Shared} {env : Env} {h₀ : Heap} {x : Str} {body : List Stmt} {Q : Flow → Shared → Prop} {m₀ : Str → Option Value} {news : List (Addr × Obj)}
theorem loopR {σ : Type} {r : Addr} {a₀ b₀ : Int} {t₀ u₀ v₀ : Tok} {n : Nat} (ps : σ → List (Str × Value)) (obs : σ → List (Addr × Obj)) (stored : List Str) (P : Nat → σ → Prop) (c₀ : σ)
    (hh : A.handled = none) (hr : IsRange s.heap r a₀ b₀ 1 t₀ u₀ v₀) (hsmall : Builtin.Range.small a₀ b₀ 1 = true) (hn : Builtin.Range.rangeSize a₀ b₀ 1 = (n : Int)) (F : Fr h₀ env.locals s.heap m₀) (N : News h₀ env.locals s.heap (obs c₀ ++ news)) (hk : ∀ p ∈ ps c₀, m₀ p.1 = some p.2) (hp : P 0 c₀)
    (turn : ∀ (c : σ) (i : Nat) t (u : Str → Option Value) h tk own, i < n → TbOff own (obs c ++ news) → P i c →
      Fr h₀ env.locals h (fun y => if y = x then some (.int (a₀ + (i : Int)) t) else kstB (fun z => if stored.contains z then u z else m₀ z) (ps c) y) → News h₀ env.locals h (obs c ++ news ++ own) →
      wpAny (model prog w) A (execs body env) (RPost h₀ env.locals news own x ps obs stored m₀ (P (i + 1)) { s with heap := h, toks := tk } Q) E { s with heap := h, toks := tk })
    (done : ∀ (c : σ) (u : Str → Option Value) h tk, P n c → Fr h₀ env.locals h (fun y => if y = x then u y else kstB (fun z => if stored.contains z then u z else m₀ z) (ps c) y) → News h₀ env.locals h (obs c ++ news) → Q .next { s with heap := h, toks := tk }) :
    wpAny (model prog w) A (pyIter (.ref r)) (fun it s₂ => LoopAtV prog w A h₀ env x body Q E it s₂) E s := by
  refine tbr_invG (fun i m nx => ∃ c : σ, nx = obs c ++ news ∧ (∀ p ∈ ps c, m p.1 = some p.2) ∧ (∀ z, z ≠ x → (∀ p ∈ ps c, z ≠ p.1) → stored.contains z = false → m z = m₀ z) ∧ P i c) hh hr hsmall hn F N ⟨c₀, rfl, hk, fun _ _ _ _ => rfl, hp⟩ ?_ ?_
  · rintro i k t m₁ nx h tk own hik hoff ⟨c, rfl, h1, h2, hp'⟩ F₁ N₁
    have hi : i < n := by
      rcases Nat.lt_or_ge i n with q | q
      · exact q
      · rw [List.getElem?_eq_none (by rw [rangeKs_length]; exact q)] at hik; cases hik
    have hk' : k = a₀ + (i : Int) := by
      have : (rangeKs a₀ n)[i]? = some (a₀ + (i : Int)) := by simp [rangeKs, hi]
      rw [this] at hik; exact (Option.some.inj hik).symm
    subst hk'
    refine wpAny_mono (turn c i t m₁ h tk own hi hoff hp' (loopV.kst_fr' h1 h2 F₁) N₁) (fun f s₂ p => ?_) fun _ _ e => e
    have up : REnd h₀ env.locals news own x ps obs stored m₀ (P (i + 1)) { s with heap := h, toks := tk } s₂ → TbEnd h₀ env.locals (fun m' nx' => ∃ c : σ, nx' = obs c ++ news ∧ (∀ p ∈ ps c, m' p.1 = some p.2) ∧ (∀ z, z ≠ x → (∀ p ∈ ps c, z ≠ p.1) → stored.contains z = false → m' z = m₀ z) ∧ P (i + 1) c) own { s with heap := h, toks := tk } s₂ := by
      rintro ⟨c', h', tk', m', news', rfl, F', N', hn, ho, hk', hr', hP'⟩
      exact ⟨h', tk', m', news', obs c' ++ news, rfl, F', N', fun p hp => hn p (List.mem_append.mpr (.inl hp)), fun p hp => hn p (List.mem_append.mpr (.inr hp)), ho, c', rfl, hk', hr', hP'⟩
    cases f with
    | ret v => exact p
    | brk => exact p
    | next => exact up p
    | cont => exact up p
  · rintro m₁ nx h tk ⟨c, rfl, h1, h2, hp'⟩ F₁ N₁
    exact done c m₁ h tk hp' (kst_frOut h1 h2 F₁) N₁
end
theorem rKeep {D l : Addr} {o o' : Obj} {news own : List (Addr × Obj)} : ∀ p ∈ [(D, o')] ++ news ++ own, p ∈ (D, o') :: (([(l, o)] ++ news) ++ own) := by
  intro p hp
  simp only [List.mem_append, List.mem_cons, List.not_mem_nil, or_false] at hp ⊢
  rcases hp with (hp | hp) | hp
  · exact .inl hp
  · exact .inr (.inl (.inr hp))
  · exact .inr (.inr hp)
theorem rOff {D l : Addr} {o o' : Obj} {news own : List (Addr × Obj)} (h : TbOff own ([(l, o)] ++ news)) (l2 : ∀ p ∈ ([(l, o)] ++ news) ++ own, p.1 < D) : TbOff own ([(D, o')] ++ news) := by
  intro p hp q hq
  rcases List.mem_append.mp hq with hq | hq
  · rw [List.mem_singleton.mp hq]
    exact Nat.ne_of_lt (l2 p (List.mem_append_right _ hp))
  · exact h p hp q (List.mem_append_right _ hq)
end Mine
end
section
open PySem PySem.W PyProof.Rows PySem.Calls
namespace Mine
/-- the signs of a text -/
def signsOf (x : Str) : List Str := x.cps.toList.map fun c => (⟨#[c]⟩ : Str)
theorem signsOf_length (x : Str) : (signsOf x).length = x.cps.size := by simp [signsOf]
theorem signAt_of {x : Str} {j : Nat} {v : Value} (h : SignAt x j v) : ∃ y t, (signsOf x)[j]? = some y ∧ v = .str y t := by
  obtain ⟨c, u, h1, h2⟩ := h
  exact ⟨⟨#[c]⟩, u, by simp [signsOf, h1], h2⟩
theorem strs_snoc {y : Str} {t : Tok} {vs : List Value} {ys : List Str} (h : StrsAre vs ys) : StrsAre (vs ++ [.str y t]) (ys ++ [y]) := by
  induction h with
  | nil => exact .cons y t .nil
  | cons z u _ r => exact .cons z u r
theorem strs_at {vs : List Value} {ys : List Str} (h : StrsAre vs ys) : ∀ {i : Nat} {v : Value}, vs[i]? = some v → ∃ y t, ys[i]? = some y ∧ v = .str y t := by
  induction h with
  | nil => intro i v e; simp at e
  | cons y t _ ih =>
    intro i v e
    cases i with
    | zero => simp at e; exact ⟨y, t, rfl, e.symm⟩
    | succ i => simpa using ih (by simpa using e)
theorem strs_len {vs : List Value} {ys : List Str} (h : StrsAre vs ys) : vs.length = ys.length := by
  induction h with
  | nil => rfl
  | cons y t _ ih => simp [ih]
/-- the rows of a two-clause comprehension, as far as it has come -/
def soFar {α β : Type} (g : α → List β) (xs : List α) (i j : Nat) : List β := (xs.take i).flatMap g ++ (xs[i]?.toList.flatMap g).take j
theorem soFar_zero {α β : Type} (g : α → List β) (xs : List α) : soFar g xs 0 0 = [] := by simp [soFar]
theorem soFar_le {α β : Type} (g : α → List β) (xs : List α) (i j : Nat) : (soFar g xs i j).length ≤ (xs.flatMap g).length := by
  have e : xs = xs.take i ++ (xs[i]?.toList ++ xs.drop (i + 1)) := by
    rw [← List.append_assoc, ← List.take_add_one, List.take_append_drop]
  have h2 : (xs.flatMap g).length = ((xs.take i).flatMap g).length + ((xs[i]?.toList.flatMap g).length + ((xs.drop (i + 1)).flatMap g).length) := by
    conv => lhs; rw [e]
    rw [List.flatMap_append, List.flatMap_append, List.length_append, List.length_append]
  unfold soFar
  rw [List.length_append, List.length_take, h2]
  omega
theorem soFar_next {α β : Type} (g : α → List β) (xs : List α) (i n2 : Nat) (hg : ∀ a, (g a).length = n2) : soFar g xs i n2 = soFar g xs (i + 1) 0 := by
  unfold soFar
  rw [List.take_zero, List.append_nil, List.take_add_one, List.flatMap_append]
  congr 1
  apply List.take_of_length_le
  cases xs[i]? with
  | none => simp
  | some a => simp [hg]
theorem soFar_all {α β : Type} (g : α → List β) (xs : List α) : soFar g xs xs.length 0 = xs.flatMap g := by simp [soFar]
theorem soFar_snoc {α β : Type} {g : α → List β} {xs : List α} {i j : Nat} {a : α} {b : β} (ha : xs[i]? = some a) (hb : (g a)[j]? = some b) : soFar g xs i (j + 1) = soFar g xs i j ++ [b] := by
  unfold soFar
  rw [ha]
  simp only [Option.toList_some, List.flatMap_cons, List.flatMap_nil, List.append_nil]
  rw [List.take_add_one, hb]
  simp
section
variable {prog : Program} {w : World} {A : Around} {E : Value → Shared → Prop} {s : Shared} {h₀ : Heap} {L : Addr} {m : Str → Option Value} {C D I : Addr} {news : List (Addr × Obj)} {env : Env}
theorem srcIn_str {x : Str} {t : Tok} {I1 : Addr} (hh : A.handled = none) {h₃ : Heap} {tk₃ : Nat} (hC : C < h₃.objs.size) (hD : D < h₃.objs.size) :
    wpAny (model prog w) A (pyIter (.str x t)) (SrcIn prog w A s C D I1 x.cps.size (SignAt x) h₃) E { s with heap := h₃, toks := tk₃ } := by
  have up : ∀ (ob : Obj) b o, h₃.get? b = some o → (h₃.push ob).get? b = some o := fun ob b o e => Heap.get?_push_of_some _ e
  cases ha : x.cps.all (· < 128)
  · exact wpAny_pyIter_wide ha ⟨_, _, _, _, _, rfl, rfl, up _, Nat.le_refl _, fun i h st => by obtain ⟨o, e, _⟩ := st; exact ⟨o, e⟩, Walks.strWide hh _ x t, ⟨_, Heap.get?_push_size _ rfl, rfl, rfl⟩, fun q => Nat.lt_irrefl _ ((List.mem_singleton.mp q) ▸ hC), fun q => Nat.lt_irrefl _ ((List.mem_singleton.mp q) ▸ hD)⟩
  · exact wpAny_pyIter_ascii ha ⟨_, _, _, _, _, rfl, rfl, up _, Nat.le_refl _, fun i h st => by obtain ⟨o, e, _⟩ := st; exact ⟨o, e⟩, Walks.strAscii hh _ x t, ⟨_, Heap.get?_push_size _ rfl, rfl, rfl⟩, fun q => Nat.lt_irrefl _ ((List.mem_singleton.mp q) ▸ hC), fun q => Nat.lt_irrefl _ ((List.mem_singleton.mp q) ▸ hD)⟩
theorem own_name {scope : Scope} {cl : List (Str × Addr)} {x : Str} {pos : Pos} {v : Value} {mC : Str → Option Value} {Q : Value → Shared → Prop} (hx : scope.names.lookup x = some .local) (hkind : scope.kind = .function) (hd : (x == ("__debug__" : Str)) = false)
    (hn : s.heap.Ns C mC) (hv : mC x = some v) (h : Q v s) : wpAny (model prog w) A (eval (.Name x pos) (compEnvC scope cl C env)) Q E s :=
  ldVarK hn hv h (by simp [compEnvC, relabel, hkind]) (lookup_relabel_local hx) hd
theorem cell_name {scope : Scope} {cl : List (Str × Addr)} {x : Str} {pos : Pos} {v : Value} {c : Addr} {o : Obj} {Q : Value → Shared → Prop} (hk : (compEnvC scope cl C env).kindOf x = some .cell) (hkind : scope.kind = .function) (hd : (x == ("__debug__" : Str)) = false)
    (N : News h₀ L s.heap news) (hc : cl.lookup x = some c) (hm : (c, o) ∈ news) (ho : o.data = .cell (some v)) (h : Q v s) : wpAny (model prog w) A (eval (.Name x pos) (compEnvC scope cl C env)) Q E s :=
  lcf_cell N hc hm ho h (by simp [compEnvC, relabel, hkind]) hk hd
/-- a made list, named -/
theorem src_made {ax : Addr} {vs : List Value} {nn : Nat} {i1 : Expr} (hh : A.handled = none) (F : Fr h₀ L s.heap m) (N : News h₀ L s.heap news) (hm : (ax, W.listOf vs.toArray nn) ∈ news)
    (h : ∀ Q : Value → Shared → Prop, Q (.ref ax) s → wpAny (model prog w) A (eval i1 env) Q E s) :
    wpAny (model prog w) A (eval i1 env) (SrcAt1 prog w A E s h₀ L m news vs.length (fun i v => vs[i]? = some v)) E s := by
  refine h _ fun Q' hQ => ?_
  have hl := News.isList N hm
  refine srcTop_list hh F N hl fun it h' S => ?_
  have e : vs.toArray.size = vs.length := by simp
  rw [e] at S
  have e2 : (fun (i : Nat) (v : Value) => vs.toArray[i]? = some v) = fun i v => vs[i]? = some v := by funext i v; simp
  rw [e2] at S
  exact hQ it h' s.toks S
theorem exec_texts {x1 x2 z y : Str} {pa pb pe p1 p2 pz py : Pos} {i1 : Expr} {scope : Scope} {cl : List (Str × Addr)} {pos spos : Pos} {Q : Flow → Shared → Prop} {vs : List Value} {xs : List Str} {sg : Str} {tsg : Tok} {c : Addr} {o : Obj}
    (F : Fr h₀ L s.heap m) (N : News h₀ L s.heap news)
    (hsw : swapsWith (.ListComp (.BinOp (.Name x1 pa) .Add (.Name x2 pb) pe) [⟨.Name x1 p1, i1, [], 0⟩, ⟨.Name x2 p2, .Name z pz, [], 0⟩] scope pos) (some (.Name y py)) spos.line env = pure true)
    (hclos : closureFor scope env = pure cl) (hcell : ∀ y ∈ scope.names, y.2 ≠ .cell) (hkind : scope.kind = .function) (hnames : ∀ y ∈ scope.names, y.2 = .local → scope.names.lookup y.1 = some .local)
    (hx1 : scope.names.lookup x1 = some .local) (hx2 : scope.names.lookup x2 = some .local) (hne : x1 ≠ x2) (hd1 : (x1 == ("__debug__" : Str)) = false) (hd2 : (x2 == ("__debug__" : Str)) = false) (hdz : (z == ("__debug__" : Str)) = false)
    (hkz : ∀ C, (compEnvC scope cl C env).kindOf z = some .cell) (hcz : cl.lookup z = some c) (hmz : (c, o) ∈ news) (hoz : o.data = .cell (some (.str sg tsg)))
    (hs : ∀ x, foldedSetIterable i1 env x = pure x) (hs2 : ∀ C x, foldedSetIterable (.Name z pz) (compEnvC scope cl C env) x = pure x)
    (hL : env.locals = L) (hy : env.kindOf y = some .local) (hp : (env.scope.kind == .class || (env.scope.kind == .module && env.locals != env.globals)) = false)
    (hh : A.handled = none)
    (hsrc : wpAny (model prog w) A (eval i1 env) (SrcAt1 prog w A E s h₀ L m news vs.length (fun i v => vs[i]? = some v)) E s) (hvs : StrsAre vs xs) (hxl : ∀ a ∈ xs, a.length ≤ 100)
    (hbig : (xs.flatMap fun a => (signsOf sg).map (a ++ ·)).length ≤ 1000000)
    (k : ∀ ys D h' tk', StrsAre ys (xs.flatMap fun a => (signsOf sg).map (a ++ ·)) → Fr h₀ L h' (fun z => if z = y then some (.ref D) else m z) → News h₀ L h' ((D, LCg.lst ys) :: news) → (∀ p ∈ news, p.1 < D) → Q .next { s with heap := h', toks := tk' }) :
    wpAny (model prog w) A (exec (.Assign [.Name y py] (.ListComp (.BinOp (.Name x1 pa) .Add (.Name x2 pb) pe) [⟨.Name x1 p1, i1, [], 0⟩, ⟨.Name x2 p2, .Name z pz, [], 0⟩] scope pos) spos) env) Q E s := by
  clear F N
  have hg : ∀ a : Str, ((signsOf sg).map (a ++ ·)).length = sg.cps.size := fun a => by rw [List.length_map, signsOf_length]
  refine exec_comp (P := fun i v => vs[i]? = some v) hsw hclos hkind hnames hs hsrc fun it h₂ tk₂ S => ?_
  refine loop_lc2 (n2 := sg.cps.size) (P2 := SignAt sg) (P := fun i v => vs[i]? = some v) (B1 := fun C v mC => mC x1 = some v) (B2 := fun C v mC => mC x2 = some v)
    (Rr := fun i j ys nx => nx = news ∧ StrsAre ys (soFar (fun a => (signsOf sg).map (a ++ ·)) xs i j)) hcell hkind hs2 ?_ ?_ ?_ ?_ ?_ ?_ ?_ ?_ S
  · rintro i j ys nx ⟨_, h⟩
    have := soFar_le (fun a => (signsOf sg).map (a ++ ·)) xs i j
    rw [strs_len h]
    omega
  · rintro i ys nx ⟨e, h⟩
    exact ⟨e, soFar_next _ xs i _ hg ▸ h⟩
  · exact ⟨rfl, by rw [soFar_zero]; exact .nil⟩
  · intro C I i v h tk mC ys nx E' hi hP hR hn N
    refine wpAny_mono (asg_name hx1 hkind hn) (fun _ s' q => ?_) fun _ _ e => e
    obtain ⟨h', tk', mC', e1, e2, e3, e4⟩ := q
    exact ⟨h', tk', mC', e1, e2, e3, by rw [e4]; exact if_pos rfl⟩
  · intro C D I i v h tk mC ys nx E' hi hP hB hR F hn N hD
    obtain ⟨rfl, _⟩ := hR
    refine cell_name (hkz C) hkind hdz N hcz hmz hoz ⟨h, tk, rfl, fun _ _ e => e, fun E'' => ?_⟩
    obtain ⟨oD, eD⟩ := hD
    exact srcIn_str hh hn.lt (Heap.lt_size eD)
  · intro C i v1 I2 j v h tk mC ys nx E' hi hP hj hP2 hB hR hn N
    refine wpAny_mono (asg_name hx2 hkind hn) (fun _ s' q => ?_) fun _ _ e => e
    obtain ⟨h', tk', mC', e1, e2, e3, e4⟩ := q
    exact ⟨h', tk', mC', e1, e2, e3, by rw [e4]; exact (if_neg hne).trans hB, by rw [e4]; exact if_pos rfl⟩
  · intro C i v1 j v h tk mC ys nx E' hi hP hj hP2 hB1 hB2 hR F hn N
    obtain ⟨e, hR⟩ := hR
    obtain ⟨a, ta, ha, rfl⟩ := strs_at hvs hP
    obtain ⟨b, tb, hb, rfl⟩ := signAt_of hP2
    have hal := hxl a (List.mem_of_getElem? ha)
    have hbl : b.length = 1 := by
      have := List.mem_of_getElem? hb
      unfold signsOf at this
      obtain ⟨c, _, rfl⟩ := List.mem_map.mp this
      rfl
    refine wpAny_BinOp (own_name hx1 hkind hd1 hn hB1 (own_name hx2 hkind hd2 hn hB2 (add_str (fun t' tk' => ?_) (by rw [sizeLine_eq]; omega))))
    refine ⟨h, tk', nx, rfl, fun _ _ e => e, N, fun p hp => .inl hp, e, ?_⟩
    rw [soFar_snoc ha (by rw [List.getElem?_map, hb]; rfl)]
    exact strs_snoc hR
  · intro C D I Z h tk mC ys nx ap hlt H hR
    obtain ⟨rfl, hR⟩ := hR
    refine post_A hL hy hp ap H fun h' tk' F' N' o' => ?_
    refine k ys D h' tk' ?_ F' N' hlt
    rw [strs_len hvs, soFar_all] at hR
    exact hR
end
def textsF (sg : Str) : Nat → List Str
  | 0 => [Str.empty]
  | k + 1 => (textsF sg k).flatMap fun a => (signsOf sg).map (a ++ ·)
theorem str_append_len (a b : Str) : (a ++ b).length = a.length + b.length := by
  show (a.cps ++ b.cps).size = _
  simp [Str.length]
theorem textsF_len (sg : Str) : ∀ k, ∀ a ∈ textsF sg k, a.length = k
  | 0 => fun a h => by rw [List.mem_singleton.mp h]; rfl
  | k + 1 => fun a h => by
    obtain ⟨b, hb, h⟩ := List.mem_flatMap.mp h
    obtain ⟨c, hc, rfl⟩ := List.mem_map.mp h
    obtain ⟨d, _, rfl⟩ := List.mem_map.mp hc
    rw [str_append_len, textsF_len sg k b hb]
    rfl
theorem flatMap_len {α β : Type} (g : α → List β) (n : Nat) (hg : ∀ a, (g a).length = n) : ∀ xs : List α, (xs.flatMap g).length = xs.length * n
  | [] => by simp
  | a :: r => by rw [List.flatMap_cons, List.length_append, hg, flatMap_len g n hg r, List.length_cons, Nat.add_mul]; omega
theorem textsF_count (sg : Str) : ∀ k, (textsF sg k).length = sg.length ^ k
  | 0 => rfl
  | k + 1 => by rw [textsF, flatMap_len _ sg.length (fun a => by rw [List.length_map, signsOf_length]; rfl), textsF_count sg k, Nat.pow_succ]
theorem texts_room {sg : Str} {k : Nat} (hs : sg.length ≤ 3) (hk : k ≤ 4) : (textsF sg k).length ≤ 81 := by
  rw [textsF_count]
  have h1 : sg.length ^ k ≤ 3 ^ k := Nat.pow_le_pow_left hs k
  have h2 : 3 ^ k ≤ 3 ^ 4 := Nat.pow_le_pow_right (by decide) hk
  omega
theorem texts_room2 {sg : Str} {k : Nat} (hs : sg.length ≤ 3) (hk : k < 4) : ((textsF sg k).flatMap fun a => (signsOf sg).map (a ++ ·)).length ≤ 1000000 := by
  have := texts_room (k := k + 1) hs (by omega)
  rw [textsF] at this
  omega
/-- a call that gives a new list of texts -/
abbrev ClL (prog : Program) (w : World) (K : Frag) (p : Program) (loose : List Str) (mean : ExcName → Option Value) (mg mb : Str → Option Value) (f : Addr) (news : List (Addr × Obj)) (pre : Prop) (vs : List Value) (ys : List Str) : Prop :=
  ∀ (dp un : Nat) (gd : Option (List Code)) (cn : Str) (cs : Scope) (a : Addr) (ccd : Value) (cl : List (Str × Addr)) (outer : List Env) (A₀ : Around) (base h₀ : Heap) (L : Addr) (m : Str → Option Value) (s : Shared) (Q E : Value → Shared → Prop),
    Below A₀ base outer h₀ → Fr h₀ L s.heap m → K.In h₀ → News h₀ L s.heap news → Top p loose mean mg mb h₀ → cs.kind = .function →
    pre → dp + 5 < recursionLimit → un + 50 < cLine →
    (∀ D us nn h' tk', Fr h₀ L h' m → News h₀ L h' ((D, W.listOf (List.toArray us) nn) :: news) → (∀ p ∈ news, p.1 < D) → StrsAre us ys → Q (.ref D) { s with heap := h', toks := tk' }) →
      wpAny (model prog w) (ktrTop dp un gd cn cs L a ccd cl outer) (call (.ref f) vs) Q E s
end Mine
end
section
open PySem PySem.W PyProof.Rows PySem.Calls
namespace Mine
section
variable {M : Model} {A : Around} {E : Value → Shared → Prop} {s : Shared} {h₀ : Heap} {L a : Addr} {m : Str → Option Value} {cn : Str} {cs : Scope} {ccd : Value} {cl : List (Str × Addr)}
  {x : Str} {v : Value} {Q : Unit → Shared → Prop} {news : List (Addr × Obj)} {c : Addr} {o : Obj} {v₀ : Option Value}
/-- a cell gets a value; of the ledger we keep what we name -/
theorem storeC (news' : List (Addr × Obj)) (F : Fr h₀ L s.heap m) (N : News h₀ L s.heap news) (hc : cl.lookup x = some c) (hd : o.data = .cell v₀) (hm : (c, o) ∈ news) (hs : ∀ p ∈ news', p ∈ news) (hn : ∀ p ∈ news', p.1 ≠ c)
    (h : ∀ h' o', Fr h₀ L h' m → News h₀ L h' ((c, o') :: news') → o'.data = .cell (some v) → Q () { s with heap := h' })
    (hk : cs.kind = .function := by rfl) (hx : (envX cn cs L a ccd cl).kindOf x = some .cell := by rfl) : wpAny M A (storeName (envX cn cs L a ccd cl) x v) Q E s := by
  have hmem := N (c, o) hm
  refine wpAny_storeName_cell hk hx hc ⟨o, hmem.1, hd⟩ fun h' hv hsb => ?_
  obtain ⟨o', ho', hd'⟩ := hv
  refine h h' o' ⟨F.ns.sameBut hsb (Ne.symm hmem.2.1), fun b ob e => (hsb.2 b (fun q => ?_)).trans (F.keep b ob e), F.above⟩ (fun p hp => ?_) hd'
  · rw [q, hmem.2.2] at e; cases e
  · rcases List.mem_cons.mp hp with rfl | hp
    · exact ⟨ho', hmem.2.1, hmem.2.2⟩
    · exact ⟨hsb.extBut _ _ (hn p hp) (N p (hs p hp)).1, (N p (hs p hp)).2⟩
end
/-- the ways, turn by turn -/
def waysF (others : Int) (size : Nat) : Nat → List Int
  | 0 => [1] ++ List.replicate size 0
  | k + 1 => [others * (waysF others size k).getD 0 0] ++ (rangeKs 1 size).map fun j => others * (waysF others size k).getD j.toNat 0 + (waysF others size k).getD (j - 1).toNat 0
theorem waysF_length (others : Int) (size : Nat) : ∀ k, (waysF others size k).length = size + 1
  | 0 => by simp [waysF]
  | k + 1 => by simp [waysF, rangeKs_length]
theorem waysF_bound {others : Int} (h0 : 0 ≤ others) (h2 : others ≤ 2) (size : Nat) : ∀ k, ∀ i, 0 ≤ (waysF others size k).getD i 0 ∧ (waysF others size k).getD i 0 ≤ 3 ^ k
  | 0 => fun i => by
    rcases Nat.eq_zero_or_pos i with rfl | hi
    · simp [waysF]
    · obtain ⟨j, rfl⟩ : ∃ j, i = j + 1 := ⟨i - 1, by omega⟩
      have : (waysF others size 0).getD (j + 1) 0 = 0 := by
        rw [waysF, List.getD_eq_getElem?_getD]
        simp only [List.cons_append, List.nil_append, List.getElem?_cons_succ, List.getElem?_replicate]
        split <;> rfl
      rw [this]
      exact ⟨Int.le_refl _, by decide⟩
  | k + 1 => fun i => by
    have ih := waysF_bound h0 h2 size k
    have hm : ∀ x : Int, 0 ≤ x → x ≤ 3 ^ k → 0 ≤ others * x ∧ others * x ≤ 2 * 3 ^ k := fun x hx0 hx1 => ⟨Int.mul_nonneg h0 hx0, Int.mul_le_mul h2 hx1 hx0 (by decide)⟩
    have hp : (0 : Int) ≤ 3 ^ k := Int.pow_nonneg (by decide)
    have hpk : (3 : Int) ^ (k + 1) = 3 * 3 ^ k := by rw [Int.pow_succ, Int.mul_comm]
    rw [hpk, waysF]
    rcases Nat.eq_zero_or_pos i with rfl | hi
    · have := hm _ (ih 0).1 (ih 0).2
      simp only [List.cons_append, List.nil_append, List.getD_cons_zero]
      omega
    · obtain ⟨j, rfl⟩ : ∃ j, i = j + 1 := ⟨i - 1, by omega⟩
      simp only [List.cons_append, List.nil_append, List.getD_cons_succ]
      rw [List.getD_eq_getElem?_getD, List.getElem?_map]
      cases e : (rangeKs 1 size)[j]? with
      | none => simp only [Option.map_none, Option.getD_none]; omega
      | some q =>
        simp only [Option.map_some, Option.getD_some]
        have a := hm _ (ih q.toNat).1 (ih q.toNat).2
        have b := ih (q - 1).toNat
        omega
theorem waysF_small {others : Int} (h0 : 0 ≤ others) (h2 : others ≤ 2) (size : Nat) {k : Nat} (hk : k ≤ 4) (i : Nat) : 0 ≤ (waysF others size k).getD i 0 ∧ (waysF others size k).getD i 0 ≤ 81 := by
  have h := waysF_bound h0 h2 size k i
  have : (3 : Int) ^ k ≤ 81 := by
    rcases k with _ | _ | _ | _ | _ | k
    all_goals first | decide | omega
  omega
def stepF (others : Int) (size : Nat) (ns : List Int) : List Int := [others * ns.getD 0 0] ++ (rangeKs 1 size).map fun j => others * ns.getD j.toNat 0 + ns.getD (j - 1).toNat 0
theorem waysF_succ (others : Int) (size k : Nat) : waysF others size (k + 1) = stepF others size (waysF others size k) := rfl
end Mine
end
section
open PySem PySem.W PyProof.Rows PySem.Calls
namespace Mine
section
variable {prog : Program} {w : World} {A : Around} {E : Value → Shared → Prop} {s : Shared} {h₀ : Heap} {L : Addr} {m : Str → Option Value} {C D I : Addr} {news : List (Addr × Obj)} {env : Env}
theorem srcAt1_range {r : Addr} {a b : Int} {t u v : Tok} {n : Nat} {h₁ : Heap} {tk₁ : Nat} (hh : A.handled = none) (F : Fr h₀ L h₁ m) (N : News h₀ L h₁ news) (hr : IsRange h₁ r a b 1 t u v) (hsm : Builtin.Range.small a b 1 = true) (hn : Builtin.Range.rangeSize a b 1 = (n : Int)) :
    SrcAt1 prog w A E s h₀ L m news n (fun i v => ∃ t, v = .int (a + (i : Int)) t) (.ref r) { s with heap := h₁, toks := tk₁ } := by
  intro Q' hQ
  have up : ∀ (ob : Obj) b o, h₁.get? b = some o → (h₁.push ob).get? b = some o := fun ob b o e => Heap.get?_push_of_some _ e
  refine wpAny_pyIter_range hr hsm (hQ _ _ tk₁ ⟨_, _, _, rfl, F.keeps (up _), N.grown (up _), Ne.symm (Nat.ne_of_lt F.ns.lt), next_is_new F, fun p hp => Nat.ne_of_lt (Heap.lt_size (N p hp).1), LCg.range_walks hh a n, (by show IsRangeIter _ _ _ _ _; rw [hn]; simpa using Heap.get?_push_size _ rfl), ?_⟩)
  intro i h st b hb
  rw [List.mem_singleton.mp hb]
  exact ⟨_, st⟩
theorem ints_snoc {k : Int} {t : Tok} {vs : List Value} {ns : List Int} (h : IntsAre vs ns) : IntsAre (vs ++ [.int k t]) (ns ++ [k]) := IntsAre.append h (.cons k t .nil)
/-- a comprehension over a range, its element an int that is reckoned without making anything -/
theorem eval_ints {elt i1 : Expr} {x : Str} {px : Pos} {scope : Scope} {cl : List (Str × Addr)} {pos : Pos} {n : Nat} {a : Int} {Q : Value → Shared → Prop} (g : Int → Int) (F : Fr h₀ L s.heap m) (N : News h₀ L s.heap news)
    (hclos : closureFor scope env = pure cl) (hcell : ∀ y ∈ scope.names, y.2 ≠ .cell) (hkind : scope.kind = .function) (hnames : ∀ y ∈ scope.names, y.2 = .local → scope.names.lookup y.1 = some .local) (hx : scope.names.lookup x = some .local)
    (hs : ∀ x, foldedSetIterable i1 env x = pure x)
    (hsrc : wpAny (model prog w) A (eval i1 env) (SrcAt1 prog w A E s h₀ L m news n (fun i v => ∃ t, v = .int (a + (i : Int)) t)) E s) (hn : n ≤ 1000000)
    (helt : ∀ C k t h tk mC (E' : Value → Shared → Prop), a ≤ k → k < a + (n : Int) → mC x = some (.int k t) → Fr h₀ L h m → h.Ns C mC → News h₀ L h news →
      wpAny (model prog w) A (eval elt (compEnvC scope cl C env)) (fun y s' => ∃ tk' t', y = .int (g k) t' ∧ s' = { s with heap := h, toks := tk' }) E' { s with heap := h, toks := tk })
    (hfin : ∀ D ys h' tk', IntsAre ys ((rangeKs a n).map g) → Fr h₀ L h' m → News h₀ L h' ((D, LCg.lst ys) :: news) → (∀ p ∈ news, p.1 < D) → Q (.ref D) { s with heap := h', toks := tk' }) :
    wpAny (model prog w) A (eval (.ListComp elt [⟨.Name x px, i1, [], 0⟩] scope pos) env) Q E s := by
  clear F N
  refine eval_comp (P := fun i v => ∃ t, v = .int (a + (i : Int)) t) hclos hkind hnames hs hsrc fun it h₂ tk₂ S => ?_
  refine loop_lc1 (P := fun i v => ∃ t, v = .int (a + (i : Int)) t) (B := fun C v mC => mC x = some v) (Rr := fun j ys nx => nx = news ∧ IntsAre ys (((rangeKs a n).take j).map g)) hcell hkind ?_ ⟨rfl, by simp only [List.take_zero, List.map_nil]; exact .nil⟩ ?_ ?_ ?_ S
  · rintro j ys nx ⟨_, h⟩
    rw [h.length, List.length_map, List.length_take, rangeKs_length]
    omega
  · intro C I j v h tk mC ys nx E' hj hP hR hn N
    refine wpAny_mono (asg_name hx hkind hn) (fun _ s' q => ?_) fun _ _ e => e
    obtain ⟨h', tk', mC', e1, e2, e3, e4⟩ := q
    exact ⟨h', tk', mC', e1, e2, e3, by rw [e4]; exact if_pos rfl⟩
  · intro C j v h tk mC ys nx E' hj hP hB hR F hn N
    obtain ⟨e, hR⟩ := hR
    subst e
    obtain ⟨t, rfl⟩ := hP
    refine wpAny_mono (helt C (a + (j : Int)) t h tk mC E' (by omega) (by omega) hB F hn N) (fun y s' q => ?_) fun _ _ e => e
    obtain ⟨tk', t', rfl, rfl⟩ := q
    refine ⟨h, tk', nx, rfl, fun _ _ e => e, N, fun p hp => .inl hp, rfl, ?_⟩
    have hk : (rangeKs a n)[j]? = some (a + (j : Int)) := by simp [rangeKs, hj]
    rw [List.take_add_one, hk]
    simpa using ints_snoc hR
  · intro C D I Z h tk mC ys nx ap hlt H hR
    obtain ⟨e, hR⟩ := hR
    subst e
    refine post_E ap H fun h' tk' F' N' o' => hfin D ys h' tk' ?_ F' N' hlt
    rw [List.take_of_length_le (by rw [rangeKs_length]; exact Nat.le_refl _)] at hR
    exact hR
/-- others * ways[j] + ways[j - 1] -/
theorem elt_way {xo xw xj : Str} {po pw pj ps pm pw2 pj2 pc pb ps2 pa : Pos} {scope : Scope} {cl : List (Str × Addr)} {cO cW l : Addr} {oO oW : Obj} {others : Int} {tO tj : Tok} {vs : List Value} {ns : List Int} {nn : Nat} {mC : Str → Option Value} {k : Int} {Q : Value → Shared → Prop}
    (hkind : scope.kind = .function) (hj : scope.names.lookup xj = some .local) (hko : (compEnvC scope cl C env).kindOf xo = some .cell) (hkw : (compEnvC scope cl C env).kindOf xw = some .cell)
    (hdo : (xo == ("__debug__" : Str)) = false) (hdw : (xw == ("__debug__" : Str)) = false) (hdj : (xj == ("__debug__" : Str)) = false) (hco : cl.lookup xo = some cO) (hcw : cl.lookup xw = some cW)
    (N : News h₀ L s.heap news) (hmo : (cO, oO) ∈ news) (hoO : oO.data = .cell (some (.int others tO))) (hmw : (cW, oW) ∈ news) (hoW : oW.data = .cell (some (.ref l))) (hml : (l, W.listOf vs.toArray nn) ∈ news) (hI : IntsAre vs ns)
    (hn : s.heap.Ns C mC) (hv : mC xj = some (.int k tj)) (h1 : 1 ≤ k) (h2 : k < ns.length) (hfit : ns.length < 2 ^ 62) (hm : IntMulOk others (ns.getD k.toNat 0))
    (h : ∀ tk t, Q (.int (others * ns.getD k.toNat 0 + ns.getD (k - 1).toNat 0) t) { s with toks := tk }) :
    wpAny (model prog w) A (eval (.BinOp (.BinOp (.Name xo po) .Mult (.Subscript (.Name xw pw) (.Name xj pj) ps) pm) .Add (.Subscript (.Name xw pw2) (.BinOp (.Name xj pj2) .Sub (.Constant (.int 1) 0 pc) pb) ps2) pa) (compEnvC scope cl C env)) Q E s := by
  have hl := News.isList N hml
  refine wpAny_BinOp (wpAny_BinOp (cell_name hko hkind hdo N hco hmo hoO ?_))
  refine Subscript_ (cell_name hkw hkind hdw N hcw hmw hoW (own_name hj hkind hdj hn hv ?_))
  refine item_anyK hl hI (by omega) h2 (by omega) fun t1 => ?_
  refine mul_int ?_ hm
  refine Subscript_ (cell_name (s := { s with toks := s.toks + 1 }) hkw hkind hdw N hcw hmw hoW ?_)
  refine wpAny_BinOp (own_name (s := { s with toks := s.toks + 1 }) hj hkind hdj hn hv (wpAny_Constant_int (sub_int ?_)))
  refine item_anyK (s := { s with toks := s.toks + 1 + 1 + 1 }) hl hI (by omega) (by omega) (by omega) fun t2 => ?_
  exact add_int (h _ _)
end
end Mine
end
section
open PySem PySem.W PyProof.Rows PySem.Calls
namespace Mine
section
variable {prog : Program} {w : World} {A : Around} {E : Value → Shared → Prop} {s : Shared} {env : Env} {h₀ : Heap} {L : Addr} {m₀ : Str → Option Value} {news : List (Addr × Obj)} {t : Sem Value} {Q : Value → Shared → Prop}
/-- a value: a new list of ints -/
def OutLV (h₀ : Heap) (L : Addr) (m₀ : Str → Option Value) (news : List (Addr × Obj)) (ns : List Int) (s : Shared) (v : Value) (s' : Shared) : Prop :=
  ∃ D vs nn h' k, v = .ref D ∧ s' = { s with heap := h', toks := k } ∧ Fr h₀ L h' m₀ ∧ News h₀ L h' ((D, W.listOf (List.toArray vs) nn) :: news) ∧ (∀ p ∈ news, p.1 < D) ∧ IntsAre vs ns
theorem cutLV (F : Fr h₀ L s.heap m₀) (N : News h₀ L s.heap news) (ns : List Int) (h : wpAny (model prog w) A t (OutLV h₀ L m₀ news ns s) E s)
    (k : ∀ D vs nn h' k', Fr h₀ L h' m₀ → News h₀ L h' ((D, W.listOf (List.toArray vs) nn) :: news) → (∀ p ∈ news, p.1 < D) → IntsAre vs ns → Q (.ref D) { s with heap := h', toks := k' }) : wpAny (model prog w) A t Q E s :=
  wpAny_mono h (fun f s' ⟨D, vs, nn, h', k', e, e', F', N', l, hI⟩ => by subst e; subst e'; exact k D vs nn h' k' F' N' l hI) fun _ _ e => e
theorem outLV {D : Addr} {vs : List Value} {nn : Nat} {h' : Heap} {k : Nat} {ns ns' : List Int} {news' : List (Addr × Obj)} (F : Fr h₀ L h' m₀) (hI : IntsAre vs ns') (e : ns' = ns) (N : News h₀ L h' news') (hm : (D, W.listOf (List.toArray vs) nn) ∈ news') (hs : ∀ p ∈ news, p ∈ news') (hl : ∀ p ∈ news, p.1 < D) :
    OutLV h₀ L m₀ news ns s (.ref D) { s with heap := h', toks := k } := by
  subst e
  refine ⟨D, vs, nn, h', k, rfl, rfl, F, fun p hp => N p ?_, hl, hI⟩
  rcases List.mem_cons.mp hp with rfl | hp
  · exact hm
  · exact hs p hp
/-- a value: an int -/
def OutIV (h₀ : Heap) (L : Addr) (m₀ : Str → Option Value) (news : List (Addr × Obj)) (n : Int) (s : Shared) (v : Value) (s' : Shared) : Prop :=
  ∃ t h' k, v = .int n t ∧ s' = { s with heap := h', toks := k } ∧ Fr h₀ L h' m₀ ∧ News h₀ L h' news
theorem cutIV (F : Fr h₀ L s.heap m₀) (N : News h₀ L s.heap news) (n : Int) (h : wpAny (model prog w) A t (OutIV h₀ L m₀ news n s) E s)
    (k : ∀ t h' k', Fr h₀ L h' m₀ → News h₀ L h' news → Q (.int n t) { s with heap := h', toks := k' }) : wpAny (model prog w) A t Q E s :=
  wpAny_mono h (fun f s' ⟨t, h', k', e, e', F', N'⟩ => by subst e; subst e'; exact k t h' k' F' N') fun _ _ e => e
theorem outIV {h' : Heap} {k : Nat} {n n' : Int} {t : Tok} {news' : List (Addr × Obj)} (F : Fr h₀ L h' m₀) (e : n' = n) (N : News h₀ L h' news') (hs : ∀ p ∈ news, p ∈ news') :
    OutIV h₀ L m₀ news n s (.int n' t) { s with heap := h', toks := k } := by
  subst e
  exact ⟨t, h', k, rfl, rfl, F, fun p hp => N p (hs p hp)⟩
/-- a value: a text -/
def OutSV (h₀ : Heap) (L : Addr) (m₀ : Str → Option Value) (news : List (Addr × Obj)) (n : Str) (s : Shared) (v : Value) (s' : Shared) : Prop :=
  ∃ t h' k, v = .str n t ∧ s' = { s with heap := h', toks := k } ∧ Fr h₀ L h' m₀ ∧ News h₀ L h' news
theorem cutSV (F : Fr h₀ L s.heap m₀) (N : News h₀ L s.heap news) (n : Str) (h : wpAny (model prog w) A t (OutSV h₀ L m₀ news n s) E s)
    (k : ∀ t h' k', Fr h₀ L h' m₀ → News h₀ L h' news → Q (.str n t) { s with heap := h', toks := k' }) : wpAny (model prog w) A t Q E s :=
  wpAny_mono h (fun f s' ⟨t, h', k', e, e', F', N'⟩ => by subst e; subst e'; exact k t h' k' F' N') fun _ _ e => e
theorem outSV {h' : Heap} {k : Nat} {n n' : Str} {t : Tok} {news' : List (Addr × Obj)} (F : Fr h₀ L h' m₀) (e : n' = n) (N : News h₀ L h' news') (hs : ∀ p ∈ news, p ∈ news') :
    OutSV h₀ L m₀ news n s (.str n' t) { s with heap := h', toks := k } := by
  subst e
  exact ⟨t, h', k, rfl, rfl, F, fun p hp => N p (hs p hp)⟩
end
section
variable {prog : Program} {w : World} {A : Around} {E : Value → Shared → Prop} {s : Shared} {h₀ : Heap} {L : Addr} {m : Str → Option Value} {C D I : Addr} {news : List (Addr × Obj)} {env : Env}
/-- a comprehension over anything, its element a text that is made of the item alone -/
theorem eval_strs {elt i1 : Expr} {x : Str} {px : Pos} {scope : Scope} {cl : List (Str × Addr)} {pos : Pos} {n : Nat} {P : Nat → Value → Prop} {Q : Value → Shared → Prop} (rs : List Str) (hrs : rs.length = n) (F : Fr h₀ L s.heap m) (N : News h₀ L s.heap news)
    (hclos : closureFor scope env = pure cl) (hcell : ∀ y ∈ scope.names, y.2 ≠ .cell) (hkind : scope.kind = .function) (hnames : ∀ y ∈ scope.names, y.2 = .local → scope.names.lookup y.1 = some .local) (hx : scope.names.lookup x = some .local)
    (hs : ∀ x, foldedSetIterable i1 env x = pure x)
    (hsrc : wpAny (model prog w) A (eval i1 env) (SrcAt1 prog w A E s h₀ L m news n P) E s) (hn : n ≤ 1000000)
    (helt : ∀ C j v y h tk mC (E' : Value → Shared → Prop), rs[j]? = some y → P j v → mC x = some v → Fr h₀ L h m → h.Ns C mC → News h₀ L h news →
      wpAny (model prog w) A (eval elt (compEnvC scope cl C env)) (fun z s' => ∃ tk' t', z = .str y t' ∧ s' = { s with heap := h, toks := tk' }) E' { s with heap := h, toks := tk })
    (hfin : ∀ D ys h' tk', StrsAre ys rs → Fr h₀ L h' m → News h₀ L h' ((D, LCg.lst ys) :: news) → (∀ p ∈ news, p.1 < D) → Q (.ref D) { s with heap := h', toks := tk' }) :
    wpAny (model prog w) A (eval (.ListComp elt [⟨.Name x px, i1, [], 0⟩] scope pos) env) Q E s := by
  clear F N
  refine eval_comp (P := P) hclos hkind hnames hs hsrc fun it h₂ tk₂ S => ?_
  refine loop_lc1 (P := P) (B := fun C v mC => mC x = some v) (Rr := fun j ys nx => nx = news ∧ StrsAre ys (rs.take j)) hcell hkind ?_ ⟨rfl, by simp only [List.take_zero]; exact .nil⟩ ?_ ?_ ?_ S
  · rintro j ys nx ⟨_, h⟩
    rw [strs_len h, List.length_take]
    omega
  · intro C I j v h tk mC ys nx E' hj hP hR hn N
    refine wpAny_mono (asg_name hx hkind hn) (fun _ s' q => ?_) fun _ _ e => e
    obtain ⟨h', tk', mC', e1, e2, e3, e4⟩ := q
    exact ⟨h', tk', mC', e1, e2, e3, by rw [e4]; exact if_pos rfl⟩
  · intro C j v h tk mC ys nx E' hj hP hB hR F hn N
    obtain ⟨e, hR⟩ := hR
    subst e
    have hj' : j < rs.length := by omega
    refine wpAny_mono (helt C j v _ h tk mC E' (List.getElem?_eq_getElem hj') hP hB F hn N) (fun y s' q => ?_) fun _ _ e => e
    obtain ⟨tk', t', rfl, rfl⟩ := q
    refine ⟨h, tk', nx, rfl, fun _ _ e => e, N, fun p hp => .inl hp, rfl, ?_⟩
    rw [List.take_add_one, List.getElem?_eq_getElem hj']
    exact strs_snoc hR
  · intro C D I Z h tk mC ys nx ap hlt H hR
    obtain ⟨e, hR⟩ := hR
    subst e
    refine post_E ap H fun h' tk' F' N' o' => hfin D ys h' tk' ?_ F' N' hlt
    rw [List.take_of_length_le (by omega)] at hR
    exact hR
/-- pair[x % 2] -/
theorem elt_pick {xp xx : Str} {pp px pc pb ps : Pos} {scope : Scope} {cl : List (Str × Addr)} {cP : Addr} {oP : Obj} {pair : Str} {tP tx : Tok} {mC : Str → Option Value} {k : Int} {Q : Value → Shared → Prop}
    (hkind : scope.kind = .function) (hj : scope.names.lookup xx = some .local) (hkp : (compEnvC scope cl C env).kindOf xp = some .cell)
    (hdp : (xp == ("__debug__" : Str)) = false) (hdx : (xx == ("__debug__" : Str)) = false) (hcp : cl.lookup xp = some cP)
    (N : News h₀ L s.heap news) (hmp : (cP, oP) ∈ news) (hoP : oP.data = .cell (some (.str pair tP)))
    (hn : s.heap.Ns C mC) (hv : mC xx = some (.int k tx)) (hlen : pair.length = 2)
    (h : ∀ tk t, Q (.str (Txt.item pair (k.fmod 2)) t) { s with toks := tk }) :
    wpAny (model prog w) A (eval (.Subscript (.Name xp pp) (.BinOp (.Name xx px) .Mod (.Constant (.int 2) 0 pc) pb) ps) (compEnvC scope cl C env)) Q E s := by
  have h0 : 0 ≤ k.fmod 2 := fmod_lo _ (by decide)
  have h1 : k.fmod 2 < 2 := fmod_hi _ (by decide)
  refine Subscript_ (cell_name hkp hkind hdp N hcp hmp hoP (wpAny_BinOp (own_name hj hkind hdx hn hv (wpAny_Constant_int (mod_int (by decide) ?_)))))
  exact item_str (fitsSsize_of (N := 9223372036854775808) (by omega) (by omega) (Int.le_refl _)) (by omega) (by omega) fun _ => h _ _
/-- sign + '...' -/
theorem elt_plus {xx : Str} {px pc pb : Pos} {kc : Nat} {c : Str} {scope : Scope} {cl : List (Str × Addr)} {y : Str} {tx : Tok} {mC : Str → Option Value} {Q : Value → Shared → Prop}
    (hkind : scope.kind = .function) (hj : scope.names.lookup xx = some .local) (hdx : (xx == ("__debug__" : Str)) = false)
    (hn : s.heap.Ns C mC) (hv : mC xx = some (.str y tx)) (hlen : y.length + c.length ≤ 1000)
    (h : ∀ tk t, Q (.str (y ++ c) t) { s with toks := tk }) :
    wpAny (model prog w) A (eval (.BinOp (.Name xx px) .Add (.Constant (.str c) kc pc) pb) (compEnvC scope cl C env)) Q E s :=
  wpAny_BinOp (own_name hj hkind hdx hn hv (wpAny_Constant_str (add_str (fun t tk => h tk t) (by rw [sizeLine_eq]; omega))))
theorem join_c {x : Str} {t : Tok} {D : Addr} {nn : Nat} {ys : List Value} {rs : List Str} {Q : Value → Shared → Prop} (N : News h₀ L s.heap news) (hm : (D, W.listOf ys.toArray nn) ∈ news) (hS : StrsAre ys rs) (h4 : ∀ a ∈ rs, a.length ≤ 4) (hx : x.length ≤ 8) (hn : rs.length ≤ 1000000)
    (h : ∀ t' k, Q (.str (Txt.join x rs) t') { s with toks := k }) : wpAny (model prog w) A (call (.builtin "str.join") [.str x t, .ref D]) Q E s := by
  refine KT.join_B (α := Str) (g := id) (l := rs) 4 (News.isList N hm) hS.carried h4 (by omega) (by omega) fun t' k => ?_
  rw [List.map_id]
  exact h t' k
theorem src_str {x : Str} {t : Tok} {i1 : Expr} (hh : A.handled = none) (F : Fr h₀ L s.heap m) (N : News h₀ L s.heap news)
    (h : ∀ Q : Value → Shared → Prop, Q (.str x t) s → wpAny (model prog w) A (eval i1 env) Q E s) :
    wpAny (model prog w) A (eval i1 env) (SrcAt1 prog w A E s h₀ L m news x.cps.size (SignAt x)) E s := by
  refine h _ fun Q' hQ => ?_
  exact srcTop_str hh F N fun it h' S => hQ it h' s.toks S
end
end Mine
end
section
open PySem PySem.W PyProof.Rows PySem.Calls
namespace Mine
def pairF (n : Int) : Str := [Str.ofString "ab", Str.ofString "aA", Str.ofString "# ", Str.ofString "\n\t"].getD ((n.fdiv 2).fmod 4).toNat Str.empty
def numF (ns : List Int) : List Int := if ns = [] then [0, 0] else ns.take 3
def wantF (word : Str) : Str := Str.ofString "..." ++ Txt.join (Str.ofString "") ((signsOf word).map fun y => y ++ Str.ofString "...")
def signsF (pair : Str) (total : Int) : Str := if total.fmod 2 = 1 then pair ++ Str.ofString "." else pair
def mostF (signs : Str) (n : Nat) : Int := if signs.length = 2 ∧ 1 < n then 4 else 3
def midF (word : Str) : List Str := Str.empty :: (signsOf word ++ [Str.empty])
def dueF (word : Str) (i : Nat) : Int := 2 * ((i : Int) - word.length)
def toldF (word y : Str) (i : Nat) : Int := if (i : Int).fmod 2 = 0 then lev word.cps.toList y.cps.toList (dueF word i) else lev y.cps.toList word.cps.toList (dueF word i)
def takenF (word : Str) (ys : List Str) : Nat := (ys.filter fun y => ellF y (midF word) 0).length
/-- what the law asks of one size -/
structure PureOK (word signs : Str) (i : Nat) : Prop where
  has : Txt.contains (wantF word) E3 = true
  cut : Txt.split (wantF word) E3 = midF word
  told : ∀ y ∈ textsF signs i, dueF word i ≤ toldF word y i ∧ ellF y (midF word) 0 = decide (toldF word y i = dueF word i)
  many : (takenF word (textsF signs i) : Int) = ((waysF ((signs.length : Int) - 1) i i).drop word.length).sum
theorem pairF_len (n : Int) : (pairF n).length = 2 := by
  have h0 : 0 ≤ (n.fdiv 2).fmod 4 := fmod_lo _ (by decide)
  have h1 : (n.fdiv 2).fmod 4 < 4 := fmod_hi _ (by decide)
  unfold pairF
  generalize (n.fdiv 2).fmod 4 = k at h0 h1
  have : k = 0 ∨ k = 1 ∨ k = 2 ∨ k = 3 := by omega
  rcases this with rfl | rfl | rfl | rfl <;> decide
theorem numF_len (ns : List Int) : (numF ns).length ≤ 3 := by
  unfold numF
  split
  · decide
  · rw [List.length_take]; omega
theorem ints_at {vs : List Value} {ns : List Int} (h : IntsAre vs ns) {i : Nat} {v : Value} (e : vs[i]? = some v) : ∃ k t, ns[i]? = some k ∧ v = .int k t := by
  obtain ⟨k, t, e1, e2⟩ := IntsAre.at h i v e
  exact ⟨k, t, e2, e1⟩
theorem item_one {x : Str} {k : Int} (h : x.length = 2) : (Txt.item x (k.fmod 2)).length = 1 := by
  have h0 : 0 ≤ k.fmod 2 := fmod_lo _ (by decide)
  have h1 : k.fmod 2 < 2 := fmod_hi _ (by decide)
  have e : x = S x.cps.toList := (S_of x).symm
  rw [e] at h ⊢
  rw [S_len] at h
  rw [item_at _ h0 (by omega)]
  rfl
theorem signsOf_one {x a : Str} (h : a ∈ signsOf x) : a.length = 1 := by
  obtain ⟨c, _, rfl⟩ := List.mem_map.mp h
  rfl
theorem joinLen_le (n : Nat) (l : List Str) (h : ∀ a ∈ l, a.length ≤ n) : (Txt.join (Str.ofString "") l).length ≤ n * l.length := by
  show (Builtin.Str.glued (PySem.Str.ofString "") l).length ≤ _
  rw [StrLaws.glued_eq_join]
  cases l with
  | nil => exact Nat.zero_le _
  | cons a r =>
    have z : (PySem.Str.ofString "").length = 0 := by decide
    rw [len_join_cons, z, Nat.mul_zero, Nat.add_zero, Nat.mul_comm]
    exact StrLaws.sumLen_le _ h
theorem signsF_len {pair : Str} (h : pair.length = 2) (n : Int) : 2 ≤ (signsF pair n).length ∧ (signsF pair n).length ≤ 3 := by
  unfold signsF
  split
  · rw [str_append_len, h]; decide
  · rw [h]; decide
theorem mostF_le (signs : Str) (n : Nat) : 3 ≤ mostF signs n ∧ mostF signs n ≤ 4 := by
  unfold mostF
  split <;> decide
theorem takenF_snoc (word : Str) (ys : List Str) (y : Str) : takenF word (ys ++ [y]) = takenF word ys + (if ellF y (midF word) 0 = true then 1 else 0) := by
  unfold takenF
  rw [List.filter_append, List.length_append]
  congr 1
  cases h : ellF y (midF word) 0 <;> simp [h]
theorem wantF_eq {word wj : Str} (h : Txt.join (Str.ofString "") ((signsOf word).map fun y => y ++ Str.ofString "...") = wj) : wantF word = Str.ofString "..." ++ wj := by
  unfold wantF; rw [h]
theorem toldF_even {word y : Str} {i : Nat} (h : (0 + (i : Int)).fmod 2 = 0) : lev word.cps.toList y.cps.toList (2 * (0 + (i : Int) - word.length)) = toldF word y i := by
  rw [Int.zero_add] at h ⊢
  unfold toldF
  rw [if_pos h]
  rfl
theorem toldF_odd {word y : Str} {i : Nat} (h : (0 + (i : Int)).fmod 2 ≠ 0) : lev y.cps.toList word.cps.toList (2 * (0 + (i : Int) - word.length)) = toldF word y i := by
  rw [Int.zero_add] at h ⊢
  unfold toldF
  rw [if_neg h]
  rfl
end Mine
end
section
open PySem PySem.W PyProof.Rows
namespace Mine
theorem subCost_cases (x y : Str) : subCost x y = 0 ∨ subCost x y = 1 ∨ subCost x y = 2 := by
  unfold subCost
  split
  · exact .inl rfl
  · split
    · exact .inr (.inl rfl)
    · exact .inr (.inr rfl)
theorem cst_lo (c d : Nat) : 0 ≤ cst c d := by have := subCost_cases (S [c]) (S [d]); unfold cst; omega
theorem cst_hi (c d : Nat) : cst c d ≤ 2 := by have := subCost_cases (S [c]) (S [d]); unfold cst; omega
theorem cst_self (c : Nat) : cst c c = 0 := by unfold cst subCost; rw [if_pos rfl]
theorem cst_comm (c d : Nat) : cst c d = cst d c := by
  unfold cst subCost
  by_cases h : S [c] = S [d]
  · rw [if_pos h, if_pos h.symm]
  · have h' : ¬ S [d] = S [c] := fun e => h e.symm
    rw [if_neg h, if_neg h']
    by_cases h2 : Txt.lower (S [c]) = Txt.lower (S [d])
    · rw [if_pos h2, if_pos h2.symm]
    · have h2' : ¬ Txt.lower (S [d]) = Txt.lower (S [c]) := fun e => h2 e.symm
      rw [if_neg h2, if_neg h2']
/-- what a pair is worth -/
def wt (c d : Nat) : Int := 2 - cst d c
theorem wt_lo (c d : Nat) : 0 ≤ wt c d := by have := cst_hi d c; unfold wt; omega
theorem wt_hi (c d : Nat) : wt c d ≤ 2 := by have := cst_lo d c; unfold wt; omega
theorem wt_comm (c d : Nat) : wt c d = wt d c := by unfold wt; rw [cst_comm]
/-- the distance, from the front -/
def ed : List Nat → List Nat → Int
  | [], y => 2 * (y.length : Int)
  | c :: x, [] => 2 * ((c :: x).length : Int)
  | c :: x, d :: y => min (min (ed x (d :: y)) (ed (c :: x) y) + 2) (ed x y + cst d c)
termination_by x y => x.length + y.length
theorem ed_nil (y : List Nat) : ed [] y = 2 * (y.length : Int) := by rw [ed]
theorem ed_nil_r (x : List Nat) : ed x [] = 2 * (x.length : Int) := by cases x <;> rw [ed]
theorem ed_cons (c d : Nat) (x y : List Nat) : ed (c :: x) (d :: y) = min (min (ed x (d :: y)) (ed (c :: x) y) + 2) (ed x y + cst d c) := by rw [ed]
theorem ed_left (c : Nat) (x y : List Nat) : ed (c :: x) y ≤ ed x y + 2 := by
  cases y with
  | nil => rw [ed_nil_r, ed_nil_r, List.length_cons]; omega
  | cons d y => rw [ed_cons]; omega
theorem ed_right (d : Nat) : ∀ (x y : List Nat), ed x (d :: y) ≤ ed x y + 2
  | [], y => by rw [ed_nil, ed_nil, List.length_cons]; omega
  | c :: x, y => by rw [ed_cons]; omega
theorem ed_pair (c d : Nat) (x y : List Nat) : ed (c :: x) (d :: y) ≤ ed x y + cst d c := by rw [ed_cons]; omega
theorem ed_lefts : ∀ (u x y : List Nat), ed (u ++ x) y ≤ 2 * (u.length : Int) + ed x y
  | [], x, y => by simp
  | c :: u, x, y => by
    have h1 := ed_left c (u ++ x) y
    have h2 := ed_lefts u x y
    rw [List.cons_append, List.length_cons]; omega
theorem ed_rights (x : List Nat) : ∀ (v y : List Nat), ed x (v ++ y) ≤ 2 * (v.length : Int) + ed x y
  | [], y => by simp
  | d :: v, y => by
    have h1 := ed_right d x (v ++ y)
    have h2 := ed_rights x v y
    rw [List.cons_append, List.length_cons]; omega
theorem ed_append : ∀ (n : Nat) (x y x2 y2 : List Nat), x.length + y.length ≤ n → ed (x ++ x2) (y ++ y2) ≤ ed x y + ed x2 y2
  | _, [], y, x2, y2, _ => by rw [ed_nil]; exact ed_rights x2 y y2
  | _, c :: x, [], x2, y2, _ => by rw [ed_nil_r]; exact ed_lefts (c :: x) x2 y2
  | 0, c :: x, d :: y, x2, y2, h => by simp at h
  | n + 1, c :: x, d :: y, x2, y2, h => by
    simp only [List.length_cons] at h
    have h1 := ed_append n x (d :: y) x2 y2 (by simp only [List.length_cons]; omega)
    have h2 := ed_append n (c :: x) y x2 y2 (by simp only [List.length_cons]; omega)
    have h3 := ed_append n x y x2 y2 (by omega)
    rw [ed_cons c d x y]
    rw [List.cons_append, List.cons_append, ed_cons]
    rw [List.cons_append] at h1 h2
    omega
theorem ed_sum (x y x2 y2 : List Nat) : ed (x ++ x2) (y ++ y2) ≤ ed x y + ed x2 y2 := ed_append _ x y x2 y2 (Nat.le_refl _)
theorem ed_fit : ∀ (x y : List Nat), x.length ≤ y.length → ed x y ≤ 2 * (y.length : Int)
  | [], y, _ => by rw [ed_nil]; omega
  | c :: x, [], h => by simp at h
  | c :: x, d :: y, h => by
    simp only [List.length_cons] at h ⊢
    have h1 := ed_pair c d x y
    have h2 := ed_fit x y (by omega)
    have h3 := cst_hi d c
    omega
/-- a pairing in order, and its worth -/
inductive Al : List Nat → List Nat → Int → Prop
  | nil : Al [] [] 0
  | left (c : Nat) {x y : List Nat} {n : Int} : Al x y n → Al (c :: x) y n
  | right (d : Nat) {x y : List Nat} {n : Int} : Al x y n → Al x (d :: y) n
  | pair (c d : Nat) {x y : List Nat} {n : Int} : Al x y n → Al (c :: x) (d :: y) (n + wt c d)
theorem al_nil : ∀ y : List Nat, Al [] y 0
  | [] => .nil
  | d :: y => .right d (al_nil y)
theorem al_nil_r : ∀ x : List Nat, Al x [] 0
  | [] => .nil
  | c :: x => .left c (al_nil_r x)
theorem al_symm {x y : List Nat} {n : Int} (h : Al x y n) : Al y x n := by
  induction h with
  | nil => exact .nil
  | left c _ ih => exact .right c ih
  | right d _ ih => exact .left d ih
  | pair c d _ ih => rw [wt_comm]; exact .pair d c ih
theorem al_hi {x y : List Nat} {n : Int} (h : Al x y n) : n ≤ 2 * (x.length : Int) := by
  induction h with
  | nil => simp
  | left c _ ih => rw [List.length_cons]; omega
  | right d _ ih => exact ih
  | pair c d _ ih => have := wt_hi c d; rw [List.length_cons]; omega
theorem ed_al : ∀ (n : Nat) (x y : List Nat), x.length + y.length ≤ n → ∃ k, Al x y k ∧ 2 * (y.length : Int) - k ≤ ed x y
  | _, [], y, _ => ⟨0, al_nil y, by rw [ed_nil]; omega⟩
  | _, c :: x, [], _ => ⟨0, al_nil_r _, by rw [ed_nil_r]; simp; omega⟩
  | 0, c :: x, d :: y, h => by simp at h
  | n + 1, c :: x, d :: y, h => by
    simp only [List.length_cons] at h
    obtain ⟨k1, a1, e1⟩ := ed_al n x (d :: y) (by simp only [List.length_cons]; omega)
    obtain ⟨k2, a2, e2⟩ := ed_al n (c :: x) y (by simp only [List.length_cons]; omega)
    obtain ⟨k3, a3, e3⟩ := ed_al n x y (by omega)
    rw [ed_cons]
    simp only [List.length_cons] at e1 ⊢
    by_cases h1 : ed x y + cst d c ≤ min (ed x (d :: y)) (ed (c :: x) y) + 2
    · refine ⟨k3 + wt c d, .pair c d a3, ?_⟩
      unfold wt
      omega
    · by_cases h2 : ed x (d :: y) ≤ ed (c :: x) y
      · exact ⟨k1, .left c a1, by omega⟩
      · exact ⟨k2, .right d a2, by omega⟩
/-- the greatest worth -/
def kx : List Nat → List Nat → Int
  | [], _ => 0
  | _ :: _, [] => 0
  | c :: x, d :: y => max (max (kx x (d :: y)) (kx (c :: x) y)) (kx x y + wt c d)
termination_by x y => x.length + y.length
theorem kx_nil (y : List Nat) : kx [] y = 0 := by rw [kx]
theorem kx_nil_r (x : List Nat) : kx x [] = 0 := by cases x <;> rw [kx]
theorem kx_cons (c d : Nat) (x y : List Nat) : kx (c :: x) (d :: y) = max (max (kx x (d :: y)) (kx (c :: x) y)) (kx x y + wt c d) := by rw [kx]
theorem kx_al : ∀ (n : Nat) (x y : List Nat), x.length + y.length ≤ n → Al x y (kx x y)
  | _, [], y, _ => by rw [kx_nil]; exact al_nil y
  | _, c :: x, [], _ => by rw [kx_nil_r]; exact al_nil_r _
  | 0, c :: x, d :: y, h => by simp at h
  | n + 1, c :: x, d :: y, h => by
    simp only [List.length_cons] at h
    have a1 := kx_al n x (d :: y) (by simp only [List.length_cons]; omega)
    have a2 := kx_al n (c :: x) y (by simp only [List.length_cons]; omega)
    have a3 := kx_al n x y (by omega)
    rw [kx_cons]
    by_cases h1 : max (kx x (d :: y)) (kx (c :: x) y) ≤ kx x y + wt c d
    · rw [show max (max (kx x (d :: y)) (kx (c :: x) y)) (kx x y + wt c d) = kx x y + wt c d by omega]
      exact .pair c d a3
    · by_cases h2 : kx (c :: x) y ≤ kx x (d :: y)
      · rw [show max (max (kx x (d :: y)) (kx (c :: x) y)) (kx x y + wt c d) = kx x (d :: y) by omega]
        exact .left c a1
      · rw [show max (max (kx x (d :: y)) (kx (c :: x) y)) (kx x y + wt c d) = kx (c :: x) y by omega]
        exact .right d a2
theorem kx_left (c : Nat) (x y : List Nat) : kx x y ≤ kx (c :: x) y := by
  cases y with
  | nil => rw [kx_nil_r, kx_nil_r]; exact Int.le_refl _
  | cons d y => rw [kx_cons]; omega
theorem kx_right (d : Nat) (x y : List Nat) : kx x y ≤ kx x (d :: y) := by
  cases x with
  | nil => rw [kx_nil, kx_nil]; exact Int.le_refl _
  | cons c x => rw [kx_cons]; omega
theorem al_kx {x y : List Nat} {n : Int} (h : Al x y n) : n ≤ kx x y := by
  induction h with
  | nil => rw [kx_nil]; exact Int.le_refl _
  | left c _ ih => exact Int.le_trans ih (kx_left c _ _)
  | right d _ ih => exact Int.le_trans ih (kx_right d _ _)
  | pair c d _ ih => rw [kx_cons]; omega
theorem kx_comm (x y : List Nat) : kx x y = kx y x :=
  Int.le_antisymm (al_kx (al_symm (kx_al _ x y (Nat.le_refl _)))) (al_kx (al_symm (kx_al _ y x (Nat.le_refl _))))
theorem kx_hi (x y : List Nat) : kx x y ≤ 2 * (x.length : Int) := al_hi (kx_al _ x y (Nat.le_refl _))
theorem kx_lo (x y : List Nat) : 0 ≤ kx x y := by
  have : Al x y 0 := by
    induction x with
    | nil => exact al_nil y
    | cons c x ih => exact .left c ih
  exact al_kx this
/-- the want, as signs -/
def dots : List Nat := [46, 46, 46]
def wantL : List Nat → List Nat
  | [] => dots
  | c :: r => dots ++ c :: wantL r
theorem wantL_append (c : Nat) (b : List Nat) : ∀ a, wantL (a ++ c :: b) = wantL a ++ c :: wantL b
  | [] => rfl
  | d :: a => by rw [List.cons_append, wantL, wantL_append c b a, wantL]; simp
theorem wantL_reverse : ∀ a, (wantL a).reverse = wantL a.reverse
  | [] => rfl
  | c :: r => by
    rw [wantL, List.reverse_append, List.reverse_cons, wantL_reverse r, List.reverse_cons, wantL_append]
    simp [wantL, dots]
theorem wantL_filter : ∀ a : List Nat, (∀ c ∈ a, c ≠ 46) → (wantL a).filter (fun d => d ≠ 46) = a
  | [], _ => by decide
  | c :: r, h => by
    have hc := h c (List.Mem.head _)
    rw [wantL, List.filter_append, List.filter_cons, if_pos (by simpa using hc), wantL_filter r fun d hd => h d (List.Mem.tail _ hd)]
    rfl
theorem al_filter {x y : List Nat} {n : Int} (h : Al x y n) (hx : ∀ c ∈ x, wt c 46 = 0) : Al x (y.filter fun d => d ≠ 46) n := by
  induction h with
  | nil => exact .nil
  | left c _ ih => exact .left c (ih fun d hd => hx d (List.Mem.tail _ hd))
  | right d _ ih =>
    rw [List.filter_cons]
    split
    · exact .right d (ih hx)
    · exact ih hx
  | pair c d _ ih =>
    have ih := ih fun d hd => hx d (List.Mem.tail _ hd)
    rw [List.filter_cons]
    split
    · exact .pair c d ih
    · rename_i hd
      have hd : d = 46 := by simpa using hd
      rw [hd, hx c (List.Mem.head _), Int.add_zero]
      exact .left c ih
theorem al_want {x o : List Nat} {n : Int} (h : Al x o n) : ∀ (u P : List Nat), (u.length + x.length ≤ 3 ∨ (u.length + x.length ≤ 4 ∧ (P ≠ [] ∨ o ≠ []))) → ed (u ++ x) (P ++ wantL o) ≤ 2 * ((P ++ wantL o).length : Int) - n := by
  induction h with
  | nil =>
    intro u P hH
    rw [List.append_nil]
    have : ed u (P ++ wantL []) ≤ 2 * ((P ++ wantL []).length : Int) := by
      refine ed_fit _ _ ?_
      rw [List.length_append]
      have e : (wantL []).length = 3 := rfl
      rw [e]
      rcases hH with hH | ⟨hH, hP | hP⟩
      · simp at hH; omega
      · have := List.length_pos_iff.mpr hP; simp at hH; omega
      · exact absurd rfl hP
    omega
  | left c _ ih =>
    intro u P hH
    have := ih (u ++ [c]) P (by simpa [Nat.add_assoc, Nat.add_comm 1] using hH)
    rw [List.append_assoc, List.singleton_append] at this
    exact this
  | right d h ih =>
    rename_i x y n
    intro u P hH
    have := ih u (P ++ dots ++ [d]) (by
      rcases hH with hH | ⟨hH, _⟩
      · exact .inl hH
      · exact .inr ⟨hH, .inl (by simp)⟩)
    rw [wantL]
    rw [show P ++ dots ++ [d] ++ wantL y = P ++ (dots ++ d :: wantL y) by simp] at this
    exact this
  | pair c d h ih =>
    rename_i x y n
    intro u P hH
    have hu : u.length + (x.length + 1) ≤ 4 := by
      rcases hH with hH | ⟨hH, _⟩
      · rw [List.length_cons] at hH; omega
      · rw [List.length_cons] at hH; exact hH
    have i1 := ih [] [] (.inl (by simp; omega))
    rw [List.nil_append, List.nil_append] at i1
    have i2 : ed u (P ++ dots) ≤ 2 * ((P ++ dots).length : Int) := ed_fit _ _ (by rw [List.length_append]; have : dots.length = 3 := rfl; omega)
    have i3 := ed_sum u (P ++ dots) (c :: x) (d :: wantL y)
    have i4 := ed_pair c d x (wantL y)
    rw [wantL, ← List.append_assoc]
    have hl : ((P ++ dots ++ d :: wantL y).length : Int) = (P ++ dots).length + 1 + (wantL y).length := by
      rw [List.length_append, List.length_cons]; omega
    rw [hl]
    unfold wt
    omega
/-- the distance of a word and another one's want -/
theorem ed_want {x o : List Nat} (hx : x.length ≤ 4) (ho : o ≠ []) (hx46 : ∀ c ∈ x, wt c 46 = 0) (ho46 : ∀ c ∈ o, c ≠ 46) : ed x (wantL o) = 2 * ((wantL o).length : Int) - kx x o := by
  have h1 := al_want (kx_al _ x o (Nat.le_refl _)) [] [] (.inr ⟨by simpa using hx, .inr ho⟩)
  rw [List.nil_append, List.nil_append] at h1
  obtain ⟨k, a, e⟩ := ed_al _ x (wantL o) (Nat.le_refl _)
  have a2 := al_filter a hx46
  rw [wantL_filter o ho46] at a2
  have := al_kx a2
  omega
end Mine
end
section
open PySem PySem.W PyProof.Rows
open scoped List
namespace Mine
/-! texts by their signs -/
theorem S_append (a b : List Nat) : S a ++ S b = S (a ++ b) := by
  show (⟨a.toArray ++ b.toArray⟩ : Str) = ⟨(a ++ b).toArray⟩
  rw [List.append_toArray]
theorem S_list (a : List Nat) : (S a).cps.toList = a := by simp [S]
theorem S_empty : Str.empty = S [] := rfl
theorem signsOf_S (l : List Nat) : signsOf (S l) = l.map fun c => S [c] := by
  unfold signsOf
  rw [S_list]
theorem joinS : ∀ l : List Str, ∃ q : List Nat, Txt.join (Str.ofString "") l = S q ∧ q = (l.map fun x => x.cps.toList).flatten := by
  intro l
  refine ⟨_, ?_, rfl⟩
  show Builtin.Str.glued (PySem.Str.ofString "") l = _
  rw [StrLaws.glued_eq_join]
  induction l with
  | nil => rfl
  | cons a r ih =>
    cases r with
    | nil =>
      show a = S ([a.cps.toList].flatten)
      rw [show [a.cps.toList].flatten = a.cps.toList by simp, S_of a]
    | cons b r =>
      obtain ⟨l, rfl⟩ : ∃ l, a = S l := ⟨_, (S_of a).symm⟩
      show S l ++ S [] ++ Str.join (Str.ofString "") (b :: r) = _
      rw [ih, S_append, S_append, List.map_cons (l := b :: r), List.flatten_cons]
      rw [List.append_nil]
theorem join_signs (l : List Nat) : Txt.join (Str.ofString "") (l.map fun c => S [c]) = S l := by
  obtain ⟨q, h1, h2⟩ := joinS (l.map fun c => S [c])
  rw [h1, h2]
  congr 1
  clear h1 h2 q
  induction l with
  | nil => rfl
  | cons c r ih =>
    rw [List.map_cons, List.map_cons, List.flatten_cons, ih]
    rfl
theorem wantF_S (o : List Nat) : wantF (S o) = S (wantL o) := by
  unfold wantF
  obtain ⟨q, h1, h2⟩ := joinS ((signsOf (S o)).map fun y => y ++ Str.ofString "...")
  rw [h1, h2, show Str.ofString "..." = S dots from rfl, S_append, signsOf_S]
  congr 1
  clear h1 h2 q
  induction o with
  | nil => rfl
  | cons c r ih =>
    rw [wantL, ← ih]
    simp only [List.map_cons, List.flatten_cons, S_append, S_list]
    simp
theorem midF_S (l : List Nat) : midF (S l) = Str.empty :: (l.map (fun c => S [c]) ++ [Str.empty]) := by
  unfold midF
  rw [signsOf_S]
/-! the fit is a subsequence -/
open StrLaws in
theorem find3_empty (x : Str) {p : Int} (h0 : 0 ≤ p) (h1 : p ≤ x.length) : Txt.find3 x Str.empty p = p := by
  have hf : fromIndex x.length p = p.toNat := by unfold fromIndex; rw [if_neg (by omega)]; omega
  unfold Txt.find3
  rw [hf]
  have hAt : At x Str.empty x.length p.toNat := ⟨by have e : Str.empty.length = 0 := rfl; omega, by
    unfold Builtin.Str.subAt
    have e : Str.empty.length = 0 := rfl
    rw [e, Nat.add_zero]
    simp [Str.empty]
    exact Nat.min_le_left _ _⟩
  rcases occ_head_from x Str.empty p.toNat 1 (Nat.le_refl 1) with ⟨_, hn⟩ | ⟨k, r, he, hlo, _, hn⟩
  · exact absurd hAt (hn _ (Nat.le_refl _))
  · rw [he]
    show (k : Int) = p
    rcases Nat.lt_or_ge p.toNat k with q | q
    · exact absurd hAt (hn _ (Nat.le_refl _) q)
    · omega
theorem sub_skip {c : Nat} {r : List Nat} : ∀ {pre post : List Nat}, (∀ d ∈ pre, d ≠ c) → (c :: r) <+ (pre ++ c :: post) → r <+ post
  | [], post, _, h => List.cons_sublist_cons.mp h
  | d :: pre, post, hp, h => by
    rw [List.cons_append] at h
    cases h with
    | cons _ h => exact sub_skip (fun e he => hp e (List.Mem.tail _ he)) h
    | cons_cons _ h => exact absurd rfl (hp _ (List.Mem.head _))
theorem ellF_sub (xs : List Nat) : ∀ (wl : List Nat) (p : Int), 0 ≤ p → p ≤ xs.length → (ellF (S xs) (wl.map (fun c => S [c]) ++ [Str.empty]) p = true ↔ wl <+ xs.drop p.toNat)
  | [], p, h0, h1 => by
    rw [List.map_nil, List.nil_append, ellF, find3_empty _ h0 (by rw [S_len]; exact h1), if_neg (by omega), ellF]
    simp
  | c :: wl, p, h0, h1 => by
    have hf : fromIndex (S xs).length p = p.toNat := by unfold fromIndex; rw [if_neg (by omega)]; omega
    have hget : ∀ v, v < xs.length → (S xs).cps.getD v 0 = xs.getD v 0 := fun v hv => by simp [S, List.getD_eq_getElem?_getD, Array.getD, hv]
    rw [List.map_cons, List.cons_append, ellF]
    rcases StrLaws.find3_spec (S xs) c p with ⟨e, hn⟩ | ⟨k, e, hlo, hk, hc, hn⟩
    · rw [show Txt.find3 (S xs) (S [c]) p = -1 from e, if_pos (by decide)]
      rw [hf, S_len] at hn
      refine ⟨fun h => (nomatch h), fun h => ?_⟩
      exfalso
      have hm : c ∈ xs.drop p.toNat := h.subset (List.Mem.head _)
      obtain ⟨j, hj⟩ := List.mem_iff_getElem?.mp hm
      rw [List.getElem?_drop] at hj
      have hlt : p.toNat + j < xs.length := by
        rcases Nat.lt_or_ge (p.toNat + j) xs.length with q | q
        · exact q
        · rw [List.getElem?_eq_none q] at hj; cases hj
      refine hn (p.toNat + j) (by omega) hlt ?_
      rw [hget _ hlt, List.getD_eq_getElem?_getD, hj]
      rfl
    · rw [show Txt.find3 (S xs) (S [c]) p = (k : Int) from e, if_neg (by omega)]
      rw [hf] at hlo hn
      rw [S_len] at hk
      rw [hget _ hk] at hc
      have hl1 : ((S [c]).length : Int) = 1 := rfl
      rw [hl1, ellF_sub xs wl ((k : Int) + 1) (by omega) (by omega)]
      rw [show ((k : Int) + 1).toNat = k + 1 by omega]
      have hck : xs[k] = c := by rw [List.getD_eq_getElem?_getD, List.getElem?_eq_getElem hk] at hc; exact hc
      have hsplit : xs.drop p.toNat = (xs.drop p.toNat).take (k - p.toNat) ++ c :: xs.drop (k + 1) := by
        have h2 := (List.take_append_drop (k - p.toNat) (xs.drop p.toNat)).symm
        rw [List.drop_drop, show p.toNat + (k - p.toNat) = k by omega, List.drop_eq_getElem_cons hk, hck] at h2
        exact h2
      refine ⟨fun h => ?_, fun h => ?_⟩
      · rw [hsplit]
        exact (List.cons_sublist_cons.mpr h).trans (List.sublist_append_right _ _)
      · rw [hsplit] at h
        refine sub_skip (fun d hd => ?_) h
        obtain ⟨j, hj⟩ := List.mem_iff_getElem?.mp hd
        have hjl : j < k - p.toNat := by
          rcases Nat.lt_or_ge j (k - p.toNat) with q | q
          · exact q
          · rw [List.getElem?_eq_none (by rw [List.length_take]; omega)] at hj; cases hj
        rw [List.getElem?_take_of_lt hjl, List.getElem?_drop] at hj
        have := hn (p.toNat + j) (by omega) (by omega)
        rw [hget _ (by omega), List.getD_eq_getElem?_getD, hj] at this
        exact this
theorem fit_sub (xs wl : List Nat) : ellF (S xs) (midF (S wl)) 0 = true ↔ wl <+ xs := by
  rw [midF_S, ellF, find3_empty _ (Int.le_refl 0) (by omega), if_neg (by decide)]
  have e : ((0 : Int) + (Str.empty.length : Int)) = 0 := rfl
  rw [e, ellF_sub xs wl 0 (Int.le_refl 0) (by omega)]
  rfl
end Mine
end
section
open PySem PySem.W PyProof.Rows PySem.Calls
set_option maxRecDepth 100000
open scoped List
namespace Mine
/-! the distance with a table of costs -/
def costT (c d : Nat) : Int := if c = d then 0 else if (c = 97 ∧ d = 65) ∨ (c = 65 ∧ d = 97) then 1 else 2
def T9 : List Nat := [97, 65, 98, 35, 32, 10, 9, 46, 0]
theorem costT_eq : ∀ c ∈ T9, ∀ d ∈ T9, cst c d = costT c d := by decide +kernel
def inStepG (c : Nat) (a : List Nat) (st : List Int × Int × Int × Int) (i : Nat) : List Int × Int × Int × Int :=
  let r := pmin (pmin st.2.2.1 (st.1.getD i 0) + 2) (st.2.1 + costT c (a.getD i 0))
  (st.1.set i r, st.1.getD i 0, r, if r < st.2.2.2 then r else st.2.2.2)
def innG (c : Nat) (a : List Nat) (row : List Int) (j : Int) : Nat → List Int × Int × Int × Int
  | 0 => (row, j * 2, j * 2, 9223372036854775807)
  | i + 1 => inStepG c a (innG c a row j i) i
def outtG (a b : List Nat) (mc : Int) (row : List Int) : Nat → List Int × Int × Bool
  | 0 => (row, 0, true)
  | j + 1 =>
    let st := outtG a b mc row j
    let t := innG (b.getD j 0) a st.1 j a.length
    (t.1, t.2.2.1, st.2.2 && !decide (t.2.2.2 > mc))
def levCoreG (a b : List Nat) (mc : Int) : Int :=
  let t := outtG a b mc (row0 a.length) b.length
  if t.2.2 then t.2.1 else mc + 1
def levInG (a b : List Nat) (mc : Int) : Int :=
  if a = [] ∨ b = [] then 2 * ((a.length : Int) + b.length)
  else
    let p := if b.length < a.length then (b, a) else (a, b)
    if ((p.2.length : Int) - p.1.length) * 2 > mc then mc + 1 else levCoreG p.1 p.2 mc
def levG (x y : List Nat) (mc : Int) : Int :=
  if x = y then 0 else levInG (cutA x y).1 (cutA x y).2 mc
theorem getD_T9 {a : List Nat} (h : ∀ e ∈ a, e ∈ T9) (i : Nat) : a.getD i 0 ∈ T9 := by
  rw [List.getD_eq_getElem?_getD]
  cases e : a[i]? with
  | none => decide
  | some c => exact h c (List.mem_of_getElem? e)
theorem innG_eq {c : Nat} {a : List Nat} (hc : c ∈ T9) (ha : ∀ e ∈ a, e ∈ T9) (row : List Int) (j : Int) : ∀ i, inn c a row j i = innG c a row j i
  | 0 => rfl
  | i + 1 => by
    rw [inn, innG, innG_eq hc ha row j i]
    unfold inStep inStepG
    rw [costT_eq c hc _ (getD_T9 ha i)]
theorem outtG_eq {a b : List Nat} (ha : ∀ e ∈ a, e ∈ T9) (hb : ∀ e ∈ b, e ∈ T9) (mc : Int) (row : List Int) : ∀ j, outt a b mc row j = outtG a b mc row j
  | 0 => rfl
  | j + 1 => by
    rw [outt, outtG, outtG_eq ha hb mc row j, innG_eq (getD_T9 hb j) ha]
theorem levCoreG_eq {a b : List Nat} (ha : ∀ e ∈ a, e ∈ T9) (hb : ∀ e ∈ b, e ∈ T9) (mc : Int) : levCore a b mc = levCoreG a b mc := by
  unfold levCore levCoreG
  rw [outtG_eq ha hb]
theorem levInG_eq {a b : List Nat} (ha : ∀ e ∈ a, e ∈ T9) (hb : ∀ e ∈ b, e ∈ T9) (mc : Int) : levIn a b mc = levInG a b mc := by
  unfold levIn levInG
  by_cases h : b.length < a.length
  · simp only [if_pos h, levCoreG_eq hb ha]
  · simp only [if_neg h, levCoreG_eq ha hb]
theorem cutA_mem {x y : List Nat} : (∀ e ∈ (cutA x y).1, e ∈ x) ∧ ∀ e ∈ (cutA x y).2, e ∈ y :=
  ⟨fun e h => List.mem_of_mem_drop (List.mem_of_mem_take h), fun e h => List.mem_of_mem_drop (List.mem_of_mem_take h)⟩
theorem levG_eq {x y : List Nat} (hx : ∀ e ∈ x, e ∈ T9) (hy : ∀ e ∈ y, e ∈ T9) (mc : Int) : lev x y mc = levG x y mc := by
  unfold lev levG
  rw [levInG_eq (fun e h => hx e (cutA_mem.1 e h)) (fun e h => hy e (cutA_mem.2 e h))]
/-! the texts, as lists -/
def textsL (sg : List Nat) : Nat → List (List Nat)
  | 0 => [[]]
  | k + 1 => (textsL sg k).flatMap fun a => sg.map fun c => a ++ [c]
theorem textsF_S (sg : List Nat) : ∀ k, textsF (S sg) k = (textsL sg k).map S
  | 0 => rfl
  | k + 1 => by
    rw [textsF, textsL, textsF_S sg k, signsOf_S]
    rw [List.map_flatMap, List.flatMap_map]
    congr 1
    funext a
    rw [List.map_map, List.map_map]
    refine List.map_congr_left fun c _ => ?_
    exact S_append a [c]
theorem textsL_mem {sg : List Nat} (h : ∀ e ∈ sg, e ∈ T9) : ∀ k, ∀ x ∈ textsL sg k, ∀ e ∈ x, e ∈ T9
  | 0 => fun x hx e he => by rw [List.mem_singleton.mp hx] at he; cases he
  | k + 1 => fun x hx e he => by
    obtain ⟨a, ha, hx⟩ := List.mem_flatMap.mp hx
    obtain ⟨c, hc, rfl⟩ := List.mem_map.mp hx
    rcases List.mem_append.mp he with he | he
    · exact textsL_mem h k a ha e he
    · rw [List.mem_singleton.mp he]; exact h c hc
def dueL (wl : List Nat) (i : Nat) : Int := 2 * ((i : Int) - wl.length)
def toldL (wl x : List Nat) (i : Nat) : Int := if (i : Int).fmod 2 = 0 then levG wl x (dueL wl i) else levG x wl (dueL wl i)
theorem toldF_S {wl x : List Nat} (hw : ∀ e ∈ wl, e ∈ T9) (hx : ∀ e ∈ x, e ∈ T9) (i : Nat) : toldF (S wl) (S x) i = toldL wl x i := by
  have hd : dueF (S wl) i = dueL wl i := by unfold dueF dueL; rw [S_len]
  unfold toldF toldL
  rw [hd, S_list, S_list, levG_eq hw hx, levG_eq hx hw]
def chkT (wl sg : List Nat) (i : Nat) : Bool := (textsL sg i).all fun x => decide (dueL wl i ≤ toldL wl x i) && (wl.isSublist x == decide (toldL wl x i = dueL wl i))
def chkM (wl sg : List Nat) (i : Nat) : Bool := decide ((((textsL sg i).filter fun x => wl.isSublist x).length : Int) = ((waysF ((sg.length : Int) - 1) i i).drop wl.length).sum)
def chkW (wl : List Nat) : Bool := Txt.contains (wantF (S wl)) E3 && decide (Txt.split (wantF (S wl)) E3 = midF (S wl))
def wordL (pl : List Nat) (bs : List Int) : List Nat := bs.map fun b => pl.getD b.toNat 0
def okAll (pl : List Nat) (bs : List Int) : Bool :=
  chkW (wordL pl bs) && (([0, 1, 2, 3].all fun i => chkT (wordL pl bs) (pl ++ [46]) i && chkM (wordL pl bs) (pl ++ [46]) i) &&
    [0, 1, 2, 3, 4].all fun i => chkT (wordL pl bs) pl i && chkM (wordL pl bs) pl i)
def pairsL : List (List Nat) := [[97, 98], [97, 65], [35, 32], [10, 9]]
def bitsL : List (List Int) := [[0], [1], [0, 0], [0, 1], [1, 0], [1, 1], [0, 0, 0], [0, 0, 1], [0, 1, 0], [0, 1, 1], [1, 0, 0], [1, 0, 1], [1, 1, 0], [1, 1, 1]]
theorem ok_0_0 : okAll [97, 98] [0] = true := by decide +kernel
theorem ok_0_1 : okAll [97, 98] [1] = true := by decide +kernel
theorem ok_0_2 : okAll [97, 98] [0, 0] = true := by decide +kernel
theorem ok_0_3 : okAll [97, 98] [0, 1] = true := by decide +kernel
theorem ok_0_4 : okAll [97, 98] [1, 0] = true := by decide +kernel
theorem ok_0_5 : okAll [97, 98] [1, 1] = true := by decide +kernel
theorem ok_0_6 : okAll [97, 98] [0, 0, 0] = true := by decide +kernel
theorem ok_0_7 : okAll [97, 98] [0, 0, 1] = true := by decide +kernel
theorem ok_0_8 : okAll [97, 98] [0, 1, 0] = true := by decide +kernel
theorem ok_0_9 : okAll [97, 98] [0, 1, 1] = true := by decide +kernel
theorem ok_0_10 : okAll [97, 98] [1, 0, 0] = true := by decide +kernel
theorem ok_0_11 : okAll [97, 98] [1, 0, 1] = true := by decide +kernel
theorem ok_0_12 : okAll [97, 98] [1, 1, 0] = true := by decide +kernel
theorem ok_0_13 : okAll [97, 98] [1, 1, 1] = true := by decide +kernel
theorem ok_1_0 : okAll [97, 65] [0] = true := by decide +kernel
theorem ok_1_1 : okAll [97, 65] [1] = true := by decide +kernel
theorem ok_1_2 : okAll [97, 65] [0, 0] = true := by decide +kernel
theorem ok_1_3 : okAll [97, 65] [0, 1] = true := by decide +kernel
theorem ok_1_4 : okAll [97, 65] [1, 0] = true := by decide +kernel
theorem ok_1_5 : okAll [97, 65] [1, 1] = true := by decide +kernel
theorem ok_1_6 : okAll [97, 65] [0, 0, 0] = true := by decide +kernel
theorem ok_1_7 : okAll [97, 65] [0, 0, 1] = true := by decide +kernel
theorem ok_1_8 : okAll [97, 65] [0, 1, 0] = true := by decide +kernel
theorem ok_1_9 : okAll [97, 65] [0, 1, 1] = true := by decide +kernel
theorem ok_1_10 : okAll [97, 65] [1, 0, 0] = true := by decide +kernel
theorem ok_1_11 : okAll [97, 65] [1, 0, 1] = true := by decide +kernel
theorem ok_1_12 : okAll [97, 65] [1, 1, 0] = true := by decide +kernel
theorem ok_1_13 : okAll [97, 65] [1, 1, 1] = true := by decide +kernel
theorem ok_2_0 : okAll [35, 32] [0] = true := by decide +kernel
theorem ok_2_1 : okAll [35, 32] [1] = true := by decide +kernel
theorem ok_2_2 : okAll [35, 32] [0, 0] = true := by decide +kernel
theorem ok_2_3 : okAll [35, 32] [0, 1] = true := by decide +kernel
theorem ok_2_4 : okAll [35, 32] [1, 0] = true := by decide +kernel
theorem ok_2_5 : okAll [35, 32] [1, 1] = true := by decide +kernel
theorem ok_2_6 : okAll [35, 32] [0, 0, 0] = true := by decide +kernel
theorem ok_2_7 : okAll [35, 32] [0, 0, 1] = true := by decide +kernel
theorem ok_2_8 : okAll [35, 32] [0, 1, 0] = true := by decide +kernel
theorem ok_2_9 : okAll [35, 32] [0, 1, 1] = true := by decide +kernel
theorem ok_2_10 : okAll [35, 32] [1, 0, 0] = true := by decide +kernel
theorem ok_2_11 : okAll [35, 32] [1, 0, 1] = true := by decide +kernel
theorem ok_2_12 : okAll [35, 32] [1, 1, 0] = true := by decide +kernel
theorem ok_2_13 : okAll [35, 32] [1, 1, 1] = true := by decide +kernel
theorem ok_3_0 : okAll [10, 9] [0] = true := by decide +kernel
theorem ok_3_1 : okAll [10, 9] [1] = true := by decide +kernel
theorem ok_3_2 : okAll [10, 9] [0, 0] = true := by decide +kernel
theorem ok_3_3 : okAll [10, 9] [0, 1] = true := by decide +kernel
theorem ok_3_4 : okAll [10, 9] [1, 0] = true := by decide +kernel
theorem ok_3_5 : okAll [10, 9] [1, 1] = true := by decide +kernel
theorem ok_3_6 : okAll [10, 9] [0, 0, 0] = true := by decide +kernel
theorem ok_3_7 : okAll [10, 9] [0, 0, 1] = true := by decide +kernel
theorem ok_3_8 : okAll [10, 9] [0, 1, 0] = true := by decide +kernel
theorem ok_3_9 : okAll [10, 9] [0, 1, 1] = true := by decide +kernel
theorem ok_3_10 : okAll [10, 9] [1, 0, 0] = true := by decide +kernel
theorem ok_3_11 : okAll [10, 9] [1, 0, 1] = true := by decide +kernel
theorem ok_3_12 : okAll [10, 9] [1, 1, 0] = true := by decide +kernel
theorem ok_3_13 : okAll [10, 9] [1, 1, 1] = true := by decide +kernel
theorem ok_all : ∀ pl ∈ pairsL, ∀ bs ∈ bitsL, okAll pl bs = true :=
  List.forall_mem_cons.mpr ⟨List.forall_mem_cons.mpr ⟨ok_0_0, List.forall_mem_cons.mpr ⟨ok_0_1, List.forall_mem_cons.mpr ⟨ok_0_2, List.forall_mem_cons.mpr ⟨ok_0_3, List.forall_mem_cons.mpr ⟨ok_0_4, List.forall_mem_cons.mpr ⟨ok_0_5, List.forall_mem_cons.mpr ⟨ok_0_6, List.forall_mem_cons.mpr ⟨ok_0_7, List.forall_mem_cons.mpr ⟨ok_0_8, List.forall_mem_cons.mpr ⟨ok_0_9, List.forall_mem_cons.mpr ⟨ok_0_10, List.forall_mem_cons.mpr ⟨ok_0_11, List.forall_mem_cons.mpr ⟨ok_0_12, List.forall_mem_cons.mpr ⟨ok_0_13, List.forall_mem_nil _⟩⟩⟩⟩⟩⟩⟩⟩⟩⟩⟩⟩⟩⟩, List.forall_mem_cons.mpr ⟨List.forall_mem_cons.mpr ⟨ok_1_0, List.forall_mem_cons.mpr ⟨ok_1_1, List.forall_mem_cons.mpr ⟨ok_1_2, List.forall_mem_cons.mpr ⟨ok_1_3, List.forall_mem_cons.mpr ⟨ok_1_4, List.forall_mem_cons.mpr ⟨ok_1_5, List.forall_mem_cons.mpr ⟨ok_1_6, List.forall_mem_cons.mpr ⟨ok_1_7, List.forall_mem_cons.mpr ⟨ok_1_8, List.forall_mem_cons.mpr ⟨ok_1_9, List.forall_mem_cons.mpr ⟨ok_1_10, List.forall_mem_cons.mpr ⟨ok_1_11, List.forall_mem_cons.mpr ⟨ok_1_12, List.forall_mem_cons.mpr ⟨ok_1_13, List.forall_mem_nil _⟩⟩⟩⟩⟩⟩⟩⟩⟩⟩⟩⟩⟩⟩, List.forall_mem_cons.mpr ⟨List.forall_mem_cons.mpr ⟨ok_2_0, List.forall_mem_cons.mpr ⟨ok_2_1, List.forall_mem_cons.mpr ⟨ok_2_2, List.forall_mem_cons.mpr ⟨ok_2_3, List.forall_mem_cons.mpr ⟨ok_2_4, List.forall_mem_cons.mpr ⟨ok_2_5, List.forall_mem_cons.mpr ⟨ok_2_6, List.forall_mem_cons.mpr ⟨ok_2_7, List.forall_mem_cons.mpr ⟨ok_2_8, List.forall_mem_cons.mpr ⟨ok_2_9, List.forall_mem_cons.mpr ⟨ok_2_10, List.forall_mem_cons.mpr ⟨ok_2_11, List.forall_mem_cons.mpr ⟨ok_2_12, List.forall_mem_cons.mpr ⟨ok_2_13, List.forall_mem_nil _⟩⟩⟩⟩⟩⟩⟩⟩⟩⟩⟩⟩⟩⟩, List.forall_mem_cons.mpr ⟨List.forall_mem_cons.mpr ⟨ok_3_0, List.forall_mem_cons.mpr ⟨ok_3_1, List.forall_mem_cons.mpr ⟨ok_3_2, List.forall_mem_cons.mpr ⟨ok_3_3, List.forall_mem_cons.mpr ⟨ok_3_4, List.forall_mem_cons.mpr ⟨ok_3_5, List.forall_mem_cons.mpr ⟨ok_3_6, List.forall_mem_cons.mpr ⟨ok_3_7, List.forall_mem_cons.mpr ⟨ok_3_8, List.forall_mem_cons.mpr ⟨ok_3_9, List.forall_mem_cons.mpr ⟨ok_3_10, List.forall_mem_cons.mpr ⟨ok_3_11, List.forall_mem_cons.mpr ⟨ok_3_12, List.forall_mem_cons.mpr ⟨ok_3_13, List.forall_mem_nil _⟩⟩⟩⟩⟩⟩⟩⟩⟩⟩⟩⟩⟩⟩, List.forall_mem_nil _⟩⟩⟩⟩
theorem pairsL_T9 : ∀ pl ∈ pairsL, pl.length = 2 ∧ ∀ e ∈ pl, e ∈ T9 := by decide
theorem pairF_S (n : Int) : ∃ pl ∈ pairsL, pairF n = S pl := by
  have h0 : 0 ≤ (n.fdiv 2).fmod 4 := fmod_lo _ (by decide)
  have h1 : (n.fdiv 2).fmod 4 < 4 := fmod_hi _ (by decide)
  unfold pairF
  generalize (n.fdiv 2).fmod 4 = k at h0 h1
  have : k = 0 ∨ k = 1 ∨ k = 2 ∨ k = 3 := by omega
  rcases this with rfl | rfl | rfl | rfl
  · exact ⟨[97, 98], by simp [pairsL], rfl⟩
  · exact ⟨[97, 65], by simp [pairsL], rfl⟩
  · exact ⟨[35, 32], by simp [pairsL], rfl⟩
  · exact ⟨[10, 9], by simp [pairsL], rfl⟩
theorem bit_of (x : Int) : x.fmod 2 = 0 ∨ x.fmod 2 = 1 := by
  have h0 : 0 ≤ x.fmod 2 := fmod_lo _ (by decide)
  have h1 : x.fmod 2 < 2 := fmod_hi _ (by decide)
  omega
theorem bits_mem (ns : List Int) : (numF ns).map (fun x => x.fmod 2) ∈ bitsL := by
  unfold numF
  split
  · simp [bitsL]
  · rename_i h
    match ns, h with
    | [a], _ => rcases bit_of a with ha | ha <;> simp [ha, bitsL]
    | [a, b], _ => rcases bit_of a with ha | ha <;> rcases bit_of b with hb | hb <;> simp [ha, hb, bitsL]
    | a :: b :: c :: r, _ => rcases bit_of a with ha | ha <;> rcases bit_of b with hb | hb <;> rcases bit_of c with hc | hc <;> simp [ha, hb, hc, bitsL]
theorem pure_of {wl sg : List Nat} {i : Nat} (hw : ∀ e ∈ wl, e ∈ T9) (hs : ∀ e ∈ sg, e ∈ T9) (h1 : chkW wl = true) (h2 : chkT wl sg i = true) (h3 : chkM wl sg i = true) : PureOK (S wl) (S sg) i := by
  have hsub : ∀ x : List Nat, ellF (S x) (midF (S wl)) 0 = wl.isSublist x := by
    intro x
    rw [Bool.eq_iff_iff, fit_sub, List.isSublist_iff_sublist]
  unfold chkW at h1
  rw [Bool.and_eq_true] at h1
  refine ⟨h1.1, of_decide_eq_true h1.2, fun y hy => ?_, ?_⟩
  · rw [textsF_S] at hy
    obtain ⟨x, hx, rfl⟩ := List.mem_map.mp hy
    have := List.all_eq_true.mp h2 x hx
    rw [Bool.and_eq_true] at this
    have hd : dueF (S wl) i = dueL wl i := by unfold dueF dueL; rw [S_len]
    rw [toldF_S hw (textsL_mem hs i x hx), hd, hsub]
    exact ⟨of_decide_eq_true this.1, beq_iff_eq.mp this.2⟩
  · have h3 := of_decide_eq_true h3
    unfold takenF
    rw [textsF_S, List.filter_map, List.length_map, S_len, S_len, ← h3]
    congr 2
    refine List.filter_congr fun x _ => ?_
    exact hsub x
theorem law_pure {ns : List Int} {pair word signs : Str} {rs : List Str} {i mo : Nat} (hpair : pairF ns.sum = pair) (hrs : (numF ns).map (fun x => Txt.item pair (x.fmod 2)) = rs) (hword : Txt.join (Str.ofString "") rs = word) (hsg : signsF pair ns.sum = signs) (hmost : mostF signs ns.length = (mo : Int)) (hi : i < mo + 1) : PureOK word signs i := by
  obtain ⟨pl, hpl, ep⟩ := pairF_S ns.sum
  rw [hpair] at ep
  subst ep
  obtain ⟨hl2, hT⟩ := pairsL_T9 pl hpl
  have hb := bits_mem ns
  have hw : word = S (wordL pl ((numF ns).map fun x => x.fmod 2)) := by
    have hm : (numF ns).map (fun x => Txt.item (S pl) (x.fmod 2)) = (wordL pl ((numF ns).map fun x => x.fmod 2)).map (fun c => S [c]) := by
      unfold wordL
      rw [List.map_map, List.map_map]
      refine List.map_congr_left fun x _ => ?_
      have h0 : 0 ≤ x.fmod 2 := fmod_lo _ (by decide)
      have h1 : x.fmod 2 < 2 := fmod_hi _ (by decide)
      exact item_at pl h0 (by omega)
    rw [← hword, ← hrs, hm]
    exact join_signs _
  have hwT : ∀ e ∈ wordL pl ((numF ns).map fun x => x.fmod 2), e ∈ T9 := by
    intro e he
    obtain ⟨b, _, rfl⟩ := List.mem_map.mp he
    exact getD_T9 hT _
  have ok := ok_all pl hpl _ hb
  unfold okAll at ok
  rw [Bool.and_eq_true, Bool.and_eq_true] at ok
  rw [hw]
  generalize wordL pl ((numF ns).map fun x => x.fmod 2) = wl at ok hwT
  obtain ⟨o1, o2, o3⟩ := ok
  have o2 := List.all_eq_true.mp o2
  have o3 := List.all_eq_true.mp o3
  have hm := mostF_le signs ns.length
  unfold signsF at hsg
  split at hsg
  · have es : signs = S (pl ++ [46]) := by rw [← hsg]; exact S_append pl [46]
    have hs : signs.length = 3 := by rw [es, S_len, List.length_append, hl2]; rfl
    have h3 : mostF signs ns.length = 3 := by
      unfold mostF
      rw [if_neg]
      omega
    have hi3 : i ∈ [0, 1, 2, 3] := by
      have : i ≤ 3 := by omega
      rcases i with _ | _ | _ | _ | i <;> first | (simp; done) | (exfalso; omega)
    have := o2 i hi3
    rw [Bool.and_eq_true] at this
    rw [es]
    refine pure_of hwT (fun e he => ?_) o1 this.1 this.2
    rcases List.mem_append.mp he with he | he
    · exact hT e he
    · rw [List.mem_singleton.mp he]; decide
  · have hi4 : i ∈ [0, 1, 2, 3, 4] := by
      have : i ≤ 4 := by omega
      rcases i with _ | _ | _ | _ | _ | i <;> first | (simp; done) | (exfalso; omega)
    have := o3 i hi4
    rw [Bool.and_eq_true] at this
    rw [← hsg]
    exact pure_of hwT hT o1 this.1 this.2
end Mine
end
section
set_option maxRecDepth 100000
set_option maxHeartbeats 8000000
namespace Mine
open_top hd for PySem.Challenge.rw_ph0081_01
end Mine
end
section
open PySem PySem.W PyProof.Rows
set_option maxRecDepth 100000
set_option maxHeartbeats 8000000
namespace Mine
local macro_rules | `(tactic| walk_at "subscriptTail Name BinOp str int") => `(tactic| k_extra "item")
local macro_rules | `(tactic| walk_at "subscriptTail Name Slice str ref") => `(tactic| ((with_reducible show wpAny _ _ (subscriptTail _ (Expr.Slice none (some (Expr.BoolOp _ _ _)) none _) _ _) _ _ { heap := Heap.push _ { cls := _, data := Data.fields #[Value.none, Value.none, Value.none] }, gens := _, drawn := _, toks := _, os := _ }); (with_reducible rename Fr _ _ _ _ => F'); (with_reducible rename News _ _ _ _ => N'); refine slice_strN_nn_len (s := ⟨_, _, _, _, _⟩) F' N' ?_; intro _ _ _ _ _ _))
local macro_rules | `(tactic| walk_at "eval Subscript") => `(tactic| ((with_reducible show wpAny _ _ (eval (Expr.Subscript _ (Expr.Slice none (some (Expr.BoolOp _ _ _)) none _) _) _) _ _ _); (fail_if_success (with_reducible show wpAny _ _ _ (OutV _ _ _ _ _ _) _ _)); k_dflt (k_extra "upTo")))
local macro_rules | `(tactic| walk_at "call type:list") => `(tactic| ((with_reducible show wpAny _ _ (call (Value.type "list") [Value.ref _]) _ _ _); (rename IsRange _ _ _ _ _ _ _ _ => rgX); k_dflt (refine' list_row0 rfl ?kF ?kN rgX ?kb ?kz ?_; (case kF => k_asm); (case kN => k_asm); (case kb => (rw [S_len])); (case kz => assumption)); intro D' vs' c' h' tk' F' N' l1 hI'; (try k_lt l1); (try k_sweep)))
theorem lev_c (w : World) (loose : List Str) (mean : ExcName → Option Value) (mg mb : Str → Option Value) (news : List (Addr × Obj)) (xs ys : List Nat) (mc : Int) (tx ty tm : Tok) :
    Cl PySem.Challenge.rw_ph0081_01.row.prog w (hd.heap_39 w.params) hd.view_39 loose mean mg mb 35 news (xs.length ≤ 40 ∧ ys.length ≤ 40) [.str (S xs) tx, .str (S ys) ty, .int mc tm] (fun t => .int (lev xs ys mc) t) := by
  k_with "step" => (first | (k_unfold; (try dsimp only)) | (k_end; kc_close) | walk1 | (dsimp only; walk1) | (leave1; walk_say "STEP leave1"; (try dsimp only)) | fail "no step")
  k_with "seg" => repeat' ((fail_if_success (with_reducible show wpAny _ _ (exec (Stmt.While _ _ _ _) _) _ _ _)); k_extra "step")
  k_with "one" => (k_extra "step"; repeat' ((fail_if_success (with_reducible show wpAny _ _ (execs (List.cons _ _) _) _ _ _)); k_extra "step"))
  k_with "same" => (intro z hz; simp [hz])
  k_fill
  dsimp only [Cl, CbRet]; intros; rename_i hpre _ _ hret
  have hX : (S xs).length ≤ 40 := by rw [S_len]; exact hpre.1
  have hY : (S ys).length ≤ 40 := by rw [S_len]; exact hpre.2
  refine wpAny_call ?_
  k_dflt cell_enter
  k_with "ret" => (refine cb_retI hret ?_ (by k_asm) (by first | k_asm | (refine' cb_drop ?cbN ?cbS; (case cbN => assumption); (case cbS => kcj_all))))
  k_extra "seg"
  · k_extra "ret"
    exact lev_same (by assumption)
  rename Fr _ _ _ _ => lF'
  rename News _ _ _ _ => lN'
  refine cutI lF' lN' (Str.ofString "pre") ((lcp xs ys : Nat) : Int) ?k1 ?k2
  case k1 =>
    k_with "state" => first | (refine ⟨?_, ?_, ?_, w1_start _ _⟩ <;> first | decide | omega) | (have q := w1_turn (by assumption) (by assumption) (by assumption) (by assumption); exact ⟨q.1, by rw [S_len]; exact q.2.1, by rw [S_len]; exact q.2.2.1, q⟩)
    k_while_given ["a", "b"] (fun A B _ pre => 0 ≤ pre ∧ pre ≤ A.length ∧ pre ≤ B.length ∧ W1 A.cps.toList B.cps.toList pre) (fun A _ _ pre => A.length - pre.toNat) "pre"
    k_extra "seg"
    all_goals (rename Fr _ _ _ _ => lF')
    all_goals (refine outI lF' (by k_asm) (by exact rfl) ?_ ?_)
    all_goals first
      | exact w1_ende (by assumption) (by assumption) (by assumption) (by assumption)
      | exact w1_endy (by assumption) (by assumption)
      | exact w1_endx (by assumption) (by assumption)
      | k_extra "same"
  clear lF' lN'
  intro tk2 h2 k2 F2 N2
  try k_fold
  k_extra "step"
  rename Fr _ _ _ _ => lF'
  rename News _ _ _ _ => lN'
  refine cutS lF' lN' (Str.ofString "a") (S (xs.drop (lcp xs ys))) ?k5 ?k6
  case k5 =>
    k_extra "seg"
    (rename Fr _ _ _ _ => lF')
    refine outS lF' (by k_asm) (by exact rfl) ?_ ?_
    all_goals first
      | exact slice_from _ (by omega)
      | k_extra "same"
  clear lF' lN'
  intro tk3 h3 k3 F3 N3
  try k_fold
  k_extra "step"
  rename Fr _ _ _ _ => lF'
  rename News _ _ _ _ => lN'
  refine cutS lF' lN' (Str.ofString "b") (S (ys.drop (lcp xs ys))) ?k7 ?k8
  case k7 =>
    k_extra "seg"
    (rename Fr _ _ _ _ => lF')
    refine outS lF' (by k_asm) (by exact rfl) ?_ ?_
    all_goals first
      | exact slice_from _ (by omega)
      | k_extra "same"
  clear lF' lN'
  intro tk4 h4 k4 F4 N4
  try k_fold
  have hX' : (xs.drop (lcp xs ys)).length ≤ 40 := by rw [List.length_drop]; omega
  have hY' : (ys.drop (lcp xs ys)).length ≤ 40 := by rw [List.length_drop]; omega
  generalize hA : xs.drop (lcp xs ys) = as at *
  generalize hB : ys.drop (lcp xs ys) = bs at *
  have hXa : (S as).length ≤ 40 := by rw [S_len]; exact hX'
  have hYb : (S bs).length ≤ 40 := by rw [S_len]; exact hY'
  k_with "upTo" =>
    with_reducible rename Fr _ _ _ _ => F'
    with_reducible rename News _ _ _ _ => N'
    first
      | ((with_reducible show wpAny _ _ (eval (Expr.Subscript (Expr.Name (Str.ofString "a") _) _ _) _) _ _ _); refine cutUp F' N' (Str.ofString "a") (Str.ofString "post") (by exact rfl) (by exact rfl) ?_ ?_)
      | ((with_reducible show wpAny _ _ (eval (Expr.Subscript (Expr.Name (Str.ofString "b") _) _ _) _) _ _ _); refine cutUp F' N' (Str.ofString "b") (Str.ofString "post") (by exact rfl) (by exact rfl) ?_ ?_)
    · k_extra "seg"
      all_goals first
        | exact outVN (by k_asm) (by k_asm) (by assumption)
        | exact outVZ (by k_asm) (by k_asm) (by assumption)
    clear F' N'
    intro _ _ _ F' N' _
    try k_fold
  k_extra "seg"
  rename Fr _ _ _ _ => lF'
  rename News _ _ _ _ => lN'
  refine cutI lF' lN' (Str.ofString "post") (-((lcp as.reverse bs.reverse : Nat) : Int)) ?k9 ?k10
  case k9 =>
    k_with "item" => ((have q1 := room_x (xs := as) (ys := bs) (by assumption) (by assumption)); (have q2 := room_y (xs := as) (ys := bs) (by assumption) (by assumption)); refine item_str (fitsSsize_of (N := 9223372036854775808) (by omega) (by omega) (Int.le_refl _)) (by omega) (by omega) ?_; intro _)
    k_with "state" => first | exact W2.word (w2_start _ _) | exact W2.word (w2_turn (xs := as) (ys := bs) (by assumption) (by assumption) (by assumption) (by assumption))
    k_while_given ["a", "b"] (fun A B _ post => post ≤ 0 ∧ -post ≤ A.length ∧ -post ≤ B.length ∧ W2 A.cps.toList B.cps.toList post) (fun A _ _ post => A.length - (-post).toNat) "post"
    k_extra "seg"
    all_goals (rename Fr _ _ _ _ => lF')
    all_goals (refine outI lF' (by k_asm) (by exact rfl) ?_ ?_)
    all_goals first
      | exact w2_ende (xs := as) (ys := bs) (by assumption) (by assumption) (by assumption) (by assumption)
      | exact w2_endy (xs := as) (ys := bs) (by assumption) (by assumption)
      | exact w2_endx (xs := as) (ys := bs) (by assumption) (by assumption)
      | k_extra "same"
  clear lF' lN'
  intro tk5 h5 k5 F5 N5
  try k_fold
  k_extra "step"
  rename Fr _ _ _ _ => lF'
  rename News _ _ _ _ => lN'
  refine cutS lF' lN' (Str.ofString "a") (S (as.take (as.length - (lcp as.reverse bs.reverse)))) ?k11 ?k12
  case k11 =>
    k_extra "seg"
    (rename Fr _ _ _ _ => lF')
    refine outS lF' (by k_asm) (by exact rfl) ?_ ?_
    all_goals first
      | exact upTo_neg _ _
      | k_extra "same"
  clear lF' lN'
  intro tk6 h6 k6 F6 N6
  try k_fold
  k_extra "step"
  rename Fr _ _ _ _ => lF'
  rename News _ _ _ _ => lN'
  refine cutS lF' lN' (Str.ofString "b") (S (bs.take (bs.length - (lcp as.reverse bs.reverse)))) ?k13 ?k14
  case k13 =>
    k_extra "seg"
    (rename Fr _ _ _ _ => lF')
    refine outS lF' (by k_asm) (by exact rfl) ?_ ?_
    all_goals first
      | exact upTo_neg _ _
      | k_extra "same"
  clear lF' lN'
  intro tk7 h7 k7 F7 N7
  try k_fold
  have hLev : lev xs ys mc = levIn (as.take (as.length - lcp as.reverse bs.reverse)) (bs.take (bs.length - lcp as.reverse bs.reverse)) mc := lev_cut (by assumption) hA hB rfl rfl
  rw [hLev] at hret
  clear hLev
  have hX2 : (as.take (as.length - lcp as.reverse bs.reverse)).length ≤ 40 := by rw [List.length_take]; omega
  have hY2 : (bs.take (bs.length - lcp as.reverse bs.reverse)).length ≤ 40 := by rw [List.length_take]; omega
  generalize hA2 : as.take (as.length - lcp as.reverse bs.reverse) = a2 at *
  generalize hB2 : bs.take (bs.length - lcp as.reverse bs.reverse) = b2 at *
  have hXa2 : (S a2).length ≤ 40 := by rw [S_len]; exact hX2
  have hYb2 : (S b2).length ≤ 40 := by rw [S_len]; exact hY2
  k_extra "one"
  all_goals first
    | ((have hz : ((S a2).length : Int) = 0 := by assumption); k_extra "seg"; k_extra "ret"; exact levIn_x hz)
    | ((have hz : ((S b2).length : Int) = 0 := by assumption); k_extra "seg"; k_extra "ret"; exact levIn_y hz)
    | skip
  k_extra "one"
  k_extra "step"
  have hLev : levIn a2 b2 mc = _ := levIn_go (by assumption) (by assumption) rfl rfl
  rw [hLev] at hret
  clear hLev
  rename Fr _ _ _ _ => lF'
  rename News _ _ _ _ => lN'
  refine cutSS lF' lN' (Str.ofString "a") (Str.ofString "b") (S (srt a2 b2).1) (S (srt a2 b2).2) ?k15 ?k16
  case k15 =>
    k_extra "seg"
    all_goals (rename Fr _ _ _ _ => lF')
    all_goals (rename News _ _ _ _ => lN')
    all_goals (refine outSS lF' lN' (by first | exact fun p hp => hp | exact fun p hp => List.Mem.tail _ hp) (by exact rfl) (by exact rfl) ?_ ?_ ?_)
    all_goals first
      | exact srt_swap1 (by assumption)
      | exact srt_swap2 (by assumption)
      | exact srt_stay1 (by assumption)
      | exact srt_stay2 (by assumption)
      | (intro z hz hw; simp [hz, hw]; done)
  clear lF' lN'
  intro tk8 tl8 h8 k8 F8 N8
  try k_fold
  have hS := srt_le a2 b2
  have hX3 : (srt a2 b2).1.length ≤ 40 := by unfold srt; split <;> assumption
  have hY3 : (srt a2 b2).2.length ≤ 40 := by unfold srt; split <;> assumption
  generalize hA3 : (srt a2 b2).1 = p at *
  generalize hB3 : (srt a2 b2).2 = q at *
  have hXp : (S p).length ≤ 40 := by rw [S_len]; exact hX3
  have hYq : (S q).length ≤ 40 := by rw [S_len]; exact hY3
  have hpq : p.length ≤ q.length := hS
  k_extra "one"
  all_goals first
    | ((have hz : mc < (((S q).length : Int) - ((S p).length : Int)) * 2 := by assumption); k_extra "seg"; k_extra "ret"; exact (if_pos (by rw [S_len, S_len] at hz; omega)).symm)
    | skip
  rename ¬ mc < (((S q).length : Int) - ((S p).length : Int)) * 2 => hmc
  rw [if_neg (by rw [S_len, S_len] at hmc; omega)] at hret
  k_with "seg2" => repeat' ((fail_if_success (with_reducible show wpAny _ _ (pyIter _) _ _ _)); k_extra "step")
  k_extra "seg2"
  have hSp := S_len p
  have hSq := S_len q
  k_with "state" => first
    | exact ⟨S_len _ ▸ row0_length _, ow_start _ _ _⟩
    | (k_dflt (exact ow_turn (a := p) (b := q) (by assumption) (by assumption) (by rw [rangeKs_length, S_len]; omega) (by omega) (by assumption)))
  k_state_given ["a", "b", "max_cost"] (fun A B mc pre result row => row.length = A.length ∧ OW A.cps.toList B.cps.toList mc pre.length result row) "result" "row"
  · k_extra "seg2"
    k_with "state" => first
      | (k_dflt (exact iw_turnA (a := p) (b := q) (by assumption) (by omega) (by omega) (by omega) (by omega) (by assumption)))
      | (k_dflt (exact iw_turnB (a := p) (b := q) (by assumption) (by omega) (by omega) (by omega) (by omega) (by assumption)))
      | exact ⟨by assumption, iw_start (by omega)⟩
      | (k_dflt (exact ow_turn (a := p) (b := q) (by assumption) (by assumption) (by rw [rangeKs_length, S_len]; omega) (by omega) (by assumption)))
    k_with "tree" => first | exact sub_0 (by assumption) | exact sub_1 (by assumption) (by assumption) | exact sub_2 (by assumption) (by assumption)
    k_with "call ref" => k_call_by "_substitution_cost" subCost (fun (x y : Str) => x.length ≤ 1 ∧ y.length ≤ 1)
    k_state_given ["a", "b", "bindex", "row!"] (fun A B j r0 pre distance result minimum row => row.length = A.length ∧ IW A.cps.toList B.cps.toList j r0 pre.length distance result minimum row) "distance" "result" "minimum" "row"
    · k_extra "seg2"
    k_extra "seg2"
    k_extra "ret"
    exact ow_early (a := p) (b := q) (by assumption) (by assumption) (by rw [rangeKs_length, S_len]; omega) (by omega) (by omega) (by assumption)
  k_extra "seg2"
  k_extra "ret"
  exact ow_end (a := p) (b := q) (by assumption) (by rw [rangeKs_length, S_len]; omega)
end Mine
end
section
open PySem PySem.W PyProof.Rows
namespace Mine
theorem lev_s (w : World) (loose : List Str) (mean : ExcName → Option Value) (mg mb : Str → Option Value) (news : List (Addr × Obj)) (x y : Str) (mc : Int) (tx ty tm : Tok) :
    Cl PySem.Challenge.rw_ph0081_01.row.prog w (hd.heap_39 w.params) hd.view_39 loose mean mg mb 35 news (x.length ≤ 40 ∧ y.length ≤ 40) [.str x tx, .str y ty, .int mc tm] (fun t => .int (lev x.cps.toList y.cps.toList mc) t) := by
  have h := lev_c w loose mean mg mb news x.cps.toList y.cps.toList mc tx ty tm
  rw [S_of, S_of] at h
  exact h
end Mine
end
section
open PySem PySem.W PyProof.Rows
set_option maxRecDepth 100000
set_option maxHeartbeats 8000000
namespace Mine
local macro_rules | `(tactic| walk_at "call builtin:len") => `(tactic| k_extra "len")
local macro_rules | `(tactic| walk_at "subscriptTail Name Constant ref int") => `(tactic| k_extra "item0")
local macro_rules | `(tactic| walk_at "subscriptTail Name UnaryOp ref int") => `(tactic| k_extra "itemL")
local macro_rules | `(tactic| walk_at "call builtin:str.find") => `(tactic| refine find4_c rfl ?_)
local macro_rules | `(tactic| walk_at "SPost") => `(tactic| dsimp only [SPost])
theorem ell_c (w : World) (loose : List Str) (mean : ExcName → Option Value) (mg mb : Str → Option Value) (news : List (Addr × Obj)) (want got : Str) (mid : List Str) (tx ty : Tok) :
    Cl PySem.Challenge.rw_ph0081_01.row.prog w (hd.heap_39 w.params) hd.view_39 loose mean mg mb 21 news (Txt.contains want E3 = true ∧ Txt.split want E3 = Str.empty :: (mid ++ [Str.empty]) ∧ want.length ≤ 100 ∧ got.length ≤ 100 ∧ mid.length ≤ 100 ∧ (∀ y ∈ mid, y.length ≤ 100)) [.str want tx, .str got ty] (fun _ => .bool (ellF got (Str.empty :: (mid ++ [Str.empty])) 0)) := by
  k_with "step" => (first | (k_unfold; (try dsimp only)) | (k_end; kc_close) | walk1 | (dsimp only; walk1) | (leave1; walk_say "STEP leave1"; (try dsimp only)) | fail "no step")
  k_with "seg2" => repeat' ((fail_if_success (with_reducible show wpAny _ _ (pyIter _) _ _ _)); (fail_if_success (with_reducible show wpAny _ _ (call (Value.builtin "str.split") _) _ _ _)); k_extra "step")
  k_fill
  dsimp only [Cl, CbRet]; intros; rename_i hpre _ _ hret
  obtain ⟨hc, hsp, hX, hY, hM, hM1⟩ := hpre
  k_with "ret" => (refine cb_retB hret ?_ (by k_asm) (by first | k_asm | (refine' cb_drop ?cbN ?cbS; (case cbN => assumption); (case cbS => kcj_all))))
  k_with "rest" => (intro z h1 h2 h3; (try dsimp only at h2); (try dsimp only); (simp only [List.forall_mem_cons, List.not_mem_nil, false_implies, implies_true, and_true, ne_eq] at h2); (try simp only [List.contains_cons, List.contains_nil, Bool.or_false, Bool.or_eq_false_iff, beq_eq_false_iff_ne, ne_eq] at h3); first | (simp [h1, h2, kstB]; done) | (simp [h1, h2, h3, kstB]; done))
  refine wpAny_call ?_
  k_dflt cell_enter
  k_extra "seg2"
  · rename (_ = true) => hE
    exact absurd hc (by unfold Txt.contains; rw [hE]; decide)
  refine split_c (by k_asm) (by k_asm) (by decide +kernel) hsp ?_ (by rw [sizeLine_eq]; omega)
  intro D' vs' h' k' F' N' l1 hS'
  obtain ⟨t0, t1, ms, hvs⟩ := strs_ends hS'
  have hlen := hS'.length
  have hl2 : vs'.length = mid.length + 2 := by rw [hlen]; simp
  k_with "len" => k_dflt (refine len_ws (by k_asm) (by k_mem) (by assumption) (by omega) ?_)
  k_with "item0" => k_dflt (refine item_ws0 (by k_asm) (by k_mem) ?_)
  k_with "itemL" => k_dflt (refine item_wsL (by k_asm) (by k_mem) ?_)
  subst hvs
  try k_lt l1
  try k_fold
  k_extra "seg2"
  k_with "for" => ((rename Fr _ _ _ _ => lF'); (with_unfolding_all refine' For_invVF lF' ?kfa ?kfb ?_; (case kfa => exact rfl); (case kfb => exact rfl)); k_whole)
  k_extra "for"
  k_extra "seg2"
  rename Fr _ _ _ _ => lF'
  rename News _ _ _ _ => lN'
  refine loopS (σ := Int × Tok) (fun c => [(Str.ofString "startpos", Value.int c.1 c.2)]) [] (fun pre c => EW got (Str.empty :: (mid ++ [Str.empty])) pre c.1) (0, _) (by exact rfl) (by k_mem) hS' lF' lN' (List.forall_mem_cons.mpr ⟨by exact rfl, fun _ h => nomatch h⟩) (ew_start _ _) ?q3 ?q4
  case q3 =>
    intro c pre y post t u h tk own hys hoff hP F1 N1
    clear lF' lN'
    have hyl : y.length ≤ 100 := piece_len (ys := []) hM1 hys
    try k_fold
    k_extra "seg2"
    · k_extra "ret"
      exact ew_no hP hys (by assumption)
    rename Fr _ _ _ _ => lF'
    refine sEnd (_, _) lF' (by assumption) (by first | exact fun p hp => hp | kcj_all) (List.forall_mem_cons.mpr ⟨by exact rfl, fun _ h => nomatch h⟩) (by k_extra "rest") (ew_go hP hys (by assumption))
  intro c u h tk hP F1 N1
  clear lF' lN'
  try k_fold
  k_extra "seg2"
  k_extra "ret"
  exact ew_end hP
end Mine
end
section
open PySem PySem.W PyProof.Rows
set_option maxRecDepth 100000
set_option maxHeartbeats 8000000
namespace Mine
local macro_rules | `(tactic| walk_at "RPost") => `(tactic| dsimp only [RPost])
theorem texts_c (w : World) (loose : List Str) (mean : ExcName → Option Value) (mg mb : Str → Option Value) (news : List (Addr × Obj)) (sg : Str) (size : Int) (tx ty : Tok) :
    ClL PySem.Challenge.rw_ph0081_01.row.prog w (hd.heap_39 w.params) hd.view_39 loose mean mg mb 40 news (0 ≤ size ∧ size ≤ 4 ∧ sg.length ≤ 3) [.str sg tx, .int size ty] (textsF sg size.toNat) := by
  k_fill
  k_with "step" => (first | (k_unfold; (try dsimp only)) | (k_end; kc_close) | walk1 | (dsimp only; walk1) | (leave1; walk_say "STEP leave1"; (try dsimp only)) | fail "no step")
  k_with "seg2" => repeat' ((fail_if_success (with_reducible show wpAny _ _ (pyIter _) _ _ _)); (fail_if_success (with_reducible show wpAny _ _ (exec (Stmt.Assign _ (Expr.ListComp _ _ _ _) _) _) _ _ _)); k_extra "step")
  k_with "enterC" => (refine' code_defC ?k1 ?k2 ?k3 ?k4 ?k5 ?kA ?kF ?kK ?k6 ?k7 ?k8 ?k9 ?kB ?kD ?_ ?c2 ?c3 ?c4; (case kA => exact rfl); (case kF => exact rfl); (case kK => assumption); (case k1 => k_asm); (case k2 => k_asm); (case k3 => k_asm); (case k4 => k_asm); (case k5 => k_asm); (case k6 => k_is); (case k7 => k_is); (case k8 => ktr_room); (case k9 => exact BindsTo.of_eq rfl); (case kB => exact rfl); (case kD => decide +kernel); (case c2 => exact rfl); (case c3 => exact rfl); (case c4 => exact rfl); k_whole; intro g' L' h' tk' cells' FG' F' N' Y' B' X' T' l1; (try k_lt l1); k_cells Y'; (try simp only [List.cons_append, List.nil_append] at N'); (try dsimp only); (try k_lift B'); (try k_fold))
  dsimp only [ClL]; intros; rename_i hpre _ _ hret
  obtain ⟨h1, h2, h3⟩ := hpre
  obtain ⟨k, rfl⟩ : ∃ k : Nat, size = k := ⟨size.toNat, by omega⟩
  refine wpAny_call ?_
  k_dflt (k_extra "enterC")
  k_extra "seg2"
  rename IsRange _ _ _ _ _ _ _ _ => rgX
  rename _ ∧ AllLt _ _ => hl1
  rename Fr _ _ _ _ => lF'
  rename News _ _ _ _ => lN'
  refine loopR (σ := Addr × List Value × Nat) (n := k) (fun c => [(Str.ofString "texts", Value.ref c.1)]) (fun c => [(c.1, W.listOf c.2.1.toArray c.2.2)]) [] (fun i c => StrsAre c.2.1 (textsF sg i) ∧ ∀ p ∈ news, p.1 < c.1) (_, [_], _) rfl rgX ?q1 ?q2 lF' lN' ?q3 ?q4 ?q5 ?q6
  case q1 => exact small_one (by omega) (by omega) (by omega) (by omega)
  case q2 => rw [rangeSize_nat]; omega
  case q3 => exact List.forall_mem_cons.mpr ⟨by exact rfl, fun _ h => nomatch h⟩
  case q4 => exact ⟨StrsAre.cons _ _ .nil, fun p hp => Nat.lt_trans (l1 p hp) (Nat.lt_trans (Nat.lt_succ_self _) hl1.1)⟩
  case q5 =>
    rintro ⟨l, vs, nn⟩ i t u h tk own hi hoff hP F1 N1
    clear lF' lN' rgX
    dsimp only at hoff hP F1 N1
    try k_fold
    k_extra "seg2"
    rename Fr _ _ _ _ => lF'
    rename News _ _ _ _ => lN'
    refine' exec_texts (vs := vs) (xs := textsF sg i) (sg := sg) lF' lN' (by with_unfolding_all rfl) (by with_unfolding_all rfl) (by decide) (by rfl) (by decide) (by rfl) (by rfl) (by decide) (by decide) (by decide) (by decide) (fun _ => by rfl) (by rfl) ?hm ?ho (by intro _; rfl) (by intro _ _; rfl) (by rfl) (by rfl) (by rfl) (by rfl) ?hsrc hP.1 ?hl ?hb ?kk
    case ho => k_asm
    case hm => k_mem
    case hsrc =>
      refine' src_made (by rfl) lF' lN' ?hm2 ?hv2
      case hv2 =>
        intro Q hQ
        k_extra "step"
        exact hQ
      case hm2 => k_mem
    case hl => intro a ha; rw [textsF_len sg i a ha]; omega
    case hb => exact texts_room2 h3 (by omega)
    case kk =>
      intro ys D h' tk' hys F2 N2 l2
      clear lF' lN'
      try k_fold
      k_extra "seg2"
      refine rEnd (D, ys, ys.length) F2 N2 ?e1 ?e2 ?e3 ?e4 ?e5
      case e1 => exact rKeep
      case e2 => exact rOff hoff l2
      case e3 => exact List.forall_mem_cons.mpr ⟨by exact rfl, fun _ h => nomatch h⟩
      case e5 => exact ⟨hys, fun p hp => l2 p (by simp [hp])⟩
      case e4 =>
        intro z hz1 hz2 hz3
        have hz2 := hz2 _ (List.mem_singleton.mpr rfl)
        dsimp only at hz2 ⊢
        simp [hz1, hz2, kstB]
  case q6 =>
    rintro ⟨l, vs, nn⟩ u h tk hP F1 N1
    clear lF' lN' rgX
    dsimp only at hP F1 N1
    try k_fold
    k_extra "seg2"
    refine hret l vs nn _ _ (by k_asm) (by first | k_asm | (refine' cb_drop ?cbN ?cbS; (case cbN => assumption); (case cbS => kcj_all))) hP.2 hP.1
end Mine
end
section
open PySem PySem.W PyProof.Rows
set_option maxRecDepth 100000
set_option maxHeartbeats 8000000
namespace Mine
local macro_rules | `(tactic| walk_at "RPost") => `(tactic| dsimp only [RPost])
theorem many_c (w : World) (loose : List Str) (mean : ExcName → Option Value) (mg mb : Str → Option Value) (news : List (Addr × Obj)) (least size others : Int) (tx ty tz : Tok) :
    Cl PySem.Challenge.rw_ph0081_01.row.prog w (hd.heap_39 w.params) hd.view_39 loose mean mg mb 45 news (0 ≤ size ∧ size ≤ 4 ∧ 0 ≤ least ∧ least ≤ 4 ∧ 0 ≤ others ∧ others ≤ 2) [.int least tx, .int size ty, .int others tz] (fun t => .int (((waysF others size.toNat size.toNat).drop least.toNat).sum) t) := by
  k_fill
  k_with "step" => (first | (k_unfold; (try dsimp only)) | (k_end; kc_close) | walk1 | (dsimp only; walk1) | (leave1; walk_say "STEP leave1"; (try dsimp only)) | fail "no step")
  k_with "seg2" => repeat' ((fail_if_success (with_reducible show wpAny _ _ (pyIter _) _ _ _)); (fail_if_success (with_reducible show wpAny _ _ (eval (Expr.ListComp _ _ _ _) _) _ _ _)); k_extra "step")
  k_with "enterC" => (refine' code_defC ?k1 ?k2 ?k3 ?k4 ?k5 ?kA ?kF ?kK ?k6 ?k7 ?k8 ?k9 ?kB ?kD ?_ ?c2 ?c3 ?c4; (case kA => exact rfl); (case kF => exact rfl); (case kK => assumption); (case k1 => k_asm); (case k2 => k_asm); (case k3 => k_asm); (case k4 => k_asm); (case k5 => k_asm); (case k6 => k_is); (case k7 => k_is); (case k8 => ktr_room); (case k9 => exact BindsTo.of_eq rfl); (case kB => exact rfl); (case kD => decide +kernel); (case c2 => exact rfl); (case c3 => exact rfl); (case c4 => exact rfl); k_whole; intro g' L' h' tk' cells' FG' F' N' Y' B' X' T' l1; (try k_lt l1); k_cells Y'; (try simp only [List.cons_append, List.nil_append] at N'); (try dsimp only); (try k_lift B'); (try k_fold))
  dsimp only [Cl, CbRet]; intros; rename_i hpre _ _ hret
  obtain ⟨h1, h2, h3, h4, h5, h6⟩ := hpre
  obtain ⟨k, rfl⟩ : ∃ k : Nat, size = k := ⟨size.toNat, by omega⟩
  have hk0 : ((k : Int)).toNat = k := by omega
  rw [hk0] at hret
  clear hk0
  refine wpAny_call ?_
  k_dflt (k_extra "enterC")
  k_extra "seg2"
  rename_i oW oO dW dO la ha lta lb hb ltb Dz hz iz nz sz ez1 ez2 ez3 ltz Dw vsw hw lF' lN' iw ltw
  refine' storeC ((Dw, W.listOf vsw.toArray 0) :: (L' + 1, oO) :: news) lF' lN' ?c ?d ?m ?s ?n ?_
  case c => rfl
  case m => k_mem
  case d => k_asm
  case s => exact List.forall_mem_cons.mpr ⟨by k_mem, List.forall_mem_cons.mpr ⟨by k_mem, fun p hp => by simp [hp]⟩⟩
  case n => exact List.forall_mem_cons.mpr ⟨by k_ne, List.forall_mem_cons.mpr ⟨by k_ne, fun p hp => Nat.ne_of_lt (Nat.lt_succ_of_lt (Nat.lt_succ_of_lt (l1 p hp)))⟩⟩
  have hDw : L' + 1 < Dw := ltw.2.2.2.2.1
  have hDw2 : L' + 1 + 1 < Dw := ltw.2.2.2.1
  have hDw3 : ∀ p ∈ news, p.1 < Dw := fun p hp => Nat.lt_trans (l1 p hp) (Nat.lt_trans (Nat.lt_succ_self _) hDw)
  have iw' : IntsAre vsw (waysF others k 0) := by
    have e : (List.replicate ((k : Int)).toNat [(0 : Int)]).flatten = List.replicate k 0 := by
      simp [List.flatten_replicate_singleton]
    rw [e] at iw; exact iw
  clear lF' lN' lta ltb iz sz ez1 ez2 ez3 ltz ltw iw
  intro h2' oW' F2 N2 d2
  k_extra "seg2"
  rename IsRange _ _ _ _ _ _ _ _ => rgX
  rename Fr _ _ _ _ => lF'
  rename News _ _ _ _ => lN'
  refine loopR (σ := Obj × Addr × List Value × Nat) (n := k) (fun c => []) (fun c => [(L' + 1 + 1, c.1), (c.2.1, W.listOf c.2.2.1.toArray c.2.2.2)]) [] (fun i c => c.1.data = Data.cell (some (Value.ref c.2.1)) ∧ IntsAre c.2.2.1 (waysF others k i) ∧ L' + 1 + 1 < c.2.1 ∧ (∀ p ∈ news, p.1 < c.2.1)) (_, _, _, _) rfl rgX ?q1 ?q2 lF' lN' ?q3 ?q4 ?q5 ?q6
  case q1 => exact small_one (by omega) (by omega) (by omega) (by omega)
  case q2 => rw [rangeSize_nat]; omega
  case q3 => exact fun _ h => nomatch h
  case q4 => exact ⟨d2, iw', hDw2, hDw3⟩
  case q5 =>
    rintro ⟨oW, l, vs, nn⟩ i t u h tk own hi hoff ⟨hP1, hP2, hP3, hP4⟩ F1 N1
    clear lF' lN' rgX
    dsimp only at hoff hP1 hP2 hP3 hP4 F1 N1
    clear d2 iw' hDw hDw2 hDw3
    have hlen := waysF_length others k i
    have hb := fun j => waysF_small h5 h6 k (show i ≤ 4 by omega) j
    have hnext := waysF_succ others k i
    generalize hns : waysF others k i = ns at hlen hb hnext hP2
    clear hns
    have hmul : ∀ j, 0 ≤ others * ns.getD j 0 ∧ others * ns.getD j 0 ≤ 162 := fun j => ⟨Int.mul_nonneg h5 (hb j).1, Int.le_trans (Int.mul_le_mul h6 (hb j).2 (hb j).1 (by decide)) (by decide)⟩
    have hm0 := hmul 0
    have hb0 := hb 0
    simp only [List.cons_append, List.nil_append] at N1
    try k_fold
    k_extra "seg2"
    rename Fr _ _ _ _ => lF'
    rename News _ _ _ _ => lN'
    refine' eval_ints (n := k) (a := 1) (fun j => others * ns.getD j.toNat 0 + ns.getD (j - 1).toNat 0) lF' lN' (by with_unfolding_all rfl) (by decide) (by rfl) (by decide) (by rfl) (by intro _; rfl) ?hsrc (by omega) ?helt ?hfin
    case hsrc =>
      k_extra "seg2"
      rename IsRange _ _ _ _ _ _ _ _ => rgX
      refine srcAt1_range (by rfl) (by k_asm) (by k_asm) rgX (small_one (by omega) (by omega) (by omega) (by omega)) (by rw [rangeSize_nat]; omega)
    case helt =>
      intro C j tj h3 tk3 mC E' ha1 ha2 ha3 F3 n3 N3
      clear lF' lN'
      refine' elt_way (ns := ns) (others := others) (tO := tz) (by rfl) (by rfl) (by rfl) (by rfl) (by decide) (by decide) (by decide) (by rfl) (by rfl) N3 ?m1 ?d1 ?m2 ?d2 ?m3 hP2 n3 ha3 ha1 (by omega) (by omega) (IntMulOk.of_left (intBits_le_64 (by omega) (by omega))) ?k
      case m1 => k_mem
      case d1 => exact dO
      case m2 => k_mem
      case d2 => exact hP1
      case m3 => k_mem
      case k => intro tk t; exact ⟨_, _, rfl, rfl⟩
    case hfin =>
      intro D ys h3 tk3 hys F3 N3 l3
      clear lF' lN'
      k_extra "seg2"
      rename IntsAre _ ([_] ++ _) => iw2
      rename_i Du vsu hu lF' lN' ltu
      refine' storeC ((Du, W.listOf vsu.toArray 0) :: (L' + 1, oO) :: (news ++ own)) lF' lN' ?c ?d ?m ?s ?n ?_
      case c => rfl
      case m => k_mem
      case d => k_asm
      case s => exact List.forall_mem_cons.mpr ⟨by k_mem, List.forall_mem_cons.mpr ⟨by k_mem, fun p hp => by simp [List.mem_append.mp hp]⟩⟩
      case n =>
        refine List.forall_mem_cons.mpr ⟨by k_ne, List.forall_mem_cons.mpr ⟨by k_ne, fun p hp => ?_⟩⟩
        rcases List.mem_append.mp hp with hp | hp
        · exact Nat.ne_of_lt (Nat.lt_succ_of_lt (Nat.lt_succ_of_lt (l1 p hp)))
        · exact hoff p hp _ (List.Mem.head _)
      have hDu : L' + 1 < Du := ltu.2.2.2.2.1
      have hDu2 : L' + 1 + 1 < Du := ltu.2.2.1
      have hDu3 : ∀ p ∈ news ++ own, p.1 < Du := fun p hp => by
        have := l3 p (by simp [List.mem_append.mp hp])
        exact Nat.lt_trans this ltu.1
      clear lF' lN' ltu
      intro h5' oW2 F5 N5 d5
      k_extra "seg2"
      refine rEnd (oW2, Du, vsu, 0) F5 N5 ?e1 ?e2 ?e3 ?e4 ?e5
      case e1 =>
        intro p hp
        simp only [List.mem_append, List.mem_cons, List.not_mem_nil, or_false] at hp ⊢
        rcases hp with ((hp | hp) | hp | hp) | hp
        · exact .inl hp
        · exact .inr (.inl hp)
        · exact .inr (.inr (.inl hp))
        · exact .inr (.inr (.inr (.inl hp)))
        · exact .inr (.inr (.inr (.inr hp)))
      case e2 =>
        intro p hp q hq
        simp only [List.mem_append, List.mem_cons, List.not_mem_nil, or_false] at hq
        rcases hq with (hq | hq) | hq
        · rw [hq]; exact hoff p hp (L' + 1 + 1, oW) (List.Mem.head _)
        · rw [hq]; exact Nat.ne_of_lt (hDu3 p (List.mem_append_right _ hp))
        · exact hoff p hp q (List.mem_append_right _ (by simpa using hq))
      case e3 => exact fun _ h => nomatch h
      case e4 =>
        intro z hz1 hz2 hz3
        simp [hz1, kstB]
      case e5 => exact ⟨d5, by rw [hnext]; exact iw2, hDu2, fun p hp => hDu3 p (List.mem_append_left _ hp)⟩
  case q6 =>
    rintro ⟨oW, l, vs, nn⟩ u h tk ⟨hP1, hP2, hP3, hP4⟩ F1 N1
    clear lF' lN' rgX
    dsimp only at hP1 hP2 hP3 hP4 F1 N1
    simp only [List.cons_append, List.nil_append] at N1
    have hlen := waysF_length others k k
    generalize hns : waysF others k k = ns at hlen hP2
    try k_fold
    k_extra "seg2"
    refine cb_retI hret (by rw [hns]) (by k_asm) (by first | k_asm | (refine' cb_drop ?cbN ?cbS; (case cbN => assumption); (case cbS => kcj_all)))
end Mine
end
section
open PySem PySem.W PyProof.Rows
set_option maxRecDepth 100000
set_option maxHeartbeats 8000000
namespace Mine
local macro_rules | `(tactic| walk_at "exec If") => `(tactic| ((with_reducible show wpAny _ _ (exec (Stmt.If (Expr.Name _ _) _ _ _) _) _ _ _); k_dflt (refine wpAny_If ?_)))
local macro_rules | `(tactic| walk_at "SPost") => `(tactic| dsimp only [SPost])
local macro_rules | `(tactic| walk_at "RPost") => `(tactic| dsimp only [RPost])
local macro_rules | `(tactic| walk_at "k_lts") => `(tactic| first | exact List.forall_mem_nil _ | (refine' List.forall_mem_cons.mpr ⟨?a, ?b⟩; (case a => ((show @LT.lt Nat _ _ _); (try dsimp only); omega)); (case b => walk_at "k_lts")))
theorem law1 : PySem.Challenge.rw_ph0081_01.Holds := hd (by
  k_with "step" => (first | (k_unfold; (try dsimp only)) | (k_end; kc_close) | walk1 | (dsimp only; walk1) | (leave1; walk_say "STEP leave1"; (try dsimp only)) | fail "no step")
  k_with "seg2" => repeat' ((fail_if_success (with_reducible show wpAny _ _ (pyIter _) _ _ _)); (fail_if_success (with_reducible show wpAny _ _ (eval (Expr.ListComp _ _ _ _) _) _ _ _)); (fail_if_success (with_reducible show wpAny _ _ (eval (Expr.IfExp _ _ _ _) _) _ _ _)); k_extra "step")
  k_with "seg3" => repeat' ((fail_if_success (with_reducible show wpAny _ _ (pyIter _) _ _ _)); (fail_if_success (with_reducible show wpAny _ _ (call (Value.ref _) _) _ _ _)); k_extra "step")
  k_with "seg4" => repeat' ((fail_if_success (with_reducible show wpAny _ _ (pyIter _) _ _ _)); (fail_if_success (with_reducible show wpAny _ _ (call (Value.ref _) _) _ _ _)); (fail_if_success (with_reducible show wpAny _ _ (exec (Stmt.If _ _ _ _) _) _ _ _)); k_extra "step")
  k_with "rest" => (intro z h1 h2 h3; (try dsimp only at h2); (try dsimp only); (simp only [List.forall_mem_cons, List.not_mem_nil, false_implies, implies_true, and_true, ne_eq] at h2); (try simp only [List.contains_cons, List.contains_nil, Bool.or_false, Bool.or_eq_false_iff, beq_eq_false_iff_ne, ne_eq] at h3); first | (simp [h1, h2, kstB]; done) | (simp [h1, h2, h3, kstB]; done))
  k_with "args" => ((case k2 => k_asm); (case k4 => k_asm); (case k3 => k_asm); (case k5 => k_asm); (case k1 => k_asm); (case kK => first | exact rfl | assumption); (case kd => ktr_room); (case ku => ktr_units))
  k_with "argsE" => ((case e2 => k_asm); (case e4 => k_asm); (case e3 => k_asm); (case e5 => k_asm); (case e1 => k_asm); (case eK => first | exact rfl | assumption); (case ed => ktr_room); (case eu => ktr_units))
  k_with "argsL" => ((case f2 => k_asm); (case f4 => k_asm); (case f3 => k_asm); (case f5 => k_asm); (case f1 => k_asm); (case fK => first | exact rfl | assumption); (case fd => ktr_room); (case fu => ktr_units))
  k_with "argsM" => ((case g2 => k_asm); (case g4 => k_asm); (case g3 => k_asm); (case g5 => k_asm); (case g1 => k_asm); (case gK => first | exact rfl | assumption); (case gd => ktr_room); (case gu => ktr_units))
  k_with "argsU" => ((case u2 => k_asm); (case u4 => k_asm); (case u3 => k_asm); (case u5 => k_asm); (case u1 => k_asm); (case uK => first | exact rfl | assumption); (case ud => ktr_room); (case uu => ktr_units))
  k_with "table" => skip
  k_go0
  all_goals (try k_fold)
  k_extra "seg2"
  rename IntsAre _ _ => hI0
  rename List Int => ns
  rename Obj => oP
  rename _ = Data.cell _ => dP
  rename News _ _ _ [_, _] => lN'
  rename Fr _ _ _ _ => lF'
  refine cutLV lF' lN' (numF ns) ?p1 ?p2
  case p1 =>
    k_extra "step"
    k_extra "seg2"
    · refine' outLV ?hF (.cons 0 _ (.cons 0 _ .nil)) ?he ?hN ?hm ?hs ?hl
      case hF => k_asm
      case hN => k_asm
      case he => exact (if_pos (by simpa using (by assumption : decide (ns = []) = true))).symm
      case hm => k_mem
      case hs => kcj_all
      case hl => walk_at "k_lts"
    · refine' outLV ?hF (by assumption) ?he ?hN ?hm ?hs ?hl
      case hF => k_asm
      case hN => k_asm
      case he => exact (if_neg (by simpa using (by assumption : decide (ns = []) = false))).symm
      case hm => k_mem
      case hs => kcj_all
      case hl => walk_at "k_lts"
  clear lF' lN'
  intro D vs nn h2' tk2' F2 N2 l2 hI2
  k_lt l2
  k_extra "seg2"
  have hpl : (pairF ns.sum).length = 2 := pairF_len _
  have dP' : oP.data = Data.cell (some (Value.str (pairF ns.sum) _)) := dP
  clear dP
  generalize hpair : pairF ns.sum = pair at hpl dP'
  rename News _ _ _ [_, _, _] => lN'
  rename Fr _ _ _ _ => lF'
  have hnl : (numF ns).length ≤ 3 := numF_len _
  have hvl := hI2.length
  refine eval_strs (P := fun i v => vs[i]? = some v) ((numF ns).map fun x => Txt.item pair (x.fmod 2)) (by rw [List.length_map]; exact hvl.symm) lF' lN' (by with_unfolding_all rfl) (by decide) (by rfl) (by decide) (by rfl) (by intro _; rfl) (src_made (by rfl) lF' lN' (by k_mem) ?hsrc) (by omega) ?helt ?hfin
  case hsrc =>
    intro Q hQ
    k_extra "step"
    exact hQ
  case helt =>
    intro C j v y h tk mC E' hj hP hv F3 n3 N3
    clear lF' lN'
    obtain ⟨x, tx, hx, rfl⟩ := ints_at hI2 hP
    rw [List.getElem?_map, hx] at hj
    cases hj
    exact elt_pick (pair := pair) (by rfl) (by rfl) (by rfl) (by decide) (by decide) (by rfl) N3 (by k_mem) dP' n3 hv hpl fun tk t => ⟨_, _, rfl, rfl⟩
  clear lF' lN'
  intro D3 ys3 h3' tk3' hys3 F3 N3 l3
  k_lt l3
  k_extra "seg2"
  generalize hrs : (numF ns).map (fun x => Txt.item pair (x.fmod 2)) = rs at hys3
  have hrl : rs.length ≤ 3 := by rw [← hrs, List.length_map]; exact hnl
  have hr1 : ∀ a ∈ rs, a.length = 1 := by
    intro a ha
    rw [← hrs] at ha
    obtain ⟨x, _, rfl⟩ := List.mem_map.mp ha
    exact item_one hpl
  refine join_c N3 (by k_mem) hys3 (fun a ha => by rw [hr1 a ha]; omega) (by decide) (by omega) ?_
  intro tw kw
  generalize hword : Txt.join (Str.ofString "") rs = word
  have hwl : word.length ≤ 3 := by rw [← hword]; exact Nat.le_trans (Nat.le_of_eq (KT.join_ones rs hr1)) hrl
  clear hys3
  k_extra "seg2"
  rename News _ _ _ [_, _, _, _] => lN'
  rename Fr _ _ _ _ => lF'
  refine eval_strs (P := SignAt word) ((signsOf word).map fun y => y ++ Str.ofString "...") (by rw [List.length_map, signsOf_length]) lF' lN' (by with_unfolding_all rfl) (by decide) (by rfl) (by decide) (by rfl) (by intro _; rfl) (src_str (t := tw) (by rfl) lF' lN' ?hsrc2) (by have e : word.length = word.cps.size := rfl; omega) ?helt2 ?hfin2
  case hsrc2 =>
    intro Q hQ
    k_extra "step"
    exact hQ
  case helt2 =>
    intro C j v y h tk mC E' hj hP hv F3 n3 N3
    clear lF' lN'
    obtain ⟨x, tx, hx, rfl⟩ := signAt_of hP
    rw [List.getElem?_map, hx] at hj
    cases hj
    have hx1 := signsOf_one (List.mem_of_getElem? hx)
    exact elt_plus (by rfl) (by rfl) (by decide) n3 hv (by rw [hx1]; decide) fun tk t => ⟨_, _, rfl, rfl⟩
  clear lF' lN'
  intro D4 ys4 h4' tk4' hys4 F4 N4 l4
  k_lt l4
  k_extra "seg2"
  refine join_c N4 (by k_mem) hys4 (fun a ha => by obtain ⟨b, hb, rfl⟩ := List.mem_map.mp ha; rw [str_append_len, signsOf_one hb]; decide) (by decide) (by rw [List.length_map, signsOf_length]; have e : word.length = word.cps.size := rfl; omega) ?_
  intro tw kw
  generalize hwant : Txt.join (Str.ofString "") ((signsOf word).map fun y => y ++ Str.ofString "...") = wj
  have hwj : wj.length ≤ 12 := by
    rw [← hwant]
    refine Nat.le_trans (joinLen_le 4 _ ?_) (by rw [List.length_map, signsOf_length]; have e : word.length = word.cps.size := rfl; omega)
    intro a ha; obtain ⟨b, hb, rfl⟩ := List.mem_map.mp ha; rw [str_append_len, signsOf_one hb]; decide
  k_extra "seg2"
  clear l4 l3 l2 hys4
  rename Fr _ _ _ _ => lF'
  rename News _ _ _ _ => lN0
  have lN' := cb_drop (news := [(_, oP)]) lN0 (List.forall_mem_cons.mpr ⟨by k_mem, List.forall_mem_nil _⟩)
  clear lN0
  refine cutSV lF' lN' (signsF pair ns.sum) ?s1 ?s2
  case s1 =>
    k_extra "step"
    k_extra "seg2"
    · exact outSV (by k_asm) (if_pos (by assumption)).symm (by k_asm) (fun p hp => hp)
    · exact outSV (by k_asm) (if_neg (by assumption)).symm (by k_asm) (fun p hp => hp)
  clear lF' lN'
  intro tsg h5' tk5' F5 N5
  have hsl := signsF_len hpl ns.sum
  generalize hsg : signsF pair ns.sum = signs at hsl
  k_extra "seg2"
  rename Fr _ _ _ _ => lF'
  rename News _ _ _ _ => lN'
  refine cutIV lF' lN' (mostF signs ns.length) ?m1 ?m2
  case m1 =>
    k_extra "step"
    k_extra "seg2"
    · exact outIV (by k_asm) (if_pos ⟨by omega, by omega⟩).symm (by k_asm) (fun p hp => hp)
    · exact outIV (by k_asm) (if_neg (fun q => by omega)).symm (by k_asm) (fun p hp => hp)
    · exact outIV (by k_asm) (if_neg (fun q => by omega)).symm (by k_asm) (fun p hp => hp)
  clear lF' lN'
  intro tmo h6' tk6' F6 N6
  have hmo := mostF_le signs ns.length
  generalize hmost : mostF signs ns.length = most at hmo
  k_extra "seg2"
  obtain ⟨mo, rfl⟩ : ∃ k : Nat, most = k := ⟨most.toNat, by omega⟩
  rename IsRange _ _ _ _ _ _ _ _ => rgX
  rename Fr _ _ _ _ => lF'
  rename News _ _ _ _ => lN'
  refine loopR (σ := Unit) (n := mo + 1) (fun c => []) (fun c => []) [Str.ofString "due", Str.ofString "taken", Str.ofString "text", Str.ofString "fits", Str.ofString "told"] (fun i c => True) () rfl rgX ?q1 ?q2 lF' lN' ?q3 ?q4 ?q5 ?q6
  case q1 => exact small_one (by omega) (by omega) (by omega) (by omega)
  case q2 => rw [rangeSize_nat]; omega
  case q3 => exact fun _ h => nomatch h
  case q4 => trivial
  case q5 =>
    rintro ⟨⟩ i t u h tk own hi hoff - F1 N1
    clear lF' lN' rgX
    dsimp only at hoff F1 N1
    simp only [List.cons_append, List.nil_append] at N1
    try k_fold
    k_extra "seg3"
    k_dflt (refine' texts_c _ _ _ _ _ _ _ _ _ _ _ _ _ _ _ _ _ _ _ _ _ _ _ _ _ _ _ ?k1 ?k2 ?k3 ?k4 ?k5 ?kK ?kp ?kd ?ku ?kR)
    k_extra "args"
    case kp => exact ⟨by omega, by omega, hsl.2⟩
    intro D2 us2 n2 h2 tk2 F2 N2 l2 hS2
    have hsz : (0 + (i : Int)).toNat = i := by omega
    rw [hsz] at hS2
    k_lt l2
    have hP := law_pure hpair hrs hword hsg hmost hi
    rename Fr _ _ _ _ => lF'
    rename News _ _ _ _ => lN'
    k_extra "seg3"
    refine loopS (σ := Int × Tok) (fun c => [(Str.ofString "taken", Value.int c.1 c.2)]) [Str.ofString "fits", Str.ofString "told"] (fun pre c => c.1 = (takenF word pre : Int)) (0, _) (by exact rfl) (by k_mem) hS2 lF' lN' (List.forall_mem_cons.mpr ⟨by exact rfl, fun _ h => nomatch h⟩) rfl ?r1 ?r2
    case r1 =>
      rintro ⟨c, ct⟩ pre y post ty uu h3 tk3 own3 hys hoff3 hPc F3 N3
      clear lF' lN'
      dsimp only at hPc F3
      simp only [List.cons_append, List.nil_append] at N3
      have hy : y ∈ textsF signs i := by rw [hys]; simp
      have hyl := textsF_len signs i y hy
      obtain ⟨ht1, ht2⟩ := hP.told y hy
      have hw := wantF_eq hwant
      have hc := hP.has
      have hs := hP.cut
      rw [hw] at hc hs
      try k_fold
      k_extra "seg3"
      k_dflt (refine' ell_c _ _ _ _ _ _ _ _ (signsOf word) _ _ _ _ _ _ _ _ _ _ _ _ _ _ _ _ _ _ _ ?e1 ?e2 ?e3 ?e4 ?e5 ?eK ?ep ?ed ?eu ?eR)
      k_extra "argsE"
      case ep => exact ⟨hc, hs, by rw [str_append_len]; have e3 : (Str.ofString "...").length = 3 := rfl; omega, by omega, by rw [signsOf_length]; have e : word.length = word.cps.size := rfl; omega, fun z hz => by rw [signsOf_one hz]; decide⟩
      intro _ h9 tk9 F9 N9
      clear hc hs hw
      change ellF y (midF word) 0 = _ at ht2
      generalize hb : ellF y (midF word) 0 = b at ht2
      have hb' : ellF y (Str.empty :: (signsOf word ++ [Str.empty])) 0 = b := hb
      rw [hb']
      clear hb'
      k_extra "seg4"
      rename Fr _ _ _ _ => lF'
      rename News _ _ _ _ => lN'
      refine cutI lF' lN' (Str.ofString "told") (toldF word y i) ?t1 ?t2
      case t1 =>
        k_extra "step"
        k_extra "seg3"
        · k_dflt (refine' lev_s _ _ _ _ _ _ _ _ _ _ _ _ _ _ _ _ _ _ _ _ _ _ _ _ _ _ _ _ _ ?f1 ?f2 ?f3 ?f4 ?f5 ?fK ?fp ?fd ?fu ?fR)
          k_extra "argsL"
          case fp => exact ⟨by omega, by omega⟩
          intro t12 h12 tk12 F12 N12
          k_extra "seg3"
          exact outI (by k_asm) (by k_asm) (by exact rfl) (toldF_even (by assumption)) (by intro z hz; simp [hz])
        · k_dflt (refine' lev_s _ _ _ _ _ _ _ _ _ _ _ _ _ _ _ _ _ _ _ _ _ _ _ _ _ _ _ _ _ ?g1 ?g2 ?g3 ?g4 ?g5 ?gK ?gp ?gd ?gu ?gR)
          k_extra "argsM"
          case gp => exact ⟨by omega, by omega⟩
          intro t12 h12 tk12 F12 N12
          k_extra "seg3"
          exact outI (by k_asm) (by k_asm) (by exact rfl) (toldF_odd (by assumption)) (by intro z hz; simp [hz])
      clear lF' lN'
      intro tt h10 tk10 F10 N10
      have hd0 : dueF word i = 2 * (0 + (i : Int) - word.length) := by unfold dueF; omega
      rw [hd0] at ht1 ht2
      clear hd0
      generalize htv : toldF word y i = tv at ht1 ht2 F10
      have hcnt := takenF_snoc word pre y
      rw [hb] at hcnt
      cases b
      · have hne : ¬ tv = 2 * (0 + (i : Int) - word.length) := of_decide_eq_false ht2.symm
        have hne' : (tv == 2 * (0 + (i : Int) - word.length)) = false := beq_eq_false_iff_ne.mpr hne
        clear ht2
        k_extra "seg3"
        refine sEnd (c, ct) (by k_asm) (by k_asm) (fun p hp => hp) (List.forall_mem_cons.mpr ⟨by exact rfl, fun _ h => nomatch h⟩) (by k_extra "rest") ?_
        show c = (takenF word (pre ++ [y]) : Int)
        rw [hcnt, hPc]
        rfl
      · have he : tv = 2 * (0 + (i : Int) - word.length) := of_decide_eq_true ht2.symm
        clear ht2
        subst he
        k_extra "seg3"
        refine sEnd (c + 1, _) (by k_asm) (by k_asm) (fun p hp => hp) (List.forall_mem_cons.mpr ⟨by exact rfl, fun _ h => nomatch h⟩) (by k_extra "rest") ?_
        show c + 1 = (takenF word (pre ++ [y]) : Int)
        rw [hcnt, hPc]
        rfl
    case r2 =>
      rintro ⟨c, ct⟩ uu h3 tk3 hPc F3 N3
      clear lF' lN'
      dsimp only at hPc F3
      try k_fold
      k_extra "seg3"
      k_dflt (refine' many_c _ _ _ _ _ _ _ _ _ _ _ _ _ _ _ _ _ _ _ _ _ _ _ _ _ _ _ _ _ ?u1 ?u2 ?u3 ?u4 ?u5 ?uK ?up ?ud ?uu ?uR)
      k_extra "argsU"
      case up => exact ⟨by omega, by omega, by omega, by omega, by omega, by omega⟩
      have hm := hP.many
      have hv : ((waysF ((signs.length : Int) - 1) (0 + (i : Int)).toNat (0 + (i : Int)).toNat).drop ((word.length : Int)).toNat).sum = c := by
        rw [hsz, Int.toNat_natCast, ← hm, hPc]
      rw [hv]
      clear hm hv
      intro t13 h13 tk13 F13 N13
      k_extra "seg3"
      refine rEnd () F13 N13 ?v1 ?v2 (fun _ h => nomatch h) (by k_extra "rest") trivial
      case v1 => exact fun p hp => List.Mem.tail _ hp
      case v2 => exact hoff
  case q6 =>
    rintro ⟨⟩ u h tk - F1 N1
    clear lF' lN' rgX
    dsimp only at F1 N1
    try k_fold
    k_extra "seg3"
    done)
end Mine
end
theorem PySem.Challenge.cw_ph0081_01_holds : PySem.Challenge.rw_ph0081_01.Holds := by
  exact Mine.law1
