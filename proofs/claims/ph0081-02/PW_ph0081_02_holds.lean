import PyProof.Rows.All
import Wide.All
import OpenK.AllK
import Wide.FinOn
import Lean
import PySem.Challenge.RW_ph0081_02
open PySem PySem.W PyProof.Rows
set_option Elab.async false
set_option linter.all false
section
open PySem PySem.W PyProof.Rows
namespace Mine
/-- a text by its signs -/
abbrev S (l : List Nat) : Str := ⟨l.toArray⟩
theorem S_of (x : Str) : S x.cps.toList = x := by cases x; simp [S]
theorem S_len (l : List Nat) : (S l).length = l.length := by simp [S, Str.length]
theorem S_inj {l r : List Nat} (h : S l = S r) : l = r := by
  have := congrArg (fun x : Str => x.cps.toList) h
  simpa [S] using this
theorem S_beq (l r : List Nat) : (S l == S r) = decide (l = r) := by
  by_cases h : l = r
  · subst h; simp
  · rw [decide_eq_false h]
    exact beq_eq_false_iff_ne.mpr fun e => h (S_inj e)
theorem slice_from (l : List Nat) {k : Int} (h0 : 0 ≤ k) : Txt.slice (S l) (some k) none = S (l.drop k.toNat) := by
  by_cases h : k ≤ (S l).length
  · rw [slice_from_eq h0 h rfl]
    rw [S_len] at h ⊢
    have : (S l).cps.toList = l := by simp [S]
    rw [this, List.take_of_length_le]
    simp only [List.length_drop]
    omega
  · rw [slice_beyond (by omega)]
    rw [S_len] at h
    rw [List.drop_of_length_le (by omega)]
    rfl
theorem slice_all (x : Str) : Txt.slice x none none = x := by
  unfold Txt.slice
  rw [if_pos]
  simp [Builtin.Str.strSliceIndices, sliceRange]
  omega
theorem slice_to (l : List Nat) {k : Int} (h0 : k < 0) : Txt.slice (S l) none (some k) = S (l.take (l.length - (-k).toNat)) := by
  have key : Txt.slice (S l) none (some k) = Txt.slice (S l) none (some ((l.length - (-k).toNat : Nat) : Int)) := by
    unfold Txt.slice
    have e : Builtin.Str.strSliceIndices none (some k) 1 (S l).length = Builtin.Str.strSliceIndices none (some ((l.length - (-k).toNat : Nat) : Int)) 1 (S l).length := by
      rw [S_len]
      have h1 : ¬ (((l.length - (-k).toNat : Nat) : Int) < 0) := by omega
      have h2 : max 0 (min (k + (l.length : Int)) (l.length : Int)) = max 0 (min ((l.length - (-k).toNat : Nat) : Int) (l.length : Int)) := by omega
      simp only [Builtin.Str.strSliceIndices, h0, h1, if_true, if_false, h2, show (1 : Int) > 0 by decide]
    rw [e]
  rw [key]
  have c := beq_iff_eq.mp (slice_closes_to (x := S l) (j := ((l.length - (-k).toNat : Nat) : Int)) (by simp))
  rw [c]
  have : (S l).cps.toList = l := by simp [S]
  rw [this]
  simp
theorem item_at (l : List Nat) {k : Int} (h0 : 0 ≤ k) (h1 : k < l.length) : Txt.item (S l) k = S [l.getD k.toNat 0] := by
  unfold Txt.item Txt.charAt seqIndex?
  rw [S_len]
  have : ¬ k < 0 := by omega
  have hk : k.toNat < l.length := by omega
  simp [this, h0, h1, S, List.getD_eq_getElem?_getD]
theorem item_back (l : List Nat) {k : Int} (h0 : k < 0) (h1 : -k ≤ l.length) : Txt.item (S l) k = S [l.reverse.getD (-k - 1).toNat 0] := by
  unfold Txt.item Txt.charAt seqIndex?
  rw [S_len]
  have hj : 0 ≤ k + (l.length : Int) := by omega
  have hj' : k + (l.length : Int) < l.length := by omega
  have e : l.length - 1 - (-k - 1).toNat = (k + (l.length : Int)).toNat := by omega
  have hlt : (-k - 1).toNat < l.length := by omega
  have hr : l.reverse.getD (-k - 1).toNat 0 = l.getD (k + (l.length : Int)).toNat 0 := by
    rw [List.getD_eq_getElem?_getD, List.getElem?_reverse hlt, e, ← List.getD_eq_getElem?_getD]
  rw [hr]
  simp [h0, hj, hj', S, List.getD_eq_getElem?_getD]
/-- how many signs two texts share at their beginnings -/
def lcp : List Nat → List Nat → Nat
  | a :: r, b :: q => if a = b then lcp r q + 1 else 0
  | _, _ => 0
theorem lcp_eq {a b : Nat} {r q : List Nat} (h : a = b) : lcp (a :: r) (b :: q) = lcp r q + 1 := by rw [lcp]; exact if_pos h
theorem lcp_ne {a b : Nat} {r q : List Nat} (h : ¬ a = b) : lcp (a :: r) (b :: q) = 0 := by rw [lcp]; exact if_neg h
theorem lcp_nil_l (b : List Nat) : lcp [] b = 0 := by cases b <;> rfl
theorem lcp_nil_r (a : List Nat) : lcp a [] = 0 := by cases a <;> rfl
theorem lcp_le_l : ∀ a b : List Nat, lcp a b ≤ a.length
  | [], b => by rw [lcp_nil_l]; exact Nat.zero_le _
  | a :: r, [] => by rw [lcp_nil_r]; exact Nat.zero_le _
  | a :: r, b :: q => by unfold lcp; split; (· have := lcp_le_l r q; simp; exact this); simp
theorem lcp_le_r : ∀ a b : List Nat, lcp a b ≤ b.length
  | [], b => by rw [lcp_nil_l]; exact Nat.zero_le _
  | a :: r, [] => by rw [lcp_nil_r]; exact Nat.zero_le _
  | a :: r, b :: q => by unfold lcp; split; (· have := lcp_le_r r q; simp; exact this); simp
theorem lcp_step {a b : List Nat} {k : Nat} (ha : k < a.length) (hb : k < b.length) (he : a.getD k 0 = b.getD k 0) (hk : k + lcp (a.drop k) (b.drop k) = lcp a b) : k + 1 + lcp (a.drop (k + 1)) (b.drop (k + 1)) = lcp a b := by
  rw [List.drop_eq_getElem_cons ha, List.drop_eq_getElem_cons hb] at hk
  have e : a[k] = b[k] := by simpa [List.getD_eq_getElem?_getD, ha, hb] using he
  rw [lcp_eq e] at hk
  omega
theorem lcp_stop {a b : List Nat} {k : Nat} (h : k = a.length ∨ k = b.length ∨ (k < a.length ∧ k < b.length ∧ a.getD k 0 ≠ b.getD k 0)) (hk : k + lcp (a.drop k) (b.drop k) = lcp a b) : k = lcp a b := by
  rcases h with h | h | ⟨ha, hb, he⟩
  · rw [h, List.drop_length, lcp_nil_l] at hk; omega
  · rw [h, List.drop_length, lcp_nil_r] at hk; omega
  · rw [List.drop_eq_getElem_cons ha, List.drop_eq_getElem_cons hb] at hk
    have e : ¬ a[k] = b[k] := by simpa [List.getD_eq_getElem?_getD, ha, hb] using he
    rw [lcp_ne e] at hk
    omega
end Mine
end
section
open PySem PySem.W PyProof.Rows
namespace Mine
section
variable {prog : Program} {w : World} {A : Around} {E : Value → Shared → Prop} {Q : Flow → Shared → Prop} {s : Shared} {env : Env} {h₀ : Heap} {L : Addr} {m₀ : Str → Option Value} {news : List (Addr × Obj)} {t : Sem Flow}
/-- one name has got an int -/
def OutI (h₀ : Heap) (L : Addr) (m₀ : Str → Option Value) (news : List (Addr × Obj)) (x : Str) (p : Int) (s : Shared) (f : Flow) (s' : Shared) : Prop :=
  f = .next ∧ ∃ tk h' k, s' = { s with heap := h', toks := k } ∧ Fr h₀ L h' (fun z => if z = x then some (.int p tk) else m₀ z) ∧ News h₀ L h' news
theorem cutI (F : Fr h₀ L s.heap m₀) (N : News h₀ L s.heap news) (x : Str) (p : Int) (h : wpAny (model prog w) A t (OutI h₀ L m₀ news x p s) E s)
    (k : ∀ tk h' k', Fr h₀ L h' (fun z => if z = x then some (.int p tk) else m₀ z) → News h₀ L h' news → Q .next { s with heap := h', toks := k' }) : wpAny (model prog w) A t Q E s :=
  wpAny_mono h (fun f s' ⟨e, tk, h', k', e', F', N'⟩ => by subst e; subst e'; exact k tk h' k' F' N') fun _ _ e => e
theorem outI {x : Str} {p p' : Int} {h' : Heap} {k : Nat} {tk : Tok} {m' : Str → Option Value} (F : Fr h₀ L h' m') (N : News h₀ L h' news) (hx : m' x = some (.int p' tk)) (e : p' = p) (hm : ∀ z, z ≠ x → m' z = m₀ z) : OutI h₀ L m₀ news x p s .next { s with heap := h', toks := k } := by
  subst e
  have : m' = fun z => if z = x then some (.int p' tk) else m₀ z := by
    funext z
    by_cases hz : z = x
    · rw [if_pos hz, hz]; exact hx
    · rw [if_neg hz]; exact hm z hz
  subst this
  exact ⟨rfl, tk, h', k, rfl, F, N⟩
/-- one name has got a text -/
def OutS (h₀ : Heap) (L : Addr) (m₀ : Str → Option Value) (news : List (Addr × Obj)) (x : Str) (p : Str) (s : Shared) (f : Flow) (s' : Shared) : Prop :=
  f = .next ∧ ∃ tk h' k, s' = { s with heap := h', toks := k } ∧ Fr h₀ L h' (fun z => if z = x then some (.str p tk) else m₀ z) ∧ News h₀ L h' news
theorem cutS (F : Fr h₀ L s.heap m₀) (N : News h₀ L s.heap news) (x : Str) (p : Str) (h : wpAny (model prog w) A t (OutS h₀ L m₀ news x p s) E s)
    (k : ∀ tk h' k', Fr h₀ L h' (fun z => if z = x then some (.str p tk) else m₀ z) → News h₀ L h' news → Q .next { s with heap := h', toks := k' }) : wpAny (model prog w) A t Q E s :=
  wpAny_mono h (fun f s' ⟨e, tk, h', k', e', F', N'⟩ => by subst e; subst e'; exact k tk h' k' F' N') fun _ _ e => e
theorem outS {x : Str} {p p' : Str} {h' : Heap} {k : Nat} {tk : Tok} {m' : Str → Option Value} (F : Fr h₀ L h' m') (N : News h₀ L h' news) (hx : m' x = some (.str p' tk)) (e : p' = p) (hm : ∀ z, z ≠ x → m' z = m₀ z) : OutS h₀ L m₀ news x p s .next { s with heap := h', toks := k } := by
  subst e
  have : m' = fun z => if z = x then some (.str p' tk) else m₀ z := by
    funext z
    by_cases hz : z = x
    · rw [if_pos hz, hz]; exact hx
    · rw [if_neg hz]; exact hm z hz
  subst this
  exact ⟨rfl, tk, h', k, rfl, F, N⟩
/-- two names have got texts -/
def OutSS (h₀ : Heap) (L : Addr) (m₀ : Str → Option Value) (news : List (Addr × Obj)) (x y : Str) (p q : Str) (s : Shared) (f : Flow) (s' : Shared) : Prop :=
  f = .next ∧ ∃ tk tl h' k, s' = { s with heap := h', toks := k } ∧ Fr h₀ L h' (fun z => if z = x then some (.str p tk) else if z = y then some (.str q tl) else m₀ z) ∧ News h₀ L h' news
theorem cutSS (F : Fr h₀ L s.heap m₀) (N : News h₀ L s.heap news) (x y : Str) (p q : Str) (h : wpAny (model prog w) A t (OutSS h₀ L m₀ news x y p q s) E s)
    (k : ∀ tk tl h' k', Fr h₀ L h' (fun z => if z = x then some (.str p tk) else if z = y then some (.str q tl) else m₀ z) → News h₀ L h' news → Q .next { s with heap := h', toks := k' }) : wpAny (model prog w) A t Q E s :=
  wpAny_mono h (fun f s' ⟨e, tk, tl, h', k', e', F', N'⟩ => by subst e; subst e'; exact k tk tl h' k' F' N') fun _ _ e => e
theorem outSS {x y : Str} {p p' q q' : Str} {h' : Heap} {k : Nat} {tk tl : Tok} {m' : Str → Option Value} {news' : List (Addr × Obj)} (F : Fr h₀ L h' m') (N : News h₀ L h' news') (hn : ∀ p ∈ news, p ∈ news') (hx : m' x = some (.str p' tk)) (hy : m' y = some (.str q' tl)) (e : p' = p) (e' : q' = q) (hm : ∀ z, z ≠ x → z ≠ y → m' z = m₀ z) : OutSS h₀ L m₀ news x y p q s .next { s with heap := h', toks := k } := by
  subst e; subst e'
  have : m' = fun z => if z = x then some (.str p' tk) else if z = y then some (.str q' tl) else m₀ z := by
    funext z
    by_cases hz : z = x
    · rw [if_pos hz, hz]; exact hx
    · rw [if_neg hz]
      by_cases hw : z = y
      · rw [if_pos hw, hw]; exact hy
      · rw [if_neg hw]; exact hm z hz hw
  subst this
  exact ⟨rfl, tk, tl, h', k, rfl, F, fun p hp => N p (hn p hp)⟩
end
/-- the first loop's word: the turn, the three ends -/
def W1 (xs ys : List Nat) (p : Int) : Prop := 0 ≤ p ∧ p ≤ xs.length ∧ p ≤ ys.length ∧ p.toNat + lcp (xs.drop p.toNat) (ys.drop p.toNat) = lcp xs ys
theorem w1_start (xs ys : List Nat) : W1 xs ys 0 := ⟨by omega, by omega, by omega, by simp⟩
theorem w1_turn {xs ys : List Nat} {p : Int} (h : W1 xs ys p) (hx : ((Txt.slice (S xs) (some p) none).length : Int) ≠ 0) (hy : ((Txt.slice (S ys) (some p) none).length : Int) ≠ 0) (he : (Txt.item (S xs) p == Txt.item (S ys) p) = true) : W1 xs ys (p + 1) := by
  obtain ⟨h0, h1, h2, h3⟩ := h
  rw [slice_from _ h0, S_len, List.length_drop] at hx hy
  have hx' : p < xs.length := by omega
  have hy' : p < ys.length := by omega
  rw [item_at _ h0 hx', item_at _ h0 hy', S_beq, decide_eq_true_eq] at he
  have e : (p + 1).toNat = p.toNat + 1 := by omega
  refine ⟨by omega, by omega, by omega, ?_⟩
  rw [e]
  exact lcp_step (by omega) (by omega) (by injection he) h3
theorem w1_endx {xs ys : List Nat} {p : Int} (h : W1 xs ys p) (hx : ((Txt.slice (S xs) (some p) none).length : Int) = 0) : p = (lcp xs ys : Int) := by
  obtain ⟨h0, h1, h2, h3⟩ := h
  rw [slice_from _ h0, S_len, List.length_drop] at hx
  have := lcp_stop (.inl (by omega)) h3
  omega
theorem w1_endy {xs ys : List Nat} {p : Int} (h : W1 xs ys p) (hy : ((Txt.slice (S ys) (some p) none).length : Int) = 0) : p = (lcp xs ys : Int) := by
  obtain ⟨h0, h1, h2, h3⟩ := h
  rw [slice_from _ h0, S_len, List.length_drop] at hy
  have := lcp_stop (.inr (.inl (by omega))) h3
  omega
theorem w1_ende {xs ys : List Nat} {p : Int} (h : W1 xs ys p) (hx : ((Txt.slice (S xs) (some p) none).length : Int) ≠ 0) (hy : ((Txt.slice (S ys) (some p) none).length : Int) ≠ 0) (he : (Txt.item (S xs) p == Txt.item (S ys) p) = false) : p = (lcp xs ys : Int) := by
  obtain ⟨h0, h1, h2, h3⟩ := h
  rw [slice_from _ h0, S_len, List.length_drop] at hx hy
  have hx' : p < xs.length := by omega
  have hy' : p < ys.length := by omega
  rw [item_at _ h0 hx', item_at _ h0 hy', S_beq, decide_eq_false_iff_not] at he
  have := lcp_stop (.inr (.inr ⟨by omega, by omega, fun e => he (by rw [e])⟩)) h3
  omega
/-- the second loop's -/
def W2 (xs ys : List Nat) (p : Int) : Prop := p ≤ 0 ∧ -p ≤ xs.length ∧ -p ≤ ys.length ∧ (-p).toNat + lcp (xs.reverse.drop (-p).toNat) (ys.reverse.drop (-p).toNat) = lcp xs.reverse ys.reverse
theorem w2_start (xs ys : List Nat) : W2 xs ys 0 := ⟨by omega, by omega, by omega, by simp⟩
/-- a[:post or None] -/
def upTo (x : Str) (p : Int) : Str := if p ≠ 0 then Txt.slice x none (some p) else Txt.slice x none none
theorem upTo_eq (l : List Nat) {p : Int} (h : p ≤ 0) : upTo (S l) p = S (l.take (l.length - (-p).toNat)) := by
  unfold upTo
  split
  · exact slice_to l (by omega)
  · rw [slice_all, List.take_of_length_le (by omega)]
theorem w2_turn {xs ys : List Nat} {p : Int} (h : W2 xs ys p) (hx : ((upTo (S xs) p).length : Int) ≠ 0) (hy : ((upTo (S ys) p).length : Int) ≠ 0) (he : (Txt.item (S xs) (p - 1) == Txt.item (S ys) (p - 1)) = true) : W2 xs ys (p - 1) := by
  obtain ⟨h0, h1, h2, h3⟩ := h
  rw [upTo_eq _ h0, S_len, List.length_take] at hx hy
  have hx' : -(p - 1) ≤ xs.length := by omega
  have hy' : -(p - 1) ≤ ys.length := by omega
  rw [item_back _ (by omega) hx', item_back _ (by omega) hy', S_beq, decide_eq_true_eq] at he
  have e : (-(p - 1)).toNat = (-p).toNat + 1 := by omega
  have e' : (-(p - 1) - 1).toNat = (-p).toNat := by omega
  rw [e'] at he
  refine ⟨by omega, by omega, by omega, ?_⟩
  rw [e]
  exact lcp_step (by rw [List.length_reverse]; omega) (by rw [List.length_reverse]; omega) (by injection he) h3
theorem w2_endx {xs ys : List Nat} {p : Int} (h : W2 xs ys p) (hx : ((upTo (S xs) p).length : Int) = 0) : p = -(lcp xs.reverse ys.reverse : Int) := by
  obtain ⟨h0, h1, h2, h3⟩ := h
  rw [upTo_eq _ h0, S_len, List.length_take] at hx
  have := lcp_stop (.inl (by rw [List.length_reverse]; omega)) h3
  omega
theorem w2_endy {xs ys : List Nat} {p : Int} (h : W2 xs ys p) (hy : ((upTo (S ys) p).length : Int) = 0) : p = -(lcp xs.reverse ys.reverse : Int) := by
  obtain ⟨h0, h1, h2, h3⟩ := h
  rw [upTo_eq _ h0, S_len, List.length_take] at hy
  have := lcp_stop (.inr (.inl (by rw [List.length_reverse]; omega))) h3
  omega
theorem w2_ende {xs ys : List Nat} {p : Int} (h : W2 xs ys p) (hx : ((upTo (S xs) p).length : Int) ≠ 0) (hy : ((upTo (S ys) p).length : Int) ≠ 0) (he : (Txt.item (S xs) (p - 1) == Txt.item (S ys) (p - 1)) = false) : p = -(lcp xs.reverse ys.reverse : Int) := by
  obtain ⟨h0, h1, h2, h3⟩ := h
  rw [upTo_eq _ h0, S_len, List.length_take] at hx hy
  have hx' : -(p - 1) ≤ xs.length := by omega
  have hy' : -(p - 1) ≤ ys.length := by omega
  rw [item_back _ (by omega) hx', item_back _ (by omega) hy', S_beq, decide_eq_false_iff_not] at he
  have e' : (-(p - 1) - 1).toNat = (-p).toNat := by omega
  rw [e'] at he
  have := lcp_stop (.inr (.inr ⟨by rw [List.length_reverse]; omega, by rw [List.length_reverse]; omega, fun e => he (by rw [e])⟩)) h3
  omega
end Mine
namespace Mine
theorem upTo_le (x : Str) (p : Int) : (upTo x p).length ≤ x.length := by
  unfold upTo
  split <;> exact Txt.slice_le _ _ _
section
variable {prog : Program} {w : World} {A : Around} {E : Value → Shared → Prop} {Q : Value → Shared → Prop} {s : Shared} {env : Env} {h₀ : Heap} {L : Addr} {m₀ : Str → Option Value} {news : List (Addr × Obj)} {t : Sem Value} {x : Str} {p : Int} {tx tp : Tok}
/-- a text's value, the frame as it was -/
def OutV (h₀ : Heap) (L : Addr) (m₀ : Str → Option Value) (news : List (Addr × Obj)) (x : Str) (s : Shared) (v : Value) (s' : Shared) : Prop :=
  ∃ t h' k, v = .str x t ∧ s' = { s with heap := h', toks := k } ∧ Fr h₀ L h' m₀ ∧ News h₀ L h' news
theorem cutUp (F : Fr h₀ L s.heap m₀) (N : News h₀ L s.heap news) (nx np : Str) (hx : m₀ nx = some (.str x tx)) (hp : m₀ np = some (.int p tp)) (h : wpAny (model prog w) A t (OutV h₀ L m₀ news (upTo x p) s) E s)
    (k : ∀ t h' k', Fr h₀ L h' m₀ → News h₀ L h' news → (upTo x p).length ≤ x.length → Q (.str (upTo x p) t) { s with heap := h', toks := k' }) : wpAny (model prog w) A t Q E s :=
  wpAny_mono h (fun v s' ⟨t, h', k', e, e', F', N'⟩ => by subst e; subst e'; exact k t h' k' F' N' (upTo_le x p)) fun _ _ e => e
theorem outVN {h' : Heap} {k : Nat} {t : Tok} (F : Fr h₀ L h' m₀) (N : News h₀ L h' news) (hp : p ≠ 0) : OutV h₀ L m₀ news (upTo x p) s (.str (Txt.slice x none (some p)) t) { s with heap := h', toks := k } :=
  ⟨t, h', k, by rw [upTo, if_pos hp], rfl, F, N⟩
theorem outVZ {h' : Heap} {k : Nat} {t : Tok} (F : Fr h₀ L h' m₀) (N : News h₀ L h' news) (hp : p = 0) : OutV h₀ L m₀ news (upTo x p) s (.str (Txt.slice x none none) t) { s with heap := h', toks := k } :=
  ⟨t, h', k, by rw [upTo, if_neg (fun q => q hp)], rfl, F, N⟩
end
section
variable {xs ys : List Nat} {p : Int} (h : W2 xs ys p)
theorem room_up {l : List Nat} {p : Int} (h0 : p ≤ 0) (hx : ((upTo (S l) p).length : Int) ≠ 0) : -p < l.length ∧ ((S l).length : Int) = l.length := by
  rw [upTo_eq _ h0, S_len, List.length_take] at hx
  rw [S_len]
  omega
theorem W2.word (q : W2 xs ys p) : p ≤ 0 ∧ -p ≤ ((S xs).length : Int) ∧ -p ≤ ((S ys).length : Int) ∧ W2 xs ys p := ⟨q.1, by rw [S_len]; exact q.2.1, by rw [S_len]; exact q.2.2.1, q⟩
theorem W1.word (q : W1 xs ys p) : 0 ≤ p ∧ p ≤ ((S xs).length : Int) ∧ p ≤ ((S ys).length : Int) ∧ W1 xs ys p := ⟨q.1, by rw [S_len]; exact q.2.1, by rw [S_len]; exact q.2.2.1, q⟩
include h
theorem room_x (hx : ((upTo (S xs) p).length : Int) ≠ 0) : -p < xs.length ∧ ((S xs).length : Int) = xs.length := room_up h.1 hx
theorem room_y (hx : ((upTo (S ys) p).length : Int) ≠ 0) : -p < ys.length ∧ ((S ys).length : Int) = ys.length := room_up h.1 hx
end
end Mine
namespace Mine
/-- the cost of one sign in another one's place -/
def subCost (x y : Str) : Int := if x = y then 0 else if Txt.lower x = Txt.lower y then 1 else 2
def cst (c d : Nat) : Int := subCost (S [c]) (S [d])
/-- min of two, as Python's -/
def pmin (a b : Int) : Int := if b < a then b else a
/-- a turn of the inner loop: the row, distance, result, minimum -/
def inStep (c : Nat) (a : List Nat) (st : List Int × Int × Int × Int) (i : Nat) : List Int × Int × Int × Int :=
  let r := pmin (pmin st.2.2.1 (st.1.getD i 0) + 2) (st.2.1 + cst c (a.getD i 0))
  (st.1.set i r, st.1.getD i 0, r, if r < st.2.2.2 then r else st.2.2.2)
def inn (c : Nat) (a : List Nat) (row : List Int) (j : Int) : Nat → List Int × Int × Int × Int
  | 0 => (row, j * 2, j * 2, 9223372036854775807)
  | i + 1 => inStep c a (inn c a row j i) i
/-- the outer loop: the row, result, whether no row's least is over the bound -/
def outt (a b : List Nat) (mc : Int) (row : List Int) : Nat → List Int × Int × Bool
  | 0 => (row, 0, true)
  | j + 1 =>
    let st := outt a b mc row j
    let t := inn (b.getD j 0) a st.1 j a.length
    (t.1, t.2.2.1, st.2.2 && !decide (t.2.2.2 > mc))
def row0 (n : Nat) : List Int := (List.range n).map fun (k : Nat) => 2 + (k : Int) * 2
def levCore (a b : List Nat) (mc : Int) : Int :=
  let t := outt a b mc (row0 a.length) b.length
  if t.2.2 then t.2.1 else mc + 1
def cutA (x y : List Nat) : List Nat × List Nat :=
  let a := x.drop (lcp x y)
  let b := y.drop (lcp x y)
  let q := lcp a.reverse b.reverse
  (a.take (a.length - q), b.take (b.length - q))
def levIn (a b : List Nat) (mc : Int) : Int :=
  if a = [] ∨ b = [] then 2 * ((a.length : Int) + b.length)
  else
    let p := if b.length < a.length then (b, a) else (a, b)
    if ((p.2.length : Int) - p.1.length) * 2 > mc then mc + 1 else levCore p.1 p.2 mc
def lev (x y : List Nat) (mc : Int) : Int :=
  if x = y then 0 else levIn (cutA x y).1 (cutA x y).2 mc
end Mine
namespace Mine
theorem upTo_neg (l : List Nat) (q : Nat) : upTo (S l) (-(q : Int)) = S (l.take (l.length - q)) := by
  rw [upTo_eq _ (by omega)]
  simp
end Mine
namespace Mine
theorem cutA_eq {xs ys as bs : List Nat} (ha : xs.drop (lcp xs ys) = as) (hb : ys.drop (lcp xs ys) = bs) : cutA xs ys = (as.take (as.length - lcp as.reverse bs.reverse), bs.take (bs.length - lcp as.reverse bs.reverse)) := by
  subst ha; subst hb; rfl
theorem lev_cut {xs ys as bs a b : List Nat} {mc : Int} (hne : (S xs == S ys) = false) (ha : xs.drop (lcp xs ys) = as) (hb : ys.drop (lcp xs ys) = bs) (ha' : as.take (as.length - lcp as.reverse bs.reverse) = a) (hb' : bs.take (bs.length - lcp as.reverse bs.reverse) = b) : lev xs ys mc = levIn a b mc := by
  rw [S_beq, decide_eq_false_iff_not] at hne
  unfold lev
  rw [if_neg hne, cutA_eq ha hb, ha', hb']
theorem lev_same {xs ys : List Nat} {mc : Int} (he : (S xs == S ys) = true) : 0 = lev xs ys mc := by
  rw [S_beq, decide_eq_true_eq] at he
  unfold lev
  rw [if_pos he]
theorem len_zero {l : List Nat} (h : ((S l).length : Int) = 0) : l = [] := by
  rw [S_len] at h
  exact List.length_eq_zero_iff.mp (by omega)
theorem levIn_x {a b : List Nat} {mc : Int} (h : ((S a).length : Int) = 0) : 2 * (((S a).length : Int) + ((S b).length : Int)) = levIn a b mc := by
  unfold levIn
  rw [if_pos (.inl (len_zero h)), S_len, S_len]
theorem levIn_y {a b : List Nat} {mc : Int} (h : ((S b).length : Int) = 0) : 2 * (((S a).length : Int) + ((S b).length : Int)) = levIn a b mc := by
  unfold levIn
  rw [if_pos (.inr (len_zero h)), S_len, S_len]
/-- the shorter one first -/
def srt (a b : List Nat) : List Nat × List Nat := if b.length < a.length then (b, a) else (a, b)
theorem levIn_go {a b p q : List Nat} {mc : Int} (ha : ((S a).length : Int) ≠ 0) (hb : ((S b).length : Int) ≠ 0) (hp : (srt a b).1 = p) (hq : (srt a b).2 = q) :
    levIn a b mc = if ((q.length : Int) - p.length) * 2 > mc then mc + 1 else levCore p q mc := by
  rw [S_len] at ha hb
  have na : ¬ (a = [] ∨ b = []) := by
    rintro (h | h)
    · subst h; simp at ha
    · subst h; simp at hb
  unfold levIn
  rw [if_neg na]
  subst hp; subst hq
  rfl
theorem srt_swap {a b : List Nat} (h : ((S b).length : Int) < ((S a).length : Int)) : srt a b = (b, a) := by
  rw [S_len, S_len] at h
  exact if_pos (by omega)
theorem srt_stay {a b : List Nat} (h : ¬ ((S b).length : Int) < ((S a).length : Int)) : srt a b = (a, b) := by
  rw [S_len, S_len] at h
  exact if_neg (by omega)
theorem srt_le (a b : List Nat) : (srt a b).1.length ≤ (srt a b).2.length := by
  unfold srt
  split <;> simp <;> omega
theorem row0_length (n : Nat) : (row0 n).length = n := by simp [row0]
theorem row0_ints : ∀ (vs : List Value) (n : Nat), vs.length = n → (∀ (j : Nat) (v : Value), vs[j]? = some v → ∃ t, v = .int (2 + j * 2) t) → IntsAre vs (row0 n) := by
  have key : ∀ (vs : List Value) (a : Int), (∀ (j : Nat) (v : Value), vs[j]? = some v → ∃ t, v = .int (a + j * 2) t) → IntsAre vs ((List.range vs.length).map fun (k : Nat) => a + (k : Int) * 2) := by
    intro vs
    induction vs with
    | nil => intro a _; exact .nil
    | cons v r ih =>
      intro a h
      rw [List.length_cons, List.range_succ_eq_map, List.map_cons, List.map_map]
      obtain ⟨t, ht⟩ := h 0 v rfl
      have hv : v = .int a t := by rw [ht]; simp
      subst hv
      have hr := ih (a + 2) fun j v hj => by
        obtain ⟨t', ht'⟩ := h (j + 1) v hj
        refine ⟨t', ht'.trans ?_⟩
        congr 1
        omega
      have e : ((fun (k : Nat) => a + (k : Int) * 2) ∘ Nat.succ) = fun (k : Nat) => (a + 2) + (k : Int) * 2 := by
        funext k
        simp only [Function.comp]
        omega
      rw [e]
      simpa using IntsAre.cons a t hr
  intro vs n e h
  subst e
  exact key vs 2 h
section
variable {prog : Program} {w : World} {A : Around} {E : Value → Shared → Prop} {s : Shared} {h₀ : Heap} {L r : Addr} {m : Str → Option Value} {news : List (Addr × Obj)} {t₀ u₀ v₀ : Tok} {n : Nat} {b : Int} {Q : Value → Shared → Prop}
theorem list_row0 (hh : A.handled = none) (F : Fr h₀ L s.heap m) (N : News h₀ L s.heap news) (hr : IsRange s.heap r 2 b 2 t₀ u₀ v₀) (hb : b = 2 * ((n : Int) + 1)) (hz : n ≤ 40)
    (h : ∀ D us c h' tk, Fr h₀ L h' m → News h₀ L h' ((D, listOf (List.toArray us) c) :: news) → (∀ p ∈ news, p.1 < D) → IntsAre us (row0 n) → Q (.ref D) { s with heap := h', toks := tk }) :
    wpAny (model prog w) A (call (.type "list") [.ref r]) Q E s := by
  subst hb
  have hsmall : Builtin.Range.small 2 (2 * ((n : Int) + 1)) 2 = true := by
    have : ∀ k : Fin 41, Builtin.Range.small 2 (2 * (((k : Nat) : Int) + 1)) 2 = true := by decide +kernel
    exact this ⟨n, by omega⟩
  have hn : Builtin.Range.rangeSize 2 (2 * ((n : Int) + 1)) 2 = (n : Int) := by
    have : ∀ k : Fin 41, Builtin.Range.rangeSize 2 (2 * (((k : Nat) : Int) + 1)) 2 = ((k : Nat) : Int) := by decide +kernel
    exact this ⟨n, by omega⟩
  refine call_list_range hh hr hsmall hn (by omega) fun h' tk acc c hk hD hI => ?_
  have hD' : h'.get? s.heap.objs.size = some (listOf (List.toArray acc.toList) c) := by
    rw [Array.toArray_toList]
    exact hD
  exact h _ acc.toList c h' tk (F.keeps hk) (news_pushed F N hk hD' rfl) (fun p hp => Heap.lt_size (N p hp).1) (row0_ints _ _ (by rw [Array.length_toList]; exact hI.1) fun j v hj => hI.2 j v (by rw [← hj, Array.getElem?_toList]))
end
end Mine
namespace Mine
theorem srt_swap1 {a b : List Nat} (h : ((S b).length : Int) < ((S a).length : Int)) : S b = S (srt a b).1 := by rw [srt_swap h]
theorem srt_swap2 {a b : List Nat} (h : ((S b).length : Int) < ((S a).length : Int)) : S a = S (srt a b).2 := by rw [srt_swap h]
theorem srt_stay1 {a b : List Nat} (h : ¬ ((S b).length : Int) < ((S a).length : Int)) : S a = S (srt a b).1 := by rw [srt_stay h]
theorem srt_stay2 {a b : List Nat} (h : ¬ ((S b).length : Int) < ((S a).length : Int)) : S b = S (srt a b).2 := by rw [srt_stay h]
end Mine
namespace Mine
/-- the outer loop's word -/
def OW (a b : List Nat) (mc : Int) (n : Nat) (result : Int) (row : List Int) : Prop :=
  row.length = a.length ∧ outt a b mc (row0 a.length) n = (row, result, true)
theorem ow_start (a b : List Nat) (mc : Int) : OW a b mc 0 0 (row0 a.length) := ⟨row0_length _, rfl⟩
/-- the inner loop's word -/
def IW (a b : List Nat) (j : Int) (rw0 : List Int) (n : Nat) (distance result minimum : Int) (row : List Int) : Prop :=
  row.length = a.length ∧ inn (b.getD j.toNat 0) a rw0 j n = (row, distance, result, minimum)
theorem iw_start {a b : List Nat} {j : Int} {row : List Int} (h : row.length = a.length) : IW a b j row 0 (j * 2) (j * 2) 9223372036854775807 row := ⟨h, rfl⟩
end Mine
namespace Mine
theorem sub_0 {x y : Str} (h : (x == y) = true) : 0 = subCost x y := by rw [subCost, if_pos (beq_iff_eq.mp h)]
theorem sub_1 {x y : Str} (h : (x == y) = false) (h' : (Txt.lower x == Txt.lower y) = true) : 1 = subCost x y := by rw [subCost, if_neg (beq_eq_false_iff_ne.mp h), if_pos (beq_iff_eq.mp h')]
theorem sub_2 {x y : Str} (h : (x == y) = false) (h' : (Txt.lower x == Txt.lower y) = false) : 2 = subCost x y := by rw [subCost, if_neg (beq_eq_false_iff_ne.mp h), if_neg (beq_eq_false_iff_ne.mp h')]
end Mine
namespace Mine
/-- the call of a def: as the kit's claim, with more room -/
abbrev Cl (prog : Program) (w : World) (K : Frag) (p : Program) (loose : List Str) (mean : ExcName → Option Value) (mg mb : Str → Option Value) (f : Addr) (news : List (Addr × Obj)) (pre : Prop) (vs : List Value) (R : Tok → Value) : Prop :=
  ∀ (dp un : Nat) (gd : Option (List Code)) (cn : Str) (cs : Scope) (a : Addr) (ccd : Value) (cl : List (Str × Addr)) (outer : List Env) (A₀ : Around) (base h₀ : Heap) (L : Addr) (m : Str → Option Value) (s : Shared) (Q E : Value → Shared → Prop),
    Below A₀ base outer h₀ → Fr h₀ L s.heap m → K.In h₀ → News h₀ L s.heap news → Top p loose mean mg mb h₀ → cs.kind = .function →
    pre → dp + 5 < recursionLimit → un + 50 < cLine → CbRet h₀ L m news s Q R →
      wpAny (model prog w) (ktrTop dp un gd cn cs L a ccd cl outer) (call (.ref f) vs) Q E s
def turnV (a b : List Nat) (j k d r : Int) (row : List Int) : Int :=
  if d + subCost (Txt.item (S b) j) (Txt.item (S a) k) < (if row.getD k.toNat 0 < r then row.getD k.toNat 0 else r) + 2 then d + subCost (Txt.item (S b) j) (Txt.item (S a) k)
  else (if row.getD k.toNat 0 < r then row.getD k.toNat 0 else r) + 2
theorem turnV_eq {a b : List Nat} {j k d r : Int} {row : List Int} (hj0 : 0 ≤ j) (hj : j < b.length) (hk0 : 0 ≤ k) (hk : k < a.length) :
    turnV a b j k d r row = pmin (pmin r (row.getD k.toNat 0) + 2) (d + cst (b.getD j.toNat 0) (a.getD k.toNat 0)) := by
  unfold turnV
  rw [item_at _ hj0 hj, item_at _ hk0 hk]
  rfl
theorem iw_turnA {a b : List Nat} {j k d r m : Int} {r0 row pre : List Int} (hW : IW a b j r0 pre.length d r m row) (hk : k = pre.length) (hka : k < a.length) (hj0 : 0 ≤ j) (hj : j < b.length) (hlt : turnV a b j k d r row < m) :
    (row.set k.toNat (turnV a b j k d r row)).length = (S a).length ∧ IW a b j r0 (pre ++ [k]).length (row.getD k.toNat 0) (turnV a b j k d r row) (turnV a b j k d r row) (row.set k.toNat (turnV a b j k d r row)) := by
  obtain ⟨h1, h2⟩ := hW
  have hl : (row.set k.toNat (turnV a b j k d r row)).length = a.length := by rw [List.length_set]; exact h1
  refine ⟨by rw [S_len]; exact hl, hl, ?_⟩
  have e : (pre ++ [k]).length = pre.length + 1 := by simp
  have ek : k.toNat = pre.length := by omega
  rw [e, inn, h2, inStep]
  rw [turnV_eq hj0 hj (by omega) hka] at hlt ⊢
  rw [ek] at hlt ⊢
  simp only [if_pos hlt]
theorem iw_turnB {a b : List Nat} {j k d r m : Int} {r0 row pre : List Int} (hW : IW a b j r0 pre.length d r m row) (hk : k = pre.length) (hka : k < a.length) (hj0 : 0 ≤ j) (hj : j < b.length) (hlt : ¬ turnV a b j k d r row < m) :
    (row.set k.toNat (turnV a b j k d r row)).length = (S a).length ∧ IW a b j r0 (pre ++ [k]).length (row.getD k.toNat 0) (turnV a b j k d r row) m (row.set k.toNat (turnV a b j k d r row)) := by
  obtain ⟨h1, h2⟩ := hW
  have hl : (row.set k.toNat (turnV a b j k d r row)).length = a.length := by rw [List.length_set]; exact h1
  refine ⟨by rw [S_len]; exact hl, hl, ?_⟩
  have e : (pre ++ [k]).length = pre.length + 1 := by simp
  have ek : k.toNat = pre.length := by omega
  rw [e, inn, h2, inStep]
  rw [turnV_eq hj0 hj (by omega) hka] at hlt ⊢
  rw [ek] at hlt ⊢
  simp only [if_neg hlt]
theorem ow_turn {a b : List Nat} {mc j res d r m : Int} {r0 row pre : List Int} {n : Nat} (hO : OW a b mc pre.length res r0) (hI : IW a b j r0 n d r m row) (hn : n = a.length) (hj : j = pre.length) (hm : ¬ mc < m) :
    row.length = (S a).length ∧ OW a b mc (pre ++ [j]).length r row := by
  obtain ⟨h1, h2⟩ := hI
  refine ⟨by rw [S_len]; exact h1, h1, ?_⟩
  have e : (pre ++ [j]).length = pre.length + 1 := by simp
  have ej : j.toNat = pre.length := by omega
  rw [ej, hn, hj] at h2
  rw [e, outt, hO.2]
  simp only [h2]
  simp [hm]
theorem outt_false {a b : List Nat} {mc : Int} {row : List Int} {n : Nat} (h : (outt a b mc row n).2.2 = false) : ∀ k, (outt a b mc row (n + k)).2.2 = false := by
  intro k
  induction k with
  | zero => exact h
  | succ k ih =>
    rw [← Nat.add_assoc, outt]
    simp only [ih, Bool.false_and]
theorem ow_early {a b : List Nat} {mc j res d r m : Int} {r0 row pre : List Int} {n : Nat} (hO : OW a b mc pre.length res r0) (hI : IW a b j r0 n d r m row) (hn : n = a.length) (hj : j = pre.length) (hjb : pre.length < b.length) (hm : mc < m) :
    mc + 1 = levCore a b mc := by
  obtain ⟨h1, h2⟩ := hI
  have ej : j.toNat = pre.length := by omega
  rw [ej, hn, hj] at h2
  have hf : (outt a b mc (row0 a.length) (pre.length + 1)).2.2 = false := by
    rw [outt, hO.2]
    simp only [h2]
    simp [hm]
  have := outt_false hf (b.length - (pre.length + 1))
  rw [show pre.length + 1 + (b.length - (pre.length + 1)) = b.length by omega] at this
  unfold levCore
  simp only [this]
  simp
theorem ow_end {a b : List Nat} {mc res : Int} {row : List Int} {n : Nat} (hO : OW a b mc n res row) (hn : n = b.length) : res = levCore a b mc := by
  unfold levCore
  rw [← hn, hO.2]
  rfl
end Mine
end
section
open PySem PySem.W PyProof.Rows PySem.Calls
namespace Mine
/-! a loop over a list of the call's own: what a turn leaves -/
def SEnd {σ : Type} (h₀ : Heap) (L : Addr) (news own : List (Addr × Obj)) (x : Str) (ps : σ → List (Str × Value)) (stored : List Str) (m₀ : Str → Option Value) (P : σ → Prop) (s : Shared) (s₂ : Shared) : Prop :=
  ∃ (c : σ) (h' : Heap) (tk : Nat) (m' : Str → Option Value) (news' : List (Addr × Obj)), s₂ = { s with heap := h', toks := tk } ∧ Fr h₀ L h' m' ∧ News h₀ L h' news' ∧ (∀ p ∈ news ++ own, p ∈ news') ∧
    (∀ p ∈ ps c, m' p.1 = some p.2) ∧ (∀ z, z ≠ x → (∀ p ∈ ps c, z ≠ p.1) → stored.contains z = false → m' z = m₀ z) ∧ P c
def SPost {σ : Type} (h₀ : Heap) (L : Addr) (news own : List (Addr × Obj)) (x : Str) (ps : σ → List (Str × Value)) (stored : List Str) (m₀ : Str → Option Value) (P : σ → Prop) (s : Shared) (Q : Flow → Shared → Prop) (f : Flow) (s₂ : Shared) : Prop :=
  match f with
  | .ret v => Q (.ret v) s₂
  | .brk => Q .next s₂
  | _ => SEnd h₀ L news own x ps stored m₀ P s s₂
theorem sEnd {σ : Type} {h₀ : Heap} {L : Addr} {news own : List (Addr × Obj)} {x : Str} {ps : σ → List (Str × Value)} {stored : List Str} {m₀ : Str → Option Value} {P : σ → Prop} {s : Shared} (c : σ) {h' : Heap} {tk : Nat} {m' : Str → Option Value} {news' : List (Addr × Obj)}
    (F : Fr h₀ L h' m') (N : News h₀ L h' news') (hn : ∀ p ∈ news ++ own, p ∈ news') (hk : ∀ p ∈ ps c, m' p.1 = some p.2) (hr : ∀ z, z ≠ x → (∀ p ∈ ps c, z ≠ p.1) → stored.contains z = false → m' z = m₀ z) (hp : P c) :
    SEnd h₀ L news own x ps stored m₀ P s { s with heap := h', toks := tk } := ⟨c, h', tk, m', news', rfl, F, N, hn, hk, hr, hp⟩
section
variable {prog : Program} {w : World} {A : Around} {E : Value → Shared → Prop} {s : Shared} {env : Env} {h₀ : Heap} {x : Str} {body : List Stmt} {Q : Flow → Shared → Prop} {m₀ : Str → Option Value} {news : List (Addr × Obj)} {l : Addr} {vs : List Value} {nn : Nat}
theorem loopV {σ : Type} (ps : σ → List (Str × Value)) (stored : List Str) (P : Nat → σ → Prop) (c₀ : σ)
    (hh : A.handled = none) (hl : (l, W.listOf vs.toArray nn) ∈ news) (F : Fr h₀ env.locals s.heap m₀) (N : News h₀ env.locals s.heap news) (hk : ∀ p ∈ ps c₀, m₀ p.1 = some p.2) (hp : P 0 c₀)
    (turn : ∀ (c : σ) i v (u : Str → Option Value) h tk own, vs[i]? = some v → OwnOff own (news.map (·.1)) → P i c →
      Fr h₀ env.locals h (fun y => if y = x then some v else kstB (fun z => if stored.contains z then u z else m₀ z) (ps c) y) → News h₀ env.locals h (news ++ own) →
      wpAny (model prog w) A (execs body env) (SPost h₀ env.locals news own x ps stored m₀ (P (i + 1)) { s with heap := h, toks := tk } Q) E { s with heap := h, toks := tk })
    (done : ∀ (c : σ) (u : Str → Option Value) h tk, P vs.length c → Fr h₀ env.locals h (fun y => if y = x then u y else kstB (fun z => if stored.contains z then u z else m₀ z) (ps c) y) → News h₀ env.locals h news → Q .next { s with heap := h, toks := tk }) :
    wpAny (model prog w) A (pyIter (.ref l)) (fun it s₂ => LoopAtV prog w A h₀ env x body Q E it s₂) E s := by
  refine kdl_iter (fun i m nx => nx = news ∧ ∃ c : σ, (∀ p ∈ ps c, m p.1 = some p.2) ∧ (∀ z, z ≠ x → (∀ p ∈ ps c, z ≠ p.1) → stored.contains z = false → m z = m₀ z) ∧ P i c) hh hl F N ⟨rfl, c₀, hk, fun _ _ _ _ => rfl, hp⟩ ?_ ?_
  · rintro i v m₁ nx h tk own hv hoff hmem ⟨rfl, c, h1, h2, hp'⟩ F₁ N₁
    refine wpAny_mono (turn c i v m₁ h tk own hv hoff hp' (kst_fr' h1 h2 F₁) N₁) (fun f s₂ p => ?_) fun _ _ e => e
    have up : SEnd h₀ env.locals nx own x ps stored m₀ (P (i + 1)) { s with heap := h, toks := tk } s₂ → InvEndG h₀ env.locals (fun m' nx' => (l, W.listOf vs.toArray nn) ∈ nx' ∧ nx' = nx ∧ ∃ c : σ, (∀ p ∈ ps c, m' p.1 = some p.2) ∧ (∀ z, z ≠ x → (∀ p ∈ ps c, z ≠ p.1) → stored.contains z = false → m' z = m₀ z) ∧ P (i + 1) c) own { s with heap := h, toks := tk } s₂ := by
      rintro ⟨c', h', tk', m', news', rfl, F', N', hn, hk', hr', hP'⟩
      exact ⟨h', tk', m', news', nx, rfl, F', N', fun p hp => hn p (List.mem_append.mpr (.inl hp)), fun p hp => hn p (List.mem_append.mpr (.inr hp)), hoff, hl, rfl, c', hk', hr', hP'⟩
    cases f with
    | ret v => exact p
    | brk => exact p
    | next => exact up p
    | cont => exact up p
  · rintro m₁ nx h tk ⟨rfl, c, h1, h2, hp'⟩ F₁ N₁
    exact done c m₁ h tk hp' (kst_frOut h1 h2 F₁) N₁
where
  kst_fr' {σ : Type} {ps : σ → List (Str × Value)} {c : σ} {h : Heap} {L : Addr} {stored : List Str} {m₁ : Str → Option Value} {v : Value} (h1 : ∀ p ∈ ps c, m₁ p.1 = some p.2) (h2 : ∀ z, z ≠ x → (∀ p ∈ ps c, z ≠ p.1) → stored.contains z = false → m₁ z = m₀ z)
    (F : Fr h₀ L h (fun y => if y = x then some v else m₁ y)) : Fr h₀ L h (fun y => if y = x then some v else kstB (fun z => if stored.contains z then m₁ z else m₀ z) (ps c) y) := kst_fr h1 h2 F
/-- over texts -/
theorem loopS {σ : Type} {ys : List Str} (ps : σ → List (Str × Value)) (stored : List Str) (P : List Str → σ → Prop) (c₀ : σ)
    (hh : A.handled = none) (hl : (l, W.listOf vs.toArray nn) ∈ news) (hi : StrsAre vs ys) (F : Fr h₀ env.locals s.heap m₀) (N : News h₀ env.locals s.heap news) (hk : ∀ p ∈ ps c₀, m₀ p.1 = some p.2) (hp : P [] c₀)
    (turn : ∀ (c : σ) pre y post t (u : Str → Option Value) h tk own, ys = pre ++ y :: post → OwnOff own (news.map (·.1)) → P pre c →
      Fr h₀ env.locals h (fun z => if z = x then some (.str y t) else kstB (fun z => if stored.contains z then u z else m₀ z) (ps c) z) → News h₀ env.locals h (news ++ own) →
      wpAny (model prog w) A (execs body env) (SPost h₀ env.locals news own x ps stored m₀ (P (pre ++ [y])) { s with heap := h, toks := tk } Q) E { s with heap := h, toks := tk })
    (done : ∀ (c : σ) (u : Str → Option Value) h tk, P ys c → Fr h₀ env.locals h (fun y => if y = x then u y else kstB (fun z => if stored.contains z then u z else m₀ z) (ps c) y) → News h₀ env.locals h news → Q .next { s with heap := h, toks := tk }) :
    wpAny (model prog w) A (pyIter (.ref l)) (fun it s₂ => LoopAtV prog w A h₀ env x body Q E it s₂) E s := by
  have key : ∀ {vs : List Value} {ys : List Str}, StrsAre vs ys → vs.length = ys.length ∧ ∀ (i : Nat) (v : Value), vs[i]? = some v → ∃ (y : Str) (t : Tok), ys[i]? = some y ∧ v = Value.str y t := by
    intro vs ys h
    induction h with
    | nil => exact ⟨rfl, fun i v e => by simp at e⟩
    | cons y t _ ih =>
      refine ⟨by simp [ih.1], fun i v e => ?_⟩
      cases i with
      | zero => simp at e; exact ⟨y, t, rfl, e.symm⟩
      | succ i => simpa using ih.2 i v (by simpa using e)
  obtain ⟨hlen, hat⟩ := key hi
  refine loopV ps stored (fun i c => P (ys.take i) c) c₀ hh hl F N hk (by simpa using hp) ?_ ?_
  · intro c i v u h tk own hv hoff hP F₁ N₁
    obtain ⟨y, t, hy, rfl⟩ := hat i v hv
    have hs : ys.take (i + 1) = ys.take i ++ [y] := by simp [List.take_add_one, hy]
    have e : ys = ys.take i ++ y :: ys.drop (i + 1) := by
      have ht := List.take_append_drop (i + 1) ys
      rw [hs, List.append_assoc] at ht
      exact ht.symm
    rw [hs]
    exact turn c _ y _ t u h tk own e hoff hP F₁ N₁
  · intro c u h tk hP
    rw [hlen, List.take_length] at hP
    exact done c u h tk hP
end
section
variable {prog : Program} {w : World} {A : Around} {E : Value → Shared → Prop} {s : Shared} {h₀ : Heap} {L : Addr} {m : Str → Option Value} {news : List (Addr × Obj)} {x y : Str} {t u : Tok} {Q : Value → Shared → Prop}
/-- a text split -/
theorem split_c {ys : List Str} (hF : Fr h₀ L s.heap m) (hN : News h₀ L s.heap news) (hy : (y.length == 0) = false) (hsp : Txt.split x y = ys)
    (h : ∀ D vs h' k, Fr h₀ L h' m → News h₀ L h' ((D, W.listOf (List.toArray vs) 0) :: news) → (∀ p ∈ news, p.1 < D) → StrsAre vs ys → Q (.ref D) { s with heap := h', toks := k })
    (hsz : x.length + 2 ≤ sizeLine) : wpAny (model prog w) A (call (.builtin "str.split") [.str x t, .str y u]) Q E s := by
  refine splitN1 hF hN hy (fun l h' k e F N => ?_) hsz
  refine h s.heap.objs.size (strValues l) h' k F N (fun p hp => Heap.lt_size (hN p hp).1) ?_
  have := strsAre_of_values l
  rw [e, hsp] at this
  exact this
theorem gives_find4 (x y : Str) (i : Int) (t u v z : Tok) : Gives (Builtin.«str.find» ⟨[.str x t, .str y u, .int i v, .int x.length z], []⟩) (.int (Txt.find3 x y i)) := by
  show Gives (match Builtin.Str.occurrences x y (fromIndex x.length i) (min (max 0 (if ((x.length : Nat) : Int) < 0 then ((x.length : Nat) : Int) + x.length else (x.length : Nat))).toNat x.length) 1 with | k :: _ => retInt k | [] => (do rule "str.find.not-found"; retInt (-1))) _
  have e : min (max 0 (if ((x.length : Nat) : Int) < 0 then ((x.length : Nat) : Int) + x.length else (x.length : Nat))).toNat x.length = x.length := by
    rw [if_neg (by omega)]
    omega
  rw [e]
  unfold Txt.find3
  cases Builtin.Str.occurrences x y (fromIndex x.length i) x.length 1 with
  | nil => exact .rule (.of_eq rfl)
  | cons k _ => exact .of_eq rfl
theorem find4_c {i j : Int} {v z : Tok} (hj : j = x.length) (hq : Q (.int (Txt.find3 x y i) s.toks) { s with toks := s.toks + 1 }) : wpAny (model prog w) A (call (.builtin "str.find") [.str x t, .str y u, .int i v, .int j z]) Q E s := by
  subst hj
  exact call_gives F.slot_str_find (typeIs_str _ _ _) F.entry_str_find (F.args_str_find_4 _ _ _ _) (gives_find4 x y i t u v z) hq
end
end Mine
namespace Mine
/-- the fit, piece by piece -/
def ellF (x : Str) : List Str → Int → Bool
  | [], _ => true
  | w :: ws, p => if Txt.find3 x w p < 0 then false else ellF x ws (Txt.find3 x w p + w.length)
def EW (x : Str) (ys pre : List Str) (p : Int) : Prop := ∃ post, ys = pre ++ post ∧ ellF x post p = ellF x ys 0
theorem ew_start (x : Str) (ys : List Str) : EW x ys [] 0 := ⟨ys, rfl, rfl⟩
theorem ew_post {x : Str} {ys pre post : List Str} {p : Int} (h : EW x ys pre p) (e : ys = pre ++ post) : ellF x post p = ellF x ys 0 := by
  obtain ⟨q, e', h'⟩ := h
  rw [e] at e'
  rw [List.append_cancel_left e']
  exact h'
theorem ew_no {x y : Str} {ys pre post : List Str} {p : Int} (h : EW x ys pre p) (e : ys = pre ++ y :: post) (hn : Txt.find3 x y p < 0) : false = ellF x ys 0 := by
  have := ew_post h e
  rw [ellF, if_pos hn] at this
  exact this
theorem ew_go {x y : Str} {ys pre post : List Str} {p : Int} (h : EW x ys pre p) (e : ys = pre ++ y :: post) (hn : ¬ Txt.find3 x y p < 0) : EW x ys (pre ++ [y]) (Txt.find3 x y p + y.length) := by
  have := ew_post h e
  rw [ellF, if_neg hn] at this
  exact ⟨post, by rw [e]; simp, this⟩
theorem ew_end {x : Str} {ys : List Str} {p : Int} (h : EW x ys ys p) : true = ellF x ys 0 := by
  have := ew_post h (post := []) (by simp)
  exact this
abbrev E3 : Str := Str.ofString "..."
theorem strs_ends {vs : List Value} {mid : List Str} (h : StrsAre vs (Str.empty :: (mid ++ [Str.empty]))) : ∃ t0 t1 ms, vs = Value.str Str.empty t0 :: (ms ++ [Value.str Str.empty t1]) := by
  have snoc : ∀ {vs : List Value} {mid : List Str} {y : Str}, StrsAre vs (mid ++ [y]) → ∃ t ms, vs = ms ++ [Value.str y t] := by
    intro vs mid
    induction mid generalizing vs with
    | nil =>
      intro y h
      cases h with
      | cons y t h' => cases h'; exact ⟨t, [], rfl⟩
    | cons a r ih =>
      intro y h
      cases h with
      | cons a t h' =>
        obtain ⟨t', ms, e⟩ := ih h'
        exact ⟨t', Value.str a t :: ms, by rw [e]; rfl⟩
  cases h with
  | cons y t h' =>
    obtain ⟨t', ms, e⟩ := snoc h'
    exact ⟨t, t', ms, by rw [e]⟩
end Mine
namespace Mine
section
variable {prog : Program} {w : World} {A : Around} {E : Value → Shared → Prop} {s : Shared} {h₀ : Heap} {L l : Addr} {news : List (Addr × Obj)} {Q : Value → Shared → Prop} {vs ms : List Value} {nn n : Nat} {v v0 : Value} {u : Tok} {value slice : Expr}
theorem len_ws (N : News h₀ L s.heap news) (hm : (l, W.listOf vs.toArray nn) ∈ news) (hn : vs.length = n) (hfit : n ≤ 1048576)
    (h : Q (.int n (s.toks + 1)) { s with toks := s.toks + 1 + 1 }) : wpAny (model prog w) A (call (.builtin "len") [.ref l]) Q E s := by
  subst hn
  have hl := News.isList N hm
  refine len_list hl (by simp; omega) ?_
  simpa using h
theorem item_ws0 (N : News h₀ L s.heap news) (hm : (l, W.listOf (v :: vs).toArray nn) ∈ news) (h : Q v s)
    (hs : subscripted slice false (.ref l) (.int 0 u) = operate [.ref l, .int 0 u] (getItem (.ref l) (.int 0 u)) := by with_unfolding_all rfl) (hg : ∀ r, letTemporaryGo value (.ref l) r = pure () := by intro _; with_unfolding_all rfl) :
    wpAny (model prog w) A (subscriptTail value slice (.ref l) (.int 0 u)) Q E s :=
  item_list (News.isList N hm) (by decide) (by decide) (by simp) h hs hg
theorem item_wsL (N : News h₀ L s.heap news) (hm : (l, W.listOf (v0 :: (ms ++ [v])).toArray nn) ∈ news) (h : Q v s)
    (hs : subscripted slice false (.ref l) (.int (-1) u) = operate [.ref l, .int (-1) u] (getItem (.ref l) (.int (-1) u)) := by with_unfolding_all rfl) (hg : ∀ r, letTemporaryGo value (.ref l) r = pure () := by intro _; with_unfolding_all rfl) :
    wpAny (model prog w) A (subscriptTail value slice (.ref l) (.int (-1) u)) Q E s :=
  item_last (vi := v0 :: ms) (News.isList N hm) h hs hg
end
end Mine
namespace Mine
theorem piece_len {mid pre post ys : List Str} {y : Str} (h : ∀ y ∈ mid, y.length ≤ 100) (e : Str.empty :: (mid ++ [Str.empty]) = pre ++ y :: post) : y.length ≤ 100 := by
  have : y ∈ Str.empty :: (mid ++ [Str.empty]) := by rw [e]; simp
  rcases List.mem_cons.mp this with rfl | h'
  · decide
  · rcases List.mem_append.mp h' with h' | h'
    · exact h y h'
    · rw [List.mem_singleton.mp h']; decide
end Mine
end
section
open PySem PySem.W PyProof.Rows PySem.Calls
namespace Mine
/-! comprehensions: one clause over any source, two clauses -/
section
variable {prog : Program} {w : World} {A : Around} {R : Result → Shared → Prop} {s : Shared}
abbrev lc1 (elt t1 i1 : Expr) (scope : Scope) (pos : Pos) : Expr := .ListComp elt [⟨t1, i1, [], 0⟩] scope pos
abbrev lc2 (elt t1 i1 t2 i2 : Expr) (scope : Scope) (pos : Pos) : Expr := .ListComp elt [⟨t1, i1, [], 0⟩, ⟨t2, i2, [], 0⟩] scope pos
theorem compTurn_in (elt t1 i1 t2 i2 : Expr) (scope : Scope) (pos : Pos) (it acc : Value) (env : Env) :
    compTurn (lc2 elt t1 i1 t2 i2 scope pos) 1 it acc env = (standAt i2.pos >>= fun _ => pyNext it >>= fun r => match r with
      | none => pure (.done .next)
      | some v => letOwnedTupleGo t2 it v >>= fun _ => assign t2 env v >>= fun _ =>
        (eval elt env >>= fun x => call (.builtin "list.append") [acc, x] >>= fun _ => pure ()) >>= fun _ =>
          again (.compLoop (lc2 elt t1 i1 t2 i2 scope pos) 1 it acc env)) := by rfl
theorem compTurn_out (elt t1 i1 t2 i2 : Expr) (scope : Scope) (pos : Pos) (it acc : Value) (env : Env) :
    compTurn (lc2 elt t1 i1 t2 i2 scope pos) 0 it acc env = (standAt i1.pos >>= fun _ => pyNext it >>= fun r => match r with
      | none => pure (.done .next)
      | some v => letOwnedTupleGo t1 it v >>= fun _ => assign t1 env v >>= fun _ =>
        eval i2 env >>= fun x => standAt i2.pos >>= fun _ => foldedSetIterable i2 env x >>= fun x =>
          holding [x] (pyIter x) >>= fun it2 => runOwn (.compStart (lc2 elt t1 i1 t2 i2 scope pos) 1 it2 acc env) env >>= fun _ =>
          again (.compLoop (lc2 elt t1 i1 t2 i2 scope pos) 0 it acc env)) := by rfl
/-- a turn of a last clause -/
def TurnLast (prog : Program) (w : World) (A : Around) (it acc : Value) (tgt elt : Expr) (env : Env) (I : Nat → Shared → Prop) (R : Result → Shared → Prop) : Prop :=
  ∀ n s, I n s → wpAny (model prog w) A (pyNext it) (fun r s₁ => match r with
      | none => R (.ok .next) s₁
      | some v => wpAny (model prog w) A (letOwnedTupleGo tgt it v >>= fun _ => assign tgt env v) (fun _ s₂ => wpAny (model prog w) A (eval elt env) (fun x s₃ =>
          wpAny (model prog w) A (call (.builtin "list.append") [acc, x]) (fun _ s₄ => ∃ m, m < n ∧ I m s₄) (notedBy (model prog w) A env fun e s' => R (.error e) s') s₃)
            (notedBy (model prog w) A env fun e s' => R (.error e) s') s₂) (notedBy (model prog w) A env fun e s' => R (.error e) s') s₁) (notedBy (model prog w) A env fun e s' => R (.error e) s') s
theorem compLoop_in {elt t1 i1 t2 i2 : Expr} {scope : Scope} {pos : Pos} {it acc : Value} {env : Env} {I : Nat → Shared → Prop} (turn : TurnLast prog w A it acc t2 elt env I R) (n : Nat) (h : I n s) :
    codeAny (model prog w) A (.compLoop (lc2 elt t1 i1 t2 i2 scope pos) 1 it acc env) R s := by
  refine codeAny_loop rfl I (fun n s hI => ?_) n h
  show wpAny _ A ((compTurn (lc2 elt t1 i1 t2 i2 scope pos) 1 it acc env).onRaise (fun x => do noteFrame x env; theTreesLotGoes x)) _ _ s
  refine wpAny_noted ?_
  rw [compTurn_in]
  refine wpAny_bind (wpAny_standAt (wpAny_bind (wpAny_mono (turn n s hI) (fun r s₁ h₁ => ?_) fun _ _ h' => h')))
  cases r with
  | none => exact wpAny_pure h₁
  | some v =>
    have e : ∀ (k : Unit → Sem Fin), (letOwnedTupleGo t2 it v >>= fun _ => assign t2 env v >>= k) = ((letOwnedTupleGo t2 it v >>= fun _ => assign t2 env v) >>= k) := fun k => (Sem.bind_assoc _ _ _).symm
    show wpAny _ A (letOwnedTupleGo t2 it v >>= fun _ => assign t2 env v >>= _) _ _ s₁
    rw [e]
    refine wpAny_bind (wpAny_mono h₁ (fun _ s₃ h₃ => ?_) fun _ _ h' => h')
    refine wpAny_bind (wpAny_bind (wpAny_mono h₃ (fun x s₄ h₄ => wpAny_bind (wpAny_mono h₄ (fun _ s₅ h₅ => wpAny_pure (wpAny_pure ⟨rfl, h₅⟩)) fun _ _ h' => h')) fun _ _ h' => h'))
theorem compLoop_one {elt t1 i1 : Expr} {scope : Scope} {pos : Pos} {it acc : Value} {env : Env} {I : Nat → Shared → Prop} (turn : TurnLast prog w A it acc t1 elt env I R) (n : Nat) (h : I n s) :
    codeAny (model prog w) A (.compLoop (lc1 elt t1 i1 scope pos) 0 it acc env) R s := by
  refine codeAny_loop rfl I (fun n s hI => ?_) n h
  show wpAny _ A ((compTurn (lc1 elt t1 i1 scope pos) 0 it acc env).onRaise (fun x => do noteFrame x env; theTreesLotGoes x)) _ _ s
  refine wpAny_noted ?_
  rw [compTurn_list1]
  refine wpAny_bind (wpAny_standAt (wpAny_bind (wpAny_mono (turn n s hI) (fun r s₁ h₁ => ?_) fun _ _ h' => h')))
  cases r with
  | none => exact wpAny_pure h₁
  | some v =>
    have e : ∀ (k : Unit → Sem Fin), (letOwnedTupleGo t1 it v >>= fun _ => assign t1 env v >>= k) = ((letOwnedTupleGo t1 it v >>= fun _ => assign t1 env v) >>= k) := fun k => (Sem.bind_assoc _ _ _).symm
    show wpAny _ A (letOwnedTupleGo t1 it v >>= fun _ => assign t1 env v >>= _) _ _ s₁
    rw [e]
    refine wpAny_bind (wpAny_mono h₁ (fun _ s₃ h₃ => ?_) fun _ _ h' => h')
    refine wpAny_bind (wpAny_bind (wpAny_mono h₃ (fun x s₄ h₄ => wpAny_bind (wpAny_mono h₄ (fun _ s₅ h₅ => wpAny_pure (wpAny_pure ⟨rfl, h₅⟩)) fun _ _ h' => h')) fun _ _ h' => h'))
theorem compStart_in {elt t1 i1 t2 i2 : Expr} {scope : Scope} {pos : Pos} {it acc : Value} {env : Env}
    (h0 : codeAny (model prog w) A (.compLoop (lc2 elt t1 i1 t2 i2 scope pos) 1 it acc env) R s)
    (h : wpAny (model prog w) A (pyIter it) (fun it' s' => codeAny (model prog w) A (.compLoop (lc2 elt t1 i1 t2 i2 scope pos) 1 it' acc env) R s') (notedBy (model prog w) A env fun x s' => R (.error x) s') s) :
    codeAny (model prog w) A (.compStart (lc2 elt t1 i1 t2 i2 scope pos) 1 it acc env) R s := by
  refine codeAny_of_tree ?_
  show wpAny _ _ ((compStart (lc2 elt t1 i1 t2 i2 scope pos) 1 it acc env).onRaise (fun x => do noteFrame x env; standAt theWindowsPlace)) _ _ s
  refine wpAny_notedAt ?_
  unfold compStart
  show wpAny _ _ (ask >>= _) _ _ s
  refine wpAny_bind (wpAny_askSetting (wpAny_ite ?_))
  split
  · first
      | exact wpAny_bind (wpAny_pure (wpAny_pure (And.intro rfl h0)))
      | exact wpAny_pure (And.intro rfl h0)
  · first
      | exact wpAny_bind (wpAny_rule (wpAny_bind (wpAny_standAt (wpAny_bind (wpAny_mono h (fun it' s' h' => wpAny_pure (And.intro rfl h')) fun _ _ x => x)))))
      | (refine wpAny_bind (wpAny_rule ?_); show wpAny _ _ (standAt i2.pos >>= _) _ _ s; exact wpAny_bind (wpAny_standAt (wpAny_bind (wpAny_mono h (fun it' s' h' => wpAny_pure (And.intro rfl h')) fun _ _ x => x))))
/-- a turn of the first of two clauses -/
def TurnOut (prog : Program) (w : World) (A : Around) (it acc : Value) (elt t1 i1 t2 i2 : Expr) (scope : Scope) (pos : Pos) (env : Env) (I : Nat → Shared → Prop) (R : Result → Shared → Prop) : Prop :=
  ∀ n s, I n s → wpAny (model prog w) A (pyNext it) (fun r s₁ => match r with
      | none => R (.ok .next) s₁
      | some v => wpAny (model prog w) A (letOwnedTupleGo t1 it v >>= fun _ => assign t1 env v) (fun _ s₂ => wpAny (model prog w) A (eval i2 env) (fun x s₃ =>
          wpAny (model prog w) A (pyIter x) (fun it2 s₄ => codeAny (model prog w) A (.compStart (lc2 elt t1 i1 t2 i2 scope pos) 1 it2 acc env)
            (fun r s₅ => match r with | .ok _ => ∃ m, m < n ∧ I m s₅ | .error e => cameBackBy (model prog w) A env (notedBy (model prog w) A env fun e s' => R (.error e) s') e s₅) s₄)
            (notedBy (model prog w) A env fun e s' => R (.error e) s') s₃)
            (notedBy (model prog w) A env fun e s' => R (.error e) s') s₂) (notedBy (model prog w) A env fun e s' => R (.error e) s') s₁) (notedBy (model prog w) A env fun e s' => R (.error e) s') s
theorem compLoop_out {elt t1 i1 t2 i2 : Expr} {scope : Scope} {pos : Pos} {it acc : Value} {env : Env} {I : Nat → Shared → Prop} (hs : ∀ x, foldedSetIterable i2 env x = pure x)
    (turn : TurnOut prog w A it acc elt t1 i1 t2 i2 scope pos env I R) (n : Nat) (h : I n s) :
    codeAny (model prog w) A (.compLoop (lc2 elt t1 i1 t2 i2 scope pos) 0 it acc env) R s := by
  refine codeAny_loop rfl I (fun n s hI => ?_) n h
  show wpAny _ A ((compTurn (lc2 elt t1 i1 t2 i2 scope pos) 0 it acc env).onRaise (fun x => do noteFrame x env; theTreesLotGoes x)) _ _ s
  refine wpAny_noted ?_
  rw [compTurn_out]
  refine wpAny_bind (wpAny_standAt (wpAny_bind (wpAny_mono (turn n s hI) (fun r s₁ h₁ => ?_) fun _ _ h' => h')))
  cases r with
  | none => exact wpAny_pure h₁
  | some v =>
    have e : ∀ (k : Unit → Sem Fin), (letOwnedTupleGo t1 it v >>= fun _ => assign t1 env v >>= k) = ((letOwnedTupleGo t1 it v >>= fun _ => assign t1 env v) >>= k) := fun k => (Sem.bind_assoc _ _ _).symm
    show wpAny _ A (letOwnedTupleGo t1 it v >>= fun _ => assign t1 env v >>= _) _ _ s₁
    rw [e]
    refine wpAny_bind (wpAny_mono h₁ (fun _ s₂ h₂ => ?_) fun _ _ h' => h')
    refine wpAny_bind (wpAny_mono h₂ (fun x s₃ h₃ => ?_) fun _ _ h' => h')
    refine wpAny_bind (wpAny_standAt (wpAny_bind (wpAny_of_eq (hs x) ?_)))
    refine wpAny_bind (wpAny_holding (wpAny_mono h₃ (fun it2 s₄ h₄ => ?_) fun _ _ h' => h'))
    refine wpAny_bind (wpAny_runOwn (codeAny_mono h₄ fun r s₅ hr => ?_))
    cases r with
    | ok f => exact wpAny_pure ⟨rfl, hr⟩
    | error e => exact hr
end
/-- what holds while a comprehension runs: the frame, its own names, its list, the ledger -/
structure Held (h₀ : Heap) (L : Addr) (m : Str → Option Value) (C D I : Addr) (Z : Heap → Prop) (h : Heap) (mC : Str → Option Value) (ys : List Value) (nx : List (Addr × Obj)) : Prop where
  fr : Fr h₀ L h m
  ns : h.Ns C mC
  led : News h₀ L h nx
  lst : h.get? D = some (LCg.lst ys)
  sep : ∀ p ∈ nx, p.1 ≠ C ∧ p.1 ≠ D ∧ p.1 ≠ I
  z : Z h
/-- the fixed facts of the addresses -/
structure Apart (h₀ : Heap) (L : Addr) (C D I : Addr) (Z : Heap → Prop) : Prop where
  cl : C ≠ L
  dl : D ≠ L
  il : I ≠ L
  cd : C ≠ D
  ci : C ≠ I
  di : D ≠ I
  c0 : h₀.get? C = none
  d0 : h₀.get? D = none
  i0 : h₀.get? I = none
  keep : ∀ h h', Z h → (∀ b o, b ≠ C → b ≠ D → b ≠ I → h.get? b = some o → h'.get? b = some o) → Z h'
section
variable {h₀ : Heap} {L : Addr} {m : Str → Option Value} {C D I : Addr} {Z : Heap → Prop} {h h' : Heap} {mC mC' : Str → Option Value} {ys : List Value} {nx nx' : List (Addr × Obj)}
theorem Held.atI (x : Held h₀ L m C D I Z h mC ys nx) (a : Apart h₀ L C D I Z) (hk : ∀ b o, b ∉ [I] → h.get? b = some o → h'.get? b = some o) : Held h₀ L m C D I Z h' mC ys nx where
  fr := LCg.fr_but x.fr hk (Ne.symm a.il) a.i0
  ns := x.ns.at' fun o e => hk C o (by simpa using a.ci) e
  led := LCg.news_but x.led hk fun p hp => (x.sep p hp).2.2
  lst := hk D _ (by simpa using a.di) x.lst
  sep := x.sep
  z := a.keep _ _ x.z fun b o _ _ hb e => hk b o (by simpa using hb) e
theorem Held.atC (x : Held h₀ L m C D I Z h mC ys nx) (a : Apart h₀ L C D I Z) (hk : ∀ b o, b ≠ C → h.get? b = some o → h'.get? b = some o) (hn : h'.Ns C mC') : Held h₀ L m C D I Z h' mC' ys nx where
  fr := LCg.fr_but x.fr (fun b o hb e => hk b o (by simpa using hb) e) (Ne.symm a.cl) a.c0
  ns := hn
  led := LCg.news_but x.led (fun b o hb e => hk b o (by simpa using hb) e) fun p hp => (x.sep p hp).1
  lst := hk D _ (Ne.symm a.cd) x.lst
  sep := x.sep
  z := a.keep _ _ x.z fun b o hb _ _ e => hk b o hb e
theorem Held.ext (x : Held h₀ L m C D I Z h mC ys nx) (a : Apart h₀ L C D I Z) (hI : ∃ o, h.get? I = some o) (hk : ∀ b o, h.get? b = some o → h'.get? b = some o) (N : News h₀ L h' nx') (hn : ∀ p ∈ nx', p ∈ nx ∨ h.objs.size ≤ p.1) : Held h₀ L m C D I Z h' mC ys nx' where
  fr := x.fr.keeps hk
  ns := x.ns.at' fun o e => hk C o e
  led := N
  lst := hk D _ x.lst
  sep := fun p hp => by
    rcases hn p hp with q | q
    · exact x.sep p q
    · have hC := x.ns.lt
      have hD := Heap.lt_size x.lst
      obtain ⟨oI, eI⟩ := hI
      have hI' := Heap.lt_size eI
      exact ⟨fun e => absurd hC (by rw [← e]; exact Nat.not_lt.mpr q), fun e => absurd hD (by rw [← e]; exact Nat.not_lt.mpr q), fun e => absurd hI' (by rw [← e]; exact Nat.not_lt.mpr q)⟩
  z := a.keep _ _ x.z fun b o _ _ _ e => hk b o e
theorem Held.atD (x : Held h₀ L m C D I Z h mC ys nx) (a : Apart h₀ L C D I Z) {zs : List Value} (hs : Heap.SameBut D h h') (hD : h'.get? D = some (LCg.lst zs)) : Held h₀ L m C D I Z h' mC zs nx where
  fr := LCg.fr_but x.fr (fun b o hb e => hs.extBut b o (by simpa using hb) e) (Ne.symm a.dl) a.d0
  ns := x.ns.at' fun o e => hs.extBut C o a.cd e
  led := LCg.news_but x.led (fun b o hb e => hs.extBut b o (by simpa using hb) e) fun p hp => (x.sep p hp).2.1
  lst := hD
  sep := x.sep
  z := a.keep _ _ x.z fun b o _ hb _ e => hs.extBut b o hb e
end
section
variable {prog : Program} {w : World} {A : Around} {R : Result → Shared → Prop} {s : Shared} {h₀ : Heap} {L : Addr} {m : Str → Option Value} {C D I : Addr} {Z : Heap → Prop}
/-- the last clause's turns: T says of the clause's names, Rr of the list and the ledger -/
def LastInv (s : Shared) (h₀ : Heap) (L : Addr) (m : Str → Option Value) (C D I : Addr) (Z : Heap → Prop) (n : Nat) (St : Nat → Heap → Prop) (M : (Str → Option Value) → Prop) (Rr : Nat → List Value → List (Addr × Obj) → Prop) (k : Nat) (s' : Shared) : Prop :=
  ∃ j h tk mC ys nx, k = n + 1 - j ∧ j ≤ n ∧ s' = { s with heap := h, toks := tk } ∧ St j h ∧ Held h₀ L m C D I Z h mC ys nx ∧ M mC ∧ Rr j ys nx
theorem turn_last {fp : List Addr} {n : Nat} {P : Nat → Value → Prop} {St : Nat → Heap → Prop} {tgt elt : Expr} {env : Env} {M : (Str → Option Value) → Prop} {B : Value → (Str → Option Value) → Prop} {Rr : Nat → List Value → List (Addr × Obj) → Prop}
    (W : Walks prog w A I fp [I] n P St) (a : Apart h₀ L C D I Z) (hCf : C ∉ fp) (hDf : D ∉ fp) (hIo : ∀ i h, St i h → ∃ o, h.get? I = some o)
    (hlen : ∀ j ys nx, Rr j ys nx → ys.length ≤ 1048576)
    (hasg : ∀ j v h tk mC ys nx (E' : Value → Shared → Prop), j < n → P j v → M mC → Rr j ys nx → h.Ns C mC → News h₀ L h nx → St (j + 1) h → Z h →
      wpAny (model prog w) A (letOwnedTupleGo tgt (.ref I) v >>= fun _ => assign tgt env v) (fun _ s' => ∃ h' tk' mC', s' = { s with heap := h', toks := tk' } ∧ (∀ b o, b ≠ C → h.get? b = some o → h'.get? b = some o) ∧ h'.Ns C mC' ∧ M mC' ∧ B v mC') E' { s with heap := h, toks := tk })
    (helt : ∀ j v h tk mC ys nx (E' : Value → Shared → Prop), j < n → P j v → M mC → B v mC → Rr j ys nx → Fr h₀ L h m → h.Ns C mC → News h₀ L h nx → Z h →
      wpAny (model prog w) A (eval elt env) (fun y s' => ∃ h' tk' nx', s' = { s with heap := h', toks := tk' } ∧ (∀ b o, h.get? b = some o → h'.get? b = some o) ∧ News h₀ L h' nx' ∧ (∀ p ∈ nx', p ∈ nx ∨ h.objs.size ≤ p.1) ∧ Rr (j + 1) (ys ++ [y]) nx') E' { s with heap := h, toks := tk })
    (hdone : ∀ h tk mC ys nx, Held h₀ L m C D I Z h mC ys nx → M mC → Rr n ys nx → R (.ok .next) { s with heap := h, toks := tk }) :
    TurnLast prog w A (.ref I) (.ref D) tgt elt env (LastInv s h₀ L m C D I Z n St M Rr) R := by
  rintro k s' ⟨j, h, tk, mC, ys, nx, rfl, hj, rfl, hst, H, hM, hR⟩
  by_cases hlt : j < n
  · refine W.item j _ _ _ hlt hst fun v h₂ tk₂ hPv hst₂ hk₂ => ?_
    have H₂ := H.atI a hk₂
    refine wpAny_mono (hasg j v h₂ tk₂ mC ys nx _ hlt hPv hM hR H₂.ns H₂.led hst₂ H₂.z) (fun _ s₃ q => ?_) fun _ _ e => e
    obtain ⟨h₃, tk₃, mC', rfl, hk₃, hn₃, hM', hB⟩ := q
    have H₃ := H₂.atC a hk₃ hn₃
    have hst₃ : St (j + 1) h₃ := W.frame _ _ _ hst₂ fun b hb o e => hk₃ b o (fun q => hCf (q ▸ hb)) e
    refine wpAny_mono (helt j v h₃ tk₃ mC' ys nx _ hlt hPv hM' hB hR H₃.fr H₃.ns H₃.led H₃.z) (fun y s₄ q => ?_) fun _ _ e => e
    obtain ⟨h₄, tk₄, nx', rfl, hk₄, N₄, hn₄, hR₄⟩ := q
    have H₄ := H₃.ext a (hIo _ _ hst₃) hk₄ N₄ hn₄
    have hst₄ : St (j + 1) h₄ := W.frame _ _ _ hst₃ fun b _ o e => hk₄ b o e
    refine append_at (hsz := by show ys.toArray.size ≤ sizeLine; rw [List.size_toArray, sizeLine_eq]; have := hlen _ _ _ hR; omega) H₄.lst fun h₅ hs₅ hD₅ => ?_
    have H₅ := H₄.atD a hs₅ (zs := ys ++ [y]) (hD₅.trans (congrArg some (LCg.lst_snoc ys y)))
    exact ⟨n + 1 - (j + 1), by omega, j + 1, h₅, tk₄, mC', ys ++ [y], nx', rfl, hlt, rfl, W.frame _ _ _ hst₄ fun b hb o e => hs₅.extBut b o (fun q => hDf (q ▸ hb)) e, H₅, hM', hR₄⟩
  · obtain rfl : j = n := Nat.le_antisymm hj (Nat.not_lt.mp hlt)
    refine W.done _ _ _ hst fun h₂ tk₂ hk₂ => ?_
    exact hdone h₂ tk₂ mC ys nx (H.atI a hk₂) hM hR
/-- an iterator that owns no tuple -/
def ItOK (I : Addr) (h : Heap) : Prop := ∃ o n, h.get? I = some o ∧ o.cls = .type n ∧ ["enumerate", "zip", "dict_itemiterator", "dict_reverseitemiterator", "odict_iterator", "itertools.zip_longest", "itertools.pairwise"].contains n = false
theorem ItOK.obj {I : Addr} {h : Heap} (x : ItOK I h) : ∃ o, h.get? I = some o := by obtain ⟨o, _, e, _⟩ := x; exact ⟨o, e⟩
theorem ItOK.go {prog : Program} {w : World} {A : Around} {E : Value → Shared → Prop} {s : Shared} {I : Addr} {tgt : Expr} {v : Value} {Q : Unit → Shared → Prop} (x : ItOK I s.heap) (hQ : Q () s) : wpAny (model prog w) A (letOwnedTupleGo tgt (.ref I) v) Q E s := by
  have key : ∀ (a : Addr), wpAny (model prog w) A (do
      let o ← load I
      match o.cls, o.data with
      | .type n, .fields vs =>
        if ["enumerate", "zip", "dict_itemiterator", "dict_reverseitemiterator", "odict_iterator", "itertools.zip_longest", "itertools.pairwise"].contains n && vs[0]? == some (rawInt a) then
          rule "for.unpacks-the-owned-tuple"
          updateField I 0 .none
      | _, _ => pure ()) Q E s := by
    intro a
    obtain ⟨o, n, e, hc, hn⟩ := x
    refine wpAny_bind (wpAny_load e ?_)
    rw [hc]
    cases o.data with
    | fields vs =>
      show wpAny _ _ (if (_ && _) = true then _ else _) _ _ _
      rw [hn, Bool.false_and, if_neg (by decide)]
      exact wpAny_pure hQ
    | _ => exact wpAny_pure hQ
  unfold letOwnedTupleGo
  cases tgt with
  | Tuple es k p => cases v with
    | ref a => exact key a
    | _ => exact wpAny_pure hQ
  | List es p => cases v with
    | ref a => exact key a
    | _ => exact wpAny_pure hQ
  | _ => exact wpAny_pure hQ
/-- an inner source: what pyIter makes of it -/
def SrcIn (prog : Program) (w : World) (A : Around) (s : Shared) (C D I1 : Addr) (n2 : Nat) (P2 : Nat → Value → Prop) (h₃ : Heap) (it2 : Value) (s₄ : Shared) : Prop :=
  ∃ I2 h₄ tk₄ fp2 St2, it2 = .ref I2 ∧ s₄ = { s with heap := h₄, toks := tk₄ } ∧ (∀ b o, h₃.get? b = some o → h₄.get? b = some o) ∧ h₃.objs.size ≤ I2 ∧ (∀ i h, St2 i h → ItOK I2 h) ∧ Walks prog w A I2 fp2 [I2] n2 P2 St2 ∧ St2 0 h₄ ∧ C ∉ fp2 ∧ D ∉ fp2
def OutInv (s : Shared) (h₀ : Heap) (L : Addr) (m : Str → Option Value) (C D I : Addr) (n : Nat) (St : Nat → Heap → Prop) (Rr : Nat → Nat → List Value → List (Addr × Obj) → Prop) (k : Nat) (s' : Shared) : Prop :=
  ∃ i h tk mC ys nx, k = n + 1 - i ∧ i ≤ n ∧ s' = { s with heap := h, toks := tk } ∧ St i h ∧ Held h₀ L m C D I (fun _ => True) h mC ys nx ∧ Rr i 0 ys nx
theorem turn_out {fp : List Addr} {n n2 : Nat} {P P2 : Nat → Value → Prop} {St : Nat → Heap → Prop} {elt t1 i1 t2 i2 : Expr} {scope : Scope} {pos : Pos} {env : Env} {B1 : Value → (Str → Option Value) → Prop} {B2 : Value → (Str → Option Value) → Prop} {Rr : Nat → Nat → List Value → List (Addr × Obj) → Prop}
    (W : Walks prog w A I fp [I] n P St) (a : Apart h₀ L C D I (fun _ => True)) (hCf : C ∉ fp) (hDf : D ∉ fp) (hfo : ∀ i h, St i h → ∀ b ∈ fp, ∃ o, h.get? b = some o)
    (hlen : ∀ i j ys nx, Rr i j ys nx → ys.length ≤ 1048576) (hnext : ∀ i ys nx, Rr i n2 ys nx → Rr (i + 1) 0 ys nx)
    (hasg1 : ∀ i v h tk mC ys nx (E' : Value → Shared → Prop), i < n → P i v → Rr i 0 ys nx → h.Ns C mC → News h₀ L h nx → St (i + 1) h →
      wpAny (model prog w) A (letOwnedTupleGo t1 (.ref I) v >>= fun _ => assign t1 env v) (fun _ s' => ∃ h' tk' mC', s' = { s with heap := h', toks := tk' } ∧ (∀ b o, b ≠ C → h.get? b = some o → h'.get? b = some o) ∧ h'.Ns C mC' ∧ B1 v mC') E' { s with heap := h, toks := tk })
    (hsrc : ∀ i v h tk mC ys nx (E' : Value → Shared → Prop), i < n → P i v → B1 v mC → Rr i 0 ys nx → Fr h₀ L h m → h.Ns C mC → News h₀ L h nx → (∃ o, h.get? D = some o) → (∀ p ∈ nx, p.1 ≠ C ∧ p.1 ≠ D) →
      wpAny (model prog w) A (eval i2 env) (fun x s₃ => ∃ h₃ tk₃, s₃ = { s with heap := h₃, toks := tk₃ } ∧ (∀ b o, h.get? b = some o → h₃.get? b = some o) ∧ ∀ E'' : Value → Shared → Prop, wpAny (model prog w) A (pyIter x) (SrcIn prog w A s C D I n2 P2 h₃) E'' s₃) E' { s with heap := h, toks := tk })
    (hasg2 : ∀ i v1 I2 j v h tk mC ys nx (E' : Value → Shared → Prop), i < n → P i v1 → j < n2 → P2 j v → B1 v1 mC → Rr i j ys nx → h.Ns C mC → News h₀ L h nx → ItOK I2 h →
      wpAny (model prog w) A (letOwnedTupleGo t2 (.ref I2) v >>= fun _ => assign t2 env v) (fun _ s' => ∃ h' tk' mC', s' = { s with heap := h', toks := tk' } ∧ (∀ b o, b ≠ C → h.get? b = some o → h'.get? b = some o) ∧ h'.Ns C mC' ∧ B1 v1 mC' ∧ B2 v mC') E' { s with heap := h, toks := tk })
    (helt : ∀ i v1 j v h tk mC ys nx (E' : Value → Shared → Prop), i < n → P i v1 → j < n2 → P2 j v → B1 v1 mC → B2 v mC → Rr i j ys nx → Fr h₀ L h m → h.Ns C mC → News h₀ L h nx →
      wpAny (model prog w) A (eval elt env) (fun y s' => ∃ h' tk' nx', s' = { s with heap := h', toks := tk' } ∧ (∀ b o, h.get? b = some o → h'.get? b = some o) ∧ News h₀ L h' nx' ∧ (∀ p ∈ nx', p ∈ nx ∨ h.objs.size ≤ p.1) ∧ Rr i (j + 1) (ys ++ [y]) nx') E' { s with heap := h, toks := tk })
    (hdone : ∀ h tk mC ys nx, Held h₀ L m C D I (fun _ => True) h mC ys nx → Rr n 0 ys nx → R (.ok .next) { s with heap := h, toks := tk }) :
    TurnOut prog w A (.ref I) (.ref D) elt t1 i1 t2 i2 scope pos env (OutInv s h₀ L m C D I n St Rr) R := by
  have hIf : I ∈ fp := W.sub I (List.mem_singleton.mpr rfl)
  rintro k s' ⟨i, h, tk, mC, ys, nx, rfl, hi, rfl, hst, H, hR⟩
  by_cases hlt : i < n
  · refine W.item i _ _ _ hlt hst fun v h₂ tk₂ hPv hst₂ hk₂ => ?_
    have H₂ := H.atI a hk₂
    refine wpAny_mono (hasg1 i v h₂ tk₂ mC ys nx _ hlt hPv hR H₂.ns H₂.led hst₂) (fun _ s₃ q => ?_) fun _ _ e => e
    obtain ⟨h₃, tk₃, mC', rfl, hk₃, hn₃, hB⟩ := q
    have H₃ := H₂.atC a hk₃ hn₃
    have hst₃ : St (i + 1) h₃ := W.frame _ _ _ hst₂ fun b hb o e => hk₃ b o (fun q => hCf (q ▸ hb)) e
    refine wpAny_mono (hsrc i v h₃ tk₃ mC' ys nx _ hlt hPv hB hR H₃.fr H₃.ns H₃.led ⟨_, H₃.lst⟩ (fun p hp => ⟨(H₃.sep p hp).1, (H₃.sep p hp).2.1⟩)) (fun x s₄ q => ?_) fun _ _ e => e
    obtain ⟨h₄, tk₄, rfl, hk₄, hit⟩ := q
    refine wpAny_mono (hit _) (fun it2 s₅ q => ?_) fun _ _ e => e
    obtain ⟨I2, h₅, tk₅, fp2, St2, rfl, rfl, hk₅, hI2, hIo2, W2, hst5, hC2, hD2⟩ := q
    have up : ∀ b o, h₃.get? b = some o → h₅.get? b = some o := fun b o e => hk₅ b o (hk₄ b o e)
    have fresh : ∀ b o, h₃.get? b = some o → b ≠ I2 := fun b o e q => absurd (Heap.lt_size (hk₄ b o e)) (by rw [q]; exact Nat.not_lt.mpr hI2)
    obtain ⟨oC, eC, _⟩ := LCg.ns_obj H₃.ns
    obtain ⟨oL, eL, _⟩ := LCg.ns_obj H₃.fr.ns
    have i20 : h₀.get? I2 = none := by
      cases q : h₀.get? I2 with
      | none => rfl
      | some o => exact absurd rfl (fresh I2 o (H₃.fr.keep I2 o q))
    have hZ : ∀ h h', St (i + 1) h → (∀ b o, b ≠ C → b ≠ D → b ≠ I2 → h.get? b = some o → h'.get? b = some o) → St (i + 1) h' := by
      intro h h' st hk
      refine W.frame _ _ _ st fun b hb o e => hk b o (fun q => hCf (q ▸ hb)) (fun q => hDf (q ▸ hb)) ?_ e
      obtain ⟨o3, e3⟩ := hfo _ _ hst₃ b hb
      exact fresh b o3 e3
    have a2 : Apart h₀ L C D I2 (fun h => St (i + 1) h) := ⟨a.cl, a.dl, Ne.symm (fresh L oL eL), a.cd, fresh C oC eC, fresh D _ H₃.lst, a.c0, a.d0, i20, hZ⟩
    have H₅ : Held h₀ L m C D I2 (fun h => St (i + 1) h) h₅ mC' ys nx := ⟨H₃.fr.keeps up, H₃.ns.at' fun o e => up C o e, fun p hp => ⟨up _ _ (H₃.led p hp).1, (H₃.led p hp).2⟩, up D _ H₃.lst, fun p hp => ⟨(H₃.sep p hp).1, (H₃.sep p hp).2.1, fresh _ _ (H₃.led p hp).1⟩, W.frame _ _ _ hst₃ fun b _ o e => up b o e⟩
    have turn : TurnLast prog w A (.ref I2) (.ref D) t2 elt env (LastInv s h₀ L m C D I2 (fun h => St (i + 1) h) n2 St2 (B1 v) (fun j ys nx => Rr i j ys nx ∧ ∀ p ∈ nx, p.1 ≠ I))
        (fun r s₅ => match r with | .ok _ => ∃ m', m' < n + 1 - i ∧ OutInv s h₀ L m C D I n St Rr m' s₅ | .error e => cameBackBy (model prog w) A env (notedBy (model prog w) A env fun e s' => R (.error e) s') e s₅) := by
      refine turn_last (B := B2) W2 a2 hC2 hD2 (fun i h st => (hIo2 i h st).obj) (fun j ys nx q => hlen _ _ _ _ q.1) ?_ ?_ ?_
      · intro j v2 h tk mC ys nx E' hj hP2 hM hR hn N st2 _
        exact hasg2 i v I2 j v2 h tk mC ys nx E' hlt hPv hj hP2 hM hR.1 hn N (hIo2 _ _ st2)
      · intro j v2 h tk mC ys nx E' hj hP2 hM hB2 hR F hn N z
        refine wpAny_mono (helt i v j v2 h tk mC ys nx E' hlt hPv hj hP2 hM hB2 hR.1 F hn N) (fun y s₆ q => ?_) fun _ _ e => e
        obtain ⟨h', tk', nx', e, hk, N', hnx, hR'⟩ := q
        refine ⟨h', tk', nx', e, hk, N', hnx, hR', fun p hp => ?_⟩
        rcases hnx p hp with q | q
        · exact hR.2 p q
        · obtain ⟨oI, eI⟩ := hfo _ _ z I hIf
          exact fun e => absurd (Heap.lt_size eI) (by rw [← e]; exact Nat.not_lt.mpr q)
      · intro h tk mC ys nx H hM hR
        exact ⟨n + 1 - (i + 1), by omega, i + 1, h, tk, mC, ys, nx, rfl, hlt, rfl, H.z, ⟨H.fr, H.ns, H.led, H.lst, fun p hp => ⟨(H.sep p hp).1, (H.sep p hp).2.1, hR.2 p hp⟩, trivial⟩, hnext _ _ _ hR.1⟩
    have start : LastInv s h₀ L m C D I2 (fun h => St (i + 1) h) n2 St2 (B1 v) (fun j ys nx => Rr i j ys nx ∧ ∀ p ∈ nx, p.1 ≠ I) (n2 + 1) { s with heap := h₅, toks := tk₅ } :=
      ⟨0, h₅, tk₅, mC', ys, nx, rfl, Nat.zero_le _, rfl, hst5, H₅, hB, hR, fun p hp => (H₃.sep p hp).2.2⟩
    exact compStart_in (compLoop_in turn _ start) (W2.self 0 _ _ _ hst5 (compLoop_in turn _ start))
  · obtain rfl : i = n := Nat.le_antisymm hi (Nat.not_lt.mp hlt)
    refine W.done _ _ _ hst fun h₂ tk₂ hk₂ => ?_
    exact hdone h₂ tk₂ mC ys nx (H.atI a hk₂) hR
/-- the list and the names are made; then the loop -/
theorem comp_block {E : Value → Shared → Prop} {elt t1 i1 : Expr} {rest : List Comprehension} {scope : Scope} {cl : List (Str × Addr)} {pos : Pos} {env : Env} {s₂ : Shared} {fp : List Addr} {news : List (Addr × Obj)} {RR : Value → Addr → Result → Shared → Prop}
    (hcell : ∀ y ∈ scope.names, y.2 ≠ .cell) (hkind : scope.kind = .function) (hfp : ∀ b ∈ fp, b < s₂.heap.objs.size) (hIlt : I < s₂.heap.objs.size)
    (F : Fr h₀ L s₂.heap m) (N : News h₀ L s₂.heap news) (hIL : I ≠ L) (hI₀ : h₀.get? I = none) (off : ∀ p ∈ news, p.1 ≠ I)
    (hself : ∀ (s : Shared) (Q : Value → Shared → Prop) (E : Value → Shared → Prop), (∀ b o, s₂.heap.get? b = some o → s.heap.get? b = some o) → Q (.ref I) s → wpAny (model prog w) A (pyIter (.ref I)) Q E s)
    (loop : ∀ C D h₁ tk₁, Apart h₀ L C D I (fun _ => True) → (∀ p ∈ news, p.1 < D) → C ∉ fp → D ∉ fp → (∀ b o, s₂.heap.get? b = some o → h₁.get? b = some o) → Held h₀ L m C D I (fun _ => True) h₁ (fun _ => none) [] news →
      codeAny (model prog w) A (.compLoop (.ListComp elt (⟨t1, i1, [], 0⟩ :: rest) scope pos) 0 (.ref I) (.ref D) (compEnvC scope cl C env)) (RR (.ref D) C) { s₂ with heap := h₁, toks := tk₁ }) :
    wpAny (model prog w) A (newList []) (fun acc s₃ => wpAny (model prog w) A (newFunctionEnv scope env.globals cl [] env.qual none .none (some env)) (fun cenv s₄ =>
      codeAny (model prog w) A (.compStart (.ListComp elt (⟨t1, i1, [], 0⟩ :: rest) scope pos) 0 (.ref I) acc { cenv with scope := relabel scope env }) (RR acc cenv.locals) s₄) E s₃) E s₂ := by
  refine wpAny_newObj_type (wpAny_newFunctionEnv hcell (by intro y hy; simp at hy) (fun h₁ hns₁ hsb₁ => ?_) hkind)
  dsimp only at hns₁ hsb₁ ⊢
  generalize hH2 : s₂.heap.push { cls := .type "list", dict := none, data := .seq ([] : List Value).toArray } = H2 at hns₁ hsb₁ ⊢
  have hC : H2.objs.size = s₂.heap.objs.size + 1 := by rw [← hH2, Heap.size_push]
  have hDC : s₂.heap.objs.size ≠ H2.objs.size := by rw [hC]; exact Nat.ne_of_lt (Nat.lt_succ_self _)
  have below : ∀ b, b < s₂.heap.objs.size → b ≠ H2.objs.size ∧ b ≠ s₂.heap.objs.size := fun b hb => ⟨by rw [hC]; exact Nat.ne_of_lt (Nat.lt_succ_of_lt hb), Nat.ne_of_lt hb⟩
  have hDf : s₂.heap.objs.size ∉ fp := fun hm => Nat.lt_irrefl _ (hfp _ hm)
  have hCf : H2.objs.size ∉ fp := fun hm => by have := hfp _ hm; rw [hC] at this; exact Nat.lt_irrefl _ (Nat.lt_of_succ_lt this)
  have old : ∀ b o, s₂.heap.get? b = some o → h₁.get? b = some o := fun b o e => hsb₁.extBut b o (below b (Heap.lt_size e)).1 (Heap.get?_push_of_some _ (hH2 ▸ Heap.get?_push_of_some _ e))
  have hacc : h₁.get? s₂.heap.objs.size = some (LCg.lst []) := hsb₁.extBut _ _ hDC (Heap.get?_push_of_some _ (hH2 ▸ Heap.get?_push_size _ rfl))
  have fresh₀ : ∀ a, s₂.heap.objs.size ≤ a → h₀.get? a = none := fun a ha => by
    cases e : h₀.get? a with
    | none => rfl
    | some o' => exact absurd (Heap.lt_size (F.keep a o' e)) (Nat.not_lt.mpr ha)
  have hLlt : L < s₂.heap.objs.size := F.ns.lt
  have ap : Apart h₀ L H2.objs.size s₂.heap.objs.size I (fun _ => True) := ⟨Ne.symm (below L hLlt).1, Ne.symm (below L hLlt).2, hIL, Ne.symm hDC, Ne.symm (below I hIlt).1, Ne.symm (below I hIlt).2, fresh₀ _ (by rw [hC]; exact Nat.le_succ _), fresh₀ _ (Nat.le_refl _), hI₀, fun _ _ _ _ => trivial⟩
  have H : Held h₀ L m H2.objs.size s₂.heap.objs.size I (fun _ => True) h₁ (fun _ => none) [] news :=
    ⟨F.keeps old, hns₁, fun p hp => ⟨old _ _ (N p hp).1, (N p hp).2⟩, hacc, fun p hp => ⟨(below _ (Heap.lt_size (N p hp).1)).1, (below _ (Heap.lt_size (N p hp).1)).2, off p hp⟩, trivial⟩
  have lp := loop _ _ h₁ (s₂.toks + ([] : List (Str × Value)).length) ap (fun p hp => Heap.lt_size (N p hp).1) hCf hDf old H
  exact codeAny_compStart_list lp (hself _ _ _ old lp)
/-- a source of the first clause, at its iterator -/
def SrcTop (prog : Program) (w : World) (A : Around) (h₀ : Heap) (L : Addr) (m : Str → Option Value) (news : List (Addr × Obj)) (n : Nat) (P : Nat → Value → Prop) (it : Value) (s₂ : Shared) : Prop :=
  ∃ I fp St, it = .ref I ∧ Fr h₀ L s₂.heap m ∧ News h₀ L s₂.heap news ∧ I ≠ L ∧ h₀.get? I = none ∧ (∀ p ∈ news, p.1 ≠ I) ∧ Walks prog w A I fp [I] n P St ∧ St 0 s₂.heap ∧ (∀ i h, St i h → ∀ b ∈ fp, ∃ o, h.get? b = some o) ∧ ∀ i h, St i h → ItOK I h
section
variable {E : Value → Shared → Prop} {news : List (Addr × Obj)}
theorem srcTop_list {ax : Addr} {its : Array Value} (hh : A.handled = none) (F : Fr h₀ L s.heap m) (N : News h₀ L s.heap news) (hl : s.heap.IsList ax its) {Q : Value → Shared → Prop}
    (h : ∀ it h', SrcTop prog w A h₀ L m news its.size (fun i v => its[i]? = some v) it { s with heap := h' } → Q it { s with heap := h' }) : wpAny (model prog w) A (pyIter (.ref ax)) Q E s := by
  have hlt : ax < s.heap.objs.size := by obtain ⟨_, e, _⟩ := id hl; exact Heap.lt_size e
  refine wpAny_pyIter_list hl (h _ _ ?_)
  have up : ∀ b o, s.heap.get? b = some o → (s.heap.push { cls := .type "list_iterator", data := .fields #[.ref ax, .int 0 0] }).get? b = some o := fun b o e => Heap.get?_push_of_some _ e
  refine ⟨_, _, _, rfl, F.keeps up, N.grown up, Ne.symm (Nat.ne_of_lt F.ns.lt), next_is_new F, fun p hp => Nat.ne_of_lt (Heap.lt_size (N p hp).1), Walks.list hh s.heap.objs.size ax (Nat.ne_of_lt hlt) its, ⟨⟨_, Heap.get?_push_size _ rfl, rfl, rfl⟩, hl.push _⟩, ?_, fun i h st => by obtain ⟨o, e, hc, _⟩ := st.1; exact ⟨o, _, e, hc, by decide⟩⟩
  intro i h st b hb
  rcases List.mem_cons.mp hb with rfl | hb
  · obtain ⟨o, e, _⟩ := st.1; exact ⟨o, e⟩
  · rw [List.mem_singleton.mp hb]; obtain ⟨o, e, _⟩ := st.2; exact ⟨o, e⟩
theorem srcTop_str {x : Str} {t : Tok} (hh : A.handled = none) (F : Fr h₀ L s.heap m) (N : News h₀ L s.heap news) {Q : Value → Shared → Prop}
    (h : ∀ it h', SrcTop prog w A h₀ L m news x.cps.size (SignAt x) it { s with heap := h' } → Q it { s with heap := h' }) : wpAny (model prog w) A (pyIter (.str x t)) Q E s := by
  have up : ∀ (ob : Obj) b o, s.heap.get? b = some o → (s.heap.push ob).get? b = some o := fun ob b o e => Heap.get?_push_of_some _ e
  cases ha : x.cps.all (· < 128)
  · refine wpAny_pyIter_wide ha (h _ _ ⟨_, _, _, rfl, F.keeps (up _), N.grown (up _), Ne.symm (Nat.ne_of_lt F.ns.lt), next_is_new F, fun p hp => Nat.ne_of_lt (Heap.lt_size (N p hp).1), Walks.strWide hh _ x t, ⟨_, Heap.get?_push_size _ rfl, rfl, rfl⟩, ?_, fun i h st => by obtain ⟨o, e, hc, _⟩ := st; exact ⟨o, _, e, hc, by decide⟩⟩)
    intro i h st b hb
    rw [List.mem_singleton.mp hb]; obtain ⟨o, e, _⟩ := st; exact ⟨o, e⟩
  · refine wpAny_pyIter_ascii ha (h _ _ ⟨_, _, _, rfl, F.keeps (up _), N.grown (up _), Ne.symm (Nat.ne_of_lt F.ns.lt), next_is_new F, fun p hp => Nat.ne_of_lt (Heap.lt_size (N p hp).1), Walks.strAscii hh _ x t, ⟨_, Heap.get?_push_size _ rfl, rfl, rfl⟩, ?_, fun i h st => by obtain ⟨o, e, hc, _⟩ := st; exact ⟨o, _, e, hc, by decide⟩⟩)
    intro i h st b hb
    rw [List.mem_singleton.mp hb]; obtain ⟨o, e, _⟩ := st; exact ⟨o, e⟩
end
section
variable {E : Value → Shared → Prop} {news : List (Addr × Obj)} {env : Env}
/-- the source, evaluated -/
def SrcAt1 (prog : Program) (w : World) (A : Around) (E : Value → Shared → Prop) (s : Shared) (h₀ : Heap) (L : Addr) (m : Str → Option Value) (news : List (Addr × Obj)) (n : Nat) (P : Nat → Value → Prop) (xv : Value) (s₁ : Shared) : Prop :=
  ∀ Q' : Value → Shared → Prop, (∀ it h' tk', SrcTop prog w A h₀ L m news n P it { s with heap := h', toks := tk' } → Q' it { s with heap := h', toks := tk' }) → wpAny (model prog w) A (pyIter xv) Q' E s₁
theorem held_let {Z : Heap → Prop} {h h' : Heap} {mC : Str → Option Value} {ys : List Value} {nx : List (Addr × Obj)} (H : Held h₀ L m C D I Z h mC ys nx) (a : Apart h₀ L C D I Z) (hs : Heap.SameBut C h h') :
    Fr h₀ L h' m ∧ News h₀ L h' ((D, LCg.lst ys) :: nx) := by
  refine ⟨LCg.fr_but H.fr (fun b o hb e => hs.extBut b o (by simpa using hb) e) (Ne.symm a.cl) a.c0, fun p hp => ?_⟩
  rcases List.mem_cons.mp hp with rfl | hp
  · exact ⟨hs.extBut _ _ (Ne.symm a.cd) H.lst, a.dl, a.d0⟩
  · exact ⟨hs.extBut _ _ (H.sep p hp).1 (H.led p hp).1, (H.led p hp).2⟩
/-- what the comprehension gives, by its loop -/
theorem comp_of {elt t1 i1 : Expr} {rest : List Comprehension} {scope : Scope} {cl : List (Str × Addr)} {pos : Pos} {n : Nat} {P : Nat → Value → Prop} {RR : Value → Addr → Result → Shared → Prop} {it : Value} {h₂ : Heap} {tk₂ : Nat}
    (hcell : ∀ y ∈ scope.names, y.2 ≠ .cell) (hkind : scope.kind = .function) (S : SrcTop prog w A h₀ L m news n P it { s with heap := h₂, toks := tk₂ })
    (loop : ∀ I fp St C D h₁ tk₁, it = .ref I → Walks prog w A I fp [I] n P St → (∀ i h, St i h → ∀ b ∈ fp, ∃ o, h.get? b = some o) → (∀ i h, St i h → ItOK I h) → Apart h₀ L C D I (fun _ => True) → (∀ p ∈ news, p.1 < D) → C ∉ fp → D ∉ fp → St 0 h₁ → Held h₀ L m C D I (fun _ => True) h₁ (fun _ => none) [] news →
      codeAny (model prog w) A (.compLoop (.ListComp elt (⟨t1, i1, [], 0⟩ :: rest) scope pos) 0 (.ref I) (.ref D) (compEnvC scope cl C env)) (RR (.ref D) C) { s with heap := h₁, toks := tk₁ }) :
    wpAny (model prog w) A (newList []) (fun acc s₃ => wpAny (model prog w) A (newFunctionEnv scope env.globals cl [] env.qual none .none (some env)) (fun cenv s₄ =>
      codeAny (model prog w) A (.compStart (.ListComp elt (⟨t1, i1, [], 0⟩ :: rest) scope pos) 0 it acc { cenv with scope := relabel scope env }) (RR acc cenv.locals) s₄) E s₃) E { s with heap := h₂, toks := tk₂ } := by
  obtain ⟨I, fp, St, rfl, F, N, hIL, hI0, hoff, W, hst, hfo, hok⟩ := S
  have hIf : I ∈ fp := W.sub I (List.mem_singleton.mpr rfl)
  refine comp_block (s₂ := { s with heap := h₂, toks := tk₂ }) (fp := fp) hcell hkind (fun b hb => ?_) ?_ F N hIL hI0 hoff ?_ ?_
  · obtain ⟨o, e⟩ := hfo _ _ hst b hb; exact Heap.lt_size e
  · obtain ⟨o, e⟩ := hfo _ _ hst I hIf; exact Heap.lt_size e
  · intro s' Q' E' up hq
    exact W.self 0 s' Q' E' (W.frame _ _ _ hst fun b _ o e => up b o e) hq
  · intro C D h₁ tk₁ ap hlt hC hD up H
    exact loop I fp St C D h₁ tk₁ rfl W hfo hok ap hlt hC hD (W.frame _ _ _ hst fun b _ o e => up b o e) H
end
end
end Mine
end
section
open PySem PySem.W PyProof.Rows PySem.Calls
namespace Mine
section
variable {prog : Program} {w : World} {A : Around} {E : Value → Shared → Prop} {R : Result → Shared → Prop} {s : Shared} {h₀ : Heap} {L : Addr} {m : Str → Option Value} {C D I : Addr} {Z : Heap → Prop} {news : List (Addr × Obj)} {env : Env}
/-- a name of the comprehension's own gets its item -/
theorem asg_name {x : Str} {px : Pos} {scope : Scope} {cl : List (Str × Addr)} {h : Heap} {tk : Nat} {mC : Str → Option Value} {v : Value} {it : Value} {E' : Value → Shared → Prop}
    (hx : scope.names.lookup x = some .local) (hkind : scope.kind = .function) (hn : h.Ns C mC) :
    wpAny (model prog w) A (letOwnedTupleGo (.Name x px) it v >>= fun _ => assign (.Name x px) (compEnvC scope cl C env) v)
      (fun _ s' => ∃ h' tk' mC', s' = { s with heap := h', toks := tk' } ∧ (∀ b o, b ≠ C → h.get? b = some o → h'.get? b = some o) ∧ h'.Ns C mC' ∧ mC' = fun z => if z = x then some v else mC z) E' { s with heap := h, toks := tk } := by
  refine wpAny_bind (wpAny_pure ?_)
  refine wpAny_assign_Name (wpAny_storeName_local (lookup_relabel_local hx) hn (fun h₃ hn₃ hs₃ => ?_) (by simp [compEnvC, relabel, hkind]))
  exact ⟨h₃, _, _, rfl, fun b o hb e => hs₃.extBut b o hb e, hn₃, rfl⟩
/-- the comprehension's ends -/
theorem post_E {Q : Value → Shared → Prop} {h : Heap} {tk : Nat} {mC : Str → Option Value} {ys : List Value} {nx : List (Addr × Obj)} (a : Apart h₀ L C D I Z) (H : Held h₀ L m C D I Z h mC ys nx)
    (k : ∀ h' tk', Fr h₀ L h' m → News h₀ L h' ((D, LCg.lst ys) :: nx) → (∀ p ∈ nx, p.1 ≠ D) → Q (.ref D) { s with heap := h', toks := tk' }) :
    compPost (model prog w) A E none Q (.ref D) C (.ok .next) { s with heap := h, toks := tk } := by
  refine ⟨mC, H.ns, fun h'' hs'' => ?_⟩
  obtain ⟨F', N'⟩ := held_let H a hs''
  exact k h'' tk F' N' fun p hp => (H.sep p hp).2.1
theorem post_A {Q : Flow → Shared → Prop} {y : Str} {py : Pos} {h : Heap} {tk : Nat} {mC : Str → Option Value} {ys : List Value} {nx : List (Addr × Obj)} (hL : env.locals = L) (hy : env.kindOf y = some .local) (hp : (env.scope.kind == .class || (env.scope.kind == .module && env.locals != env.globals)) = false)
    (a : Apart h₀ L C D I Z) (H : Held h₀ L m C D I Z h mC ys nx)
    (k : ∀ h' tk', Fr h₀ L h' (fun z => if z = y then some (.ref D) else m z) → News h₀ L h' ((D, LCg.lst ys) :: nx) → (∀ p ∈ nx, p.1 ≠ D) → Q .next { s with heap := h', toks := tk' }) :
    compPost (model prog w) A E (some (assign (.Name y py) env)) (fun _ s' => Q .next s') (.ref D) C (.ok .next) { s with heap := h, toks := tk } := by
  subst hL
  show wpAny _ A (assign (.Name y py) env (.ref D)) _ _ _
  refine wpAny_assign_Name (wpAny_storeName_local hy H.fr.ns (fun h₂ hn₂ hs₂ => ?_) hp)
  have hL₀ : h₀.get? env.locals = none := Heap.get?_none_of_le H.fr.above
  have F₂ : Fr h₀ env.locals h₂ (fun z => if z = y then some (.ref D) else m z) := ⟨hn₂, fun b o e => hs₂.extBut b o (fun q => by rw [q, hL₀] at e; cases e) (H.fr.keep b o e), H.fr.above⟩
  refine ⟨mC, H.ns.sameBut hs₂ a.cl, fun h'' hs'' => ?_⟩
  refine k h'' _ (F₂.change hs'' a.cl a.c0) (fun p hp => ?_) fun p hp => (H.sep p hp).2.1
  rcases List.mem_cons.mp hp with rfl | hp
  · exact ⟨hs''.extBut _ _ (Ne.symm a.cd) (hs₂.extBut _ _ a.dl H.lst), a.dl, a.d0⟩
  · exact ⟨hs''.extBut _ _ (H.sep p hp).1 (hs₂.extBut _ _ (H.led p hp).2.1 (H.led p hp).1), (H.led p hp).2⟩
/-- the one-clause loop -/
theorem loop_lc1 {elt t1 i1 : Expr} {scope : Scope} {cl : List (Str × Addr)} {pos : Pos} {n : Nat} {P : Nat → Value → Prop} {B : Addr → Value → (Str → Option Value) → Prop} {Rr : Nat → List Value → List (Addr × Obj) → Prop} {RR : Value → Addr → Result → Shared → Prop}
    (hcell : ∀ y ∈ scope.names, y.2 ≠ .cell) (hkind : scope.kind = .function)
    (hlen : ∀ j ys nx, Rr j ys nx → ys.length ≤ 1048576) (h0 : Rr 0 [] news)
    (hasg : ∀ C I j v h tk mC ys nx (E' : Value → Shared → Prop), j < n → P j v → Rr j ys nx → h.Ns C mC → News h₀ L h nx →
      wpAny (model prog w) A (letOwnedTupleGo t1 (.ref I) v >>= fun _ => assign t1 (compEnvC scope cl C env) v) (fun _ s' => ∃ h' tk' mC', s' = { s with heap := h', toks := tk' } ∧ (∀ b o, b ≠ C → h.get? b = some o → h'.get? b = some o) ∧ h'.Ns C mC' ∧ B C v mC') E' { s with heap := h, toks := tk })
    (helt : ∀ C j v h tk mC ys nx (E' : Value → Shared → Prop), j < n → P j v → B C v mC → Rr j ys nx → Fr h₀ L h m → h.Ns C mC → News h₀ L h nx →
      wpAny (model prog w) A (eval elt (compEnvC scope cl C env)) (fun y s' => ∃ h' tk' nx', s' = { s with heap := h', toks := tk' } ∧ (∀ b o, h.get? b = some o → h'.get? b = some o) ∧ News h₀ L h' nx' ∧ (∀ p ∈ nx', p ∈ nx ∨ h.objs.size ≤ p.1) ∧ Rr (j + 1) (ys ++ [y]) nx') E' { s with heap := h, toks := tk })
    (hfin : ∀ C D I Z h tk mC ys nx, Apart h₀ L C D I Z → (∀ p ∈ news, p.1 < D) → Held h₀ L m C D I Z h mC ys nx → Rr n ys nx → RR (.ref D) C (.ok .next) { s with heap := h, toks := tk })
    {it : Value} {h₂ : Heap} {tk₂ : Nat} (S : SrcTop prog w A h₀ L m news n P it { s with heap := h₂, toks := tk₂ }) :
    wpAny (model prog w) A (newList []) (fun acc s₃ => wpAny (model prog w) A (newFunctionEnv scope env.globals cl [] env.qual none .none (some env)) (fun cenv s₄ =>
      codeAny (model prog w) A (.compStart (lc1 elt t1 i1 scope pos) 0 it acc { cenv with scope := relabel scope env }) (RR acc cenv.locals) s₄) E s₃) E { s with heap := h₂, toks := tk₂ } := by
  refine comp_of (rest := []) hcell hkind S ?_
  intro I fp St C D h₁ tk₁ _ W hfo hok ap hlt hC hD hst H
  have hIf : I ∈ fp := W.sub I (List.mem_singleton.mpr rfl)
  refine compLoop_one (I := LastInv s h₀ L m C D I (fun _ => True) n St (fun _ => True) Rr) (turn_last (B := B C) W ap hC hD (fun i h st => hfo i h st I hIf) hlen ?_ ?_ ?_) (n + 1) ⟨0, h₁, tk₁, _, [], news, rfl, Nat.zero_le _, rfl, hst, H, trivial, h0⟩
  · intro j v h tk mC ys nx E' hj hP _ hR hn N _ _
    refine wpAny_mono (hasg C I j v h tk mC ys nx E' hj hP hR hn N) (fun _ s' q => ?_) fun _ _ e => e
    obtain ⟨h', tk', mC', e1, e2, e3, e4⟩ := q
    exact ⟨h', tk', mC', e1, e2, e3, trivial, e4⟩
  · intro j v h tk mC ys nx E' hj hP _ hB hR F hn N _
    exact helt C j v h tk mC ys nx E' hj hP hB hR F hn N
  · intro h tk mC ys nx H _ hR
    exact hfin C D I _ h tk mC ys nx ap hlt H hR
/-- the two-clause loop -/
theorem loop_lc2 {elt t1 i1 t2 i2 : Expr} {scope : Scope} {cl : List (Str × Addr)} {pos : Pos} {n n2 : Nat} {P P2 : Nat → Value → Prop} {B1 : Addr → Value → (Str → Option Value) → Prop} {B2 : Addr → Value → (Str → Option Value) → Prop} {Rr : Nat → Nat → List Value → List (Addr × Obj) → Prop} {RR : Value → Addr → Result → Shared → Prop}
    (hcell : ∀ y ∈ scope.names, y.2 ≠ .cell) (hkind : scope.kind = .function) (hs2 : ∀ C x, foldedSetIterable i2 (compEnvC scope cl C env) x = pure x)
    (hlen : ∀ i j ys nx, Rr i j ys nx → ys.length ≤ 1048576) (hnext : ∀ i ys nx, Rr i n2 ys nx → Rr (i + 1) 0 ys nx) (h0 : Rr 0 0 [] news)
    (hasg1 : ∀ C I i v h tk mC ys nx (E' : Value → Shared → Prop), i < n → P i v → Rr i 0 ys nx → h.Ns C mC → News h₀ L h nx → ItOK I h →
      wpAny (model prog w) A (letOwnedTupleGo t1 (.ref I) v >>= fun _ => assign t1 (compEnvC scope cl C env) v) (fun _ s' => ∃ h' tk' mC', s' = { s with heap := h', toks := tk' } ∧ (∀ b o, b ≠ C → h.get? b = some o → h'.get? b = some o) ∧ h'.Ns C mC' ∧ B1 C v mC') E' { s with heap := h, toks := tk })
    (hsrc : ∀ C D I i v h tk mC ys nx (E' : Value → Shared → Prop), i < n → P i v → B1 C v mC → Rr i 0 ys nx → Fr h₀ L h m → h.Ns C mC → News h₀ L h nx → (∃ o, h.get? D = some o) → (∀ p ∈ nx, p.1 ≠ C ∧ p.1 ≠ D) →
      wpAny (model prog w) A (eval i2 (compEnvC scope cl C env)) (fun x s₃ => ∃ h₃ tk₃, s₃ = { s with heap := h₃, toks := tk₃ } ∧ (∀ b o, h.get? b = some o → h₃.get? b = some o) ∧ ∀ E'' : Value → Shared → Prop, wpAny (model prog w) A (pyIter x) (SrcIn prog w A s C D I n2 P2 h₃) E'' s₃) E' { s with heap := h, toks := tk })
    (hasg2 : ∀ C i v1 I2 j v h tk mC ys nx (E' : Value → Shared → Prop), i < n → P i v1 → j < n2 → P2 j v → B1 C v1 mC → Rr i j ys nx → h.Ns C mC → News h₀ L h nx → ItOK I2 h →
      wpAny (model prog w) A (letOwnedTupleGo t2 (.ref I2) v >>= fun _ => assign t2 (compEnvC scope cl C env) v) (fun _ s' => ∃ h' tk' mC', s' = { s with heap := h', toks := tk' } ∧ (∀ b o, b ≠ C → h.get? b = some o → h'.get? b = some o) ∧ h'.Ns C mC' ∧ B1 C v1 mC' ∧ B2 C v mC') E' { s with heap := h, toks := tk })
    (helt : ∀ C i v1 j v h tk mC ys nx (E' : Value → Shared → Prop), i < n → P i v1 → j < n2 → P2 j v → B1 C v1 mC → B2 C v mC → Rr i j ys nx → Fr h₀ L h m → h.Ns C mC → News h₀ L h nx →
      wpAny (model prog w) A (eval elt (compEnvC scope cl C env)) (fun y s' => ∃ h' tk' nx', s' = { s with heap := h', toks := tk' } ∧ (∀ b o, h.get? b = some o → h'.get? b = some o) ∧ News h₀ L h' nx' ∧ (∀ p ∈ nx', p ∈ nx ∨ h.objs.size ≤ p.1) ∧ Rr i (j + 1) (ys ++ [y]) nx') E' { s with heap := h, toks := tk })
    (hfin : ∀ C D I Z h tk mC ys nx, Apart h₀ L C D I Z → (∀ p ∈ news, p.1 < D) → Held h₀ L m C D I Z h mC ys nx → Rr n 0 ys nx → RR (.ref D) C (.ok .next) { s with heap := h, toks := tk })
    {it : Value} {h₂ : Heap} {tk₂ : Nat} (S : SrcTop prog w A h₀ L m news n P it { s with heap := h₂, toks := tk₂ }) :
    wpAny (model prog w) A (newList []) (fun acc s₃ => wpAny (model prog w) A (newFunctionEnv scope env.globals cl [] env.qual none .none (some env)) (fun cenv s₄ =>
      codeAny (model prog w) A (.compStart (lc2 elt t1 i1 t2 i2 scope pos) 0 it acc { cenv with scope := relabel scope env }) (RR acc cenv.locals) s₄) E s₃) E { s with heap := h₂, toks := tk₂ } := by
  refine comp_of (rest := [⟨t2, i2, [], 0⟩]) hcell hkind S ?_
  intro I fp St C D h₁ tk₁ _ W hfo hok ap hlt hC hD hst H
  refine compLoop_out (I := OutInv s h₀ L m C D I n St Rr) (hs2 C) (turn_out (P2 := P2) (B1 := B1 C) (B2 := B2 C) W ap hC hD hfo hlen hnext ?_ ?_ ?_ ?_ ?_) (n + 1) ⟨0, h₁, tk₁, _, [], news, rfl, Nat.zero_le _, rfl, hst, H, h0⟩
  · intro i v h tk mC ys nx E' hi hP hR hn N st
    exact hasg1 C I i v h tk mC ys nx E' hi hP hR hn N (hok _ _ st)
  · intro i v h tk mC ys nx E' hi hP hB hR F hn N hD' hsp
    exact hsrc C D I i v h tk mC ys nx E' hi hP hB hR F hn N hD' hsp
  · intro i v1 I2 j v h tk mC ys nx E' hi hP hj hP2 hB hR hn N st
    exact hasg2 C i v1 I2 j v h tk mC ys nx E' hi hP hj hP2 hB hR hn N st
  · intro i v1 j v h tk mC ys nx E' hi hP hj hP2 hB hB2 hR F hn N
    exact helt C i v1 j v h tk mC ys nx E' hi hP hj hP2 hB hB2 hR F hn N
  · intro h tk mC ys nx H hR
    exact hfin C D I _ h tk mC ys nx ap hlt H hR
/-- as a value, as an assignment -/
theorem eval_comp {elt t1 i1 : Expr} {rest : List Comprehension} {scope : Scope} {cl : List (Str × Addr)} {pos : Pos} {n : Nat} {P : Nat → Value → Prop} {Q : Value → Shared → Prop}
    (hclos : closureFor scope env = pure cl) (hkind : scope.kind = .function) (hnames : ∀ y ∈ scope.names, y.2 = .local → scope.names.lookup y.1 = some .local)
    (hs : ∀ x, foldedSetIterable i1 env x = pure x)
    (hsrc : wpAny (model prog w) A (eval i1 env) (SrcAt1 prog w A E s h₀ L m news n P) E s)
    (loop : ∀ it h₂ tk₂, SrcTop prog w A h₀ L m news n P it { s with heap := h₂, toks := tk₂ } →
      wpAny (model prog w) A (newList []) (fun acc s₃ => wpAny (model prog w) A (newFunctionEnv scope env.globals cl [] env.qual none .none (some env)) (fun cenv s₄ =>
        codeAny (model prog w) A (.compStart (.ListComp elt (⟨t1, i1, [], 0⟩ :: rest) scope pos) 0 it acc { cenv with scope := relabel scope env }) (compPost (model prog w) A E none Q acc cenv.locals) s₄) E s₃) E { s with heap := h₂, toks := tk₂ }) :
    wpAny (model prog w) A (eval (.ListComp elt (⟨t1, i1, [], 0⟩ :: rest) scope pos) env) Q E s := by
  rw [eval_ListComp]
  refine wpAny_comprehension_free (use := none) rfl hs hclos hkind hnames (wpAny_mono hsrc (fun xv s₁ h₁ => h₁ _ fun it h' tk' S => ?_) fun _ _ e => e)
  exact loop it h' tk' S
theorem exec_comp {elt t1 i1 : Expr} {rest : List Comprehension} {scope : Scope} {cl : List (Str × Addr)} {pos spos : Pos} {y : Str} {py : Pos} {n : Nat} {P : Nat → Value → Prop} {Q : Flow → Shared → Prop}
    (hsw : swapsWith (.ListComp elt (⟨t1, i1, [], 0⟩ :: rest) scope pos) (some (.Name y py)) spos.line env = pure true)
    (hclos : closureFor scope env = pure cl) (hkind : scope.kind = .function) (hnames : ∀ y ∈ scope.names, y.2 = .local → scope.names.lookup y.1 = some .local)
    (hs : ∀ x, foldedSetIterable i1 env x = pure x)
    (hsrc : wpAny (model prog w) A (eval i1 env) (SrcAt1 prog w A E s h₀ L m news n P) E s)
    (loop : ∀ it h₂ tk₂, SrcTop prog w A h₀ L m news n P it { s with heap := h₂, toks := tk₂ } →
      wpAny (model prog w) A (newList []) (fun acc s₃ => wpAny (model prog w) A (newFunctionEnv scope env.globals cl [] env.qual none .none (some env)) (fun cenv s₄ =>
        codeAny (model prog w) A (.compStart (.ListComp elt (⟨t1, i1, [], 0⟩ :: rest) scope pos) 0 it acc { cenv with scope := relabel scope env }) (compPost (model prog w) A E (some (assign (.Name y py) env)) (fun _ s' => Q .next s') acc cenv.locals) s₄) E s₃) E { s with heap := h₂, toks := tk₂ }) :
    wpAny (model prog w) A (exec (.Assign [.Name y py] (.ListComp elt (⟨t1, i1, [], 0⟩ :: rest) scope pos) spos) env) Q E s := by
  rw [exec_Assign_Name_used _ _ _ _ hsw]
  refine wpAny_bind (wpAny_standAt (wpAny_bind ?_))
  show wpAny _ A (do let _ ← comprehension (.ListComp elt (⟨t1, i1, [], 0⟩ :: rest) scope pos) scope env _ (newList []) false (eval i1 env) (some (assign (.Name y py) env))) _ _ s
  refine wpAny_bind (wpAny_mono (wpAny_comprehension_free (use := some (assign (.Name y py) env)) (Q := fun _ s' => Q .next s') rfl hs hclos hkind hnames
    (wpAny_mono hsrc (fun xv s₁ h₁ => h₁ _ fun it h' tk' S => ?_) fun _ _ e => e)) (fun _ s' hq => wpAny_pure (wpAny_pure hq)) fun _ _ e => e)
  exact loop it h' tk' S
end
/-! a loop over a range, with lists of the call's own that a turn makes anew -/
def REnd {σ : Type} (h₀ : Heap) (L : Addr) (news own : List (Addr × Obj)) (x : Str) (ps : σ → List (Str × Value)) (obs : σ → List (Addr × Obj)) (stored : List Str) (m₀ : Str → Option Value) (P : σ → Prop) (s : Shared) (s₂ : Shared) : Prop :=
  ∃ (c : σ) (h' : Heap) (tk : Nat) (m' : Str → Option Value) (news' : List (Addr × Obj)), s₂ = { s with heap := h', toks := tk } ∧ Fr h₀ L h' m' ∧ News h₀ L h' news' ∧ (∀ p ∈ obs c ++ news ++ own, p ∈ news') ∧ TbOff own (obs c ++ news) ∧
    (∀ p ∈ ps c, m' p.1 = some p.2) ∧ (∀ z, z ≠ x → (∀ p ∈ ps c, z ≠ p.1) → stored.contains z = false → m' z = m₀ z) ∧ P c
def RPost {σ : Type} (h₀ : Heap) (L : Addr) (news own : List (Addr × Obj)) (x : Str) (ps : σ → List (Str × Value)) (obs : σ → List (Addr × Obj)) (stored : List Str) (m₀ : Str → Option Value) (P : σ → Prop) (s : Shared) (Q : Flow → Shared → Prop) (f : Flow) (s₂ : Shared) : Prop :=
  match f with
  | .ret v => Q (.ret v) s₂
  | .brk => Q .next s₂
  | _ => REnd h₀ L news own x ps obs stored m₀ P s s₂
theorem rEnd {σ : Type} {h₀ : Heap} {L : Addr} {news own : List (Addr × Obj)} {x : Str} {ps : σ → List (Str × Value)} {obs : σ → List (Addr × Obj)} {stored : List Str} {m₀ : Str → Option Value} {P : σ → Prop} {s : Shared} (c : σ) {h' : Heap} {tk : Nat} {m' : Str → Option Value} {news' : List (Addr × Obj)}
    (F : Fr h₀ L h' m') (N : News h₀ L h' news') (hn : ∀ p ∈ obs c ++ news ++ own, p ∈ news') (ho : TbOff own (obs c ++ news)) (hk : ∀ p ∈ ps c, m' p.1 = some p.2) (hr : ∀ z, z ≠ x → (∀ p ∈ ps c, z ≠ p.1) → stored.contains z = false → m' z = m₀ z) (hp : P c) :
    REnd h₀ L news own x ps obs stored m₀ P s { s with heap := h', toks := tk } := ⟨c, h', tk, m', news', rfl, F, N, hn, ho, hk, hr, hp⟩
section
variable {prog : Program} {w : World} {A : Around} {E : Value → Shared → Prop} {s : Shared} {env : Env} {h₀ : Heap} {x : Str} {body : List Stmt} {Q : Flow → Shared → Prop} {m₀ : Str → Option Value} {news : List (Addr × Obj)}
theorem loopR {σ : Type} {r : Addr} {a₀ b₀ : Int} {t₀ u₀ v₀ : Tok} {n : Nat} (ps : σ → List (Str × Value)) (obs : σ → List (Addr × Obj)) (stored : List Str) (P : Nat → σ → Prop) (c₀ : σ)
    (hh : A.handled = none) (hr : IsRange s.heap r a₀ b₀ 1 t₀ u₀ v₀) (hsmall : Builtin.Range.small a₀ b₀ 1 = true) (hn : Builtin.Range.rangeSize a₀ b₀ 1 = (n : Int)) (F : Fr h₀ env.locals s.heap m₀) (N : News h₀ env.locals s.heap (obs c₀ ++ news)) (hk : ∀ p ∈ ps c₀, m₀ p.1 = some p.2) (hp : P 0 c₀)
    (turn : ∀ (c : σ) (i : Nat) t (u : Str → Option Value) h tk own, i < n → TbOff own (obs c ++ news) → P i c →
      Fr h₀ env.locals h (fun y => if y = x then some (.int (a₀ + (i : Int)) t) else kstB (fun z => if stored.contains z then u z else m₀ z) (ps c) y) → News h₀ env.locals h (obs c ++ news ++ own) →
      wpAny (model prog w) A (execs body env) (RPost h₀ env.locals news own x ps obs stored m₀ (P (i + 1)) { s with heap := h, toks := tk } Q) E { s with heap := h, toks := tk })
    (done : ∀ (c : σ) (u : Str → Option Value) h tk, P n c → Fr h₀ env.locals h (fun y => if y = x then u y else kstB (fun z => if stored.contains z then u z else m₀ z) (ps c) y) → News h₀ env.locals h (obs c ++ news) → Q .next { s with heap := h, toks := tk }) :
    wpAny (model prog w) A (pyIter (.ref r)) (fun it s₂ => LoopAtV prog w A h₀ env x body Q E it s₂) E s := by
  refine tbr_invG (fun i m nx => ∃ c : σ, nx = obs c ++ news ∧ (∀ p ∈ ps c, m p.1 = some p.2) ∧ (∀ z, z ≠ x → (∀ p ∈ ps c, z ≠ p.1) → stored.contains z = false → m z = m₀ z) ∧ P i c) hh hr hsmall hn F N ⟨c₀, rfl, hk, fun _ _ _ _ => rfl, hp⟩ ?_ ?_
  · rintro i k t m₁ nx h tk own hik hoff ⟨c, rfl, h1, h2, hp'⟩ F₁ N₁
    have hi : i < n := by
      rcases Nat.lt_or_ge i n with q | q
      · exact q
      · rw [List.getElem?_eq_none (by rw [rangeKs_length]; exact q)] at hik; cases hik
    have hk' : k = a₀ + (i : Int) := by
      have : (rangeKs a₀ n)[i]? = some (a₀ + (i : Int)) := by simp [rangeKs, hi]
      rw [this] at hik; exact (Option.some.inj hik).symm
    subst hk'
    refine wpAny_mono (turn c i t m₁ h tk own hi hoff hp' (loopV.kst_fr' h1 h2 F₁) N₁) (fun f s₂ p => ?_) fun _ _ e => e
    have up : REnd h₀ env.locals news own x ps obs stored m₀ (P (i + 1)) { s with heap := h, toks := tk } s₂ → TbEnd h₀ env.locals (fun m' nx' => ∃ c : σ, nx' = obs c ++ news ∧ (∀ p ∈ ps c, m' p.1 = some p.2) ∧ (∀ z, z ≠ x → (∀ p ∈ ps c, z ≠ p.1) → stored.contains z = false → m' z = m₀ z) ∧ P (i + 1) c) own { s with heap := h, toks := tk } s₂ := by
      rintro ⟨c', h', tk', m', news', rfl, F', N', hn, ho, hk', hr', hP'⟩
      exact ⟨h', tk', m', news', obs c' ++ news, rfl, F', N', fun p hp => hn p (List.mem_append.mpr (.inl hp)), fun p hp => hn p (List.mem_append.mpr (.inr hp)), ho, c', rfl, hk', hr', hP'⟩
    cases f with
    | ret v => exact p
    | brk => exact p
    | next => exact up p
    | cont => exact up p
  · rintro m₁ nx h tk ⟨c, rfl, h1, h2, hp'⟩ F₁ N₁
    exact done c m₁ h tk hp' (kst_frOut h1 h2 F₁) N₁
end
theorem rKeep {D l : Addr} {o o' : Obj} {news own : List (Addr × Obj)} : ∀ p ∈ [(D, o')] ++ news ++ own, p ∈ (D, o') :: (([(l, o)] ++ news) ++ own) := by
  intro p hp
  simp only [List.mem_append, List.mem_cons, List.not_mem_nil, or_false] at hp ⊢
  rcases hp with (hp | hp) | hp
  · exact .inl hp
  · exact .inr (.inl (.inr hp))
  · exact .inr (.inr hp)
theorem rOff {D l : Addr} {o o' : Obj} {news own : List (Addr × Obj)} (h : TbOff own ([(l, o)] ++ news)) (l2 : ∀ p ∈ ([(l, o)] ++ news) ++ own, p.1 < D) : TbOff own ([(D, o')] ++ news) := by
  intro p hp q hq
  rcases List.mem_append.mp hq with hq | hq
  · rw [List.mem_singleton.mp hq]
    exact Nat.ne_of_lt (l2 p (List.mem_append_right _ hp))
  · exact h p hp q (List.mem_append_right _ hq)
end Mine
end
section
open PySem PySem.W PyProof.Rows PySem.Calls
namespace Mine
/-- the signs of a text -/
def signsOf (x : Str) : List Str := x.cps.toList.map fun c => (⟨#[c]⟩ : Str)
theorem signsOf_length (x : Str) : (signsOf x).length = x.cps.size := by simp [signsOf]
theorem signAt_of {x : Str} {j : Nat} {v : Value} (h : SignAt x j v) : ∃ y t, (signsOf x)[j]? = some y ∧ v = .str y t := by
  obtain ⟨c, u, h1, h2⟩ := h
  exact ⟨⟨#[c]⟩, u, by simp [signsOf, h1], h2⟩
theorem strs_snoc {y : Str} {t : Tok} {vs : List Value} {ys : List Str} (h : StrsAre vs ys) : StrsAre (vs ++ [.str y t]) (ys ++ [y]) := by
  induction h with
  | nil => exact .cons y t .nil
  | cons z u _ r => exact .cons z u r
theorem strs_at {vs : List Value} {ys : List Str} (h : StrsAre vs ys) : ∀ {i : Nat} {v : Value}, vs[i]? = some v → ∃ y t, ys[i]? = some y ∧ v = .str y t := by
  induction h with
  | nil => intro i v e; simp at e
  | cons y t _ ih =>
    intro i v e
    cases i with
    | zero => simp at e; exact ⟨y, t, rfl, e.symm⟩
    | succ i => simpa using ih (by simpa using e)
theorem strs_len {vs : List Value} {ys : List Str} (h : StrsAre vs ys) : vs.length = ys.length := by
  induction h with
  | nil => rfl
  | cons y t _ ih => simp [ih]
/-- the rows of a two-clause comprehension, as far as it has come -/
def soFar {α β : Type} (g : α → List β) (xs : List α) (i j : Nat) : List β := (xs.take i).flatMap g ++ (xs[i]?.toList.flatMap g).take j
theorem soFar_zero {α β : Type} (g : α → List β) (xs : List α) : soFar g xs 0 0 = [] := by simp [soFar]
theorem soFar_le {α β : Type} (g : α → List β) (xs : List α) (i j : Nat) : (soFar g xs i j).length ≤ (xs.flatMap g).length := by
  have e : xs = xs.take i ++ (xs[i]?.toList ++ xs.drop (i + 1)) := by
    rw [← List.append_assoc, ← List.take_add_one, List.take_append_drop]
  have h2 : (xs.flatMap g).length = ((xs.take i).flatMap g).length + ((xs[i]?.toList.flatMap g).length + ((xs.drop (i + 1)).flatMap g).length) := by
    conv => lhs; rw [e]
    rw [List.flatMap_append, List.flatMap_append, List.length_append, List.length_append]
  unfold soFar
  rw [List.length_append, List.length_take, h2]
  omega
theorem soFar_next {α β : Type} (g : α → List β) (xs : List α) (i n2 : Nat) (hg : ∀ a, (g a).length = n2) : soFar g xs i n2 = soFar g xs (i + 1) 0 := by
  unfold soFar
  rw [List.take_zero, List.append_nil, List.take_add_one, List.flatMap_append]
  congr 1
  apply List.take_of_length_le
  cases xs[i]? with
  | none => simp
  | some a => simp [hg]
theorem soFar_all {α β : Type} (g : α → List β) (xs : List α) : soFar g xs xs.length 0 = xs.flatMap g := by simp [soFar]
theorem soFar_snoc {α β : Type} {g : α → List β} {xs : List α} {i j : Nat} {a : α} {b : β} (ha : xs[i]? = some a) (hb : (g a)[j]? = some b) : soFar g xs i (j + 1) = soFar g xs i j ++ [b] := by
  unfold soFar
  rw [ha]
  simp only [Option.toList_some, List.flatMap_cons, List.flatMap_nil, List.append_nil]
  rw [List.take_add_one, hb]
  simp
section
variable {prog : Program} {w : World} {A : Around} {E : Value → Shared → Prop} {s : Shared} {h₀ : Heap} {L : Addr} {m : Str → Option Value} {C D I : Addr} {news : List (Addr × Obj)} {env : Env}
theorem srcIn_str {x : Str} {t : Tok} {I1 : Addr} (hh : A.handled = none) {h₃ : Heap} {tk₃ : Nat} (hC : C < h₃.objs.size) (hD : D < h₃.objs.size) :
    wpAny (model prog w) A (pyIter (.str x t)) (SrcIn prog w A s C D I1 x.cps.size (SignAt x) h₃) E { s with heap := h₃, toks := tk₃ } := by
  have up : ∀ (ob : Obj) b o, h₃.get? b = some o → (h₃.push ob).get? b = some o := fun ob b o e => Heap.get?_push_of_some _ e
  cases ha : x.cps.all (· < 128)
  · exact wpAny_pyIter_wide ha ⟨_, _, _, _, _, rfl, rfl, up _, Nat.le_refl _, fun i h st => by obtain ⟨o, e, hc, _⟩ := st; exact ⟨o, _, e, hc, by decide⟩, Walks.strWide hh _ x t, ⟨_, Heap.get?_push_size _ rfl, rfl, rfl⟩, fun q => Nat.lt_irrefl _ ((List.mem_singleton.mp q) ▸ hC), fun q => Nat.lt_irrefl _ ((List.mem_singleton.mp q) ▸ hD)⟩
  · exact wpAny_pyIter_ascii ha ⟨_, _, _, _, _, rfl, rfl, up _, Nat.le_refl _, fun i h st => by obtain ⟨o, e, hc, _⟩ := st; exact ⟨o, _, e, hc, by decide⟩, Walks.strAscii hh _ x t, ⟨_, Heap.get?_push_size _ rfl, rfl, rfl⟩, fun q => Nat.lt_irrefl _ ((List.mem_singleton.mp q) ▸ hC), fun q => Nat.lt_irrefl _ ((List.mem_singleton.mp q) ▸ hD)⟩
theorem own_name {scope : Scope} {cl : List (Str × Addr)} {x : Str} {pos : Pos} {v : Value} {mC : Str → Option Value} {Q : Value → Shared → Prop} (hx : scope.names.lookup x = some .local) (hkind : scope.kind = .function) (hd : (x == ("__debug__" : Str)) = false)
    (hn : s.heap.Ns C mC) (hv : mC x = some v) (h : Q v s) : wpAny (model prog w) A (eval (.Name x pos) (compEnvC scope cl C env)) Q E s :=
  ldVarK hn hv h (by simp [compEnvC, relabel, hkind]) (lookup_relabel_local hx) hd
theorem cell_name {scope : Scope} {cl : List (Str × Addr)} {x : Str} {pos : Pos} {v : Value} {c : Addr} {o : Obj} {Q : Value → Shared → Prop} (hk : (compEnvC scope cl C env).kindOf x = some .cell) (hkind : scope.kind = .function) (hd : (x == ("__debug__" : Str)) = false)
    (N : News h₀ L s.heap news) (hc : cl.lookup x = some c) (hm : (c, o) ∈ news) (ho : o.data = .cell (some v)) (h : Q v s) : wpAny (model prog w) A (eval (.Name x pos) (compEnvC scope cl C env)) Q E s :=
  lcf_cell N hc hm ho h (by simp [compEnvC, relabel, hkind]) hk hd
/-- a made list, named -/
theorem src_made {ax : Addr} {vs : List Value} {nn : Nat} {i1 : Expr} (hh : A.handled = none) (F : Fr h₀ L s.heap m) (N : News h₀ L s.heap news) (hm : (ax, W.listOf vs.toArray nn) ∈ news)
    (h : ∀ Q : Value → Shared → Prop, Q (.ref ax) s → wpAny (model prog w) A (eval i1 env) Q E s) :
    wpAny (model prog w) A (eval i1 env) (SrcAt1 prog w A E s h₀ L m news vs.length (fun i v => vs[i]? = some v)) E s := by
  refine h _ fun Q' hQ => ?_
  have hl := News.isList N hm
  refine srcTop_list hh F N hl fun it h' S => ?_
  have e : vs.toArray.size = vs.length := by simp
  rw [e] at S
  have e2 : (fun (i : Nat) (v : Value) => vs.toArray[i]? = some v) = fun i v => vs[i]? = some v := by funext i v; simp
  rw [e2] at S
  exact hQ it h' s.toks S
theorem exec_texts {x1 x2 z y : Str} {pa pb pe p1 p2 pz py : Pos} {i1 : Expr} {scope : Scope} {cl : List (Str × Addr)} {pos spos : Pos} {Q : Flow → Shared → Prop} {vs : List Value} {xs : List Str} {sg : Str} {tsg : Tok} {c : Addr} {o : Obj}
    (F : Fr h₀ L s.heap m) (N : News h₀ L s.heap news)
    (hsw : swapsWith (.ListComp (.BinOp (.Name x1 pa) .Add (.Name x2 pb) pe) [⟨.Name x1 p1, i1, [], 0⟩, ⟨.Name x2 p2, .Name z pz, [], 0⟩] scope pos) (some (.Name y py)) spos.line env = pure true)
    (hclos : closureFor scope env = pure cl) (hcell : ∀ y ∈ scope.names, y.2 ≠ .cell) (hkind : scope.kind = .function) (hnames : ∀ y ∈ scope.names, y.2 = .local → scope.names.lookup y.1 = some .local)
    (hx1 : scope.names.lookup x1 = some .local) (hx2 : scope.names.lookup x2 = some .local) (hne : x1 ≠ x2) (hd1 : (x1 == ("__debug__" : Str)) = false) (hd2 : (x2 == ("__debug__" : Str)) = false) (hdz : (z == ("__debug__" : Str)) = false)
    (hkz : ∀ C, (compEnvC scope cl C env).kindOf z = some .cell) (hcz : cl.lookup z = some c) (hmz : (c, o) ∈ news) (hoz : o.data = .cell (some (.str sg tsg)))
    (hs : ∀ x, foldedSetIterable i1 env x = pure x) (hs2 : ∀ C x, foldedSetIterable (.Name z pz) (compEnvC scope cl C env) x = pure x)
    (hL : env.locals = L) (hy : env.kindOf y = some .local) (hp : (env.scope.kind == .class || (env.scope.kind == .module && env.locals != env.globals)) = false)
    (hh : A.handled = none)
    (hsrc : wpAny (model prog w) A (eval i1 env) (SrcAt1 prog w A E s h₀ L m news vs.length (fun i v => vs[i]? = some v)) E s) (hvs : StrsAre vs xs) (hxl : ∀ a ∈ xs, a.length ≤ 100)
    (hbig : (xs.flatMap fun a => (signsOf sg).map (a ++ ·)).length ≤ 1000000)
    (k : ∀ ys D h' tk', StrsAre ys (xs.flatMap fun a => (signsOf sg).map (a ++ ·)) → Fr h₀ L h' (fun z => if z = y then some (.ref D) else m z) → News h₀ L h' ((D, LCg.lst ys) :: news) → (∀ p ∈ news, p.1 < D) → Q .next { s with heap := h', toks := tk' }) :
    wpAny (model prog w) A (exec (.Assign [.Name y py] (.ListComp (.BinOp (.Name x1 pa) .Add (.Name x2 pb) pe) [⟨.Name x1 p1, i1, [], 0⟩, ⟨.Name x2 p2, .Name z pz, [], 0⟩] scope pos) spos) env) Q E s := by
  clear F N
  have hg : ∀ a : Str, ((signsOf sg).map (a ++ ·)).length = sg.cps.size := fun a => by rw [List.length_map, signsOf_length]
  refine exec_comp (P := fun i v => vs[i]? = some v) hsw hclos hkind hnames hs hsrc fun it h₂ tk₂ S => ?_
  refine loop_lc2 (n2 := sg.cps.size) (P2 := SignAt sg) (P := fun i v => vs[i]? = some v) (B1 := fun C v mC => mC x1 = some v) (B2 := fun C v mC => mC x2 = some v)
    (Rr := fun i j ys nx => nx = news ∧ StrsAre ys (soFar (fun a => (signsOf sg).map (a ++ ·)) xs i j)) hcell hkind hs2 ?_ ?_ ?_ ?_ ?_ ?_ ?_ ?_ S
  · rintro i j ys nx ⟨_, h⟩
    have := soFar_le (fun a => (signsOf sg).map (a ++ ·)) xs i j
    rw [strs_len h]
    omega
  · rintro i ys nx ⟨e, h⟩
    exact ⟨e, soFar_next _ xs i _ hg ▸ h⟩
  · exact ⟨rfl, by rw [soFar_zero]; exact .nil⟩
  · intro C I i v h tk mC ys nx E' hi hP hR hn N _
    refine wpAny_mono (asg_name hx1 hkind hn) (fun _ s' q => ?_) fun _ _ e => e
    obtain ⟨h', tk', mC', e1, e2, e3, e4⟩ := q
    exact ⟨h', tk', mC', e1, e2, e3, by rw [e4]; exact if_pos rfl⟩
  · intro C D I i v h tk mC ys nx E' hi hP hB hR F hn N hD _
    obtain ⟨rfl, _⟩ := hR
    refine cell_name (hkz C) hkind hdz N hcz hmz hoz ⟨h, tk, rfl, fun _ _ e => e, fun E'' => ?_⟩
    obtain ⟨oD, eD⟩ := hD
    exact srcIn_str hh hn.lt (Heap.lt_size eD)
  · intro C i v1 I2 j v h tk mC ys nx E' hi hP hj hP2 hB hR hn N _
    refine wpAny_mono (asg_name hx2 hkind hn) (fun _ s' q => ?_) fun _ _ e => e
    obtain ⟨h', tk', mC', e1, e2, e3, e4⟩ := q
    exact ⟨h', tk', mC', e1, e2, e3, by rw [e4]; exact (if_neg hne).trans hB, by rw [e4]; exact if_pos rfl⟩
  · intro C i v1 j v h tk mC ys nx E' hi hP hj hP2 hB1 hB2 hR F hn N
    obtain ⟨e, hR⟩ := hR
    obtain ⟨a, ta, ha, rfl⟩ := strs_at hvs hP
    obtain ⟨b, tb, hb, rfl⟩ := signAt_of hP2
    have hal := hxl a (List.mem_of_getElem? ha)
    have hbl : b.length = 1 := by
      have := List.mem_of_getElem? hb
      unfold signsOf at this
      obtain ⟨c, _, rfl⟩ := List.mem_map.mp this
      rfl
    refine wpAny_BinOp (own_name hx1 hkind hd1 hn hB1 (own_name hx2 hkind hd2 hn hB2 (add_str (fun t' tk' => ?_) (by rw [sizeLine_eq]; omega))))
    refine ⟨h, tk', nx, rfl, fun _ _ e => e, N, fun p hp => .inl hp, e, ?_⟩
    rw [soFar_snoc ha (by rw [List.getElem?_map, hb]; rfl)]
    exact strs_snoc hR
  · intro C D I Z h tk mC ys nx ap hlt H hR
    obtain ⟨rfl, hR⟩ := hR
    refine post_A hL hy hp ap H fun h' tk' F' N' o' => ?_
    refine k ys D h' tk' ?_ F' N' hlt
    rw [strs_len hvs, soFar_all] at hR
    exact hR
end
def textsF (sg : Str) : Nat → List Str
  | 0 => [Str.empty]
  | k + 1 => (textsF sg k).flatMap fun a => (signsOf sg).map (a ++ ·)
theorem str_append_len (a b : Str) : (a ++ b).length = a.length + b.length := by
  show (a.cps ++ b.cps).size = _
  simp [Str.length]
theorem textsF_len (sg : Str) : ∀ k, ∀ a ∈ textsF sg k, a.length = k
  | 0 => fun a h => by rw [List.mem_singleton.mp h]; rfl
  | k + 1 => fun a h => by
    obtain ⟨b, hb, h⟩ := List.mem_flatMap.mp h
    obtain ⟨c, hc, rfl⟩ := List.mem_map.mp h
    obtain ⟨d, _, rfl⟩ := List.mem_map.mp hc
    rw [str_append_len, textsF_len sg k b hb]
    rfl
theorem flatMap_len {α β : Type} (g : α → List β) (n : Nat) (hg : ∀ a, (g a).length = n) : ∀ xs : List α, (xs.flatMap g).length = xs.length * n
  | [] => by simp
  | a :: r => by rw [List.flatMap_cons, List.length_append, hg, flatMap_len g n hg r, List.length_cons, Nat.add_mul]; omega
theorem textsF_count (sg : Str) : ∀ k, (textsF sg k).length = sg.length ^ k
  | 0 => rfl
  | k + 1 => by rw [textsF, flatMap_len _ sg.length (fun a => by rw [List.length_map, signsOf_length]; rfl), textsF_count sg k, Nat.pow_succ]
theorem texts_room {sg : Str} {k : Nat} (hs : sg.length ≤ 3) (hk : k ≤ 4) : (textsF sg k).length ≤ 81 := by
  rw [textsF_count]
  have h1 : sg.length ^ k ≤ 3 ^ k := Nat.pow_le_pow_left hs k
  have h2 : 3 ^ k ≤ 3 ^ 4 := Nat.pow_le_pow_right (by decide) hk
  omega
theorem texts_room2 {sg : Str} {k : Nat} (hs : sg.length ≤ 3) (hk : k < 4) : ((textsF sg k).flatMap fun a => (signsOf sg).map (a ++ ·)).length ≤ 1000000 := by
  have := texts_room (k := k + 1) hs (by omega)
  rw [textsF] at this
  omega
/-- a call that gives a new list of texts -/
abbrev ClL (prog : Program) (w : World) (K : Frag) (p : Program) (loose : List Str) (mean : ExcName → Option Value) (mg mb : Str → Option Value) (f : Addr) (news : List (Addr × Obj)) (pre : Prop) (vs : List Value) (ys : List Str) : Prop :=
  ∀ (dp un : Nat) (gd : Option (List Code)) (cn : Str) (cs : Scope) (a : Addr) (ccd : Value) (cl : List (Str × Addr)) (outer : List Env) (A₀ : Around) (base h₀ : Heap) (L : Addr) (m : Str → Option Value) (s : Shared) (Q E : Value → Shared → Prop),
    Below A₀ base outer h₀ → Fr h₀ L s.heap m → K.In h₀ → News h₀ L s.heap news → Top p loose mean mg mb h₀ → cs.kind = .function →
    pre → dp + 5 < recursionLimit → un + 50 < cLine →
    (∀ D us nn h' tk', Fr h₀ L h' m → News h₀ L h' ((D, W.listOf (List.toArray us) nn) :: news) → (∀ p ∈ news, p.1 < D) → StrsAre us ys → Q (.ref D) { s with heap := h', toks := tk' }) →
      wpAny (model prog w) (ktrTop dp un gd cn cs L a ccd cl outer) (call (.ref f) vs) Q E s
end Mine
end
section
open PySem PySem.W PyProof.Rows PySem.Calls
namespace Mine
section
variable {M : Model} {A : Around} {E : Value → Shared → Prop} {s : Shared} {h₀ : Heap} {L a : Addr} {m : Str → Option Value} {cn : Str} {cs : Scope} {ccd : Value} {cl : List (Str × Addr)}
  {x : Str} {v : Value} {Q : Unit → Shared → Prop} {news : List (Addr × Obj)} {c : Addr} {o : Obj} {v₀ : Option Value}
/-- a cell gets a value; of the ledger we keep what we name -/
theorem storeC (news' : List (Addr × Obj)) (F : Fr h₀ L s.heap m) (N : News h₀ L s.heap news) (hc : cl.lookup x = some c) (hd : o.data = .cell v₀) (hm : (c, o) ∈ news) (hs : ∀ p ∈ news', p ∈ news) (hn : ∀ p ∈ news', p.1 ≠ c)
    (h : ∀ h' o', Fr h₀ L h' m → News h₀ L h' ((c, o') :: news') → o'.data = .cell (some v) → Q () { s with heap := h' })
    (hk : cs.kind = .function := by rfl) (hx : (envX cn cs L a ccd cl).kindOf x = some .cell := by rfl) : wpAny M A (storeName (envX cn cs L a ccd cl) x v) Q E s := by
  have hmem := N (c, o) hm
  refine wpAny_storeName_cell hk hx hc ⟨o, hmem.1, hd⟩ fun h' hv hsb => ?_
  obtain ⟨o', ho', hd'⟩ := hv
  refine h h' o' ⟨F.ns.sameBut hsb (Ne.symm hmem.2.1), fun b ob e => (hsb.2 b (fun q => ?_)).trans (F.keep b ob e), F.above⟩ (fun p hp => ?_) hd'
  · rw [q, hmem.2.2] at e; cases e
  · rcases List.mem_cons.mp hp with rfl | hp
    · exact ⟨ho', hmem.2.1, hmem.2.2⟩
    · exact ⟨hsb.extBut _ _ (hn p hp) (N p (hs p hp)).1, (N p (hs p hp)).2⟩
end
/-- the ways, turn by turn -/
def waysF (others : Int) (size : Nat) : Nat → List Int
  | 0 => [1] ++ List.replicate size 0
  | k + 1 => [others * (waysF others size k).getD 0 0] ++ (rangeKs 1 size).map fun j => others * (waysF others size k).getD j.toNat 0 + (waysF others size k).getD (j - 1).toNat 0
theorem waysF_length (others : Int) (size : Nat) : ∀ k, (waysF others size k).length = size + 1
  | 0 => by simp [waysF]
  | k + 1 => by simp [waysF, rangeKs_length]
theorem waysF_bound {others : Int} (h0 : 0 ≤ others) (h2 : others ≤ 2) (size : Nat) : ∀ k, ∀ i, 0 ≤ (waysF others size k).getD i 0 ∧ (waysF others size k).getD i 0 ≤ 3 ^ k
  | 0 => fun i => by
    rcases Nat.eq_zero_or_pos i with rfl | hi
    · simp [waysF]
    · obtain ⟨j, rfl⟩ : ∃ j, i = j + 1 := ⟨i - 1, by omega⟩
      have : (waysF others size 0).getD (j + 1) 0 = 0 := by
        rw [waysF, List.getD_eq_getElem?_getD]
        simp only [List.cons_append, List.nil_append, List.getElem?_cons_succ, List.getElem?_replicate]
        split <;> rfl
      rw [this]
      exact ⟨Int.le_refl _, by decide⟩
  | k + 1 => fun i => by
    have ih := waysF_bound h0 h2 size k
    have hm : ∀ x : Int, 0 ≤ x → x ≤ 3 ^ k → 0 ≤ others * x ∧ others * x ≤ 2 * 3 ^ k := fun x hx0 hx1 => ⟨Int.mul_nonneg h0 hx0, Int.mul_le_mul h2 hx1 hx0 (by decide)⟩
    have hp : (0 : Int) ≤ 3 ^ k := Int.pow_nonneg (by decide)
    have hpk : (3 : Int) ^ (k + 1) = 3 * 3 ^ k := by rw [Int.pow_succ, Int.mul_comm]
    rw [hpk, waysF]
    rcases Nat.eq_zero_or_pos i with rfl | hi
    · have := hm _ (ih 0).1 (ih 0).2
      simp only [List.cons_append, List.nil_append, List.getD_cons_zero]
      omega
    · obtain ⟨j, rfl⟩ : ∃ j, i = j + 1 := ⟨i - 1, by omega⟩
      simp only [List.cons_append, List.nil_append, List.getD_cons_succ]
      rw [List.getD_eq_getElem?_getD, List.getElem?_map]
      cases e : (rangeKs 1 size)[j]? with
      | none => simp only [Option.map_none, Option.getD_none]; omega
      | some q =>
        simp only [Option.map_some, Option.getD_some]
        have a := hm _ (ih q.toNat).1 (ih q.toNat).2
        have b := ih (q - 1).toNat
        omega
theorem waysF_small {others : Int} (h0 : 0 ≤ others) (h2 : others ≤ 2) (size : Nat) {k : Nat} (hk : k ≤ 4) (i : Nat) : 0 ≤ (waysF others size k).getD i 0 ∧ (waysF others size k).getD i 0 ≤ 81 := by
  have h := waysF_bound h0 h2 size k i
  have : (3 : Int) ^ k ≤ 81 := by
    rcases k with _ | _ | _ | _ | _ | k
    all_goals first | decide | omega
  omega
def stepF (others : Int) (size : Nat) (ns : List Int) : List Int := [others * ns.getD 0 0] ++ (rangeKs 1 size).map fun j => others * ns.getD j.toNat 0 + ns.getD (j - 1).toNat 0
theorem waysF_succ (others : Int) (size k : Nat) : waysF others size (k + 1) = stepF others size (waysF others size k) := rfl
end Mine
end
section
open PySem PySem.W PyProof.Rows PySem.Calls
namespace Mine
section
variable {prog : Program} {w : World} {A : Around} {E : Value → Shared → Prop} {s : Shared} {h₀ : Heap} {L : Addr} {m : Str → Option Value} {C D I : Addr} {news : List (Addr × Obj)} {env : Env}
theorem srcAt1_range {r : Addr} {a b : Int} {t u v : Tok} {n : Nat} {h₁ : Heap} {tk₁ : Nat} (hh : A.handled = none) (F : Fr h₀ L h₁ m) (N : News h₀ L h₁ news) (hr : IsRange h₁ r a b 1 t u v) (hsm : Builtin.Range.small a b 1 = true) (hn : Builtin.Range.rangeSize a b 1 = (n : Int)) :
    SrcAt1 prog w A E s h₀ L m news n (fun i v => ∃ t, v = .int (a + (i : Int)) t) (.ref r) { s with heap := h₁, toks := tk₁ } := by
  intro Q' hQ
  have up : ∀ (ob : Obj) b o, h₁.get? b = some o → (h₁.push ob).get? b = some o := fun ob b o e => Heap.get?_push_of_some _ e
  refine wpAny_pyIter_range hr hsm (hQ _ _ tk₁ ⟨_, _, _, rfl, F.keeps (up _), N.grown (up _), Ne.symm (Nat.ne_of_lt F.ns.lt), next_is_new F, fun p hp => Nat.ne_of_lt (Heap.lt_size (N p hp).1), LCg.range_walks hh a n, (by show IsRangeIter _ _ _ _ _; rw [hn]; simpa using Heap.get?_push_size _ rfl), ?_, fun i h st => ⟨_, _, st, rfl, by decide⟩⟩)
  intro i h st b hb
  rw [List.mem_singleton.mp hb]
  exact ⟨_, st⟩
theorem ints_snoc {k : Int} {t : Tok} {vs : List Value} {ns : List Int} (h : IntsAre vs ns) : IntsAre (vs ++ [.int k t]) (ns ++ [k]) := IntsAre.append h (.cons k t .nil)
/-- a comprehension over a range, its element an int that is reckoned without making anything -/
theorem eval_ints {elt i1 : Expr} {x : Str} {px : Pos} {scope : Scope} {cl : List (Str × Addr)} {pos : Pos} {n : Nat} {a : Int} {Q : Value → Shared → Prop} (g : Int → Int) (F : Fr h₀ L s.heap m) (N : News h₀ L s.heap news)
    (hclos : closureFor scope env = pure cl) (hcell : ∀ y ∈ scope.names, y.2 ≠ .cell) (hkind : scope.kind = .function) (hnames : ∀ y ∈ scope.names, y.2 = .local → scope.names.lookup y.1 = some .local) (hx : scope.names.lookup x = some .local)
    (hs : ∀ x, foldedSetIterable i1 env x = pure x)
    (hsrc : wpAny (model prog w) A (eval i1 env) (SrcAt1 prog w A E s h₀ L m news n (fun i v => ∃ t, v = .int (a + (i : Int)) t)) E s) (hn : n ≤ 1000000)
    (helt : ∀ C k t h tk mC (E' : Value → Shared → Prop), a ≤ k → k < a + (n : Int) → mC x = some (.int k t) → Fr h₀ L h m → h.Ns C mC → News h₀ L h news →
      wpAny (model prog w) A (eval elt (compEnvC scope cl C env)) (fun y s' => ∃ tk' t', y = .int (g k) t' ∧ s' = { s with heap := h, toks := tk' }) E' { s with heap := h, toks := tk })
    (hfin : ∀ D ys h' tk', IntsAre ys ((rangeKs a n).map g) → Fr h₀ L h' m → News h₀ L h' ((D, LCg.lst ys) :: news) → (∀ p ∈ news, p.1 < D) → Q (.ref D) { s with heap := h', toks := tk' }) :
    wpAny (model prog w) A (eval (.ListComp elt [⟨.Name x px, i1, [], 0⟩] scope pos) env) Q E s := by
  clear F N
  refine eval_comp (P := fun i v => ∃ t, v = .int (a + (i : Int)) t) hclos hkind hnames hs hsrc fun it h₂ tk₂ S => ?_
  refine loop_lc1 (P := fun i v => ∃ t, v = .int (a + (i : Int)) t) (B := fun C v mC => mC x = some v) (Rr := fun j ys nx => nx = news ∧ IntsAre ys (((rangeKs a n).take j).map g)) hcell hkind ?_ ⟨rfl, by simp only [List.take_zero, List.map_nil]; exact .nil⟩ ?_ ?_ ?_ S
  · rintro j ys nx ⟨_, h⟩
    rw [h.length, List.length_map, List.length_take, rangeKs_length]
    omega
  · intro C I j v h tk mC ys nx E' hj hP hR hn N
    refine wpAny_mono (asg_name hx hkind hn) (fun _ s' q => ?_) fun _ _ e => e
    obtain ⟨h', tk', mC', e1, e2, e3, e4⟩ := q
    exact ⟨h', tk', mC', e1, e2, e3, by rw [e4]; exact if_pos rfl⟩
  · intro C j v h tk mC ys nx E' hj hP hB hR F hn N
    obtain ⟨e, hR⟩ := hR
    subst e
    obtain ⟨t, rfl⟩ := hP
    refine wpAny_mono (helt C (a + (j : Int)) t h tk mC E' (by omega) (by omega) hB F hn N) (fun y s' q => ?_) fun _ _ e => e
    obtain ⟨tk', t', rfl, rfl⟩ := q
    refine ⟨h, tk', nx, rfl, fun _ _ e => e, N, fun p hp => .inl hp, rfl, ?_⟩
    have hk : (rangeKs a n)[j]? = some (a + (j : Int)) := by simp [rangeKs, hj]
    rw [List.take_add_one, hk]
    simpa using ints_snoc hR
  · intro C D I Z h tk mC ys nx ap hlt H hR
    obtain ⟨e, hR⟩ := hR
    subst e
    refine post_E ap H fun h' tk' F' N' o' => hfin D ys h' tk' ?_ F' N' hlt
    rw [List.take_of_length_le (by rw [rangeKs_length]; exact Nat.le_refl _)] at hR
    exact hR
/-- others * ways[j] + ways[j - 1] -/
theorem elt_way {xo xw xj : Str} {po pw pj ps pm pw2 pj2 pc pb ps2 pa : Pos} {scope : Scope} {cl : List (Str × Addr)} {cO cW l : Addr} {oO oW : Obj} {others : Int} {tO tj : Tok} {vs : List Value} {ns : List Int} {nn : Nat} {mC : Str → Option Value} {k : Int} {Q : Value → Shared → Prop}
    (hkind : scope.kind = .function) (hj : scope.names.lookup xj = some .local) (hko : (compEnvC scope cl C env).kindOf xo = some .cell) (hkw : (compEnvC scope cl C env).kindOf xw = some .cell)
    (hdo : (xo == ("__debug__" : Str)) = false) (hdw : (xw == ("__debug__" : Str)) = false) (hdj : (xj == ("__debug__" : Str)) = false) (hco : cl.lookup xo = some cO) (hcw : cl.lookup xw = some cW)
    (N : News h₀ L s.heap news) (hmo : (cO, oO) ∈ news) (hoO : oO.data = .cell (some (.int others tO))) (hmw : (cW, oW) ∈ news) (hoW : oW.data = .cell (some (.ref l))) (hml : (l, W.listOf vs.toArray nn) ∈ news) (hI : IntsAre vs ns)
    (hn : s.heap.Ns C mC) (hv : mC xj = some (.int k tj)) (h1 : 1 ≤ k) (h2 : k < ns.length) (hfit : ns.length < 2 ^ 62) (hm : IntMulOk others (ns.getD k.toNat 0))
    (h : ∀ tk t, Q (.int (others * ns.getD k.toNat 0 + ns.getD (k - 1).toNat 0) t) { s with toks := tk }) :
    wpAny (model prog w) A (eval (.BinOp (.BinOp (.Name xo po) .Mult (.Subscript (.Name xw pw) (.Name xj pj) ps) pm) .Add (.Subscript (.Name xw pw2) (.BinOp (.Name xj pj2) .Sub (.Constant (.int 1) 0 pc) pb) ps2) pa) (compEnvC scope cl C env)) Q E s := by
  have hl := News.isList N hml
  refine wpAny_BinOp (wpAny_BinOp (cell_name hko hkind hdo N hco hmo hoO ?_))
  refine Subscript_ (cell_name hkw hkind hdw N hcw hmw hoW (own_name hj hkind hdj hn hv ?_))
  refine item_anyK hl hI (by omega) h2 (by omega) fun t1 => ?_
  refine mul_int ?_ hm
  refine Subscript_ (cell_name (s := { s with toks := s.toks + 1 }) hkw hkind hdw N hcw hmw hoW ?_)
  refine wpAny_BinOp (own_name (s := { s with toks := s.toks + 1 }) hj hkind hdj hn hv (wpAny_Constant_int (sub_int ?_)))
  refine item_anyK (s := { s with toks := s.toks + 1 + 1 + 1 }) hl hI (by omega) (by omega) (by omega) fun t2 => ?_
  exact add_int (h _ _)
end
end Mine
end
section
open PySem PySem.W PyProof.Rows PySem.Calls
namespace Mine
section
variable {prog : Program} {w : World} {A : Around} {E : Value → Shared → Prop} {s : Shared} {env : Env} {h₀ : Heap} {L : Addr} {m₀ : Str → Option Value} {news : List (Addr × Obj)} {t : Sem Value} {Q : Value → Shared → Prop}
/-- a value: a new list of ints -/
def OutLV (h₀ : Heap) (L : Addr) (m₀ : Str → Option Value) (news : List (Addr × Obj)) (ns : List Int) (s : Shared) (v : Value) (s' : Shared) : Prop :=
  ∃ D vs nn h' k, v = .ref D ∧ s' = { s with heap := h', toks := k } ∧ Fr h₀ L h' m₀ ∧ News h₀ L h' ((D, W.listOf (List.toArray vs) nn) :: news) ∧ (∀ p ∈ news, p.1 < D) ∧ IntsAre vs ns
theorem cutLV (F : Fr h₀ L s.heap m₀) (N : News h₀ L s.heap news) (ns : List Int) (h : wpAny (model prog w) A t (OutLV h₀ L m₀ news ns s) E s)
    (k : ∀ D vs nn h' k', Fr h₀ L h' m₀ → News h₀ L h' ((D, W.listOf (List.toArray vs) nn) :: news) → (∀ p ∈ news, p.1 < D) → IntsAre vs ns → Q (.ref D) { s with heap := h', toks := k' }) : wpAny (model prog w) A t Q E s :=
  wpAny_mono h (fun f s' ⟨D, vs, nn, h', k', e, e', F', N', l, hI⟩ => by subst e; subst e'; exact k D vs nn h' k' F' N' l hI) fun _ _ e => e
theorem outLV {D : Addr} {vs : List Value} {nn : Nat} {h' : Heap} {k : Nat} {ns ns' : List Int} {news' : List (Addr × Obj)} (F : Fr h₀ L h' m₀) (hI : IntsAre vs ns') (e : ns' = ns) (N : News h₀ L h' news') (hm : (D, W.listOf (List.toArray vs) nn) ∈ news') (hs : ∀ p ∈ news, p ∈ news') (hl : ∀ p ∈ news, p.1 < D) :
    OutLV h₀ L m₀ news ns s (.ref D) { s with heap := h', toks := k } := by
  subst e
  refine ⟨D, vs, nn, h', k, rfl, rfl, F, fun p hp => N p ?_, hl, hI⟩
  rcases List.mem_cons.mp hp with rfl | hp
  · exact hm
  · exact hs p hp
/-- a value: an int -/
def OutIV (h₀ : Heap) (L : Addr) (m₀ : Str → Option Value) (news : List (Addr × Obj)) (n : Int) (s : Shared) (v : Value) (s' : Shared) : Prop :=
  ∃ t h' k, v = .int n t ∧ s' = { s with heap := h', toks := k } ∧ Fr h₀ L h' m₀ ∧ News h₀ L h' news
theorem cutIV (F : Fr h₀ L s.heap m₀) (N : News h₀ L s.heap news) (n : Int) (h : wpAny (model prog w) A t (OutIV h₀ L m₀ news n s) E s)
    (k : ∀ t h' k', Fr h₀ L h' m₀ → News h₀ L h' news → Q (.int n t) { s with heap := h', toks := k' }) : wpAny (model prog w) A t Q E s :=
  wpAny_mono h (fun f s' ⟨t, h', k', e, e', F', N'⟩ => by subst e; subst e'; exact k t h' k' F' N') fun _ _ e => e
theorem outIV {h' : Heap} {k : Nat} {n n' : Int} {t : Tok} {news' : List (Addr × Obj)} (F : Fr h₀ L h' m₀) (e : n' = n) (N : News h₀ L h' news') (hs : ∀ p ∈ news, p ∈ news') :
    OutIV h₀ L m₀ news n s (.int n' t) { s with heap := h', toks := k } := by
  subst e
  exact ⟨t, h', k, rfl, rfl, F, fun p hp => N p (hs p hp)⟩
/-- a value: a text -/
def OutSV (h₀ : Heap) (L : Addr) (m₀ : Str → Option Value) (news : List (Addr × Obj)) (n : Str) (s : Shared) (v : Value) (s' : Shared) : Prop :=
  ∃ t h' k, v = .str n t ∧ s' = { s with heap := h', toks := k } ∧ Fr h₀ L h' m₀ ∧ News h₀ L h' news
theorem cutSV (F : Fr h₀ L s.heap m₀) (N : News h₀ L s.heap news) (n : Str) (h : wpAny (model prog w) A t (OutSV h₀ L m₀ news n s) E s)
    (k : ∀ t h' k', Fr h₀ L h' m₀ → News h₀ L h' news → Q (.str n t) { s with heap := h', toks := k' }) : wpAny (model prog w) A t Q E s :=
  wpAny_mono h (fun f s' ⟨t, h', k', e, e', F', N'⟩ => by subst e; subst e'; exact k t h' k' F' N') fun _ _ e => e
theorem outSV {h' : Heap} {k : Nat} {n n' : Str} {t : Tok} {news' : List (Addr × Obj)} (F : Fr h₀ L h' m₀) (e : n' = n) (N : News h₀ L h' news') (hs : ∀ p ∈ news, p ∈ news') :
    OutSV h₀ L m₀ news n s (.str n' t) { s with heap := h', toks := k } := by
  subst e
  exact ⟨t, h', k, rfl, rfl, F, fun p hp => N p (hs p hp)⟩
end
section
variable {prog : Program} {w : World} {A : Around} {E : Value → Shared → Prop} {s : Shared} {h₀ : Heap} {L : Addr} {m : Str → Option Value} {C D I : Addr} {news : List (Addr × Obj)} {env : Env}
/-- a comprehension over anything, its element a text that is made of the item alone -/
theorem eval_strs {elt i1 : Expr} {x : Str} {px : Pos} {scope : Scope} {cl : List (Str × Addr)} {pos : Pos} {n : Nat} {P : Nat → Value → Prop} {Q : Value → Shared → Prop} (rs : List Str) (hrs : rs.length = n) (F : Fr h₀ L s.heap m) (N : News h₀ L s.heap news)
    (hclos : closureFor scope env = pure cl) (hcell : ∀ y ∈ scope.names, y.2 ≠ .cell) (hkind : scope.kind = .function) (hnames : ∀ y ∈ scope.names, y.2 = .local → scope.names.lookup y.1 = some .local) (hx : scope.names.lookup x = some .local)
    (hs : ∀ x, foldedSetIterable i1 env x = pure x)
    (hsrc : wpAny (model prog w) A (eval i1 env) (SrcAt1 prog w A E s h₀ L m news n P) E s) (hn : n ≤ 1000000)
    (helt : ∀ C j v y h tk mC (E' : Value → Shared → Prop), rs[j]? = some y → P j v → mC x = some v → Fr h₀ L h m → h.Ns C mC → News h₀ L h news →
      wpAny (model prog w) A (eval elt (compEnvC scope cl C env)) (fun z s' => ∃ tk' t', z = .str y t' ∧ s' = { s with heap := h, toks := tk' }) E' { s with heap := h, toks := tk })
    (hfin : ∀ D ys h' tk', StrsAre ys rs → Fr h₀ L h' m → News h₀ L h' ((D, LCg.lst ys) :: news) → (∀ p ∈ news, p.1 < D) → Q (.ref D) { s with heap := h', toks := tk' }) :
    wpAny (model prog w) A (eval (.ListComp elt [⟨.Name x px, i1, [], 0⟩] scope pos) env) Q E s := by
  clear F N
  refine eval_comp (P := P) hclos hkind hnames hs hsrc fun it h₂ tk₂ S => ?_
  refine loop_lc1 (P := P) (B := fun C v mC => mC x = some v) (Rr := fun j ys nx => nx = news ∧ StrsAre ys (rs.take j)) hcell hkind ?_ ⟨rfl, by simp only [List.take_zero]; exact .nil⟩ ?_ ?_ ?_ S
  · rintro j ys nx ⟨_, h⟩
    rw [strs_len h, List.length_take]
    omega
  · intro C I j v h tk mC ys nx E' hj hP hR hn N
    refine wpAny_mono (asg_name hx hkind hn) (fun _ s' q => ?_) fun _ _ e => e
    obtain ⟨h', tk', mC', e1, e2, e3, e4⟩ := q
    exact ⟨h', tk', mC', e1, e2, e3, by rw [e4]; exact if_pos rfl⟩
  · intro C j v h tk mC ys nx E' hj hP hB hR F hn N
    obtain ⟨e, hR⟩ := hR
    subst e
    have hj' : j < rs.length := by omega
    refine wpAny_mono (helt C j v _ h tk mC E' (List.getElem?_eq_getElem hj') hP hB F hn N) (fun y s' q => ?_) fun _ _ e => e
    obtain ⟨tk', t', rfl, rfl⟩ := q
    refine ⟨h, tk', nx, rfl, fun _ _ e => e, N, fun p hp => .inl hp, rfl, ?_⟩
    rw [List.take_add_one, List.getElem?_eq_getElem hj']
    exact strs_snoc hR
  · intro C D I Z h tk mC ys nx ap hlt H hR
    obtain ⟨e, hR⟩ := hR
    subst e
    refine post_E ap H fun h' tk' F' N' o' => hfin D ys h' tk' ?_ F' N' hlt
    rw [List.take_of_length_le (by omega)] at hR
    exact hR
/-- pair[x % 2] -/
theorem elt_pick {xp xx : Str} {pp px pc pb ps : Pos} {scope : Scope} {cl : List (Str × Addr)} {cP : Addr} {oP : Obj} {pair : Str} {tP tx : Tok} {mC : Str → Option Value} {k : Int} {Q : Value → Shared → Prop}
    (hkind : scope.kind = .function) (hj : scope.names.lookup xx = some .local) (hkp : (compEnvC scope cl C env).kindOf xp = some .cell)
    (hdp : (xp == ("__debug__" : Str)) = false) (hdx : (xx == ("__debug__" : Str)) = false) (hcp : cl.lookup xp = some cP)
    (N : News h₀ L s.heap news) (hmp : (cP, oP) ∈ news) (hoP : oP.data = .cell (some (.str pair tP)))
    (hn : s.heap.Ns C mC) (hv : mC xx = some (.int k tx)) (hlen : pair.length = 2)
    (h : ∀ tk t, Q (.str (Txt.item pair (k.fmod 2)) t) { s with toks := tk }) :
    wpAny (model prog w) A (eval (.Subscript (.Name xp pp) (.BinOp (.Name xx px) .Mod (.Constant (.int 2) 0 pc) pb) ps) (compEnvC scope cl C env)) Q E s := by
  have h0 : 0 ≤ k.fmod 2 := fmod_lo _ (by decide)
  have h1 : k.fmod 2 < 2 := fmod_hi _ (by decide)
  refine Subscript_ (cell_name hkp hkind hdp N hcp hmp hoP (wpAny_BinOp (own_name hj hkind hdx hn hv (wpAny_Constant_int (mod_int (by decide) ?_)))))
  exact item_str (fitsSsize_of (N := 9223372036854775808) (by omega) (by omega) (Int.le_refl _)) (by omega) (by omega) fun _ => h _ _
/-- sign + '...' -/
theorem elt_plus {xx : Str} {px pc pb : Pos} {kc : Nat} {c : Str} {scope : Scope} {cl : List (Str × Addr)} {y : Str} {tx : Tok} {mC : Str → Option Value} {Q : Value → Shared → Prop}
    (hkind : scope.kind = .function) (hj : scope.names.lookup xx = some .local) (hdx : (xx == ("__debug__" : Str)) = false)
    (hn : s.heap.Ns C mC) (hv : mC xx = some (.str y tx)) (hlen : y.length + c.length ≤ 1000)
    (h : ∀ tk t, Q (.str (y ++ c) t) { s with toks := tk }) :
    wpAny (model prog w) A (eval (.BinOp (.Name xx px) .Add (.Constant (.str c) kc pc) pb) (compEnvC scope cl C env)) Q E s :=
  wpAny_BinOp (own_name hj hkind hdx hn hv (wpAny_Constant_str (add_str (fun t tk => h tk t) (by rw [sizeLine_eq]; omega))))
theorem join_c {x : Str} {t : Tok} {D : Addr} {nn : Nat} {ys : List Value} {rs : List Str} {Q : Value → Shared → Prop} (N : News h₀ L s.heap news) (hm : (D, W.listOf ys.toArray nn) ∈ news) (hS : StrsAre ys rs) (h4 : ∀ a ∈ rs, a.length ≤ 4) (hx : x.length ≤ 8) (hn : rs.length ≤ 1000000)
    (h : ∀ t' k, Q (.str (Txt.join x rs) t') { s with toks := k }) : wpAny (model prog w) A (call (.builtin "str.join") [.str x t, .ref D]) Q E s := by
  refine KT.join_B (α := Str) (g := id) (l := rs) 4 (News.isList N hm) hS.carried h4 (by omega) (by omega) fun t' k => ?_
  rw [List.map_id]
  exact h t' k
theorem src_str {x : Str} {t : Tok} {i1 : Expr} (hh : A.handled = none) (F : Fr h₀ L s.heap m) (N : News h₀ L s.heap news)
    (h : ∀ Q : Value → Shared → Prop, Q (.str x t) s → wpAny (model prog w) A (eval i1 env) Q E s) :
    wpAny (model prog w) A (eval i1 env) (SrcAt1 prog w A E s h₀ L m news x.cps.size (SignAt x)) E s := by
  refine h _ fun Q' hQ => ?_
  exact srcTop_str hh F N fun it h' S => hQ it h' s.toks S
end
end Mine
end
section
open PySem PySem.W PyProof.Rows PySem.Calls
namespace Mine
def pairF (n : Int) : Str := [Str.ofString "ab", Str.ofString "aA", Str.ofString "# ", Str.ofString "\n\t"].getD ((n.fdiv 2).fmod 4).toNat Str.empty
def numF (ns : List Int) : List Int := if ns = [] then [0, 0] else ns.take 3
def wantF (word : Str) : Str := Str.ofString "..." ++ Txt.join (Str.ofString "") ((signsOf word).map fun y => y ++ Str.ofString "...")
def signsF (pair : Str) (total : Int) : Str := if total.fmod 2 = 1 then pair ++ Str.ofString "." else pair
def mostF (signs : Str) (n : Nat) : Int := if signs.length = 2 ∧ 1 < n then 4 else 3
def midF (word : Str) : List Str := Str.empty :: (signsOf word ++ [Str.empty])
def dueF (word : Str) (i : Nat) : Int := 2 * ((i : Int) - word.length)
def toldF (word y : Str) (i : Nat) : Int := if (i : Int).fmod 2 = 0 then lev word.cps.toList y.cps.toList (dueF word i) else lev y.cps.toList word.cps.toList (dueF word i)
def takenF (word : Str) (ys : List Str) : Nat := (ys.filter fun y => ellF y (midF word) 0).length
/-- what the law asks of one size -/
structure PureOK (word signs : Str) (i : Nat) : Prop where
  has : Txt.contains (wantF word) E3 = true
  cut : Txt.split (wantF word) E3 = midF word
  told : ∀ y ∈ textsF signs i, dueF word i ≤ toldF word y i ∧ ellF y (midF word) 0 = decide (toldF word y i = dueF word i)
  many : (takenF word (textsF signs i) : Int) = ((waysF ((signs.length : Int) - 1) i i).drop word.length).sum
theorem pairF_len (n : Int) : (pairF n).length = 2 := by
  have h0 : 0 ≤ (n.fdiv 2).fmod 4 := fmod_lo _ (by decide)
  have h1 : (n.fdiv 2).fmod 4 < 4 := fmod_hi _ (by decide)
  unfold pairF
  generalize (n.fdiv 2).fmod 4 = k at h0 h1
  have : k = 0 ∨ k = 1 ∨ k = 2 ∨ k = 3 := by omega
  rcases this with rfl | rfl | rfl | rfl <;> decide
theorem numF_len (ns : List Int) : (numF ns).length ≤ 3 := by
  unfold numF
  split
  · decide
  · rw [List.length_take]; omega
theorem ints_at {vs : List Value} {ns : List Int} (h : IntsAre vs ns) {i : Nat} {v : Value} (e : vs[i]? = some v) : ∃ k t, ns[i]? = some k ∧ v = .int k t := by
  obtain ⟨k, t, e1, e2⟩ := IntsAre.at h i v e
  exact ⟨k, t, e2, e1⟩
theorem item_one {x : Str} {k : Int} (h : x.length = 2) : (Txt.item x (k.fmod 2)).length = 1 := by
  have h0 : 0 ≤ k.fmod 2 := fmod_lo _ (by decide)
  have h1 : k.fmod 2 < 2 := fmod_hi _ (by decide)
  have e : x = S x.cps.toList := (S_of x).symm
  rw [e] at h ⊢
  rw [S_len] at h
  rw [item_at _ h0 (by omega)]
  rfl
theorem signsOf_one {x a : Str} (h : a ∈ signsOf x) : a.length = 1 := by
  obtain ⟨c, _, rfl⟩ := List.mem_map.mp h
  rfl
theorem joinLen_le (n : Nat) (l : List Str) (h : ∀ a ∈ l, a.length ≤ n) : (Txt.join (Str.ofString "") l).length ≤ n * l.length := by
  show (Builtin.Str.glued (PySem.Str.ofString "") l).length ≤ _
  rw [StrLaws.glued_eq_join]
  cases l with
  | nil => exact Nat.zero_le _
  | cons a r =>
    have z : (PySem.Str.ofString "").length = 0 := by decide
    rw [len_join_cons, z, Nat.mul_zero, Nat.add_zero, Nat.mul_comm]
    exact StrLaws.sumLen_le _ h
theorem signsF_len {pair : Str} (h : pair.length = 2) (n : Int) : 2 ≤ (signsF pair n).length ∧ (signsF pair n).length ≤ 3 := by
  unfold signsF
  split
  · rw [str_append_len, h]; decide
  · rw [h]; decide
theorem mostF_le (signs : Str) (n : Nat) : 3 ≤ mostF signs n ∧ mostF signs n ≤ 4 := by
  unfold mostF
  split <;> decide
theorem takenF_snoc (word : Str) (ys : List Str) (y : Str) : takenF word (ys ++ [y]) = takenF word ys + (if ellF y (midF word) 0 = true then 1 else 0) := by
  unfold takenF
  rw [List.filter_append, List.length_append]
  congr 1
  cases h : ellF y (midF word) 0 <;> simp [h]
theorem wantF_eq {word wj : Str} (h : Txt.join (Str.ofString "") ((signsOf word).map fun y => y ++ Str.ofString "...") = wj) : wantF word = Str.ofString "..." ++ wj := by
  unfold wantF; rw [h]
theorem toldF_even {word y : Str} {i : Nat} (h : (0 + (i : Int)).fmod 2 = 0) : lev word.cps.toList y.cps.toList (2 * (0 + (i : Int) - word.length)) = toldF word y i := by
  rw [Int.zero_add] at h ⊢
  unfold toldF
  rw [if_pos h]
  rfl
theorem toldF_odd {word y : Str} {i : Nat} (h : (0 + (i : Int)).fmod 2 ≠ 0) : lev y.cps.toList word.cps.toList (2 * (0 + (i : Int) - word.length)) = toldF word y i := by
  rw [Int.zero_add] at h ⊢
  unfold toldF
  rw [if_neg h]
  rfl
end Mine
end
section
open PySem PySem.W PyProof.Rows PySem.Calls
namespace Mine
section
variable {prog : Program} {w : World} {A : Around} {E : Value → Shared → Prop} {s : Shared} {env : Env} {h₀ : Heap} {x : Str} {body : List Stmt} {Q : Flow → Shared → Prop} {m₀ : Str → Option Value} {news : List (Addr × Obj)}
/-- a loop over a text's signs, with lists that a turn makes anew -/
theorem loopT {σ : Type} {xt : Str} {tx : Tok} (ps : σ → List (Str × Value)) (obs : σ → List (Addr × Obj)) (stored : List Str) (P : Nat → σ → Prop) (c₀ : σ)
    (hh : A.handled = none) (F : Fr h₀ env.locals s.heap m₀) (N : News h₀ env.locals s.heap (obs c₀ ++ news)) (hk : ∀ p ∈ ps c₀, m₀ p.1 = some p.2) (hp : P 0 c₀)
    (turn : ∀ (c : σ) (i : Nat) y t (u : Str → Option Value) h tk own, (signsOf xt)[i]? = some y → TbOff own (obs c ++ news) → P i c →
      Fr h₀ env.locals h (fun z => if z = x then some (.str y t) else kstB (fun z => if stored.contains z then u z else m₀ z) (ps c) z) → News h₀ env.locals h (obs c ++ news ++ own) →
      wpAny (model prog w) A (execs body env) (RPost h₀ env.locals news own x ps obs stored m₀ (P (i + 1)) { s with heap := h, toks := tk } Q) E { s with heap := h, toks := tk })
    (done : ∀ (c : σ) (u : Str → Option Value) h tk, P xt.length c → Fr h₀ env.locals h (fun y => if y = x then u y else kstB (fun z => if stored.contains z then u z else m₀ z) (ps c) y) → News h₀ env.locals h (obs c ++ news) → Q .next { s with heap := h, toks := tk }) :
    wpAny (model prog w) A (pyIter (.str xt tx)) (fun it s₂ => LoopAtV prog w A h₀ env x body Q E it s₂) E s := by
  have key : ∀ (o : Obj) (St : Nat → Heap → Prop), Walks prog w A s.heap.objs.size [s.heap.objs.size] [s.heap.objs.size] xt.cps.size (SignAt xt) St → (∀ i h, St i h → ∃ o, h.get? s.heap.objs.size = some o) → St 0 (s.heap.push o) →
      LoopAtV prog w A h₀ env x body Q E (.ref s.heap.objs.size) { s with heap := s.heap.push o } := by
    intro o St W hob hst
    refine tbr_loop (fun i m nx => ∃ c : σ, nx = obs c ++ news ∧ (∀ p ∈ ps c, m p.1 = some p.2) ∧ (∀ z, z ≠ x → (∀ p ∈ ps c, z ≠ p.1) → stored.contains z = false → m z = m₀ z) ∧ P i c) W (fun _ h => h) (fun _ h => h) ?_ ?_ ?_ ?_ hst (F.push _) (fun p hp => ⟨Heap.get?_push_of_some _ (N p hp).1, (N p hp).2⟩) ⟨c₀, rfl, hk, fun _ _ _ _ => rfl, hp⟩ ?_ ?_
    · intro i h hi b hb
      rw [List.mem_singleton.mp hb]
      exact hob i h hi
    · intro hm
      exact absurd F.ns.lt ((List.mem_singleton.mp hm) ▸ Nat.lt_irrefl _)
    · intro b hb
      rw [List.mem_singleton.mp hb]
      exact next_is_new F
    · intro p hp hI
      exact absurd (Heap.lt_size (N p hp).1) ((List.mem_singleton.mp hI) ▸ Nat.lt_irrefl _)
    · rintro i v m₁ nx h tk own hi hP hoff ⟨c, rfl, h1, h2, hp'⟩ F₁ N₁
      obtain ⟨y, t, hy, rfl⟩ := signAt_of hP
      refine wpAny_mono (turn c i y t m₁ h tk own hy hoff hp' (loopV.kst_fr' h1 h2 F₁) N₁) (fun f s₂ p => ?_) fun _ _ e => e
      have up : REnd h₀ env.locals news own x ps obs stored m₀ (P (i + 1)) { s with heap := h, toks := tk } s₂ → TbEnd h₀ env.locals (fun m' nx' => ∃ c : σ, nx' = obs c ++ news ∧ (∀ p ∈ ps c, m' p.1 = some p.2) ∧ (∀ z, z ≠ x → (∀ p ∈ ps c, z ≠ p.1) → stored.contains z = false → m' z = m₀ z) ∧ P (i + 1) c) own { s with heap := h, toks := tk } s₂ := by
        rintro ⟨c', h', tk', m', news', rfl, F', N', hn, ho, hk', hr', hP'⟩
        exact ⟨h', tk', m', news', obs c' ++ news, rfl, F', N', fun p hp => hn p (List.mem_append.mpr (.inl hp)), fun p hp => hn p (List.mem_append.mpr (.inr hp)), ho, c', rfl, hk', hr', hP'⟩
      cases f with
      | ret v => exact p
      | brk => exact p
      | next => exact up p
      | cont => exact up p
    · rintro m₁ nx h tk ⟨c, rfl, h1, h2, hp'⟩ F₁ N₁
      exact done c m₁ h tk hp' (kst_frOut h1 h2 F₁) N₁
  cases ha : xt.cps.all (· < 128)
  · exact wpAny_pyIter_wide ha (key _ _ (Walks.strWide hh _ xt tx) (fun i h st => by obtain ⟨o, e, _⟩ := st; exact ⟨o, e⟩) ⟨_, Heap.get?_push_size _ rfl, rfl, rfl⟩)
  · exact wpAny_pyIter_ascii ha (key _ _ (Walks.strAscii hh _ xt tx) (fun i h st => by obtain ⟨o, e, _⟩ := st; exact ⟨o, e⟩) ⟨_, Heap.get?_push_size _ rfl, rfl, rfl⟩)
end
section
variable {prog : Program} {w : World} {A : Around} {E : Value → Shared → Prop} {s : Shared} {h₀ : Heap} {L : Addr} {m : Str → Option Value} {news : List (Addr × Obj)} {Q : Value → Shared → Prop} {vs : List Value} {nn : Nat} {D : Addr} {x : Value}
theorem appendC (news' : List (Addr × Obj)) (F : Fr h₀ L s.heap m) (N : News h₀ L s.heap news) (hm : (D, W.listOf vs.toArray nn) ∈ news) (hs : ∀ p ∈ news', p ∈ news) (hn : ∀ p ∈ news', p.1 ≠ D) (hl : vs.length ≤ 1000000)
    (h : ∀ h', Fr h₀ L h' m → News h₀ L h' ((D, W.listOf (vs ++ [x]).toArray (nn + 1)) :: news') → Q .none { s with heap := h' }) :
    wpAny (model prog w) A (call (.builtin "list.append") [.ref D, x]) Q E s := by
  have hD := N _ hm
  refine append_at hD.1 (fun h' hsb ho => ?_) (by rw [List.size_toArray, sizeLine_eq]; omega)
  have ho' : h'.get? D = some (W.listOf (vs ++ [x]).toArray (nn + 1)) := by rw [ho]; simp [List.push_toArray]
  refine h h' ⟨F.ns.sameBut hsb (Ne.symm hD.2.1), fun b ob e => (hsb.2 b (fun q => ?_)).trans (F.keep b ob e), F.above⟩ (fun p hp => ?_)
  · rw [q, hD.2.2] at e; cases e
  · rcases List.mem_cons.mp hp with rfl | hp
    · exact ⟨ho', hD.2.1, hD.2.2⟩
    · exact ⟨hsb.extBut _ _ (hn p hp) (N p (hs p hp)).1, (N p (hs p hp)).2⟩
end
/-! the table of the kept -/
def worthF (c d : Str) : Int := if c = d then 2 else if c = Txt.swapcase d then 1 else 0
def pmax3 (a b c : Int) : Int := max (max a b) c
def newF (prev : List Int) (sign : Str) (second : Str) : Nat → List Int
  | 0 => [0]
  | k + 1 => newF prev sign second k ++ [pmax3 (prev.getD (k + 1) 0) ((newF prev sign second k).getD k 0) (prev.getD k 0 + worthF (Txt.item second k) sign)]
def rowF (first second : Str) : Nat → List Int
  | 0 => List.replicate (second.length + 1) 0
  | i + 1 => newF (rowF first second i) ((signsOf first).getD i Str.empty) second second.length
def keptF (first second : Str) : Int := (rowF first second first.length).getD second.length 0
theorem newF_length (prev : List Int) (sign second : Str) : ∀ k, (newF prev sign second k).length = k + 1
  | 0 => rfl
  | k + 1 => by rw [newF, List.length_append, newF_length prev sign second k]; rfl
theorem rowF_length (first second : Str) : ∀ i, (rowF first second i).length = second.length + 1
  | 0 => by simp [rowF]
  | i + 1 => by rw [rowF, newF_length]
theorem allLt_mem {d : Addr} : ∀ {l : List (Addr × Obj)}, AllLt d l → ∀ p ∈ l, p.1 < d
  | [], _, _, h => nomatch h
  | q :: r, x, p, h => by
    rcases List.mem_cons.mp h with rfl | h
    · exact x.1
    · exact allLt_mem x.2 p h
section
variable {prog : Program} {w : World} {A : Around} {E : Value → Shared → Prop} {s : Shared} {h₀ : Heap} {L : Addr} {m : Str → Option Value} {news : List (Addr × Obj)} {Q : Value → Shared → Prop}
theorem max3_c {a b c : Int} {t u x : Tok} (hh : A.handled = none) (F : Fr h₀ L s.heap m) (N : News h₀ L s.heap news)
    (h : ∀ t' h' tk, Fr h₀ L h' m → News h₀ L h' news → Q (.int (pmax3 a b c) t') { s with heap := h', toks := tk }) :
    wpAny (model prog w) A (call (.builtin "max") [.int a t, .int b u, .int c x]) Q E s := by
  refine max_three_ints hh fun h' tk hk => ?_
  have key := fun tok => h tok h' tk (F.keeps hk) (N.grown hk)
  unfold pmax3 at key
  split
  · split
    · rw [show max (max a b) c = c by omega] at key; exact key _
    · rw [show max (max a b) c = b by omega] at key; exact key _
  · split
    · rw [show max (max a b) c = c by omega] at key; exact key _
    · rw [show max (max a b) c = a by omega] at key; exact key _
theorem worth_2 {x y : Str} (h : (x == y) = true) : 2 = worthF x y := by rw [worthF, if_pos (beq_iff_eq.mp h)]
theorem worth_1 {x y : Str} (h : (x == y) = false) (h' : (x == Txt.swapcase y) = true) : 1 = worthF x y := by rw [worthF, if_neg (beq_eq_false_iff_ne.mp h), if_pos (beq_iff_eq.mp h')]
theorem worth_0 {x y : Str} (h : (x == y) = false) (h' : (x == Txt.swapcase y) = false) : 0 = worthF x y := by rw [worthF, if_neg (beq_eq_false_iff_ne.mp h), if_neg (beq_eq_false_iff_ne.mp h')]
end
theorem newF_snoc {prev : List Int} {sign second : Str} {k : Nat} {us : List Value} {t : Tok} (h : IntsAre us (newF prev sign second k)) :
    IntsAre (us ++ [.int (pmax3 (prev.getD (0 + (k : Int) + 1).toNat 0) ((newF prev sign second k).getD (0 + (k : Int)).toNat 0) (prev.getD (0 + (k : Int)).toNat 0 + worthF (Txt.item second (0 + (k : Int))) sign)) t]) (newF prev sign second (k + 1)) := by
  rw [show ((0 : Int) + k + 1).toNat = k + 1 by omega, show ((0 : Int) + k).toNat = k by omega, Int.zero_add, newF]
  exact ints_snoc h
theorem tbOff_obj {a : Addr} {o o' : Obj} {own news : List (Addr × Obj)} (h : TbOff own ([(a, o)] ++ news)) : TbOff own ([(a, o')] ++ news) := by
  intro p hp q hq
  rcases List.mem_append.mp hq with hq | hq
  · rw [List.mem_singleton.mp hq]
    exact h p hp (a, o) (List.Mem.head _)
  · exact h p hp q (List.mem_append_right _ hq)
end Mine
end
section
open PySem PySem.W PyProof.Rows PySem.Calls
namespace Mine
/-! lists of pairs: a text and an int each -/
abbrev tupOb (p : Str × Int) (t u : Tok) (n : Nat) : Obj := { cls := .type "tuple", data := .seq #[.str p.1 t, .int p.2 u] n }
def PairOb (nx : List (Addr × Obj)) (v : Value) (p : Str × Int) : Prop := ∃ a t u n, v = .ref a ∧ (a, tupOb p t u n) ∈ nx
def PairsAre (nx : List (Addr × Obj)) (vs : List Value) (ps : List (Str × Int)) : Prop := vs.length = ps.length ∧ ∀ (i : Nat) (v : Value), vs[i]? = some v → ∃ p, ps[i]? = some p ∧ PairOb nx v p
theorem PairsAre.more {nx nx' : List (Addr × Obj)} {vs : List Value} {ps : List (Str × Int)} (h : PairsAre nx vs ps) (hs : ∀ p ∈ nx, p ∈ nx') : PairsAre nx' vs ps :=
  ⟨h.1, fun i v e => by obtain ⟨p, e1, a, t, u, n, e2, e3⟩ := h.2 i v e; exact ⟨p, e1, a, t, u, n, e2, hs _ e3⟩⟩
theorem PairsAre.nil {nx : List (Addr × Obj)} : PairsAre nx [] [] := ⟨rfl, fun i v e => by simp at e⟩
theorem PairsAre.snoc {nx : List (Addr × Obj)} {vs : List Value} {ps : List (Str × Int)} {v : Value} {p : Str × Int} (h : PairsAre nx vs ps) (hp : PairOb nx v p) : PairsAre nx (vs ++ [v]) (ps ++ [p]) := by
  refine ⟨by simp [h.1], fun i w e => ?_⟩
  by_cases hi : i < vs.length
  · rw [List.getElem?_append_left hi] at e
    obtain ⟨q, e1, e2⟩ := h.2 i w e
    exact ⟨q, by rw [List.getElem?_append_left (by rw [← h.1]; exact hi)]; exact e1, e2⟩
  · rw [List.getElem?_append_right (by omega)] at e
    have hz : i - vs.length = 0 := by
      rcases Nat.eq_zero_or_pos (i - vs.length) with q | q
      · exact q
      · rw [List.getElem?_eq_none (by simp; omega)] at e; cases e
    rw [hz] at e
    simp at e
    subst e
    exact ⟨p, by rw [List.getElem?_append_right (by rw [← h.1]; omega), ← h.1, hz]; rfl, hp⟩
section
variable {prog : Program} {w : World} {A : Around} {E : Value → Shared → Prop} {s : Shared} {env : Env} {h₀ : Heap} {body : List Stmt} {Q : Flow → Shared → Prop} {m₀ : Str → Option Value} {news : List (Addr × Obj)} {l : Addr} {vs : List Value} {nn : Nat}
/-- a loop over a list of pairs, its target two names -/
theorem for_pairs {σ : Type} {a b : Str} {pa pb tp pos : Pos} {kk : Nat} {iter : Expr} {prs : List (Str × Int)} (ps : σ → List (Str × Value)) (stored : List Str) (P : List (Str × Int) → σ → Prop) (c₀ : σ)
    (hh : A.handled = none) (ha : env.kindOf a = some .local) (hb : env.kindOf b = some .local) (hpk : (env.scope.kind == .class || (env.scope.kind == .module && env.locals != env.globals)) = false)
    (hs : ∀ x, foldedSetIterable iter env x = pure x) (hE : PassesOwn (model prog w) A env E)
    (hit : ∀ Q' : Value → Shared → Prop, Q' (.ref l) s → wpAny (model prog w) A (eval iter env) Q' E s)
    (hl : (l, W.listOf vs.toArray nn) ∈ news) (hP : PairsAre news vs prs) (F : Fr h₀ env.locals s.heap m₀) (N : News h₀ env.locals s.heap news) (hk : ∀ p ∈ ps c₀, m₀ p.1 = some p.2) (hp : P [] c₀)
    (turn : ∀ (c : σ) pre p post t u' (u : Str → Option Value) h tk own, prs = pre ++ p :: post → OwnOff own (news.map (·.1)) → P pre c →
      Fr h₀ env.locals h (fun z => if z = b then some (.int p.2 u') else if z = a then some (.str p.1 t) else kstB (fun z => if stored.contains z then u z else m₀ z) (ps c) z) → News h₀ env.locals h (news ++ own) →
      wpAny (model prog w) A (execs body env) (SPost h₀ env.locals news own a ps (b :: stored) m₀ (P (pre ++ [p])) { s with heap := h, toks := tk } Q) E { s with heap := h, toks := tk })
    (done : ∀ (c : σ) (u : Str → Option Value) h tk, P prs c → Fr h₀ env.locals h (fun y => if y = a then u y else kstB (fun z => if (b :: stored).contains z then u z else m₀ z) (ps c) y) → News h₀ env.locals h news → Q .next { s with heap := h, toks := tk }) :
    wpAny (model prog w) A (exec (.For (.Tuple [.Name a pa, .Name b pb] kk tp) iter body [] pos) env) Q E s := by
  have hls : s.heap.IsList l vs.toArray := News.isList N hl
  have hne : l ≠ s.heap.objs.size := Nat.ne_of_lt (Heap.lt_size (N _ hl).1)
  refine wpAny_For (hit _ (wpAny_pyIter_list hls ?_)) hs
  have WL := Walks.list (prog := prog) (w := w) hh s.heap.objs.size l hne vs.toArray
  have KT := KTurns.ofWalks (target := .Tuple [.Name a pa, .Name b pb] kk tp) WL (fun i v s' Q' E' st hQ => by
    cases v with
    | ref T => exact wpAny_letOwnedTupleGo_listiter st.1 hQ
    | _ => exact wpAny_pure hQ)
  have hlen : vs.toArray.size = prs.length := by rw [List.size_toArray]; exact hP.1
  refine ktu_loop (m := m₀) (news := news) KT ?_ ?_ ?_ ⟨⟨_, Heap.get?_push_size _ rfl, rfl, rfl⟩, hls.at fun o e => Heap.get?_push_of_some _ e⟩ (F.push _) (fun p hp => ⟨Heap.get?_push_of_some _ (N p hp).1, (N p hp).2⟩)
    (fun i m nx => nx = news ∧ ∃ c : σ, (∀ p ∈ ps c, m p.1 = some p.2) ∧ (∀ z, z ≠ a → (∀ p ∈ ps c, z ≠ p.1) → (b :: stored).contains z = false → m z = m₀ z) ∧ P (prs.take i) c) ⟨rfl, c₀, hk, fun _ _ _ _ => rfl, by simpa using hp⟩ ?_ ?_
  · intro hm
    rcases List.mem_cons.mp hm with e | hm
    · exact absurd F.ns.lt (e ▸ Nat.lt_irrefl _)
    · exact (N _ hl).2.1 ((List.mem_singleton.mp hm).symm)
  · intro q hq
    rw [List.mem_singleton.mp hq]
    exact next_is_new F
  · intro p hp hI
    exact absurd (Heap.lt_size (N p hp).1) ((List.mem_singleton.mp hI) ▸ Nat.lt_irrefl _)
  · rintro i v m₁ news₁ h₁ tk₁ own hin hPv ⟨rfl, c, hk1, hr1, hPc⟩ hoff hown hget hfp hst F₁ N₁
    have hv : vs[i]? = some v := by simpa using hPv
    obtain ⟨p, hpi, T, t, u', n, rfl, hT⟩ := hP.2 i v hv
    have hTt : h₁.IsTuple T #[.str p.1 t, .int p.2 u'] := ⟨_, (N₁ _ (List.mem_append_right _ hT)).1, rfl, _, rfl⟩
    have hI0 : h₀.get? s.heap.objs.size = none := next_is_new F
    obtain ⟨⟨oI, hoI, _⟩, _⟩ := id hst
    have hlo : h₁.get? l = some (W.listOf vs.toArray nn) := (N₁ _ (List.mem_append_right _ hl)).1
    have hIm : (s.heap.objs.size, oI) ∈ own := hfp _ (List.mem_cons.mpr (.inl rfl)) hI0 _ hoI
    refine kcp_assign (s := { s with heap := h₁, toks := tk₁ }) hh hTt ha hb hpk F₁.ns fun h₂ tk₂ hn₂ hk₂ => ?_
    have hL0 : h₀.get? env.locals = none := Heap.get?_none_of_le F₁.above
    have F₂ : Fr h₀ env.locals h₂ (fun z => if z = b then some (.int p.2 u') else if z = a then some (.str p.1 t) else m₁ z) :=
      ⟨hn₂, fun q o e => hk₂ q o (fun x => by rw [x, hL0] at e; cases e) (F₁.keep q o e), F₁.above⟩
    have N₂ : News h₀ env.locals h₂ (own ++ news₁) := fun q hq => ⟨hk₂ _ _ (N₁ q hq).2.1 (N₁ q hq).1, (N₁ q hq).2⟩
    have N₃ : News h₀ env.locals h₂ (news₁ ++ [(s.heap.objs.size, oI)]) := fun q hq => by
      rcases List.mem_append.mp hq with hq | hq
      · exact N₂ q (List.mem_append_right _ hq)
      · rw [List.mem_singleton.mp hq]; exact N₂ _ (List.mem_append_left _ hIm)
    have hsep : OwnOff [(s.heap.objs.size, oI)] (news₁.map (·.1)) := by
      intro q hq d hd e
      obtain ⟨r, hr, rfl⟩ := List.mem_map.mp hd
      rw [List.mem_singleton.mp hq] at e
      exact hoff r hr (List.mem_singleton.mpr e.symm)
    have hpre : prs = prs.take i ++ p :: prs.drop (i + 1) := by
      have ht := List.take_append_drop (i + 1) prs
      rw [List.take_add_one, hpi, List.append_assoc] at ht
      exact ht.symm
    have hsucc : prs.take (i + 1) = prs.take i ++ [p] := by rw [List.take_add_one, hpi]; rfl
    have em : (fun z => if z = b then some (Value.int p.2 u') else if z = a then some (.str p.1 t) else m₁ z) = fun z => if z = b then some (.int p.2 u') else if z = a then some (.str p.1 t) else kstB (fun z => if stored.contains z then m₁ z else m₀ z) (ps c) z := by
      funext z
      by_cases h1 : z = b
      · rw [if_pos h1, if_pos h1]
      · rw [if_neg h1, if_neg h1]
        by_cases h2 : z = a
        · rw [if_pos h2, if_pos h2]
        · rw [if_neg h2, if_neg h2]
          refine (kstB_eq hk1 fun hz => ?_).symm
          by_cases h3 : stored.contains z
          · rw [if_pos h3]
          · rw [if_neg h3]
            refine (hr1 z h2 hz ?_).symm
            rw [List.contains_cons]
            simp only [Bool.or_eq_false_iff]
            exact ⟨beq_eq_false_iff_ne.mpr h1, by simpa using h3⟩
    rw [em] at F₂
    refine wpAny_passesOwn hE (wpAny_mono (turn c (prs.take i) p (prs.drop (i + 1)) t u' m₁ h₂ tk₂ [(s.heap.objs.size, oI)] hpre hsep hPc F₂ N₃) (fun f s₂ q => ?_) fun _ _ e => e)
    have fin : SEnd h₀ env.locals news₁ [(s.heap.objs.size, oI)] a ps (b :: stored) m₀ (P (prs.take i ++ [p])) { s with heap := h₂, toks := tk₂ } s₂ → LoopStepU h₀ env.locals [s.heap.objs.size] own (fun m nx => nx = news₁ ∧ ∃ c : σ, (∀ p ∈ ps c, m p.1 = some p.2) ∧ (∀ z, z ≠ a → (∀ p ∈ ps c, z ≠ p.1) → (b :: stored).contains z = false → m z = m₀ z) ∧ P (prs.take (i + 1)) c) { s with heap := h₁, toks := tk₁ } .next s₂ := by
      rintro ⟨c', h', tk', m', news', rfl, F', N', hn, hk', hr', hP'⟩
      refine ⟨rfl, h', tk', m', news₁, rfl, F', fun q hq => ?_, hoff, rfl, c', hk', hr', by rw [hsucc]; exact hP'⟩
      rcases List.mem_append.mp hq with hq | hq
      · have hq1 := hown q hq
        have hq2 := hget q hq
        rcases List.mem_cons.mp hq1 with h2 | h2
        · rw [h2, hoI] at hq2
          have h3 : q = (s.heap.objs.size, oI) := Prod.ext h2 (Option.some.inj hq2).symm
          rw [h3]
          exact N' _ (hn _ (List.mem_append_right _ (List.mem_singleton.mpr rfl)))
        · have h2 := List.mem_singleton.mp h2
          rw [h2, hlo] at hq2
          have h3 : q = (l, W.listOf vs.toArray nn) := Prod.ext h2 (Option.some.inj hq2).symm
          rw [h3]
          exact N' _ (hn _ (List.mem_append_left _ hl))
      · exact N' q (hn q (List.mem_append_left _ hq))
    cases f with
    | ret v => exact .ret q
    | brk => exact .brk q
    | next => exact .next (fin q)
    | cont => exact .cont (fin q)
  · rintro h' tk m' news' F' N' _ ⟨rfl, c, hk1, hr1, hPc⟩
    rw [hlen, List.take_length] at hPc
    exact done c m' h' tk hPc (kst_frOut hk1 hr1 F') N'
end
end Mine
end
section
open PySem PySem.W PyProof.Rows PySem.Calls
namespace Mine
section
variable {prog : Program} {w : World} {A : Around} {E : Value → Shared → Prop} {s : Shared} {h₀ : Heap} {L : Addr} {m : Str → Option Value} {C D I : Addr} {news : List (Addr × Obj)} {env : Env}
theorem asg_pair {a b : Str} {pa pb tp : Pos} {kk : Nat} {scope : Scope} {cl : List (Str × Addr)} {h : Heap} {tk : Nat} {mC : Str → Option Value} {T : Addr} {x y : Value} {E' : Value → Shared → Prop}
    (hh : A.handled = none) (ha : scope.names.lookup a = some .local) (hb : scope.names.lookup b = some .local) (hkind : scope.kind = .function) (hn : h.Ns C mC) (ht : h.IsTuple T #[x, y]) (hI : ItOK I h) :
    wpAny (model prog w) A (letOwnedTupleGo (.Tuple [.Name a pa, .Name b pb] kk tp) (.ref I) (.ref T) >>= fun _ => assign (.Tuple [.Name a pa, .Name b pb] kk tp) (compEnvC scope cl C env) (.ref T))
      (fun _ s' => ∃ h' tk' mC', s' = { s with heap := h', toks := tk' } ∧ (∀ b o, b ≠ C → h.get? b = some o → h'.get? b = some o) ∧ h'.Ns C mC' ∧ mC' = fun z => if z = b then some y else if z = a then some x else mC z) E' { s with heap := h, toks := tk } := by
  refine wpAny_bind (hI.go ?_)
  refine kcp_assign (env := compEnvC scope cl C env) hh ht (lookup_relabel_local ha) (lookup_relabel_local hb) (by simp [compEnvC, relabel, hkind]) hn fun h' tk' hn' hk' => ?_
  exact ⟨h', tk', _, rfl, hk', hn', rfl⟩
theorem srcIn_list {lw : Addr} {ws : List Value} {mm : Nat} {I1 : Addr} (hh : A.handled = none) {h₃ : Heap} {tk₃ : Nat} {nx : List (Addr × Obj)} (N : News h₀ L h₃ nx) (hm : (lw, W.listOf ws.toArray mm) ∈ nx) (hC : C < h₃.objs.size) (hD : D < h₃.objs.size) (hsp : ∀ p ∈ nx, p.1 ≠ C ∧ p.1 ≠ D) :
    wpAny (model prog w) A (pyIter (.ref lw)) (SrcIn prog w A s C D I1 ws.length (fun j v => ws[j]? = some v) h₃) E { s with heap := h₃, toks := tk₃ } := by
  have hl : h₃.IsList lw ws.toArray := News.isList N hm
  have hne : lw ≠ h₃.objs.size := Nat.ne_of_lt (Heap.lt_size (N _ hm).1)
  refine wpAny_pyIter_list (s := { s with heap := h₃, toks := tk₃ }) hl ?_
  have e1 : ws.toArray.size = ws.length := by simp
  have e2 : (fun (i : Nat) (v : Value) => ws.toArray[i]? = some v) = fun i v => ws[i]? = some v := by funext i v; simp
  have WL := Walks.list (prog := prog) (w := w) hh h₃.objs.size lw hne ws.toArray
  rw [e1, e2] at WL
  refine ⟨h₃.objs.size, _, tk₃, _, _, rfl, rfl, fun _ _ e => Heap.get?_push_of_some _ e, Nat.le_refl _, fun i h st => by obtain ⟨o, e, hc, _⟩ := st.1; exact ⟨o, _, e, hc, by decide⟩, WL, ⟨⟨_, Heap.get?_push_size _ rfl, rfl, rfl⟩, hl.push _⟩, ?_, ?_⟩
  · intro q
    rcases List.mem_cons.mp q with q | q
    · exact Nat.lt_irrefl _ (q ▸ hC)
    · exact (hsp _ hm).1 (List.mem_singleton.mp q).symm
  · intro q
    rcases List.mem_cons.mp q with q | q
    · exact Nat.lt_irrefl _ (q ▸ hD)
    · exact (hsp _ hm).2 (List.mem_singleton.mp q).symm
/-- (word + more, worth + gain) -/
theorem elt_pair {a b c d : Str} {pa pb pc pd p1 p2 pt : Pos} {kk : Nat} {scope : Scope} {cl : List (Str × Addr)} {x y : Str} {i j : Int} {tx ty ti tj : Tok} {mC : Str → Option Value} {Q : Value → Shared → Prop}
    (hkind : scope.kind = .function) (ha : scope.names.lookup a = some .local) (hb : scope.names.lookup b = some .local) (hc : scope.names.lookup c = some .local) (hd : scope.names.lookup d = some .local)
    (da : (a == ("__debug__" : Str)) = false) (db : (b == ("__debug__" : Str)) = false) (dc : (c == ("__debug__" : Str)) = false) (dd : (d == ("__debug__" : Str)) = false)
    (hn : s.heap.Ns C mC) (va : mC a = some (.str x tx)) (vb : mC b = some (.int i ti)) (vc : mC c = some (.str y ty)) (vd : mC d = some (.int j tj)) (hlen : x.length + y.length ≤ 1000)
    (h : ∀ tk t u, Q (.ref s.heap.objs.size) { s with heap := s.heap.push (tupOb (x ++ y, i + j) t u 0), toks := tk }) :
    wpAny (model prog w) A (eval (.Tuple [.BinOp (.Name a pa) .Add (.Name c pc) p1, .BinOp (.Name b pb) .Add (.Name d pd) p2] kk pt) (compEnvC scope cl C env)) Q E s := by
  refine wpAny_Tuple (wpAny_items_cons (wpAny_BinOp (own_name ha hkind da hn va (own_name hc hkind dc hn vc (add_str (fun t tk => ?_) (by rw [sizeLine_eq]; omega))))))
  refine wpAny_items_cons (wpAny_BinOp (own_name (s := { s with toks := tk }) hb hkind db hn vb (own_name (s := { s with toks := tk }) hd hkind dd hn vd (add_int ?_))))
  exact wpAny_items_nil ⟨by rw [sizeLine_eq]; show 2 ≤ 16777216; decide, h _ _ _⟩
theorem tupOb_inj {p q : Str × Int} {t u t' u' : Tok} {n n' : Nat} (h : tupOb p t u n = tupOb q t' u' n') : p = q := by
  injection h with _ _ hd _
  injection hd with hd _
  have hd := congrArg Array.toList hd
  simp only [List.cons.injEq, and_true] at hd
  obtain ⟨h1, h2⟩ := hd
  injection h1 with h1 _
  injection h2 with h2 _
  exact Prod.ext h1 h2
def pairG (qrs : List (Str × Int)) (p : Str × Int) : List (Str × Int) := qrs.map fun q => (p.1 ++ q.1, p.2 + q.2)
theorem exec_pairs {a b c d z y : Str} {pa pb pc pd p1 p2 pt qa qb qc qd t1 t2 pz py : Pos} {kk k1 k2 : Nat} {i1 : Expr} {scope : Scope} {cl : List (Str × Addr)} {pos spos : Pos} {Q : Flow → Shared → Prop} {vs ws : List Value} {prs qrs : List (Str × Int)} {lw cc : Addr} {oc : Obj} {mm : Nat}
    (F : Fr h₀ L s.heap m) (N : News h₀ L s.heap news)
    (hsw : swapsWith (.ListComp (.Tuple [.BinOp (.Name a pa) .Add (.Name c pc) p1, .BinOp (.Name b pb) .Add (.Name d pd) p2] kk pt) [⟨.Tuple [.Name a qa, .Name b qb] k1 t1, i1, [], 0⟩, ⟨.Tuple [.Name c qc, .Name d qd] k2 t2, .Name z pz, [], 0⟩] scope pos) (some (.Name y py)) spos.line env = pure true)
    (hclos : closureFor scope env = pure cl) (hcell : ∀ y ∈ scope.names, y.2 ≠ .cell) (hkind : scope.kind = .function) (hnames : ∀ y ∈ scope.names, y.2 = .local → scope.names.lookup y.1 = some .local)
    (ha : scope.names.lookup a = some .local) (hb : scope.names.lookup b = some .local) (hc : scope.names.lookup c = some .local) (hd : scope.names.lookup d = some .local)
    (da : (a == ("__debug__" : Str)) = false) (db : (b == ("__debug__" : Str)) = false) (dc : (c == ("__debug__" : Str)) = false) (dd : (d == ("__debug__" : Str)) = false) (dz : (z == ("__debug__" : Str)) = false)
    (nab : a ≠ b) (nca : c ≠ a) (ncb : c ≠ b) (nda : d ≠ a) (ndb : d ≠ b) (ncd : c ≠ d)
    (hkz : ∀ C, (compEnvC scope cl C env).kindOf z = some .cell) (hcz : cl.lookup z = some cc)
    (hs : ∀ x, foldedSetIterable i1 env x = pure x) (hs2 : ∀ C x, foldedSetIterable (.Name z pz) (compEnvC scope cl C env) x = pure x)
    (hL : env.locals = L) (hy : env.kindOf y = some .local) (hp : (env.scope.kind == .class || (env.scope.kind == .module && env.locals != env.globals)) = false)
    (hh : A.handled = none) (hoz : oc.data = .cell (some (.ref lw))) (hmz : (cc, oc) ∈ news) (hmw : (lw, W.listOf ws.toArray mm) ∈ news)
    (hsrc : wpAny (model prog w) A (eval i1 env) (SrcAt1 prog w A E s h₀ L m news vs.length (fun i v => vs[i]? = some v)) E s)
    (hvs : PairsAre news vs prs) (hws : PairsAre news ws qrs) (hpl : ∀ p ∈ prs, p.1.length ≤ 400) (hql : ∀ p ∈ qrs, p.1.length ≤ 400) (hbig : (prs.flatMap (pairG qrs)).length ≤ 1000000)
    (k : ∀ ys D tl h' tk', PairsAre tl ys (prs.flatMap (pairG qrs)) → (∀ p ∈ tl, ∀ q ∈ news, q.1 < p.1) → Fr h₀ L h' (fun z => if z = y then some (.ref D) else m z) → News h₀ L h' ((D, LCg.lst ys) :: (tl ++ news)) → (∀ p ∈ news, p.1 < D) → (∀ p ∈ tl, p.1 ≠ D) → Q .next { s with heap := h', toks := tk' }) :
    wpAny (model prog w) A (exec (.Assign [.Name y py] (.ListComp (.Tuple [.BinOp (.Name a pa) .Add (.Name c pc) p1, .BinOp (.Name b pb) .Add (.Name d pd) p2] kk pt) [⟨.Tuple [.Name a qa, .Name b qb] k1 t1, i1, [], 0⟩, ⟨.Tuple [.Name c qc, .Name d qd] k2 t2, .Name z pz, [], 0⟩] scope pos) spos) env) Q E s := by
  clear F N
  have hg : ∀ p : Str × Int, (pairG qrs p).length = ws.length := fun p => by rw [pairG, List.length_map, hws.1]
  refine exec_comp (P := fun i v => vs[i]? = some v) hsw hclos hkind hnames hs hsrc fun it h₂ tk₂ S => ?_
  refine loop_lc2 (n2 := ws.length) (P := fun i v => vs[i]? = some v) (P2 := fun j v => ws[j]? = some v)
    (B1 := fun C v mC => ∃ T p t u n, v = .ref T ∧ (T, tupOb p t u n) ∈ news ∧ mC a = some (.str p.1 t) ∧ mC b = some (.int p.2 u))
    (B2 := fun C v mC => ∃ T q t u n, v = .ref T ∧ (T, tupOb q t u n) ∈ news ∧ mC c = some (.str q.1 t) ∧ mC d = some (.int q.2 u))
    (Rr := fun i j ys nx => ∃ tl, nx = tl ++ news ∧ (∀ p ∈ tl, ∀ q ∈ news, q.1 < p.1) ∧ PairsAre tl ys (soFar (pairG qrs) prs i j)) hcell hkind hs2 ?_ ?_ ?_ ?_ ?_ ?_ ?_ ?_ S
  · rintro i j ys nx ⟨tl, _, _, h⟩
    have := soFar_le (pairG qrs) prs i j
    rw [h.1]
    omega
  · rintro i ys nx ⟨tl, e, e2, h⟩
    exact ⟨tl, e, e2, soFar_next _ prs i _ hg ▸ h⟩
  · refine ⟨[], rfl, ?_, ?_⟩
    · intro p hp; cases hp
    · rw [soFar_zero]; exact PairsAre.nil
  · intro C I i v h tk mC ys nx E' hi hP hR hn N hI
    obtain ⟨tl, rfl, _, _⟩ := hR
    obtain ⟨p, e1, T, t, u, n, rfl, hT⟩ := hvs.2 i v hP
    have hTt : h.IsTuple T #[.str p.1 t, .int p.2 u] := ⟨_, (N _ (List.mem_append_right _ hT)).1, rfl, _, rfl⟩
    refine wpAny_mono (asg_pair hh ha hb hkind hn hTt hI) (fun _ s' q => ?_) fun _ _ e => e
    obtain ⟨h', tk', mC', e1, e2, e3, e4⟩ := q
    exact ⟨h', tk', mC', e1, e2, e3, T, p, t, u, n, rfl, hT, by rw [e4]; exact (if_neg nab).trans (if_pos rfl), by rw [e4]; exact if_pos rfl⟩
  · intro C D I i v h tk mC ys nx E' hi hP hB hR F hn N hD hsp
    obtain ⟨tl, rfl, _, _⟩ := hR
    refine cell_name (hkz C) hkind dz N hcz (List.mem_append_right _ hmz) hoz ⟨h, tk, rfl, fun _ _ e => e, fun E'' => ?_⟩
    obtain ⟨oD, eD⟩ := hD
    exact srcIn_list hh N (List.mem_append_right _ hmw) hn.lt (Heap.lt_size eD) hsp
  · intro C i v1 I2 j v h tk mC ys nx E' hi hP hj hP2 hB hR hn N hI
    obtain ⟨tl, rfl, _, _⟩ := hR
    obtain ⟨q, _, T, t, u, n, rfl, hT⟩ := hws.2 j v hP2
    obtain ⟨T1, p1, t1, u1, n1, hv1, hT1, va, vb⟩ := hB
    have hTt : h.IsTuple T #[.str q.1 t, .int q.2 u] := ⟨_, (N _ (List.mem_append_right _ hT)).1, rfl, _, rfl⟩
    refine wpAny_mono (asg_pair hh hc hd hkind hn hTt hI) (fun _ s' r => ?_) fun _ _ e => e
    obtain ⟨h', tk', mC', e1, e2, e3, e4⟩ := r
    refine ⟨h', tk', mC', e1, e2, e3, ⟨T1, p1, t1, u1, n1, hv1, hT1, ?_, ?_⟩, T, q, t, u, n, rfl, hT, ?_, ?_⟩
    · rw [e4]; exact (if_neg (Ne.symm nda)).trans ((if_neg (Ne.symm nca)).trans va)
    · rw [e4]; exact (if_neg (Ne.symm ndb)).trans ((if_neg (Ne.symm ncb)).trans vb)
    · rw [e4]; exact (if_neg ncd).trans (if_pos rfl)
    · rw [e4]; exact if_pos rfl
  · intro C i v1 j v h tk mC ys nx E' hi hP hj hP2 hB1 hB2 hR F hn N
    obtain ⟨tl, rfl, htl, hR⟩ := hR
    obtain ⟨p, hpi, T, t, u, n, rfl, hT⟩ := hvs.2 i v1 hP
    obtain ⟨q, hqj, T', t', u', n', rfl, hT'⟩ := hws.2 j v hP2
    obtain ⟨T1, p1, t1, u1, n1, hv1, hT1, va, vb⟩ := hB1
    obtain ⟨T2, q2, t2, u2, n2, hv2, hT2, vc, vd⟩ := hB2
    have hp1 : p1 = p := by
      injection hv1 with hv1
      subst hv1
      have e1 := (N _ (List.mem_append_right _ hT)).1
      have e2 := (N _ (List.mem_append_right _ hT1)).1
      exact tupOb_inj (Option.some.inj (e2.symm.trans e1))
    have hq2 : q2 = q := by
      injection hv2 with hv2
      subst hv2
      have e1 := (N _ (List.mem_append_right _ hT')).1
      have e2 := (N _ (List.mem_append_right _ hT2)).1
      exact tupOb_inj (Option.some.inj (e2.symm.trans e1))
    subst hp1
    subst hq2
    have l1 := hpl p1 (List.mem_of_getElem? hpi)
    have l2 := hql q2 (List.mem_of_getElem? hqj)
    refine elt_pair hkind ha hb hc hd da db dc dd hn va vb vc vd (by omega) fun tk' tt uu => ?_
    have hL : L < h.objs.size := F.ns.lt
    refine ⟨_, tk', (h.objs.size, tupOb (p1.1 ++ q2.1, p1.2 + q2.2) tt uu 0) :: (tl ++ news), rfl, fun _ _ e => Heap.get?_push_of_some _ e, fun r hr => ?_, fun r hr => ?_, (h.objs.size, tupOb (p1.1 ++ q2.1, p1.2 + q2.2) tt uu 0) :: tl, rfl, fun r hr r2 hr2 => ?_, ?_⟩
    · rcases List.mem_cons.mp hr with rfl | hr
      · exact ⟨Heap.get?_push_size _ rfl, Ne.symm (Nat.ne_of_lt hL), next_is_new F⟩
      · exact ⟨Heap.get?_push_of_some _ (N r hr).1, (N r hr).2⟩
    · rcases List.mem_cons.mp hr with rfl | hr
      · exact .inr (Nat.le_refl _)
      · exact .inl hr
    · rcases List.mem_cons.mp hr with rfl | hr
      · exact Heap.lt_size (N r2 (List.mem_append_right _ hr2)).1
      · exact htl r hr r2 hr2
    · have hb2 : (pairG qrs p1)[j]? = some (p1.1 ++ q2.1, p1.2 + q2.2) := by rw [pairG, List.getElem?_map, hqj]; rfl
      rw [soFar_snoc hpi hb2]
      exact (hR.more fun r hr => List.Mem.tail _ hr).snoc ⟨_, tt, uu, 0, rfl, List.Mem.head _⟩
  · intro C D I Z h tk mC ys nx ap hlt H hR
    obtain ⟨tl, rfl, htl, hR⟩ := hR
    refine post_A hL hy hp ap H fun h' tk' F' N' o' => ?_
    rw [hvs.1, soFar_all] at hR
    exact k ys D tl h' tk' hR htl F' N' hlt fun p hp => o' p (List.mem_append_left _ hp)
end
end Mine
end
section
open PySem PySem.W PyProof.Rows PySem.Calls
namespace Mine
def waysP (y : Str) : List (Str × Int) := [(y, 2), (Txt.swapcase y, 1), (Str.empty, 0)]
def wordsF (first : Str) : Nat → List (Str × Int)
  | 0 => [(Str.empty, 0)]
  | i + 1 => (wordsF first i).flatMap (pairG (waysP ((signsOf first).getD i Str.empty)))
def bestStep (second : Str) (b : Int) (p : Str × Int) : Int := if ellF second (midF p.1) 0 = true then (if p.2 > b then p.2 else b) else b
def bestF (first second : Str) : Int := (wordsF first first.length).foldl (bestStep second) (-1)
theorem wordsF_count (first : Str) : ∀ i, (wordsF first i).length = 3 ^ i
  | 0 => rfl
  | i + 1 => by rw [wordsF, flatMap_len _ 3 (fun p => by rw [pairG, List.length_map]; rfl), wordsF_count first i, Nat.pow_succ]
theorem getD_signs {first : Str} (h : ∀ y ∈ signsOf first, (Txt.swapcase y).length = 1) (i : Nat) (hi : i < first.length) : ((signsOf first).getD i Str.empty).length = 1 ∧ (Txt.swapcase ((signsOf first).getD i Str.empty)).length = 1 := by
  have hl : i < (signsOf first).length := by rw [signsOf_length]; exact hi
  have e : (signsOf first).getD i Str.empty = (signsOf first)[i] := by rw [List.getD_eq_getElem?_getD, List.getElem?_eq_getElem hl]; rfl
  have hm : (signsOf first)[i] ∈ signsOf first := List.getElem_mem hl
  rw [e]
  exact ⟨signsOf_one hm, h _ hm⟩
theorem wordsF_len {first : Str} (h : ∀ y ∈ signsOf first, (Txt.swapcase y).length = 1) : ∀ i, i ≤ first.length → ∀ p ∈ wordsF first i, p.1.length ≤ i
  | 0, _ => fun p hp => by rw [List.mem_singleton.mp hp]; decide
  | i + 1, hi => fun p hp => by
    obtain ⟨q, hq, hp⟩ := List.mem_flatMap.mp hp
    obtain ⟨r, hr, rfl⟩ := List.mem_map.mp hp
    have hl := wordsF_len h i (by omega) q hq
    obtain ⟨g1, g2⟩ := getD_signs h i (by omega)
    have hr1 : r.1.length ≤ 1 := by
      rw [waysP] at hr
      rcases List.mem_cons.mp hr with rfl | hr
      · exact Nat.le_of_eq g1
      · rcases List.mem_cons.mp hr with rfl | hr
        · exact Nat.le_of_eq g2
        · rw [List.mem_singleton.mp hr]; decide
    show (q.1 ++ r.1).length ≤ i + 1
    rw [str_append_len]
    omega
theorem words_room {first : Str} {i : Nat} (hf : first.length ≤ 8) (hi : i < first.length) (qrs : List (Str × Int)) (hq : qrs.length = 3) : ((wordsF first i).flatMap (pairG qrs)).length ≤ 1000000 := by
  rw [flatMap_len _ 3 (fun p => by rw [pairG, List.length_map, hq]), wordsF_count]
  have h1 : 3 ^ i ≤ 3 ^ 8 := Nat.pow_le_pow_right (by decide) (by omega)
  omega
theorem wantF_le (word : Str) : (wantF word).length ≤ 3 + 4 * word.length := by
  unfold wantF
  rw [str_append_len]
  have e3 : (Str.ofString "...").length = 3 := rfl
  have h : (Txt.join (Str.ofString "") ((signsOf word).map fun y => y ++ Str.ofString "...")).length ≤ 4 * word.length := by
    refine Nat.le_trans (joinLen_le 4 _ ?_) (by rw [List.length_map, signsOf_length]; exact Nat.le_refl _)
    intro a ha; obtain ⟨b, hb, rfl⟩ := List.mem_map.mp ha; rw [str_append_len, signsOf_one hb]; decide
  omega
theorem bestStep_snoc (second : Str) (pre : List (Str × Int)) (p : Str × Int) : (pre ++ [p]).foldl (bestStep second) (-1) = bestStep second (pre.foldl (bestStep second) (-1)) p := by
  rw [List.foldl_append]; rfl
/-- the call of a def that calls further: more room -/
abbrev Cl2 (prog : Program) (w : World) (K : Frag) (p : Program) (loose : List Str) (mean : ExcName → Option Value) (mg mb : Str → Option Value) (f : Addr) (news : List (Addr × Obj)) (pre : Prop) (vs : List Value) (R : Tok → Value) : Prop :=
  ∀ (dp un : Nat) (gd : Option (List Code)) (cn : Str) (cs : Scope) (a : Addr) (ccd : Value) (cl : List (Str × Addr)) (outer : List Env) (A₀ : Around) (base h₀ : Heap) (L : Addr) (m : Str → Option Value) (s : Shared) (Q E : Value → Shared → Prop),
    Below A₀ base outer h₀ → Fr h₀ L s.heap m → K.In h₀ → News h₀ L s.heap news → Top p loose mean mg mb h₀ → cs.kind = .function →
    pre → dp + 10 < recursionLimit → un + 100 < cLine → CbRet h₀ L m news s Q R →
      wpAny (model prog w) (ktrTop dp un gd cn cs L a ccd cl outer) (call (.ref f) vs) Q E s
end Mine
end
section
open PySem PySem.W PyProof.Rows PySem.Calls
namespace Mine
def evensL {α : Type} : List α → List α
  | [] => []
  | [a] => [a]
  | a :: _ :: r => a :: evensL r
def oddsL {α : Type} (l : List α) : List α := evensL (l.drop 1)
theorem pick_evens (vs : List Value) (h : vs.length ≤ 8) : (slicePick vs.toArray none none (some 2)).toList = evensL vs := by
  match vs, h with
  | [], _ =>
    have hE : sliceRange (sliceBounds none none (some 2) 0).1 (sliceBounds none none (some 2) 0).2.1 (sliceBounds none none (some 2) 0).2.2 = [] := by decide
    show ((sliceRange (sliceBounds none none (some 2) 0).1 (sliceBounds none none (some 2) 0).2.1 (sliceBounds none none (some 2) 0).2.2).filterMap (([] : List Value).toArray[·]?)).toArray.toList = _
    rw [hE]; rfl
  | [a], _ =>
    have hE : sliceRange (sliceBounds none none (some 2) 1).1 (sliceBounds none none (some 2) 1).2.1 (sliceBounds none none (some 2) 1).2.2 = [0] := by decide
    show ((sliceRange (sliceBounds none none (some 2) 1).1 (sliceBounds none none (some 2) 1).2.1 (sliceBounds none none (some 2) 1).2.2).filterMap (([a] : List Value).toArray[·]?)).toArray.toList = _
    rw [hE]; rfl
  | [a, b], _ =>
    have hE : sliceRange (sliceBounds none none (some 2) 2).1 (sliceBounds none none (some 2) 2).2.1 (sliceBounds none none (some 2) 2).2.2 = [0] := by decide
    show ((sliceRange (sliceBounds none none (some 2) 2).1 (sliceBounds none none (some 2) 2).2.1 (sliceBounds none none (some 2) 2).2.2).filterMap (([a, b] : List Value).toArray[·]?)).toArray.toList = _
    rw [hE]; rfl
  | [a, b, c], _ =>
    have hE : sliceRange (sliceBounds none none (some 2) 3).1 (sliceBounds none none (some 2) 3).2.1 (sliceBounds none none (some 2) 3).2.2 = [0, 2] := by decide
    show ((sliceRange (sliceBounds none none (some 2) 3).1 (sliceBounds none none (some 2) 3).2.1 (sliceBounds none none (some 2) 3).2.2).filterMap (([a, b, c] : List Value).toArray[·]?)).toArray.toList = _
    rw [hE]; rfl
  | [a, b, c, d], _ =>
    have hE : sliceRange (sliceBounds none none (some 2) 4).1 (sliceBounds none none (some 2) 4).2.1 (sliceBounds none none (some 2) 4).2.2 = [0, 2] := by decide
    show ((sliceRange (sliceBounds none none (some 2) 4).1 (sliceBounds none none (some 2) 4).2.1 (sliceBounds none none (some 2) 4).2.2).filterMap (([a, b, c, d] : List Value).toArray[·]?)).toArray.toList = _
    rw [hE]; rfl
  | [a, b, c, d, e], _ =>
    have hE : sliceRange (sliceBounds none none (some 2) 5).1 (sliceBounds none none (some 2) 5).2.1 (sliceBounds none none (some 2) 5).2.2 = [0, 2, 4] := by decide
    show ((sliceRange (sliceBounds none none (some 2) 5).1 (sliceBounds none none (some 2) 5).2.1 (sliceBounds none none (some 2) 5).2.2).filterMap (([a, b, c, d, e] : List Value).toArray[·]?)).toArray.toList = _
    rw [hE]; rfl
  | [a, b, c, d, e, f], _ =>
    have hE : sliceRange (sliceBounds none none (some 2) 6).1 (sliceBounds none none (some 2) 6).2.1 (sliceBounds none none (some 2) 6).2.2 = [0, 2, 4] := by decide
    show ((sliceRange (sliceBounds none none (some 2) 6).1 (sliceBounds none none (some 2) 6).2.1 (sliceBounds none none (some 2) 6).2.2).filterMap (([a, b, c, d, e, f] : List Value).toArray[·]?)).toArray.toList = _
    rw [hE]; rfl
  | [a, b, c, d, e, f, g], _ =>
    have hE : sliceRange (sliceBounds none none (some 2) 7).1 (sliceBounds none none (some 2) 7).2.1 (sliceBounds none none (some 2) 7).2.2 = [0, 2, 4, 6] := by decide
    show ((sliceRange (sliceBounds none none (some 2) 7).1 (sliceBounds none none (some 2) 7).2.1 (sliceBounds none none (some 2) 7).2.2).filterMap (([a, b, c, d, e, f, g] : List Value).toArray[·]?)).toArray.toList = _
    rw [hE]; rfl
  | [a, b, c, d, e, f, g, i], _ =>
    have hE : sliceRange (sliceBounds none none (some 2) 8).1 (sliceBounds none none (some 2) 8).2.1 (sliceBounds none none (some 2) 8).2.2 = [0, 2, 4, 6] := by decide
    show ((sliceRange (sliceBounds none none (some 2) 8).1 (sliceBounds none none (some 2) 8).2.1 (sliceBounds none none (some 2) 8).2.2).filterMap (([a, b, c, d, e, f, g, i] : List Value).toArray[·]?)).toArray.toList = _
    rw [hE]; rfl
theorem pick_odds (vs : List Value) (h : vs.length ≤ 8) : (slicePick vs.toArray (some 1) none (some 2)).toList = oddsL vs := by
  match vs, h with
  | [], _ =>
    have hE : sliceRange (sliceBounds (some 1) none (some 2) 0).1 (sliceBounds (some 1) none (some 2) 0).2.1 (sliceBounds (some 1) none (some 2) 0).2.2 = [] := by decide
    show ((sliceRange (sliceBounds (some 1) none (some 2) 0).1 (sliceBounds (some 1) none (some 2) 0).2.1 (sliceBounds (some 1) none (some 2) 0).2.2).filterMap (([] : List Value).toArray[·]?)).toArray.toList = _
    rw [hE]; rfl
  | [a], _ =>
    have hE : sliceRange (sliceBounds (some 1) none (some 2) 1).1 (sliceBounds (some 1) none (some 2) 1).2.1 (sliceBounds (some 1) none (some 2) 1).2.2 = [] := by decide
    show ((sliceRange (sliceBounds (some 1) none (some 2) 1).1 (sliceBounds (some 1) none (some 2) 1).2.1 (sliceBounds (some 1) none (some 2) 1).2.2).filterMap (([a] : List Value).toArray[·]?)).toArray.toList = _
    rw [hE]; rfl
  | [a, b], _ =>
    have hE : sliceRange (sliceBounds (some 1) none (some 2) 2).1 (sliceBounds (some 1) none (some 2) 2).2.1 (sliceBounds (some 1) none (some 2) 2).2.2 = [1] := by decide
    show ((sliceRange (sliceBounds (some 1) none (some 2) 2).1 (sliceBounds (some 1) none (some 2) 2).2.1 (sliceBounds (some 1) none (some 2) 2).2.2).filterMap (([a, b] : List Value).toArray[·]?)).toArray.toList = _
    rw [hE]; rfl
  | [a, b, c], _ =>
    have hE : sliceRange (sliceBounds (some 1) none (some 2) 3).1 (sliceBounds (some 1) none (some 2) 3).2.1 (sliceBounds (some 1) none (some 2) 3).2.2 = [1] := by decide
    show ((sliceRange (sliceBounds (some 1) none (some 2) 3).1 (sliceBounds (some 1) none (some 2) 3).2.1 (sliceBounds (some 1) none (some 2) 3).2.2).filterMap (([a, b, c] : List Value).toArray[·]?)).toArray.toList = _
    rw [hE]; rfl
  | [a, b, c, d], _ =>
    have hE : sliceRange (sliceBounds (some 1) none (some 2) 4).1 (sliceBounds (some 1) none (some 2) 4).2.1 (sliceBounds (some 1) none (some 2) 4).2.2 = [1, 3] := by decide
    show ((sliceRange (sliceBounds (some 1) none (some 2) 4).1 (sliceBounds (some 1) none (some 2) 4).2.1 (sliceBounds (some 1) none (some 2) 4).2.2).filterMap (([a, b, c, d] : List Value).toArray[·]?)).toArray.toList = _
    rw [hE]; rfl
  | [a, b, c, d, e], _ =>
    have hE : sliceRange (sliceBounds (some 1) none (some 2) 5).1 (sliceBounds (some 1) none (some 2) 5).2.1 (sliceBounds (some 1) none (some 2) 5).2.2 = [1, 3] := by decide
    show ((sliceRange (sliceBounds (some 1) none (some 2) 5).1 (sliceBounds (some 1) none (some 2) 5).2.1 (sliceBounds (some 1) none (some 2) 5).2.2).filterMap (([a, b, c, d, e] : List Value).toArray[·]?)).toArray.toList = _
    rw [hE]; rfl
  | [a, b, c, d, e, f], _ =>
    have hE : sliceRange (sliceBounds (some 1) none (some 2) 6).1 (sliceBounds (some 1) none (some 2) 6).2.1 (sliceBounds (some 1) none (some 2) 6).2.2 = [1, 3, 5] := by decide
    show ((sliceRange (sliceBounds (some 1) none (some 2) 6).1 (sliceBounds (some 1) none (some 2) 6).2.1 (sliceBounds (some 1) none (some 2) 6).2.2).filterMap (([a, b, c, d, e, f] : List Value).toArray[·]?)).toArray.toList = _
    rw [hE]; rfl
  | [a, b, c, d, e, f, g], _ =>
    have hE : sliceRange (sliceBounds (some 1) none (some 2) 7).1 (sliceBounds (some 1) none (some 2) 7).2.1 (sliceBounds (some 1) none (some 2) 7).2.2 = [1, 3, 5] := by decide
    show ((sliceRange (sliceBounds (some 1) none (some 2) 7).1 (sliceBounds (some 1) none (some 2) 7).2.1 (sliceBounds (some 1) none (some 2) 7).2.2).filterMap (([a, b, c, d, e, f, g] : List Value).toArray[·]?)).toArray.toList = _
    rw [hE]; rfl
  | [a, b, c, d, e, f, g, i], _ =>
    have hE : sliceRange (sliceBounds (some 1) none (some 2) 8).1 (sliceBounds (some 1) none (some 2) 8).2.1 (sliceBounds (some 1) none (some 2) 8).2.2 = [1, 3, 5, 7] := by decide
    show ((sliceRange (sliceBounds (some 1) none (some 2) 8).1 (sliceBounds (some 1) none (some 2) 8).2.1 (sliceBounds (some 1) none (some 2) 8).2.2).filterMap (([a, b, c, d, e, f, g, i] : List Value).toArray[·]?)).toArray.toList = _
    rw [hE]; rfl
theorem strs_evens : ∀ {vs : List Value} {rs : List Str}, StrsAre vs rs → StrsAre (evensL vs) (evensL rs)
  | _, _, .nil => .nil
  | _, _, .cons y t .nil => .cons y t .nil
  | _, _, .cons y t (.cons z u r) => .cons y t (strs_evens r)
theorem strs_odds {vs : List Value} {rs : List Str} (h : StrsAre vs rs) : StrsAre (oddsL vs) (oddsL rs) := by
  cases h with
  | nil => exact .nil
  | cons y t r => exact strs_evens r
section
variable {prog : Program} {w : World} {A : Around} {E : Value → Shared → Prop} {s : Shared} {h₀ : Heap} {L : Addr} {m : Str → Option Value} {C D I : Addr} {news : List (Addr × Obj)} {env : Env}
theorem slice_evens {value slice : Expr} {l : Addr} {vs : List Value} {rs : List Str} {nn : Nat} {u : Tok} {ops : List Value} {Q : Value → Shared → Prop} (F : Fr h₀ L s.heap m) (N : News h₀ L s.heap news) (hm : (l, W.listOf vs.toArray nn) ∈ news) (hS : StrsAre vs rs) (h8 : rs.length ≤ 8)
    (h : ∀ D us h', StrsAre us (evensL rs) → Fr h₀ L h' m → News h₀ L h' ((D, W.listOf us.toArray 0) :: news) → Q (.ref D) { s with heap := h' })
    (hs : subscripted slice false (.ref l) (.ref s.heap.objs.size) = operate ops (getItem (.ref l) (.ref s.heap.objs.size))) (ht : ∀ r, letTemporaryGo value (.ref l) r = pure ()) :
    wpAny (model prog w) A (subscriptTail value slice (.ref l) (.ref s.heap.objs.size)) Q E { s with heap := s.heap.push { cls := .type "slice", data := .fields #[.none, .none, .int 2 u] } } := by
  have h8' : vs.length ≤ 8 := by rw [strs_len hS]; exact h8
  refine slice_list3 F N (News.isList N hm) IsPart.none IsPart.none (IsPart.int _ _) (by decide) (fun h' F' N' => ?_) hs ht (by rw [List.size_toArray, sizeLine_eq]; omega)
  have e := pick_evens vs h8'
  have e2 : slicePick vs.toArray none none (some 2) = (evensL vs).toArray := by rw [← e, Array.toArray_toList]
  rw [e2] at N'
  exact h _ _ h' (strs_evens hS) F' N'
theorem slice_odds {value slice : Expr} {l : Addr} {vs : List Value} {rs : List Str} {nn : Nat} {u v : Tok} {ops : List Value} {Q : Value → Shared → Prop} (F : Fr h₀ L s.heap m) (N : News h₀ L s.heap news) (hm : (l, W.listOf vs.toArray nn) ∈ news) (hS : StrsAre vs rs) (h8 : rs.length ≤ 8)
    (h : ∀ D us h', StrsAre us (oddsL rs) → Fr h₀ L h' m → News h₀ L h' ((D, W.listOf us.toArray 0) :: news) → Q (.ref D) { s with heap := h' })
    (hs : subscripted slice false (.ref l) (.ref s.heap.objs.size) = operate ops (getItem (.ref l) (.ref s.heap.objs.size))) (ht : ∀ r, letTemporaryGo value (.ref l) r = pure ()) :
    wpAny (model prog w) A (subscriptTail value slice (.ref l) (.ref s.heap.objs.size)) Q E { s with heap := s.heap.push { cls := .type "slice", data := .fields #[.int 1 v, .none, .int 2 u] } } := by
  have h8' : vs.length ≤ 8 := by rw [strs_len hS]; exact h8
  refine slice_list3 F N (News.isList N hm) (IsPart.int _ _) IsPart.none (IsPart.int _ _) (by decide) (fun h' F' N' => ?_) hs ht (by rw [List.size_toArray, sizeLine_eq]; omega)
  have e := pick_odds vs h8'
  have e2 : slicePick vs.toArray (some 1) none (some 2) = (oddsL vs).toArray := by rw [← e, Array.toArray_toList]
  rw [e2] at N'
  exact h _ _ h' (strs_odds hS) F' N'
/-- as eval_strs, its list named -/
theorem exec_strs {elt i1 : Expr} {x y : Str} {px py : Pos} {scope : Scope} {cl : List (Str × Addr)} {pos spos : Pos} {n : Nat} {P : Nat → Value → Prop} {Q : Flow → Shared → Prop} (rs : List Str) (hrs : rs.length = n) (F : Fr h₀ L s.heap m)
    (hsw : swapsWith (.ListComp elt [⟨.Name x px, i1, [], 0⟩] scope pos) (some (.Name y py)) spos.line env = pure true)
    (hclos : closureFor scope env = pure cl) (hcell : ∀ y ∈ scope.names, y.2 ≠ .cell) (hkind : scope.kind = .function) (hnames : ∀ y ∈ scope.names, y.2 = .local → scope.names.lookup y.1 = some .local) (hx : scope.names.lookup x = some .local)
    (hs : ∀ x, foldedSetIterable i1 env x = pure x)
    (hL : env.locals = L) (hy : env.kindOf y = some .local) (hp : (env.scope.kind == .class || (env.scope.kind == .module && env.locals != env.globals)) = false)
    (hsrc : wpAny (model prog w) A (eval i1 env) (SrcAt1 prog w A E s h₀ L m news n P) E s) (hn : n ≤ 1000000)
    (helt : ∀ C j v z h tk mC (E' : Value → Shared → Prop), rs[j]? = some z → P j v → mC x = some v → Fr h₀ L h m → h.Ns C mC → News h₀ L h news →
      wpAny (model prog w) A (eval elt (compEnvC scope cl C env)) (fun z' s' => ∃ tk' t', z' = .str z t' ∧ s' = { s with heap := h, toks := tk' }) E' { s with heap := h, toks := tk })
    (hfin : ∀ D ys h' tk', StrsAre ys rs → Fr h₀ L h' (fun z => if z = y then some (.ref D) else m z) → News h₀ L h' ((D, LCg.lst ys) :: news) → (∀ p ∈ news, p.1 < D) → Q .next { s with heap := h', toks := tk' }) :
    wpAny (model prog w) A (exec (.Assign [.Name y py] (.ListComp elt [⟨.Name x px, i1, [], 0⟩] scope pos) spos) env) Q E s := by
  clear F
  refine exec_comp (P := P) hsw hclos hkind hnames hs hsrc fun it h₂ tk₂ S => ?_
  refine loop_lc1 (P := P) (B := fun C v mC => mC x = some v) (Rr := fun j ys nx => nx = news ∧ StrsAre ys (rs.take j)) hcell hkind ?_ ⟨rfl, by simp only [List.take_zero]; exact .nil⟩ ?_ ?_ ?_ S
  · rintro j ys nx ⟨_, h⟩
    rw [strs_len h, List.length_take]
    omega
  · intro C I j v h tk mC ys nx E' hj hP hR hn N
    refine wpAny_mono (asg_name hx hkind hn) (fun _ s' q => ?_) fun _ _ e => e
    obtain ⟨h', tk', mC', e1, e2, e3, e4⟩ := q
    exact ⟨h', tk', mC', e1, e2, e3, by rw [e4]; exact if_pos rfl⟩
  · intro C j v h tk mC ys nx E' hj hP hB hR F hn N
    obtain ⟨e, hR⟩ := hR
    subst e
    have hj' : j < rs.length := by omega
    refine wpAny_mono (helt C j v _ h tk mC E' (List.getElem?_eq_getElem hj') hP hB F hn N) (fun y s' q => ?_) fun _ _ e => e
    obtain ⟨tk', t', rfl, rfl⟩ := q
    refine ⟨h, tk', nx, rfl, fun _ _ e => e, N, fun p hp => .inl hp, rfl, ?_⟩
    rw [List.take_add_one, List.getElem?_eq_getElem hj']
    exact strs_snoc hR
  · intro C D I Z h tk mC ys nx ap hlt H hR
    obtain ⟨e, hR⟩ := hR
    subst e
    refine post_A hL hy hp ap H fun h' tk' F' N' o' => hfin D ys h' tk' ?_ F' N' hlt
    rw [List.take_of_length_le (by omega)] at hR
    exact hR
/-- 'aAbB'[x % 4] -/
theorem elt_letter {xx : Str} {cs : Str} {kc : Nat} {pp px pc pb ps : Pos} {scope : Scope} {cl : List (Str × Addr)} {tx : Tok} {mC : Str → Option Value} {k : Int} {Q : Value → Shared → Prop}
    (hkind : scope.kind = .function) (hj : scope.names.lookup xx = some .local) (hdx : (xx == ("__debug__" : Str)) = false)
    (hn : s.heap.Ns C mC) (hv : mC xx = some (.int k tx)) (hlen : cs.length = 4)
    (h : ∀ tk t, Q (.str (Txt.item cs (k.fmod 4)) t) { s with toks := tk }) :
    wpAny (model prog w) A (eval (.Subscript (.Constant (.str cs) kc pp) (.BinOp (.Name xx px) .Mod (.Constant (.int 4) 0 pc) pb) ps) (compEnvC scope cl C env)) Q E s := by
  have h0 : 0 ≤ k.fmod 4 := fmod_lo _ (by decide)
  have h1 : k.fmod 4 < 4 := fmod_hi _ (by decide)
  refine Subscript_ (wpAny_Constant_str (wpAny_BinOp (own_name (s := { s with toks := s.toks + 1 }) hj hkind hdx hn hv (wpAny_Constant_int (mod_int (by decide) ?_)))))
  exact item_str (fitsSsize_of (N := 9223372036854775808) (by omega) (by omega) (Int.le_refl _)) (by omega) (by omega) fun _ => h _ _
theorem walks_weak {fp wr : List Addr} {n : Nat} {P P' : Nat → Value → Prop} {St : Nat → Heap → Prop} (W : Walks prog w A I fp wr n P St) (h : ∀ i v, P i v → P' i v) : Walks prog w A I fp wr n P' St where
  sub := W.sub
  frame := W.frame
  done := W.done
  self := W.self
  item := fun i s Q E hi st hQ => W.item i s Q E hi st fun v h' tk hP => hQ v h' tk (h i v hP)
theorem srcAt1_ints {ax : Addr} {vs : List Value} {ls : List Int} {nn : Nat} {h₁ : Heap} {tk₁ : Nat} {news' : List (Addr × Obj)} (hh : A.handled = none) (F : Fr h₀ L h₁ m) (N : News h₀ L h₁ news') (hm : (ax, W.listOf vs.toArray nn) ∈ news') (hI : IntsAre vs ls) (hs : ∀ p ∈ news, p ∈ news') :
    SrcAt1 prog w A E s h₀ L m news ls.length (fun i v => ∃ k t, ls[i]? = some k ∧ v = .int k t) (.ref ax) { s with heap := h₁, toks := tk₁ } := by
  intro Q' hQ
  refine srcTop_list (s := { s with heap := h₁, toks := tk₁ }) hh F (cb_drop N hs) (News.isList N hm) fun it h' S => ?_
  refine hQ it h' tk₁ ?_
  obtain ⟨I, fp, St, e1, e2, e3, e4, e5, e6, WL, e7, e8, e9⟩ := S
  have e : vs.toArray.size = ls.length := by rw [List.size_toArray]; exact hI.length
  rw [e] at WL
  refine ⟨I, fp, St, e1, e2, e3, e4, e5, e6, walks_weak WL (fun i v hv => ?_), e7, e8, e9⟩
  obtain ⟨k, t, h1, h2⟩ := IntsAre.at hI i v (by simpa using hv)
  exact ⟨k, t, h2, h1⟩
end
def lettersF (ns : List Int) : List Str := ((ns ++ [0, 1, 3, 2, 2]).take 8).map fun (x : Int) => Txt.item (Str.ofString "aAbB") (x.fmod 4)
theorem lettersF_len (ns : List Int) : (lettersF ns).length ≤ 8 := by
  unfold lettersF
  rw [List.length_map, List.length_take]
  omega
theorem letter_one (k : Int) : (Txt.item (Str.ofString "aAbB") (k.fmod 4)).length = 1 := by
  have h0 : 0 ≤ k.fmod 4 := fmod_lo _ (by decide)
  have h1 : k.fmod 4 < 4 := fmod_hi _ (by decide)
  generalize k.fmod 4 = j at h0 h1
  have : j = 0 ∨ j = 1 ∨ j = 2 ∨ j = 3 := by omega
  rcases this with rfl | rfl | rfl | rfl <;> decide
theorem lettersF_one {ns : List Int} {a : Str} (h : a ∈ lettersF ns) : a.length = 1 := by
  obtain ⟨x, _, rfl⟩ := List.mem_map.mp h
  exact letter_one x
theorem evensL_mem {α : Type} {a : α} : ∀ {l : List α}, a ∈ evensL l → a ∈ l
  | [], h => h
  | [_], h => h
  | b :: c :: r, h => by
    rcases List.mem_cons.mp h with rfl | h
    · exact List.Mem.head _
    · exact List.Mem.tail _ (List.Mem.tail _ (evensL_mem h))
theorem oddsL_mem {α : Type} {a : α} {l : List α} (h : a ∈ oddsL l) : a ∈ l := List.mem_of_mem_drop (evensL_mem h)
theorem evensL_length {α : Type} : ∀ l : List α, (evensL l).length = (l.length + 1) / 2
  | [] => by simp [evensL]
  | [_] => by simp [evensL]
  | b :: c :: r => by rw [evensL, List.length_cons, evensL_length r, List.length_cons, List.length_cons]; omega
theorem oddsL_length {α : Type} (l : List α) : (oddsL l).length = l.length / 2 := by
  unfold oddsL
  rw [evensL_length, List.length_drop]
  omega
end Mine
end
section
open PySem PySem.W PyProof.Rows PySem.Calls
namespace Mine
/-- what the second law asks of its two words -/
structure PureB (first second : Str) : Prop where
  sw1 : ∀ y ∈ signsOf first, (Txt.swapcase y).length = 1
  sw2 : ∀ y ∈ signsOf second, (Txt.swapcase y).length = 1
  w1 : ∀ p ∈ wordsF first first.length, Txt.contains (wantF p.1) E3 = true ∧ Txt.split (wantF p.1) E3 = midF p.1
  w2 : ∀ p ∈ wordsF second second.length, Txt.contains (wantF p.1) E3 = true ∧ Txt.split (wantF p.1) E3 = midF p.1
  b1 : bestF first second = keptF first second
  b2 : bestF second first = keptF first second
  told1 : ∀ sp : Int, 0 ≤ sp → lev first.cps.toList (wantF second).cps.toList (2 * ((wantF second).length : Int) - keptF first second + sp) = 2 * ((wantF second).length : Int) - keptF first second
  back1 : lev (wantF second).cps.toList first.cps.toList (2 * ((wantF second).length : Int) - keptF first second - 1) = 2 * ((wantF second).length : Int) - keptF first second
  told2 : ∀ sp : Int, 0 ≤ sp → lev second.cps.toList (wantF first).cps.toList (2 * ((wantF first).length : Int) - keptF first second + sp) = 2 * ((wantF first).length : Int) - keptF first second
  back2 : lev (wantF first).cps.toList second.cps.toList (2 * ((wantF first).length : Int) - keptF first second - 1) = 2 * ((wantF first).length : Int) - keptF first second
end Mine
end
section
open PySem PySem.W PyProof.Rows
namespace Mine
theorem subCost_cases (x y : Str) : subCost x y = 0 ∨ subCost x y = 1 ∨ subCost x y = 2 := by
  unfold subCost
  split
  · exact .inl rfl
  · split
    · exact .inr (.inl rfl)
    · exact .inr (.inr rfl)
theorem cst_lo (c d : Nat) : 0 ≤ cst c d := by have := subCost_cases (S [c]) (S [d]); unfold cst; omega
theorem cst_hi (c d : Nat) : cst c d ≤ 2 := by have := subCost_cases (S [c]) (S [d]); unfold cst; omega
theorem cst_self (c : Nat) : cst c c = 0 := by unfold cst subCost; rw [if_pos rfl]
theorem cst_comm (c d : Nat) : cst c d = cst d c := by
  unfold cst subCost
  by_cases h : S [c] = S [d]
  · rw [if_pos h, if_pos h.symm]
  · have h' : ¬ S [d] = S [c] := fun e => h e.symm
    rw [if_neg h, if_neg h']
    by_cases h2 : Txt.lower (S [c]) = Txt.lower (S [d])
    · rw [if_pos h2, if_pos h2.symm]
    · have h2' : ¬ Txt.lower (S [d]) = Txt.lower (S [c]) := fun e => h2 e.symm
      rw [if_neg h2, if_neg h2']
/-- what a pair is worth -/
def wt (c d : Nat) : Int := 2 - cst d c
theorem wt_lo (c d : Nat) : 0 ≤ wt c d := by have := cst_hi d c; unfold wt; omega
theorem wt_hi (c d : Nat) : wt c d ≤ 2 := by have := cst_lo d c; unfold wt; omega
theorem wt_comm (c d : Nat) : wt c d = wt d c := by unfold wt; rw [cst_comm]
/-- the distance, from the front -/
def ed : List Nat → List Nat → Int
  | [], y => 2 * (y.length : Int)
  | c :: x, [] => 2 * ((c :: x).length : Int)
  | c :: x, d :: y => min (min (ed x (d :: y)) (ed (c :: x) y) + 2) (ed x y + cst d c)
termination_by x y => x.length + y.length
theorem ed_nil (y : List Nat) : ed [] y = 2 * (y.length : Int) := by rw [ed]
theorem ed_nil_r (x : List Nat) : ed x [] = 2 * (x.length : Int) := by cases x <;> rw [ed]
theorem ed_cons (c d : Nat) (x y : List Nat) : ed (c :: x) (d :: y) = min (min (ed x (d :: y)) (ed (c :: x) y) + 2) (ed x y + cst d c) := by rw [ed]
theorem ed_left (c : Nat) (x y : List Nat) : ed (c :: x) y ≤ ed x y + 2 := by
  cases y with
  | nil => rw [ed_nil_r, ed_nil_r, List.length_cons]; omega
  | cons d y => rw [ed_cons]; omega
theorem ed_right (d : Nat) : ∀ (x y : List Nat), ed x (d :: y) ≤ ed x y + 2
  | [], y => by rw [ed_nil, ed_nil, List.length_cons]; omega
  | c :: x, y => by rw [ed_cons]; omega
theorem ed_pair (c d : Nat) (x y : List Nat) : ed (c :: x) (d :: y) ≤ ed x y + cst d c := by rw [ed_cons]; omega
theorem ed_lefts : ∀ (u x y : List Nat), ed (u ++ x) y ≤ 2 * (u.length : Int) + ed x y
  | [], x, y => by simp
  | c :: u, x, y => by
    have h1 := ed_left c (u ++ x) y
    have h2 := ed_lefts u x y
    rw [List.cons_append, List.length_cons]; omega
theorem ed_rights (x : List Nat) : ∀ (v y : List Nat), ed x (v ++ y) ≤ 2 * (v.length : Int) + ed x y
  | [], y => by simp
  | d :: v, y => by
    have h1 := ed_right d x (v ++ y)
    have h2 := ed_rights x v y
    rw [List.cons_append, List.length_cons]; omega
theorem ed_append : ∀ (n : Nat) (x y x2 y2 : List Nat), x.length + y.length ≤ n → ed (x ++ x2) (y ++ y2) ≤ ed x y + ed x2 y2
  | _, [], y, x2, y2, _ => by rw [ed_nil]; exact ed_rights x2 y y2
  | _, c :: x, [], x2, y2, _ => by rw [ed_nil_r]; exact ed_lefts (c :: x) x2 y2
  | 0, c :: x, d :: y, x2, y2, h => by simp at h
  | n + 1, c :: x, d :: y, x2, y2, h => by
    simp only [List.length_cons] at h
    have h1 := ed_append n x (d :: y) x2 y2 (by simp only [List.length_cons]; omega)
    have h2 := ed_append n (c :: x) y x2 y2 (by simp only [List.length_cons]; omega)
    have h3 := ed_append n x y x2 y2 (by omega)
    rw [ed_cons c d x y]
    rw [List.cons_append, List.cons_append, ed_cons]
    rw [List.cons_append] at h1 h2
    omega
theorem ed_sum (x y x2 y2 : List Nat) : ed (x ++ x2) (y ++ y2) ≤ ed x y + ed x2 y2 := ed_append _ x y x2 y2 (Nat.le_refl _)
theorem ed_fit : ∀ (x y : List Nat), x.length ≤ y.length → ed x y ≤ 2 * (y.length : Int)
  | [], y, _ => by rw [ed_nil]; omega
  | c :: x, [], h => by simp at h
  | c :: x, d :: y, h => by
    simp only [List.length_cons] at h ⊢
    have h1 := ed_pair c d x y
    have h2 := ed_fit x y (by omega)
    have h3 := cst_hi d c
    omega
/-- a pairing in order, and its worth -/
inductive Al : List Nat → List Nat → Int → Prop
  | nil : Al [] [] 0
  | left (c : Nat) {x y : List Nat} {n : Int} : Al x y n → Al (c :: x) y n
  | right (d : Nat) {x y : List Nat} {n : Int} : Al x y n → Al x (d :: y) n
  | pair (c d : Nat) {x y : List Nat} {n : Int} : Al x y n → Al (c :: x) (d :: y) (n + wt c d)
theorem al_nil : ∀ y : List Nat, Al [] y 0
  | [] => .nil
  | d :: y => .right d (al_nil y)
theorem al_nil_r : ∀ x : List Nat, Al x [] 0
  | [] => .nil
  | c :: x => .left c (al_nil_r x)
theorem al_symm {x y : List Nat} {n : Int} (h : Al x y n) : Al y x n := by
  induction h with
  | nil => exact .nil
  | left c _ ih => exact .right c ih
  | right d _ ih => exact .left d ih
  | pair c d _ ih => rw [wt_comm]; exact .pair d c ih
theorem al_hi {x y : List Nat} {n : Int} (h : Al x y n) : n ≤ 2 * (x.length : Int) := by
  induction h with
  | nil => simp
  | left c _ ih => rw [List.length_cons]; omega
  | right d _ ih => exact ih
  | pair c d _ ih => have := wt_hi c d; rw [List.length_cons]; omega
theorem ed_al : ∀ (n : Nat) (x y : List Nat), x.length + y.length ≤ n → ∃ k, Al x y k ∧ 2 * (y.length : Int) - k ≤ ed x y
  | _, [], y, _ => ⟨0, al_nil y, by rw [ed_nil]; omega⟩
  | _, c :: x, [], _ => ⟨0, al_nil_r _, by rw [ed_nil_r]; simp; omega⟩
  | 0, c :: x, d :: y, h => by simp at h
  | n + 1, c :: x, d :: y, h => by
    simp only [List.length_cons] at h
    obtain ⟨k1, a1, e1⟩ := ed_al n x (d :: y) (by simp only [List.length_cons]; omega)
    obtain ⟨k2, a2, e2⟩ := ed_al n (c :: x) y (by simp only [List.length_cons]; omega)
    obtain ⟨k3, a3, e3⟩ := ed_al n x y (by omega)
    rw [ed_cons]
    simp only [List.length_cons] at e1 ⊢
    by_cases h1 : ed x y + cst d c ≤ min (ed x (d :: y)) (ed (c :: x) y) + 2
    · refine ⟨k3 + wt c d, .pair c d a3, ?_⟩
      unfold wt
      omega
    · by_cases h2 : ed x (d :: y) ≤ ed (c :: x) y
      · exact ⟨k1, .left c a1, by omega⟩
      · exact ⟨k2, .right d a2, by omega⟩
/-- the greatest worth -/
def kx : List Nat → List Nat → Int
  | [], _ => 0
  | _ :: _, [] => 0
  | c :: x, d :: y => max (max (kx x (d :: y)) (kx (c :: x) y)) (kx x y + wt c d)
termination_by x y => x.length + y.length
theorem kx_nil (y : List Nat) : kx [] y = 0 := by rw [kx]
theorem kx_nil_r (x : List Nat) : kx x [] = 0 := by cases x <;> rw [kx]
theorem kx_cons (c d : Nat) (x y : List Nat) : kx (c :: x) (d :: y) = max (max (kx x (d :: y)) (kx (c :: x) y)) (kx x y + wt c d) := by rw [kx]
theorem kx_al : ∀ (n : Nat) (x y : List Nat), x.length + y.length ≤ n → Al x y (kx x y)
  | _, [], y, _ => by rw [kx_nil]; exact al_nil y
  | _, c :: x, [], _ => by rw [kx_nil_r]; exact al_nil_r _
  | 0, c :: x, d :: y, h => by simp at h
  | n + 1, c :: x, d :: y, h => by
    simp only [List.length_cons] at h
    have a1 := kx_al n x (d :: y) (by simp only [List.length_cons]; omega)
    have a2 := kx_al n (c :: x) y (by simp only [List.length_cons]; omega)
    have a3 := kx_al n x y (by omega)
    rw [kx_cons]
    by_cases h1 : max (kx x (d :: y)) (kx (c :: x) y) ≤ kx x y + wt c d
    · rw [show max (max (kx x (d :: y)) (kx (c :: x) y)) (kx x y + wt c d) = kx x y + wt c d by omega]
      exact .pair c d a3
    · by_cases h2 : kx (c :: x) y ≤ kx x (d :: y)
      · rw [show max (max (kx x (d :: y)) (kx (c :: x) y)) (kx x y + wt c d) = kx x (d :: y) by omega]
        exact .left c a1
      · rw [show max (max (kx x (d :: y)) (kx (c :: x) y)) (kx x y + wt c d) = kx (c :: x) y by omega]
        exact .right d a2
theorem kx_left (c : Nat) (x y : List Nat) : kx x y ≤ kx (c :: x) y := by
  cases y with
  | nil => rw [kx_nil_r, kx_nil_r]; exact Int.le_refl _
  | cons d y => rw [kx_cons]; omega
theorem kx_right (d : Nat) (x y : List Nat) : kx x y ≤ kx x (d :: y) := by
  cases x with
  | nil => rw [kx_nil, kx_nil]; exact Int.le_refl _
  | cons c x => rw [kx_cons]; omega
theorem al_kx {x y : List Nat} {n : Int} (h : Al x y n) : n ≤ kx x y := by
  induction h with
  | nil => rw [kx_nil]; exact Int.le_refl _
  | left c _ ih => exact Int.le_trans ih (kx_left c _ _)
  | right d _ ih => exact Int.le_trans ih (kx_right d _ _)
  | pair c d _ ih => rw [kx_cons]; omega
theorem kx_comm (x y : List Nat) : kx x y = kx y x :=
  Int.le_antisymm (al_kx (al_symm (kx_al _ x y (Nat.le_refl _)))) (al_kx (al_symm (kx_al _ y x (Nat.le_refl _))))
theorem kx_hi (x y : List Nat) : kx x y ≤ 2 * (x.length : Int) := al_hi (kx_al _ x y (Nat.le_refl _))
theorem kx_lo (x y : List Nat) : 0 ≤ kx x y := by
  have : Al x y 0 := by
    induction x with
    | nil => exact al_nil y
    | cons c x ih => exact .left c ih
  exact al_kx this
/-- the want, as signs -/
def dots : List Nat := [46, 46, 46]
def wantL : List Nat → List Nat
  | [] => dots
  | c :: r => dots ++ c :: wantL r
theorem wantL_append (c : Nat) (b : List Nat) : ∀ a, wantL (a ++ c :: b) = wantL a ++ c :: wantL b
  | [] => rfl
  | d :: a => by rw [List.cons_append, wantL, wantL_append c b a, wantL]; simp
theorem wantL_reverse : ∀ a, (wantL a).reverse = wantL a.reverse
  | [] => rfl
  | c :: r => by
    rw [wantL, List.reverse_append, List.reverse_cons, wantL_reverse r, List.reverse_cons, wantL_append]
    simp [wantL, dots]
theorem wantL_filter : ∀ a : List Nat, (∀ c ∈ a, c ≠ 46) → (wantL a).filter (fun d => d ≠ 46) = a
  | [], _ => by decide
  | c :: r, h => by
    have hc := h c (List.Mem.head _)
    rw [wantL, List.filter_append, List.filter_cons, if_pos (by simpa using hc), wantL_filter r fun d hd => h d (List.Mem.tail _ hd)]
    rfl
theorem al_filter {x y : List Nat} {n : Int} (h : Al x y n) (hx : ∀ c ∈ x, wt c 46 = 0) : Al x (y.filter fun d => d ≠ 46) n := by
  induction h with
  | nil => exact .nil
  | left c _ ih => exact .left c (ih fun d hd => hx d (List.Mem.tail _ hd))
  | right d _ ih =>
    rw [List.filter_cons]
    split
    · exact .right d (ih hx)
    · exact ih hx
  | pair c d _ ih =>
    have ih := ih fun d hd => hx d (List.Mem.tail _ hd)
    rw [List.filter_cons]
    split
    · exact .pair c d ih
    · rename_i hd
      have hd : d = 46 := by simpa using hd
      rw [hd, hx c (List.Mem.head _), Int.add_zero]
      exact .left c ih
theorem al_want {x o : List Nat} {n : Int} (h : Al x o n) : ∀ (u P : List Nat), (u.length + x.length ≤ 3 ∨ (u.length + x.length ≤ 4 ∧ (P ≠ [] ∨ o ≠ []))) → ed (u ++ x) (P ++ wantL o) ≤ 2 * ((P ++ wantL o).length : Int) - n := by
  induction h with
  | nil =>
    intro u P hH
    rw [List.append_nil]
    have : ed u (P ++ wantL []) ≤ 2 * ((P ++ wantL []).length : Int) := by
      refine ed_fit _ _ ?_
      rw [List.length_append]
      have e : (wantL []).length = 3 := rfl
      rw [e]
      rcases hH with hH | ⟨hH, hP | hP⟩
      · simp at hH; omega
      · have := List.length_pos_iff.mpr hP; simp at hH; omega
      · exact absurd rfl hP
    omega
  | left c _ ih =>
    intro u P hH
    have := ih (u ++ [c]) P (by simpa [Nat.add_assoc, Nat.add_comm 1] using hH)
    rw [List.append_assoc, List.singleton_append] at this
    exact this
  | right d h ih =>
    rename_i x y n
    intro u P hH
    have := ih u (P ++ dots ++ [d]) (by
      rcases hH with hH | ⟨hH, _⟩
      · exact .inl hH
      · exact .inr ⟨hH, .inl (by simp)⟩)
    rw [wantL]
    rw [show P ++ dots ++ [d] ++ wantL y = P ++ (dots ++ d :: wantL y) by simp] at this
    exact this
  | pair c d h ih =>
    rename_i x y n
    intro u P hH
    have hu : u.length + (x.length + 1) ≤ 4 := by
      rcases hH with hH | ⟨hH, _⟩
      · rw [List.length_cons] at hH; omega
      · rw [List.length_cons] at hH; exact hH
    have i1 := ih [] [] (.inl (by simp; omega))
    rw [List.nil_append, List.nil_append] at i1
    have i2 : ed u (P ++ dots) ≤ 2 * ((P ++ dots).length : Int) := ed_fit _ _ (by rw [List.length_append]; have : dots.length = 3 := rfl; omega)
    have i3 := ed_sum u (P ++ dots) (c :: x) (d :: wantL y)
    have i4 := ed_pair c d x (wantL y)
    rw [wantL, ← List.append_assoc]
    have hl : ((P ++ dots ++ d :: wantL y).length : Int) = (P ++ dots).length + 1 + (wantL y).length := by
      rw [List.length_append, List.length_cons]; omega
    rw [hl]
    unfold wt
    omega
/-- the distance of a word and another one's want -/
theorem ed_want {x o : List Nat} (hx : x.length ≤ 4) (ho : o ≠ []) (hx46 : ∀ c ∈ x, wt c 46 = 0) (ho46 : ∀ c ∈ o, c ≠ 46) : ed x (wantL o) = 2 * ((wantL o).length : Int) - kx x o := by
  have h1 := al_want (kx_al _ x o (Nat.le_refl _)) [] [] (.inr ⟨by simpa using hx, .inr ho⟩)
  rw [List.nil_append, List.nil_append] at h1
  obtain ⟨k, a, e⟩ := ed_al _ x (wantL o) (Nat.le_refl _)
  have a2 := al_filter a hx46
  rw [wantL_filter o ho46] at a2
  have := al_kx a2
  omega
end Mine
end
section
open PySem PySem.W PyProof.Rows
namespace Mine
theorem ed_path : ∀ (n : Nat) (x y y' : List Nat), x.length + y.length ≤ n → y' <:+ y → ∃ x', x' <:+ x ∧ ed x' y' ≤ ed x y
  | n, x, [], y', _, hs => by
    have e : y' = [] := List.suffix_nil.mp hs
    subst e
    exact ⟨x, List.suffix_refl x, Int.le_refl _⟩
  | n, [], d :: y, y', _, hs => by
    refine ⟨[], List.suffix_refl [], ?_⟩
    rw [ed_nil, ed_nil]
    have := hs.length_le
    omega
  | 0, c :: x, d :: y, _, h, _ => by simp at h
  | n + 1, c :: x, d :: y, y', h, hs => by
    simp only [List.length_cons] at h
    rcases List.suffix_cons_iff.mp hs with e | hs'
    · rw [e]
      exact ⟨c :: x, List.suffix_refl _, Int.le_refl _⟩
    · obtain ⟨x1, s1, e1⟩ := ed_path n x (d :: y) y' (by simp only [List.length_cons]; omega) hs
      obtain ⟨x2, s2, e2⟩ := ed_path n (c :: x) y y' (by simp only [List.length_cons]; omega) hs'
      obtain ⟨x3, s3, e3⟩ := ed_path n x y y' (by omega) hs'
      have hc := cst_lo d c
      rw [ed_cons]
      by_cases h1 : ed x y + cst d c ≤ min (ed x (d :: y)) (ed (c :: x) y) + 2
      · exact ⟨x3, s3.trans (List.suffix_cons c x), by omega⟩
      · by_cases h2 : ed x (d :: y) ≤ ed (c :: x) y
        · exact ⟨x1, s1.trans (List.suffix_cons c x), by omega⟩
        · exact ⟨x2, s2, by omega⟩
/-- the distance of two beginnings -/
def edP (a b : List Nat) (i j : Nat) : Int := ed (a.take i).reverse (b.take j).reverse
theorem take_rev (a : List Nat) (i : Nat) (h : i < a.length) : (a.take (i + 1)).reverse = a.getD i 0 :: (a.take i).reverse := by
  rw [List.take_add_one, List.getElem?_eq_getElem h, List.getD_eq_getElem?_getD, List.getElem?_eq_getElem h]
  simp
theorem edP_zero (a b : List Nat) (j : Nat) (h : j ≤ b.length) : edP a b 0 j = 2 * (j : Int) := by
  unfold edP
  rw [List.take_zero, List.reverse_nil, ed_nil, List.length_reverse, List.length_take]
  omega
theorem edP_zero_r (a b : List Nat) (i : Nat) (h : i ≤ a.length) : edP a b i 0 = 2 * (i : Int) := by
  unfold edP
  rw [List.take_zero, List.reverse_nil, ed_nil_r, List.length_reverse, List.length_take]
  omega
theorem edP_succ (a b : List Nat) (i j : Nat) (hi : i < a.length) (hj : j < b.length) :
    edP a b (i + 1) (j + 1) = min (min (edP a b i (j + 1)) (edP a b (i + 1) j) + 2) (edP a b i j + cst (b.getD j 0) (a.getD i 0)) := by
  unfold edP
  rw [take_rev a i hi, take_rev b j hj, ed_cons]
theorem edP_one (a b : List Nat) (j : Nat) (ha : 0 < a.length) (hj : j + 1 ≤ b.length) : edP a b 1 (j + 1) ≤ 2 * ((j : Int) + 1) := by
  unfold edP
  have h := ed_fit (a.take 1).reverse (b.take (j + 1)).reverse (by rw [List.length_reverse, List.length_reverse, List.length_take, List.length_take]; omega)
  rw [List.length_reverse, List.length_take] at h
  omega
theorem edP_below (a b : List Nat) (j : Nat) (ha : 0 < a.length) (hj : j + 1 ≤ b.length) : ∃ k, k < a.length ∧ edP a b (k + 1) (j + 1) ≤ ed a.reverse b.reverse := by
  have hs : (b.take (j + 1)).reverse <:+ b.reverse := List.reverse_suffix.mpr (List.take_prefix _ _)
  obtain ⟨x', s, e⟩ := ed_path _ a.reverse b.reverse _ (Nat.le_refl _) hs
  have hx : x' = (a.take x'.length).reverse := by
    have h1 := List.suffix_iff_eq_drop.mp s
    have h2 := s.length_le
    rw [List.length_reverse] at h1 h2
    rw [List.drop_reverse] at h1
    rw [show a.length - (a.length - x'.length) = x'.length by omega] at h1
    exact h1
  have hl := s.length_le
  rw [List.length_reverse] at hl
  have e' : edP a b x'.length (j + 1) ≤ ed a.reverse b.reverse := by
    unfold edP; rw [← hx]; exact e
  rcases Nat.eq_zero_or_pos x'.length with h0 | h0
  · rw [h0, edP_zero a b _ hj] at e'
    have := edP_one a b j ha hj
    exact ⟨0, ha, by show edP a b 1 (j + 1) ≤ _; omega⟩
  · exact ⟨x'.length - 1, by omega, by rw [show x'.length - 1 + 1 = x'.length by omega]; exact e'⟩
theorem pmin_eq (a b : Int) : pmin a b = min a b := by unfold pmin; split <;> omega
/-- the row as it stands in the midst of a turn -/
structure RowAt (a b : List Nat) (j i : Nat) (st : List Int × Int × Int × Int) : Prop where
  len : st.1.length = a.length
  row : ∀ k, k < a.length → st.1.getD k 0 = if k < i then edP a b (k + 1) (j + 1) else edP a b (k + 1) j
  dist : st.2.1 = edP a b i j
  res : st.2.2.1 = if i = 0 then 2 * (j : Int) else edP a b i (j + 1)
  low : ∀ k, k < i → st.2.2.2 ≤ edP a b (k + 1) (j + 1)
theorem rowAt_inn {a b : List Nat} {j : Nat} (hj : j < b.length) {row : List Int} (hl : row.length = a.length) (hr : ∀ k, k < a.length → row.getD k 0 = edP a b (k + 1) j) :
    ∀ i, i ≤ a.length → RowAt a b j i (inn (b.getD j 0) a row j i)
  | 0, _ => ⟨hl, fun k hk => by rw [if_neg (by omega)]; exact hr k hk, by rw [edP_zero a b j (by omega)]; show (j : Int) * 2 = _; omega, by rw [if_pos rfl]; show (j : Int) * 2 = _; omega, fun k hk => by omega⟩
  | i + 1, hi => by
    have ih := rowAt_inn hj hl hr i (by omega)
    rw [inn]
    generalize inn (b.getD j 0) a row j i = st at ih
    have hrow := ih.row i (by omega)
    rw [if_neg (by omega)] at hrow
    have hnew : pmin (pmin st.2.2.1 (st.1.getD i 0) + 2) (st.2.1 + cst (b.getD j 0) (a.getD i 0)) = edP a b (i + 1) (j + 1) := by
      rw [edP_succ a b i j (by omega) hj, pmin_eq, pmin_eq, hrow, ih.dist, ih.res]
      have hc0 := cst_lo (b.getD j 0) (a.getD i 0)
      have hc2 := cst_hi (b.getD j 0) (a.getD i 0)
      by_cases h0 : i = 0
      · subst h0
        rw [if_pos rfl, edP_zero a b j (by omega), edP_zero a b (j + 1) (by omega)]
        generalize edP a b (0 + 1) j = e
        generalize cst (b.getD j 0) (a.getD 0 0) = c at hc0 hc2
        omega
      · rw [if_neg h0]
    unfold inStep
    simp only [hnew]
    obtain ⟨r, hgen⟩ : ∃ r, r = edP a b (i + 1) (j + 1) := ⟨_, rfl⟩
    rw [← hgen]
    refine ⟨by rw [List.length_set]; exact ih.len, fun k hk => ?_, hrow, ?_, ?_⟩
    · show (st.1.set i r).getD k 0 = _
      by_cases hki : k = i
      · have e1 : (st.1.set i r).getD k 0 = r := by
          rw [hki, List.getD_eq_getElem?_getD, List.getElem?_set_self (by rw [ih.len]; omega)]
          rfl
        rw [e1, if_pos (show k < i + 1 by omega), hki]
        exact hgen
      · rw [List.getD_eq_getElem?_getD, List.getElem?_set_ne (fun e => hki e.symm), ← List.getD_eq_getElem?_getD, ih.row k hk]
        by_cases h1 : k < i
        · rw [if_pos h1, if_pos (show k < i + 1 by omega)]
        · rw [if_neg h1, if_neg (show ¬ k < i + 1 by omega)]
    · exact hgen.trans (if_neg (Nat.succ_ne_zero i)).symm
    · intro k hk
      show (if r < st.2.2.2 then r else st.2.2.2) ≤ _
      by_cases hki : k = i
      · rw [hki, ← hgen]
        split <;> omega
      · have := ih.low k (by omega)
        split <;> omega
/-- the table after some turns -/
structure TabAt' (a b : List Nat) (mc : Int) (j : Nat) (st : List Int × Int × Bool) : Prop where
  len : st.1.length = a.length
  row : ∀ k, k < a.length → st.1.getD k 0 = edP a b (k + 1) j
  res : 0 < j → st.2.1 = edP a b a.length j
  ok : ed a.reverse b.reverse ≤ mc → st.2.2 = true
theorem tabAt_outt {a b : List Nat} {mc : Int} (ha : 0 < a.length) : ∀ j, j ≤ b.length → TabAt' a b mc j (outt a b mc (row0 a.length) j)
  | 0, _ => by
    refine ⟨row0_length _, fun k hk => ?_, fun h => by omega, fun _ => rfl⟩
    rw [edP_zero_r a b (k + 1) (by omega)]
    show (row0 a.length).getD k 0 = _
    unfold row0
    rw [List.getD_eq_getElem?_getD, List.getElem?_map, List.getElem?_range hk]
    simp only [Option.map_some, Option.getD_some]
    omega
  | j + 1, hj => by
    have ih := tabAt_outt (b := b) (mc := mc) ha j (by omega)
    rw [outt]
    generalize outt a b mc (row0 a.length) j = st at ih
    have hI := rowAt_inn (j := j) (by omega) ih.len ih.row a.length (Nat.le_refl _)
    generalize inn (b.getD j 0) a st.1 (j : Int) a.length = t at hI
    refine ⟨hI.len, fun k hk => ?_, fun _ => ?_, fun hD => ?_⟩
    · have := hI.row k hk
      rw [if_pos hk] at this
      exact this
    · have := hI.res
      rw [if_neg (by omega)] at this
      exact this
    · obtain ⟨k, hk, hle⟩ := edP_below a b j ha hj
      have hlow := hI.low k hk
      show (st.2.2 && !decide (t.2.2.2 > mc)) = true
      rw [ih.ok hD, Bool.true_and, decide_eq_false (by omega)]
      rfl
theorem edP_all (a b : List Nat) : edP a b a.length b.length = ed a.reverse b.reverse := by
  unfold edP
  rw [List.take_length, List.take_length]
theorem levCore_exact {a b : List Nat} {mc : Int} (ha : 0 < a.length) (hb : 0 < b.length) (h : ed a.reverse b.reverse ≤ mc) : levCore a b mc = ed a.reverse b.reverse := by
  have T := tabAt_outt (b := b) (mc := mc) ha b.length (Nat.le_refl _)
  unfold levCore
  simp only [T.ok h, if_true]
  rw [T.res hb, edP_all]
theorem levCore_or {a b : List Nat} {mc : Int} (ha : 0 < a.length) (hb : 0 < b.length) : levCore a b mc = ed a.reverse b.reverse ∨ levCore a b mc = mc + 1 := by
  have T := tabAt_outt (b := b) (mc := mc) ha b.length (Nat.le_refl _)
  unfold levCore
  dsimp only
  split
  · exact .inl (by rw [T.res hb, edP_all])
  · exact .inr rfl
/-- texts that share no beginning and no end -/
theorem cutA_none {x y : List Nat} (h1 : lcp x y = 0) (h2 : lcp x.reverse y.reverse = 0) : cutA x y = (x, y) := by
  rw [cutA_eq (as := x) (bs := y) (by rw [h1, List.drop_zero]) (by rw [h1, List.drop_zero]), h2, Nat.sub_zero, Nat.sub_zero, List.take_length, List.take_length]
theorem lev_short {x y : List Nat} {mc : Int} (hx : 0 < x.length) (hxy : x.length < y.length) (h1 : lcp x y = 0) (h2 : lcp x.reverse y.reverse = 0) (hmc : 2 * ((y.length : Int) - x.length) ≤ mc) (hD : ed x.reverse y.reverse ≤ mc) :
    lev x y mc = ed x.reverse y.reverse := by
  have hne : ¬ x = y := fun e => by rw [e] at hxy; exact Nat.lt_irrefl _ hxy
  have hz : ¬ (x = [] ∨ y = []) := by
    rintro (h | h)
    · rw [h] at hx; simp at hx
    · rw [h] at hxy; simp at hxy
  unfold lev
  rw [if_neg hne, cutA_none h1 h2]
  unfold levIn
  rw [if_neg hz]
  have hsw : ¬ y.length < x.length := by omega
  simp only [if_neg hsw]
  rw [if_neg (by omega)]
  exact levCore_exact hx (by omega) hD
theorem lev_long {x y : List Nat} {mc : Int} (hx : 0 < x.length) (hxy : x.length < y.length) (h1 : lcp y x = 0) (h2 : lcp y.reverse x.reverse = 0) (hD : ed x.reverse y.reverse = mc + 1) :
    lev y x mc = ed x.reverse y.reverse := by
  have hne : ¬ y = x := fun e => by rw [e] at hxy; exact Nat.lt_irrefl _ hxy
  have hz : ¬ (y = [] ∨ x = []) := by
    rintro (h | h)
    · rw [h] at hxy; simp at hxy
    · rw [h] at hx; simp at hx
  unfold lev
  rw [if_neg hne, cutA_none h1 h2]
  unfold levIn
  rw [if_neg hz]
  simp only [if_pos hxy]
  split
  · exact hD.symm
  · rcases levCore_or (a := x) (b := y) (mc := mc) hx (by omega) with h | h
    · exact h
    · rw [h, hD]
end Mine
end
section
open PySem PySem.W PyProof.Rows
open scoped List
namespace Mine
/-! texts by their signs -/
theorem S_append (a b : List Nat) : S a ++ S b = S (a ++ b) := by
  show (⟨a.toArray ++ b.toArray⟩ : Str) = ⟨(a ++ b).toArray⟩
  rw [List.append_toArray]
theorem S_list (a : List Nat) : (S a).cps.toList = a := by simp [S]
theorem S_empty : Str.empty = S [] := rfl
theorem signsOf_S (l : List Nat) : signsOf (S l) = l.map fun c => S [c] := by
  unfold signsOf
  rw [S_list]
theorem joinS : ∀ l : List Str, ∃ q : List Nat, Txt.join (Str.ofString "") l = S q ∧ q = (l.map fun x => x.cps.toList).flatten := by
  intro l
  refine ⟨_, ?_, rfl⟩
  show Builtin.Str.glued (PySem.Str.ofString "") l = _
  rw [StrLaws.glued_eq_join]
  induction l with
  | nil => rfl
  | cons a r ih =>
    cases r with
    | nil =>
      show a = S ([a.cps.toList].flatten)
      rw [show [a.cps.toList].flatten = a.cps.toList by simp, S_of a]
    | cons b r =>
      obtain ⟨l, rfl⟩ : ∃ l, a = S l := ⟨_, (S_of a).symm⟩
      show S l ++ S [] ++ Str.join (Str.ofString "") (b :: r) = _
      rw [ih, S_append, S_append, List.map_cons (l := b :: r), List.flatten_cons]
      rw [List.append_nil]
theorem join_signs (l : List Nat) : Txt.join (Str.ofString "") (l.map fun c => S [c]) = S l := by
  obtain ⟨q, h1, h2⟩ := joinS (l.map fun c => S [c])
  rw [h1, h2]
  congr 1
  clear h1 h2 q
  induction l with
  | nil => rfl
  | cons c r ih =>
    rw [List.map_cons, List.map_cons, List.flatten_cons, ih]
    rfl
theorem wantF_S (o : List Nat) : wantF (S o) = S (wantL o) := by
  unfold wantF
  obtain ⟨q, h1, h2⟩ := joinS ((signsOf (S o)).map fun y => y ++ Str.ofString "...")
  rw [h1, h2, show Str.ofString "..." = S dots from rfl, S_append, signsOf_S]
  congr 1
  clear h1 h2 q
  induction o with
  | nil => rfl
  | cons c r ih =>
    rw [wantL, ← ih]
    simp only [List.map_cons, List.flatten_cons, S_append, S_list]
    simp
theorem midF_S (l : List Nat) : midF (S l) = Str.empty :: (l.map (fun c => S [c]) ++ [Str.empty]) := by
  unfold midF
  rw [signsOf_S]
/-! the fit is a subsequence -/
open StrLaws in
theorem find3_empty (x : Str) {p : Int} (h0 : 0 ≤ p) (h1 : p ≤ x.length) : Txt.find3 x Str.empty p = p := by
  have hf : fromIndex x.length p = p.toNat := by unfold fromIndex; rw [if_neg (by omega)]; omega
  unfold Txt.find3
  rw [hf]
  have hAt : At x Str.empty x.length p.toNat := ⟨by have e : Str.empty.length = 0 := rfl; omega, by
    unfold Builtin.Str.subAt
    have e : Str.empty.length = 0 := rfl
    rw [e, Nat.add_zero]
    simp [Str.empty]
    exact Nat.min_le_left _ _⟩
  rcases occ_head_from x Str.empty p.toNat 1 (Nat.le_refl 1) with ⟨_, hn⟩ | ⟨k, r, he, hlo, _, hn⟩
  · exact absurd hAt (hn _ (Nat.le_refl _))
  · rw [he]
    show (k : Int) = p
    rcases Nat.lt_or_ge p.toNat k with q | q
    · exact absurd hAt (hn _ (Nat.le_refl _) q)
    · omega
theorem sub_skip {c : Nat} {r : List Nat} : ∀ {pre post : List Nat}, (∀ d ∈ pre, d ≠ c) → (c :: r) <+ (pre ++ c :: post) → r <+ post
  | [], post, _, h => List.cons_sublist_cons.mp h
  | d :: pre, post, hp, h => by
    rw [List.cons_append] at h
    cases h with
    | cons _ h => exact sub_skip (fun e he => hp e (List.Mem.tail _ he)) h
    | cons_cons _ h => exact absurd rfl (hp _ (List.Mem.head _))
theorem ellF_sub (xs : List Nat) : ∀ (wl : List Nat) (p : Int), 0 ≤ p → p ≤ xs.length → (ellF (S xs) (wl.map (fun c => S [c]) ++ [Str.empty]) p = true ↔ wl <+ xs.drop p.toNat)
  | [], p, h0, h1 => by
    rw [List.map_nil, List.nil_append, ellF, find3_empty _ h0 (by rw [S_len]; exact h1), if_neg (by omega), ellF]
    simp
  | c :: wl, p, h0, h1 => by
    have hf : fromIndex (S xs).length p = p.toNat := by unfold fromIndex; rw [if_neg (by omega)]; omega
    have hget : ∀ v, v < xs.length → (S xs).cps.getD v 0 = xs.getD v 0 := fun v hv => by simp [S, List.getD_eq_getElem?_getD, Array.getD, hv]
    rw [List.map_cons, List.cons_append, ellF]
    rcases StrLaws.find3_spec (S xs) c p with ⟨e, hn⟩ | ⟨k, e, hlo, hk, hc, hn⟩
    · rw [show Txt.find3 (S xs) (S [c]) p = -1 from e, if_pos (by decide)]
      rw [hf, S_len] at hn
      refine ⟨fun h => (nomatch h), fun h => ?_⟩
      exfalso
      have hm : c ∈ xs.drop p.toNat := h.subset (List.Mem.head _)
      obtain ⟨j, hj⟩ := List.mem_iff_getElem?.mp hm
      rw [List.getElem?_drop] at hj
      have hlt : p.toNat + j < xs.length := by
        rcases Nat.lt_or_ge (p.toNat + j) xs.length with q | q
        · exact q
        · rw [List.getElem?_eq_none q] at hj; cases hj
      refine hn (p.toNat + j) (by omega) hlt ?_
      rw [hget _ hlt, List.getD_eq_getElem?_getD, hj]
      rfl
    · rw [show Txt.find3 (S xs) (S [c]) p = (k : Int) from e, if_neg (by omega)]
      rw [hf] at hlo hn
      rw [S_len] at hk
      rw [hget _ hk] at hc
      have hl1 : ((S [c]).length : Int) = 1 := rfl
      rw [hl1, ellF_sub xs wl ((k : Int) + 1) (by omega) (by omega)]
      rw [show ((k : Int) + 1).toNat = k + 1 by omega]
      have hck : xs[k] = c := by rw [List.getD_eq_getElem?_getD, List.getElem?_eq_getElem hk] at hc; exact hc
      have hsplit : xs.drop p.toNat = (xs.drop p.toNat).take (k - p.toNat) ++ c :: xs.drop (k + 1) := by
        have h2 := (List.take_append_drop (k - p.toNat) (xs.drop p.toNat)).symm
        rw [List.drop_drop, show p.toNat + (k - p.toNat) = k by omega, List.drop_eq_getElem_cons hk, hck] at h2
        exact h2
      refine ⟨fun h => ?_, fun h => ?_⟩
      · rw [hsplit]
        exact (List.cons_sublist_cons.mpr h).trans (List.sublist_append_right _ _)
      · rw [hsplit] at h
        refine sub_skip (fun d hd => ?_) h
        obtain ⟨j, hj⟩ := List.mem_iff_getElem?.mp hd
        have hjl : j < k - p.toNat := by
          rcases Nat.lt_or_ge j (k - p.toNat) with q | q
          · exact q
          · rw [List.getElem?_eq_none (by rw [List.length_take]; omega)] at hj; cases hj
        rw [List.getElem?_take_of_lt hjl, List.getElem?_drop] at hj
        have := hn (p.toNat + j) (by omega) (by omega)
        rw [hget _ (by omega), List.getD_eq_getElem?_getD, hj] at this
        exact this
theorem fit_sub (xs wl : List Nat) : ellF (S xs) (midF (S wl)) 0 = true ↔ wl <+ xs := by
  rw [midF_S, ellF, find3_empty _ (Int.le_refl 0) (by omega), if_neg (by decide)]
  have e : ((0 : Int) + (Str.empty.length : Int)) = 0 := rfl
  rw [e, ellF_sub xs wl 0 (Int.le_refl 0) (by omega)]
  rfl
end Mine
end
section
open PySem PySem.W PyProof.Rows
open scoped List
namespace Mine
/-! letters -/
def L4 : List Nat := [97, 65, 98, 66]
def sw (c : Nat) : Nat := if c = 97 then 65 else if c = 65 then 97 else if c = 98 then 66 else if c = 66 then 98 else c
def IsL (l : List Nat) : Prop := ∀ c ∈ l, c ∈ L4
theorem l4_sw : ∀ c ∈ L4, Txt.swapcase (S [c]) = S [sw c] ∧ sw c ∈ L4 ∧ c ≠ 46 ∧ wt c 46 = 0 ∧ wt c (sw c) = 1 := by decide +kernel
theorem l4_worth : ∀ c ∈ L4, ∀ d ∈ L4, worthF (S [d]) (S [c]) = wt c d := by decide +kernel
theorem l4_zero : ∀ c ∈ L4, ∀ d ∈ L4, d = c ∨ d = sw c ∨ wt c d = 0 := by decide +kernel
theorem wt_self (c : Nat) : wt c c = 2 := by unfold wt; rw [cst_self]; rfl
theorem IsL.tail {c : Nat} {l : List Nat} (h : IsL (c :: l)) : IsL l := fun d hd => h d (List.Mem.tail _ hd)
theorem IsL.head {c : Nat} {l : List Nat} (h : IsL (c :: l)) : c ∈ L4 := h c (List.Mem.head _)
theorem IsL.take {l : List Nat} (h : IsL l) (n : Nat) : IsL (l.take n) := fun d hd => h d (List.mem_of_mem_take hd)
theorem IsL.rev {l : List Nat} (h : IsL l) : IsL l.reverse := fun d hd => h d (List.mem_reverse.mp hd)
/-! the table of the kept -/
theorem newF_kx {prev : List Int} {c : Nat} {X sl : List Nat} (hc : c ∈ L4) (hs : IsL sl) (hp : ∀ k, k ≤ sl.length → prev.getD k 0 = kx X (sl.take k).reverse) :
    ∀ k, k ≤ sl.length → ∀ j, j ≤ k → (newF prev (S [c]) (S sl) k).getD j 0 = kx (c :: X) (sl.take j).reverse
  | 0, _ => fun j hj => by
    have e : j = 0 := by omega
    subst e
    rw [List.take_zero, List.reverse_nil, kx_nil_r]
    rfl
  | k + 1, hk => fun j hj => by
    have ih := newF_kx hc hs hp k (by omega)
    have hlen := newF_length prev (S [c]) (S sl) k
    rw [newF, List.getD_eq_getElem?_getD]
    by_cases hjk : j ≤ k
    · rw [List.getElem?_append_left (by omega), ← List.getD_eq_getElem?_getD]
      exact ih j hjk
    · have e : j = k + 1 := by omega
      subst e
      rw [List.getElem?_append_right (by omega), hlen, Nat.sub_self]
      show pmax3 _ _ _ = _
      have hkl : k < sl.length := by omega
      have hd : sl.getD k 0 ∈ L4 := by
        rw [List.getD_eq_getElem?_getD, List.getElem?_eq_getElem hkl]
        exact hs _ (List.getElem_mem hkl)
      rw [take_rev sl k hkl, kx_cons, hp (k + 1) hk, take_rev sl k hkl, ih k (Nat.le_refl _), hp k (by omega), item_at sl (by omega) (by omega)]
      rw [show ((k : Nat) : Int).toNat = k by omega, l4_worth c hc _ hd]
      rfl
theorem rowF_kx {fl sl : List Nat} (hf : IsL fl) (hs : IsL sl) : ∀ i, i ≤ fl.length → ∀ k, k ≤ sl.length → (rowF (S fl) (S sl) i).getD k 0 = kx (fl.take i).reverse (sl.take k).reverse
  | 0, _ => fun k hk => by
    rw [List.take_zero, List.reverse_nil, kx_nil, rowF, List.getD_eq_getElem?_getD, List.getElem?_replicate]
    split <;> rfl
  | i + 1, hi => fun k hk => by
    have hil : i < fl.length := by omega
    have e : (signsOf (S fl)).getD i Str.empty = S [fl.getD i 0] := by
      rw [signsOf_S, List.getD_eq_getElem?_getD, List.getElem?_map, List.getElem?_eq_getElem hil, List.getD_eq_getElem?_getD, List.getElem?_eq_getElem hil]
      rfl
    have hc : fl.getD i 0 ∈ L4 := by
      rw [List.getD_eq_getElem?_getD, List.getElem?_eq_getElem hil]
      exact hf _ (List.getElem_mem hil)
    rw [rowF, e, take_rev fl i hil, S_len]
    exact newF_kx hc hs (rowF_kx hf hs i (by omega)) sl.length (Nat.le_refl _) k hk
theorem keptF_kx {fl sl : List Nat} (hf : IsL fl) (hs : IsL sl) : keptF (S fl) (S sl) = kx fl.reverse sl.reverse := by
  unfold keptF
  rw [S_len, S_len, rowF_kx hf hs fl.length (Nat.le_refl _) sl.length (Nat.le_refl _), List.take_length, List.take_length]
/-! the words -/
inductive Vr : List Nat → List Nat → Int → Prop
  | nil : Vr [] [] 0
  | keep (c : Nat) {x w : List Nat} {n : Int} : Vr x w n → Vr (c :: x) (c :: w) (n + 2)
  | swap (c : Nat) {x w : List Nat} {n : Int} : Vr x w n → Vr (c :: x) (sw c :: w) (n + 1)
  | drop (c : Nat) {x w : List Nat} {n : Int} : Vr x w n → Vr (c :: x) w (n + 0)
theorem sign_at {fl : List Nat} {i : Nat} (h : i < fl.length) : (signsOf (S fl)).getD i Str.empty = S [fl.getD i 0] := by
  rw [signsOf_S, List.getD_eq_getElem?_getD, List.getElem?_map, List.getElem?_eq_getElem h, List.getD_eq_getElem?_getD, List.getElem?_eq_getElem h]
  rfl
theorem ways_S {c : Nat} (hc : c ∈ L4) : waysP (S [c]) = [(S [c], 2), (S [sw c], 1), (S [], 0)] := by
  unfold waysP
  rw [(l4_sw c hc).1]
  rfl
theorem getD_l4 {fl : List Nat} (hf : IsL fl) {i : Nat} (h : i < fl.length) : fl.getD i 0 ∈ L4 := by
  rw [List.getD_eq_getElem?_getD, List.getElem?_eq_getElem h]
  exact hf _ (List.getElem_mem h)
theorem words_vr {fl : List Nat} (hf : IsL fl) : ∀ i, i ≤ fl.length → ∀ p ∈ wordsF (S fl) i, ∃ w, p.1 = S w.reverse ∧ Vr (fl.take i).reverse w p.2
  | 0, _ => fun p hp => by
    rw [List.mem_singleton.mp hp, List.take_zero]
    exact ⟨[], rfl, .nil⟩
  | i + 1, hi => fun p hp => by
    have hil : i < fl.length := by omega
    rw [wordsF, sign_at hil, ways_S (getD_l4 hf hil)] at hp
    obtain ⟨q, hq, hp⟩ := List.mem_flatMap.mp hp
    obtain ⟨w, hw, hV⟩ := words_vr hf i (by omega) q hq
    obtain ⟨r, hr, rfl⟩ := List.mem_map.mp hp
    rw [take_rev fl i hil]
    rw [hw]
    rcases List.mem_cons.mp hr with rfl | hr
    · exact ⟨_ :: w, by rw [S_append, List.reverse_cons], .keep _ hV⟩
    · rcases List.mem_cons.mp hr with rfl | hr
      · exact ⟨_ :: w, by rw [S_append, List.reverse_cons], .swap _ hV⟩
      · rw [List.mem_singleton.mp hr]
        exact ⟨w, by rw [S_append, List.append_nil], .drop _ hV⟩
theorem vr_words {fl : List Nat} (hf : IsL fl) : ∀ i, i ≤ fl.length → ∀ w n, Vr (fl.take i).reverse w n → (S w.reverse, n) ∈ wordsF (S fl) i
  | 0, _ => fun w n h => by
    rw [List.take_zero, List.reverse_nil] at h
    cases h
    exact List.Mem.head _
  | i + 1, hi => fun w n h => by
    have hil : i < fl.length := by omega
    rw [take_rev fl i hil] at h
    rw [wordsF, sign_at hil, ways_S (getD_l4 hf hil)]
    refine List.mem_flatMap.mpr ?_
    generalize hc : fl.getD i 0 = c at h
    cases h with
    | keep _ h =>
      refine ⟨_, vr_words hf i (by omega) _ _ h, List.mem_map.mpr ⟨(S [c], 2), List.Mem.head _, ?_⟩⟩
      rw [S_append, List.reverse_cons]
    | swap _ h =>
      refine ⟨_, vr_words hf i (by omega) _ _ h, List.mem_map.mpr ⟨(S [sw c], 1), List.Mem.tail _ (List.Mem.head _), ?_⟩⟩
      rw [S_append, List.reverse_cons]
    | drop _ h =>
      refine ⟨_, vr_words hf i (by omega) _ _ h, List.mem_map.mpr ⟨(S [], 0), List.Mem.tail _ (List.Mem.tail _ (List.Mem.head _)), ?_⟩⟩
      rw [S_append, List.append_nil]
theorem vr_letters {x w : List Nat} {n : Int} (h : Vr x w n) (hx : IsL x) : IsL w ∧ w.length ≤ x.length := by
  induction h with
  | nil => exact ⟨hx, Nat.le_refl _⟩
  | keep c _ ih =>
    obtain ⟨h1, h2⟩ := ih hx.tail
    refine ⟨fun d hd => ?_, by simp only [List.length_cons]; omega⟩
    rcases List.mem_cons.mp hd with rfl | hd
    · exact hx.head
    · exact h1 d hd
  | swap c _ ih =>
    obtain ⟨h1, h2⟩ := ih hx.tail
    refine ⟨fun d hd => ?_, by simp only [List.length_cons]; omega⟩
    rcases List.mem_cons.mp hd with rfl | hd
    · exact (l4_sw c hx.head).2.1
    · exact h1 d hd
  | drop c _ ih =>
    obtain ⟨h1, h2⟩ := ih hx.tail
    exact ⟨h1, by simp only [List.length_cons]; omega⟩
theorem al_lift {x w : List Nat} {c d : Nat} {n : Int} (hcd : ∀ y, w <+ y → Al x y n) : ∀ y, (d :: w) <+ y → Al (c :: x) y (n + wt c d)
  | [], h => by cases h
  | e :: y, h => by
    cases h with
    | cons _ h => exact .right e (al_lift hcd y h)
    | cons_cons _ h => exact .pair c d (hcd y h)
theorem vr_al {x w : List Nat} {n : Int} (h : Vr x w n) (hx : IsL x) : ∀ y, w <+ y → Al x y n := by
  induction h with
  | nil => exact fun y _ => al_nil y
  | keep c _ ih =>
    have := al_lift (c := c) (d := c) (ih hx.tail)
    rw [wt_self] at this
    exact this
  | swap c _ ih =>
    have := al_lift (c := c) (d := sw c) (ih hx.tail)
    rw [(l4_sw c hx.head).2.2.2.2] at this
    exact this
  | drop c _ ih =>
    intro y hy
    rw [Int.add_zero]
    exact .left c (ih hx.tail y hy)
theorem al_vr {x y : List Nat} {n : Int} (h : Al x y n) (hx : IsL x) (hy : IsL y) : ∃ w, Vr x w n ∧ w <+ y := by
  induction h with
  | nil => exact ⟨[], .nil, List.Sublist.refl _⟩
  | left c _ ih =>
    obtain ⟨w, h1, h2⟩ := ih hx.tail hy
    refine ⟨w, ?_, h2⟩
    have := Vr.drop c h1
    rw [Int.add_zero] at this
    exact this
  | right d _ ih =>
    obtain ⟨w, h1, h2⟩ := ih hx hy.tail
    exact ⟨w, h1, h2.cons d⟩
  | pair c d _ ih =>
    obtain ⟨w, h1, h2⟩ := ih hx.tail hy.tail
    rcases l4_zero c hx.head d hy.head with e | e | e
    · subst e
      rw [wt_self]
      exact ⟨_, .keep _ h1, List.cons_sublist_cons.mpr h2⟩
    · subst e
      rw [(l4_sw c hx.head).2.2.2.2]
      exact ⟨_, .swap _ h1, List.cons_sublist_cons.mpr h2⟩
    · rw [e]
      exact ⟨w, .drop c h1, h2.cons d⟩
/-! the best -/
theorem best_fold (second : Str) : ∀ (ps : List (Str × Int)) (b : Int), b ≤ ps.foldl (bestStep second) b ∧ (∀ p ∈ ps, ellF second (midF p.1) 0 = true → p.2 ≤ ps.foldl (bestStep second) b) ∧ (ps.foldl (bestStep second) b = b ∨ ∃ p ∈ ps, ellF second (midF p.1) 0 = true ∧ p.2 = ps.foldl (bestStep second) b)
  | [], b => ⟨Int.le_refl _, fun p hp => (nomatch hp), .inl rfl⟩
  | p :: ps, b => by
    obtain ⟨h1, h2, h3⟩ := best_fold second ps (bestStep second b p)
    rw [List.foldl_cons]
    generalize ps.foldl (bestStep second) (bestStep second b p) = r at h1 h2 h3
    unfold bestStep at h1 h3
    by_cases hf : ellF second (midF p.1) 0 = true
    · rw [if_pos hf] at h1 h3
      have hb : b ≤ (if p.2 > b then p.2 else b) ∧ p.2 ≤ (if p.2 > b then p.2 else b) ∧ ((if p.2 > b then p.2 else b) = p.2 ∨ (if p.2 > b then p.2 else b) = b) := by
        split
        · exact ⟨by omega, Int.le_refl _, .inl rfl⟩
        · exact ⟨Int.le_refl _, by omega, .inr rfl⟩
      refine ⟨by omega, fun q hq hqf => ?_, ?_⟩
      · rcases List.mem_cons.mp hq with rfl | hq
        · omega
        · exact h2 q hq hqf
      · rcases h3 with h3 | ⟨q, hq, hqf, e⟩
        · rcases hb.2.2 with e | e
          · exact .inr ⟨p, List.Mem.head _, hf, by omega⟩
          · exact .inl (by omega)
        · exact .inr ⟨q, List.Mem.tail _ hq, hqf, e⟩
    · rw [if_neg hf] at h1 h3
      refine ⟨h1, fun q hq hqf => ?_, ?_⟩
      · rcases List.mem_cons.mp hq with rfl | hq
        · exact absurd hqf hf
        · exact h2 q hq hqf
      · rcases h3 with h3 | ⟨q, hq, hqf, e⟩
        · exact .inl h3
        · exact .inr ⟨q, List.Mem.tail _ hq, hqf, e⟩
theorem bestF_kx {fl sl : List Nat} (hf : IsL fl) (hs : IsL sl) : bestF (S fl) (S sl) = kx fl.reverse sl.reverse := by
  unfold bestF
  rw [S_len]
  obtain ⟨h1, h2, h3⟩ := best_fold (S sl) (wordsF (S fl) fl.length) (-1)
  have up : ∀ p ∈ wordsF (S fl) fl.length, ellF (S sl) (midF p.1) 0 = true → p.2 ≤ kx fl.reverse sl.reverse := by
    intro p hp hfit
    obtain ⟨w, hw, hV⟩ := words_vr hf fl.length (Nat.le_refl _) p hp
    rw [List.take_length] at hV
    rw [hw, fit_sub] at hfit
    have h := List.reverse_sublist.mpr hfit
    rw [List.reverse_reverse] at h
    exact al_kx (vr_al hV hf.rev _ h)
  have dn : kx fl.reverse sl.reverse ≤ (wordsF (S fl) fl.length).foldl (bestStep (S sl)) (-1) := by
    obtain ⟨w, hV, hw⟩ := al_vr (kx_al _ fl.reverse sl.reverse (Nat.le_refl _)) hf.rev hs.rev
    have hm := vr_words hf fl.length (Nat.le_refl _) w (kx fl.reverse sl.reverse) (by rw [List.take_length]; exact hV)
    refine h2 _ hm ?_
    show ellF (S sl) (midF (S w.reverse)) 0 = true
    rw [fit_sub]
    have h := List.reverse_sublist.mpr hw
    rw [List.reverse_reverse] at h
    exact h
  have h0 := kx_lo fl.reverse sl.reverse
  rcases h3 with h3 | ⟨p, hp, hfit, e⟩
  · omega
  · have := up p hp hfit
    omega
end Mine
end
section
open PySem PySem.W PyProof.Rows
set_option maxRecDepth 100000
open scoped List
namespace Mine
/-! the wants of letter words, cut -/
def allW : Nat → List (List Nat)
  | 0 => [[]]
  | n + 1 => L4.flatMap fun c => (allW n).map (c :: ·)
theorem mem_allW : ∀ (w : List Nat), IsL w → w ∈ allW w.length
  | [], _ => List.Mem.head _
  | c :: w, h => List.mem_flatMap.mpr ⟨c, h.head, List.mem_map.mpr ⟨w, mem_allW w h.tail, rfl⟩⟩
def chkS (w : List Nat) : Bool := Txt.contains (wantF (S w)) E3 && decide (Txt.split (wantF (S w)) E3 = midF (S w))
theorem cut_0 : ((allW 0).all chkS) = true := by decide +kernel
theorem cut_1 : ((allW 1).all chkS) = true := by decide +kernel
theorem cut_2 : ((allW 2).all chkS) = true := by decide +kernel
theorem cut_3 : ((allW 3).all chkS) = true := by decide +kernel
theorem cut_4a : ((allW 3).all fun w => chkS (97 :: w)) = true := by decide +kernel
theorem cut_4b : ((allW 3).all fun w => chkS (65 :: w)) = true := by decide +kernel
theorem cut_4c : ((allW 3).all fun w => chkS (98 :: w)) = true := by decide +kernel
theorem cut_4d : ((allW 3).all fun w => chkS (66 :: w)) = true := by decide +kernel
theorem chkS_all (w : List Nat) (h : IsL w) (hl : w.length ≤ 4) : chkS w = true := by
  have hm := mem_allW w h
  have : w.length = 0 ∨ w.length = 1 ∨ w.length = 2 ∨ w.length = 3 ∨ w.length = 4 := by omega
  rcases this with e | e | e | e | e
  · rw [e] at hm; exact List.all_eq_true.mp cut_0 w hm
  · rw [e] at hm; exact List.all_eq_true.mp cut_1 w hm
  · rw [e] at hm; exact List.all_eq_true.mp cut_2 w hm
  · rw [e] at hm; exact List.all_eq_true.mp cut_3 w hm
  · match w, h, e with
    | c :: v, h, e =>
      have hv := mem_allW v h.tail
      have ev : v.length = 3 := by simpa using e
      rw [ev] at hv
      have hc := h.head
      simp only [L4, List.mem_cons, List.not_mem_nil, or_false] at hc
      rcases hc with rfl | rfl | rfl | rfl
      · exact List.all_eq_true.mp cut_4a v hv
      · exact List.all_eq_true.mp cut_4b v hv
      · exact List.all_eq_true.mp cut_4c v hv
      · exact List.all_eq_true.mp cut_4d v hv
/-! the letters -/
def lettersN (ns : List Int) : List Nat := ((ns ++ [0, 1, 3, 2, 2]).take 8).map fun (x : Int) => [97, 65, 98, 66].getD (x.fmod 4).toNat 0
theorem letter_eq (x : Int) : Txt.item (Str.ofString "aAbB") (x.fmod 4) = S [[97, 65, 98, 66].getD (x.fmod 4).toNat 0] ∧ [97, 65, 98, 66].getD (x.fmod 4).toNat 0 ∈ L4 := by
  have h0 : 0 ≤ x.fmod 4 := fmod_lo _ (by decide)
  have h1 : x.fmod 4 < 4 := fmod_hi _ (by decide)
  generalize x.fmod 4 = j at h0 h1
  have : j = 0 ∨ j = 1 ∨ j = 2 ∨ j = 3 := by omega
  rcases this with rfl | rfl | rfl | rfl <;> decide
theorem lettersF_eq (ns : List Int) : lettersF ns = (lettersN ns).map fun c => S [c] := by
  unfold lettersF lettersN
  rw [List.map_map]
  refine List.map_congr_left fun x _ => ?_
  exact (letter_eq x).1
theorem lettersN_isL (ns : List Int) : IsL (lettersN ns) := by
  intro c hc
  obtain ⟨x, _, rfl⟩ := List.mem_map.mp hc
  exact (letter_eq x).2
theorem lettersN_len (ns : List Int) : 5 ≤ (lettersN ns).length ∧ (lettersN ns).length ≤ 8 := by
  unfold lettersN
  rw [List.length_map, List.length_take, List.length_append]
  have : ([0, 1, 3, 2, 2] : List Int).length = 5 := rfl
  omega
theorem evensL_map {α β : Type} (f : α → β) : ∀ l : List α, evensL (l.map f) = (evensL l).map f
  | [] => rfl
  | [_] => rfl
  | a :: b :: r => by
    show f a :: evensL (r.map f) = f a :: (evensL r).map f
    rw [evensL_map f r]
theorem oddsL_map {α β : Type} (f : α → β) (l : List α) : oddsL (l.map f) = (oddsL l).map f := by
  unfold oddsL
  rw [← List.map_drop, evensL_map]
/-! the two distances -/
theorem wantL_length : ∀ o : List Nat, (wantL o).length = 3 + 4 * o.length
  | [] => rfl
  | c :: r => by
    rw [wantL, List.length_append, List.length_cons, wantL_length r, List.length_cons]
    have : dots.length = 3 := rfl
    omega
theorem wantL_head (o : List Nat) : ∃ r, wantL o = 46 :: r := by
  cases o with
  | nil => exact ⟨_, rfl⟩
  | cons c r => exact ⟨_, rfl⟩
theorem l4_ne {c : Nat} (h : c ∈ L4) : c ≠ 46 := (l4_sw c h).2.2.1
theorem lcp_want {x o : List Nat} (hx : IsL x) : lcp x (wantL o) = 0 ∧ lcp (wantL o) x = 0 := by
  obtain ⟨r, e⟩ := wantL_head o
  rw [e]
  cases x with
  | nil => exact ⟨rfl, rfl⟩
  | cons c x => exact ⟨lcp_ne (l4_ne hx.head), lcp_ne (Ne.symm (l4_ne hx.head))⟩
theorem lcp_want_rev {x o : List Nat} (hx : IsL x) : lcp x.reverse (wantL o).reverse = 0 ∧ lcp (wantL o).reverse x.reverse = 0 := by
  rw [wantL_reverse]
  exact lcp_want hx.rev
theorem want_dist {x o : List Nat} (hx : IsL x) (ho : IsL o) (hl : x.length ≤ 4) (hn : o ≠ []) : ed x.reverse (wantL o).reverse = 2 * ((wantL o).length : Int) - kx x.reverse o.reverse := by
  rw [wantL_reverse, ed_want (by rw [List.length_reverse]; exact hl) (by simpa using hn) (fun c hc => (l4_sw c (hx.rev c hc)).2.2.2.1) (fun c hc => l4_ne (ho.rev c hc)), wantL_length, wantL_length, List.length_reverse]
theorem told_ok {x o : List Nat} (hx : IsL x) (ho : IsL o) (h0 : 0 < x.length) (hl : x.length ≤ 4) (hn : 2 ≤ o.length) (sp : Int) (hsp : 0 ≤ sp) :
    lev x (wantL o) (2 * ((wantL o).length : Int) - kx x.reverse o.reverse + sp) = 2 * ((wantL o).length : Int) - kx x.reverse o.reverse := by
  have hne : o ≠ [] := fun e => by rw [e] at hn; simp at hn
  have hD := want_dist hx ho hl hne
  have hk := kx_hi x.reverse o.reverse
  rw [List.length_reverse] at hk
  have hw := wantL_length o
  rw [lev_short h0 (by omega) (lcp_want hx).1 (lcp_want_rev hx).1 (by omega) (by omega)]
  exact hD
theorem back_ok {x o : List Nat} (hx : IsL x) (ho : IsL o) (h0 : 0 < x.length) (hl : x.length ≤ 4) (hn : 2 ≤ o.length) :
    lev (wantL o) x (2 * ((wantL o).length : Int) - kx x.reverse o.reverse - 1) = 2 * ((wantL o).length : Int) - kx x.reverse o.reverse := by
  have hne : o ≠ [] := fun e => by rw [e] at hn; simp at hn
  have hD := want_dist hx ho hl hne
  have hw := wantL_length o
  rw [lev_long h0 (by omega) (lcp_want hx).2 (lcp_want_rev hx).2 (by omega)]
  exact hD
theorem words_cut {fl : List Nat} (hf : IsL fl) (hl : fl.length ≤ 4) : ∀ p ∈ wordsF (S fl) (S fl).length, Txt.contains (wantF p.1) E3 = true ∧ Txt.split (wantF p.1) E3 = midF p.1 := by
  intro p hp
  rw [S_len] at hp
  obtain ⟨w, hw, hV⟩ := words_vr hf fl.length (Nat.le_refl _) p hp
  rw [List.take_length] at hV
  obtain ⟨h1, h2⟩ := vr_letters hV hf.rev
  rw [List.length_reverse] at h2
  have h := chkS_all w.reverse h1.rev (by rw [List.length_reverse]; omega)
  unfold chkS at h
  rw [Bool.and_eq_true] at h
  rw [hw]
  exact ⟨h.1, of_decide_eq_true h.2⟩
theorem sw_ok {fl : List Nat} (hf : IsL fl) : ∀ y ∈ signsOf (S fl), (Txt.swapcase y).length = 1 := by
  intro y hy
  rw [signsOf_S] at hy
  obtain ⟨c, hc, rfl⟩ := List.mem_map.mp hy
  rw [(l4_sw c (hf c hc)).1]
  rfl
theorem pureB_of {fl sl : List Nat} (hf : IsL fl) (hs : IsL sl) (f2 : 2 ≤ fl.length) (f4 : fl.length ≤ 4) (s2 : 2 ≤ sl.length) (s4 : sl.length ≤ 4) : PureB (S fl) (S sl) := by
  have hk := keptF_kx hf hs
  have hkc := kx_comm fl.reverse sl.reverse
  refine ⟨sw_ok hf, sw_ok hs, words_cut hf f4, words_cut hs s4, (bestF_kx hf hs).trans hk.symm, (bestF_kx hs hf).trans (hkc.symm.trans hk.symm), ?_, ?_, ?_, ?_⟩
  · intro sp hsp
    rw [hk, wantF_S, S_len, S_list, S_list]
    exact told_ok hf hs (by omega) f4 s2 sp hsp
  · rw [hk, wantF_S, S_len, S_list, S_list]
    exact back_ok hf hs (by omega) f4 s2
  · intro sp hsp
    rw [hk, hkc, wantF_S, S_len, S_list, S_list]
    exact told_ok hs hf (by omega) s4 f2 sp hsp
  · rw [hk, hkc, wantF_S, S_len, S_list, S_list]
    exact back_ok hs hf (by omega) s4 f2
theorem law2_pure {ns : List Int} {first second : Str} (h1 : Txt.join (Str.ofString "") (evensL (lettersF ns)) = first) (h2 : Txt.join (Str.ofString "") (oddsL (lettersF ns)) = second) : PureB first second := by
  rw [lettersF_eq, evensL_map, join_signs] at h1
  rw [lettersF_eq, oddsL_map, join_signs] at h2
  subst h1
  subst h2
  have hl := lettersN_len ns
  have hL := lettersN_isL ns
  have e1 := evensL_length (lettersN ns)
  have e2 := oddsL_length (lettersN ns)
  exact pureB_of (fun c hc => hL c (evensL_mem hc)) (fun c hc => hL c (oddsL_mem hc)) (by omega) (by omega) (by omega) (by omega)
end Mine
end
section
set_option maxRecDepth 100000
set_option maxHeartbeats 8000000
namespace Mine
open_top he for PySem.Challenge.rw_ph0081_02
end Mine
end
section
open PySem PySem.W PyProof.Rows
set_option maxRecDepth 100000
set_option maxHeartbeats 8000000
namespace Mine
local macro_rules | `(tactic| walk_at "subscriptTail Name BinOp str int") => `(tactic| k_extra "item")
local macro_rules | `(tactic| walk_at "subscriptTail Name Slice str ref") => `(tactic| ((with_reducible show wpAny _ _ (subscriptTail _ (Expr.Slice none (some (Expr.BoolOp _ _ _)) none _) _ _) _ _ { heap := Heap.push _ { cls := _, data := Data.fields #[Value.none, Value.none, Value.none] }, gens := _, drawn := _, toks := _, os := _ }); (with_reducible rename Fr _ _ _ _ => F'); (with_reducible rename News _ _ _ _ => N'); refine slice_strN_nn_len (s := ⟨_, _, _, _, _⟩) F' N' ?_; intro _ _ _ _ _ _))
local macro_rules | `(tactic| walk_at "eval Subscript") => `(tactic| ((with_reducible show wpAny _ _ (eval (Expr.Subscript _ (Expr.Slice none (some (Expr.BoolOp _ _ _)) none _) _) _) _ _ _); (fail_if_success (with_reducible show wpAny _ _ _ (OutV _ _ _ _ _ _) _ _)); k_dflt (k_extra "upTo")))
local macro_rules | `(tactic| walk_at "call type:list") => `(tactic| ((with_reducible show wpAny _ _ (call (Value.type "list") [Value.ref _]) _ _ _); (rename IsRange _ _ _ _ _ _ _ _ => rgX); k_dflt (refine' list_row0 rfl ?kF ?kN rgX ?kb ?kz ?_; (case kF => k_asm); (case kN => k_asm); (case kb => (rw [S_len])); (case kz => assumption)); intro D' vs' c' h' tk' F' N' l1 hI'; (try k_lt l1); (try k_sweep)))
theorem lev_c (w : World) (loose : List Str) (mean : ExcName → Option Value) (mg mb : Str → Option Value) (news : List (Addr × Obj)) (xs ys : List Nat) (mc : Int) (tx ty tm : Tok) :
    Cl PySem.Challenge.rw_ph0081_02.row.prog w (he.heap_39 w.params) he.view_39 loose mean mg mb 28 news (xs.length ≤ 40 ∧ ys.length ≤ 40) [.str (S xs) tx, .str (S ys) ty, .int mc tm] (fun t => .int (lev xs ys mc) t) := by
  k_with "step" => (first | (k_unfold; (try dsimp only)) | (k_end; kc_close) | walk1 | (dsimp only; walk1) | (leave1; walk_say "STEP leave1"; (try dsimp only)) | fail "no step")
  k_with "seg" => repeat' ((fail_if_success (with_reducible show wpAny _ _ (exec (Stmt.While _ _ _ _) _) _ _ _)); k_extra "step")
  k_with "one" => (k_extra "step"; repeat' ((fail_if_success (with_reducible show wpAny _ _ (execs (List.cons _ _) _) _ _ _)); k_extra "step"))
  k_with "same" => (intro z hz; simp [hz])
  k_fill
  dsimp only [Cl, CbRet]; intros; rename_i hpre _ _ hret
  have hX : (S xs).length ≤ 40 := by rw [S_len]; exact hpre.1
  have hY : (S ys).length ≤ 40 := by rw [S_len]; exact hpre.2
  refine wpAny_call ?_
  k_dflt cell_enter
  k_with "ret" => (refine cb_retI hret ?_ (by k_asm) (by first | k_asm | (refine' cb_drop ?cbN ?cbS; (case cbN => assumption); (case cbS => kcj_all))))
  k_extra "seg"
  · k_extra "ret"
    exact lev_same (by assumption)
  rename Fr _ _ _ _ => lF'
  rename News _ _ _ _ => lN'
  refine cutI lF' lN' (Str.ofString "pre") ((lcp xs ys : Nat) : Int) ?k1 ?k2
  case k1 =>
    k_with "state" => first | (refine ⟨?_, ?_, ?_, w1_start _ _⟩ <;> first | decide | omega) | (have q := w1_turn (by assumption) (by assumption) (by assumption) (by assumption); exact ⟨q.1, by rw [S_len]; exact q.2.1, by rw [S_len]; exact q.2.2.1, q⟩)
    k_while_given ["a", "b"] (fun A B _ pre => 0 ≤ pre ∧ pre ≤ A.length ∧ pre ≤ B.length ∧ W1 A.cps.toList B.cps.toList pre) (fun A _ _ pre => A.length - pre.toNat) "pre"
    k_extra "seg"
    all_goals (rename Fr _ _ _ _ => lF')
    all_goals (refine outI lF' (by k_asm) (by exact rfl) ?_ ?_)
    all_goals first
      | exact w1_ende (by assumption) (by assumption) (by assumption) (by assumption)
      | exact w1_endy (by assumption) (by assumption)
      | exact w1_endx (by assumption) (by assumption)
      | k_extra "same"
  clear lF' lN'
  intro tk2 h2 k2 F2 N2
  try k_fold
  k_extra "step"
  rename Fr _ _ _ _ => lF'
  rename News _ _ _ _ => lN'
  refine cutS lF' lN' (Str.ofString "a") (S (xs.drop (lcp xs ys))) ?k5 ?k6
  case k5 =>
    k_extra "seg"
    (rename Fr _ _ _ _ => lF')
    refine outS lF' (by k_asm) (by exact rfl) ?_ ?_
    all_goals first
      | exact slice_from _ (by omega)
      | k_extra "same"
  clear lF' lN'
  intro tk3 h3 k3 F3 N3
  try k_fold
  k_extra "step"
  rename Fr _ _ _ _ => lF'
  rename News _ _ _ _ => lN'
  refine cutS lF' lN' (Str.ofString "b") (S (ys.drop (lcp xs ys))) ?k7 ?k8
  case k7 =>
    k_extra "seg"
    (rename Fr _ _ _ _ => lF')
    refine outS lF' (by k_asm) (by exact rfl) ?_ ?_
    all_goals first
      | exact slice_from _ (by omega)
      | k_extra "same"
  clear lF' lN'
  intro tk4 h4 k4 F4 N4
  try k_fold
  have hX' : (xs.drop (lcp xs ys)).length ≤ 40 := by rw [List.length_drop]; omega
  have hY' : (ys.drop (lcp xs ys)).length ≤ 40 := by rw [List.length_drop]; omega
  generalize hA : xs.drop (lcp xs ys) = as at *
  generalize hB : ys.drop (lcp xs ys) = bs at *
  have hXa : (S as).length ≤ 40 := by rw [S_len]; exact hX'
  have hYb : (S bs).length ≤ 40 := by rw [S_len]; exact hY'
  k_with "upTo" =>
    with_reducible rename Fr _ _ _ _ => F'
    with_reducible rename News _ _ _ _ => N'
    first
      | ((with_reducible show wpAny _ _ (eval (Expr.Subscript (Expr.Name (Str.ofString "a") _) _ _) _) _ _ _); refine cutUp F' N' (Str.ofString "a") (Str.ofString "post") (by exact rfl) (by exact rfl) ?_ ?_)
      | ((with_reducible show wpAny _ _ (eval (Expr.Subscript (Expr.Name (Str.ofString "b") _) _ _) _) _ _ _); refine cutUp F' N' (Str.ofString "b") (Str.ofString "post") (by exact rfl) (by exact rfl) ?_ ?_)
    · k_extra "seg"
      all_goals first
        | exact outVN (by k_asm) (by k_asm) (by assumption)
        | exact outVZ (by k_asm) (by k_asm) (by assumption)
    clear F' N'
    intro _ _ _ F' N' _
    try k_fold
  k_extra "seg"
  rename Fr _ _ _ _ => lF'
  rename News _ _ _ _ => lN'
  refine cutI lF' lN' (Str.ofString "post") (-((lcp as.reverse bs.reverse : Nat) : Int)) ?k9 ?k10
  case k9 =>
    k_with "item" => ((have q1 := room_x (xs := as) (ys := bs) (by assumption) (by assumption)); (have q2 := room_y (xs := as) (ys := bs) (by assumption) (by assumption)); refine item_str (fitsSsize_of (N := 9223372036854775808) (by omega) (by omega) (Int.le_refl _)) (by omega) (by omega) ?_; intro _)
    k_with "state" => first | exact W2.word (w2_start _ _) | exact W2.word (w2_turn (xs := as) (ys := bs) (by assumption) (by assumption) (by assumption) (by assumption))
    k_while_given ["a", "b"] (fun A B _ post => post ≤ 0 ∧ -post ≤ A.length ∧ -post ≤ B.length ∧ W2 A.cps.toList B.cps.toList post) (fun A _ _ post => A.length - (-post).toNat) "post"
    k_extra "seg"
    all_goals (rename Fr _ _ _ _ => lF')
    all_goals (refine outI lF' (by k_asm) (by exact rfl) ?_ ?_)
    all_goals first
      | exact w2_ende (xs := as) (ys := bs) (by assumption) (by assumption) (by assumption) (by assumption)
      | exact w2_endy (xs := as) (ys := bs) (by assumption) (by assumption)
      | exact w2_endx (xs := as) (ys := bs) (by assumption) (by assumption)
      | k_extra "same"
  clear lF' lN'
  intro tk5 h5 k5 F5 N5
  try k_fold
  k_extra "step"
  rename Fr _ _ _ _ => lF'
  rename News _ _ _ _ => lN'
  refine cutS lF' lN' (Str.ofString "a") (S (as.take (as.length - (lcp as.reverse bs.reverse)))) ?k11 ?k12
  case k11 =>
    k_extra "seg"
    (rename Fr _ _ _ _ => lF')
    refine outS lF' (by k_asm) (by exact rfl) ?_ ?_
    all_goals first
      | exact upTo_neg _ _
      | k_extra "same"
  clear lF' lN'
  intro tk6 h6 k6 F6 N6
  try k_fold
  k_extra "step"
  rename Fr _ _ _ _ => lF'
  rename News _ _ _ _ => lN'
  refine cutS lF' lN' (Str.ofString "b") (S (bs.take (bs.length - (lcp as.reverse bs.reverse)))) ?k13 ?k14
  case k13 =>
    k_extra "seg"
    (rename Fr _ _ _ _ => lF')
    refine outS lF' (by k_asm) (by exact rfl) ?_ ?_
    all_goals first
      | exact upTo_neg _ _
      | k_extra "same"
  clear lF' lN'
  intro tk7 h7 k7 F7 N7
  try k_fold
  have hLev : lev xs ys mc = levIn (as.take (as.length - lcp as.reverse bs.reverse)) (bs.take (bs.length - lcp as.reverse bs.reverse)) mc := lev_cut (by assumption) hA hB rfl rfl
  rw [hLev] at hret
  clear hLev
  have hX2 : (as.take (as.length - lcp as.reverse bs.reverse)).length ≤ 40 := by rw [List.length_take]; omega
  have hY2 : (bs.take (bs.length - lcp as.reverse bs.reverse)).length ≤ 40 := by rw [List.length_take]; omega
  generalize hA2 : as.take (as.length - lcp as.reverse bs.reverse) = a2 at *
  generalize hB2 : bs.take (bs.length - lcp as.reverse bs.reverse) = b2 at *
  have hXa2 : (S a2).length ≤ 40 := by rw [S_len]; exact hX2
  have hYb2 : (S b2).length ≤ 40 := by rw [S_len]; exact hY2
  k_extra "one"
  all_goals first
    | ((have hz : ((S a2).length : Int) = 0 := by assumption); k_extra "seg"; k_extra "ret"; exact levIn_x hz)
    | ((have hz : ((S b2).length : Int) = 0 := by assumption); k_extra "seg"; k_extra "ret"; exact levIn_y hz)
    | skip
  k_extra "one"
  k_extra "step"
  have hLev : levIn a2 b2 mc = _ := levIn_go (by assumption) (by assumption) rfl rfl
  rw [hLev] at hret
  clear hLev
  rename Fr _ _ _ _ => lF'
  rename News _ _ _ _ => lN'
  refine cutSS lF' lN' (Str.ofString "a") (Str.ofString "b") (S (srt a2 b2).1) (S (srt a2 b2).2) ?k15 ?k16
  case k15 =>
    k_extra "seg"
    all_goals (rename Fr _ _ _ _ => lF')
    all_goals (rename News _ _ _ _ => lN')
    all_goals (refine outSS lF' lN' (by first | exact fun p hp => hp | exact fun p hp => List.Mem.tail _ hp) (by exact rfl) (by exact rfl) ?_ ?_ ?_)
    all_goals first
      | exact srt_swap1 (by assumption)
      | exact srt_swap2 (by assumption)
      | exact srt_stay1 (by assumption)
      | exact srt_stay2 (by assumption)
      | (intro z hz hw; simp [hz, hw]; done)
  clear lF' lN'
  intro tk8 tl8 h8 k8 F8 N8
  try k_fold
  have hS := srt_le a2 b2
  have hX3 : (srt a2 b2).1.length ≤ 40 := by unfold srt; split <;> assumption
  have hY3 : (srt a2 b2).2.length ≤ 40 := by unfold srt; split <;> assumption
  generalize hA3 : (srt a2 b2).1 = p at *
  generalize hB3 : (srt a2 b2).2 = q at *
  have hXp : (S p).length ≤ 40 := by rw [S_len]; exact hX3
  have hYq : (S q).length ≤ 40 := by rw [S_len]; exact hY3
  have hpq : p.length ≤ q.length := hS
  k_extra "one"
  all_goals first
    | ((have hz : mc < (((S q).length : Int) - ((S p).length : Int)) * 2 := by assumption); k_extra "seg"; k_extra "ret"; exact (if_pos (by rw [S_len, S_len] at hz; omega)).symm)
    | skip
  rename ¬ mc < (((S q).length : Int) - ((S p).length : Int)) * 2 => hmc
  rw [if_neg (by rw [S_len, S_len] at hmc; omega)] at hret
  k_with "seg2" => repeat' ((fail_if_success (with_reducible show wpAny _ _ (pyIter _) _ _ _)); k_extra "step")
  k_extra "seg2"
  have hSp := S_len p
  have hSq := S_len q
  k_with "state" => first
    | exact ⟨S_len _ ▸ row0_length _, ow_start _ _ _⟩
    | (k_dflt (exact ow_turn (a := p) (b := q) (by assumption) (by assumption) (by rw [rangeKs_length, S_len]; omega) (by omega) (by assumption)))
  k_state_given ["a", "b", "max_cost"] (fun A B mc pre result row => row.length = A.length ∧ OW A.cps.toList B.cps.toList mc pre.length result row) "result" "row"
  · k_extra "seg2"
    k_with "state" => first
      | (k_dflt (exact iw_turnA (a := p) (b := q) (by assumption) (by omega) (by omega) (by omega) (by omega) (by assumption)))
      | (k_dflt (exact iw_turnB (a := p) (b := q) (by assumption) (by omega) (by omega) (by omega) (by omega) (by assumption)))
      | exact ⟨by assumption, iw_start (by omega)⟩
      | (k_dflt (exact ow_turn (a := p) (b := q) (by assumption) (by assumption) (by rw [rangeKs_length, S_len]; omega) (by omega) (by assumption)))
    k_with "tree" => first | exact sub_0 (by assumption) | exact sub_1 (by assumption) (by assumption) | exact sub_2 (by assumption) (by assumption)
    k_with "call ref" => k_call_by "_substitution_cost" subCost (fun (x y : Str) => x.length ≤ 1 ∧ y.length ≤ 1)
    k_state_given ["a", "b", "bindex", "row!"] (fun A B j r0 pre distance result minimum row => row.length = A.length ∧ IW A.cps.toList B.cps.toList j r0 pre.length distance result minimum row) "distance" "result" "minimum" "row"
    · k_extra "seg2"
    k_extra "seg2"
    k_extra "ret"
    exact ow_early (a := p) (b := q) (by assumption) (by assumption) (by rw [rangeKs_length, S_len]; omega) (by omega) (by omega) (by assumption)
  k_extra "seg2"
  k_extra "ret"
  exact ow_end (a := p) (b := q) (by assumption) (by rw [rangeKs_length, S_len]; omega)
end Mine
end
section
open PySem PySem.W PyProof.Rows
namespace Mine
theorem lev_s (w : World) (loose : List Str) (mean : ExcName → Option Value) (mg mb : Str → Option Value) (news : List (Addr × Obj)) (x y : Str) (mc : Int) (tx ty tm : Tok) :
    Cl PySem.Challenge.rw_ph0081_02.row.prog w (he.heap_39 w.params) he.view_39 loose mean mg mb 28 news (x.length ≤ 40 ∧ y.length ≤ 40) [.str x tx, .str y ty, .int mc tm] (fun t => .int (lev x.cps.toList y.cps.toList mc) t) := by
  have h := lev_c w loose mean mg mb news x.cps.toList y.cps.toList mc tx ty tm
  rw [S_of, S_of] at h
  exact h
end Mine
end
section
open PySem PySem.W PyProof.Rows
set_option maxRecDepth 100000
set_option maxHeartbeats 8000000
namespace Mine
local macro_rules | `(tactic| walk_at "call builtin:len") => `(tactic| k_extra "len")
local macro_rules | `(tactic| walk_at "subscriptTail Name Constant ref int") => `(tactic| k_extra "item0")
local macro_rules | `(tactic| walk_at "subscriptTail Name UnaryOp ref int") => `(tactic| k_extra "itemL")
local macro_rules | `(tactic| walk_at "call builtin:str.find") => `(tactic| refine find4_c rfl ?_)
local macro_rules | `(tactic| walk_at "SPost") => `(tactic| dsimp only [SPost])
theorem ell_c (w : World) (loose : List Str) (mean : ExcName → Option Value) (mg mb : Str → Option Value) (news : List (Addr × Obj)) (want got : Str) (mid : List Str) (tx ty : Tok) :
    Cl PySem.Challenge.rw_ph0081_02.row.prog w (he.heap_39 w.params) he.view_39 loose mean mg mb 35 news (Txt.contains want E3 = true ∧ Txt.split want E3 = Str.empty :: (mid ++ [Str.empty]) ∧ want.length ≤ 100 ∧ got.length ≤ 100 ∧ mid.length ≤ 100 ∧ (∀ y ∈ mid, y.length ≤ 100)) [.str want tx, .str got ty] (fun _ => .bool (ellF got (Str.empty :: (mid ++ [Str.empty])) 0)) := by
  k_with "step" => (first | (k_unfold; (try dsimp only)) | (k_end; kc_close) | walk1 | (dsimp only; walk1) | (leave1; walk_say "STEP leave1"; (try dsimp only)) | fail "no step")
  k_with "seg2" => repeat' ((fail_if_success (with_reducible show wpAny _ _ (pyIter _) _ _ _)); (fail_if_success (with_reducible show wpAny _ _ (call (Value.builtin "str.split") _) _ _ _)); k_extra "step")
  k_fill
  dsimp only [Cl, CbRet]; intros; rename_i hpre _ _ hret
  obtain ⟨hc, hsp, hX, hY, hM, hM1⟩ := hpre
  k_with "ret" => (refine cb_retB hret ?_ (by k_asm) (by first | k_asm | (refine' cb_drop ?cbN ?cbS; (case cbN => assumption); (case cbS => kcj_all))))
  k_with "rest" => (intro z h1 h2 h3; (try dsimp only at h2); (try dsimp only); (simp only [List.forall_mem_cons, List.not_mem_nil, false_implies, implies_true, and_true, ne_eq] at h2); (try simp only [List.contains_cons, List.contains_nil, Bool.or_false, Bool.or_eq_false_iff, beq_eq_false_iff_ne, ne_eq] at h3); first | (simp [h1, h2, kstB]; done) | (simp [h1, h2, h3, kstB]; done))
  refine wpAny_call ?_
  k_dflt cell_enter
  k_extra "seg2"
  · rename (_ = true) => hE
    exact absurd hc (by unfold Txt.contains; rw [hE]; decide)
  refine split_c (by k_asm) (by k_asm) (by decide +kernel) hsp ?_ (by rw [sizeLine_eq]; omega)
  intro D' vs' h' k' F' N' l1 hS'
  obtain ⟨t0, t1, ms, hvs⟩ := strs_ends hS'
  have hlen := hS'.length
  have hl2 : vs'.length = mid.length + 2 := by rw [hlen]; simp
  k_with "len" => k_dflt (refine len_ws (by k_asm) (by k_mem) (by assumption) (by omega) ?_)
  k_with "item0" => k_dflt (refine item_ws0 (by k_asm) (by k_mem) ?_)
  k_with "itemL" => k_dflt (refine item_wsL (by k_asm) (by k_mem) ?_)
  subst hvs
  try k_lt l1
  try k_fold
  k_extra "seg2"
  k_with "for" => ((rename Fr _ _ _ _ => lF'); (with_unfolding_all refine' For_invVF lF' ?kfa ?kfb ?_; (case kfa => exact rfl); (case kfb => exact rfl)); k_whole)
  k_extra "for"
  k_extra "seg2"
  rename Fr _ _ _ _ => lF'
  rename News _ _ _ _ => lN'
  refine loopS (σ := Int × Tok) (fun c => [(Str.ofString "startpos", Value.int c.1 c.2)]) [] (fun pre c => EW got (Str.empty :: (mid ++ [Str.empty])) pre c.1) (0, _) (by exact rfl) (by k_mem) hS' lF' lN' (List.forall_mem_cons.mpr ⟨by exact rfl, fun _ h => nomatch h⟩) (ew_start _ _) ?q3 ?q4
  case q3 =>
    intro c pre y post t u h tk own hys hoff hP F1 N1
    clear lF' lN'
    have hyl : y.length ≤ 100 := piece_len (ys := []) hM1 hys
    try k_fold
    k_extra "seg2"
    · k_extra "ret"
      exact ew_no hP hys (by assumption)
    rename Fr _ _ _ _ => lF'
    refine sEnd (_, _) lF' (by assumption) (by first | exact fun p hp => hp | kcj_all) (List.forall_mem_cons.mpr ⟨by exact rfl, fun _ h => nomatch h⟩) (by k_extra "rest") (ew_go hP hys (by assumption))
  intro c u h tk hP F1 N1
  clear lF' lN'
  try k_fold
  k_extra "seg2"
  k_extra "ret"
  exact ew_end hP
end Mine
end
section
open PySem PySem.W PyProof.Rows
set_option maxRecDepth 100000
set_option maxHeartbeats 8000000
namespace Mine
theorem want_c (w : World) (loose : List Str) (mean : ExcName → Option Value) (mg mb : Str → Option Value) (news : List (Addr × Obj)) (word : Str) (tx : Tok) :
    Cl PySem.Challenge.rw_ph0081_02.row.prog w (he.heap_39 w.params) he.view_39 loose mean mg mb 40 news (word.length ≤ 8) [.str word tx] (fun t => .str (wantF word) t) := by
  k_fill
  k_with "step" => (first | (k_unfold; (try dsimp only)) | (k_end; kc_close) | walk1 | (dsimp only; walk1) | (leave1; walk_say "STEP leave1"; (try dsimp only)) | fail "no step")
  k_with "seg2" => repeat' ((fail_if_success (with_reducible show wpAny _ _ (pyIter _) _ _ _)); (fail_if_success (with_reducible show wpAny _ _ (eval (Expr.ListComp _ _ _ _) _) _ _ _)); (fail_if_success (with_reducible show wpAny _ _ (call (Value.builtin "str.join") _) _ _ _)); k_extra "step")
  dsimp only [Cl, CbRet]; intros; rename_i hwl _ _ hret
  refine wpAny_call ?_
  k_dflt cell_enter
  k_extra "seg2"
  rename News _ _ _ _ => lN'
  rename Fr _ _ _ _ => lF'
  refine eval_strs (P := SignAt word) ((signsOf word).map fun y => y ++ Str.ofString "...") (by rw [List.length_map, signsOf_length]) lF' lN' (by with_unfolding_all rfl) (by decide) (by rfl) (by decide) (by rfl) (by intro _; rfl) (src_str (t := tx) (by rfl) lF' lN' ?hsrc2) (by have e : word.length = word.cps.size := rfl; omega) ?helt2 ?hfin2
  case hsrc2 =>
    intro Q hQ
    k_extra "step"
    exact hQ
  case helt2 =>
    intro C j v y h tk mC E' hj hP hv F3 n3 N3
    clear lF' lN'
    obtain ⟨x, tx, hx, rfl⟩ := signAt_of hP
    rw [List.getElem?_map, hx] at hj
    cases hj
    have hx1 := signsOf_one (List.mem_of_getElem? hx)
    exact elt_plus (by rfl) (by rfl) (by decide) n3 hv (by rw [hx1]; decide) fun tk t => ⟨_, _, rfl, rfl⟩
  clear lF' lN'
  intro D4 ys4 h4' tk4' hys4 F4 N4 l4
  k_extra "seg2"
  refine join_c N4 (by k_mem) hys4 (fun a ha => by obtain ⟨b, hb, rfl⟩ := List.mem_map.mp ha; rw [str_append_len, signsOf_one hb]; decide) (by decide) (by rw [List.length_map, signsOf_length]; have e : word.length = word.cps.size := rfl; omega) ?_
  intro tw kw
  generalize hwant : Txt.join (Str.ofString "") ((signsOf word).map fun y => y ++ Str.ofString "...") = wj
  have hwj : wj.length ≤ 32 := by
    rw [← hwant]
    refine Nat.le_trans (joinLen_le 4 _ ?_) (by rw [List.length_map, signsOf_length]; have e : word.length = word.cps.size := rfl; omega)
    intro a ha; obtain ⟨b, hb, rfl⟩ := List.mem_map.mp ha; rw [str_append_len, signsOf_one hb]; decide
  k_extra "seg2"
  refine cb_retS hret (wantF_eq hwant).symm (by k_asm) (by first | k_asm | (refine' cb_drop ?cbN ?cbS; (case cbN => assumption); (case cbS => kcj_all)))
end Mine
end
section
open PySem PySem.W PyProof.Rows
set_option maxRecDepth 100000
set_option maxHeartbeats 8000000
namespace Mine
local macro_rules | `(tactic| walk_at "RPost") => `(tactic| dsimp only [RPost])
theorem kept_c (w : World) (loose : List Str) (mean : ExcName → Option Value) (mg mb : Str → Option Value) (news : List (Addr × Obj)) (first second : Str) (tx ty : Tok) :
    Cl PySem.Challenge.rw_ph0081_02.row.prog w (he.heap_39 w.params) he.view_39 loose mean mg mb 47 news (first.length ≤ 40 ∧ second.length ≤ 40) [.str first tx, .str second ty] (fun t => .int (keptF first second) t) := by
  k_fill
  k_with "step" => (first | (k_unfold; (try dsimp only)) | (k_end; kc_close) | walk1 | (dsimp only; walk1) | (leave1; walk_say "STEP leave1"; (try dsimp only)) | fail "no step")
  k_with "seg2" => repeat' ((fail_if_success (with_reducible show wpAny _ _ (pyIter _) _ _ _)); (fail_if_success (with_reducible show wpAny _ _ (eval (Expr.IfExp _ _ _ _) _) _ _ _)); k_extra "step")
  k_with "rest" => (intro z h1 h2 h3; (try dsimp only at h2); (try dsimp only); (simp only [List.forall_mem_cons, List.not_mem_nil, false_implies, implies_true, and_true, ne_eq] at h2); (try simp only [List.contains_cons, List.contains_nil, Bool.or_false, Bool.or_eq_false_iff, beq_eq_false_iff_ne, ne_eq] at h3); first | (simp [h1, h2, kstB]; done) | (simp [h1, h2, h3, kstB]; done))
  k_with "seg5" => repeat' ((fail_if_success (with_reducible show wpAny _ _ (call (Value.builtin "list.append") _) _ _ _)); k_extra "step")
  dsimp only [Cl, CbRet]; intros; rename_i hpre _ _ hret
  obtain ⟨h1, h2⟩ := hpre
  refine wpAny_call ?_
  k_dflt cell_enter
  k_extra "seg2"
  rename_i l0 h0' la Da ha ia na sa ea1 ea2 ea3 lta hb lF' lN'
  have e0 : (List.replicate ((second.length : Int) + 1).toNat [(0 : Int)]).flatten = rowF first second 0 := by
    rw [List.flatten_replicate_singleton, show ((second.length : Int) + 1).toNat = second.length + 1 by omega]
    rfl
  rw [e0] at ia
  have hD0 : ∀ p ∈ news, p.1 < Da := fun p hp => by
    have := allLt_mem lta.2 p hp
    exact this
  clear e0 sa ea1 ea2 ea3 lta
  refine loopT (σ := Addr × List Value × Nat) (fun c => [(Str.ofString "row", Value.ref c.1)]) (fun c => [(c.1, W.listOf c.2.1.toArray c.2.2)]) [Str.ofString "new", Str.ofString "k", Str.ofString "worth"] (fun i c => IntsAre c.2.1 (rowF first second i) ∧ ∀ p ∈ news, p.1 < c.1) (Da, _, _) (by exact rfl) lF' lN' ?q3 ?q4 ?q5 ?q6
  case q3 => exact List.forall_mem_cons.mpr ⟨by exact rfl, fun _ h => nomatch h⟩
  case q4 => exact ⟨ia, hD0⟩
  case q5 =>
    rintro ⟨l, vs, nn⟩ i y ty u h tk own hy hoff ⟨hP1, hP2⟩ F1 N1
    clear lF' lN' hD0
    dsimp only at hoff hP1 hP2 F1 N1
    simp only [List.cons_append, List.nil_append] at N1
    have hlen := rowF_length first second i
    have hyl : y.length = 1 := signsOf_one (List.mem_of_getElem? hy)
    try k_fold
    k_extra "seg2"
    rename _ ∧ _ ∧ AllLt _ _ => hlt
    rename IsRange _ _ _ _ _ _ _ _ => rgX
    rename Fr _ _ _ _ => lF'
    rename News _ _ _ _ => lN'
    refine loopR (σ := List Value × Nat) (n := second.length) (fun c => []) (fun c => [(_, W.listOf c.1.toArray c.2)]) [Str.ofString "worth"] (fun k c => IntsAre c.1 (newF (rowF first second i) y second k)) ([_], _) (by exact rfl) rgX ?r1 ?r2 lF' lN' ?r3 ?r4 ?r5 ?r6
    case r1 => exact small_one (by omega) (by omega) (by omega) (by omega)
    case r2 => rw [rangeSize_nat]; omega
    case r3 => exact fun _ h => nomatch h
    case r4 => exact .cons 0 _ .nil
    case r5 =>
      rintro ⟨us, un⟩ k t2 u2 h2' tk2 own2 hk hoff2 hU F2 N2
      clear lF' lN' rgX
      dsimp only at hoff2 hU F2 N2
      simp only [List.cons_append, List.nil_append] at N2
      have hul := newF_length (rowF first second i) y second k
      try k_fold
      k_extra "seg2"
      rename Fr _ _ _ _ => lF'
      rename News _ _ _ _ => lN'
      refine cutIV lF' lN' (worthF (Txt.item second (0 + (k : Int))) y) ?w1 ?w2
      case w1 =>
        k_extra "step"
        k_extra "seg2"
        · exact outIV (by k_asm) (worth_2 (by assumption)) (by k_asm) (fun p hp => hp)
        · k_extra "step"
          k_extra "seg2"
          · exact outIV (by k_asm) (worth_1 (by assumption) (by assumption)) (by k_asm) (fun p hp => hp)
          · exact outIV (by k_asm) (worth_0 (by assumption) (by assumption)) (by k_asm) (fun p hp => hp)
      clear lF' lN'
      intro tw h3' tk3 F3 N3
      k_extra "seg2"
      refine max3_c (by exact rfl) (by k_asm) (by k_asm) ?_
      intro t4 h4 tk4 F4 N4
      k_extra "seg5"
      rename Fr _ _ _ _ => lF'
      rename News _ _ _ _ => lN'
      refine' appendC _ lF' lN' (List.Mem.head _) (fun p hp => List.Mem.tail _ hp) ?a3 ?a4 ?a5
      case a3 =>
        refine List.forall_mem_cons.mpr ⟨by k_ne, List.forall_mem_cons.mpr ⟨by k_ne, fun p hp => ?_⟩⟩
        rcases List.mem_append.mp hp with hp | hp
        · exact Nat.ne_of_lt (allLt_mem hlt.2.2 p hp)
        · exact hoff2 p hp _ (List.Mem.head _)
      case a4 => have := hU.length; omega
      clear lF' lN'
      intro h5' F5 N5
      k_extra "seg2"
      refine rEnd (us ++ [Value.int (pmax3 ((rowF first second i).getD (0 + (k : Int) + 1).toNat 0) ((newF (rowF first second i) y second k).getD (0 + (k : Int)).toNat 0) ((rowF first second i).getD (0 + (k : Int)).toNat 0 + worthF (Txt.item second (0 + (k : Int))) y)) t4], un + 1) F5 N5 ?e1 ?e2 ?e3 ?e4 ?e5
      case e1 => exact fun p hp => hp
      case e2 => exact tbOff_obj hoff2
      case e3 => exact fun _ h => nomatch h
      case e4 => k_extra "rest"
      case e5 => exact newF_snoc hU
    case r6 =>
      rintro ⟨us, un⟩ u2 h2' tk2 hU F2 N2
      clear lF' lN' rgX
      dsimp only at hU F2 N2
      simp only [List.cons_append, List.nil_append] at N2
      try k_fold
      k_extra "seg2"
      refine' rEnd (_, us, un) ?gF ?gN ?g1 ?g2 ?g3 ?g4 ?g5
      case gF => k_asm
      case gN => k_asm
      case g3 => exact List.forall_mem_cons.mpr ⟨by exact rfl, fun _ h => nomatch h⟩
      case g1 =>
        intro p hp
        simp only [List.mem_append, List.mem_cons, List.not_mem_nil, or_false] at hp ⊢
        rcases hp with (hp | hp | hp) | hp
        · exact .inl hp
        · exact .inr (.inr (.inl hp))
        · exact .inr (.inr (.inr (.inl hp)))
        · exact .inr (.inr (.inr (.inr hp)))
      case g2 =>
        intro p hp q hq
        rcases List.mem_append.mp hq with hq | hq
        · rw [List.mem_singleton.mp hq]
          exact Nat.ne_of_lt (allLt_mem hlt.2.2 p (List.mem_append_right _ hp))
        · exact hoff p hp q (List.mem_append_right _ hq)
      case g4 => k_extra "rest"
      case g5 =>
        refine ⟨?_, fun p hp => allLt_mem hlt.2.2 p (List.mem_append_left _ hp)⟩
        have e : (signsOf first).getD i Str.empty = y := by rw [List.getD_eq_getElem?_getD, hy]; rfl
        rw [rowF, e]
        exact hU
  case q6 =>
    rintro ⟨l, vs, nn⟩ u h tk ⟨hP1, hP2⟩ F1 N1
    clear lF' lN' hD0
    dsimp only at hP1 hP2 F1 N1
    simp only [List.cons_append, List.nil_append] at N1
    have hlen := rowF_length first second first.length
    try k_fold
    k_extra "seg2"
    refine cb_retI hret ?_ (by k_asm) (by first | k_asm | (refine' cb_drop ?cbN ?cbS; (case cbN => assumption); (case cbS => kcj_all)))
    unfold keptF
    congr 1
    omega
end Mine
end
section
open PySem PySem.W PyProof.Rows
set_option maxRecDepth 100000
set_option maxHeartbeats 8000000
namespace Mine
local macro_rules | `(tactic| walk_at "RPost") => `(tactic| dsimp only [RPost])
local macro_rules | `(tactic| walk_at "exec If") => `(tactic| ((with_reducible show wpAny _ _ (exec (Stmt.If (Expr.Name _ _) _ _ _) _) _ _ _); k_dflt (refine wpAny_If ?_)))
local macro_rules | `(tactic| walk_at "SPost") => `(tactic| dsimp only [SPost])
theorem best_c (w : World) (loose : List Str) (mean : ExcName → Option Value) (mg mb : Str → Option Value) (news : List (Addr × Obj)) (first second : Str) (tx ty : Tok) :
    Cl2 PySem.Challenge.rw_ph0081_02.row.prog w (he.heap_39 w.params) he.view_39 loose mean mg mb 52 news (first.length ≤ 8 ∧ second.length ≤ 40 ∧ (∀ y ∈ signsOf first, (Txt.swapcase y).length = 1) ∧ (∀ p ∈ wordsF first first.length, Txt.contains (wantF p.1) E3 = true ∧ Txt.split (wantF p.1) E3 = midF p.1)) [.str first tx, .str second ty] (fun t => .int (bestF first second) t) := by
  k_fill
  k_with "step" => (first | (k_unfold; (try dsimp only)) | (k_end; kc_close) | walk1 | (dsimp only; walk1) | (leave1; walk_say "STEP leave1"; (try dsimp only)) | fail "no step")
  k_with "seg2" => repeat' ((fail_if_success (with_reducible show wpAny _ _ (pyIter _) _ _ _)); (fail_if_success (with_reducible show wpAny _ _ (call (Value.ref _) _) _ _ _)); (fail_if_success (with_reducible show wpAny _ _ (exec (Stmt.Assign _ (Expr.ListComp _ _ _ _) _) _) _ _ _)); (fail_if_success (with_reducible show wpAny _ _ (exec (Stmt.For (Expr.Tuple _ _ _) _ _ _ _) _) _ _ _)); (fail_if_success (with_reducible show wpAny _ _ (storeName _ (Str.ofString "ways") _) _ _ _)); k_extra "step")
  k_with "argsX" => ((case x2 => k_asm); (case x4 => k_asm); (case x3 => k_asm); (case x5 => k_asm); (case x1 => k_asm); (case xK => first | exact rfl | assumption); (case xd => ktr_room); (case xu => ktr_units))
  k_with "argsY" => ((case y2 => k_asm); (case y4 => k_asm); (case y3 => k_asm); (case y5 => k_asm); (case y1 => k_asm); (case yK => first | exact rfl | assumption); (case yd => ktr_room); (case yu => ktr_units))
  k_with "rest" => (intro z h1 h2 h3; (try dsimp only at h2); (try dsimp only); (simp only [List.forall_mem_cons, List.not_mem_nil, false_implies, implies_true, and_true, ne_eq] at h2); (try simp only [List.contains_cons, List.contains_nil, Bool.or_false, Bool.or_eq_false_iff, beq_eq_false_iff_ne, ne_eq] at h3); first | (simp [h1, h2, kstB]; done) | (simp [h1, h2, h3, kstB]; done))
  k_with "for" => ((rename Fr _ _ _ _ => lF'); (with_unfolding_all refine' For_invVF lF' ?kfa ?kfb ?_; (case kfa => exact rfl); (case kfb => exact rfl)); k_whole)
  k_with "enterC" => (refine' code_defC ?k1 ?k2 ?k3 ?k4 ?k5 ?kA ?kF ?kK ?k6 ?k7 ?k8 ?k9 ?kB ?kD ?_ ?c2 ?c3 ?c4; (case kA => exact rfl); (case kF => exact rfl); (case kK => assumption); (case k1 => k_asm); (case k2 => k_asm); (case k3 => k_asm); (case k4 => k_asm); (case k5 => k_asm); (case k6 => k_is); (case k7 => k_is); (case k8 => ktr_room); (case k9 => exact BindsTo.of_eq rfl); (case kB => exact rfl); (case kD => decide +kernel); (case c2 => exact rfl); (case c3 => exact rfl); (case c4 => exact rfl); k_whole; intro g' L' h' tk' cells' FG' F' N' Y' B' X' T' l1; (try k_lt l1); k_cells Y'; (try simp only [List.cons_append, List.nil_append] at N'); (try dsimp only); (try k_lift B'); (try k_fold))
  dsimp only [Cl2, CbRet]; intros; rename_i hpre _ _ hret
  obtain ⟨h1, h2, h3, h4⟩ := hpre
  refine wpAny_call ?_
  k_dflt (k_extra "enterC")
  k_extra "seg2"
  rename_i o0 d0 D0 hA ltA l0 hB ltB hC lF' lN'
  have lN2 := cb_drop (news := (L' + 1, o0) :: (l0, W.listOf [Value.ref D0].toArray 0) :: ([(D0, tupOb (Str.empty, 0) _ _ 0)] ++ news)) lN' (by
    refine List.forall_mem_cons.mpr ⟨by k_mem, List.forall_mem_cons.mpr ⟨by k_mem, ?_⟩⟩
    exact fun p hp => by
      rcases List.mem_cons.mp hp with rfl | hp
      · exact List.Mem.tail _ (List.Mem.head _)
      · exact List.Mem.tail _ (List.Mem.tail _ (List.Mem.tail _ hp)))
  have hlA : L' + 1 < D0 := ltA.1
  have hlB : L' + 1 < l0 := ltB.2.1
  clear lN' ltA ltB
  k_extra "for"
  k_extra "seg2"
  refine loopT (σ := Obj × Addr × List Value × Nat × List (Addr × Obj)) (news := news) (fun c => [(Str.ofString "words", Value.ref c.2.1)]) (fun c => (L' + 1, c.1) :: (c.2.1, W.listOf c.2.2.1.toArray c.2.2.2.1) :: c.2.2.2.2) [] (fun i c => (∃ v, c.1.data = Data.cell v) ∧ PairsAre c.2.2.2.2 c.2.2.1 (wordsF first i) ∧ L' + 1 < c.2.1 ∧ ∀ p ∈ c.2.2.2.2, L' + 1 < p.1) (o0, l0, [Value.ref D0], 0, [(D0, tupOb (Str.empty, 0) _ _ 0)]) (by exact rfl) (by k_asm) lN2 ?q3 ?q4 ?q5 ?q6
  case q3 => exact List.forall_mem_cons.mpr ⟨by exact rfl, fun _ h => nomatch h⟩
  case q4 => exact ⟨⟨_, d0⟩, PairsAre.nil.snoc ⟨D0, _, _, _, rfl, List.Mem.head _⟩, hlB, fun p hp => by rw [List.mem_singleton.mp hp]; exact hlA⟩
  case q5 =>
    rintro ⟨oc, l, vs, nn, tl⟩ i y ty u h tk0 own hy hoff ⟨⟨v0, hP0⟩, hP1, hP2, hP3⟩ F1 N1
    clear lF' lN2
    dsimp only at hoff hP0 hP1 hP2 hP3 F1 N1
    simp only [List.cons_append, List.nil_append] at N1
    have hyl : y.length = 1 := signsOf_one (List.mem_of_getElem? hy)
    try k_fold
    k_extra "seg2"
    rename_i DA hA' lA aS DB hB' lB DC hC' lC lw hw lF' lN' lW
    refine' storeC ((lw, W.listOf [Value.ref DA, Value.ref DB, Value.ref DC].toArray 0) :: (DC, tupOb (Str.empty, 0) (tk0 + 1 + 1 + 1) (tk0 + 1 + 1 + 1 + 1) 0) :: (DB, tupOb (Txt.swapcase y, 1) (tk0 + 1) (tk0 + 1 + 1) 0) :: (DA, tupOb (y, 2) ty tk0 0) :: (l, W.listOf vs.toArray nn) :: (tl ++ news ++ own)) lF' lN' ?c ?d ?m ?s ?n ?_
    case c => rfl
    case m => k_mem
    case d => exact hP0
    case s =>
      intro p hp
      simp only [List.mem_cons] at hp ⊢
      rcases hp with hp | hp | hp | hp | hp | hp
      · exact .inl hp
      · exact .inr (.inl hp)
      · exact .inr (.inr (.inl hp))
      · exact .inr (.inr (.inr (.inl hp)))
      · exact .inr (.inr (.inr (.inr (.inr (.inl hp)))))
      · exact .inr (.inr (.inr (.inr (.inr (.inr hp)))))
    case n =>
      refine List.forall_mem_cons.mpr ⟨by k_ne, List.forall_mem_cons.mpr ⟨by k_ne, List.forall_mem_cons.mpr ⟨by k_ne, List.forall_mem_cons.mpr ⟨by k_ne, List.forall_mem_cons.mpr ⟨Nat.ne_of_gt hP2, fun p hp => ?_⟩⟩⟩⟩⟩
      rcases List.mem_append.mp hp with hp | hp
      · rcases List.mem_append.mp hp with hp | hp
        · exact Nat.ne_of_gt (hP3 p hp)
        · exact Nat.ne_of_lt (Nat.lt_succ_of_lt (l1 p hp))
      · exact hoff p hp _ (List.Mem.head _)
    clear lF' lN'
    intro h5' oW F5 N5 d5
    k_extra "seg2"
    rename Fr _ _ _ _ => lF'
    rename News _ _ _ _ => lN'
    have hil : i < first.length := by
      rcases Nat.lt_or_ge i (signsOf first).length with q | q
      · rw [signsOf_length] at q; exact q
      · rw [List.getElem?_eq_none q] at hy; cases hy
    have hyd : (signsOf first).getD i Str.empty = y := by rw [List.getD_eq_getElem?_getD, hy]; rfl
    have hwi := wordsF_len h3 i (by omega)
    have hws : wordsF first (i + 1) = (wordsF first i).flatMap (pairG (waysP y)) := by rw [wordsF, hyd]
    refine' exec_pairs (vs := vs) (ws := [Value.ref DA, Value.ref DB, Value.ref DC]) (prs := wordsF first i) (qrs := waysP y) (oc := oW) (lw := lw) lF' lN' (by with_unfolding_all rfl) (by with_unfolding_all rfl) (by decide) (by rfl) (by decide) (by rfl) (by rfl) (by rfl) (by rfl) (by decide) (by decide) (by decide) (by decide) (by decide) (by decide) (by decide) (by decide) (by decide) (by decide) (by decide) (fun _ => by rfl) (by rfl) (by intro _; rfl) (by intro _ _; rfl) (by rfl) (by rfl) (by rfl) (by rfl) d5 ?hmz ?hmw ?hsrc ?hvs ?hws ?hpl ?hql ?hbig ?kk
    case hmz => k_mem
    case hmw => k_mem
    case hsrc =>
      refine' src_made (by rfl) lF' lN' ?hm2 ?hv2
      case hv2 =>
        intro Q hQ
        k_extra "step"
        exact hQ
      case hm2 => k_mem
    case hvs => exact hP1.more (fun p hp => by simp [hp])
    case hws =>
      exact ((PairsAre.nil.snoc ⟨DA, ty, tk0, 0, rfl, by k_mem⟩).snoc ⟨DB, tk0 + 1, tk0 + 1 + 1, 0, rfl, by k_mem⟩).snoc ⟨DC, tk0 + 1 + 1 + 1, tk0 + 1 + 1 + 1 + 1, 0, rfl, by k_mem⟩
    case hpl => intro p hp; have := hwi p hp; omega
    case hql =>
      intro p hp
      have hs1 := h3 y (List.mem_of_getElem? hy)
      rw [waysP] at hp
      rcases List.mem_cons.mp hp with rfl | hp
      · show y.length ≤ 400; omega
      · rcases List.mem_cons.mp hp with rfl | hp
        · show (Txt.swapcase y).length ≤ 400; omega
        · rw [List.mem_singleton.mp hp]; decide
    case hbig => exact words_room h1 hil _ rfl
    case kk =>
      intro ys D tl2 h6' tk6 hys htl2 F6 N6 l6 lt6
      clear lF' lN'
      try k_fold
      k_extra "seg2"
      refine rEnd (oW, D, ys, ys.length, tl2) F6 N6 ?e1 ?e2 ?e3 ?e4 ?e5
      case e1 =>
        intro p hp
        simp only [List.mem_append, List.mem_cons, List.not_mem_nil, or_false] at hp ⊢
        rcases hp with ((hp | hp | hp) | hp) | hp
        all_goals simp [hp]
      case e2 =>
        intro p hp q hq
        simp only [List.mem_append, List.mem_cons, List.not_mem_nil, or_false] at hq
        have hpm : p ∈ (L' + 1, oW) :: (lw, W.listOf [Value.ref DA, Value.ref DB, Value.ref DC].toArray 0) :: (DC, tupOb (Str.empty, 0) (tk0 + 1 + 1 + 1) (tk0 + 1 + 1 + 1 + 1) 0) :: (DB, tupOb (Txt.swapcase y, 1) (tk0 + 1) (tk0 + 1 + 1) 0) :: (DA, tupOb (y, 2) ty tk0 0) :: (l, W.listOf vs.toArray nn) :: (tl ++ news ++ own) := by simp [hp]
        rcases hq with (hq | hq | hq) | hq
        · rw [hq]; exact hoff p hp (L' + 1, oc) (List.Mem.head _)
        · rw [hq]; exact Nat.ne_of_lt (l6 p hpm)
        · exact Nat.ne_of_lt (htl2 q hq p hpm)
        · exact hoff p hp q (List.mem_append_right _ hq)
      case e3 => exact List.forall_mem_cons.mpr ⟨by exact rfl, fun _ h => nomatch h⟩
      case e4 => k_extra "rest"
      case e5 => exact ⟨⟨_, d5⟩, by rw [hws]; exact hys, l6 _ (List.Mem.head _), fun p hp => htl2 p hp _ (List.Mem.head _)⟩
  case q6 =>
    rintro ⟨oc, l, vs, nn, tl⟩ u h tk ⟨⟨v0, hP0⟩, hP1, hP2, hP3⟩ F1 N1
    clear lF' lN2
    dsimp only at hP0 hP1 hP2 hP3 F1 N1
    simp only [List.cons_append, List.nil_append] at N1
    have hwl := wordsF_len h3 first.length (Nat.le_refl _)
    try k_fold
    k_extra "seg2"
    rename Fr _ _ _ _ => lF'
    rename News _ _ _ _ => lN'
    refine' for_pairs (σ := Int × Tok) (vs := vs) (nn := nn) (l := l) (prs := wordsF first first.length) (fun c => [(Str.ofString "best", Value.int c.1 c.2)]) [Str.ofString "fits"] (fun pre c => c.1 = pre.foldl (bestStep second) (-1)) (-1, _) (by rfl) (by rfl) (by rfl) (by rfl) (by intro _; rfl) (by passes_own) ?hit ?hm ?hpr lF' lN' ?hk ?hp ?turn ?done
    case hm => k_mem
    case hpr => exact hP1.more (fun p hp => by simp [hp])
    case hit =>
      intro Q' hQ
      k_extra "step"
      exact hQ
    case hk => exact List.forall_mem_cons.mpr ⟨by exact rfl, fun _ h => nomatch h⟩
    case hp => rfl
    case turn =>
      rintro ⟨c, ct⟩ pre p post t u' uu h3' tk3 own3 hys hoff3 hPc F3 N3
      clear lF' lN'
      dsimp only at hPc F3
      have hpm : p ∈ wordsF first first.length := by rw [hys]; simp
      have hpl := hwl p hpm
      obtain ⟨hc, hs⟩ := h4 p hpm
      try k_fold
      k_extra "seg2"
      have hwle := wantF_le p.1
      k_dflt (refine' want_c _ _ _ _ _ _ _ _ _ _ _ _ _ _ _ _ _ _ _ _ _ _ _ _ _ ?x1 ?x2 ?x3 ?x4 ?x5 ?xK ?xp ?xd ?xu ?xR)
      k_extra "argsX"
      case xp => omega
      intro t5 h5 tk5 F5 N5
      k_extra "seg2"
      k_dflt (refine' ell_c _ _ _ _ _ _ _ _ (signsOf p.1) _ _ _ _ _ _ _ _ _ _ _ _ _ _ _ _ _ _ _ ?y1 ?y2 ?y3 ?y4 ?y5 ?yK ?yp ?yd ?yu ?yR)
      k_extra "argsY"
      case yp => exact ⟨hc, hs, by omega, by omega, by rw [signsOf_length]; have e : p.1.length = p.1.cps.size := rfl; omega, fun z hz => by rw [signsOf_one hz]; decide⟩
      intro _ h9 tk9 F9 N9
      have hstep := bestStep_snoc second pre p
      rw [← hPc] at hstep
      clear hc hs
      have hb2 : bestStep second c p = if ellF second (midF p.1) 0 = true then (if p.2 > c then p.2 else c) else c := rfl
      rw [hb2] at hstep
      clear hb2
      generalize hb : ellF second (midF p.1) 0 = b at hstep
      have hb' : ellF second (Str.empty :: (signsOf p.1 ++ [Str.empty])) 0 = b := hb
      rw [hb']
      clear hb'
      cases b
      · k_extra "seg2"
        refine sEnd (c, ct) (by k_asm) (by k_asm) (fun p hp => hp) (List.forall_mem_cons.mpr ⟨by exact rfl, fun _ h => nomatch h⟩) (by k_extra "rest") ?_
        show c = _
        rw [hstep]
        rfl
      · k_extra "seg2"
        refine sEnd (if p.2 > c then p.2 else c, _) (by k_asm) (by k_asm) (fun p hp => hp) (List.forall_mem_cons.mpr ⟨by exact rfl, fun _ h => nomatch h⟩) (by k_extra "rest") ?_
        show (if p.2 > c then p.2 else c) = _
        rw [hstep]
        rfl
    case done =>
      rintro ⟨c, ct⟩ uu h3' tk3 hPc F3 N3
      clear lF' lN'
      dsimp only at hPc F3
      try k_fold
      k_extra "seg2"
      refine cb_retI hret ?_ (by k_asm) (by first | k_asm | (refine' cb_drop ?cbN ?cbS; (case cbN => assumption); (case cbS => kcj_all)))
      exact hPc
end Mine
end
section
open PySem PySem.W PyProof.Rows
set_option maxRecDepth 100000
set_option maxHeartbeats 8000000
namespace Mine
local macro_rules | `(tactic| walk_at "RPost") => `(tactic| dsimp only [RPost])
theorem law2 : PySem.Challenge.rw_ph0081_02.Holds := he (by
  k_with "step" => (first | (k_unfold; (try dsimp only)) | (k_end; kc_close) | walk1 | (dsimp only; walk1) | (leave1; walk_say "STEP leave1"; (try dsimp only)) | fail "no step")
  k_with "seg2" => repeat' ((fail_if_success (with_reducible show wpAny _ _ (pyIter _) _ _ _)); (fail_if_success (with_reducible show wpAny _ _ (exec (Stmt.Assign _ (Expr.ListComp _ _ _ _) _) _) _ _ _)); (fail_if_success (with_reducible show wpAny _ _ (call (Value.ref _) _) _ _ _)); (fail_if_success (with_reducible show wpAny _ _ (call (Value.builtin "str.join") _) _ _ _)); k_extra "step")
  k_with "seg3" => repeat' ((fail_if_success (with_reducible show wpAny _ _ (call (Value.ref _) _) _ _ _)); k_extra "step")
  k_go0
  all_goals (try k_fold)
  k_extra "seg2"
  rename IntsAre _ _ => hI0
  rename List Int => ns
  rename Fr _ _ _ _ => lF'
  rename News _ _ _ [] => lN'
  refine exec_strs (P := fun i v => ∃ k t, ((ns ++ [0, 1, 3, 2, 2]).take 8)[i]? = some k ∧ v = .int k t) (n := ((ns ++ [0, 1, 3, 2, 2]).take 8).length) (news := []) (lettersF ns) (by unfold lettersF; rw [List.length_map]) lF' (by with_unfolding_all rfl) (by with_unfolding_all rfl) (by decide) (by rfl) (by decide) (by rfl) (by intro _; rfl) (by rfl) (by rfl) (by rfl) ?hsrc (by rw [List.length_take]; omega) ?helt ?hfin
  case hsrc =>
    repeat' ((fail_if_success (with_reducible show wpAny _ _ (subscriptTail _ _ (Value.ref _) _) _ _ _)); k_extra "step")
    k_dflt (refine kba_turn (value' := PySem.Expr.Name (PySem.Str.ofString "_") ⟨0, 0, 0, 0⟩) (fun _ => rfl) ?_)
    k_dflt (refine' kmk_slice_ints ?zF ?zN ?zl ?zp ?zq ?zi ?zm ?zc ?zh ?zs ?zt ?zz; (case zF => k_asm); (case zN => k_asm); (case zl => kmk_list); (case zp => kmk_part); (case zq => kmk_part); (case zi => l_ints); (case zm => kmk_nums); (case zc => kmk_len); (case zs => with_unfolding_all rfl); (case zt => kmk_pure); (case zz => kmk_size))
    intro D' ws' h' F' N' l1 hI' hC' hL'
    refine' srcAt1_ints (by rfl) ?hF ?hN ?hm ?hI (fun _ h => nomatch h)
    case hF => k_asm
    case hN => k_asm
    case hI => assumption
    case hm => k_mem
  case helt =>
    intro C j v y h tk mC E' hj hP hv F3 n3 N3
    obtain ⟨x, tx, hx, rfl⟩ := hP
    unfold lettersF at hj
    rw [List.getElem?_map, hx] at hj
    cases hj
    exact elt_letter (by rfl) (by rfl) (by decide) n3 hv (by decide) fun tk t => ⟨_, _, rfl, rfl⟩
  clear lF' lN'
  intro D ys h3 tk3 hys F3 N3 l3
  have hll := lettersF_len ns
  have hl1 := fun a => lettersF_one (ns := ns) (a := a)
  have hyl : ys.length ≤ 8 := by rw [strs_len hys]; exact hll
  have hE := strs_evens hys
  have hO := strs_odds hys
  have eE : slicePick ys.toArray none none (some 2) = (evensL ys).toArray := by rw [← pick_evens ys hyl, Array.toArray_toList]
  have eO : slicePick ys.toArray (some 1) none (some 2) = (oddsL ys).toArray := by rw [← pick_odds ys hyl, Array.toArray_toList]
  have hEl := evensL_length (lettersF ns)
  have hOl := oddsL_length (lettersF ns)
  have h1E : ∀ a ∈ evensL (lettersF ns), a.length = 1 := fun a ha => hl1 a (evensL_mem ha)
  have h1O : ∀ a ∈ oddsL (lettersF ns), a.length = 1 := fun a ha => hl1 a (oddsL_mem ha)
  k_extra "seg2"
  rename Fr _ _ _ _ => lF'
  rename News _ _ _ _ => lN'
  rw [eE] at lN'
  refine join_c (nn := 0) lN' (List.Mem.head _) hE (fun a ha => by rw [h1E a ha]; decide) (by decide) (by omega) ?_
  intro t4 tk4
  have hfl : (Txt.join (Str.ofString "") (evensL (lettersF ns))).length ≤ 4 := Nat.le_trans (Nat.le_of_eq (KT.join_ones _ h1E)) (by omega)
  generalize hfst : Txt.join (Str.ofString "") (evensL (lettersF ns)) = first at hfl
  k_extra "seg2"
  rename Fr _ _ _ _ => lF'
  rename News _ _ _ _ => lN'
  rw [eO] at lN'
  refine join_c (nn := 0) lN' (List.Mem.head _) hO (fun a ha => by rw [h1O a ha]; decide) (by decide) (by omega) ?_
  intro t5 tk5
  have hsl : (Txt.join (Str.ofString "") (oddsL (lettersF ns))).length ≤ 4 := Nat.le_trans (Nat.le_of_eq (KT.join_ones _ h1O)) (by omega)
  generalize hsnd : Txt.join (Str.ofString "") (oddsL (lettersF ns)) = second at hsl
  k_extra "seg2"
  clear hE hO eE eO hys hyl
  rename Fr _ _ _ _ => lF'
  rename News _ _ _ _ => lN0
  have lN' := cb_drop (news := []) lN0 (List.forall_mem_nil _)
  clear lN0
  have hP := law2_pure hfst hsnd
  k_dflt (refine' kept_c _ _ _ _ _ _ _ _ _ _ _ _ _ _ _ _ _ _ _ _ _ _ _ _ _ _ _ ?a1 ?a2 ?a3 ?a4 ?a5 ?aK ?ap ?ad ?au ?aR)
  (case a2 => k_asm); (case a4 => exact lN'); (case a3 => k_asm); (case a5 => k_asm); (case a1 => k_asm); (case aK => first | exact rfl | assumption); (case ad => ktr_room); (case au => ktr_units)
  case ap => exact ⟨by omega, by omega⟩
  intro t6 h6 tk6 F6 N6
  clear lF' lN'
  k_extra "seg2"
  k_dflt (refine' best_c _ _ _ _ _ _ _ _ _ _ _ _ _ _ _ _ _ _ _ _ _ _ _ _ _ _ _ ?b1 ?b2 ?b3 ?b4 ?b5 ?bK ?bp ?bd ?bu ?bR)
  (case b2 => k_asm); (case b4 => k_asm); (case b3 => k_asm); (case b5 => k_asm); (case b1 => k_asm); (case bK => first | exact rfl | assumption); (case bd => ktr_room); (case bu => ktr_units)
  case bp => exact ⟨by omega, by omega, hP.sw1, hP.w1⟩
  intro t7 h7 tk7 F7 N7
  rw [hP.b1]
  k_extra "seg2"
  k_dflt (refine' best_c _ _ _ _ _ _ _ _ _ _ _ _ _ _ _ _ _ _ _ _ _ _ _ _ _ _ _ ?c1 ?c2 ?c3 ?c4 ?c5 ?cK ?cp ?cd ?cu ?cR)
  (case c2 => k_asm); (case c4 => k_asm); (case c3 => k_asm); (case c5 => k_asm); (case c1 => k_asm); (case cK => first | exact rfl | assumption); (case cd => ktr_room); (case cu => ktr_units)
  case cp => exact ⟨by omega, by omega, hP.sw2, hP.w2⟩
  intro t8 h8 tk8 F8 N8
  rw [hP.b2]
  k_extra "seg2"
  k_extra "seg3"
  have hw2 := wantF_le second
  k_dflt (refine' want_c _ _ _ _ _ _ _ _ _ _ _ _ _ _ _ _ _ _ _ _ _ _ _ _ _ ?qa1 ?qa2 ?qa3 ?qa4 ?qa5 ?qaK ?qap ?qad ?qau ?qaR)
  (case qa2 => k_asm); (case qa4 => k_asm); (case qa3 => k_asm); (case qa5 => k_asm); (case qa1 => k_asm); (case qaK => first | exact rfl | assumption); (case qad => ktr_room); (case qau => ktr_units)
  case qap => omega
  intro ta ha tka Fa Na
  k_extra "seg3"
  k_dflt (refine' lev_s _ _ _ _ _ _ _ _ _ _ _ _ _ _ _ _ _ _ _ _ _ _ _ _ _ _ _ _ _ ?qb1 ?qb2 ?qb3 ?qb4 ?qb5 ?qbK ?qbp ?qbd ?qbu ?qbR)
  (case qb2 => k_asm); (case qb4 => k_asm); (case qb3 => k_asm); (case qb5 => k_asm); (case qb1 => k_asm); (case qbK => first | exact rfl | assumption); (case qbd => ktr_room); (case qbu => ktr_units)
  case qbp => exact ⟨by omega, by omega⟩
  intro tb hb tkb Fb Nb
  have e1 := hP.told1 0 (by decide)
  rw [e1]
  k_extra "seg3"
  k_dflt (refine' lev_s _ _ _ _ _ _ _ _ _ _ _ _ _ _ _ _ _ _ _ _ _ _ _ _ _ _ _ _ _ ?qc1 ?qc2 ?qc3 ?qc4 ?qc5 ?qcK ?qcp ?qcd ?qcu ?qcR)
  (case qc2 => k_asm); (case qc4 => k_asm); (case qc3 => k_asm); (case qc5 => k_asm); (case qc1 => k_asm); (case qcK => first | exact rfl | assumption); (case qcd => ktr_room); (case qcu => ktr_units)
  case qcp => exact ⟨by omega, by omega⟩
  intro tc hc tkc Fc Nc
  rw [hP.back1]
  k_extra "seg3"
  have hw1 := wantF_le first
  k_dflt (refine' want_c _ _ _ _ _ _ _ _ _ _ _ _ _ _ _ _ _ _ _ _ _ _ _ _ _ ?ra1 ?ra2 ?ra3 ?ra4 ?ra5 ?raK ?rap ?rad ?rau ?raR)
  (case ra2 => k_asm); (case ra4 => k_asm); (case ra3 => k_asm); (case ra5 => k_asm); (case ra1 => k_asm); (case raK => first | exact rfl | assumption); (case rad => ktr_room); (case rau => ktr_units)
  case rap => omega
  intro td hd tkd Fd Nd
  k_extra "seg3"
  k_dflt (refine' lev_s _ _ _ _ _ _ _ _ _ _ _ _ _ _ _ _ _ _ _ _ _ _ _ _ _ _ _ _ _ ?rb1 ?rb2 ?rb3 ?rb4 ?rb5 ?rbK ?rbp ?rbd ?rbu ?rbR)
  (case rb2 => k_asm); (case rb4 => k_asm); (case rb3 => k_asm); (case rb5 => k_asm); (case rb1 => k_asm); (case rbK => first | exact rfl | assumption); (case rbd => ktr_room); (case rbu => ktr_units)
  case rbp => exact ⟨by omega, by omega⟩
  intro te he' tke Fe Ne
  have hsp : 0 ≤ 1 + ns.sum.fmod 3 := by have := fmod_lo ns.sum (n := 3) (by decide); omega
  rw [hP.told2 _ hsp]
  k_extra "seg3"
  k_dflt (refine' lev_s _ _ _ _ _ _ _ _ _ _ _ _ _ _ _ _ _ _ _ _ _ _ _ _ _ _ _ _ _ ?rc1 ?rc2 ?rc3 ?rc4 ?rc5 ?rcK ?rcp ?rcd ?rcu ?rcR)
  (case rc2 => k_asm); (case rc4 => k_asm); (case rc3 => k_asm); (case rc5 => k_asm); (case rc1 => k_asm); (case rcK => first | exact rfl | assumption); (case rcd => ktr_room); (case rcu => ktr_units)
  case rcp => exact ⟨by omega, by omega⟩
  intro tf hf tkf Ff Nf
  rw [hP.back2]
  k_extra "seg3"
  done)
end Mine
end
theorem PySem.Challenge.cw_ph0081_02_holds : PySem.Challenge.rw_ph0081_02.Holds := by
  exact Mine.law2
