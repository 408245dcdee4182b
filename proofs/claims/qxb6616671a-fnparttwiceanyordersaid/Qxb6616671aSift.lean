/-
  PLAIN AND MEMORY LEMMAS for slices.DeleteFunc: a row is sifted in place.
-/
import Derived.Test.Qxb6616671aKit
namespace Go.Proofs.Qxb6616671a
open Go.RowKit

/-! ### what is sifted, element by element -/
/-- i elements are kept of the first j of l; from j on the row holds l's own. -/
structure Sift {α : Type} (keep : α → Bool) (l : List α) (i j : Nat) (E : Nat → α) : Prop where
  ij : i < j
  jn : j ≤ l.length
  low : (List.range i).map E = (l.take j).filter keep
  high : ∀ t x, j ≤ t → l[t]? = some x → E t = x

section
variable {α : Type} {keep : α → Bool} {l : List α} {i j : Nat} {E : Nat → α}

theorem Sift.start (d : α) {t0 : Nat} {x : α} (hx : l[t0]? = some x) (hk : keep x = false) (hb : ∀ t y, t < t0 → l[t]? = some y → keep y = true) : Sift keep l t0 (t0 + 1) (fun t => l.getD t d) := by
  have ht : t0 < l.length := (List.getElem?_eq_some_iff.1 hx).1
  refine ⟨by omega, by omega, ?_, fun t y _ hy => by simp [List.getD_eq_getElem?_getD, hy]⟩
  have e1 : l.take (t0 + 1) = l.take t0 ++ [x] := by
    rw [List.take_succ_eq_append_getElem ht]
    have := (List.getElem?_eq_some_iff.1 hx).2
    rw [this]
  have e2 : (l.take t0).filter keep = l.take t0 := by
    rw [List.filter_eq_self]
    intro y hy
    obtain ⟨t, ht', rfl⟩ := List.getElem_of_mem hy
    have h1 : t < t0 := by simp at ht'; omega
    exact hb t _ h1 (by rw [List.getElem_take]; exact List.getElem?_eq_getElem _)
  rw [e1, List.filter_append, e2]
  simp only [List.filter_cons, hk]
  simp
  apply List.ext_getElem
  · simp; omega
  · intro t h1 h2
    simp at h1 h2
    have h3 : t < l.length := by omega
    simp [List.getElem?_eq_getElem h3]

theorem Sift.keepStep (h : Sift keep l i j E) {x : α} (hx : l[j]? = some x) (hk : keep x = true) : Sift keep l (i + 1) (j + 1) (fun t => if t = i then x else E t) := by
  have ht : j < l.length := (List.getElem?_eq_some_iff.1 hx).1
  have hij := h.ij
  refine ⟨by omega, by omega, ?_, fun t y ht' hy => ?_⟩
  · have e1 : l.take (j + 1) = l.take j ++ [x] := by
      rw [List.take_succ_eq_append_getElem ht, (List.getElem?_eq_some_iff.1 hx).2]
    rw [e1, List.filter_append, ← h.low, List.range_succ, List.map_append]
    simp only [List.filter_cons, hk, List.map_cons, List.map_nil, if_true, List.filter_nil]
    congr 1
    apply List.map_congr_left
    intro t ht'
    have : t < i := by simpa using ht'
    rw [if_neg (by omega)]
  · show (if t = i then x else E t) = y
    rw [if_neg (by omega)]
    exact h.high t y (by omega) hy

theorem Sift.dropStep (h : Sift keep l i j E) {x : α} (hx : l[j]? = some x) (hk : keep x = false) : Sift keep l i (j + 1) E := by
  have ht : j < l.length := (List.getElem?_eq_some_iff.1 hx).1
  have hij := h.ij
  refine ⟨by omega, by omega, ?_, fun t y ht' hy => h.high t y (by omega) hy⟩
  have e1 : l.take (j + 1) = l.take j ++ [x] := by
    rw [List.take_succ_eq_append_getElem ht, (List.getElem?_eq_some_iff.1 hx).2]
  rw [e1, List.filter_append, ← h.low]
  simp [hk]

theorem Sift.done (h : Sift keep l i l.length E) : (List.range i).map E = l.filter keep := by
  rw [h.low, List.take_of_length_le (Nat.le_refl _)]
theorem Sift.done_len (h : Sift keep l i l.length E) : (l.filter keep).length = i := by
  rw [← h.done]; simp
theorem Sift.done_at (h : Sift keep l i l.length E) {t : Nat} {x : α} (hx : (l.filter keep)[t]? = some x) : t < i ∧ E t = x := by
  rw [← h.done] at hx
  have ht := (List.getElem?_eq_some_iff.1 hx).1
  simp at ht
  refine ⟨ht, ?_⟩
  simpa [ht] using hx
end

/-! ### growth -/
theorem grownBy_trans {a b c : World} {row : Option Nat} (h : a.grownBy b row) (k : b.grownBy c row) : a.grownBy c row :=
  ⟨k.os.trans h.os, k.tape.trans h.tape, k.output.trans h.output, Nat.le_trans h.size k.size, fun i hi hne => (k.block i (Nat.lt_of_lt_of_le hi h.size) hne).trans (h.block i hi hne)⟩
theorem grownBy_below {a b c : World} {row : Option Nat} (h : a.grownBy b row) (k : Below b.heap.size b c) : a.grownBy c row :=
  grownBy_trans h ⟨k.os, k.tape, k.output, k.size, fun i hi _ => k.block i hi⟩
theorem grownBy_set {a b : World} {g : Nat} (h : a.grownBy b (some g)) (i : Nat) (v : Value) : a.grownBy (b.setCell ⟨g, i, none⟩ v) (some g) :=
  grownBy_trans h ⟨rfl, rfl, rfl, by simp [World.setCell], fun k _ hne => Below.heap_setCell _ _ _ _ (fun e => hne (by simpa using e))⟩
theorem grownBy_sets {a : World} {g : Nat} : ∀ (vs : List Value) (o : Nat) (b : World), a.grownBy b (some g) → a.grownBy (b.setCells g o vs) (some g)
  | [], _, _, h => h
  | v :: r, o, _, h => grownBy_sets r (o + 1) _ (grownBy_set h o v)
theorem rowIs_sets {g t n : Nat} : ∀ (vs : List Value) (o : Nat) (w : World) (f : Nat → Value), w.rowIs g t n f → ∃ f', (w.setCells g o vs).rowIs g t n f' ∧ ∀ j, j < o → f' j = f j
  | [], _, _, f, h => ⟨f, h, fun _ _ => rfl⟩
  | v :: r, o, w, f, h => by
    obtain ⟨f', h1, h2⟩ := rowIs_sets r (o + 1) _ _ (h.set o v)
    refine ⟨f', h1, fun j hj => ?_⟩
    rw [h2 j (by omega), if_neg (by omega)]

/-! ### a row that is owned, cell by cell, and back -/
theorem rowIs_of_own {w : World} {lo e size g n cap : Nat} {xs : List Value} (h : w.ownsRow lo e size (.slice (some ⟨g, 0, none⟩) n cap) n xs) :
    ∃ f, w.rowIs g e (cap * size) f ∧ (∀ t v, xs[t]? = some v → f t = v) ∧ n ≤ cap ∧ cap ≤ maxLen ∧ lo ≤ g := by
  rcases h.2 with ⟨he, _⟩ | ⟨g', cap', cur, he, hlo, hh, hnc, hcm, hcs, htake⟩
  · simp at he
  · have e1 : g = g' := by simp at he; exact he.1
    have e2 : cap = cap' := by injection he
    subst e1 e2
    refine ⟨fun t => (cur[t]?).getD (.bool false), ⟨cur, hh, hcs, fun i hi => ?_⟩, fun t v hv => ?_, hnc, hcm, hlo⟩
    · show cur[i]? = some ((cur[i]?).getD (.bool false))
      have : i < cur.size := by omega
      simp [this]
    · rw [← htake, List.getElem?_take] at hv
      split at hv
      · have : cur[t]? = some v := by simpa using hv
        simp [this]
      · cases hv
theorem own_of_rowIs {w : World} {lo e size g m cap : Nat} {f : Nat → Value} {xs : List Value} (h : w.rowIs g e (cap * size) f) (hlo : lo ≤ g) (hm : m ≤ cap) (hcm : cap ≤ maxLen) (hl : xs.length = m * size)
    (hx : ∀ t v, xs[t]? = some v → f t = v) : w.ownsRow lo e size (.slice (some ⟨g, 0, none⟩) m cap) m xs := by
  obtain ⟨cur, hh, hcs, hc⟩ := h
  refine ⟨hl, .inr ⟨g, cap, cur, rfl, hlo, hh, hm, hcm, hcs, ?_⟩⟩
  have hle : m * size ≤ cap * size := Nat.mul_le_mul_right _ hm
  apply List.ext_getElem?
  intro t
  rw [List.getElem?_take]
  by_cases ht : t < m * size
  · rw [if_pos ht]
    have hx' : xs[t]? = some (xs[t]'(by omega)) := List.getElem?_eq_getElem (by omega)
    rw [hx']
    have := hc t (by omega)
    rw [hx t _ hx'] at this
    simpa using this
  · rw [if_neg ht, List.getElem?_eq_none (by omega)]
end Go.Proofs.Qxb6616671a
