/-
  PLAIN: what is left when a member parts from p and from q, in either order; a list kept in order is found again from left to right.
-/
import Derived.Test.Qxb6616671aPart
namespace Go.Proofs.Qxb6616671a

/-- Neither p nor q. -/
def keep2 (p q s : ByteArray) : Bool := !isP p s && !isP q s

/-- An opening's peer and link. -/
def pl (o : Opn) : ByteArray × Int := (o.peer, o.link)

theorem outs_twice (p q : ByteArray) (l : List ByteArray) : (l.filter (keepS p)).filter (keepS q) = l.filter (keep2 p q) := by
  rw [List.filter_filter]
  apply List.filter_congr
  intro x _
  simp [keepS, keep2, Bool.and_comm]
theorem outs_twice' (p q : ByteArray) (l : List ByteArray) : (l.filter (keepS q)).filter (keepS p) = l.filter (keep2 p q) := by
  rw [List.filter_filter]
  rfl
theorem ops_twice (p q : ByteArray) (l : List Opn) : (l.filter (keepO p)).filter (keepO q) = l.filter (fun o => keep2 p q o.peer) := by
  rw [List.filter_filter]
  apply List.filter_congr
  intro x _
  simp [keepO, keep2, Bool.and_comm]
theorem ops_twice' (p q : ByteArray) (l : List Opn) : (l.filter (keepO q)).filter (keepO p) = l.filter (fun o => keep2 p q o.peer) := by
  rw [List.filter_filter]
  rfl
theorem ops_pl (p q : ByteArray) (l : List Opn) : (l.filter (fun o => keep2 p q o.peer)).map pl = (l.map pl).filter (fun x => keep2 p q x.1) := by
  rw [List.filter_map]
  rfl
/-- The same peers and links: the same pairs. -/
theorem pl_eq : ∀ {l l' : List Opn}, l.map Opn.peer = l'.map Opn.peer → l.map Opn.link = l'.map Opn.link → l.map pl = l'.map pl
  | [], [], _, _ => rfl
  | [], _ :: _, h, _ => by simp at h
  | _ :: _, [], h, _ => by simp at h
  | x :: l, y :: l', h, h' => by
    simp only [List.map_cons, List.cons.injEq] at h h' ⊢
    exact ⟨by simp [pl, h.1, h'.1], pl_eq h.2 h'.2⟩
theorem pl_at {l : List Opn} {s : List ByteArray} {z : List Int} (hp : l.map Opn.peer = s) (hl : l.map Opn.link = z) (t : Nat) (ht : t < s.length) : (l.map pl)[t]? = some (s.getD t ByteArray.empty, z.getD t 0) := by
  subst hp hl
  have h : t < l.length := by simpa using ht
  simp [h, pl]

/-- As many openings as peers are kept. -/
theorem count_pl (p q : ByteArray) (l : List Opn) : ((l.map pl).filter (fun x => keep2 p q x.1)).length = ((l.map Opn.peer).filter (keep2 p q)).length := by
  induction l with
  | nil => rfl
  | cons x l ih =>
    cases h : keep2 p q x.peer with
    | true => simp [pl, h] at ih ⊢; exact ih
    | false => simp [pl, h] at ih ⊢; exact ih

/-- How many are kept of the first m. -/
def kept (p q : ByteArray) (l : List ByteArray) (m : Nat) : Nat := ((l.take m).filter (keep2 p q)).length
theorem kept_le (p q : ByteArray) (l : List ByteArray) (m : Nat) : kept p q l m ≤ m := by
  unfold kept
  exact Nat.le_trans (List.length_filter_le _ _) (List.length_take_le _ _)
theorem kept_yes {p q : ByteArray} {l : List ByteArray} {m : Nat} {s : ByteArray} (hs : l[m]? = some s) (h : keep2 p q s = true) : kept p q l (m + 1) = kept p q l m + 1 := by
  unfold kept
  rw [List.take_succ_eq_append_getElem (List.getElem?_eq_some_iff.1 hs).1, (List.getElem?_eq_some_iff.1 hs).2]
  simp [h]
theorem kept_no {p q : ByteArray} {l : List ByteArray} {m : Nat} {s : ByteArray} (hs : l[m]? = some s) (h : keep2 p q s = false) : kept p q l (m + 1) = kept p q l m := by
  unfold kept
  rw [List.take_succ_eq_append_getElem (List.getElem?_eq_some_iff.1 hs).1, (List.getElem?_eq_some_iff.1 hs).2]
  simp [h]
theorem kept_all (p q : ByteArray) (l : List ByteArray) : kept p q l l.length = (l.filter (keep2 p q)).length := by
  unfold kept
  rw [List.take_of_length_le (Nat.le_refl _)]

/-! ### found again from left to right -/
section
variable {α : Type} {f l : List α} {i j : Nat} {x y : α}
/-- From place i of f on all lies, in order, from place j of l on. -/
def Lies (f l : List α) (i j : Nat) : Prop := (f.drop i).Sublist (l.drop j)
theorem Lies.start (k : α → Bool) (l : List α) : Lies (l.filter k) l 0 0 := by
  unfold Lies
  simp
theorem drop_at (h : l[j]? = some y) : l.drop j = y :: l.drop (j + 1) := by
  have := List.getElem?_eq_some_iff.1 h
  rw [List.drop_eq_getElem_cons this.1, this.2]
theorem Lies.lt (h : Lies f l i j) (hx : f[i]? = some x) : j < l.length := by
  unfold Lies at h
  rw [drop_at hx] at h
  have := h.length_le
  simp at this
  omega
theorem Lies.miss (h : Lies f l i j) (hx : f[i]? = some x) (hy : l[j]? = some y) (hne : y ≠ x) : Lies f l i (j + 1) := by
  unfold Lies at h ⊢
  rw [drop_at hx, drop_at hy] at h
  rw [drop_at hx]
  cases h with
  | cons _ h => exact h
  | cons_cons _ h => exact absurd rfl hne
theorem Lies.hit (h : Lies f l i j) (hx : f[i]? = some x) (hy : l[j]? = some y) : Lies f l (i + 1) (j + 1) := by
  unfold Lies at h ⊢
  rw [drop_at hx, drop_at hy] at h
  cases h with
  | cons _ h => exact (List.sublist_cons_self _ _).trans h
  | cons_cons _ h => exact h
end
theorem bytes_ne {s t : ByteArray} (h : (s.toList == t.toList) = false) : s ≠ t := by
  rintro rfl
  simp at h
end Go.Proofs.Qxb6616671a
