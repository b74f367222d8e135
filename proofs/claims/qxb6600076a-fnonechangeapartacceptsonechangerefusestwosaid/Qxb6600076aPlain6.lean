/-
  THE PLAIN TEXT of 'OneChangeApartAcceptsOneChangeRefusesTwo': how far the lists of the law lie apart.
-/
import Derived.Test.Qxb6600076aPlain
namespace Go.Proofs.Qxb6600076a

theorem miss_sub {xs ys : List Int} (h : ∀ x ∈ xs, x ∈ ys) : miss xs ys = 0 := by
  unfold miss
  rw [List.length_eq_zero_iff, List.filter_eq_nil_iff]
  intro x hx
  simp [h x hx]
theorem miss_append (xs zs ys : List Int) : miss (xs ++ zs) ys = miss xs ys + miss zs ys := by
  unfold miss
  rw [List.filter_append, List.length_append]
theorem miss_one {x : Int} {ys : List Int} (h : x ∉ ys) : miss [x] ys = 1 := by simp [miss, h]

theorem far_self (l : List Int) : decide (miss l l + miss l l ≤ 1) = true := by
  rw [miss_sub fun x h => h]; rfl
theorem far_add (l : List Int) (x : Int) (h : x ∉ l) : decide (miss l (l ++ [x]) + miss (l ++ [x]) l ≤ 1) = true := by
  rw [miss_sub fun z hz => by simp [hz], miss_append, miss_sub fun z h => h, miss_one h]; rfl
theorem far_add' (l : List Int) (x : Int) (h : x ∉ l) : decide (miss (l ++ [x]) l + miss l (l ++ [x]) ≤ 1) = true := by
  rw [Nat.add_comm]; exact far_add l x h
theorem far_two (l : List Int) (x y : Int) (hx : x ∉ l) (hy : y ∉ l) : decide (miss l (l ++ [x] ++ [y]) + miss (l ++ [x] ++ [y]) l ≤ 1) = false := by
  rw [miss_sub (xs := l) fun z hz => by simp [hz], miss_append, miss_append, miss_sub fun z h => h, miss_one hx, miss_one hy]; rfl
theorem far_two' (l : List Int) (x y : Int) (hx : x ∉ l) (hy : y ∉ l) : decide (miss (l ++ [x] ++ [y]) l + miss l (l ++ [x] ++ [y]) ≤ 1) = false := by
  rw [Nat.add_comm]; exact far_two l x y hx hy

/-- The list around its place j. -/
theorem split_at (l : List Int) (j : Nat) (h : j < l.length) : l = l.take j ++ l.getD j 0 :: l.drop (j + 1) := by
  rw [List.getD_eq_getElem?_getD, List.getElem?_eq_getElem h]
  simp
theorem set_at (l : List Int) (j : Nat) (h : j < l.length) (x : Int) : l.set j x = l.take j ++ x :: l.drop (j + 1) := by
  rw [List.set_eq_take_append_cons_drop, if_pos h]
theorem erase_at (l : List Int) (j : Nat) : l.eraseIdx j = l.take j ++ l.drop (j + 1) := List.eraseIdx_eq_take_drop_succ l j

theorem nodup_mid {A B : List Int} {v : Int} (h : (A ++ v :: B).Nodup) : v ∉ A ∧ v ∉ B := by
  rw [List.nodup_append] at h
  obtain ⟨-, h2, h3⟩ := h
  rw [List.nodup_cons] at h2
  exact ⟨fun hm => h3 v hm v (by simp) rfl, h2.1⟩
theorem far_set (l : List Int) (j : Nat) (hj : j < l.length) (x : Int) (hn : l.Nodup) (hx : x ∉ l) : decide (miss l (l.set j x) + miss (l.set j x) l ≤ 1) = false := by
  have e := split_at l j hj
  rw [set_at l j hj]
  generalize l.take j = A at *
  generalize l.getD j 0 = v at *
  generalize l.drop (j + 1) = B at *
  subst e
  obtain ⟨n1, n2⟩ := nodup_mid hn
  simp only [List.mem_append, List.mem_cons, not_or] at hx
  have hv : v ∉ A ++ x :: B := by simp [n1, n2]; intro h; exact hx.2.1 h.symm
  have hx' : x ∉ A ++ v :: B := by simp [hx.1, hx.2.1, hx.2.2]
  have e1 : miss (A ++ v :: B) (A ++ x :: B) = 1 := by
    rw [show A ++ v :: B = A ++ ([v] ++ B) by simp, miss_append, miss_append, miss_one hv, miss_sub (xs := A) fun z hz => by simp [hz], miss_sub (xs := B) fun z hz => by simp [hz]]
  have e2 : miss (A ++ x :: B) (A ++ v :: B) = 1 := by
    rw [show A ++ x :: B = A ++ ([x] ++ B) by simp, miss_append, miss_append, miss_one hx', miss_sub (xs := A) fun z hz => by simp [hz], miss_sub (xs := B) fun z hz => by simp [hz]]
  rw [e1, e2]; rfl
theorem far_erase (l : List Int) (j : Nat) (hj : j < l.length) (hn : l.Nodup) : decide (miss l (l.eraseIdx j) + miss (l.eraseIdx j) l ≤ 1) = true := by
  have e := split_at l j hj
  rw [erase_at]
  generalize l.take j = A at *
  generalize l.getD j 0 = v at *
  generalize l.drop (j + 1) = B at *
  subst e
  obtain ⟨n1, n2⟩ := nodup_mid hn
  have hv : v ∉ A ++ B := by simp [n1, n2]
  have e1 : miss (A ++ v :: B) (A ++ B) = 1 := by
    rw [show A ++ v :: B = A ++ ([v] ++ B) by simp, miss_append, miss_append, miss_one hv, miss_sub (xs := A) fun z hz => by simp [hz], miss_sub (xs := B) fun z hz => by simp [hz]]
  rw [e1, miss_sub fun z hz => by simp at hz ⊢; rcases hz with h | h <;> simp [h]]; rfl
theorem far_erase' (l : List Int) (j : Nat) (hj : j < l.length) (hn : l.Nodup) : decide (miss (l.eraseIdx j) l + miss l (l.eraseIdx j) ≤ 1) = true := by
  rw [Nat.add_comm]; exact far_erase l j hj hn
theorem far_swap (l : List Int) (j : Nat) (hj : j < l.length) (x : Int) (hn : l.Nodup) (hx : x ∉ l) : decide (miss (l.eraseIdx j) (l ++ [x]) + miss (l ++ [x]) (l.eraseIdx j) ≤ 1) = false := by
  have e := split_at l j hj
  rw [erase_at]
  generalize l.take j = A at *
  generalize l.getD j 0 = v at *
  generalize l.drop (j + 1) = B at *
  subst e
  obtain ⟨n1, n2⟩ := nodup_mid hn
  simp only [List.mem_append, List.mem_cons, not_or] at hx
  have hv : v ∉ A ++ B := by simp [n1, n2]
  have hx' : x ∉ A ++ B := by simp [hx.1, hx.2.2]
  have e1 : miss (A ++ v :: B ++ [x]) (A ++ B) = 2 := by
    rw [show A ++ v :: B ++ [x] = A ++ ([v] ++ (B ++ [x])) by simp, miss_append, miss_append, miss_append, miss_one hv, miss_one hx', miss_sub (xs := A) fun z hz => by simp [hz], miss_sub (xs := B) fun z hz => by simp [hz]]
  rw [e1, miss_sub fun z hz => by simp at hz ⊢; rcases hz with h | h <;> simp [h]]; rfl
theorem far_swap' (l : List Int) (j : Nat) (hj : j < l.length) (x : Int) (hn : l.Nodup) (hx : x ∉ l) : decide (miss (l ++ [x]) (l.eraseIdx j) + miss (l.eraseIdx j) (l ++ [x]) ≤ 1) = false := by
  rw [Nat.add_comm]; exact far_swap l j hj x hn hx

/-- What has been kept after k rounds: all but place j. -/
def kept (l : List Int) (j k : Nat) : List Int := (l.take k).eraseIdx j
theorem kept_zero (l : List Int) (j : Nat) : kept l j 0 = [] := by simp [kept]
theorem kept_skip (l : List Int) (j : Nat) (h : j < l.length) : kept l j (j + 1) = kept l j j := by
  unfold kept
  rw [List.take_succ_eq_append_getElem h, List.eraseIdx_append_of_length_le (by simp; omega)]
  have e : j - (l.take j).length = 0 := by simp; omega
  rw [e, List.eraseIdx_of_length_le (l := l.take j) (by simp; omega)]
  simp
theorem kept_step (l : List Int) (j k : Nat) (h : k < l.length) (hne : ¬ k = j) : kept l j (k + 1) = kept l j k ++ [l.getD k 0] := by
  unfold kept
  rw [List.take_succ_eq_append_getElem h]
  have e : [l[k]] = [l.getD k 0] := by simp [List.getD_eq_getElem?_getD, h]
  rw [e]
  rcases Nat.lt_or_ge j k with hlt | hge
  · rw [List.eraseIdx_append_of_lt_length (by simp; omega)]
  · rw [List.eraseIdx_of_length_le (l := l.take k) (by simp; omega), List.eraseIdx_of_length_le (by simp; omega)]
theorem kept_all (l : List Int) (j : Nat) : kept l j l.length = l.eraseIdx j := by simp [kept]
theorem kept_length (l : List Int) (j k : Nat) : (kept l j k).length ≤ l.length := by
  unfold kept
  refine Nat.le_trans (List.length_eraseIdx_le _ _) ?_
  simp
  omega

end Go.Proofs.Qxb6600076a
