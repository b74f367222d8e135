/-
  THE PLAIN TEXT of the seat's laws: lists of integers; no Go in sight.
-/
namespace Go.Proofs.Qxb6600076a

/-! ### The insertion sort, as its two loops keep it -/

/-- After k rounds: the first k numbers of l, sorted; zeros behind. -/
def SInv (l : List Int) (k : Nat) (Y : List Int) : Prop :=
  ∃ P : List Int, Y = P ++ List.replicate (l.length - k) 0 ∧ P.Perm (l.take k) ∧ P.Pairwise (· ≤ ·)
/-- While v is being put in: place j is free; what stands behind it is greater than v. -/
def IInv (l : List Int) (k : Nat) (v : Int) (j : Nat) (Y : List Int) : Prop :=
  ∃ (A B : List Int) (z : Int), Y = A ++ z :: (B ++ List.replicate (l.length - (k + 1)) 0) ∧ A.length = j ∧ (A ++ B).Perm (l.take k) ∧ (A ++ B).Pairwise (· ≤ ·) ∧ ∀ t ∈ B, v < t

theorem SInv.start (l : List Int) : SInv l 0 (List.replicate l.length 0) := ⟨[], by simp, by simp, by simp⟩
theorem SInv.length {l Y : List Int} {k : Nat} (h : SInv l k Y) (hk : k ≤ l.length) : Y.length = l.length := by
  obtain ⟨P, rfl, hp, -⟩ := h
  have := hp.length_eq
  simp at this
  simp
  omega
theorem IInv.length {l Y : List Int} {k j : Nat} {v : Int} (h : IInv l k v j Y) (hk : k < l.length) : Y.length = l.length := by
  obtain ⟨A, B, z, rfl, ha, hp, -⟩ := h
  have := hp.length_eq
  simp at this
  simp
  omega
theorem SInv.enter {l Y : List Int} {k : Nat} (h : SInv l k Y) (hk : k < l.length) (v : Int) : IInv l k v k Y := by
  obtain ⟨P, rfl, hp, hs⟩ := h
  have hl := hp.length_eq
  simp at hl
  refine ⟨P, [], 0, ?_, by omega, by simpa using hp, by simpa using hs, by simp⟩
  rw [show l.length - k = (l.length - (k + 1)) + 1 by omega, List.replicate_succ]
  simp
theorem IInv.step {l Y : List Int} {k j : Nat} {v : Int} (h : IInv l k v (j + 1) Y) (hv : v < Y.getD j 0) : IInv l k v j (Y.set (j + 1) (Y.getD j 0)) := by
  obtain ⟨A, B, z, rfl, ha, hp, hs, hb⟩ := h
  obtain ⟨A', a, rfl⟩ : ∃ A' a, A = A' ++ [a] := by
    have hne : A ≠ [] := by intro h; simp [h] at ha
    exact ⟨A.dropLast, A.getLast hne, (List.dropLast_concat_getLast hne).symm⟩
  have ha' : A'.length = j := by simpa using ha
  have hget : (A' ++ [a] ++ z :: (B ++ List.replicate (l.length - (k + 1)) 0)).getD j 0 = a := by
    rw [List.getD_eq_getElem?_getD, List.append_assoc, List.getElem?_append_right (by omega)]
    simp [ha']
  rw [hget] at hv ⊢
  refine ⟨A', a :: B, a, ?_, ha', by simpa using hp, by simpa using hs, ?_⟩
  · rw [List.set_append_right _ _ (by simp; omega)]
    simp [ha']
  · intro t ht
    rcases List.mem_cons.1 ht with rfl | ht
    · exact hv
    · exact hb t ht
theorem IInv.fin {l Y : List Int} {k j : Nat} (hk : k < l.length) (h : IInv l k (l.getD k 0) j Y) (he : j = 0 ∨ ∃ i, j = i + 1 ∧ Y.getD i 0 ≤ l.getD k 0) : SInv l (k + 1) (Y.set j (l.getD k 0)) := by
  obtain ⟨A, B, z, rfl, ha, hp, hs, hb⟩ := h
  refine ⟨A ++ l.getD k 0 :: B, ?_, ?_, ?_⟩
  · rw [List.set_append_right _ _ (by omega)]
    simp [ha]
  · have e : l.take (k + 1) = l.take k ++ [l.getD k 0] := by
      rw [List.take_succ_eq_append_getElem hk]
      simp [List.getD_eq_getElem?_getD, hk]
    rw [e]
    refine List.perm_middle.trans ((List.Perm.cons _ hp).trans ?_)
    exact (List.perm_append_singleton _ _).symm
  · rw [List.pairwise_append] at hs ⊢
    obtain ⟨h1, h2, h3⟩ := hs
    refine ⟨h1, ?_, ?_⟩
    · rw [List.pairwise_cons]
      exact ⟨fun t ht => Int.le_of_lt (hb t ht), h2⟩
    · intro a haA t ht
      have hav : a ≤ l.getD k 0 := by
        rcases he with rfl | ⟨i, rfl, hlt⟩
        · rw [List.length_eq_zero_iff.1 ha] at haA; simp at haA
        · obtain ⟨A', x, rfl⟩ : ∃ A' x, A = A' ++ [x] := by
            have hne : A ≠ [] := by intro h; simp [h] at ha
            exact ⟨A.dropLast, A.getLast hne, (List.dropLast_concat_getLast hne).symm⟩
          have ha' : A'.length = i := by simpa using ha
          have hget : (A' ++ [x] ++ z :: (B ++ List.replicate (l.length - (k + 1)) 0)).getD i 0 = x := by
            rw [List.getD_eq_getElem?_getD, List.append_assoc, List.getElem?_append_right (by omega)]
            simp [ha']
          rw [hget] at hlt
          rcases List.mem_append.1 haA with h | h
          · rw [List.pairwise_append] at h1
            have := h1.2.2 a h x (by simp)
            omega
          · have : a = x := by simpa using h
            omega
      rcases List.mem_cons.1 ht with rfl | ht
      · exact hav
      · exact h3 a haA t ht
theorem SInv.done {l Y : List Int} (h : SInv l l.length Y) : Y.Perm l ∧ Y.Pairwise (· ≤ ·) := by
  obtain ⟨P, rfl, hp, hs⟩ := h
  simp only [Nat.sub_self, List.replicate_zero, List.append_nil, List.take_length] at *
  exact ⟨hp, hs⟩

/-! ### How many lie in one list alone -/

/-- How many of xs lie not in ys. -/
def miss (xs ys : List Int) : Nat := (xs.filter (fun x => decide (x ∉ ys))).length
theorem miss_snoc (xs ys : List Int) (x : Int) : miss (xs ++ [x]) ys = miss xs ys + if x ∈ ys then 0 else 1 := by
  unfold miss
  rw [List.filter_append, List.length_append]
  by_cases h : x ∈ ys <;> simp [h]
theorem miss_le (xs ys : List Int) : miss xs ys ≤ xs.length := List.length_filter_le _ _
theorem miss_nil (xs : List Int) : miss xs [] = xs.length := by simp [miss]
theorem nil_miss (ys : List Int) : miss [] ys = 0 := rfl
theorem miss_congr {xs ys ys' : List Int} (h : ∀ x ∈ xs, x ∈ ys ↔ x ∈ ys') : miss xs ys = miss xs ys' := by
  unfold miss
  congr 1
  apply List.filter_congr
  intro x hx
  simp [h x hx]
theorem miss_perm {xs xs' ys ys' : List Int} (h : xs.Perm xs') (h' : ys.Perm ys') : miss xs ys = miss xs' ys' := by
  rw [miss_congr (ys' := ys') fun x _ => h'.mem_iff]
  exact (h.filter _).length_eq
theorem miss_cons (x : Int) (xs ys : List Int) : miss (x :: xs) ys = miss xs ys + if x ∈ ys then 0 else 1 := by
  unfold miss
  by_cases h : x ∈ ys <;> simp [h]
/-- The two heads are one number. -/
theorem merge_eq {x : Int} {xs ys : List Int} (hx : (x :: xs).Pairwise (· < ·)) (hy : (x :: ys).Pairwise (· < ·)) :
    miss (x :: xs) (x :: ys) + miss (x :: ys) (x :: xs) = miss xs ys + miss ys xs := by
  rw [List.pairwise_cons] at hx hy
  rw [miss_cons, miss_cons, if_pos (by simp), if_pos (by simp)]
  rw [miss_congr (xs := xs) (ys := x :: ys) (ys' := ys) fun z hz => by have := hx.1 z hz; simp; omega]
  rw [miss_congr (xs := ys) (ys := x :: xs) (ys' := xs) fun z hz => by have := hy.1 z hz; simp; omega]
  omega
/-- The first head is the smaller one. -/
theorem merge_lt {x y : Int} {xs ys : List Int} (hy : (y :: ys).Pairwise (· < ·)) (h : x < y) :
    miss (x :: xs) (y :: ys) + miss (y :: ys) (x :: xs) = 1 + (miss xs (y :: ys) + miss (y :: ys) xs) := by
  rw [List.pairwise_cons] at hy
  have hn : x ∉ y :: ys := by
    intro hm
    rcases List.mem_cons.1 hm with e | hm
    · omega
    · have := hy.1 x hm; omega
  rw [miss_cons, if_neg hn]
  rw [miss_congr (xs := y :: ys) (ys := x :: xs) (ys' := xs) fun z hz => by
    have : x < z := by
      rcases List.mem_cons.1 hz with e | hz
      · omega
      · have := hy.1 z hz; omega
    simp; omega]
  omega
theorem strict_of {P : List Int} (hs : P.Pairwise (· ≤ ·)) (h : ∀ t, t + 1 < P.length → ¬ P.getD t 0 = P.getD (t + 1) 0) : P.Pairwise (· < ·) := by
  induction P with
  | nil => simp
  | cons a r ih =>
    rw [List.pairwise_cons] at hs ⊢
    have hr := ih hs.2 fun t ht => by have := h (t + 1) (by simpa using ht); simpa using this
    refine ⟨fun z hz => ?_, hr⟩
    cases r with
    | nil => simp at hz
    | cons b r =>
      have h0 := h 0 (by simp)
      simp at h0
      have hab := hs.1 b (by simp)
      have hbz : b ≤ z := by
        rcases List.mem_cons.1 hz with e | hz
        · omega
        · rw [List.pairwise_cons] at hr; have := hr.1 z hz; omega
      omega
theorem strict_nodup {P : List Int} (hs : P.Pairwise (· < ·)) : P.Nodup := hs.imp fun h => by omega

/-! ### A row that is being filled -/

/-- The first k numbers of l, zeros behind: n in all. -/
def cp (l : List Int) (n k : Nat) : List Int := l.take k ++ List.replicate (n - k) 0
theorem cp_zero (l : List Int) (n : Nat) : cp l n 0 = List.replicate n 0 := by simp [cp]
theorem cp_length (l : List Int) (n k : Nat) (h : k ≤ l.length) (hn : k ≤ n) : (cp l n k).length = n := by simp [cp]; omega
theorem cp_step (l : List Int) (n k : Nat) (h : k < l.length) (hn : k < n) : (cp l n k).set k (l.getD k 0) = cp l n (k + 1) := by
  unfold cp
  rw [List.set_append_right _ _ (by simp; omega), show n - k = (n - (k + 1)) + 1 by omega, List.replicate_succ]
  have : k - (l.take k).length = 0 := by simp; omega
  rw [this, List.take_succ_eq_append_getElem h, List.append_assoc]
  simp only [List.set_cons_zero, List.getD_eq_getElem?_getD, List.getElem?_eq_getElem h, Option.getD_some, List.singleton_append]
theorem cp_all (l : List Int) : cp l l.length l.length = l := by simp [cp]
theorem cp_one (l : List Int) (x : Int) : (cp l (l.length + 1) l.length).set l.length x = l ++ [x] := by
  unfold cp
  rw [List.take_length, List.set_append_right _ _ (Nat.le_refl _)]
  simp

end Go.Proofs.Qxb6600076a
