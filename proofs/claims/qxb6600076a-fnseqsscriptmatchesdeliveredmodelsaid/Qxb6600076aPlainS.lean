/-
  THE PLAIN TEXT of the laws over Seqs: sorted lists of numbers, the search in them; no Go in sight.
-/
namespace Go.Proofs.Qxb6600076a

/-- What a binary search knows: below lo all is less than t, from hi on nothing is. -/
def BS (L : List Int) (t : Int) (lo hi : Nat) : Prop :=
  (∀ k, k < lo → L.getD k 0 < t) ∧ (∀ k, hi ≤ k → k < L.length → t ≤ L.getD k 0)
theorem BS.start (L : List Int) (t : Int) : BS L t 0 L.length := ⟨fun k h => by omega, fun k h1 h2 => by omega⟩
theorem sorted_get {L : List Int} (hs : L.Pairwise (· < ·)) {i j : Nat} (hij : i ≤ j) (hj : j < L.length) : L.getD i 0 ≤ L.getD j 0 := by
  rcases Nat.lt_or_ge i j with h | h
  · have := (List.pairwise_iff_getElem.1 hs) i j (by omega) hj h
    simp only [List.getD_eq_getElem?_getD, List.getElem?_eq_getElem (show i < L.length by omega), List.getElem?_eq_getElem hj, Option.getD_some]
    omega
  · have : i = j := by omega
    subst this
    exact Int.le_refl _
theorem BS.right {L : List Int} {t : Int} {lo hi m : Nat} (hs : L.Pairwise (· < ·)) (h : BS L t lo hi) (hm : m < L.length) (hlt : L.getD m 0 < t) : BS L t (m + 1) hi :=
  ⟨fun k hk => by have := sorted_get hs (show k ≤ m by omega) hm; omega, h.2⟩
theorem BS.left {L : List Int} {t : Int} {lo hi m : Nat} (hs : L.Pairwise (· < ·)) (h : BS L t lo hi) (hge : t ≤ L.getD m 0) : BS L t lo m :=
  ⟨h.1, fun k h1 h2 => by have := sorted_get hs h1 h2; omega⟩
theorem mem_getD {L : List Int} {i : Nat} (h : i < L.length) : L.getD i 0 ∈ L := by
  rw [List.getD_eq_getElem?_getD, List.getElem?_eq_getElem h]
  exact List.getElem_mem _
theorem getD_of_mem {L : List Int} {x : Int} (h : x ∈ L) : ∃ i, i < L.length ∧ L.getD i 0 = x := by
  obtain ⟨i, hi, e⟩ := List.mem_iff_getElem.1 h
  exact ⟨i, hi, by rw [List.getD_eq_getElem?_getD, List.getElem?_eq_getElem hi]; exact e⟩
/-- Where the search ends: the number is in the list just where it stands there. -/
theorem BS.found {L : List Int} {t : Int} {i : Nat} (hs : L.Pairwise (· < ·)) (h : BS L t i i) (hi : i < L.length) : (L.getD i 0 == t) = decide (t ∈ L) := by
  rw [Bool.eq_iff_iff]
  simp only [beq_iff_eq, decide_eq_true_eq]
  constructor
  · intro e; rw [← e]; exact mem_getD hi
  · intro hm
    obtain ⟨k, hk, e⟩ := getD_of_mem hm
    rcases Nat.lt_or_ge k i with h1 | h1
    · have := h.1 k h1; omega
    · have h2 := sorted_get hs h1 hk
      have h3 := h.2 i (Nat.le_refl _) hi
      omega
theorem BS.missing {L : List Int} {t : Int} (h : BS L t L.length L.length) : decide (t ∈ L) = false := by
  apply decide_eq_false
  intro hm
  obtain ⟨k, hk, e⟩ := getD_of_mem hm
  have := h.1 k hk
  omega

end Go.Proofs.Qxb6600076a
