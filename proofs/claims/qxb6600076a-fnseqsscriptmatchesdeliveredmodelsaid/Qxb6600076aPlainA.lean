/-
  THE PLAIN TEXT of Seqs.add: what one add makes of a sorted list of missing numbers.
-/
import Derived.Test.Qxb6600076aPlainS
namespace Go.Proofs.Qxb6600076a

/-- A well-formed state: strictly increasing, each number at least 1, below high and within the window. -/
structure VS (H : Int) (L : List Int) : Prop where
  sorted : L.Pairwise (· < ·)
  pos : ∀ m ∈ L, 0 < m
  below : ∀ m ∈ L, m < H
  near : ∀ m ∈ L, H - m < 65536

/-- Which numbers are missing behind an add. -/
def addMem (H : Int) (L : List Int) (seq m : Int) : Prop :=
  if seq ≤ H then m ∈ L ∧ m ≠ seq
  else if H + 65536 < seq then False
  else (m ∈ L ∨ (H < m ∧ m < seq)) ∧ (65536 < seq → seq - 65536 < m)

/-- L' is what an add makes of L. -/
structure AddTo (H : Int) (L : List Int) (seq : Int) (L' : List Int) : Prop where
  sorted : L'.Pairwise (· < ·)
  mem : ∀ m, m ∈ L' ↔ addMem H L seq m

/-- The numbers from a up to b, b not among them. -/
def seqR (a b : Int) : List Int := (List.range (b - a).toNat).map fun (k : Nat) => a + (k : Int)
theorem mem_seqR {a b m : Int} : m ∈ seqR a b ↔ a ≤ m ∧ m < b := by
  unfold seqR
  rw [List.mem_map]
  constructor
  · rintro ⟨k, hk, rfl⟩
    have := List.mem_range.1 hk
    omega
  · intro h
    exact ⟨(m - a).toNat, List.mem_range.2 (by omega), by omega⟩
theorem seqR_sorted (a b : Int) : (seqR a b).Pairwise (· < ·) := by
  unfold seqR
  rw [List.pairwise_map]
  exact List.pairwise_lt_range.imp fun h => by omega
theorem seqR_nil (a : Int) : seqR a a = [] := by simp [seqR]
theorem seqR_snoc {a b : Int} (h : a ≤ b) : seqR a (b + 1) = seqR a b ++ [b] := by
  unfold seqR
  rw [show (b + 1 - a).toNat = (b - a).toNat + 1 by omega, List.range_succ, List.map_append]
  simp
  omega
theorem seqR_length (a b : Int) : (seqR a b).length = (b - a).toNat := by simp [seqR]

/-- A strictly sorted list within a window is short. -/
theorem sorted_length {L : List Int} (hs : L.Pairwise (· < ·)) : ∀ {a b : Int}, (∀ m ∈ L, a ≤ m ∧ m < b) → a ≤ b → (L.length : Int) ≤ b - a := by
  induction L with
  | nil => intro a b _ h; simp; omega
  | cons x r ih =>
    intro a b h hab
    rw [List.pairwise_cons] at hs
    have hx := h x (by simp)
    have := ih hs.2 (a := x + 1) (b := b) (fun m hm => ⟨by have := hs.1 m hm; omega, (h m (by simp [hm])).2⟩) (by omega)
    simp only [List.length_cons]
    omega
theorem VS.length {H : Int} {L : List Int} (h : VS H L) : L.length ≤ 65535 := by
  by_cases h0 : 65535 ≤ H
  · have := sorted_length h.sorted (a := H - 65535) (b := H) (fun m hm => ⟨by have := h.near m hm; omega, h.below m hm⟩) (by omega)
    omega
  · by_cases h1 : 1 ≤ H
    · have := sorted_length h.sorted (a := 1) (b := H) (fun m hm => ⟨by have := h.pos m hm; omega, h.below m hm⟩) h1
      omega
    · cases L with
      | nil => simp
      | cons x r => have h2 := h.pos x (by simp); have h3 := h.below x (by simp); omega

theorem mem_split {L : List Int} {i : Nat} (hi : i < L.length) (m : Int) : m ∈ L ↔ m ∈ L.take i ∨ m = L.getD i 0 ∨ m ∈ L.drop (i + 1) := by
  have e : L = L.take i ++ L.getD i 0 :: L.drop (i + 1) := by
    rw [List.getD_eq_getElem?_getD, List.getElem?_eq_getElem hi]
    simp
  constructor
  · intro h
    rw [e] at h
    simpa using h
  · intro h
    rw [e]
    simpa using h
/-- The number that was missing is struck. -/
theorem add_known {H : Int} {L : List Int} {seq : Int} {i : Nat} (hs : L.Pairwise (· < ·)) (hle : seq ≤ H) (hm : seq ∈ L) (hb : BS L seq i i) : i < L.length ∧ AddTo H L seq (L.take i ++ L.drop (i + 1)) := by
  obtain ⟨k, hk, e⟩ := getD_of_mem hm
  have hik : i = k := by
    rcases Nat.lt_trichotomy k i with h | h | h
    · have := hb.1 k h; omega
    · exact h.symm
    · have h1 := hb.2 i (Nat.le_refl _) (by omega)
      have h2 := (List.pairwise_iff_getElem.1 hs) i k (by omega) hk h
      simp only [List.getD_eq_getElem?_getD, List.getElem?_eq_getElem (show i < L.length by omega), List.getElem?_eq_getElem hk, Option.getD_some] at h1 e
      omega
  subst hik
  refine ⟨hk, ?_, ?_⟩
  · rw [← List.eraseIdx_eq_take_drop_succ]
    exact hs.sublist (List.eraseIdx_sublist _ _)
  · intro m
    unfold addMem
    rw [if_pos hle, mem_split hk m, List.mem_append, e]
    have hsp : L = L.take i ++ L.getD i 0 :: L.drop (i + 1) := by
      rw [List.getD_eq_getElem?_getD, List.getElem?_eq_getElem hk]
      simp
    have hs2 := hs
    rw [hsp, List.pairwise_append] at hs2
    obtain ⟨-, h2, h3⟩ := hs2
    rw [List.pairwise_cons] at h2
    constructor
    · rintro (h | h)
      · have := h3 m h (L.getD i 0) (by simp)
        exact ⟨.inl h, by omega⟩
      · have := h2.1 m h
        exact ⟨.inr (.inr h), by omega⟩
    · rintro ⟨h | h | h, hne⟩
      · exact .inl h
      · exact absurd h hne
      · exact .inr h
theorem add_rejoin {H : Int} {L : List Int} {seq : Int} (h1 : ¬ seq ≤ H) (h2 : H + 65536 < seq) : AddTo H L seq [] :=
  ⟨by simp, fun m => by unfold addMem; rw [if_neg h1, if_pos h2]; simp⟩

/-- Where the skipped numbers begin. -/
def fromOf (H seq : Int) : Int := if 65536 < seq then max (H + 1) (seq - 65535) else H + 1
theorem fromOf_ge (H seq : Int) : H + 1 ≤ fromOf H seq := by unfold fromOf; split <;> omega
theorem fromOf_le {H seq : Int} (h : H < seq) : fromOf H seq ≤ seq := by unfold fromOf; split <;> omega
theorem grown_sorted {H : Int} {L : List Int} (hv : VS H L) (a b : Int) (ha : H + 1 ≤ a) : (L ++ seqR a b).Pairwise (· < ·) := by
  rw [List.pairwise_append]
  refine ⟨hv.sorted, seqR_sorted a b, fun x hx y hy => ?_⟩
  have h1 := hv.below x hx
  have h2 := (mem_seqR.1 hy).1
  omega
/-- Within the window nothing is struck. -/
theorem add_small {H : Int} {L : List Int} {seq : Int} (hv : VS H L) (h1 : ¬ seq ≤ H) (h2 : ¬ H + 65536 < seq) (h3 : ¬ 65536 < seq) : AddTo H L seq (L ++ seqR (fromOf H seq) seq) := by
  refine ⟨grown_sorted hv _ _ (fromOf_ge H seq), fun m => ?_⟩
  unfold addMem
  rw [if_neg h1, if_neg h2, List.mem_append, mem_seqR, fromOf, if_neg h3]
  constructor
  · rintro (h | h)
    · exact ⟨.inl h, fun h => absurd h h3⟩
    · exact ⟨.inr (by omega), fun h => absurd h h3⟩
  · rintro ⟨h | h, -⟩
    · exact .inl h
    · exact .inr (by omega)
/-- What lies below the window is struck. -/
theorem add_big {H : Int} {L : List Int} {seq : Int} {i : Nat} (hv : VS H L) (h1 : ¬ seq ≤ H) (h2 : ¬ H + 65536 < seq) (h3 : 65536 < seq) (hb : BS (L ++ seqR (fromOf H seq) seq) (seq - 65536 + 1) i i) :
    AddTo H L seq ((L ++ seqR (fromOf H seq) seq).take 0 ++ (L ++ seqR (fromOf H seq) seq).drop i) := by
  have hs := grown_sorted hv (fromOf H seq) seq (fromOf_ge H seq)
  have hmem : ∀ m, m ∈ L ++ seqR (fromOf H seq) seq ↔ m ∈ L ∨ (fromOf H seq ≤ m ∧ m < seq) := fun m => by rw [List.mem_append, mem_seqR]
  have hfr : fromOf H seq = max (H + 1) (seq - 65535) := by rw [fromOf, if_pos h3]
  generalize L ++ seqR (fromOf H seq) seq = M at *
  rw [List.take_zero, List.nil_append]
  refine ⟨hs.sublist (List.drop_sublist _ _), fun m => ?_⟩
  unfold addMem
  rw [if_neg h1, if_neg h2]
  have key : m ∈ M.drop i ↔ m ∈ M ∧ seq - 65536 < m := by
    constructor
    · intro h
      refine ⟨List.mem_of_mem_drop h, ?_⟩
      obtain ⟨k, hk, e⟩ := List.mem_iff_getElem.1 h
      rw [List.length_drop] at hk
      rw [List.getElem_drop] at e
      have := hb.2 (i + k) (by omega) (by omega)
      rw [List.getD_eq_getElem?_getD, List.getElem?_eq_getElem (by omega), Option.getD_some, e] at this
      omega
    · rintro ⟨h, hgt⟩
      obtain ⟨k, hk, e⟩ := getD_of_mem h
      rcases Nat.lt_or_ge k i with hlt | hge
      · have := hb.1 k hlt; omega
      · rw [List.mem_iff_getElem]
        refine ⟨k - i, by rw [List.length_drop]; omega, ?_⟩
        rw [List.getElem_drop]
        rw [List.getD_eq_getElem?_getD, List.getElem?_eq_getElem hk, Option.getD_some] at e
        rw [← e]
        congr 1
        omega
  rw [key, hmem m, hfr]
  constructor
  · rintro ⟨h | h, hgt⟩
    · exact ⟨.inl h, fun _ => hgt⟩
    · exact ⟨.inr (by omega), fun _ => hgt⟩
  · rintro ⟨h | h, hgt⟩
    · exact ⟨.inl h, hgt h3⟩
    · have := hgt h3
      exact ⟨.inr (by omega), this⟩

/-- The state behind an add is well formed again. -/
theorem AddTo.vs {H : Int} {L L' : List Int} {seq : Int} (hv : VS H L) (hH : 0 ≤ H) (hseq : 0 < seq) (h : AddTo H L seq L') : VS (max H seq) L' := by
  obtain ⟨hs, hm⟩ := h
  refine ⟨hs, ?_, ?_, ?_⟩
  all_goals
    intro m hmm
    have h1 := (hm m).1 hmm
    unfold addMem at h1
    split at h1
    · have g1 := hv.pos m h1.1
      have g2 := hv.below m h1.1
      have g3 := hv.near m h1.1
      omega
    · split at h1
      · exact absurd h1 (by simp)
      · obtain ⟨h1 | h1, h2⟩ := h1
        · have g1 := hv.pos m h1
          have g2 := hv.below m h1
          by_cases hb : 65536 < seq
          · have := h2 hb; omega
          · omega
        · by_cases hb : 65536 < seq
          · have := h2 hb; omega
          · omega

end Go.Proofs.Qxb6600076a
