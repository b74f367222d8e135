/-
  THE PLAIN TEXT of the script's law: what stands behind each step, and the count at the end.
-/
import Derived.Test.Qxb6600076aPlainA
namespace Go.Proofs.Qxb6600076a

/-- Where the window begins. -/
def loOf (H F : Int) : Int := max (F + 1) (H - 65535)

/-- What stands behind some steps of the script: H the highest, F the floor, L the missing, A the added. -/
structure PI (H F : Int) (L A : List Int) : Prop where
  f0 : 0 ≤ F
  fh : F ≤ H
  hm : H ≤ 18446744073709486079
  vs : VS H L
  mem : ∀ m, m ∈ L ↔ loOf H F ≤ m ∧ m < H ∧ m ∉ A
  nodup : A.Nodup
  le : ∀ a ∈ A, a ≤ H
  top : H = 0 ∨ H ∈ A
theorem pi_start : PI 0 0 [] [] :=
  ⟨by omega, by omega, by omega, ⟨by simp, by simp, by simp, by simp⟩, fun m => by unfold loOf; simp; omega, by simp, by simp, .inl rfl⟩

/-- The floor behind a step. -/
def floorOf (H F seq : Int) : Int := if H + 65536 < seq then seq else F

theorem pi_step {H F seq : Int} {L A L' : List Int} (h : PI H F L A) (hs : seq ≤ 18446744073709486079) (hs0 : 0 < seq) (hd : seq ≤ H → seq ∈ L) (ha : AddTo H L seq L') : PI (max H seq) (floorOf H F seq) L' (A ++ [seq]) := by
  have f0 := h.f0
  have fh := h.fh
  have hm := h.hm
  have hnA : seq ∉ A := by
    intro hA
    have h1 := h.le seq hA
    exact ((h.mem seq).1 (hd h1)).2.2 hA
  refine ⟨?_, ?_, by omega, ha.vs h.vs (by omega) hs0, fun m => ?_, ?_, fun a haa => ?_, ?_⟩
  · unfold floorOf; split <;> omega
  · unfold floorOf; split <;> omega
  · rw [ha.mem m]
    unfold addMem
    by_cases h1 : seq ≤ H
    · rw [if_pos h1, h.mem m, show max H seq = H by omega, floorOf, if_neg (by omega)]
      simp only [List.mem_append, List.mem_singleton, not_or]
      constructor
      · rintro ⟨⟨a, b, c⟩, d⟩; exact ⟨a, b, c, d⟩
      · rintro ⟨a, b, c, d⟩; exact ⟨⟨a, b, c⟩, d⟩
    · rw [if_neg h1, show max H seq = seq by omega]
      by_cases h2 : H + 65536 < seq
      · rw [if_pos h2, floorOf, if_pos h2]
        unfold loOf
        constructor
        · exact False.elim
        · rintro ⟨a, b, -⟩; omega
      · rw [if_neg h2, floorOf, if_neg h2]
        simp only [List.mem_append, List.mem_singleton, not_or]
        constructor
        · rintro ⟨h3 | h3, h4⟩
          · have h5 := (h.mem m).1 h3
            have h6 := h.vs.pos m h3
            unfold loOf at h5 ⊢
            refine ⟨?_, by omega, h5.2.2, by omega⟩
            by_cases hb : 65536 < seq
            · have := h4 hb; omega
            · omega
          · refine ⟨?_, by omega, fun hA => ?_, by omega⟩
            · unfold loOf
              by_cases hb : 65536 < seq
              · have := h4 hb; omega
              · omega
            · have := h.le m hA; omega
        · rintro ⟨h3, h4, h5, h6⟩
          unfold loOf at h3
          refine ⟨?_, fun _ => by omega⟩
          by_cases h7 : H < m
          · exact .inr ⟨h7, h4⟩
          · refine .inl ((h.mem m).2 ⟨by unfold loOf; omega, ?_, h5⟩)
            rcases Int.lt_or_eq_of_le (show m ≤ H by omega) with h8 | h8
            · exact h8
            · subst h8
              rcases h.top with h9 | h9
              · omega
              · exact absurd h9 h5
  · rw [List.nodup_append]
    exact ⟨h.nodup, by simp, fun a hx b hb e => by
      rw [List.mem_singleton.1 hb] at e
      exact hnA (e ▸ hx)⟩
  · rcases List.mem_append.1 haa with h1 | h1
    · have := h.le a h1; omega
    · simp at h1; omega
  · by_cases h1 : seq ≤ H
    · rw [show max H seq = H by omega]
      rcases h.top with h2 | h2
      · omega
      · exact .inr (List.mem_append.2 (.inl h2))
    · rw [show max H seq = seq by omega]
      exact .inr (by simp)

/-- d lies within the window. -/
def inW (lo H : Int) (d : Int) : Bool := decide (lo ≤ d ∧ d < H)
def cntW (lo H : Int) (A : List Int) : Nat := (A.filter (inW lo H)).length
theorem cnt_take (lo H : Int) (A : List Int) (k : Nat) (hk : k < A.length) : cntW lo H (A.take (k + 1)) = cntW lo H (A.take k) + (if inW lo H (A.getD k 0) then 1 else 0) := by
  unfold cntW
  rw [List.take_add_one, List.getElem?_eq_getElem hk, List.getD_eq_getElem?_getD, List.getElem?_eq_getElem hk]
  simp only [Option.toList, List.filter_append, List.length_append, Option.getD_some]
  congr 1
  generalize A[k] = x
  by_cases h : inW lo H x = true
  · simp [h]
  · simp [h]
theorem cnt_le (lo H : Int) (A : List Int) (k : Nat) : cntW lo H (A.take k) ≤ cntW lo H A := by
  unfold cntW
  exact ((List.take_sublist k A).filter _).length_le

theorem pi_count {H F : Int} {L A : List Int} (h : PI H F L A) (hlo : loOf H F ≤ H) : (L.length : Int) + cntW (loOf H F) H A = H - loOf H F := by
  have hp : (L ++ A.filter (inW (loOf H F) H)).Perm (seqR (loOf H F) H) := by
    refine (List.perm_ext_iff_of_nodup ?_ ?_).2 fun m => ?_
    · rw [List.nodup_append]
      refine ⟨h.vs.sorted.imp (fun hab => by omega), h.nodup.filter _, fun a ha b hb e => ?_⟩
      subst e
      exact ((h.mem a).1 ha).2.2 (List.mem_filter.1 hb).1
    · exact (seqR_sorted _ _).imp (fun hab => by omega)
    · rw [List.mem_append, h.mem m, List.mem_filter, mem_seqR]
      unfold inW
      rw [decide_eq_true_iff]
      constructor
      · rintro (⟨a, b, -⟩ | ⟨-, a, b⟩) <;> exact ⟨a, b⟩
      · rintro ⟨a, b⟩
        by_cases hA : m ∈ A
        · exact .inr ⟨hA, a, b⟩
        · exact .inl ⟨a, b, hA⟩
  have := hp.length_eq
  rw [List.length_append, seqR_length] at this
  unfold cntW
  omega
theorem pi_none {H F : Int} {L A : List Int} (h : PI H F L A) (hlo : H ≤ loOf H F) : L.length = 0 := by
  rw [List.length_eq_zero_iff, List.eq_nil_iff_forall_not_mem]
  intro m hm
  have := (h.mem m).1 hm
  omega

end Go.Proofs.Qxb6600076a
