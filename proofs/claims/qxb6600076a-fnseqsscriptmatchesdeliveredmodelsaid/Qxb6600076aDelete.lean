import Derived.Test.Qxb6600076aSearch
import Derived.Test.Qxb6600076aShelf
namespace Go.Proofs.Qxb6600076a
open Go.RowKit
set_option linter.unusedVariables false

theorem zero25 (w : World) : (zeroValue 25).run Try.prog w = .ok (.int .u64 0) w := by kernel_rfl
theorem type25 : ∃ i0, Try.prog.info? 25 = some i0 ∧ i0.zero = some (.int .u64 0) ∧ i0.size = 1 ∧ i0.bytes = 8 := by
  obtain ⟨i, hi, h⟩ := Option.map_eq_some_iff.1 info25
  simp only [Prod.mk.injEq] at h
  exact ⟨i, hi, h⟩

/-- Owned cells read as the numbers. -/
theorem owns_cur {cur : Array Value} {L : List Int} {n : Nat} (hn : n = L.length) (ht : cur.toList.take (n * 1) = L.map (Value.int .u64)) (i : Nat) (hi : i < L.length) : cur[i]? = some (.int .u64 (L.getD i 0)) := by
  have : (cur.toList.take (n * 1))[i]? = (L.map (Value.int .u64))[i]? := by rw [ht]
  rw [List.getElem?_take, if_pos (by omega)] at this
  rw [← Array.getElem?_toList, this]
  simp [hi]

theorem take_put (cur : Array Value) (d : List Int) (m : Nat) (hm : m ≤ d.length) (hc : d.length ≤ cur.size) : (Sort.putCells (Value.int .u64) 0 d.toArray cur).toList.take (m * 1) = (d.take m).map (Value.int .u64) := by
  apply List.ext_getElem?
  intro k
  rw [Nat.mul_one, List.getElem?_take]
  by_cases hk : k < m
  · rw [if_pos hk]
    have h1 : k < cur.size := by omega
    have h2 : k < d.length := by omega
    simp [Sort.putCells, h1, h2, hk]
  · rw [if_neg hk, List.getElem?_eq_none (by simp; omega)]

theorem delete_nil (w : World) : Calls Try.prog 33 #[.slice none 0 0, .int .i64 0, .int .i64 0] w fun e w' => e = .returned (.slice none 0 0) ∧ w' = w := by
  go_enter Try.func33, Try.ntmps33
  go_wp2
  go_ret
  exact ⟨rfl, rfl⟩

/-- slices.Delete on a row of the call's own. -/
theorem delete_own (base : Nat) (v : Value) (L : List Int) (i j : Nat) (w : World) (hown : w.ownsRow base 25 1 v L.length (L.map (Value.int .u64))) (hij : i ≤ j) (hj : j ≤ L.length) :
    Calls Try.prog 33 #[v, .int .i64 i, .int .i64 j] w fun e w' => ∃ v', e = .returned v' ∧ w'.ownsRow base 25 1 v' (L.take i ++ L.drop j).length ((L.take i ++ L.drop j).map (Value.int .u64)) ∧ w.grownBy w' v.ownBlock ∧ v'.ownBlock = v.ownBlock := by
  obtain ⟨hl, h⟩ := hown
  rcases h with ⟨rfl, h0⟩ | ⟨g, cap, cur, rfl, hb, hh, hnc, hcm, hcs, ht⟩
  · have hL : L = [] := List.length_eq_zero_iff.1 h0
    subst hL
    simp at hj
    subst hj
    obtain rfl : i = 0 := by omega
    exact (delete_nil w).mono fun e w' ⟨he, hw⟩ => ⟨_, he, by subst hw; exact World.ownsRow_nil _ _ _ _, by subst hw; exact ⟨rfl, rfl, rfl, Nat.le_refl _, fun _ _ _ => rfl⟩, rfl⟩
  · obtain ⟨i0, hi, hz0, hz1, hz2⟩ := type25
    have hH : Sort.Holds (Value.int .u64) w g 0 L.toArray := by
      intro k hk
      have hk' : k < L.length := by simpa using hk
      refine ⟨?_, ?_⟩
      · simp only [World.cell?, hh, Nat.zero_add]
        have := owns_cur rfl ht k hk'
        simp [this, List.getD_eq_getElem?_getD, hk']
      · simp [World.frozen?, hh]
    have := Try.slices_Delete (Value.int .u64) (fun x => rfl) 0 zero25 i0 hi hz1 g 0 cap i j L.toArray w hH (by simpa using hnc) (by unfold maxLen at hcm; omega) hij (by simpa using hj)
    rw [List.size_toArray] at this
    have hlen : (L.take i ++ L.drop j).length = L.length - (j - i) := by simp; omega
    refine this.mono fun e w' ⟨he, q, hw⟩ => ⟨_, he, ?_, ?_, rfl⟩
    · subst hw
      obtain ⟨d, hd⟩ : ∃ d, L.toArray.toList.take i ++ L.toArray.toList.drop j ++ List.replicate (j - i) (0 : Int) = d := ⟨_, rfl⟩
      rw [hd]
      have hdl : d.length = L.length := by rw [← hd]; simp; omega
      have hdt : d.take (L.take i ++ L.drop j).length = L.take i ++ L.drop j := by
        rw [← hd]
        exact List.take_left' rfl
      refine ⟨by simp, .inr ⟨g, cap, Sort.putCells (Value.int .u64) 0 d.toArray cur, by rw [hlen], hb, ?_, by rw [hlen]; omega, hcm, by simpa [Sort.putCells] using hcs, ?_⟩⟩
      · show ((w.heap.modify g (Sort.onCells (Sort.putCells (Value.int .u64) 0 d.toArray))))[g]? = _
        rw [Array.getElem?_modify, if_pos rfl, hh]
        rfl
      · rw [take_put cur d _ (by rw [hlen]; omega) (by omega), hdt]
    · subst hw
      refine ⟨rfl, rfl, rfl, ?_, fun k hk hne => ?_⟩
      · show w.heap.size ≤ (w.heap.modify g _).size
        simp
      · show (w.heap.modify g _)[k]? = w.heap[k]?
        rw [Array.getElem?_modify, if_neg]
        intro e
        apply hne
        rw [← e]
        rfl

end Go.Proofs.Qxb6600076a
