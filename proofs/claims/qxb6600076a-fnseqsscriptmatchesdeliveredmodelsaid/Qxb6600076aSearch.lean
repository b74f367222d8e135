import Derived.Test.Qxb6600076aBase
import Derived.Test.Qxb6600076aPlainS
namespace Go.Proofs.Qxb6600076a
open Go.RowKit
set_option linter.unusedVariables false

theorem ret_pair {i : Int} {a b : Bool} (h : a = b) : Ending.returned (.tuple #[.int .i64 i, .bool a]) = .returned (.tuple #[.int .i64 i, .bool b]) := by rw [h]
theorem ret_bool1 {a b : Bool} (h : a = b) : Ending.returned (.bool a) = .returned (.bool b) := by rw [h]

set_option maxHeartbeats 1000000 in
set_option maxRecDepth 100000 in
/-- zzInSorted. -/
theorem inSorted_some (L : List Int) (v : Int) (b off c : Nat) (w : World) (hn : L.length ≤ 2000000) (hs : Keep (L.Pairwise (· < ·))) (hc : Keep (∀ i, i < L.length → w.cell? ⟨b, off + i, none⟩ = some (.int .u64 (L.getD i 0)))) :
    Calls Try.prog 28 #[.slice (some ⟨b, off, none⟩) L.length c, .int .u64 v] w fun e w' => e = .returned (.bool (decide (v ∈ L))) ∧ w' = w := by
  go_enter Try.func28, Try.ntmps28
  go_wp2
  go_loopg [5, 6] L.length (fun g iv jv wr => ∃ (lo hi : Nat), lo ≤ hi ∧ hi ≤ L.length ∧ hi - lo ≤ g ∧ iv = .int .i64 lo ∧ jv = .int .i64 hi ∧ Keep (BS L v lo hi) ∧ w = wr)
  case atStart => exact ⟨0, L.length, by omega, by omega, by omega, rfl, rfl, BS.start L v, rfl⟩
  case round =>
  obtain ⟨lo, hi, h1, h2, hg, rfl, rfl, hI, rfl⟩ := hrel
  by_cases hlt : lo < hi
  · go_upto_region 5 with fail
    obtain ⟨m, hm, m1, m2⟩ : ∃ m : Nat, (lo : Int) + ((hi : Int) - (lo : Int)) / 2 = (m : Int) ∧ lo ≤ m ∧ m < hi := ⟨((lo : Int) + ((hi : Int) - (lo : Int)) / 2).toNat, by omega, by omega, by omega⟩
    rw [hm]
    clear hm
    have g0 := hc.out m (by omega)
    obtain ⟨u, hu⟩ : ∃ u, L.getD m 0 = u := ⟨_, rfl⟩
    rw [hu] at g0
    have HU := Keep.mk hu
    clear hu
    have hmL : (m : Int) < (L.length : Int) := by omega
    by_cases huv : u < v
    · go_wp2_with fail
      go_roundg (hi - (m + 1))
      case measure => omega
      case rel => exact ⟨m + 1, hi, by omega, by omega, by omega, by go_num, rfl, hI.out.right hs.out (by omega) (by rw [HU.out]; exact huv), rfl⟩
    · go_wp2_with fail
      go_roundg (m - lo)
      case measure => omega
      case rel => exact ⟨lo, m, by omega, by omega, by omega, rfl, rfl, hI.out.left hs.out (by rw [HU.out]; omega), rfl⟩
  · obtain rfl : hi = lo := by omega
    clear hlt
    by_cases hend : hi < L.length
    · have g0 := hc.out hi hend
      have hf := hI.out.found hs.out hend
      obtain ⟨u, hu⟩ : ∃ u, L.getD hi 0 = u := ⟨_, rfl⟩
      rw [hu] at g0 hf
      have HF := Keep.mk hf
      clear hu hf
      go_wp2_with fail
      go_ret
      exact ⟨ret_bool1 HF.out, rfl⟩
    · obtain rfl : hi = L.length := by omega
      have HF := Keep.mk hI.out.missing
      go_wp2_with fail
      go_ret
      exact ⟨by rw [HF.out]; rfl, rfl⟩
theorem inSorted_none (v : Int) (a : Option Addr) (c : Nat) (w : World) :
    Calls Try.prog 28 #[.slice a 0 c, .int .u64 v] w fun e w' => e = .returned (.bool false) ∧ w' = w := by
  go_enter Try.func28, Try.ntmps28
  go_wp2
  go_loopg [5, 6] 0 (fun g iv jv wr => iv = .int .i64 0 ∧ jv = .int .i64 0 ∧ w = wr)
  case atStart => exact ⟨rfl, rfl, rfl⟩
  case round =>
  obtain ⟨rfl, rfl, rfl⟩ := hrel
  go_wp2_with fail
  go_ret
  exact ⟨rfl, rfl⟩
theorem inSorted_any (L : List Int) (x : Int) (v : Value) (w : World) (h : Sl .u64 w v L) (hn : L.length ≤ 2000000) (hs : L.Pairwise (· < ·)) :
    Calls Try.prog 28 #[v, .int .u64 x] w fun e w' => e = .returned (.bool (decide (x ∈ L))) ∧ w' = w := by
  obtain ⟨a, c, rfl, h⟩ := h
  rcases h with rfl | ⟨b, off, rfl, hb, hc⟩
  · exact inSorted_none x a c w
  · exact inSorted_some L x b off c w hn hs hc

/-- n counts as delivered. -/
def delB (H n : Int) (L : List Int) : Bool := decide (n ≤ H ∧ n ∉ L)
/-- zzDelivered. -/
theorem delivered_any (H n : Int) (L : List Int) (v : Value) (w : World) (h : Sl .u64 w v L) (hn : L.length ≤ 2000000) (hs : L.Pairwise (· < ·)) :
    Calls Try.prog 9 #[.int .u64 H, v, .int .u64 n] w fun e w' => e = .returned (.bool (delB H n L)) ∧ w' = w := by
  have HH := Keep.mk (inSorted_any L n v w h hn hs)
  clear h hs
  by_cases hle : n ≤ H
  · have e0 : delB H n L = !decide (n ∈ L) := by unfold delB; by_cases hm : n ∈ L <;> simp [hle, hm]
    have E0 := Keep.mk e0
    clear e0
    go_enter Try.func9, Try.ntmps9
    go_wp2_with fail
    refine HH.out.mono ?_
    rintro e w1 ⟨rfl, hw⟩
    subst hw
    go_wp2_with fail
    go_ret
    exact ⟨ret_bool1 E0.out.symm, rfl⟩
  · have e0 : delB H n L = false := by simp [delB, hle]
    have E0 := Keep.mk e0
    clear e0
    go_enter Try.func9, Try.ntmps9
    go_wp2_with fail
    go_ret
    exact ⟨ret_bool1 E0.out.symm, rfl⟩

theorem less_any (x y : Int) (w : World) : Calls Try.prog 36 #[.int .u64 x, .int .u64 y] w fun e w' => e = .returned (.bool (decide (x < y))) ∧ w' = w := by
  go_enter Try.func36, Try.ntmps36
  go_wp2
  go_ret
  exact ⟨rfl, rfl⟩

set_option maxHeartbeats 1000000 in
set_option maxRecDepth 100000 in
/-- slices.BinarySearch at a strictly sorted row. -/
theorem search_some (L : List Int) (v : Int) (b off c : Nat) (w : World) (hn : L.length ≤ 2000000) (hs : Keep (L.Pairwise (· < ·))) (hc : Keep (∀ i, i < L.length → w.cell? ⟨b, off + i, none⟩ = some (.int .u64 (L.getD i 0)))) :
    Calls Try.prog 32 #[.slice (some ⟨b, off, none⟩) L.length c, .int .u64 v] w fun e w' => (∃ i : Nat, i ≤ L.length ∧ BS L v i i ∧ e = .returned (.tuple #[.int .i64 i, .bool (decide (v ∈ L))])) ∧ w' = w := by
  go_enter Try.func32, Try.ntmps32
  go_wp2
  go_loopg [7, 8] L.length (fun g iv jv wr => ∃ (lo hi : Nat), lo ≤ hi ∧ hi ≤ L.length ∧ hi - lo ≤ g ∧ iv = .int .i64 lo ∧ jv = .int .i64 hi ∧ Keep (BS L v lo hi) ∧ w = wr)
  case atStart => exact ⟨0, L.length, by omega, by omega, by omega, rfl, rfl, BS.start L v, rfl⟩
  case round =>
  obtain ⟨lo, hi, h1, h2, hg, rfl, rfl, hI, rfl⟩ := hrel
  by_cases hlt : lo < hi
  · go_upto_region 5 with fail
    obtain ⟨m, hm, m1, m2⟩ : ∃ m : Nat, ((lo : Int) + (hi : Int)) / 2 = (m : Int) ∧ lo ≤ m ∧ m < hi := ⟨(((lo : Int) + (hi : Int)) / 2).toNat, by omega, by omega, by omega⟩
    rw [hm]
    clear hm
    have g0 := hc.out m (by omega)
    obtain ⟨u, hu⟩ : ∃ u, L.getD m 0 = u := ⟨_, rfl⟩
    rw [hu] at g0
    have HU := Keep.mk hu
    clear hu
    have hmL : (m : Int) < (L.length : Int) := by omega
    by_cases huv : u < v
    · go_wp2_with (go_at_call 36; refine (less_any _ _ _).mono ?_; rintro e w' ⟨rfl, rfl⟩)
      go_roundg (hi - (m + 1))
      case measure => omega
      case rel => exact ⟨m + 1, hi, by omega, by omega, by omega, by go_num, rfl, hI.out.right hs.out (by omega) (by rw [HU.out]; exact huv), rfl⟩
    · go_wp2_with (go_at_call 36; refine (less_any _ _ _).mono ?_; rintro e w' ⟨rfl, rfl⟩)
      go_roundg (m - lo)
      case measure => omega
      case rel => exact ⟨lo, m, by omega, by omega, by omega, rfl, rfl, hI.out.left hs.out (by rw [HU.out]; omega), rfl⟩
  · obtain rfl : hi = lo := by omega
    clear hlt
    by_cases hend : hi < L.length
    · have g0 := hc.out hi hend
      have hf := hI.out.found hs.out hend
      obtain ⟨u, hu⟩ : ∃ u, L.getD hi 0 = u := ⟨_, rfl⟩
      rw [hu] at g0 hf
      have HF := Keep.mk hf
      clear hu hf
      cases huv : (u == v)
      · go_wp2
        go_ret2
        exact ⟨⟨hi, by omega, hI.out, ret_pair (by rw [← HF.out, huv])⟩, rfl⟩
      · go_wp2
        go_ret2
        exact ⟨⟨hi, by omega, hI.out, ret_pair (by rw [← HF.out, huv])⟩, rfl⟩
    · obtain rfl : hi = L.length := by omega
      have HF := Keep.mk hI.out.missing
      go_wp2
      go_ret2
      exact ⟨⟨L.length, by omega, hI.out, ret_pair HF.out.symm⟩, rfl⟩
theorem search_none (v : Int) (a : Option Addr) (c : Nat) (w : World) :
    Calls Try.prog 32 #[.slice a 0 c, .int .u64 v] w fun e w' => e = .returned (.tuple #[.int .i64 0, .bool false]) ∧ w' = w := by
  go_enter Try.func32, Try.ntmps32
  go_wp2
  go_loopg [7, 8] 0 (fun g iv jv wr => iv = .int .i64 0 ∧ jv = .int .i64 0 ∧ w = wr)
  case atStart => exact ⟨rfl, rfl, rfl⟩
  case round =>
  obtain ⟨rfl, rfl, rfl⟩ := hrel
  go_wp2_with fail
  go_ret2
  exact ⟨rfl, rfl⟩
theorem search_any (L : List Int) (x : Int) (v : Value) (w : World) (h : Sl .u64 w v L) (hn : L.length ≤ 2000000) (hs : L.Pairwise (· < ·)) :
    Calls Try.prog 32 #[v, .int .u64 x] w fun e w' => ∃ i : Nat, i ≤ L.length ∧ BS L x i i ∧ e = .returned (.tuple #[.int .i64 i, .bool (decide (x ∈ L))]) ∧ w' = w := by
  obtain ⟨a, c, rfl, h⟩ := h
  rcases h with rfl | ⟨b, off, rfl, hb, hc⟩
  · exact (search_none x a c w).mono fun e w' ⟨he, hw⟩ => ⟨0, by simp, BS.start [] x, he, hw⟩
  · exact (search_some L x b off c w hn hs hc).mono fun e w' ⟨⟨i, h1, h2, he⟩, hw⟩ => ⟨i, h1, h2, he, hw⟩

end Go.Proofs.Qxb6600076a
