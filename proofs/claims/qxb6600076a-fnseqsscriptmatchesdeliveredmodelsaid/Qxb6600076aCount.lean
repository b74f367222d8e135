import Derived.Test.Qxb6600076aApart
namespace Go.Proofs.Qxb6600076a
open Go.RowKit
set_option linter.unusedVariables false

theorem ret_int1 {k : IntKind} {a b : Int} (h : a = b) : Ending.returned (.int k a) = .returned (.int k b) := by rw [h]
theorem drop_cons_getD (l : List Int) (k : Nat) (h : k < l.length) : l.drop k = l.getD k 0 :: l.drop (k + 1) := by
  rw [List.drop_eq_getElem_cons h]
  simp [List.getD_eq_getElem?_getD, h]

set_option maxHeartbeats 1000000 in
set_option maxRecDepth 100000 in
/-- zzCountApart at two strictly sorted rows. -/
theorem count_some (p q : List Int) (b1 off1 c1 b2 off2 c2 : Nat) (w : World) (hn1 : p.length ≤ 4096) (hn2 : q.length ≤ 4096) (hs1 : Keep (p.Pairwise (· < ·))) (hs2 : Keep (q.Pairwise (· < ·)))
    (hc1 : Keep (∀ i, i < p.length → w.cell? ⟨b1, off1 + i, none⟩ = some (.int .u32 (p.getD i 0)))) (hc2 : Keep (∀ i, i < q.length → w.cell? ⟨b2, off2 + i, none⟩ = some (.int .u32 (q.getD i 0)))) :
    Calls Try.prog 21 #[.slice (some ⟨b1, off1, none⟩) p.length c1, .slice (some ⟨b2, off2, none⟩) q.length c2] w fun e w' => e = .returned (.int .i64 ((miss p q + miss q p : Nat) : Int)) ∧ ∃ d, w' = w.drewN d := by
  go_enter Try.func21, Try.ntmps21
  go_wp2
  go_loopg [5, 6, 7] (p.length + q.length) (fun g iv jv nv wr => ∃ (i j n d : Nat), i ≤ p.length ∧ j ≤ q.length ∧ (p.length - i) + (q.length - j) ≤ g ∧ iv = .int .i64 i ∧ jv = .int .i64 j ∧ nv = .int .i64 n ∧ n ≤ 20000 ∧ n ≤ i + j ∧ Keep (n + (miss (p.drop i) (q.drop j) + miss (q.drop j) (p.drop i)) = miss p q + miss q p) ∧ wr = w.drewN d)
  case atStart => exact ⟨0, 0, 0, 0, by omega, by omega, by omega, rfl, rfl, rfl, by omega, by omega, by simp [Keep], rfl⟩
  case round =>
  obtain ⟨i, j, n, d, hi, hj, hg, rfl, rfl, rfl, hnb, hnij, hI, rfl⟩ := hrel
  by_cases hi1 : i < p.length
  · by_cases hj1 : j < q.length
    · have g0 := hc1.out i hi1
      have g1 := hc2.out j hj1
      have D1 := Keep.mk (drop_cons_getD p i hi1)
      have D2 := Keep.mk (drop_cons_getD q j hj1)
      obtain ⟨x, hx⟩ : ∃ x, p.getD i 0 = x := ⟨_, rfl⟩
      obtain ⟨y, hy⟩ : ∃ y, q.getD j 0 = y := ⟨_, rfl⟩
      rw [hx] at g0 D1
      rw [hy] at g1 D2
      clear hx hy
      have S1 : Keep ((x :: p.drop (i + 1)).Pairwise (· < ·)) := by rw [← D1.out]; exact hs1.out.drop
      have S2 : Keep ((y :: q.drop (j + 1)).Pairwise (· < ·)) := by rw [← D2.out]; exact hs2.out.drop
      have li : (i : Int) < (p.length : Int) := by omega
      have lj : (j : Int) < (q.length : Int) := by omega
      cases heq : (x == y)
      · by_cases hlt : x < y
        · go_wp2_with fail
          go_quiet (fail)
          go_wp2_with fail
          go_quiet (fail)
          go_wp2_with fail
          go_roundg ((p.length - (i + 1)) + (q.length - j))
          case measure => omega
          case rel => exact ⟨i + 1, j, n + 1, _, by omega, by omega, by omega, by go_num, rfl, by go_num, by omega, by omega, by
            have h := hI.out
            rw [D1.out, D2.out, merge_lt S2.out hlt] at h
            rw [D2.out]
            show _ = _
            omega, rfl⟩
        · have hgt : y < x := by
            have : ¬ x = y := by simpa using heq
            omega
          go_wp2_with fail
          go_quiet (fail)
          go_wp2_with fail
          go_quiet (fail)
          go_wp2_with fail
          go_roundg ((p.length - i) + (q.length - (j + 1)))
          case measure => omega
          case rel => exact ⟨i, j + 1, n + 1, _, by omega, by omega, by omega, rfl, by go_num, by go_num, by omega, by omega, by
            have h := hI.out
            rw [D1.out, D2.out] at h
            have h2 := merge_lt (xs := q.drop (j + 1)) S1.out hgt
            rw [D1.out]
            show _ = _
            omega, rfl⟩
      · have hxy : x = y := by simpa using heq
        have HXY := Keep.mk hxy
        clear hxy
        go_wp2_with fail
        go_quiet (fail)
        go_wp2_with fail
        go_roundg ((p.length - (i + 1)) + (q.length - (j + 1)))
        case measure => omega
        case rel => exact ⟨i + 1, j + 1, n, _, by omega, by omega, by omega, by go_num, by go_num, rfl, by omega, by omega, by
          have h := hI.out
          have s2 := S2.out
          rw [← HXY.out] at s2
          rw [D1.out, D2.out, ← HXY.out, merge_eq S1.out s2] at h
          exact h, rfl⟩
    · obtain rfl : j = q.length := by omega
      go_wp2_with fail
      go_ret
      refine ⟨ret_int1 ?_, d, rfl⟩
      have h := hI.out
      rw [List.drop_length, miss_nil, nil_miss, List.length_drop] at h
      omega
  · obtain rfl : i = p.length := by omega
    go_wp2_with fail
    go_ret
    refine ⟨ret_int1 ?_, d, rfl⟩
    have h := hI.out
    rw [List.drop_length, miss_nil, nil_miss, List.length_drop] at h
    omega

/-! ### zzIDs -/
set_option maxHeartbeats 1000000 in
set_option maxRecDepth 100000 in
theorem ids_some (l : List Int) (b off c : Nat) (w : World) (hn : l.length ≤ 8192) (hb : b < w.heap.size) (hc : Keep (∀ i, i < l.length → w.cell? ⟨b, off + i, none⟩ = some (.int .u32 (l.getD i 0)))) :
    Calls Try.prog 20 #[.slice (some ⟨b, off, none⟩) l.length c] w fun e w' => e = .returned (.slice (some ⟨w.heap.size, 0, none⟩) l.length l.length) ∧ w' = w.alloc (.cells (rowA .u32 l) 37) := by
  have hmk := make58 l.length (by omega)
  have hset := rowA_set .u32
  have hnil := fun w => Lib.run_eql_slice_nil (P := Try.prog) w 53 36 (some ⟨b, off, none⟩) l.length c 0 0 Try.underlying53
  go_enter Try.func20, Try.ntmps20
  go_wp2
  go_loopg [4] l.length (fun g i wr => ∃ k : Nat, k ≤ l.length ∧ l.length - k ≤ g ∧ i = .int .i64 k ∧ wr = w.alloc (.cells (rowA .u32 (cp l l.length k)) 37))
  case atStart => exact ⟨0, by omega, by omega, rfl, by rw [cp_zero]⟩
  case round =>
  obtain ⟨k, hk, hg, rfl, rfl⟩ := hrel
  by_cases hlt : k < l.length
  · obtain ⟨Y, hY⟩ : ∃ Y, cp l l.length k = Y := ⟨_, rfl⟩
    have hYl : Y.length = l.length := by rw [← hY]; exact cp_length _ _ _ (by omega) (by omega)
    have hst := cp_step l l.length k hlt hlt
    rw [hY] at hst ⊢
    have g0 : (w.alloc (.cells (rowA .u32 Y) 37)).cell? ⟨b, off + k, none⟩ = some (.int .u32 (l.getD k 0)) := cell_old hb (hc.out k hlt)
    have g1 := rowA_get .u32 Y k (by omega)
    obtain ⟨u0, hu0⟩ : ∃ u, l.getD k 0 = u := ⟨_, rfl⟩
    obtain ⟨u1, hu1⟩ : ∃ u, Y.getD k 0 = u := ⟨_, rfl⟩
    rw [hu0] at g0 hst
    rw [hu1] at g1
    have HST := Keep.mk hst
    clear hu0 hu1 hY hYl hst
    go_wp2_with fail
    go_roundg (l.length - (k + 1))
    case measure => omega
    case rel => exact ⟨k + 1, by omega, by omega, by go_num, by rw [HST.out]⟩
  · obtain rfl : k = l.length := by omega
    go_wp2_with fail
    go_ret
    exact ⟨rfl, by rw [cp_all]⟩

theorem ids_empty (x : Addr) (c : Nat) (w : World) :
    Calls Try.prog 20 #[.slice (some x) 0 c] w fun e w' => e = .returned (.slice (some ⟨w.heap.size, 0, none⟩) 0 0) ∧ w' = w.alloc (.cells (rowA .u32 []) 37) := by
  have hmk : ∀ w, (Instr.makeSlice 58 (.int .i64 0) (.int .i64 0)).run Try.prog w = .ok (.slice (some ⟨w.heap.size, 0, none⟩) 0 0) (w.alloc (.cells (rowA .u32 []) 37)) := make58 0 (by omega)
  have hnil := fun w => Lib.run_eql_slice_nil (P := Try.prog) w 53 36 (some x) 0 c 0 0 Try.underlying53
  go_enter Try.func20, Try.ntmps20
  go_wp2
  go_loopg [4] 0 (fun g i wr => i = .int .i64 0 ∧ wr = w.alloc (.cells (rowA .u32 []) 37))
  case atStart => exact ⟨rfl, rfl⟩
  case round =>
  obtain ⟨rfl, rfl⟩ := hrel
  go_wp2_with fail
  go_ret
  exact ⟨rfl, rfl⟩
theorem ids_nil (c : Nat) (w : World) :
    Calls Try.prog 20 #[.slice none 0 c] w fun e w' => e = .returned (.slice none 0 0) ∧ w' = w := by
  have hnil := fun w => Lib.run_eql_slice_nil (P := Try.prog) w 53 36 none 0 c 0 0 Try.underlying53
  go_enter Try.func20, Try.ntmps20
  go_wp2
  go_ret
  exact ⟨rfl, rfl⟩

/-- A new row of numbers is such a slice. -/
theorem sl_new (k : IntKind) (w : World) (l : List Int) (t c : Nat) : Sl k (w.alloc (.cells (rowA k l) t)) (.slice (some ⟨w.heap.size, 0, none⟩) l.length c) l :=
  ⟨_, _, rfl, .inr ⟨w.heap.size, 0, rfl, by simp, fun i hi => by
    have := rowA_get k l i hi
    simp only [Nat.zero_add]
    simpa using this⟩⟩
/-- zzIDs: the same numbers. -/
theorem ids_any (l : List Int) (v : Value) (w : World) (h : Sl .u32 w v l) (hn : l.length ≤ 8192) :
    Calls Try.prog 20 #[v] w fun e w' => ∃ v', e = .returned v' ∧ Sl .u32 w' v' l ∧ Below w.heap.size w w' := by
  obtain ⟨a, c, rfl, h⟩ := h
  rcases h with rfl | ⟨b, off, rfl, hb, hc⟩
  · cases a with
    | none => exact (ids_nil c w).mono fun e w' ⟨he, hw⟩ => ⟨_, he, ⟨none, 0, rfl, .inl rfl⟩, hw ▸ Below.refl _ _⟩
    | some x => exact (ids_empty x c w).mono fun e w' ⟨he, hw⟩ => ⟨_, he, by subst hw; exact sl_new .u32 w [] 37 0, by subst hw; exact (Below.refl _ _).alloc (Nat.le_refl _) _⟩
  · exact (ids_some l b off c w hn hb hc).mono fun e w' ⟨he, hw⟩ => ⟨_, he, by subst hw; exact sl_new .u32 w l 37 _, by subst hw; exact (Below.refl _ _).alloc (Nat.le_refl _) _⟩

end Go.Proofs.Qxb6600076a
