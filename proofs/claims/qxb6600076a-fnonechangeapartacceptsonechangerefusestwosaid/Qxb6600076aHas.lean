import Derived.Test.Qxb6600076aWalk5
namespace Go.Proofs.Qxb6600076a
open Go.RowKit
set_option linter.unusedVariables false

set_option maxHeartbeats 1000000 in
set_option maxRecDepth 100000 in
theorem has_some (l : List Int) (v : Int) (b off c : Nat) (w : World) (hn : l.length ≤ 8192) (hc : Keep (∀ i, i < l.length → w.cell? ⟨b, off + i, none⟩ = some (.int .u32 (l.getD i 0)))) :
    Calls Try.prog 23 #[.slice (some ⟨b, off, none⟩) l.length c, .int .u32 v] w fun e w' => e = .returned (.bool (decide (v ∈ l))) ∧ w' = w := by
  go_enter Try.func23, Try.ntmps23
  go_wp2
  go_loopg [5] l.length (fun g i wr => ∃ k : Nat, k ≤ l.length ∧ l.length - k ≤ g ∧ i = .int .i64 k ∧ Keep (∀ t, t < k → ¬ l.getD t 0 = v) ∧ w = wr)
  case atStart => exact ⟨0, by omega, by omega, rfl, fun t ht => by omega, rfl⟩
  case round =>
  obtain ⟨k, hk, hg, rfl, hd, rfl⟩ := hrel
  by_cases hlt : k < l.length
  · have g0 := hc.out k hlt
    obtain ⟨u0, hu0⟩ : ∃ u, l.getD k 0 = u := ⟨_, rfl⟩
    rw [hu0] at g0
    have HU := Keep.mk hu0
    clear hu0
    cases heq : (u0 == v)
    · go_wp2_with fail
      go_roundg (l.length - (k + 1))
      case measure => omega
      case rel => exact ⟨k + 1, by omega, by omega, by go_num, fun t h1 => by
        by_cases e : t = k
        · subst e; rw [HU.out]; intro h; rw [h] at heq; simp at heq
        · exact hd.out t (by omega), rfl⟩
    · have hin : decide (v ∈ l) = true := by
        apply decide_eq_true
        have : u0 = v := by simpa using heq
        rw [← this, ← HU.out, List.getD_eq_getElem?_getD, List.getElem?_eq_getElem hlt]
        exact List.getElem_mem _
      have HIN := Keep.mk hin
      clear hin
      go_wp2_with fail
      go_ret
      exact ⟨by rw [HIN.out]; rfl, rfl⟩
  · obtain rfl : k = l.length := by omega
    have hin : decide (v ∈ l) = false := by
      apply decide_eq_false
      intro h
      obtain ⟨t, ht, e⟩ := List.mem_iff_getElem.1 h
      exact absurd (by rw [List.getD_eq_getElem?_getD, List.getElem?_eq_getElem ht]; exact e) (hd.out t ht)
    have HIN := Keep.mk hin
    clear hin
    go_wp2_with fail
    go_ret
    exact ⟨by rw [HIN.out]; rfl, rfl⟩
theorem has_none (v : Int) (a : Option Addr) (c : Nat) (w : World) :
    Calls Try.prog 23 #[.slice a 0 c, .int .u32 v] w fun e w' => e = .returned (.bool false) ∧ w' = w := by
  go_enter Try.func23, Try.ntmps23
  go_wp2
  go_loopg [5] 0 (fun g i wr => i = .int .i64 0 ∧ w = wr)
  case atStart => exact ⟨rfl, rfl⟩
  case round =>
  obtain ⟨rfl, rfl⟩ := hrel
  go_wp2_with fail
  go_ret
  exact ⟨rfl, rfl⟩
theorem has_any (l : List Int) (x : Int) (v : Value) (w : World) (h : Sl .u32 w v l) (hn : l.length ≤ 8192) :
    Calls Try.prog 23 #[v, .int .u32 x] w fun e w' => e = .returned (.bool (decide (x ∈ l))) ∧ w' = w := by
  obtain ⟨a, c, rfl, h⟩ := h
  rcases h with rfl | ⟨b, off, rfl, hb, hc⟩
  · exact has_none x a c w
  · exact has_some l x b off c w hn hc

set_option maxHeartbeats 1000000 in
set_option maxRecDepth 100000 in
theorem append_some (l : List Int) (x : Int) (b off c : Nat) (w : World) (hn : l.length ≤ 8192) (hb : b < w.heap.size) (hc : Keep (∀ i, i < l.length → w.cell? ⟨b, off + i, none⟩ = some (.int .u32 (l.getD i 0)))) :
    Calls Try.prog 24 #[.slice (some ⟨b, off, none⟩) l.length c, .int .u32 x] w fun e w' => e = .returned (.slice (some ⟨w.heap.size, 0, none⟩) (l.length + 1) (l.length + 1)) ∧ w' = w.alloc (.cells (rowA .u32 (l ++ [x])) 36) := by
  have hmk : ∀ w, (Instr.makeSlice 53 (.int .i64 ((l.length : Int) + 1)) (.int .i64 ((l.length : Int) + 1))).run Try.prog w = .ok (.slice (some ⟨w.heap.size, 0, none⟩) (l.length + 1) (l.length + 1)) (w.alloc (.cells (rowA .u32 (List.replicate (l.length + 1) 0)) 36)) := make53 (l.length + 1) (by omega)
  have hset := rowA_set .u32
  go_enter Try.func24, Try.ntmps24
  go_wp2
  go_loopg [6] l.length (fun g i wr => ∃ k : Nat, k ≤ l.length ∧ l.length - k ≤ g ∧ i = .int .i64 k ∧ wr = w.alloc (.cells (rowA .u32 (cp l (l.length + 1) k)) 36))
  case atStart => exact ⟨0, by omega, by omega, rfl, by rw [cp_zero]⟩
  case round =>
  obtain ⟨k, hk, hg, rfl, rfl⟩ := hrel
  by_cases hlt : k < l.length
  · obtain ⟨Y, hY⟩ : ∃ Y, cp l (l.length + 1) k = Y := ⟨_, rfl⟩
    have hYl : Y.length = l.length + 1 := by rw [← hY]; exact cp_length _ _ _ (by omega) (by omega)
    have hst := cp_step l (l.length + 1) k hlt (by omega)
    rw [hY] at hst ⊢
    have g0 : (w.alloc (.cells (rowA .u32 Y) 36)).cell? ⟨b, off + k, none⟩ = some (.int .u32 (l.getD k 0)) := cell_old hb (hc.out k hlt)
    have g1 := rowA_get .u32 Y k (by omega)
    obtain ⟨u0, hu0⟩ : ∃ u, l.getD k 0 = u := ⟨_, rfl⟩
    obtain ⟨u1, hu1⟩ : ∃ u, Y.getD k 0 = u := ⟨_, rfl⟩
    rw [hu0] at g0 hst
    rw [hu1] at g1
    have HST := Keep.mk hst
    clear hu0 hu1 hY hYl hst
    go_wp2_with fail
    go_roundg (l.length - (k + 1))
    case measure => omega
    case rel => exact ⟨k + 1, by omega, by omega, by go_num, by rw [HST.out]⟩
  · obtain rfl : k = l.length := by omega
    have hone := cp_one l x
    obtain ⟨Y, hY⟩ : ∃ Y, cp l (l.length + 1) l.length = Y := ⟨_, rfl⟩
    have hYl : Y.length = l.length + 1 := by rw [← hY]; exact cp_length _ _ _ (by omega) (by omega)
    rw [hY] at hone ⊢
    have g1 := rowA_get .u32 Y l.length (by omega)
    obtain ⟨u1, hu1⟩ : ∃ u, Y.getD l.length 0 = u := ⟨_, rfl⟩
    rw [hu1] at g1
    have HONE := Keep.mk hone
    clear hone hu1 hY hYl
    go_wp2_with fail
    go_ret
    exact ⟨rfl, by rw [HONE.out]⟩
theorem append_none (x : Int) (a : Option Addr) (c : Nat) (w : World) :
    Calls Try.prog 24 #[.slice a 0 c, .int .u32 x] w fun e w' => e = .returned (.slice (some ⟨w.heap.size, 0, none⟩) 1 1) ∧ w' = w.alloc (.cells (rowA .u32 [x]) 36) := by
  have hmk : ∀ w, (Instr.makeSlice 53 (.int .i64 1) (.int .i64 1)).run Try.prog w = .ok (.slice (some ⟨w.heap.size, 0, none⟩) 1 1) (w.alloc (.cells (rowA .u32 [0]) 36)) := make53 1 (by omega)
  have hset := rowA_set .u32
  have g1 := rowA_get .u32 [0] 0 (by simp)
  go_enter Try.func24, Try.ntmps24
  go_wp2
  go_loopg [6] 0 (fun g i wr => i = .int .i64 0 ∧ wr = w.alloc (.cells (rowA .u32 [0]) 36))
  case atStart => exact ⟨rfl, rfl⟩
  case round =>
  obtain ⟨rfl, rfl⟩ := hrel
  go_wp2_with fail
  go_ret
  exact ⟨rfl, rfl⟩
theorem append_any (l : List Int) (x : Int) (v : Value) (w : World) (h : Sl .u32 w v l) (hn : l.length ≤ 8192) :
    Calls Try.prog 24 #[v, .int .u32 x] w fun e w' => ∃ v', e = .returned v' ∧ Sl .u32 w' v' (l ++ [x]) ∧ Below w.heap.size w w' := by
  obtain ⟨a, c, rfl, h⟩ := h
  rcases h with rfl | ⟨b, off, rfl, hb, hc⟩
  · exact (append_none x a c w).mono fun e w' ⟨he, hw⟩ => ⟨_, he, by subst hw; exact sl_new .u32 w [x] 36 1, by subst hw; exact (Below.refl _ _).alloc (Nat.le_refl _) _⟩
  · exact (append_some l x b off c w hn hb hc).mono fun e w' ⟨he, hw⟩ => ⟨_, he, by subst hw; simpa using sl_new .u32 w (l ++ [x]) 36 (l.length + 1), by subst hw; exact (Below.refl _ _).alloc (Nat.le_refl _) _⟩

theorem bytes22_no (a1 : Option Addr) (n1 c1 : Nat) (x y k : Int) (w : World) (h : 1048576 < n1) :
    Calls Try.prog 22 #[.slice a1 n1 c1, .int .u32 x, .int .u32 y, .int .u32 k] w fun e w' => e = .returned (.bool false) ∧ w' = w := by
  go_enter Try.func22, Try.ntmps22
  go_wp2
  go_ret
  exact ⟨rfl, rfl⟩
theorem bytes22_yes (a1 : Option Addr) (n1 c1 : Nat) (x y k : Int) (w : World) (h : n1 ≤ 1048576) :
    Calls Try.prog 22 #[.slice a1 n1 c1, .int .u32 x, .int .u32 y, .int .u32 k] w fun e w' => e = .returned (.bool true) ∧ w' = w := by
  go_enter Try.func22, Try.ntmps22
  go_wp2
  go_ret
  exact ⟨rfl, rfl⟩

end Go.Proofs.Qxb6600076a
