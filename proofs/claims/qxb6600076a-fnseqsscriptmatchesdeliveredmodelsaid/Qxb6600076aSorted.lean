import Derived.Test.Qxb6600076aBase
import Derived.Test.Qxb6600076aPlain
namespace Go.Proofs.Qxb6600076a
open Go.RowKit

theorem cell_old {w : World} {b o : Nat} {v : Value} {ob : Obj} (hb : b < w.heap.size) (h : w.cell? ⟨b, o, none⟩ = some v) : (w.alloc ob).cell? ⟨b, o, none⟩ = some v :=
  (((Below.refl _ _).alloc (Nat.le_refl _) ob).cell (p := ⟨b, o, none⟩) hb).trans h

set_option maxHeartbeats 1000000 in
set_option maxRecDepth 100000 in
theorem sorted_some (l : List Int) (b off c : Nat) (w : World) (hn : l.length ≤ 4096) (hb : b < w.heap.size) (hc : Keep (∀ i, i < l.length → w.cell? ⟨b, off + i, none⟩ = some (.int .u32 (l.getD i 0)))) :
    Calls Try.prog 17 #[.slice (some ⟨b, off, none⟩) l.length c] w fun e w' => e = .returned (.slice (some ⟨w.heap.size, 0, none⟩) l.length l.length) ∧ ∃ P : List Int, P.Perm l ∧ P.Pairwise (· ≤ ·) ∧ w' = w.alloc (.cells (rowA .u32 P) 36) := by
  have hmk := make53 l.length (by omega)
  have hset := rowA_set .u32
  go_enter Try.func17, Try.ntmps17
  go_wp2
  go_loopg [4] l.length (fun g i wr => ∃ (k : Nat) (Y : List Int), k ≤ l.length ∧ l.length - k ≤ g ∧ i = .int .i64 k ∧ Keep (SInv l k Y) ∧ wr = w.alloc (.cells (rowA .u32 Y) 36))
  case atStart => exact ⟨0, _, by omega, by omega, rfl, SInv.start l, rfl⟩
  case round =>
  obtain ⟨k, Y, hk, hg, rfl, hY, rfl⟩ := hrel
  by_cases hlt : k < l.length
  · have hYl := hY.out.length hk
    have HYl := Keep.mk hYl
    have g0 : (w.alloc (.cells (rowA .u32 Y) 36)).cell? ⟨b, off + k, none⟩ = some (.int .u32 (l.getD k 0)) := cell_old hb (hc.out k hlt)
    obtain ⟨v, hv⟩ : ∃ v, l.getD k 0 = v := ⟨_, rfl⟩
    rw [hv] at g0
    have HV := Keep.mk hv
    clear hv hYl
    go_upto_block 2 with fail
    go_cut [6] (fun jv wc => ∃ (j : Nat) (Y : List Int), j ≤ k ∧ jv = .int .i64 j ∧ Keep (IInv l k v j Y ∧ (j = 0 ∨ ∃ i, j = i + 1 ∧ Y.getD i 0 ≤ v)) ∧ wc = w.alloc (.cells (rowA .u32 Y) 36))
    case first =>
      go_wp2_with fail
      go_loopg [6] k (fun g jv wr => ∃ (j : Nat) (Y : List Int), j ≤ k ∧ j ≤ g ∧ jv = .int .i64 j ∧ Keep (IInv l k v j Y) ∧ wr = w.alloc (.cells (rowA .u32 Y) 36))
      case atStart => exact ⟨k, Y, by omega, by omega, rfl, hY.out.enter hlt v, rfl⟩
      case round =>
      obtain ⟨j, Y, hj, hgj, rfl, hI, rfl⟩ := hrel
      by_cases hj0 : j = 0
      · subst hj0
        go_wp2_with fail
        go_meet
        exact ⟨0, Y, by omega, rfl, ⟨hI.out, .inl rfl⟩, rfl⟩
      · obtain ⟨i, rfl⟩ : ∃ i, j = i + 1 := ⟨j - 1, by omega⟩
        clear hj0
        have hYl := hI.out.length hlt
        obtain ⟨u, hu⟩ : ∃ u, Y.getD i 0 = u := ⟨_, rfl⟩
        have g1 := rowA_get .u32 Y i (by omega)
        have g2 := rowA_get .u32 Y (i + 1) (by omega)
        obtain ⟨u2, hu2⟩ : ∃ u2, Y.getD (i + 1) 0 = u2 := ⟨_, rfl⟩
        rw [hu] at g1
        rw [hu2] at g2
        have HU := Keep.mk hu
        clear hu hYl hu2
        by_cases hvi : v < u
        · go_wp2_with fail
          go_roundg i
          case measure => omega
          case rel => exact ⟨i, Y.set (i + 1) u, by omega, by omega, rfl, by have := hI.out.step (by rw [HU.out]; exact hvi); rw [HU.out] at this; exact this, rfl⟩
        · go_wp2_with fail
          go_meet
          exact ⟨i + 1, Y, by omega, by go_num, ⟨hI.out, .inr ⟨i, rfl, by rw [HU.out]; omega⟩⟩, rfl⟩
    case rest =>
      obtain ⟨j, Y, hj, rfl, hI, rfl⟩ := hcut
      have hYl := hI.out.1.length hlt
      have g2 := rowA_get .u32 Y j (by omega)
      obtain ⟨u2, hu2⟩ : ∃ u2, Y.getD j 0 = u2 := ⟨_, rfl⟩
      rw [hu2] at g2
      clear hu2 hYl
      go_wp2_with fail
      go_roundg (l.length - (k + 1))
      case measure => omega
      case rel => exact ⟨k + 1, Y.set j v, by omega, by omega, by go_num, by have h1 := hI.out.1; have h2 := hI.out.2; rw [← HV.out] at h1 h2 ⊢; exact h1.fin hlt h2, rfl⟩
  · obtain rfl : k = l.length := by omega
    go_wp2_with fail
    go_ret
    obtain ⟨h1, h2⟩ := hY.out.done
    exact ⟨rfl, Y, h1, h2, rfl⟩

/-- A slice with no element, wherever it leads. -/
theorem sorted_none (a : Option Addr) (c : Nat) (w : World) :
    Calls Try.prog 17 #[.slice a 0 c] w fun e w' => e = .returned (.slice (some ⟨w.heap.size, 0, none⟩) 0 0) ∧ w' = w.alloc (.cells (rowA .u32 []) 36) := by
  have hmk : ∀ w, (Instr.makeSlice 53 (.int .i64 0) (.int .i64 0)).run Try.prog w = .ok (.slice (some ⟨w.heap.size, 0, none⟩) 0 0) (w.alloc (.cells (rowA .u32 []) 36)) := make53 0 (by omega)
  go_enter Try.func17, Try.ntmps17
  go_wp2
  go_loopg [4] 0 (fun g i wr => i = .int .i64 0 ∧ wr = w.alloc (.cells (rowA .u32 []) 36))
  case atStart => exact ⟨rfl, rfl⟩
  case round =>
  obtain ⟨rfl, rfl⟩ := hrel
  go_wp2_with fail
  go_ret
  exact ⟨rfl, rfl⟩

/-- zzSortedCopy: a new row: the numbers sorted. -/
theorem sorted_any (l : List Int) (v : Value) (w : World) (h : Sl .u32 w v l) (hn : l.length ≤ 4096) :
    Calls Try.prog 17 #[v] w fun e w' => ∃ P : List Int, P.Perm l ∧ P.Pairwise (· ≤ ·) ∧ e = .returned (.slice (some ⟨w.heap.size, 0, none⟩) P.length P.length) ∧ w' = w.alloc (.cells (rowA .u32 P) 36) := by
  obtain ⟨a, c, rfl, h⟩ := h
  rcases h with rfl | ⟨b, off, rfl, hb, hc⟩
  · exact (sorted_none a c w).mono fun e w' ⟨he, hw⟩ => ⟨[], by simp, by simp, he, hw⟩
  · refine (sorted_some l b off c w hn hb hc).mono fun e w' ⟨he, P, h1, h2, hw⟩ => ⟨P, h1, h2, ?_, hw⟩
    rw [he, h1.length_eq]

end Go.Proofs.Qxb6600076a
