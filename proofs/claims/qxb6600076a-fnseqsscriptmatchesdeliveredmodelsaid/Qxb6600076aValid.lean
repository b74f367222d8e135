import Derived.Test.Qxb6600076aAdd
import Derived.Test.Qxb6600076aCount
namespace Go.Proofs.Qxb6600076a
open Go.RowKit
set_option linter.unusedVariables false

/-- One element of a well-formed state. -/
def okAt (H : Int) (L : List Int) (i : Nat) : Prop := 0 < L.getD i 0 ∧ L.getD i 0 < H ∧ H - L.getD i 0 < 65536 ∧ (0 < i → L.getD (i - 1) 0 < L.getD i 0)
theorem pair_of_step : ∀ {L : List Int}, (∀ i, i + 1 < L.length → L.getD i 0 < L.getD (i + 1) 0) → L.Pairwise (· < ·) := by
  intro L h
  rw [List.pairwise_iff_getElem]
  have key : ∀ (d i : Nat), i + d + 1 < L.length → L.getD i 0 < L.getD (i + d + 1) 0 := by
    intro d
    induction d with
    | zero => intro i hi; exact h i hi
    | succ d ih =>
      intro i hi
      have h1 := ih i (by omega)
      have h2 := h (i + d + 1) (by omega)
      rw [show i + (d + 1) + 1 = i + d + 1 + 1 by omega]
      omega
  intro i j hi hj hij
  have := key (j - i - 1) i (by omega)
  rw [show i + (j - i - 1) + 1 = j by omega] at this
  simpa [List.getD_eq_getElem?_getD, List.getElem?_eq_getElem hi, List.getElem?_eq_getElem hj] using this
theorem vs_of {H : Int} {L : List Int} (h : ∀ i, i < L.length → okAt H L i) : VS H L := by
  refine ⟨pair_of_step fun i hi => ?_, fun m hm => ?_, fun m hm => ?_, fun m hm => ?_⟩
  · have := (h (i + 1) hi).2.2.2 (by omega)
    simpa using this
  all_goals
    obtain ⟨k, hk, rfl⟩ := getD_of_mem hm
    have := h k hk
    unfold okAt at this
    omega
theorem vs_at {H : Int} {L : List Int} (h : VS H L) (i : Nat) (hi : i < L.length) : okAt H L i := by
  have hm : L.getD i 0 ∈ L := mem_getD hi
  refine ⟨h.pos _ hm, h.below _ hm, h.near _ hm, fun h0 => ?_⟩
  have := (List.pairwise_iff_getElem.1 h.sorted) (i - 1) i (by omega) hi (by omega)
  simpa [List.getD_eq_getElem?_getD, List.getElem?_eq_getElem hi, List.getElem?_eq_getElem (show i - 1 < L.length by omega)] using this

/-- What zzValidSeqs answers. -/
def VSays (H : Int) (L : List Int) (e : Ending) : Prop := ∃ r, e = .returned (.bool r) ∧ (r = true ↔ VS H L)
theorem noV {H : Int} {L : List Int} (h : ¬ VS H L) : VSays H L (.returned (.bool false)) := ⟨false, rfl, ⟨fun e => (by cases e), fun e => absurd e h⟩⟩
theorem yesV {H : Int} {L : List Int} (h : VS H L) : VSays H L (.returned (.bool true)) := ⟨true, rfl, ⟨fun _ => h, fun _ => rfl⟩⟩
set_option maxHeartbeats 2000000 in
set_option maxRecDepth 100000 in
theorem valid_some (H : Int) (L : List Int) (b off c : Nat) (w : World) (hH0 : 0 ≤ H) (hH1 : H ≤ 18446744073709551615) (hn : L.length ≤ 2000000) (hp : Keep (∀ m ∈ L, 0 ≤ m)) (hc : Keep (∀ i, i < L.length → w.cell? ⟨b, off + i, none⟩ = some (.int .u64 (L.getD i 0)))) :
    Calls Try.prog 26 #[.int .u64 H, .slice (some ⟨b, off, none⟩) L.length c] w fun e w' => VSays H L e ∧ w' = w := by
  go_enter Try.func26, Try.ntmps26
  go_wp2
  go_loopg [5] L.length (fun g iv wr => ∃ (k : Nat), k ≤ L.length ∧ L.length - k ≤ g ∧ iv = .int .i64 k ∧ Keep (∀ i, i < k → okAt H L i) ∧ w = wr)
  case atStart => exact ⟨0, by omega, by omega, rfl, fun i hi => absurd hi (by omega), rfl⟩
  case round =>
  obtain ⟨k, hk, hg, rfl, hI, rfl⟩ := hrel
  by_cases hlt : k < L.length
  · have g0 := hc.out k hlt
    have OK : Keep (okAt H L k = (0 < L.getD k 0 ∧ L.getD k 0 < H ∧ H - L.getD k 0 < 65536 ∧ (0 < k → L.getD (k - 1) 0 < L.getD k 0))) := rfl
    have hx0 := hp.out _ (mem_getD hlt)
    obtain ⟨x, hx⟩ : ∃ x, L.getD k 0 = x := ⟨_, rfl⟩
    rw [hx] at g0 OK hx0
    clear hx
    cases hz : (x == 0)
    case true =>
      have hx0 : x = 0 := by simpa using hz
      subst hx0
      go_wp2_with fail
      go_ret
      refine ⟨noV ?_, rfl⟩
      intro h
      have := vs_at h k hlt
      rw [OK.out] at this
      omega
    have hx1 : 0 < x := by
      have : ¬ x = 0 := by simpa using hz
      omega
    by_cases hxH : x < H
    case neg =>
      go_wp2_with fail
      go_ret
      refine ⟨noV ?_, rfl⟩
      intro h
      have := vs_at h k hlt
      rw [OK.out] at this
      omega
    by_cases hnear : H - x < 65536
    case neg =>
      go_wp2_with fail
      go_ret
      refine ⟨noV ?_, rfl⟩
      intro h
      have := vs_at h k hlt
      rw [OK.out] at this
      omega
    by_cases hk0 : k = 0
    · subst hk0
      rw [Nat.add_zero] at g0
      go_wp2_with fail
      go_roundg (L.length - 1)
      case measure => omega
      case rel => exact ⟨1, by omega, by omega, by go_num, fun i hi => by
        obtain rfl : i = 0 := by omega
        rw [OK.out]
        omega, rfl⟩
    obtain ⟨j, rfl⟩ : ∃ j, k = j + 1 := ⟨k - 1, by omega⟩
    have g1 := hc.out j (by omega)
    have OK2 := OK.out
    rw [show j + 1 - 1 = j by omega] at OK2
    obtain ⟨y, hy⟩ : ∃ y, L.getD j 0 = y := ⟨_, rfl⟩
    rw [hy] at g1 OK2
    have OK := Keep.mk OK2
    clear hy OK2
    by_cases hyx : y < x
    · go_wp2_with fail
      go_roundg (L.length - (j + 2))
      case measure => omega
      case rel => exact ⟨j + 2, by omega, by omega, by go_num, fun i hi => by
        by_cases hij : i < j + 1
        · exact hI.out i hij
        · obtain rfl : i = j + 1 := by omega
          rw [OK.out]
          exact ⟨by omega, by omega, by omega, fun _ => hyx⟩, rfl⟩
    · go_wp2_with fail
      go_ret
      refine ⟨noV ?_, rfl⟩
      intro h
      have := vs_at h _ hlt
      rw [OK.out] at this
      have := this.2.2.2 (by omega)
      omega
  · obtain rfl : k = L.length := by omega
    go_wp2_with fail
    go_ret
    exact ⟨yesV (vs_of hI.out), rfl⟩
theorem valid_none (H : Int) (a : Option Addr) (c : Nat) (w : World) :
    Calls Try.prog 26 #[.int .u64 H, .slice a 0 c] w fun e w' => e = .returned (.bool true) ∧ w' = w := by
  go_enter Try.func26, Try.ntmps26
  go_wp2
  go_loopg [5] 0 (fun g iv wr => iv = .int .i64 0 ∧ w = wr)
  case atStart => exact ⟨rfl, rfl⟩
  case round =>
  obtain ⟨rfl, rfl⟩ := hrel
  go_wp2_with fail
  go_ret
  exact ⟨rfl, rfl⟩
/-- zzValidSeqs. -/
theorem valid_any (H : Int) (L : List Int) (v : Value) (w : World) (h : Sl .u64 w v L) (hH0 : 0 ≤ H) (hH1 : H ≤ 18446744073709551615) (hn : L.length ≤ 2000000) (hp : ∀ m ∈ L, 0 ≤ m) :
    Calls Try.prog 26 #[.int .u64 H, v] w fun e w' => VSays H L e ∧ w' = w := by
  obtain ⟨a, c, rfl, h⟩ := h
  rcases h with rfl | ⟨b, off, rfl, hb, hc⟩
  · exact (valid_none H a c w).mono fun e w' ⟨he, hw⟩ => ⟨he ▸ yesV (vs_of (fun i hi => absurd hi (by simp))), hw⟩
  · exact valid_some H L b off c w hH0 hH1 hn hp hc
theorem valid_yes (H : Int) (L : List Int) (v : Value) (w : World) (h : Sl .u64 w v L) (hH0 : 0 ≤ H) (hH1 : H ≤ 18446744073709551615) (hv : VS H L) :
    Calls Try.prog 26 #[.int .u64 H, v] w fun e w' => e = .returned (.bool true) ∧ w' = w :=
  (valid_any H L v w h hH0 hH1 (by have := hv.length; omega) (fun m hm => by have := hv.pos m hm; omega)).mono fun e w' ⟨⟨r, he, hr⟩, hw⟩ => ⟨by rw [he, hr.2 hv], hw⟩

set_option maxHeartbeats 1000000 in
set_option maxRecDepth 100000 in
theorem clone_some (l : List Int) (b off c : Nat) (w : World) (hn : l.length ≤ 100000) (hb : b < w.heap.size) (hc : Keep (∀ i, i < l.length → w.cell? ⟨b, off + i, none⟩ = some (.int .u64 (l.getD i 0)))) :
    Calls Try.prog 27 #[.slice (some ⟨b, off, none⟩) l.length c] w fun e w' => e = .returned (.slice (some ⟨w.heap.size, 0, none⟩) l.length l.length) ∧ w' = w.alloc (.cells (rowA .u64 l) 25) := by
  have hmk := make22 l.length (by omega)
  have hset := rowA_set .u64
  have hnil := fun w => Lib.run_eql_slice_nil (P := Try.prog) w 22 25 (some ⟨b, off, none⟩) l.length c 0 0 Try.underlying22
  go_enter Try.func27, Try.ntmps27
  go_wp2
  go_loopg [4] l.length (fun g i wr => ∃ k : Nat, k ≤ l.length ∧ l.length - k ≤ g ∧ i = .int .i64 k ∧ wr = w.alloc (.cells (rowA .u64 (cp l l.length k)) 25))
  case atStart => exact ⟨0, by omega, by omega, rfl, by rw [cp_zero]⟩
  case round =>
  obtain ⟨k, hk, hg, rfl, rfl⟩ := hrel
  by_cases hlt : k < l.length
  · obtain ⟨Y, hY⟩ : ∃ Y, cp l l.length k = Y := ⟨_, rfl⟩
    have hYl : Y.length = l.length := by rw [← hY]; exact cp_length _ _ _ (by omega) (by omega)
    have hst := cp_step l l.length k hlt hlt
    rw [hY] at hst ⊢
    have g0 : (w.alloc (.cells (rowA .u64 Y) 25)).cell? ⟨b, off + k, none⟩ = some (.int .u64 (l.getD k 0)) := cell_old hb (hc.out k hlt)
    have g1 := rowA_get .u64 Y k (by omega)
    obtain ⟨u0, hu0⟩ : ∃ u, l.getD k 0 = u := ⟨_, rfl⟩
    obtain ⟨u1, hu1⟩ : ∃ u, Y.getD k 0 = u := ⟨_, rfl⟩
    rw [hu0] at g0 hst
    rw [hu1] at g1
    have HST := Keep.mk hst
    clear hu0 hu1 hY hYl hst
    go_wp2_with fail
    go_roundg (l.length - (k + 1))
    case measure => omega
    case rel => exact ⟨k + 1, by omega, by omega, by go_num, by rw [HST.out]⟩
  · obtain rfl : k = l.length := by omega
    go_wp2_with fail
    go_ret
    exact ⟨rfl, by rw [cp_all]⟩
theorem clone_empty (x : Addr) (c : Nat) (w : World) :
    Calls Try.prog 27 #[.slice (some x) 0 c] w fun e w' => e = .returned (.slice (some ⟨w.heap.size, 0, none⟩) 0 0) ∧ w' = w.alloc (.cells (rowA .u64 []) 25) := by
  have hmk : ∀ w, (Instr.makeSlice 22 (.int .i64 0) (.int .i64 0)).run Try.prog w = .ok (.slice (some ⟨w.heap.size, 0, none⟩) 0 0) (w.alloc (.cells (rowA .u64 []) 25)) := make22 0 (by omega)
  have hnil := fun w => Lib.run_eql_slice_nil (P := Try.prog) w 22 25 (some x) 0 c 0 0 Try.underlying22
  go_enter Try.func27, Try.ntmps27
  go_wp2
  go_loopg [4] 0 (fun g i wr => i = .int .i64 0 ∧ wr = w.alloc (.cells (rowA .u64 []) 25))
  case atStart => exact ⟨rfl, rfl⟩
  case round =>
  obtain ⟨rfl, rfl⟩ := hrel
  go_wp2_with fail
  go_ret
  exact ⟨rfl, rfl⟩
theorem clone_nil (c : Nat) (w : World) :
    Calls Try.prog 27 #[.slice none 0 c] w fun e w' => e = .returned (.slice none 0 0) ∧ w' = w := by
  have hnil := fun w => Lib.run_eql_slice_nil (P := Try.prog) w 22 25 none 0 c 0 0 Try.underlying22
  go_enter Try.func27, Try.ntmps27
  go_wp2
  go_ret
  exact ⟨rfl, rfl⟩
theorem own_new (w : World) (l : List Int) (hn : l.length ≤ 100000) : (w.alloc (.cells (rowA .u64 l) 25)).ownsRow w.heap.size 25 1 (.slice (some ⟨w.heap.size, 0, none⟩) l.length l.length) l.length (l.map (Value.int .u64)) :=
  ⟨by simp, .inr ⟨w.heap.size, l.length, rowA .u64 l, rfl, Nat.le_refl _, heap_alloc_new w _, Nat.le_refl _, by unfold maxLen; omega, by simp [rowA], by
    rw [List.take_of_length_le (by simp [rowA])]
    simp [rowA]⟩⟩
/-- zzCloneU64: a row of its own. -/
theorem clone_any (l : List Int) (v : Value) (w : World) (h : Sl .u64 w v l) (hn : l.length ≤ 100000) :
    Calls Try.prog 27 #[v] w fun e w' => ∃ a n c, e = .returned (.slice a n c) ∧ w'.ownsRow w.heap.size 25 1 (.slice a n c) l.length (l.map (Value.int .u64)) ∧ Below w.heap.size w w' := by
  obtain ⟨a, c, rfl, h⟩ := h
  rcases h with rfl | ⟨b, off, rfl, hb, hc⟩
  · cases a with
    | none => exact (clone_nil c w).mono fun e w' ⟨he, hw⟩ => ⟨_, _, _, he, World.ownsRow_nil _ _ _ _, hw ▸ Below.refl _ _⟩
    | some x => exact (clone_empty x c w).mono fun e w' ⟨he, hw⟩ => ⟨_, _, _, he, by subst hw; exact own_new w [] (by simp), by subst hw; exact (Below.refl _ _).alloc (Nat.le_refl _) _⟩
  · exact (clone_some l b off c w hn hb hc).mono fun e w' ⟨he, hw⟩ => ⟨_, _, _, he, by subst hw; exact own_new w l hn, by subst hw; exact (Below.refl _ _).alloc (Nat.le_refl _) _⟩

/-- Seqs.add behind its exported name, at a number not yet delivered. -/
theorem add_any (base sb : Nat) (H seq : Int) (V : Value) (L : List Int) (w : World) (hq : Keep (SQ w base sb H V L)) (hv : Keep (VS H L)) (hH0 : 0 ≤ H) (hH1 : H ≤ 18446744073709486079) (hseq : seq ≤ 18446744073709551615) (hd : Keep (delB H seq L = false)) :
    Calls Try.prog 10 #[.pointer (some ⟨sb, 0, none⟩), .int .u64 seq] w fun e w' => e = .returned (.tuple #[]) ∧ ∃ V' L', SQ w' base sb (max H seq) V' L' ∧ AddTo H L seq L' ∧ Sp base sb w w' := by
  have key : Keep (Calls Try.prog 29 #[.pointer (some ⟨sb, 0, none⟩), .int .u64 seq] w fun e w' => e = .returned (.tuple #[]) ∧ ∃ V' L', SQ w' base sb (max H seq) V' L' ∧ AddTo H L seq L' ∧ Sp base sb w w') := by
    by_cases h1 : seq ≤ H
    · have hm : seq ∈ L := by
        have := hd.out
        unfold delB at this
        have := of_decide_eq_false this
        by_cases h : seq ∈ L
        · exact h
        · exact absurd ⟨h1, h⟩ this
      rw [show max H seq = H by omega]
      exact add_A base sb H seq V L w hq hv h1 hm
    · rw [show max H seq = seq by omega]
      by_cases h2 : H + 65536 < seq
      · exact add_B base sb H seq V L w hq hH0 hH1 h2
      · exact add_C base sb H seq V L w hq hv hH0 hH1 (by omega) (by omega) hseq
  clear hq hv hd
  go_enter Try.func10, Try.ntmps10
  go_wp2_with fail
  refine key.out.mono ?_
  rintro e w1 ⟨rfl, h⟩
  have HH := Keep.mk h
  clear h
  go_wp2_with fail
  go_end0
  exact ⟨rfl, HH.out⟩

theorem bytes25_yes (a s : Int) (x : Option Addr) (n c : Nat) (w : World) (h : n ≤ 1048576) : Calls Try.prog 25 #[.int .u64 a, .slice x n c, .int .u64 s] w fun e w' => e = .returned (.bool true) ∧ w' = w := by
  go_enter Try.func25, Try.ntmps25
  go_wp2
  go_ret
  exact ⟨rfl, rfl⟩
theorem bytes25_no (a s : Int) (x : Option Addr) (n c : Nat) (w : World) (h : ¬ n ≤ 1048576) : Calls Try.prog 25 #[.int .u64 a, .slice x n c, .int .u64 s] w fun e w' => e = .returned (.bool false) ∧ w' = w := by
  go_enter Try.func25, Try.ntmps25
  go_wp2
  go_ret
  exact ⟨rfl, rfl⟩

end Go.Proofs.Qxb6600076a
