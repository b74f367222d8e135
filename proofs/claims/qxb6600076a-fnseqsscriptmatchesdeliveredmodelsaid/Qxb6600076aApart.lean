import Derived.Test.Qxb6600076aSorted
namespace Go.Proofs.Qxb6600076a
open Go.RowKit
set_option linter.unusedVariables false

/-- What zzHasRepeat answers of a sorted row: a bool; where it is false no number stands twice. -/
def RepOut (P : List Int) (e : Ending) : Prop := ∃ r : Bool, e = .returned (.bool r) ∧ (r = false → P.Pairwise (· < ·))

set_option maxHeartbeats 1000000 in
set_option maxRecDepth 100000 in
theorem repeat_some (P : List Int) (b off c : Nat) (w : World) (hn : P.length ≤ 4096) (hs : Keep (P.Pairwise (· ≤ ·))) (hc : Keep (∀ i, i < P.length → w.cell? ⟨b, off + i, none⟩ = some (.int .u32 (P.getD i 0)))) :
    Calls Try.prog 18 #[.slice (some ⟨b, off, none⟩) P.length c] w fun e w' => RepOut P e ∧ ∃ q, w' = w.drewN q := by
  go_enter Try.func18, Try.ntmps18
  go_wp2
  go_loopg [3] P.length (fun g i wr => ∃ (k q : Nat), 1 ≤ k ∧ P.length - k ≤ g ∧ i = .int .i64 k ∧ k ≤ 4097 ∧ Keep (∀ t, t + 1 < k → t + 1 < P.length → ¬ P.getD t 0 = P.getD (t + 1) 0) ∧ wr = w.drewN q)
  case atStart => exact ⟨1, 0, by omega, by omega, rfl, by omega, fun t ht => by omega, rfl⟩
  case round =>
  obtain ⟨k, q, hk1, hg, rfl, hk2, hd, rfl⟩ := hrel
  by_cases hlt : k < P.length
  · obtain ⟨j, rfl⟩ : ∃ j, k = j + 1 := ⟨k - 1, by omega⟩
    have g0 := hc.out j (by omega)
    have g1 := hc.out (j + 1) hlt
    obtain ⟨u0, hu0⟩ : ∃ u, P.getD j 0 = u := ⟨_, rfl⟩
    obtain ⟨u1, hu1⟩ : ∃ u, P.getD (j + 1) 0 = u := ⟨_, rfl⟩
    rw [hu0] at g0
    rw [hu1] at g1
    have HU := Keep.mk (And.intro hu0 hu1)
    clear hu0 hu1
    have hj1 : (j : Int) + 1 < (P.length : Int) := by omega
    have hj0 : (j : Int) < (P.length : Int) := by omega
    cases heq : (u0 == u1)
    · go_wp2_with fail
      go_quiet (fail)
      go_wp2_with fail
      go_roundg (P.length - (j + 1 + 1))
      case measure => omega
      case rel => exact ⟨j + 1 + 1, _, by omega, by omega, by go_num, by omega, fun t h1 h2 => by
        by_cases e : t = j
        · subst e; rw [HU.out.1, HU.out.2]; simpa using heq
        · exact hd.out t (by omega) h2, rfl⟩
    · go_wp2_with fail
      go_quiet (fail)
      go_wp2_with fail
      go_ret
      exact ⟨⟨true, rfl, fun h => by cases h⟩, q + nq, by simp⟩
  · go_wp2_with fail
    go_ret
    exact ⟨⟨false, rfl, fun _ => strict_of hs.out fun t ht => hd.out t (by omega) ht⟩, _, rfl⟩

/-- What slices.Index answers: a place or -1. -/
def IdxOut (l : List Int) (v : Int) (e : Ending) : Prop := ∃ r : Int, e = .returned (.int .i64 r) ∧ (0 ≤ r ↔ v ∈ l)

set_option maxHeartbeats 1000000 in
set_option maxRecDepth 100000 in
theorem index_some (l : List Int) (v : Int) (b off c : Nat) (w : World) (hn : l.length ≤ 8192) (hc : Keep (∀ i, i < l.length → w.cell? ⟨b, off + i, none⟩ = some (.int .u32 (l.getD i 0)))) :
    Calls Try.prog 35 #[.slice (some ⟨b, off, none⟩) l.length c, .int .u32 v] w fun e w' => IdxOut l v e ∧ w' = w := by
  go_enter Try.func35, Try.ntmps35
  go_wp2
  go_loopg [8] l.length (fun g i wr => ∃ k : Nat, k ≤ l.length ∧ l.length - k ≤ g ∧ i = .int .i64 k ∧ Keep (∀ t, t < k → ¬ l.getD t 0 = v) ∧ w = wr)
  case atStart => exact ⟨0, by omega, by omega, rfl, fun t ht => by omega, rfl⟩
  case round =>
  obtain ⟨k, hk, hg, rfl, hd, rfl⟩ := hrel
  by_cases hlt : k < l.length
  · have g0 := hc.out k hlt
    obtain ⟨u0, hu0⟩ : ∃ u, l.getD k 0 = u := ⟨_, rfl⟩
    rw [hu0] at g0
    have HU := Keep.mk hu0
    clear hu0
    cases heq : (v == u0)
    · go_wp2_with fail
      go_roundg (l.length - (k + 1))
      case measure => omega
      case rel => exact ⟨k + 1, by omega, by omega, by go_num, fun t h1 => by
        by_cases e : t = k
        · subst e; rw [HU.out]; intro h; rw [h] at heq; simp at heq
        · exact hd.out t (by omega), rfl⟩
    · go_wp2_with fail
      go_ret
      refine ⟨⟨_, rfl, ⟨fun _ => ?_, fun _ => by omega⟩⟩, rfl⟩
      have : v = u0 := by simpa using heq
      rw [this, ← HU.out, List.getD_eq_getElem?_getD, List.getElem?_eq_getElem hlt]
      exact List.getElem_mem _
  · obtain rfl : k = l.length := by omega
    go_wp2_with fail
    go_ret
    refine ⟨⟨-1, rfl, ⟨fun h => by omega, fun h => ?_⟩⟩, rfl⟩
    obtain ⟨t, ht, e⟩ := List.mem_iff_getElem.1 h
    exact absurd (by rw [List.getD_eq_getElem?_getD, List.getElem?_eq_getElem ht]; exact e) (hd.out t ht)

theorem index_none (v : Int) (a : Option Addr) (c : Nat) (w : World) :
    Calls Try.prog 35 #[.slice a 0 c, .int .u32 v] w fun e w' => IdxOut [] v e ∧ w' = w := by
  go_enter Try.func35, Try.ntmps35
  go_wp2
  go_loopg [8] 0 (fun g i wr => i = .int .i64 0 ∧ w = wr)
  case atStart => exact ⟨rfl, rfl⟩
  case round =>
  obtain ⟨rfl, rfl⟩ := hrel
  go_wp2_with fail
  go_ret
  exact ⟨⟨-1, rfl, ⟨fun h => by omega, fun h => by simp at h⟩⟩, rfl⟩

theorem contains_any (l : List Int) (x : Int) (v : Value) (w : World) (h : Sl .u32 w v l) (hn : l.length ≤ 8192) :
    Calls Try.prog 31 #[v, .int .u32 x] w fun e w' => e = .returned (.bool (decide (x ∈ l))) ∧ w' = w := by
  have H : Calls Try.prog 35 #[v, .int .u32 x] w fun e w' => IdxOut l x e ∧ w' = w := by
    obtain ⟨a, c, rfl, h⟩ := h
    rcases h with rfl | ⟨b, off, rfl, hb, hc⟩
    · exact index_none x a c w
    · exact index_some l x b off c w hn hc
  have HH := Keep.mk H
  clear H h
  go_enter Try.func31, Try.ntmps31
  go_wp2_with fail
  refine HH.out.mono ?_
  rintro e w1 ⟨⟨r, rfl, hr⟩, hw⟩
  subst hw
  have HR := Keep.mk hr
  clear hr
  go_wp2_with fail
  go_ret
  refine ⟨?_, rfl⟩
  have : decide (0 ≤ r) = decide (x ∈ l) := by simp [HR.out]
  rw [← this]
  rfl

theorem miss_step (l l2 : List Int) (k : Nat) (hlt : k < l.length) : miss (l.take (k + 1)) l2 = miss (l.take k) l2 + if l.getD k 0 ∈ l2 then 0 else 1 := by
  rw [List.take_succ_eq_append_getElem hlt, miss_snoc]
  simp [List.getD_eq_getElem?_getD, hlt]
theorem ret_le1 {M N : Nat} (h : M = N) : Ending.returned (.bool (decide ((M : Int) ≤ 1))) = .returned (.bool (decide (N ≤ 1))) := by
  subst h
  exact congrArg (fun x => Ending.returned (.bool x)) (decide_eq_decide.2 (by omega))

set_option maxHeartbeats 1000000 in
set_option maxRecDepth 100000 in
theorem apart_ss (l1 : List Int) (b1 off1 c1 : Nat) (l2 : List Int) (b2 off2 c2 : Nat) (w : World) (hS1 : Keep (Sl .u32 w (.slice (some ⟨b1, off1, none⟩) l1.length c1) l1)) (hn1 : l1.length ≤ 8192) (hc1 : Keep (∀ i, i < l1.length → w.cell? ⟨b1, off1 + i, none⟩ = some (.int .u32 (l1.getD i 0)))) (hS2 : Keep (Sl .u32 w (.slice (some ⟨b2, off2, none⟩) l2.length c2) l2)) (hn2 : l2.length ≤ 8192) (hc2 : Keep (∀ i, i < l2.length → w.cell? ⟨b2, off2 + i, none⟩ = some (.int .u32 (l2.getD i 0)))) :
    Calls Try.prog 19 #[.slice (some ⟨b1, off1, none⟩) l1.length c1, .slice (some ⟨b2, off2, none⟩) l2.length c2] w fun e w' => e = .returned (.bool (decide (miss l1 l2 + miss l2 l1 ≤ 1))) ∧ w' = w := by
  go_enter Try.func19, Try.ntmps19
  go_wp2_with fail
  go_loopg [5, 12] l1.length (fun g ap i wr => ∃ k : Nat, k ≤ l1.length ∧ l1.length - k ≤ g ∧ i = .int .i64 k ∧ ap = .int .i64 (((0 + miss (l1.take k) l2 : Nat)) : Int) ∧ w = wr)
  case atStart => exact ⟨0, by omega, by omega, rfl, rfl, rfl⟩
  case round =>
  obtain ⟨k, hk, hg, rfl, rfl, rfl⟩ := hrel
  by_cases hlt : k < l1.length
  · have g0 := hc1.out k hlt
    have hst := miss_step l1 l2 k hlt
    obtain ⟨u0, hu0⟩ : ∃ u, l1.getD k 0 = u := ⟨_, rfl⟩
    rw [hu0] at g0 hst
    have hm := miss_le (l1.take k) l2
    have hml : miss (l1.take k) l2 ≤ l1.length := Nat.le_trans hm (by simp; omega)
    obtain ⟨M, hM⟩ : ∃ M, 0 + miss (l1.take k) l2 = M := ⟨_, rfl⟩
    have hMb : M ≤ 20000 := by omega
    rw [hM]
    have HST := Keep.mk (And.intro hst hM)
    clear hu0 hst hm hml hM
    by_cases hin : u0 ∈ l2
    · have hdec : decide (u0 ∈ l2) = true := decide_eq_true hin
      have HI := Keep.mk hin
      clear hin
      go_wp2_with (go_at_call 31; refine (contains_any l2 u0 _ _ hS2.out hn2).mono ?_; rintro e w' ⟨rfl, rfl⟩)
      go_roundg (l1.length - (k + 1))
      case measure => omega
      case rel => exact ⟨k + 1, by omega, by omega, by go_num, by rw [HST.out.1, if_pos HI.out, Nat.add_zero, HST.out.2], rfl⟩
    · have hdec : decide (u0 ∈ l2) = false := decide_eq_false hin
      have HI := Keep.mk hin
      clear hin
      go_wp2_with (go_at_call 31; refine (contains_any l2 u0 _ _ hS2.out hn2).mono ?_; rintro e w' ⟨rfl, rfl⟩)
      go_roundg (l1.length - (k + 1))
      case measure => omega
      case rel => exact ⟨k + 1, by omega, by omega, by go_num, by rw [HST.out.1, if_neg HI.out, ← Nat.add_assoc, HST.out.2]; go_num, rfl⟩
  obtain rfl : k = l1.length := by omega
  rw [List.take_length]
  have hm1 := miss_le l1 l2
  obtain ⟨M1, hM1⟩ : ∃ M1, 0 + miss l1 l2 = M1 := ⟨_, rfl⟩
  rw [hM1]
  have HM1 := Keep.mk hM1
  have hM1b : M1 ≤ 8192 := by omega
  clear hm1 hM1
  go_wp2_with fail
  go_loopg [5, 25] l2.length (fun g ap i wr => ∃ k : Nat, k ≤ l2.length ∧ l2.length - k ≤ g ∧ i = .int .i64 k ∧ ap = .int .i64 (((M1 + miss (l2.take k) l1 : Nat)) : Int) ∧ w = wr)
  case atStart => exact ⟨0, by omega, by omega, rfl, rfl, rfl⟩
  case round =>
  obtain ⟨k, hk, hg, rfl, rfl, rfl⟩ := hrel
  by_cases hlt : k < l2.length
  · have g0 := hc2.out k hlt
    have hst := miss_step l2 l1 k hlt
    obtain ⟨u0, hu0⟩ : ∃ u, l2.getD k 0 = u := ⟨_, rfl⟩
    rw [hu0] at g0 hst
    have hm := miss_le (l2.take k) l1
    have hml : miss (l2.take k) l1 ≤ l2.length := Nat.le_trans hm (by simp; omega)
    obtain ⟨M, hM⟩ : ∃ M, M1 + miss (l2.take k) l1 = M := ⟨_, rfl⟩
    have hMb : M ≤ 20000 := by omega
    rw [hM]
    have HST := Keep.mk (And.intro hst hM)
    clear hu0 hst hm hml hM
    by_cases hin : u0 ∈ l1
    · have hdec : decide (u0 ∈ l1) = true := decide_eq_true hin
      have HI := Keep.mk hin
      clear hin
      go_wp2_with (go_at_call 31; refine (contains_any l1 u0 _ _ hS1.out hn1).mono ?_; rintro e w' ⟨rfl, rfl⟩)
      go_roundg (l2.length - (k + 1))
      case measure => omega
      case rel => exact ⟨k + 1, by omega, by omega, by go_num, by rw [HST.out.1, if_pos HI.out, Nat.add_zero, HST.out.2], rfl⟩
    · have hdec : decide (u0 ∈ l1) = false := decide_eq_false hin
      have HI := Keep.mk hin
      clear hin
      go_wp2_with (go_at_call 31; refine (contains_any l1 u0 _ _ hS1.out hn1).mono ?_; rintro e w' ⟨rfl, rfl⟩)
      go_roundg (l2.length - (k + 1))
      case measure => omega
      case rel => exact ⟨k + 1, by omega, by omega, by go_num, by rw [HST.out.1, if_neg HI.out, ← Nat.add_assoc, HST.out.2]; go_num, rfl⟩
  obtain rfl : k = l2.length := by omega
  rw [List.take_length]
  obtain ⟨M2, hM2⟩ : ∃ M2, M1 + miss l2 l1 = M2 := ⟨_, rfl⟩
  have HM2 := Keep.mk hM2
  rw [hM2]
  clear hM2
  go_wp2_with fail
  go_ret
  exact ⟨ret_le1 (by rw [← HM2.out, ← HM1.out]; omega), rfl⟩

set_option maxHeartbeats 1000000 in
set_option maxRecDepth 100000 in
theorem apart_sn (l1 : List Int) (b1 off1 c1 : Nat) (l2 : List Int) (a2 : Option Addr) (c2 : Nat) (w : World) (hS1 : Keep (Sl .u32 w (.slice (some ⟨b1, off1, none⟩) l1.length c1) l1)) (hn1 : l1.length ≤ 8192) (hc1 : Keep (∀ i, i < l1.length → w.cell? ⟨b1, off1 + i, none⟩ = some (.int .u32 (l1.getD i 0)))) (hS2 : Keep (Sl .u32 w (.slice a2 0 c2) l2)) (hn2 : l2.length ≤ 8192) (hl2 : Keep (l2 = [])) :
    Calls Try.prog 19 #[.slice (some ⟨b1, off1, none⟩) l1.length c1, .slice a2 0 c2] w fun e w' => e = .returned (.bool (decide (miss l1 l2 + miss l2 l1 ≤ 1))) ∧ w' = w := by
  go_enter Try.func19, Try.ntmps19
  go_wp2_with fail
  go_loopg [5, 12] l1.length (fun g ap i wr => ∃ k : Nat, k ≤ l1.length ∧ l1.length - k ≤ g ∧ i = .int .i64 k ∧ ap = .int .i64 (((0 + miss (l1.take k) l2 : Nat)) : Int) ∧ w = wr)
  case atStart => exact ⟨0, by omega, by omega, rfl, rfl, rfl⟩
  case round =>
  obtain ⟨k, hk, hg, rfl, rfl, rfl⟩ := hrel
  by_cases hlt : k < l1.length
  · have g0 := hc1.out k hlt
    have hst := miss_step l1 l2 k hlt
    obtain ⟨u0, hu0⟩ : ∃ u, l1.getD k 0 = u := ⟨_, rfl⟩
    rw [hu0] at g0 hst
    have hm := miss_le (l1.take k) l2
    have hml : miss (l1.take k) l2 ≤ l1.length := Nat.le_trans hm (by simp; omega)
    obtain ⟨M, hM⟩ : ∃ M, 0 + miss (l1.take k) l2 = M := ⟨_, rfl⟩
    have hMb : M ≤ 20000 := by omega
    rw [hM]
    have HST := Keep.mk (And.intro hst hM)
    clear hu0 hst hm hml hM
    by_cases hin : u0 ∈ l2
    · have hdec : decide (u0 ∈ l2) = true := decide_eq_true hin
      have HI := Keep.mk hin
      clear hin
      go_wp2_with (go_at_call 31; refine (contains_any l2 u0 _ _ hS2.out hn2).mono ?_; rintro e w' ⟨rfl, rfl⟩)
      go_roundg (l1.length - (k + 1))
      case measure => omega
      case rel => exact ⟨k + 1, by omega, by omega, by go_num, by rw [HST.out.1, if_pos HI.out, Nat.add_zero, HST.out.2], rfl⟩
    · have hdec : decide (u0 ∈ l2) = false := decide_eq_false hin
      have HI := Keep.mk hin
      clear hin
      go_wp2_with (go_at_call 31; refine (contains_any l2 u0 _ _ hS2.out hn2).mono ?_; rintro e w' ⟨rfl, rfl⟩)
      go_roundg (l1.length - (k + 1))
      case measure => omega
      case rel => exact ⟨k + 1, by omega, by omega, by go_num, by rw [HST.out.1, if_neg HI.out, ← Nat.add_assoc, HST.out.2]; go_num, rfl⟩
  obtain rfl : k = l1.length := by omega
  rw [List.take_length]
  have hm1 := miss_le l1 l2
  obtain ⟨M1, hM1⟩ : ∃ M1, 0 + miss l1 l2 = M1 := ⟨_, rfl⟩
  rw [hM1]
  have HM1 := Keep.mk hM1
  have hM1b : M1 ≤ 8192 := by omega
  clear hm1 hM1
  go_wp2_with fail
  go_loopg [5, 25] 0 (fun g ap i wr => i = .int .i64 0 ∧ ap = .int .i64 (((M1 + miss l2 l1 : Nat)) : Int) ∧ w = wr)
  case atStart => exact ⟨rfl, by rw [hl2.out]; rfl, rfl⟩
  case round =>
  obtain ⟨rfl, rfl, rfl⟩ := hrel
  obtain ⟨M2, hM2⟩ : ∃ M2, M1 + miss l2 l1 = M2 := ⟨_, rfl⟩
  have HM2 := Keep.mk hM2
  rw [hM2]
  clear hM2
  go_wp2_with fail
  go_ret
  exact ⟨ret_le1 (by rw [← HM2.out, ← HM1.out]; omega), rfl⟩

set_option maxHeartbeats 1000000 in
set_option maxRecDepth 100000 in
theorem apart_ns (l1 : List Int) (a1 : Option Addr) (c1 : Nat) (l2 : List Int) (b2 off2 c2 : Nat) (w : World) (hS1 : Keep (Sl .u32 w (.slice a1 0 c1) l1)) (hn1 : l1.length ≤ 8192) (hl1 : Keep (l1 = [])) (hS2 : Keep (Sl .u32 w (.slice (some ⟨b2, off2, none⟩) l2.length c2) l2)) (hn2 : l2.length ≤ 8192) (hc2 : Keep (∀ i, i < l2.length → w.cell? ⟨b2, off2 + i, none⟩ = some (.int .u32 (l2.getD i 0)))) :
    Calls Try.prog 19 #[.slice a1 0 c1, .slice (some ⟨b2, off2, none⟩) l2.length c2] w fun e w' => e = .returned (.bool (decide (miss l1 l2 + miss l2 l1 ≤ 1))) ∧ w' = w := by
  go_enter Try.func19, Try.ntmps19
  go_wp2_with fail
  go_loopg [5, 12] 0 (fun g ap i wr => i = .int .i64 0 ∧ ap = .int .i64 (((0 + miss l1 l2 : Nat)) : Int) ∧ w = wr)
  case atStart => exact ⟨rfl, by rw [hl1.out]; rfl, rfl⟩
  case round =>
  obtain ⟨rfl, rfl, rfl⟩ := hrel
  have hm1 := miss_le l1 l2
  obtain ⟨M1, hM1⟩ : ∃ M1, 0 + miss l1 l2 = M1 := ⟨_, rfl⟩
  rw [hM1]
  have HM1 := Keep.mk hM1
  have hM1b : M1 ≤ 8192 := by omega
  clear hm1 hM1
  go_wp2_with fail
  go_loopg [5, 25] l2.length (fun g ap i wr => ∃ k : Nat, k ≤ l2.length ∧ l2.length - k ≤ g ∧ i = .int .i64 k ∧ ap = .int .i64 (((M1 + miss (l2.take k) l1 : Nat)) : Int) ∧ w = wr)
  case atStart => exact ⟨0, by omega, by omega, rfl, rfl, rfl⟩
  case round =>
  obtain ⟨k, hk, hg, rfl, rfl, rfl⟩ := hrel
  by_cases hlt : k < l2.length
  · have g0 := hc2.out k hlt
    have hst := miss_step l2 l1 k hlt
    obtain ⟨u0, hu0⟩ : ∃ u, l2.getD k 0 = u := ⟨_, rfl⟩
    rw [hu0] at g0 hst
    have hm := miss_le (l2.take k) l1
    have hml : miss (l2.take k) l1 ≤ l2.length := Nat.le_trans hm (by simp; omega)
    obtain ⟨M, hM⟩ : ∃ M, M1 + miss (l2.take k) l1 = M := ⟨_, rfl⟩
    have hMb : M ≤ 20000 := by omega
    rw [hM]
    have HST := Keep.mk (And.intro hst hM)
    clear hu0 hst hm hml hM
    by_cases hin : u0 ∈ l1
    · have hdec : decide (u0 ∈ l1) = true := decide_eq_true hin
      have HI := Keep.mk hin
      clear hin
      go_wp2_with (go_at_call 31; refine (contains_any l1 u0 _ _ hS1.out hn1).mono ?_; rintro e w' ⟨rfl, rfl⟩)
      go_roundg (l2.length - (k + 1))
      case measure => omega
      case rel => exact ⟨k + 1, by omega, by omega, by go_num, by rw [HST.out.1, if_pos HI.out, Nat.add_zero, HST.out.2], rfl⟩
    · have hdec : decide (u0 ∈ l1) = false := decide_eq_false hin
      have HI := Keep.mk hin
      clear hin
      go_wp2_with (go_at_call 31; refine (contains_any l1 u0 _ _ hS1.out hn1).mono ?_; rintro e w' ⟨rfl, rfl⟩)
      go_roundg (l2.length - (k + 1))
      case measure => omega
      case rel => exact ⟨k + 1, by omega, by omega, by go_num, by rw [HST.out.1, if_neg HI.out, ← Nat.add_assoc, HST.out.2]; go_num, rfl⟩
  obtain rfl : k = l2.length := by omega
  rw [List.take_length]
  obtain ⟨M2, hM2⟩ : ∃ M2, M1 + miss l2 l1 = M2 := ⟨_, rfl⟩
  have HM2 := Keep.mk hM2
  rw [hM2]
  clear hM2
  go_wp2_with fail
  go_ret
  exact ⟨ret_le1 (by rw [← HM2.out, ← HM1.out]; omega), rfl⟩

set_option maxHeartbeats 1000000 in
set_option maxRecDepth 100000 in
theorem apart_nn (l1 : List Int) (a1 : Option Addr) (c1 : Nat) (l2 : List Int) (a2 : Option Addr) (c2 : Nat) (w : World) (hS1 : Keep (Sl .u32 w (.slice a1 0 c1) l1)) (hn1 : l1.length ≤ 8192) (hl1 : Keep (l1 = [])) (hS2 : Keep (Sl .u32 w (.slice a2 0 c2) l2)) (hn2 : l2.length ≤ 8192) (hl2 : Keep (l2 = [])) :
    Calls Try.prog 19 #[.slice a1 0 c1, .slice a2 0 c2] w fun e w' => e = .returned (.bool (decide (miss l1 l2 + miss l2 l1 ≤ 1))) ∧ w' = w := by
  go_enter Try.func19, Try.ntmps19
  go_wp2_with fail
  go_loopg [5, 12] 0 (fun g ap i wr => i = .int .i64 0 ∧ ap = .int .i64 (((0 + miss l1 l2 : Nat)) : Int) ∧ w = wr)
  case atStart => exact ⟨rfl, by rw [hl1.out]; rfl, rfl⟩
  case round =>
  obtain ⟨rfl, rfl, rfl⟩ := hrel
  have hm1 := miss_le l1 l2
  obtain ⟨M1, hM1⟩ : ∃ M1, 0 + miss l1 l2 = M1 := ⟨_, rfl⟩
  rw [hM1]
  have HM1 := Keep.mk hM1
  have hM1b : M1 ≤ 8192 := by omega
  clear hm1 hM1
  go_wp2_with fail
  go_loopg [5, 25] 0 (fun g ap i wr => i = .int .i64 0 ∧ ap = .int .i64 (((M1 + miss l2 l1 : Nat)) : Int) ∧ w = wr)
  case atStart => exact ⟨rfl, by rw [hl2.out]; rfl, rfl⟩
  case round =>
  obtain ⟨rfl, rfl, rfl⟩ := hrel
  obtain ⟨M2, hM2⟩ : ∃ M2, M1 + miss l2 l1 = M2 := ⟨_, rfl⟩
  have HM2 := Keep.mk hM2
  rw [hM2]
  clear hM2
  go_wp2_with fail
  go_ret
  exact ⟨ret_le1 (by rw [← HM2.out, ← HM1.out]; omega), rfl⟩

/-- paxos.OneChangeApart: at most one number lies in one of the lists alone. -/
theorem apart_any (l1 l2 : List Int) (v1 v2 : Value) (w : World) (h1 : Sl .u32 w v1 l1) (h2 : Sl .u32 w v2 l2) (hn1 : l1.length ≤ 8192) (hn2 : l2.length ≤ 8192) :
    Calls Try.prog 19 #[v1, v2] w fun e w' => e = .returned (.bool (decide (miss l1 l2 + miss l2 l1 ≤ 1))) ∧ w' = w := by
  have k1 := h1
  have k2 := h2
  obtain ⟨a1, c1, rfl, h1⟩ := h1
  obtain ⟨a2, c2, rfl, h2⟩ := h2
  rcases h1 with e1 | ⟨b1, off1, rfl, hb1, hc1⟩ <;> rcases h2 with e2 | ⟨b2, off2, rfl, hb2, hc2⟩
  · subst e1; subst e2; exact apart_nn [] a1 c1 [] a2 c2 w k1 hn1 rfl k2 hn2 rfl
  · subst e1; exact apart_ns [] a1 c1 l2 b2 off2 c2 w k1 hn1 rfl k2 hn2 hc2
  · subst e2; exact apart_sn l1 b1 off1 c1 [] a2 c2 w k1 hn1 hc1 k2 hn2 rfl
  · exact apart_ss l1 b1 off1 c1 l2 b2 off2 c2 w k1 hn1 hc1 k2 hn2 hc2

end Go.Proofs.Qxb6600076a
