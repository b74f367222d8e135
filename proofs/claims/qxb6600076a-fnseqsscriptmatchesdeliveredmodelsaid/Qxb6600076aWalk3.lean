import Derived.Test.Qxb6600076aState
namespace Go.Proofs.Qxb6600076a
open Go.RowKit Go.Maps
set_option linter.unusedVariables false

theorem bytes8_yes (x : Option Addr) (n c : Nat) (w : World) (h : n ≤ 1048576) : Calls Try.prog 8 #[.slice x n c] w fun e w' => e = .returned (.bool true) ∧ w' = w := by
  go_enter Try.func8, Try.ntmps8
  go_wp2
  go_ret
  exact ⟨rfl, rfl⟩
theorem bytes8_no (x : Option Addr) (n c : Nat) (w : World) (h : ¬ n ≤ 1048576) : Calls Try.prog 8 #[.slice x n c] w fun e w' => e = .returned (.bool false) ∧ w' = w := by
  go_enter Try.func8, Try.ntmps8
  go_wp2
  go_ret
  exact ⟨rfl, rfl⟩

theorem delivered_no (H n : Int) (L : List Int) (v : Value) (w : World) (h : Sl .u64 w v L) (hn : L.length ≤ 2000000) (hs : L.Pairwise (· < ·)) (hd : delB H n L = false) :
    Calls Try.prog 9 #[.int .u64 H, v, .int .u64 n] w fun e w' => e = .returned (.bool false) ∧ w' = w := by
  rw [← hd]
  exact delivered_any H n L v w h hn hs
theorem not_del {H seq : Int} {L : List Int} (hv : VS H L) (hH : 0 ≤ H) (h0 : 0 ≤ seq) (hd : delB H seq L = false) : 0 < seq ∧ (seq ≤ H → seq ∈ L) := by
  have key : seq ≤ H → seq ∈ L := by
    intro h1
    by_cases h : seq ∈ L
    · exact h
    · have := of_decide_eq_false hd
      exact absurd ⟨h1, h⟩ this
  refine ⟨?_, key⟩
  by_cases h1 : seq ≤ H
  · exact hv.pos _ (key h1)
  · omega
theorem add_delivered {H seq N : Int} {L L' : List Int} (hv : VS H L) (ha : AddTo H L seq L') (hN : max H seq = N) : delB N seq L' = true := by
  have h1 : seq ∉ L' := by
    intro hm
    have h2 := (ha.mem seq).1 hm
    unfold addMem at h2
    by_cases g1 : seq ≤ H
    · rw [if_pos g1] at h2
      exact h2.2 rfl
    · rw [if_neg g1] at h2
      by_cases g2 : H + 65536 < seq
      · rw [if_pos g2] at h2
        exact h2
      · rw [if_neg g2] at h2
        obtain ⟨h3 | h3, -⟩ := h2
        · have := hv.below _ h3; omega
        · omega
  have h2 : seq ≤ N := by omega
  simp [delB, h1, h2]

set_option maxHeartbeats 4000000 in
set_option maxRecDepth 100000 in
theorem walk_script (a0 : Option Addr) (l : List Int) (c : Nat) (w : World) (h : Keep (Sl .u64 w (.slice a0 l.length c) l)) (hp : Keep (∀ m ∈ l, 0 ≤ m)) :
    Calls Try.prog 3 #[.slice a0 l.length c] w fun e w' => e = .returned (.bool true) ∧ Below w.heap.size w w' := by
  by_cases hsum : l.length ≤ 1048576
  case neg =>
    go_enter Try.func3, Try.ntmps3
    go_wp2_with (go_at_call 8; refine (bytes8_no _ _ _ _ (by omega)).mono ?_; rintro e w' ⟨rfl, rfl⟩)
    go_ret
    exact ⟨rfl, Below.refl _ _⟩
  by_cases hn : l.length ≤ 4096
  case neg =>
    go_enter Try.func3, Try.ntmps3
    go_wp2_with (go_at_call 8; refine (bytes8_yes _ _ _ _ hsum).mono ?_; rintro e w' ⟨rfl, rfl⟩)
    go_ret
    exact ⟨rfl, Below.refl _ _⟩
  have hmk := make_added l.length hn
  have hmm := make28
  go_enter Try.func3, Try.ntmps3
  go_wp2_with fail
  refine (bytes8_yes _ _ _ _ hsum).mono ?_
  rintro e w' ⟨rfl, hw⟩
  obtain rfl : w = w' := hw.symm
  go_wp2_with fail
  have ST0 := Keep.mk (st_start w l.length)
  obtain ⟨B, hB⟩ : ∃ B, w.heap.size = B := ⟨_, rfl⟩
  rw [hB] at ST0 ⊢
  obtain ⟨ab, hab⟩ : ∃ ab, B + 1 = ab := ⟨_, rfl⟩
  rw [hab] at ST0 ⊢
  obtain ⟨mb, hmb⟩ : ∃ mb, ab + 1 = mb := ⟨_, rfl⟩
  rw [hmb] at ST0 ⊢
  generalize ((w.alloc (.cells #[.int .u64 0, .slice none 0 0] 27)).alloc (.cells (rowA .u64 (List.replicate l.length 0)) 25)).alloc (.map #[] 0) = w1 at ST0 ⊢
  have HB := Keep.mk hB
  clear hsum hmk hmm hB hab hmb
  go_loopg [4, 5, 6, 8] l.length (fun g hv fv av iv wr => ∃ (k : Nat) (H F : Int) (V : Value) (L A : List Int), k ≤ l.length ∧ l.length - k ≤ g ∧ hv = .int .u64 H ∧ fv = .int .u64 F ∧ av = .slice (some ⟨ab, 0, none⟩) A.length l.length ∧ iv = .int .i64 k ∧ A.length ≤ k ∧ Keep (PI H F L A) ∧ Keep (ST w B ab mb l.length wr H V L A))
  case atStart => exact ⟨0, 0, 0, .slice none 0 0, [], [], by omega, by omega, rfl, rfl, rfl, rfl, by simp, pi_start, ST0⟩
  case round =>
  obtain ⟨k, H, F, V, L, A, hk, hg, rfl, rfl, rfl, rfl, hAk, HP, HS⟩ := hrel
  have hF0 := HP.out.f0
  have hFH := HP.out.fh
  have hHm := HP.out.hm
  have hL := HP.out.vs.length
  by_cases hlt : k < l.length
  · have HSL : Keep (Sl .u64 wr (.slice a0 l.length c) l) := h.out.on (HB.out.symm ▸ HS.out.be)
    obtain ⟨b, off, rfl, hc⟩ := HSL.out.row (by omega)
    have g0 := hc.out k hlt
    have hs0 := hp.out _ (mem_getD hlt)
    obtain ⟨seq, hx⟩ : ∃ x, l.getD k 0 = x := ⟨_, rfl⟩
    rw [hx] at g0 hs0
    clear hx hc
    by_cases hmax : seq ≤ 18446744073709486079
    case neg =>
      go_wp2_with fail
      go_roundg (l.length - (k + 1))
      case measure => omega
      case rel => exact ⟨k + 1, H, F, V, L, A, by omega, by omega, rfl, rfl, rfl, by go_num, by omega, HP, HS⟩
    have c0 := HS.out.sq.c0
    have c1 := HS.out.sq.c1
    cases hd : delB H seq L
    case true =>
      have HD := Keep.mk hd
      clear hd
      go_wp2_with fail
      go_quiet ((go_at_call 9; exact Calls.quiet_of_same (delivered_yes H seq L _ _ (HS.out.sq.sl.drew _) (by omega) HP.out.vs.sorted HD.out)))
      go_wp2_with fail
      go_roundg (l.length - (k + 1))
      case measure => omega
      case rel => exact ⟨k + 1, H, F, V, L, A, by omega, by omega, rfl, rfl, rfl, by go_num, by omega, HP, HS.out.drew _⟩
    have HD := Keep.mk hd
    clear hd
    go_wp2_with fail
    go_quiet ((go_at_call 9; exact Calls.quiet_of_same (delivered_no H seq L _ _ (HS.out.sq.sl.drew _) (by omega) HP.out.vs.sorted HD.out)))
    go_upto_region 16 with fail
    generalize hW : wr.drewN _ = w5
    have HS := Keep.mk (hW ▸ HS.out.drew _)
    clear hW c0 c1 HSL g0
    go_cut [60] (fun f wc => f = .bool (decide (H + 65536 < seq)) ∧ w5 = wc)
    case first =>
      by_cases hgt : H < seq
      · go_wp2_with fail
        go_meet
        exact ⟨congrArg Value.bool (decide_eq_decide.2 (by omega)), rfl⟩
      · go_wp2_with fail
        go_meet
        exact ⟨congrArg Value.bool (decide_eq_false (by omega)).symm, rfl⟩
    case rest =>
    obtain ⟨rfl, rfl⟩ := hcut
    obtain ⟨hsq, hmem⟩ := not_del HP.out.vs (by omega) hs0 HD.out
    have HMEM := Keep.mk hmem
    clear hmem
    obtain ⟨F', hF'⟩ : ∃ F', floorOf H F seq = F' := ⟨_, rfl⟩
    have HF' := Keep.mk hF'
    clear hF'
    go_upto_if 60 with fail
    go_cut [5] (fun f wc => f = .int .u64 F' ∧ w5 = wc)
    case first =>
      by_cases hbig : H + 65536 < seq
      · go_wp2_with fail
        go_meet
        exact ⟨congrArg (Value.int .u64) (by rw [← HF'.out, floorOf, if_pos hbig]), rfl⟩
      · go_wp2_with fail
        go_meet
        exact ⟨congrArg (Value.int .u64) (by rw [← HF'.out, floorOf, if_neg (by omega)]), rfl⟩
    case rest =>
    obtain ⟨rfl, rfl⟩ := hcut
    go_wp2_with fail
    refine (add_any (B + 3) B H seq V L _ HS.out.sq HP.out.vs (by omega) hHm (by omega) HD).mono ?_
    rintro e w6 ⟨rfl, V', L', hq, ha, hsp⟩
    obtain ⟨N, hN⟩ : ∃ N, max H seq = N := ⟨_, rfl⟩
    have HD2 := Keep.mk (add_delivered HP.out.vs ha hN)
    have HP2 := pi_step HP.out hmax hsq HMEM.out ha
    rw [hN] at hq HP2
    rw [HF'.out] at HP2
    have HP2 := Keep.mk HP2
    have HN := Keep.mk hN
    have HS := Keep.mk (HS.out.add hq hsp)
    have hL2 := HP2.out.vs.length
    clear hq ha hsp hN
    go_upto_if 67 with fail
    go_cut [4] (fun f wc => f = .int .u64 N ∧ w6 = wc)
    case first =>
      by_cases hgt : H < seq
      · go_wp2_with fail
        go_meet
        exact ⟨congrArg (Value.int .u64) (by have := HN.out; omega), rfl⟩
      · go_wp2_with fail
        go_meet
        exact ⟨congrArg (Value.int .u64) (by have := HN.out; omega), rfl⟩
    case rest =>
    obtain ⟨rfl, rfl⟩ := hcut
    obtain ⟨i0, hi, hz0, hz1, hz2⟩ := type25
    have ARA : Keep (AR (w6.alloc (.cells #[.int .u64 seq] 25)) ab l.length A) := HS.out.ar.kept (Below.heap_alloc w6 _ _ (by have := HS.out.sq.size; have := HS.out.e1; omega))
    have hAl : A.length < l.length := by omega
    go_wp2_with (at_builtin; refine wpList_append_arg _ rfl _ _ 22 rfl 25 i0 (.int .u64 0) 1 8 Try.underlying22 hi hz0 hz1 hz2 rfl (by decide) ab 0 A.length l.length (A.map (Value.int .u64)) rfl ?c0 ?c1 ⟨w6.heap.size, 0, none⟩ 1 1 [.int .u64 seq] rfl rfl ?c2 ?c3 ?c4 ?c5 ?c6 ?c7 ?c8)
    case c0 => simp
    case c1 => exact ARA.out.olds
    case c2 =>
      intro j u hj
      match j, hj with
      | 0, hj => simp at hj; subst hj; simp [Addr.add]
    case c3 => intro u hu; simp at hu; subst hu; rfl
    case c4 =>
      intro _ j hj
      obtain rfl : j = 0 := by simp at hj; omega
      have := ARA.out.room hAl
      simpa using this
    case c5 => unfold maxLen; omega
    case c6 => omega
    case c8 => intro hcap; exact absurd hcap (by omega)
    intro _
    generalize hW : World.setCells _ _ _ _ = w7
    obtain ⟨q7, a7, m7, b7⟩ := HS.out.push hAl seq (.cells #[.int .u64 seq] 25) (w' := w7) (by rw [← hW]; simp [World.setCells])
    obtain ⟨w8, hrun, m8, g8⟩ := m7.store (by omega) seq hs0 (by omega)
    have HS := Keep.mk (ST.mk2 HS.out.e1 HS.out.e2 q7 a7 b7 m8 g8)
    clear hW q7 a7 m7 b7 m8 g8 ARA
    have c0 := HS.out.sq.c0
    have c1 := HS.out.sq.c1
    go_wp2_with fail
    go_quiet ((go_at_call 9; exact Calls.quiet_of_same (delivered_yes N seq L' _ _ (HS.out.sq.sl.drew _) (by omega) HP2.out.vs.sorted HD2.out)))
    go_wp2_with fail
    go_roundg (l.length - (k + 1))
    case measure => omega
    case rel => exact ⟨k + 1, N, F', V', L', A ++ [seq], by omega, by omega, rfl, rfl, by simp, by go_num, by simp; omega, HP2, HS.out.drew _⟩
  obtain rfl : k = l.length := by omega
  clear hlt hg hk
  have c0 := HS.out.sq.c0
  have c1 := HS.out.sq.c1
  obtain ⟨a', c', rfl⟩ : ∃ a' c', V = .slice a' L.length c' := by
    obtain ⟨a', c', e, -⟩ := HS.out.sq.sl
    exact ⟨a', c', e⟩
  have hlo1 : F + 1 ≤ loOf H F := by unfold loOf; omega
  have hlo2 : H - 65535 ≤ loOf H F := by unfold loOf; omega
  have hlo3 : loOf H F ≤ H + 1 := by unfold loOf; omega
  have HC : Keep (loOf H F ≤ H → (L.length : Int) + cntW (loOf H F) H A = H - loOf H F) := pi_count HP.out
  have HZ : Keep (H ≤ loOf H F → L.length = 0) := pi_none HP.out
  have HME : Keep (∀ m, m ∈ L → loOf H F ≤ m ∧ m < H ∧ m ∉ A) := fun m hm => (HP.out.mem m).1 hm
  obtain ⟨lo, hlo⟩ : ∃ lo, loOf H F = lo := ⟨_, rfl⟩
  rw [hlo] at hlo1 hlo2 hlo3 HC HZ HME
  have HLO := Keep.mk hlo
  clear hlo
  go_upto_region 28 with fail
  go_cut [102] (fun f wc => f = .bool (decide (F + 1 < H - 65535)) ∧ wr = wc)
  case first =>
    by_cases hgt : 65536 ≤ H
    · go_wp2_with fail
      go_meet
      exact ⟨congrArg Value.bool (decide_eq_decide.2 (by omega)), rfl⟩
    · go_wp2_with fail
      go_meet
      exact ⟨congrArg Value.bool (decide_eq_false (by omega)).symm, rfl⟩
  case rest =>
  obtain ⟨rfl, rfl⟩ := hcut
  go_upto_if 102 with fail
  go_cut [10] (fun f wc => f = .int .u64 lo ∧ wr = wc)
  case first =>
    by_cases hbig : F + 1 < H - 65535
    · go_wp2_with fail
      go_meet
      exact ⟨congrArg (Value.int .u64) (by rw [← HLO.out, loOf]; omega), rfl⟩
    · go_wp2_with fail
      go_meet
      exact ⟨congrArg (Value.int .u64) (by rw [← HLO.out, loOf]; omega), rfl⟩
  case rest =>
  obtain ⟨rfl, rfl⟩ := hcut
  go_upto_if 108 with fail
  go_cut [11] (fun f wc => f = .int .u64 (L.length : Int) ∧ wr = wc)
  case first =>
    by_cases hlt : lo < H
    · have hltb : decide (lo < H) = true := decide_eq_true hlt
      have hcnt := HC.out (by omega)
      have HA := Keep.mk HS.out.ar
      rw [hltb]
      clear hltb
      go_wp2_with fail
      go_loopg [11, 12] A.length (fun g wv iv wc => ∃ (k : Nat) (v : Int), k ≤ A.length ∧ A.length - k ≤ g ∧ iv = .int .i64 k ∧ wv = .int .u64 v ∧ 0 ≤ v ∧ v ≤ 65536 ∧ Keep (v + cntW lo H (A.take k) = H - lo) ∧ wr = wc)
      case atStart => exact ⟨0, H - lo, by omega, by omega, rfl, rfl, by omega, by omega, by simp [Keep, cntW], rfl⟩
      case round =>
      obtain ⟨k, v, hk, hg, rfl, rfl, hv0, hv1, HV, rfl⟩ := hrel
      by_cases hkl : k < A.length
      · have g0 := HA.out.cell k hkl
        have hst := cnt_take lo H A k hkl
        have hle := cnt_le lo H A (k + 1)
        obtain ⟨d, hd⟩ : ∃ d, A.getD k 0 = d := ⟨_, rfl⟩
        rw [hd] at g0 hst
        have HST := Keep.mk hst
        have HLE := Keep.mk hle
        clear hd hst hle
        by_cases hin1 : lo ≤ d
        · by_cases hin2 : d < H
          · have HIN : Keep (inW lo H d = true) := decide_eq_true ⟨hin1, hin2⟩
            have hpos : 1 ≤ v := by
              have h1 := HST.out
              have h2 := HLE.out
              have h3 := HV.out
              rw [HIN.out, if_pos rfl] at h1
              omega
            go_wp2_with fail
            go_roundg (A.length - (k + 1))
            case measure => omega
            case rel => exact ⟨k + 1, v - 1, by omega, by omega, by go_num, rfl, by omega, by omega, by
              have h1 := HST.out
              have h3 := HV.out
              rw [HIN.out, if_pos rfl] at h1
              show _ = _
              omega, rfl⟩
          · have HIN : Keep (inW lo H d = false) := decide_eq_false (by omega)
            go_wp2_with fail
            go_roundg (A.length - (k + 1))
            case measure => omega
            case rel => exact ⟨k + 1, v, by omega, by omega, by go_num, rfl, by omega, by omega, by
              have h1 := HST.out
              have h3 := HV.out
              rw [HIN.out, if_neg (by simp)] at h1
              show _ = _
              omega, rfl⟩
        · have HIN : Keep (inW lo H d = false) := decide_eq_false (by omega)
          go_wp2_with fail
          go_roundg (A.length - (k + 1))
          case measure => omega
          case rel => exact ⟨k + 1, v, by omega, by omega, by go_num, rfl, by omega, by omega, by
            have h1 := HST.out
            have h3 := HV.out
            rw [HIN.out, if_neg (by simp)] at h1
            show _ = _
            omega, rfl⟩
      · obtain rfl : k = A.length := by omega
        have h3 := HV.out
        rw [List.take_length] at h3
        obtain rfl : v = (L.length : Int) := by omega
        go_wp2_with fail
        go_meet
        exact ⟨rfl, rfl⟩
    · have hz := HZ.out (by omega)
      go_wp2_with fail
      go_meet
      exact ⟨congrArg (Value.int .u64) (by omega), rfl⟩
  case rest =>
  obtain ⟨rfl, rfl⟩ := hcut
  go_wp2_with fail
  go_loopg [14] L.length (fun g iv wc => ∃ k : Nat, k ≤ L.length ∧ L.length - k ≤ g ∧ iv = .int .i64 k ∧ wr = wc)
  case atStart => exact ⟨0, by omega, by omega, rfl, rfl⟩
  case round =>
  obtain ⟨k, hk, hg, rfl, rfl⟩ := hrel
  by_cases hlt : k < L.length
  · obtain ⟨b, off, rfl, hc⟩ := HS.out.sq.sl.row (by omega)
    have g0 := hc.out k hlt
    obtain ⟨x1, x2, x3⟩ := HME.out _ (mem_getD hlt)
    have OKA := Keep.mk (vs_at HP.out.vs k hlt)
    unfold okAt at OKA
    obtain ⟨x, hx⟩ : ∃ x, L.getD k 0 = x := ⟨_, rfl⟩
    rw [hx] at g0 x1 x2 x3 OKA
    clear hx
    have hlook := HS.out.sm.look x (by omega) (by omega) x3
    clear x3
    by_cases hk0 : k = 0
    · subst hk0
      rw [Nat.add_zero] at g0
      go_wp2_with fail
      go_roundg (L.length - 1)
      case measure => omega
      case rel => exact ⟨1, by omega, by omega, by go_num, rfl⟩
    obtain ⟨j, rfl⟩ : ∃ j, k = j + 1 := ⟨k - 1, by omega⟩
    have g1 := hc.out j (by omega)
    have hyx := OKA.out.2.2.2 (by omega)
    rw [show j + 1 - 1 = j by omega] at hyx
    obtain ⟨y, hy⟩ : ∃ y, L.getD j 0 = y := ⟨_, rfl⟩
    rw [hy] at g1 hyx
    clear hy OKA
    go_wp2_with fail
    go_roundg (L.length - (j + 2))
    case measure => omega
    case rel => exact ⟨j + 2, by omega, by omega, by go_num, rfl⟩
  · obtain rfl : k = L.length := by omega
    go_wp2_with fail
    go_ret
    exact ⟨rfl, HB.out.symm ▸ HS.out.be⟩

end Go.Proofs.Qxb6600076a
