import Derived.Test.Qxb6600076aValid
import Derived.Test.Qxb6600076aWalk5
namespace Go.Proofs.Qxb6600076a
open Go.RowKit
set_option linter.unusedVariables false

/-- The struct that has just been made over an own row. -/
theorem sq_new {w1 w2 : World} {base : Nat} {H : Int} {V : Value} {L : List Int} (hown : w2.ownsRow base 25 1 V L.length (L.map (Value.int .u64))) (hb : base ≤ w2.heap.size) :
    SQ (w2.alloc (.cells #[.int .u64 H, V] 27)) base w2.heap.size H V L :=
  ⟨heap_alloc_new w2 _, hown.alloc _, by simp; omega⟩
theorem SQ.drew {w : World} {base sb : Nat} {H : Int} {V : Value} {L : List Int} (h : SQ w base sb H V L) (q : Nat) : SQ (w.drewN q) base sb H V L := ⟨h.blk, h.own, h.size⟩
theorem Sl.drew {k : IntKind} {w : World} {v : Value} {l : List Int} (h : Sl k w v l) (q : Nat) : Sl k (w.drewN q) v l := h.on (below_draws w q)
theorem Sp.below {base sb : Nat} {w w' : World} (h : Sp base sb w w') (hs : base ≤ sb) : Below base w w' := ⟨h.os, h.tape, h.output, h.size, fun k hk => h.block k hk (by omega)⟩

theorem delivered_yes (H n : Int) (L : List Int) (v : Value) (w : World) (h : Sl .u64 w v L) (hn : L.length ≤ 2000000) (hs : L.Pairwise (· < ·)) (hd : delB H n L = true) :
    Calls Try.prog 9 #[.int .u64 H, v, .int .u64 n] w fun e w' => e = .returned (.bool true) ∧ w' = w := by
  rw [← hd]
  exact delivered_any H n L v w h hn hs

theorem inSorted_yes (L : List Int) (x : Int) (v : Value) (w : World) (h : Sl .u64 w v L) (hn : L.length ≤ 2000000) (hs : L.Pairwise (· < ·)) (hx : x ∈ L) :
    Calls Try.prog 28 #[v, .int .u64 x] w fun e w' => e = .returned (.bool true) ∧ w' = w := by
  have := inSorted_any L x v w h hn hs
  rwa [decide_eq_true hx] at this
/-- What the law asks of the numbers. -/
theorem add_old {H seq x : Int} {L L' : List Int} (ha : AddTo H L seq L') (hx : x ∈ L') (hle : x ≤ H) : x ∈ L := by
  have h1 := (ha.mem x).1 hx
  unfold addMem at h1
  split at h1
  · exact h1.1
  · split at h1
    · exact h1.elim
    · obtain ⟨h2 | h2, -⟩ := h1
      · exact h2
      · omega
theorem add_none {H seq : Int} {L L' : List Int} (ha : AddTo H L seq L') (hb : H + 65536 < seq) : L' = [] := by
  rw [List.eq_nil_iff_forall_not_mem]
  intro m hm
  have h1 := (ha.mem m).1 hm
  unfold addMem at h1
  rwa [if_neg (by omega), if_pos hb] at h1
theorem add_kept {H seq m N : Int} {L L' : List Int} (ha : AddTo H L seq L') (hN : max H seq = N) (hb : ¬ H + 65536 < seq) (hm : m ∈ L) (hne : m ≠ seq) (hnear : N - m < 65536) : m ∈ L' := by
  refine (ha.mem m).2 ?_
  unfold addMem
  by_cases h1 : seq ≤ H
  · rw [if_pos h1]
    exact ⟨hm, hne⟩
  · rw [if_neg h1, if_neg hb]
    exact ⟨.inl hm, fun _ => by omega⟩
theorem add_skipped {H seq m N : Int} {L L' : List Int} (ha : AddTo H L seq L') (hN : max H seq = N) (hb : ¬ H + 65536 < seq) (h1 : H < m) (h2 : m < seq) (hnear : N - m < 65536) : m ∈ L' := by
  refine (ha.mem m).2 ?_
  unfold addMem
  rw [if_neg (by omega), if_neg hb]
  exact ⟨.inr ⟨h1, h2⟩, fun _ => by omega⟩
/-- A slice with an element leads to a row. -/
theorem Sl.row {w : World} {a : Option Addr} {n c : Nat} {l : List Int} (h : Sl .u64 w (.slice a n c) l) (h0 : 0 < l.length) : ∃ b off, a = some ⟨b, off, none⟩ ∧ Keep (∀ i, i < l.length → w.cell? ⟨b, off + i, none⟩ = some (.int .u64 (l.getD i 0))) := by
  obtain ⟨a', c', e, h⟩ := h
  obtain ⟨rfl, -, -⟩ := Value.slice.inj e
  rcases h with rfl | ⟨b, off, rfl, -, hc⟩
  · exact absurd h0 (by simp)
  · exact ⟨b, off, rfl, hc⟩

set_option maxHeartbeats 4000000 in
set_option maxRecDepth 100000 in
theorem walk_add (H : Int) (a1 : Option Addr) (L : List Int) (c : Nat) (seq : Int) (w : World) (h : Keep (Sl .u64 w (.slice a1 L.length c) L)) (hp : Keep (∀ m ∈ L, 0 ≤ m)) (hH0 : 0 ≤ H) (hH1 : H ≤ 18446744073709551615) (hs0 : 0 ≤ seq) (hs1 : seq ≤ 18446744073709551615) :
    Calls Try.prog 7 #[.int .u64 H, .slice a1 L.length c, .int .u64 seq] w fun e w' => e = .returned (.bool true) ∧ Below w.heap.size w w' := by
  by_cases hsum : L.length ≤ 1048576
  case neg =>
    go_enter Try.func7, Try.ntmps7
    go_wp2_with (go_at_call 25; refine (bytes25_no _ _ _ _ _ _ (by omega)).mono ?_; rintro e w' ⟨rfl, rfl⟩)
    go_ret
    exact ⟨rfl, Below.refl _ _⟩
  by_cases hn : L.length ≤ 65536
  case neg =>
    go_enter Try.func7, Try.ntmps7
    go_wp2_with (go_at_call 25; refine (bytes25_yes _ _ _ _ _ _ hsum).mono ?_; rintro e w' ⟨rfl, rfl⟩)
    go_ret
    exact ⟨rfl, Below.refl _ _⟩
  by_cases hHm : H ≤ 18446744073709486079
  case neg =>
    go_enter Try.func7, Try.ntmps7
    go_wp2_with (go_at_call 25; refine (bytes25_yes _ _ _ _ _ _ hsum).mono ?_; rintro e w' ⟨rfl, rfl⟩)
    go_ret
    exact ⟨rfl, Below.refl _ _⟩
  clear hH1
  go_enter Try.func7, Try.ntmps7
  go_wp2_with (go_at_call 25; refine (bytes25_yes _ _ _ _ _ _ hsum).mono ?_; rintro e w' ⟨rfl, rfl⟩)
  clear hsum
  refine (valid_any H L _ _ h.out hH0 (by omega) (by omega) hp.out).mono ?_
  rintro e w1 ⟨⟨r, rfl, hr⟩, hw⟩
  subst hw
  cases r
  case false =>
    clear hr
    go_wp2_with fail
    go_ret
    exact ⟨rfl, Below.refl _ _⟩
  have HV : Keep (VS H L) := hr.1 rfl
  clear hr hp
  go_wp2_with fail
  refine (delivered_any H seq L _ _ h.out (by omega) HV.out.sorted).mono ?_
  rintro e w1 ⟨rfl, hw⟩
  subst hw
  cases hd : delB H seq L
  case true =>
    go_wp2_with fail
    go_ret
    exact ⟨rfl, Below.refl _ _⟩
  have HD := Keep.mk hd
  clear hd
  go_wp2_with fail
  refine (clone_any L _ _ h.out (by omega)).mono ?_
  rintro e w2 ⟨am, nm, cm, rfl, hown, hb⟩
  have B1 := Keep.mk hb
  have HM := Keep.mk (sl_of_own hown)
  obtain ⟨-, rfl, -⟩ : True ∧ nm = L.length ∧ True := by
    obtain ⟨a', c', e, -⟩ := HM.out
    exact ⟨trivial, (Value.slice.inj e).2.1, trivial⟩
  clear hown hb h
  go_wp2_with fail
  refine (clone_any L _ _ HM.out (by omega)).mono ?_
  rintro e w3 ⟨av, ns, cs, rfl, hown, hb⟩
  have SQ0 := Keep.mk (sq_new (w1 := w1) (H := H) hown hb.size)
  have BB : Keep (Below w2.heap.size w2 (w3.alloc (.cells #[.int .u64 H, .slice av ns cs] 27))) := hb.alloc hb.size _
  have hsz : w2.heap.size ≤ w3.heap.size := hb.size
  clear hown hb
  go_wp2_with fail
  refine (add_any w2.heap.size w3.heap.size H seq _ L _ SQ0 HV hH0 hHm hs1 HD).mono ?_
  rintro e w4 ⟨rfl, V', L', hq, ha, hsp⟩
  have B4 := Keep.mk (BB.out.trans (hsp.below hsz))
  have HM := Keep.mk (HM.out.on B4.out)
  have B4 := Keep.mk (nxt B1.out B4.out (Nat.le_refl _))
  have hsq : 0 < seq := by
    have h1 := HD.out
    by_cases hle : seq ≤ H
    · by_cases hm : seq ∈ L
      · exact HV.out.pos _ hm
      · simp [delB, hle, hm] at h1
    · omega
  have HV2 := Keep.mk (ha.vs HV.out hH0 hsq)
  obtain ⟨N, hN⟩ : ∃ N, max H seq = N := ⟨_, rfl⟩
  rw [hN] at hq HV2
  have hN1 : H ≤ N := by omega
  have hN2 : seq ≤ N := by omega
  have hN3 : N ≤ 18446744073709551615 := by omega
  have HN := Keep.mk hN
  have HQ := Keep.mk hq
  have HA := Keep.mk ha
  have hlen2 := HV2.out.length
  obtain ⟨a', c', rfl⟩ : ∃ a' c', V' = .slice a' L'.length c' := by
    obtain ⟨a', c', e, -⟩ := hq.sl
    exact ⟨a', c', e⟩
  clear hq ha hsp hN SQ0 BB B1
  go_upto_if 46 with fail
  go_cut [8] (fun f wc => f = .int .u64 N ∧ w4 = wc)
  case first =>
    by_cases hgt : H < seq
    · go_wp2_with fail
      go_meet
      exact ⟨congrArg (Value.int .u64) (by have := HN.out; omega), rfl⟩
    · go_wp2_with fail
      go_meet
      exact ⟨congrArg (Value.int .u64) (by have := HN.out; omega), rfl⟩
  case rest =>
  obtain ⟨rfl, rfl⟩ := hcut
  have c0 := HQ.out.c0
  have c1 := HQ.out.c1
  have hD2 : Keep (delB N seq L' = true) := by
    have h1 : seq ∉ L' := by
      intro hm
      have h2 := (HA.out.mem seq).1 hm
      unfold addMem at h2
      split at h2
      · exact h2.2 rfl
      · split at h2
        · exact h2
        · obtain ⟨h3 | h3, -⟩ := h2
          · have := HV.out.below _ h3; omega
          · omega
    simp [Keep, delB, hN2, h1]
  go_wp2_with fail
  go_quiet ((go_at_call 26; exact Calls.quiet_of_same (valid_yes N L' _ _ (HQ.out.sl.drew _) (by omega) hN3 HV2.out)))
  go_upto_region 21 with fail
  generalize hW : w4.drewN _ = w5
  have HQ := Keep.mk (hW ▸ HQ.out.drew _)
  have HM := Keep.mk (hW ▸ HM.out.drew _)
  have B4 := Keep.mk (nxt B4.out (hW ▸ below_draws w4 _) (Nat.le_refl _))
  clear hW c0 c1
  have c0 := HQ.out.c0
  have c1 := HQ.out.c1
  go_wp2_with fail
  go_quiet ((go_at_call 9; exact Calls.quiet_of_same (delivered_yes N seq L' _ _ (HQ.out.sl.drew _) (by omega) HV2.out.sorted hD2.out)))
  go_upto_region 23 with fail
  generalize hW : w5.drewN _ = w6
  have HQ := Keep.mk (hW ▸ HQ.out.drew _)
  have HM := Keep.mk (hW ▸ HM.out.drew _)
  have B4 := Keep.mk (nxt B4.out (hW ▸ below_draws w5 _) (Nat.le_refl _))
  clear hW c0 c1
  have c0 := HQ.out.c0
  have c1 := HQ.out.c1
  clear hD2
  go_wp2_with fail
  go_loopg [9] L'.length (fun g iv wr => ∃ k : Nat, k ≤ L'.length ∧ L'.length - k ≤ g ∧ iv = .int .i64 k ∧ w6 = wr)
  case atStart => exact ⟨0, by omega, by omega, rfl, rfl⟩
  case round =>
  obtain ⟨k, hk, hg, rfl, rfl⟩ := hrel
  by_cases hlt : k < L'.length
  · obtain ⟨b, off, rfl, hc⟩ := HQ.out.sl.row (by omega)
    have g0 := hc.out k hlt
    have HX := Keep.mk (mem_getD hlt)
    obtain ⟨x, hx⟩ : ∃ x, L'.getD k 0 = x := ⟨_, rfl⟩
    rw [hx] at g0 HX
    clear hx
    by_cases hxH : x ≤ H
    · go_wp2_with (go_at_call 28; refine (inSorted_yes L x _ _ HM.out (by omega) HV.out.sorted (add_old HA.out HX.out hxH)).mono ?_; rintro e w' ⟨rfl, rfl⟩)
      go_roundg (L'.length - (k + 1))
      case measure => omega
      case rel => exact ⟨k + 1, by omega, by omega, by go_num, rfl⟩
    · go_wp2_with fail
      go_roundg (L'.length - (k + 1))
      case measure => omega
      case rel => exact ⟨k + 1, by omega, by omega, by go_num, rfl⟩
  obtain rfl : k = L'.length := by omega
  clear hlt hg hk
  by_cases hbig : H + 65536 < seq
  · have hl0 : L'.length = 0 := by rw [add_none HA.out hbig]; rfl
    go_wp2_with fail
    go_ret
    exact ⟨rfl, B4.out⟩
  go_upto_region 29 with fail
  go_cut [11] (fun f wc => f = .bool false ∧ w6 = wc)
  case first =>
    by_cases hgt : H < seq
    · go_wp2_with fail
      go_meet
      exact ⟨congrArg Value.bool (decide_eq_false (by omega)), rfl⟩
    · go_wp2_with fail
      go_meet
      exact ⟨rfl, rfl⟩
  case rest =>
  obtain ⟨rfl, rfl⟩ := hcut
  go_wp2_with fail
  go_loopg [12] L.length (fun g iv wr => ∃ k : Nat, k ≤ L.length ∧ L.length - k ≤ g ∧ iv = .int .i64 k ∧ w6 = wr)
  case atStart => exact ⟨0, by omega, by omega, rfl, rfl⟩
  case round =>
  obtain ⟨k, hk, hg, rfl, rfl⟩ := hrel
  by_cases hlt : k < L.length
  · obtain ⟨b, off, rfl, hc⟩ := HM.out.row (by omega)
    have g0 := hc.out k hlt
    have HX := Keep.mk (mem_getD hlt)
    obtain ⟨x, hx⟩ : ∃ x, L.getD k 0 = x := ⟨_, rfl⟩
    rw [hx] at g0 HX
    clear hx
    have hx1 : x < H := HV.out.below x HX.out
    have hx2 : 0 < x := HV.out.pos x HX.out
    cases hne : (x != seq)
    · go_wp2_with fail
      go_roundg (L.length - (k + 1))
      case measure => omega
      case rel => exact ⟨k + 1, by omega, by omega, by go_num, rfl⟩
    · by_cases hnear : N - x < 65536
      · have NE : Keep (x ≠ seq) := by simpa [Keep] using hne
        go_wp2_with (go_at_call 28; refine (inSorted_yes L' x _ _ HQ.out.sl (by omega) HV2.out.sorted (add_kept HA.out HN.out (by omega) HX.out NE.out hnear)).mono ?_; rintro e w' ⟨rfl, rfl⟩)
        go_roundg (L.length - (k + 1))
        case measure => omega
        case rel => exact ⟨k + 1, by omega, by omega, by go_num, rfl⟩
      · go_wp2_with fail
        go_roundg (L.length - (k + 1))
        case measure => omega
        case rel => exact ⟨k + 1, by omega, by omega, by go_num, rfl⟩
  obtain rfl : k = L.length := by omega
  clear hlt hg hk
  by_cases hgt : H < seq
  case neg =>
    go_wp2_with fail
    go_ret
    exact ⟨rfl, B4.out⟩
  go_wp2_with fail
  go_loopg [14] (seq - (H + 1)).toNat (fun g nn wr => ∃ nv : Int, H < nv ∧ nv ≤ seq ∧ (seq - nv).toNat ≤ g ∧ nn = .int .u64 nv ∧ w6 = wr)
  case atStart => exact ⟨H + 1, by omega, by omega, by omega, rfl, rfl⟩
  case round =>
  obtain ⟨nv, hn1, hn2, hg, rfl, rfl⟩ := hrel
  by_cases hlt : nv < seq
  · by_cases hnear : N - nv < 65536
    · go_wp2_with (go_at_call 28; refine (inSorted_yes L' nv _ _ HQ.out.sl (by omega) HV2.out.sorted (add_skipped HA.out HN.out (by omega) hn1 hlt hnear)).mono ?_; rintro e w' ⟨rfl, rfl⟩)
      go_roundg (seq - (nv + 1)).toNat
      case measure => omega
      case rel => exact ⟨nv + 1, by omega, by omega, by omega, rfl, rfl⟩
    · go_wp2_with fail
      go_roundg (seq - (nv + 1)).toNat
      case measure => omega
      case rel => exact ⟨nv + 1, by omega, by omega, by omega, rfl, rfl⟩
  · go_wp2_with fail
    go_ret
    exact ⟨rfl, B4.out⟩

end Go.Proofs.Qxb6600076a
