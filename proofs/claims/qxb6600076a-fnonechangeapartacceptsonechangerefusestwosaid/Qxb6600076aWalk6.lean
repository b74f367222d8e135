import Derived.Test.Qxb6600076aHas
import Derived.Test.Qxb6600076aPlain6
namespace Go.Proofs.Qxb6600076a
open Go.RowKit
set_option linter.unusedVariables false

theorem make_room (n : Nat) (hn : 0 < n) (h : n ≤ 4096) (w : World) : (Instr.makeSlice 53 (.int .i64 0) (.int .i64 ((n : Int) - 1))).run Try.prog w = .ok (.slice (some ⟨w.heap.size, 0, none⟩) 0 (n - 1)) (w.alloc (.cells (rowA .u32 (List.replicate (n - 1) 0)) 36)) := by
  have e : ((n : Int) - 1) = ((n - 1 : Nat) : Int) := by omega
  rw [← rowA_made, e]
  exact run_make_room 53 36 (.int .u32 0) 4 Try.underlying53 info36 rfl .i64 .i64 (n - 1) (by omega) (by omega) w
theorem type36 : ∃ i0, Try.prog.info? 36 = some i0 ∧ i0.zero = some (.int .u32 0) ∧ i0.size = 1 ∧ i0.bytes = 4 := by
  obtain ⟨i, hi, h⟩ := Option.map_eq_some_iff.1 info36
  simp only [Prod.mk.injEq] at h
  exact ⟨i, hi, h⟩
theorem sl_of_owns {k : IntKind} {w : World} {base : Nat} {e : TypeId} {v : Value} {l : List Int} (h : w.ownsRow base e 1 v l.length (l.map (Value.int k))) : Sl k w v l := by
  obtain ⟨-, h⟩ := h
  rcases h with ⟨rfl, h0⟩ | ⟨g, cap, cur, rfl, -, hh, -, -, -, ht⟩
  · have : l = [] := List.length_eq_zero_iff.1 h0
    subst this
    exact ⟨none, 0, rfl, .inl rfl⟩
  · refine ⟨_, _, rfl, .inr ⟨g, 0, rfl, ?_, fun i hi => ?_⟩⟩
    · rcases Nat.lt_or_ge g w.heap.size with h1 | h1
      · exact h1
      · rw [Array.getElem?_eq_none h1] at hh; cases hh
    · have e1 : cur[i]? = some (.int k (l.getD i 0)) := by
        have : (cur.toList.take (l.length * 1))[i]? = (l.map (Value.int k))[i]? := by rw [ht]
        rw [List.getElem?_take, if_pos (by omega)] at this
        rw [← Array.getElem?_toList, this]
        simp [hi]
      rw [Nat.zero_add]
      simp only [World.cell?, hh]
      simpa using e1
theorem idx_of (k : Int) (n : Nat) (h0 : 0 ≤ k) (hn : 0 < n) (hn2 : n ≤ 4096) : ∃ j : Nat, wrap64 (k % (n : Int)) = (j : Int) ∧ j < n := by
  have h1 := Int.emod_nonneg k (b := (n : Int)) (by omega)
  have h2 := Int.emod_lt_of_pos k (b := (n : Int)) (by omega)
  generalize k % (n : Int) = r at *
  obtain ⟨j, rfl⟩ := Int.eq_ofNat_of_zero_le h1
  refine ⟨j, ?_, by omega⟩
  unfold wrap64
  omega

set_option maxHeartbeats 4000000 in
set_option maxRecDepth 100000 in
theorem walk_two (l : List Int) (a0 : Option Addr) (c : Nat) (x y k : Int) (w : World) (h : Keep (Sl .u32 w (.slice a0 l.length c) l)) (hk0 : 0 ≤ k) (hk1 : k ≤ 4294967295) :
    Calls Try.prog 6 #[.slice a0 l.length c, .int .u32 x, .int .u32 y, .int .u32 k] w fun e w' => e = .returned (.bool true) ∧ Below w.heap.size w w' := by
  by_cases hsum : l.length ≤ 1048576
  case neg =>
    go_enter Try.func6, Try.ntmps6
    go_wp2_with (go_at_call 22; refine (bytes22_no _ _ _ _ _ _ _ (by omega)).mono ?_; rintro e w' ⟨rfl, rfl⟩)
    go_ret
    exact ⟨rfl, Below.refl _ _⟩
  by_cases hn : l.length ≤ 4096
  case neg =>
    go_enter Try.func6, Try.ntmps6
    go_wp2_with (go_at_call 22; refine (bytes22_yes _ _ _ _ _ _ _ hsum).mono ?_; rintro e w' ⟨rfl, rfl⟩)
    go_ret
    exact ⟨rfl, Below.refl _ _⟩
  clear hsum
  go_enter Try.func6, Try.ntmps6
  go_wp2_with (go_at_call 22; refine (bytes22_yes _ _ _ _ _ _ _ (by omega)).mono ?_; rintro e w' ⟨rfl, rfl⟩)
  refine (sorted_v l _ _ h.out hn).mono ?_
  rintro e w1 ⟨P, vp, hp1, hp2, rfl, hSp, hb1⟩
  have HP := Keep.mk (And.intro hp1 (And.intro hp2 hSp))
  have B1 := Keep.mk hb1
  have h := Keep.mk (h.out.on hb1)
  have lp : P.length ≤ 4096 := by rw [hp1.length_eq]; exact hn
  clear hp1 hp2 hSp hb1
  go_wp2_with fail
  refine (repeat_v P _ _ HP.out.2.2 lp HP.out.2.1).mono ?_
  rintro e w2 ⟨⟨r, rfl, hr⟩, hb2⟩
  have B2 := Keep.mk (nxt B1.out hb2 (Nat.le_refl _))
  have h := Keep.mk (h.out.on hb2)
  clear hb2
  cases r
  case true =>
    clear hr
    go_wp2_with fail
    go_ret
    exact ⟨rfl, B2.out⟩
  have ND : Keep l.Nodup := HP.out.1.nodup_iff.1 (strict_nodup (hr rfl))
  clear hr HP B1 lp
  cases hxy : (x == y)
  case true =>
    go_wp2_with fail
    go_ret
    exact ⟨rfl, B2.out⟩
  by_cases hxl : x ∈ l
  · have hd : decide (x ∈ l) = true := decide_eq_true hxl
    clear hxl
    go_wp2_with (go_at_call 23; refine (has_any l _ _ _ h.out (by omega)).mono ?_; rintro e w' ⟨rfl, rfl⟩)
    go_ret
    exact ⟨rfl, B2.out⟩
  by_cases hyl : y ∈ l
  · have hd : decide (x ∈ l) = false := decide_eq_false hxl
    have hd2 : decide (y ∈ l) = true := decide_eq_true hyl
    clear hxl hyl
    go_wp2_with (go_at_call 23; refine (has_any l _ _ _ h.out (by omega)).mono ?_; rintro e w' ⟨rfl, rfl⟩)
    go_ret
    exact ⟨rfl, B2.out⟩
  have HX := Keep.mk hxl
  have HY := Keep.mk hyl
  have hd : decide (x ∈ l) = false := decide_eq_false hxl
  have hd2 : decide (y ∈ l) = false := decide_eq_false hyl
  clear hxl hyl
  go_wp2_with (go_at_call 23; refine (has_any l _ _ _ h.out (by omega)).mono ?_; rintro e w' ⟨rfl, rfl⟩)
  clear hd hd2
  refine (ids_any l _ _ h.out (by omega)).mono ?_
  rintro e w3 ⟨vA, rfl, hA, hb3⟩
  have B3 := Keep.mk (nxt B2.out hb3 (Nat.le_refl _))
  have h := Keep.mk (h.out.on hb3)
  have HA := Keep.mk hA
  clear hb3 hA
  go_wp2_with fail
  refine (append_any l x _ _ h.out (by omega)).mono ?_
  rintro e w4 ⟨vx, rfl, hx4, hb4⟩
  have B4 := Keep.mk (nxt B3.out hb4 (Nat.le_refl _))
  have h := Keep.mk (h.out.on hb4)
  have HA := Keep.mk (HA.out.on hb4)
  have HVX := Keep.mk hx4
  clear hb4 hx4
  go_wp2_with fail
  refine (append_any (l ++ [x]) y _ _ HVX.out (by simp; omega)).mono ?_
  rintro e w5 ⟨vxy, rfl, hx5, hb5⟩
  have B5 := Keep.mk (nxt B4.out hb5 (Nat.le_refl _))
  have h := Keep.mk (h.out.on hb5)
  have HA := Keep.mk (HA.out.on hb5)
  have HVX := Keep.mk (HVX.out.on hb5)
  have HVXY := Keep.mk hx5
  clear hb5 hx5
  go_wp2_with fail
  refine (ids_any (l ++ [x]) _ _ HVX.out (by simp; omega)).mono ?_
  rintro e w6 ⟨vWX, rfl, hWX, hb6⟩
  have B6 := Keep.mk (nxt B5.out hb6 (Nat.le_refl _))
  have h := Keep.mk (h.out.on hb6)
  have HA := Keep.mk (HA.out.on hb6)
  have HVXY := Keep.mk (HVXY.out.on hb6)
  have HWX := Keep.mk hWX
  clear hb6 hWX HVX
  go_wp2_with fail
  refine (ids_any (l ++ [x] ++ [y]) _ _ HVXY.out (by simp; omega)).mono ?_
  rintro e w7 ⟨vWXY, rfl, hWXY, hb7⟩
  have B7 := Keep.mk (nxt B6.out hb7 (Nat.le_refl _))
  have h := Keep.mk (h.out.on hb7)
  have HA := Keep.mk (HA.out.on hb7)
  have HWX := Keep.mk (HWX.out.on hb7)
  have HWXY := Keep.mk hWXY
  clear hb7 hWXY HVXY B2 B3 B4 B5 B6
  go_wp2_with fail
  refine (apart_any l l _ _ _ HA.out HA.out (by omega) (by omega)).mono ?_
  rintro e w8 ⟨rfl, rfl⟩
  rw [far_self]
  go_wp2_with fail
  refine (apart_any l (l ++ [x]) _ _ _ HA.out HWX.out (by omega) (by simp; omega)).mono ?_
  rintro e w9 ⟨rfl, rfl⟩
  rw [far_add l x HX.out]
  go_wp2_with fail
  refine (apart_any (l ++ [x]) l _ _ _ HWX.out HA.out (by simp; omega) (by omega)).mono ?_
  rintro e w10 ⟨rfl, rfl⟩
  rw [far_add' l x HX.out]
  go_wp2_with fail
  refine (apart_any l (l ++ [x] ++ [y]) _ _ _ HA.out HWXY.out (by omega) (by simp; omega)).mono ?_
  rintro e w11 ⟨rfl, rfl⟩
  rw [far_two l x y HX.out HY.out]
  go_wp2_with fail
  refine (apart_any (l ++ [x] ++ [y]) l _ _ _ HWXY.out HA.out (by simp; omega) (by omega)).mono ?_
  rintro e w12 ⟨rfl, rfl⟩
  rw [far_two' l x y HX.out HY.out]
  by_cases hl0 : l.length = 0
  · go_wp2_with fail
    go_ret
    exact ⟨rfl, B7.out⟩
  obtain ⟨b, off, rfl, hb, hc⟩ : ∃ b off, a0 = some ⟨b, off, none⟩ ∧ b < w12.heap.size ∧ Keep (∀ i, i < l.length → w12.cell? ⟨b, off + i, none⟩ = some (.int .u32 (l.getD i 0))) := by
    obtain ⟨a', c', e, h'⟩ := h.out
    obtain ⟨rfl, -, rfl⟩ := Value.slice.inj e
    rcases h' with e | ⟨b, off, rfl, hb, hc⟩
    · exact absurd (by rw [e]; rfl) hl0
    · exact ⟨b, off, rfl, hb, hc⟩
  have hl1 : 0 < l.length := by omega
  have hl1b : decide (0 < l.length) = true := decide_eq_true hl1
  go_upto_region 22 with fail
  obtain ⟨j, hJ, hjl⟩ := idx_of k l.length hk0 (by omega) (by omega)
  rw [hJ]
  clear hJ
  have hmk := make53 l.length (by omega)
  have hset := rowA_set .u32
  go_wp2_with fail
  go_loopg [16] l.length (fun g i wr => ∃ q : Nat, q ≤ l.length ∧ l.length - q ≤ g ∧ i = .int .i64 q ∧ wr = w12.alloc (.cells (rowA .u32 (cp l l.length q)) 36))
  case atStart => exact ⟨0, by omega, by omega, rfl, by rw [cp_zero]⟩
  case round =>
  obtain ⟨q, hq, hg, rfl, rfl⟩ := hrel
  by_cases hlt : q < l.length
  · obtain ⟨Y, hY⟩ : ∃ Y, cp l l.length q = Y := ⟨_, rfl⟩
    have hYl : Y.length = l.length := by rw [← hY]; exact cp_length _ _ _ (by omega) (by omega)
    have hst := cp_step l l.length q hlt hlt
    rw [hY] at hst ⊢
    have g0 : (w12.alloc (.cells (rowA .u32 Y) 36)).cell? ⟨b, off + q, none⟩ = some (.int .u32 (l.getD q 0)) := cell_old hb (hc.out q hlt)
    have g1 := rowA_get .u32 Y q (by omega)
    obtain ⟨u0, hu0⟩ : ∃ u, l.getD q 0 = u := ⟨_, rfl⟩
    obtain ⟨u1, hu1⟩ : ∃ u, Y.getD q 0 = u := ⟨_, rfl⟩
    rw [hu0] at g0 hst
    rw [hu1] at g1
    have HST := Keep.mk hst
    clear hu0 hu1 hY hYl hst
    go_wp2_with fail
    go_roundg (l.length - (q + 1))
    case measure => omega
    case rel => exact ⟨q + 1, by omega, by omega, by go_num, by rw [HST.out]⟩
  obtain rfl : q = l.length := by omega
  rw [cp_all]
  have g1 := rowA_get .u32 l j hjl
  obtain ⟨u1, hu1⟩ : ∃ u, l.getD j 0 = u := ⟨_, rfl⟩
  rw [hu1] at g1
  clear hu1 hlt
  go_upto_region 28 with fail
  obtain ⟨W, hW, HR, hbW⟩ : ∃ W, w12.alloc (.cells (rowA .u32 (l.set j x)) 36) = W ∧ Sl .u32 W (.slice (some ⟨w12.heap.size, 0, none⟩) l.length l.length) (l.set j x) ∧ Below w12.heap.size w12 W :=
    ⟨_, rfl, by simpa using sl_new .u32 w12 (l.set j x) 36 l.length, (Below.refl _ _).alloc (Nat.le_refl _) _⟩
  obtain ⟨vR, hvR⟩ : ∃ vR, Value.slice (some ⟨w12.heap.size, 0, none⟩) l.length l.length = vR := ⟨_, rfl⟩
  rw [hvR] at HR
  rw [hW, hvR]
  have HRR := Keep.mk HR
  have HA := Keep.mk (HA.out.on hbW)
  have HWX := Keep.mk (HWX.out.on hbW)
  have B8 := Keep.mk (nxt B7.out hbW (Nat.le_refl _))
  have hbb : b < W.heap.size := Nat.lt_of_lt_of_le hb hbW.size
  have hcW : Keep (∀ i, i < l.length → W.cell? ⟨b, off + i, none⟩ = some (.int .u32 (l.getD i 0))) := fun i hi => (hbW.cell (p := ⟨b, off + i, none⟩) hb).trans (hc.out i hi)
  clear hW hvR HR hbW B7 hc hb h HWXY g1 hset hmk hq hg
  have hmk2 := make_room l.length (by omega) (by omega)
  obtain ⟨i0, hi, hz0, hz1, hz2⟩ := type36
  go_wp2_with fail
  go_loopg [17, 18] l.length (fun g rv i wr => ∃ q : Nat, q ≤ l.length ∧ l.length - q ≤ g ∧ i = .int .i64 q ∧ Keep (wr.ownsRow W.heap.size 36 1 rv (kept l j q).length ((kept l j q).map (Value.int .u32))) ∧ Keep (Below W.heap.size W wr))
  case atStart => exact ⟨0, by omega, by omega, rfl, by
    rw [kept_zero]
    exact World.ownsRow_made W _ _ (Nat.le_refl _) (by unfold maxLen; omega) (by simp [rowA]), (Below.refl _ _).alloc (Nat.le_refl _) _⟩
  case round =>
  obtain ⟨q, hq, hg, rfl, hown, hnx⟩ := hrel
  by_cases hlt : q < l.length
  · have g0 : wr.cell? ⟨b, off + q, none⟩ = some (.int .u32 (l.getD q 0)) := (hnx.out.cell (p := ⟨b, off + q, none⟩) hbb).trans (hcW.out q hlt)
    obtain ⟨u0, hu0⟩ : ∃ u, l.getD q 0 = u := ⟨_, rfl⟩
    rw [hu0] at g0
    have HU := Keep.mk hu0
    clear hu0
    by_cases hqj : q = j
    · subst hqj
      go_wp2_with fail
      go_roundg (l.length - (q + 1))
      case measure => omega
      case rel => exact ⟨q + 1, by omega, by omega, by go_num, by rw [kept_skip l q hlt]; exact hown, hnx⟩
    · have hne : ((q : Int) != (j : Int)) = true := by rw [bne_iff_ne]; omega
      have hkl := kept_length l j q
      have HKS := Keep.mk (kept_step l j q hlt hqj)
      obtain ⟨K0, hK0⟩ : ∃ K0, kept l j q = K0 := ⟨_, rfl⟩
      rw [hK0] at hown hkl HKS
      have hownA := hown.out.alloc (.cells #[.int .u32 u0] 36)
      have HOA := Keep.mk hownA
      clear hK0 hqj hownA hown
      go_wp2_with (at_builtin; refine wpList_append_own _ rfl _ _ 53 rfl W.heap.size 36 i0 (.int .u32 0) 1 4 Try.underlying53 hi hz0 hz1 hz2 rfl (by decide) _ _ _ rfl HOA.out ⟨wr.heap.size, 0, none⟩ 1 1 [.int .u32 u0] rfl rfl ?c1 ?c2 ?c3 ?c4 ?c5 ?_)
      case c1 =>
        intro j u hj
        match j, hj with
        | 0, hj => simp at hj; subst hj; simp [Addr.add]
      case c2 => intro u hu; simp at hu; subst hu; rfl
      case c3 => unfold maxLen; omega
      case c4 => omega
      case c5 => have := hnx.out.size; simp; omega
      intro v' w1 hown' hgrow _
      have HO := Keep.mk hown'
      have HN : Keep (Below W.heap.size W w1) := (hnx.out.alloc hnx.out.size _).grown hgrow (by have := hnx.out.size; simp; omega) (fun k e => (HOA.out.lt k e).1)
      clear hown' hgrow
      go_wp2_with fail
      go_roundg (l.length - (q + 1))
      case measure => omega
      case rel => exact ⟨q + 1, by omega, by omega, by go_num, by rw [HKS.out, HU.out]; exact Keep.mk (by simpa using HO.out), HN⟩
  obtain rfl : q = l.length := by omega
  rw [kept_all] at hown
  have HRM := Keep.mk (sl_of_owns hown.out)
  have hel : (l.eraseIdx j).length ≤ 4096 := Nat.le_trans (List.length_eraseIdx_le _ _) hn
  have HA := Keep.mk (HA.out.on hnx.out)
  have HWX := Keep.mk (HWX.out.on hnx.out)
  have HRR := Keep.mk (HRR.out.on hnx.out)
  have B9 := Keep.mk (nxt B8.out hnx.out (Nat.le_refl _))
  clear hown hnx hmk2 hcW B8 hlt hq hg
  go_wp2_with fail
  refine (ids_any (l.eraseIdx j) _ _ HRM.out (by omega)).mono ?_
  rintro e w13 ⟨vRm, rfl, hRm, hb13⟩
  have B10 := Keep.mk (nxt B9.out hb13 (Nat.le_refl _))
  have HA := Keep.mk (HA.out.on hb13)
  have HWX := Keep.mk (HWX.out.on hb13)
  have HRR := Keep.mk (HRR.out.on hb13)
  have HRm := Keep.mk hRm
  clear hb13 hRm HRM B9
  go_wp2_with fail
  refine (ids_any (l.set j x) _ _ HRR.out (by simp; omega)).mono ?_
  rintro e w14 ⟨vRp, rfl, hRp, hb14⟩
  have B11 := Keep.mk (nxt B10.out hb14 (Nat.le_refl _))
  have HA := Keep.mk (HA.out.on hb14)
  have HWX := Keep.mk (HWX.out.on hb14)
  have HRm := Keep.mk (HRm.out.on hb14)
  have HRp := Keep.mk hRp
  clear hb14 hRp HRR B10
  go_wp2_with fail
  refine (apart_any l (l.set j x) _ _ _ HA.out HRp.out (by omega) (by simp; omega)).mono ?_
  rintro e w15 ⟨rfl, rfl⟩
  rw [far_set l j hjl x ND.out HX.out]
  go_wp2_with fail
  refine (apart_any l (l.eraseIdx j) _ _ _ HA.out HRm.out (by omega) (by omega)).mono ?_
  rintro e w16 ⟨rfl, rfl⟩
  rw [far_erase l j hjl ND.out]
  go_wp2_with fail
  refine (apart_any (l.eraseIdx j) l _ _ _ HRm.out HA.out (by omega) (by omega)).mono ?_
  rintro e w17 ⟨rfl, rfl⟩
  rw [far_erase' l j hjl ND.out]
  go_wp2_with fail
  refine (apart_any (l.eraseIdx j) (l ++ [x]) _ _ _ HRm.out HWX.out (by omega) (by simp; omega)).mono ?_
  rintro e w18 ⟨rfl, rfl⟩
  rw [far_swap l j hjl x ND.out HX.out]
  go_wp2_with fail
  refine (apart_any (l ++ [x]) (l.eraseIdx j) _ _ _ HWX.out HRm.out (by simp; omega) (by omega)).mono ?_
  rintro e w19 ⟨rfl, rfl⟩
  rw [far_swap' l j hjl x ND.out HX.out]
  go_wp2_with fail
  go_ret
  exact ⟨rfl, B11.out⟩

end Go.Proofs.Qxb6600076a
