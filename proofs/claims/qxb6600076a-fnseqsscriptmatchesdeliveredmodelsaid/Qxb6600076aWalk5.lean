import Derived.Test.Qxb6600076aCount
namespace Go.Proofs.Qxb6600076a
open Go.RowKit
set_option linter.unusedVariables false

/-- A slice that leads to a row. -/
def Sw (k : IntKind) (w : World) (v : Value) (l : List Int) : Prop :=
  ∃ b off c, v = .slice (some ⟨b, off, none⟩) l.length c ∧ b < w.heap.size ∧ ∀ i, i < l.length → w.cell? ⟨b, off + i, none⟩ = some (.int k (l.getD i 0))
theorem Sw.sl {k : IntKind} {w : World} {v : Value} {l : List Int} (h : Sw k w v l) : Sl k w v l := by
  obtain ⟨b, off, c, rfl, hb, hc⟩ := h
  exact ⟨_, _, rfl, .inr ⟨b, off, rfl, hb, hc⟩⟩
theorem Sw.on {k : IntKind} {w w' : World} {v : Value} {l : List Int} (h : Sw k w v l) (hb : Below w.heap.size w w') : Sw k w' v l := by
  obtain ⟨b, off, c, rfl, hlt, hc⟩ := h
  exact ⟨b, off, c, rfl, Nat.lt_of_lt_of_le hlt hb.size, fun i hi => (hb.cell (p := ⟨b, off + i, none⟩) hlt).trans (hc i hi)⟩
theorem sw_new (k : IntKind) (w : World) (l : List Int) (t c : Nat) : Sw k (w.alloc (.cells (rowA k l) t)) (.slice (some ⟨w.heap.size, 0, none⟩) l.length c) l :=
  ⟨w.heap.size, 0, c, rfl, by simp, fun i hi => by
    have := rowA_get k l i hi
    simp only [Nat.zero_add]
    simpa using this⟩
theorem below_draws (w : World) (q : Nat) : Below w.heap.size w (w.drewN q) := ⟨rfl, rfl, rfl, Nat.le_refl _, fun _ _ => rfl⟩
theorem nxt {B : Nat} {w w1 w2 : World} (h : Below B w w1) (h2 : Below w1.heap.size w1 w2) (hB : B ≤ w.heap.size) : Below B w w2 := h.trans (h2.mono (Nat.le_trans hB h.size))

theorem ret_same (M : Nat) : Ending.returned (.bool (decide (M ≤ 1) == decide ((M : Int) ≤ 1))) = .returned (.bool true) := by
  have : decide (M ≤ 1) = decide ((M : Int) ≤ 1) := decide_eq_decide.2 (by omega)
  rw [this]; simp

theorem sorted_v (l : List Int) (v : Value) (w : World) (h : Sl .u32 w v l) (hn : l.length ≤ 4096) :
    Calls Try.prog 17 #[v] w fun e w' => ∃ (P : List Int) (v' : Value), P.Perm l ∧ P.Pairwise (· ≤ ·) ∧ e = .returned v' ∧ Sw .u32 w' v' P ∧ Below w.heap.size w w' :=
  (sorted_any l v w h hn).mono fun e w' ⟨P, h1, h2, he, hw⟩ => ⟨P, _, h1, h2, he, by subst hw; exact sw_new .u32 w P 36 _, by subst hw; exact (Below.refl _ _).alloc (Nat.le_refl _) _⟩
theorem repeat_v (P : List Int) (v : Value) (w : World) (h : Sw .u32 w v P) (hn : P.length ≤ 4096) (hs : P.Pairwise (· ≤ ·)) :
    Calls Try.prog 18 #[v] w fun e w' => RepOut P e ∧ Below w.heap.size w w' := by
  obtain ⟨b, off, c, rfl, hb, hc⟩ := h
  exact (repeat_some P b off c w hn hs hc).mono fun e w' ⟨he, q, hw⟩ => ⟨he, by subst hw; exact below_draws w q⟩
theorem count_v (p q : List Int) (v1 v2 : Value) (w : World) (h1 : Sw .u32 w v1 p) (h2 : Sw .u32 w v2 q) (hn1 : p.length ≤ 4096) (hn2 : q.length ≤ 4096) (hs1 : p.Pairwise (· < ·)) (hs2 : q.Pairwise (· < ·)) :
    Calls Try.prog 21 #[v1, v2] w fun e w' => e = .returned (.int .i64 ((miss p q + miss q p : Nat) : Int)) ∧ Below w.heap.size w w' := by
  obtain ⟨b1, off1, c1, rfl, hb1, hc1⟩ := h1
  obtain ⟨b2, off2, c2, rfl, hb2, hc2⟩ := h2
  exact (count_some p q b1 off1 c1 b2 off2 c2 w hn1 hn2 hs1 hs2 hc1 hc2).mono fun e w' ⟨he, d, hw⟩ => ⟨he, by subst hw; exact below_draws w d⟩

theorem bytes16_no (a1 a2 : Option Addr) (n1 c1 n2 c2 : Nat) (w : World) (h : 1048576 < n1 + n2) :
    Calls Try.prog 16 #[.slice a1 n1 c1, .slice a2 n2 c2] w fun e w' => e = .returned (.bool false) ∧ w' = w := by
  by_cases h1 : (1048576 : Int) < n1
  · go_enter Try.func16, Try.ntmps16
    go_wp2
    go_ret
    exact ⟨rfl, rfl⟩
  by_cases h2 : (1048576 : Int) < n2
  · go_enter Try.func16, Try.ntmps16
    go_wp2
    go_ret
    exact ⟨rfl, rfl⟩
  go_enter Try.func16, Try.ntmps16
  go_wp2
  go_ret
  exact ⟨rfl, rfl⟩
theorem bytes16_yes (a1 a2 : Option Addr) (n1 c1 n2 c2 : Nat) (w : World) (h : n1 + n2 ≤ 1048576) :
    Calls Try.prog 16 #[.slice a1 n1 c1, .slice a2 n2 c2] w fun e w' => e = .returned (.bool true) ∧ w' = w := by
  go_enter Try.func16, Try.ntmps16
  go_wp2
  go_ret
  exact ⟨rfl, rfl⟩

set_option maxHeartbeats 1000000 in
set_option maxRecDepth 100000 in
theorem walk_merge (l1 l2 : List Int) (a1 a2 : Option Addr) (c1 c2 : Nat) (w : World) (h1 : Keep (Sl .u32 w (.slice a1 l1.length c1) l1)) (h2 : Keep (Sl .u32 w (.slice a2 l2.length c2) l2)) :
    Calls Try.prog 5 #[.slice a1 l1.length c1, .slice a2 l2.length c2] w fun e w' => e = .returned (.bool true) ∧ Below w.heap.size w w' := by
  by_cases hsum : l1.length + l2.length ≤ 1048576
  case neg =>
    go_enter Try.func5, Try.ntmps5
    go_wp2_with (go_at_call 16; refine (bytes16_no _ _ _ _ _ _ _ (by omega)).mono ?_; rintro e w' ⟨rfl, rfl⟩)
    go_ret
    exact ⟨rfl, Below.refl _ _⟩
  by_cases hn1 : l1.length ≤ 4096
  case neg =>
    go_enter Try.func5, Try.ntmps5
    go_wp2_with (go_at_call 16; refine (bytes16_yes _ _ _ _ _ _ _ hsum).mono ?_; rintro e w' ⟨rfl, rfl⟩)
    go_ret
    exact ⟨rfl, Below.refl _ _⟩
  by_cases hn2 : l2.length ≤ 4096
  case neg =>
    go_enter Try.func5, Try.ntmps5
    go_wp2_with (go_at_call 16; refine (bytes16_yes _ _ _ _ _ _ _ hsum).mono ?_; rintro e w' ⟨rfl, rfl⟩)
    go_ret
    exact ⟨rfl, Below.refl _ _⟩
  go_enter Try.func5, Try.ntmps5
  go_wp2_with (go_at_call 16; refine (bytes16_yes _ _ _ _ _ _ _ hsum).mono ?_; rintro e w' ⟨rfl, rfl⟩)
  refine (sorted_v l1 _ _ h1.out hn1).mono ?_
  rintro e w1 ⟨P, vp, hp1, hp2, rfl, hSp, hb1⟩
  have HP := Keep.mk (And.intro hp1 (And.intro hp2 hSp))
  have B1 := Keep.mk hb1
  have h1 := Keep.mk (h1.out.on hb1)
  have h2 := Keep.mk (h2.out.on hb1)
  clear hp1 hp2 hSp hb1
  go_wp2_with fail
  refine (sorted_v l2 _ _ h2.out hn2).mono ?_
  rintro e w2 ⟨Q, vq, hq1, hq2, rfl, hSq, hb2⟩
  have HQ := Keep.mk (And.intro hq1 (And.intro hq2 hSq))
  have B2 := Keep.mk (nxt B1.out hb2 (Nat.le_refl _))
  have SP := Keep.mk (HP.out.2.2.on hb2)
  have h1 := Keep.mk (h1.out.on hb2)
  have h2 := Keep.mk (h2.out.on hb2)
  have lp : P.length ≤ 4096 := by rw [HP.out.1.length_eq]; exact hn1
  have lq : Q.length ≤ 4096 := by rw [HQ.out.1.length_eq]; exact hn2
  clear hq1 hq2 hSq hb2
  go_wp2_with fail
  refine (repeat_v P _ _ SP.out lp HP.out.2.1).mono ?_
  rintro e w3 ⟨⟨r, rfl, hr⟩, hb3⟩
  have B3 := Keep.mk (nxt B2.out hb3 (Nat.le_refl _))
  have SP := Keep.mk (SP.out.on hb3)
  have SQ := Keep.mk (HQ.out.2.2.on hb3)
  have h1 := Keep.mk (h1.out.on hb3)
  have h2 := Keep.mk (h2.out.on hb3)
  clear hb3
  cases r
  case true =>
    clear hr
    go_wp2_with fail
    go_ret
    exact ⟨rfl, B3.out⟩
  have SSP := Keep.mk (hr rfl)
  clear hr
  go_wp2_with fail
  refine (repeat_v Q _ _ SQ.out lq HQ.out.2.1).mono ?_
  rintro e w4 ⟨⟨r, rfl, hr⟩, hb4⟩
  have B4 := Keep.mk (nxt B3.out hb4 (Nat.le_refl _))
  have SP := Keep.mk (SP.out.on hb4)
  have SQ := Keep.mk (SQ.out.on hb4)
  have h1 := Keep.mk (h1.out.on hb4)
  have h2 := Keep.mk (h2.out.on hb4)
  clear hb4
  cases r
  case true =>
    clear hr
    go_wp2_with fail
    go_ret
    exact ⟨rfl, B4.out⟩
  have SSQ := Keep.mk (hr rfl)
  clear hr
  go_wp2_with fail
  refine (ids_any l1 _ _ h1.out (by omega)).mono ?_
  rintro e w5 ⟨va, rfl, hA, hb5⟩
  have B5 := Keep.mk (nxt B4.out hb5 (Nat.le_refl _))
  have SP := Keep.mk (SP.out.on hb5)
  have SQ := Keep.mk (SQ.out.on hb5)
  have h2 := Keep.mk (h2.out.on hb5)
  have HA := Keep.mk hA
  clear hb5 hA
  go_wp2_with fail
  refine (ids_any l2 _ _ h2.out (by omega)).mono ?_
  rintro e w6 ⟨vb, rfl, hB, hb6⟩
  have B6 := Keep.mk (nxt B5.out hb6 (Nat.le_refl _))
  have SP := Keep.mk (SP.out.on hb6)
  have SQ := Keep.mk (SQ.out.on hb6)
  have HA := Keep.mk (HA.out.on hb6)
  have HB := Keep.mk hB
  clear hb6 hB
  go_wp2_with fail
  refine (apart_any l1 l2 _ _ _ HA.out HB.out (by omega) (by omega)).mono ?_
  rintro e w7 ⟨rfl, rfl⟩
  go_wp2_with fail
  refine (count_v P Q _ _ _ SP.out SQ.out lp lq SSP.out SSQ.out).mono ?_
  rintro e w8 ⟨rfl, hb8⟩
  have B8 := Keep.mk (nxt B6.out hb8 (Nat.le_refl _))
  have e1 : miss P Q = miss l1 l2 := miss_perm HP.out.1 HQ.out.1
  have e2 : miss Q P = miss l2 l1 := miss_perm HQ.out.1 HP.out.1
  obtain ⟨M, hM⟩ : ∃ M, miss l1 l2 + miss l2 l1 = M := ⟨_, rfl⟩
  rw [e1, e2, hM]
  clear e1 e2 hM hb8
  go_wp2_with fail
  go_ret
  exact ⟨ret_same M, B8.out⟩

end Go.Proofs.Qxb6600076a
