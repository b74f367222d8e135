import Derived.Test.Qxb6001520aDoorWalk1
namespace Go.Proofs.Qxb6001520aDoor
open Go.RowKit

theorem bytes7_big (s : ByteArray) (exp : Int) (w : World) (h : 1048576 < s.size) :
    Calls Tryd.prog 7 #[.string s, .int .i64 exp] w fun e w' => e = .returned (.bool false) ∧ w' = w := by
  go_enter Tryd.func7, Tryd.ntmps7
  go_wp2
  go_ret
  exact ⟨rfl, rfl⟩
theorem bytes7_small (s : ByteArray) (exp : Int) (w : World) (h : s.size ≤ 1048576) :
    Calls Tryd.prog 7 #[.string s, .int .i64 exp] w fun e w' => e = .returned (.bool true) ∧ w' = w := by
  go_enter Tryd.func7, Tryd.ntmps7
  go_wp2
  go_ret
  exact ⟨rfl, rfl⟩

theorem mag_head45 {m : List UInt8} (hm : Mag m) : m.head? ≠ some 45 := by
  intro h
  obtain ⟨ne, dig, -, -⟩ := hm
  match m, ne with
  | c :: r, _ =>
    simp at h
    subst h
    exact absurd (dig 45 (by simp)) (by decide)
theorem at_zero (r : ByteArray) (c : UInt8) (t : List UInt8) (e : r.data.toList = c :: t) (h : 0 < r.size) : r[0] = c := by
  have e0 : r.data.toList[0]? = some r[0] := List.getElem?_eq_getElem (by simpa using h)
  rw [e] at e0
  simpa using e0.symm
/-- What the law asks of a text: of a positive amount. -/
theorem text_pos (m : List UInt8) (exp : Int) (hm : Mag m) : ∃ r : ByteArray, (⟨(sgn false ++ body m exp).toArray⟩ : ByteArray) = r ∧ 0 < r.size ∧ (r.toList == [48]) = false ∧ ∀ h : 0 < r.size, ((r[0].toNat : Int) == 45) = false := by
  obtain ⟨c, t, hb, hc, h48⟩ := body_head exp hm
  refine ⟨_, rfl, ?_, ?_, ?_⟩
  · rw [hb]; show 0 < (sgn false ++ c :: t).length; simp; omega
  · rw [ByteArray.toList_eq, hb]
    simp [sgn]
    intro h1 h2
    exact h48 h1 h2
  · intro h
    rw [at_zero _ c t (by rw [hb]; simp [sgn]) h]
    simp [isDig] at hc
    simp
    omega
/-- .. and of a negative one. -/
theorem text_neg (m : List UInt8) (exp : Int) (hm : Mag m) : ∃ r : ByteArray, (⟨(sgn true ++ body m exp).toArray⟩ : ByteArray) = r ∧ 0 < r.size ∧ (r.toList == [48]) = false ∧ ∀ h : 0 < r.size, ((r[0].toNat : Int) == 45) = true := by
  obtain ⟨c, t, hb, hc, h48⟩ := body_head exp hm
  refine ⟨_, rfl, ?_, ?_, ?_⟩
  · rw [hb]; show 0 < (sgn true ++ c :: t).length; simp; omega
  · rw [ByteArray.toList_eq, hb]
    simp [sgn]
  · intro h
    rw [at_zero _ 45 (c :: t) (by rw [hb]; simp [sgn]) h]
    rfl

set_option maxHeartbeats 1000000 in
set_option maxRecDepth 100000 in
theorem walk_sign (s : ByteArray) (exp : Int) (w : World) (htab : Keep (Lib.TabIs Tryd.prog w Tryd.powName .u64 Lib.pow10Tab)) :
    Calls Tryd.prog 3 #[.string s, .int .i64 exp] w fun e w' => e = .returned (.bool true) ∧ Below w.heap.size w w' := by
  by_cases hs : s.size ≤ 1048576
  case neg =>
    go_enter Tryd.func3, Tryd.ntmps3
    go_wp2_with (go_at_call 7; refine (bytes7_big _ _ _ (by omega)).mono ?_; rintro e w' ⟨rfl, rfl⟩)
    go_ret
    exact ⟨rfl, Below.refl _ _⟩
  by_cases he0 : exp < -1073741824
  · go_enter Tryd.func3, Tryd.ntmps3
    go_wp2_with (go_at_call 7; refine (bytes7_small _ _ _ hs).mono ?_; rintro e w' ⟨rfl, rfl⟩)
    go_ret
    exact ⟨rfl, Below.refl _ _⟩
  by_cases he1 : 1073741824 < exp
  · go_enter Tryd.func3, Tryd.ntmps3
    go_wp2_with (go_at_call 7; refine (bytes7_small _ _ _ hs).mono ?_; rintro e w' ⟨rfl, rfl⟩)
    go_ret
    exact ⟨rfl, Below.refl _ _⟩
  go_enter Tryd.func3, Tryd.ntmps3
  go_wp2_with (go_at_call 7; refine (bytes7_small _ _ _ hs).mono ?_; rintro e w' ⟨rfl, rfl⟩)
  refine (valid_any s exp _ hs).mono ?_
  rintro e w1 ⟨⟨b, rfl, hv⟩, hw1⟩
  subst hw1
  cases b
  · clear hv
    go_wp2_with fail
    go_ret
    exact ⟨rfl, Below.refl _ _⟩
  have HV := Keep.mk (hv rfl)
  clear hv
  go_wp2_with fail
  refine (make_any _ _ _).mono ?_
  rintro e w2 ⟨rfl, c2, rfl⟩
  rcases HV.out with ⟨hnil, _⟩ | ⟨neg, m, hsm, hm⟩
  · have h0 : s.size = 0 := by simpa using congrArg List.length hnil
    clear hnil
    go_wp2_with (first
      | (go_at_call 10; refine (sign_zero _ _ _ h0).mono ?_; rintro e w3 ⟨rfl, c3, rfl⟩)
      | (go_at_call 11; refine (string_zero _ _ _ h0).mono ?_; rintro e w3 ⟨rfl, hb⟩))
    go_ret
    exact ⟨rfl, ((((Below.refl _ _).alloc (Nat.le_refl _) _).alloc (by simp) _).alloc (by simp; omega) _).trans (hb.mono (by simp; omega))⟩
  · have hsz : 0 < s.size ∧ m.length ≤ s.size := by
      have e := congrArg List.length hsm
      have := List.length_pos_iff.2 hm.ne
      cases neg <;> simp [sgn] at e <;> omega
    have HM := Keep.mk hm
    have HS := Keep.mk hsm
    obtain ⟨z0, z1⟩ := hsz
    have hstr := fun W ht => string_core neg m exp s W HS hm.ne (mag_head45 hm) (by omega) (by omega) (by omega) ht
    have HSTR := Keep.mk hstr
    clear hsm hm hstr
    cases neg
    · have hne := head_ne45 s m HS.out (mag_head45 HM.out) z0
      go_wp2_with (go_at_call 10; refine (sign_pos _ _ _ z0 hne).mono ?_; rintro e w3 ⟨rfl, c3, rfl⟩)
      refine (HSTR.out _ (Joins.tab_stays gPow htab.out ((((Below.refl _ _).alloc (Nat.le_refl _) _).alloc (by simp) _).alloc (by simp; omega) _) (Nat.le_refl _))).mono ?_
      rintro e w3 ⟨rfl, hb⟩
      obtain ⟨r, hr, r0, r1, r2⟩ := text_pos m exp HM.out
      have r2 := r2 r0
      rw [hr]
      clear hr
      go_wp2_with fail
      go_ret
      exact ⟨rfl, ((((Below.refl _ _).alloc (Nat.le_refl _) _).alloc (by simp) _).alloc (by simp; omega) _).trans (hb.mono (by simp; omega))⟩
    · have hne := head_45 s m HS.out z0
      go_wp2_with (go_at_call 10; refine (sign_neg _ _ _ z0 hne).mono ?_; rintro e w3 ⟨rfl, c3, rfl⟩)
      refine (HSTR.out _ (Joins.tab_stays gPow htab.out ((((Below.refl _ _).alloc (Nat.le_refl _) _).alloc (by simp) _).alloc (by simp; omega) _) (Nat.le_refl _))).mono ?_
      rintro e w3 ⟨rfl, hb⟩
      obtain ⟨r, hr, r0, r1, r2⟩ := text_neg m exp HM.out
      have r2 := r2 r0
      rw [hr]
      clear hr
      go_wp2_with fail
      go_ret
      exact ⟨rfl, ((((Below.refl _ _).alloc (Nat.le_refl _) _).alloc (by simp) _).alloc (by simp; omega) _).trans (hb.mono (by simp; omega))⟩

end Go.Proofs.Qxb6001520aDoor
