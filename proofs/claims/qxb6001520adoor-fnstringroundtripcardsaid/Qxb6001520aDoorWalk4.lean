import Derived.Test.Qxb6001520aDoorWalk1
import Derived.Test.Qxb6001520aDoorParse
import Derived.Test.Qxb6001520aDoorParse0
namespace Go.Proofs.Qxb6001520aDoor
open Go.RowKit

theorem bytes12_big (s : ByteArray) (exp : Int) (w : World) (h : 1048576 < s.size) :
    Calls Tryd.prog 12 #[.string s, .int .i64 exp] w fun e w' => e = .returned (.bool false) ∧ w' = w := by
  go_enter Tryd.func12, Tryd.ntmps12
  go_wp2
  go_ret
  exact ⟨rfl, rfl⟩
theorem bytes12_small (s : ByteArray) (exp : Int) (w : World) (h : s.size ≤ 1048576) :
    Calls Tryd.prog 12 #[.string s, .int .i64 exp] w fun e w' => e = .returned (.bool true) ∧ w' = w := by
  go_enter Tryd.func12, Tryd.ntmps12
  go_wp2
  go_ret
  exact ⟨rfl, rfl⟩
theorem mag_head45r {m : List UInt8} (hm : Mag m) : m.head? ≠ some 45 := by
  intro h
  obtain ⟨ne, dig, -, -⟩ := hm
  match m, ne with
  | c :: r, _ =>
    simp at h
    subst h
    exact absurd (dig 45 (by simp)) (by decide)

/-- Reading String's text gives the amount back. -/
theorem parse_text (neg : Bool) (m : List UInt8) (exp : Int) (s : ByteArray) (hs : s.data.toList = sgn neg ++ m) (hm : Mag m) (hl : m.length ≤ 1048576) (he0 : -1073741824 ≤ exp) (he1 : exp ≤ 1073741824) (w : World) :
    Calls Tryd.prog 13 #[.string ⟨(sgn neg ++ body m exp).toArray⟩] w fun e w' => e = .returned (.tuple #[.string s, .int .i64 exp, .bool true]) ∧ w' = w := by
  obtain ⟨ip, f, ex, z1, z2, W⟩ := wrote neg m exp hm hl he0 he1
  have T := W.form.txt ⟨(sgn neg ++ body m exp).toArray⟩ (by simp)
  have hb := body_length m exp he0 he1 hl (List.length_pos_iff.2 hm.ne)
  have hsg : (sgn neg).length ≤ 1 := by cases neg <;> simp [sgn]
  have hR : (⟨(sgn neg ++ body m exp).toArray⟩ : ByteArray).data.toList = sgn neg ++ (ip ++ (fracT f ++ expT ex)) := by rw [← W.form.eq]
  have hF : ∀ F : ByteArray, F = (if decide (f ≠ []) then (⟨(sgn neg ++ body m exp).toArray⟩ : ByteArray).extract ((sgn neg).length + ip.length + 1) ((sgn neg).length + ip.length + (fracT f).length) else ⟨#[]⟩) → F.data.toList = f := by
    intro F e
    by_cases hf : f = []
    · rw [e, hf]; simp
    · rw [e, if_pos (by simpa using hf), Lib.extract_data, hR, fracT, if_neg hf]
      rw [show sgn neg ++ (ip ++ (46 :: f ++ expT ex)) = (sgn neg ++ (ip ++ [46])) ++ (f ++ expT ex) by simp]
      rw [show (sgn neg).length + ip.length + 1 = (sgn neg ++ (ip ++ [46])).length by simp; omega, List.drop_left]
      exact List.take_left' (by simp only [List.length_append, List.length_cons, List.length_nil]; omega)
  have hI : ((⟨(sgn neg ++ body m exp).toArray⟩ : ByteArray).extract (sgn neg).length ((sgn neg).length + ip.length)).data.toList = ip := by
    rw [Lib.extract_data, hR, List.drop_left, show (sgn neg).length + ip.length - (sgn neg).length = ip.length by omega, List.take_left]
  have hFs := hF _ rfl
  have P := parse_any ⟨(sgn neg ++ body m exp).toArray⟩ w neg _ _ _ _ _ _ _ (Keep.mk T) (by show (sgn neg ++ body m exp).length ≤ _; simp; omega) _ (Keep.mk rfl) (exVal ex) (Keep.mk (by
    match ex with
    | none => rfl
    | some (en, ds) => rfl)) m z1 z2 (Keep.mk hm) (Keep.mk (by rw [hI, hFs]; exact W.digs))
  have e1 : (⟨(sgn neg ++ m).toArray⟩ : ByteArray) = s := by apply WideShapes.bytes_inj; rw [hs]
  have e2 := size_of_data _ _ hFs
  rw [e1, e2, W.val] at P
  exact P

set_option maxHeartbeats 1000000 in
set_option maxRecDepth 100000 in
theorem walk_round (s : ByteArray) (exp : Int) (w : World) (htab : Keep (Lib.TabIs Tryd.prog w Tryd.powName .u64 Lib.pow10Tab)) :
    Calls Tryd.prog 4 #[.string s, .int .i64 exp] w fun e w' => e = .returned (.bool true) ∧ Below w.heap.size w w' := by
  by_cases hs : s.size ≤ 1048576
  case neg =>
    go_enter Tryd.func4, Tryd.ntmps4
    go_wp2_with (go_at_call 12; refine (bytes12_big _ _ _ (by omega)).mono ?_; rintro e w' ⟨rfl, rfl⟩)
    go_ret
    exact ⟨rfl, Below.refl _ _⟩
  by_cases he0 : exp < -1073741824
  · go_enter Tryd.func4, Tryd.ntmps4
    go_wp2_with (go_at_call 12; refine (bytes12_small _ _ _ hs).mono ?_; rintro e w' ⟨rfl, rfl⟩)
    go_ret
    exact ⟨rfl, Below.refl _ _⟩
  by_cases he1 : 1073741824 < exp
  · go_enter Tryd.func4, Tryd.ntmps4
    go_wp2_with (go_at_call 12; refine (bytes12_small _ _ _ hs).mono ?_; rintro e w' ⟨rfl, rfl⟩)
    go_ret
    exact ⟨rfl, Below.refl _ _⟩
  go_enter Tryd.func4, Tryd.ntmps4
  go_wp2_with (go_at_call 12; refine (bytes12_small _ _ _ hs).mono ?_; rintro e w' ⟨rfl, rfl⟩)
  refine (valid_any s exp _ hs).mono ?_
  rintro e w1 ⟨⟨b, rfl, hv⟩, hw1⟩
  subst hw1
  cases b
  · clear hv
    go_wp2_with fail
    go_ret
    exact ⟨rfl, Below.refl _ _⟩
  have HV := Keep.mk (hv rfl)
  clear hv
  go_wp2_with fail
  refine (make_any _ _ _).mono ?_
  rintro e w2 ⟨rfl, c2, rfl⟩
  rcases HV.out with ⟨hnil, hz⟩ | ⟨neg, m, hsm, hm⟩
  · have h0 : s.size = 0 := by simpa using congrArg List.length hnil
    have hse : s = ⟨#[]⟩ := by apply WideShapes.bytes_inj; rw [hnil]
    subst hse
    subst hz
    clear hnil HV
    go_wp2_with fail
    refine (string_zero _ _ _ h0).mono ?_
    rintro e w3 ⟨rfl, hb⟩
    go_wp2_with fail
    refine (parse_zero _ _ (Keep.mk rfl)).mono ?_
    rintro e w4 ⟨rfl, rfl⟩
    go_wp2_with fail
    go_ret
    exact ⟨by simp, ((Below.refl _ _).alloc (Nat.le_refl _) _).trans (hb.mono (by simp))⟩
  · have hml : m.length ≤ 1048576 := by
      have e := congrArg List.length hsm
      cases neg <;> simp [sgn] at e <;> omega
    have hstr := string_core neg m exp s (w1.alloc (.cells c2 24)) (Keep.mk hsm) hm.ne (mag_head45r hm) hml (by omega) (by omega) (Joins.tab_stays gPow htab.out ((Below.refl _ _).alloc (Nat.le_refl _) _) (Nat.le_refl _))
    have hpar := fun W => parse_text neg m exp s hsm hm hml (by omega) (by omega) W
    have HSTR := Keep.mk hstr
    have HPAR := Keep.mk hpar
    clear hsm hm hstr hpar HV
    go_wp2_with fail
    refine (HSTR.out).mono ?_
    rintro e w3 ⟨rfl, hb⟩
    go_wp2_with fail
    refine (HPAR.out _).mono ?_
    rintro e w4 ⟨rfl, rfl⟩
    go_wp2_with fail
    go_ret
    exact ⟨by simp, ((Below.refl _ _).alloc (Nat.le_refl _) _).trans (hb.mono (by simp))⟩

end Go.Proofs.Qxb6001520aDoor
