import Derived.Test.Qxb6001520aDoorWalk1
import Derived.Test.Qxb6001520aDoorShape
namespace Go.Proofs.Qxb6001520aDoor
open Go.RowKit

theorem bytes14_big (s : ByteArray) (exp : Int) (w : World) (h : 1048576 < s.size) :
    Calls Tryd.prog 14 #[.string s, .int .i64 exp] w fun e w' => e = .returned (.bool false) ∧ w' = w := by
  go_enter Tryd.func14, Tryd.ntmps14
  go_wp2
  go_ret
  exact ⟨rfl, rfl⟩
theorem bytes14_small (s : ByteArray) (exp : Int) (w : World) (h : s.size ≤ 1048576) :
    Calls Tryd.prog 14 #[.string s, .int .i64 exp] w fun e w' => e = .returned (.bool true) ∧ w' = w := by
  go_enter Tryd.func14, Tryd.ntmps14
  go_wp2
  go_ret
  exact ⟨rfl, rfl⟩
set_option maxRecDepth 100000 in
theorem shape_zero (s : ByteArray) (exp : Int) (w : World) (h0 : s.size = 0) :
    Calls Tryd.prog 15 #[.string ⟨#[48]⟩, .string s, .int .i64 exp] w fun e w' => e = .returned (.bool true) ∧ w' = w := by
  have hl2 := isEmpty_of s h0
  go_enter Tryd.func15, Tryd.ntmps15
  go_wp2
  go_ret
  exact ⟨by simp, rfl⟩

theorem last_of {l a b c : List UInt8} (e : l = a ++ (b ++ c)) (hb : b ≠ []) (h : a.length + b.length - 1 < l.length) (hl : b.getLast? ≠ some 48) : l[a.length + b.length - 1] ≠ 48 := by
  subst e
  have hp := List.length_pos_iff.2 hb
  rw [List.getElem_append_right (by omega), List.getElem_append_left (by omega)]
  rw [List.getLast?_eq_getElem?, List.getElem?_eq_getElem (by omega)] at hl
  intro e
  apply hl
  rw [← e]
  congr 2
  omega
theorem first_of {l a b c : List UInt8} (e : l = a ++ (b ++ c)) (hb : b ≠ []) (h : a.length < l.length) (hl : b.head? ≠ some 48) : l[a.length] ≠ 48 := by
  subst e
  have hp := List.length_pos_iff.2 hb
  rw [List.getElem_append_right (by omega), List.getElem_append_left (by omega)]
  rw [List.head?_eq_getElem?, List.getElem?_eq_getElem hp] at hl
  intro e
  apply hl
  rw [← e]
  congr 2
  omega

/-- String's text has the documented shape. -/
theorem shape_text (neg : Bool) (m : List UInt8) (exp : Int) (s : ByteArray) (hs : s.data.toList = sgn neg ++ m) (hm : Mag m) (hl : m.length ≤ 1048576) (he0 : -1073741824 ≤ exp) (he1 : exp ≤ 1073741824) (w : World) :
    Calls Tryd.prog 15 #[.string ⟨(sgn neg ++ body m exp).toArray⟩, .string s, .int .i64 exp] w fun e w' => e = .returned (.bool true) ∧ w' = w := by
  obtain ⟨ip, f, ex, z1, z2, W⟩ := wrote neg m exp hm hl he0 he1
  have T := W.form.txt ⟨(sgn neg ++ body m exp).toArray⟩ (by simp)
  have hb := body_length m exp he0 he1 hl (List.length_pos_iff.2 hm.ne)
  have hsg : (sgn neg).length ≤ 1 := by cases neg <;> simp [sgn]
  have hR : (⟨(sgn neg ++ body m exp).toArray⟩ : ByteArray).data.toList = sgn neg ++ (ip ++ (fracT f ++ expT ex)) := by rw [← W.form.eq]
  have hfirst : ip.head? ≠ some 48 → ∀ h : (sgn neg).length < (⟨(sgn neg ++ body m exp).toArray⟩ : ByteArray).size, (⟨(sgn neg ++ body m exp).toArray⟩ : ByteArray)[(sgn neg).length] ≠ 48 := by
    intro hh h
    obtain ⟨h', e⟩ := getElem_data _ _ hR _ h
    rw [e]
    exact first_of rfl W.form.ipne h' hh
  refine shape_any _ s exp w neg _ _ _ _ _ _ _ m (Keep.mk T) (by show (sgn neg ++ body m exp).length ≤ _; simp; omega) (Keep.mk hs) (Keep.mk hm) hl he0 he1 (Keep.mk W.want) (Keep.mk ?_) (Keep.mk ?_) (Keep.mk ?_) (Keep.mk ?_)
  · intro h1
    exact hfirst (W.lead (by omega))
  · intro hh
    obtain ⟨g1, g2⟩ := W.one hh
    exact ⟨by omega, hfirst g2⟩
  · intro hh h
    have hf : f ≠ [] := by simpa using hh
    have hp := List.length_pos_iff.2 hf
    have e0 : (sgn neg).length + ip.length + (fracT f).length - 1 = (sgn neg ++ (ip ++ [46])).length + f.length - 1 := by
      simp only [fracT, if_neg hf, List.length_append, List.length_cons, List.length_nil]; omega
    obtain ⟨h', e⟩ := getElem_data _ _ hR _ h
    rw [e]
    have key := last_of (l := sgn neg ++ (ip ++ (fracT f ++ expT ex))) (a := sgn neg ++ (ip ++ [46])) (b := f) (c := expT ex) (by rw [fracT, if_neg hf]; simp) hf (by rw [← e0]; exact h') W.fend
    intro e2
    apply key
    rw [← e2]
    congr 1
    exact e0.symm
  · intro hh h
    match ex, hh, W, hR, T with
    | some (en, ds), _, W, hR, T =>
      obtain ⟨g1, g2, g3⟩ := W.form.exd en ds rfl
      have e0 : (sgn neg).length + ip.length + (fracT f).length + 2 = (sgn neg ++ (ip ++ (fracT f ++ [101, if en then 45 else 43]))).length := by
        simp only [List.length_append, List.length_cons, List.length_nil]; omega
      obtain ⟨h', e⟩ := getElem_data _ _ hR _ h
      rw [e]
      have key := first_of (l := sgn neg ++ (ip ++ (fracT f ++ expT (some (en, ds))))) (a := sgn neg ++ (ip ++ (fracT f ++ [101, if en then 45 else 43]))) (b := ds) (c := []) (by simp [expT]) g1 (by rw [← e0]; exact h') (W.exh en ds rfl)
      intro e2
      apply key
      rw [← e2]
      congr 1
      exact e0.symm

set_option maxHeartbeats 1000000 in
set_option maxRecDepth 100000 in
theorem walk_shape (s : ByteArray) (exp : Int) (w : World) (htab : Keep (Lib.TabIs Tryd.prog w Tryd.powName .u64 Lib.pow10Tab)) :
    Calls Tryd.prog 5 #[.string s, .int .i64 exp] w fun e w' => e = .returned (.bool true) ∧ Below w.heap.size w w' := by
  by_cases hs : s.size ≤ 1048576
  case neg =>
    go_enter Tryd.func5, Tryd.ntmps5
    go_wp2_with (go_at_call 14; refine (bytes14_big _ _ _ (by omega)).mono ?_; rintro e w' ⟨rfl, rfl⟩)
    go_ret
    exact ⟨rfl, Below.refl _ _⟩
  by_cases he0 : exp < -1073741824
  · go_enter Tryd.func5, Tryd.ntmps5
    go_wp2_with (go_at_call 14; refine (bytes14_small _ _ _ hs).mono ?_; rintro e w' ⟨rfl, rfl⟩)
    go_ret
    exact ⟨rfl, Below.refl _ _⟩
  by_cases he1 : 1073741824 < exp
  · go_enter Tryd.func5, Tryd.ntmps5
    go_wp2_with (go_at_call 14; refine (bytes14_small _ _ _ hs).mono ?_; rintro e w' ⟨rfl, rfl⟩)
    go_ret
    exact ⟨rfl, Below.refl _ _⟩
  go_enter Tryd.func5, Tryd.ntmps5
  go_wp2_with (go_at_call 14; refine (bytes14_small _ _ _ hs).mono ?_; rintro e w' ⟨rfl, rfl⟩)
  refine (valid_any s exp _ hs).mono ?_
  rintro e w1 ⟨⟨b, rfl, hv⟩, hw1⟩
  subst hw1
  cases b
  · clear hv
    go_wp2_with fail
    go_ret
    exact ⟨rfl, Below.refl _ _⟩
  have HV := Keep.mk (hv rfl)
  clear hv
  go_wp2_with fail
  refine (make_any _ _ _).mono ?_
  rintro e w2 ⟨rfl, c2, rfl⟩
  rcases HV.out with ⟨hnil, _⟩ | ⟨neg, m, hsm, hm⟩
  · have h0 : s.size = 0 := by simpa using congrArg List.length hnil
    clear hnil HV
    go_wp2_with fail
    refine (string_zero _ _ _ h0).mono ?_
    rintro e w3 ⟨rfl, hb⟩
    go_wp2_with fail
    refine (shape_zero _ _ _ h0).mono ?_
    rintro e w4 ⟨rfl, rfl⟩
    go_wp2_with fail
    go_ret
    exact ⟨rfl, ((Below.refl _ _).alloc (Nat.le_refl _) _).trans (hb.mono (by simp))⟩
  · have hml : m.length ≤ 1048576 := by
      have e := congrArg List.length hsm
      cases neg <;> simp [sgn] at e <;> omega
    have hstr := string_core neg m exp s (w1.alloc (.cells c2 24)) (Keep.mk hsm) hm.ne (mag_head45s hm) hml (by omega) (by omega) (Joins.tab_stays gPow htab.out ((Below.refl _ _).alloc (Nat.le_refl _) _) (Nat.le_refl _))
    have hsha := fun W => shape_text neg m exp s hsm hm hml (by omega) (by omega) W
    have HSTR := Keep.mk hstr
    have HSHA := Keep.mk hsha
    clear hsm hm hstr hsha HV
    go_wp2_with fail
    refine (HSTR.out).mono ?_
    rintro e w3 ⟨rfl, hb⟩
    go_wp2_with fail
    refine (HSHA.out _).mono ?_
    rintro e w4 ⟨rfl, rfl⟩
    go_wp2_with fail
    go_ret
    exact ⟨rfl, ((Below.refl _ _).alloc (Nat.le_refl _) _).trans (hb.mono (by simp))⟩

end Go.Proofs.Qxb6001520aDoor
