import Derived.Test.Qxb6001520aDoorWalk0
import Derived.Test.Qxb6001520aDoorShelf
import Derived.Deep.DeepCutAuto
import Derived.Deep.QuietTactic
import Derived.BigQuiet
import Derived.Lib.SmallJoins
import Derived.Lib.ItoaLen
import Derived.Lib.IndexBytes
namespace Go.Proofs.Qxb6001520aDoor
open Go.RowKit

theorem head_ne45 (s : ByteArray) (m : List UInt8) (hs : s.data.toList = sgn false ++ m) (hd : m.head? ≠ some 45) (h0 : 0 < s.size) : ((s[0].toNat : Int) == 45) = false := by
  have e : s.data.toList = m := by simpa [sgn] using hs
  have : s.data.toList[0]? = some s[0] := List.getElem?_eq_getElem (by simpa using h0)
  simp only [beq_eq_false_iff_ne]
  intro h
  apply hd
  rw [← e, List.head?_eq_getElem?, this]
  exact congrArg some (UInt8.toNat_inj.1 (by show _ = 45; omega))
theorem head_45 (s : ByteArray) (m : List UInt8) (hs : s.data.toList = sgn true ++ m) (h0 : 0 < s.size) : ((s[0].toNat : Int) == 45) = true := by
  have e : s.data.toList = 45 :: m := by simpa [sgn] using hs
  have e0 : s.data.toList[0]? = some s[0] := List.getElem?_eq_getElem (by simpa using h0)
  rw [e] at e0
  have : s[0] = 45 := by simpa using e0.symm
  rw [this]; rfl
theorem tail_data (s : ByteArray) (m : List UInt8) (hs : s.data.toList = sgn true ++ m) : s.extract 1 s.size = ⟨m.toArray⟩ := by
  apply WideShapes.bytes_inj
  rw [Lib.extract_to_end, hs]
  simp [sgn]

theorem take_end (m : List UInt8) (k : Nat) : (m.drop k).take (m.length - k) = m.drop k := List.take_of_length_le (by simp)
theorem str_E1 (neg : Bool) (m t : List UInt8) : (((⟨(sgn neg).toArray⟩ : ByteArray) ++ ((⟨m.toArray⟩ : ByteArray).extract 0 1 ++ ((⟨#[46]⟩ : ByteArray) ++ (⟨m.toArray⟩ : ByteArray).extract 1 m.length)) ++ ⟨#[101]⟩ ++ ⟨t.toArray⟩ : ByteArray)).data.toList =
    sgn neg ++ (m.take 1 ++ (46 :: m.drop 1 ++ 101 :: t)) := by
  simp only [ByteArray.data_append, Array.toList_append, Lib.extract_data, List.drop_zero, take_end]
  simp
theorem str_E2 (neg : Bool) (m t : List UInt8) : (((⟨(sgn neg).toArray⟩ : ByteArray) ++ ((⟨m.toArray⟩ : ByteArray).extract 0 1) ++ ⟨#[101]⟩ ++ ⟨t.toArray⟩ : ByteArray)).data.toList =
    sgn neg ++ (m.take 1 ++ 101 :: t) := by
  simp only [ByteArray.data_append, Array.toList_append, Lib.extract_data, List.drop_zero]
  simp
theorem str_E3 (neg : Bool) (m t : List UInt8) : (((⟨(sgn neg).toArray⟩ : ByteArray) ++ ((⟨m.toArray⟩ : ByteArray).extract 0 1 ++ ((⟨#[46]⟩ : ByteArray) ++ (⟨m.toArray⟩ : ByteArray).extract 1 m.length)) ++ ⟨#[101]⟩ ++ ((⟨#[43]⟩ : ByteArray) ++ ⟨t.toArray⟩) : ByteArray)).data.toList =
    sgn neg ++ (m.take 1 ++ (46 :: m.drop 1 ++ 101 :: 43 :: t)) := by
  simp only [ByteArray.data_append, Array.toList_append, Lib.extract_data, List.drop_zero, take_end]
  simp
theorem str_E4 (neg : Bool) (m t : List UInt8) : (((⟨(sgn neg).toArray⟩ : ByteArray) ++ ((⟨m.toArray⟩ : ByteArray).extract 0 1) ++ ⟨#[101]⟩ ++ ((⟨#[43]⟩ : ByteArray) ++ ⟨t.toArray⟩) : ByteArray)).data.toList =
    sgn neg ++ (m.take 1 ++ 101 :: 43 :: t) := by
  simp only [ByteArray.data_append, Array.toList_append, Lib.extract_data, List.drop_zero]
  simp
theorem rep_zeros (c : Nat) : Lib.repeatL (ByteArray.mk #[48]).data.toList c = List.replicate c 48 := by
  have := Lib.repeatL_replicate 48 1 c
  simpa using this
theorem str_P1 (neg : Bool) (m : List UInt8) (c : Nat) : (((⟨(sgn neg).toArray⟩ : ByteArray) ++ (⟨m.toArray⟩ : ByteArray) ++ ⟨(Lib.repeatL (ByteArray.mk #[48]).data.toList c).toArray⟩ : ByteArray)).data.toList =
    sgn neg ++ (m ++ List.replicate (c : Int).toNat 48) := by
  rw [rep_zeros]
  simp
theorem str_P2 (neg : Bool) (m : List UInt8) (c : Nat) : (((⟨(sgn neg).toArray⟩ : ByteArray) ++ (⟨m.toArray⟩ : ByteArray).extract 0 c ++ ⟨#[46]⟩ ++ (⟨m.toArray⟩ : ByteArray).extract c m.length : ByteArray)).data.toList =
    sgn neg ++ (m.take c ++ 46 :: m.drop c) := by
  simp only [ByteArray.data_append, Array.toList_append, Lib.extract_data, List.drop_zero, take_end]
  simp
theorem str_P3 (neg : Bool) (m : List UInt8) (c : Nat) : (((⟨(sgn neg).toArray⟩ : ByteArray) ++ (⟨#[48, 46]⟩ : ByteArray) ++ ⟨(Lib.repeatL (ByteArray.mk #[48]).data.toList c).toArray⟩ ++ ⟨m.toArray⟩ : ByteArray)).data.toList =
    sgn neg ++ (48 :: 46 :: (List.replicate (c : Int).toNat 48 ++ m)) := by
  rw [rep_zeros]
  simp
theorem gPow : Tryd.prog.globalNamed Tryd.powName = some 0 := by kernel_rfl

theorem ret_str {a : ByteArray} {l : List UInt8} (h : a.data.toList = l) : Ending.returned (.string a) = .returned (.string ⟨l.toArray⟩) := by
  have : a = ⟨l.toArray⟩ := by apply WideShapes.bytes_inj; simpa using h
  rw [this]
theorem below_grow1 {B : Nat} {w wc : World} (hb : Below B w wc) (hB : B ≤ wc.heap.size) (k : Nat) (os : Array Obj) : Below B w (Sort.grow (wc.drewN k) os) :=
  hb.trans ⟨rfl, rfl, rfl, by show wc.heap.size ≤ (wc.heap ++ os).size; rw [Array.size_append]; omega, fun j hj => by
    show (wc.heap ++ os)[j]? = wc.heap[j]?
    rw [Array.getElem?_append_left (by omega)]⟩
theorem below_drewN1 {B : Nat} {w w1 : World} (h : Below B w w1) (n : Nat) : Below B w (w1.drewN n) := ⟨h.os, h.tape, h.output, h.size, h.block⟩

set_option maxHeartbeats 1000000 in
set_option maxRecDepth 100000 in
theorem string_core (neg : Bool) (m : List UInt8) (exp : Int) (s : ByteArray) (w : World) (hs : Keep (s.data.toList = sgn neg ++ m)) (hm : m ≠ []) (hd : m.head? ≠ some 45) (hl : m.length ≤ 1048576)
    (he0 : -1073741824 ≤ exp) (he1 : exp ≤ 1073741824) (htab : Keep (Lib.TabIs Tryd.prog w Tryd.powName .u64 Lib.pow10Tab)) :
    Calls Tryd.prog 11 #[.agg #[.string s, .int .i64 exp]] w fun e w' => e = .returned (.string ⟨(sgn neg ++ body m exp).toArray⟩) ∧ Below w.heap.size w w' := by
  have hm0 : 0 < m.length := List.length_pos_iff.2 hm
  have hsz : 0 < s.size ∧ s.size ≤ 1048577 := by
    have e := congrArg List.length hs.out
    cases neg <;> simp [sgn] at e <;> omega
  have hsl : (sgn neg).length ≤ 1 := by cases neg <;> simp [sgn]
  obtain ⟨h0, h1⟩ := hsz
  have hl2 := isEmpty_no s (by omega)
  have HD := Keep.mk hd
  clear hd hm
  go_enter Tryd.func11, Tryd.ntmps11
  go_wp2
  go_quiet (fail)
  go_upto_if 15 with fail
  go_cut [3, 4] (fun a b wc => a = .string ⟨(sgn neg).toArray⟩ ∧ b = .string ⟨m.toArray⟩ ∧ Below w.heap.size w wc ∧ w.heap.size < wc.heap.size ∧ wc.cell? ⟨w.heap.size, 1, none⟩ = some (.int .i64 exp))
  case first =>
    cases neg
    · have hne : ((s[0].toNat : Int) == 45) = false := head_ne45 s m hs.out HD.out h0
      go_wp2_with fail
      go_meet
      have hsm : s = ⟨m.toArray⟩ := by apply WideShapes.bytes_inj; simpa [sgn] using hs.out
      refine ⟨rfl, by rw [hsm], ?_, ?_, ?_⟩
      · exact below_drewN1 ((Below.refl _ _).alloc (Nat.le_refl _) _) _
      · simp
      · simp
    · have h45 : ((s[0].toNat : Int) == 45) = true := head_45 s m hs.out h0
      go_wp2_with fail
      go_quiet (fail)
      go_wp2_with fail
      go_meet
      refine ⟨rfl, by rw [tail_data s m hs.out], ?_, ?_, ?_⟩
      · exact below_drewN1 (below_drewN1 ((Below.refl _ _).alloc (Nat.le_refl _) _) _) _
      · simp
      · simp
  case rest =>
    obtain ⟨rfl, rfl, hb, hz, hc⟩ := hcut
    have ht : Keep (Lib.TabIs Tryd.prog wc Tryd.powName .u64 Lib.pow10Tab) := Joins.tab_stays gPow htab.out hb (Nat.le_refl _)
    have hit := Lib.itoa_length_le ((m.length : Int) + exp - 1) (by omega) (by omega)
    by_cases hE : (m.length : Int) + exp - 1 < -6
    · by_cases h1l : (1 : Int) < m.length
      · go_wp2_with (go_at_call 18; refine (Tryd.strconv_Itoa _ (by omega) (by omega) _ ht.out).mono ?_; rintro e w' ⟨rfl, kk, oo, rfl⟩)
        go_ret
        refine ⟨ret_str ?_, below_grow1 hb (by omega) _ _⟩
        rw [body_E1 (.inl hE) (by omega), expText_neg (by omega)]
        exact str_E1 neg m _
      · go_wp2_with (go_at_call 18; refine (Tryd.strconv_Itoa _ (by omega) (by omega) _ ht.out).mono ?_; rintro e w' ⟨rfl, kk, oo, rfl⟩)
        go_ret
        refine ⟨ret_str ?_, below_grow1 hb (by omega) _ _⟩
        rw [body_E2 (.inl hE) (by omega), expText_neg (by omega)]
        exact str_E2 neg m _
    by_cases hE2 : 21 ≤ (m.length : Int) + exp - 1
    · by_cases h1l : (1 : Int) < m.length
      · go_wp2_with (go_at_call 18; refine (Tryd.strconv_Itoa _ (by omega) (by omega) _ ht.out).mono ?_; rintro e w' ⟨rfl, kk, oo, rfl⟩)
        go_ret
        refine ⟨ret_str ?_, below_grow1 hb (by omega) _ _⟩
        rw [body_E1 (.inr hE2) (by omega), expText_pos (by omega)]
        exact str_E3 neg m _
      · go_wp2_with (go_at_call 18; refine (Tryd.strconv_Itoa _ (by omega) (by omega) _ ht.out).mono ?_; rintro e w' ⟨rfl, kk, oo, rfl⟩)
        go_ret
        refine ⟨ret_str ?_, below_grow1 hb (by omega) _ _⟩
        rw [body_E2 (.inr hE2) (by omega), expText_pos (by omega)]
        exact str_E4 neg m _
    have hEE : ¬ ((m.length : Int) + exp - 1 < -6 ∨ 21 ≤ (m.length : Int) + exp - 1) := by omega
    by_cases hP : 0 ≤ exp
    · have HB := Keep.mk (body_P1 hEE hP)
      clear hEE hit
      obtain ⟨c, rfl⟩ := Int.eq_ofNat_of_zero_le hP
      have hrl : (Lib.repeatL (ByteArray.mk #[48]).data.toList c).length = c := by rw [rep_zeros]; simp
      go_wp2_with (go_at_call 19; refine (Tryd.strings_Repeat _ c _ (by omega) (by show 1 * c ≤ _; omega)).mono ?_; rintro e w' ⟨rfl, hb2⟩)
      go_ret
      refine ⟨ret_str ?_, hb.trans (hb2.mono (by omega))⟩
      rw [HB.out]
      exact str_P1 neg m c
    by_cases hP2 : 0 < (m.length : Int) + exp
    · have HB := Keep.mk (body_P2 hEE hP hP2)
      clear hEE hit
      have b1 : (m.length : Int) + exp ≤ m.length := by omega
      have b0 : 0 ≤ (m.length : Int) + exp := by omega
      go_wp2_with fail
      go_quiet (fail)
      go_wp2_with fail
      go_ret
      refine ⟨ret_str ?_, below_drewN1 hb _⟩
      rw [HB.out]
      exact str_P2 neg m _
    · have HB := Keep.mk (body_P3 hEE hP hP2)
      clear hEE hit
      obtain ⟨q, hq⟩ : ∃ q : Nat, -((m.length : Int) + exp) = q := ⟨(-((m.length : Int) + exp)).toNat, by omega⟩
      have HQ := Keep.mk hq
      have hq6 : q ≤ 6 := by omega
      have hrl : (Lib.repeatL (ByteArray.mk #[48]).data.toList q).length = q := by rw [rep_zeros]; simp
      clear hq
      go_wp2_with (go_at_call 19; rw [HQ.out]; refine (Tryd.strings_Repeat _ q _ (by omega) (by show 1 * q ≤ _; omega)).mono ?_; rintro e w' ⟨rfl, hb2⟩)
      go_ret
      refine ⟨ret_str ?_, hb.trans (hb2.mono (by omega))⟩
      rw [HB.out, HQ.out]
      exact str_P3 neg m q

/-- The text of the zero amount. -/
theorem string_zero (exp : Int) (s : ByteArray) (w : World) (h0 : s.size = 0) :
    Calls Tryd.prog 11 #[.agg #[.string s, .int .i64 exp]] w fun e w' => e = .returned (.string ⟨#[48]⟩) ∧ Below w.heap.size w w' := by
  have hl2 := isEmpty_of s h0
  go_enter Tryd.func11, Tryd.ntmps11
  go_wp2
  go_ret
  exact ⟨rfl, (Below.refl _ _).alloc (Nat.le_refl _) _⟩

/-- usd.ZZMake. -/
theorem make_any (exp : Int) (s : ByteArray) (w : World) :
    Calls Tryd.prog 9 #[.string s, .int .i64 exp] w fun e w' => e = .returned (.agg #[.string s, .int .i64 exp]) ∧ ∃ c, w' = w.alloc (.cells c 24) := by
  go_enter Tryd.func9, Tryd.ntmps9
  go_wp2
  exact bodyPost_ret (v := .agg #[.string s, .int .i64 exp]) (by simp [results, Tryd.results9, go_sem]) rfl ⟨rfl, _, rfl⟩

/-- Sign. -/
theorem sign_zero (exp : Int) (s : ByteArray) (w : World) (h0 : s.size = 0) :
    Calls Tryd.prog 10 #[.agg #[.string s, .int .i64 exp]] w fun e w' => e = .returned (.int .i64 0) ∧ ∃ c, w' = w.alloc (.cells c 24) := by
  have hl2 := isEmpty_of s h0
  go_enter Tryd.func10, Tryd.ntmps10
  go_wp2
  go_ret
  exact ⟨rfl, _, rfl⟩
theorem sign_neg (exp : Int) (s : ByteArray) (w : World) (h0 : 0 < s.size) (h45 : ((s[0].toNat : Int) == 45) = true) :
    Calls Tryd.prog 10 #[.agg #[.string s, .int .i64 exp]] w fun e w' => e = .returned (.int .i64 (-1)) ∧ ∃ c, w' = w.alloc (.cells c 24) := by
  have hl2 := isEmpty_no s (by omega)
  go_enter Tryd.func10, Tryd.ntmps10
  go_wp2
  go_ret
  exact ⟨rfl, _, rfl⟩
theorem sign_pos (exp : Int) (s : ByteArray) (w : World) (h0 : 0 < s.size) (h45 : ((s[0].toNat : Int) == 45) = false) :
    Calls Tryd.prog 10 #[.agg #[.string s, .int .i64 exp]] w fun e w' => e = .returned (.int .i64 1) ∧ ∃ c, w' = w.alloc (.cells c 24) := by
  have hl2 := isEmpty_no s (by omega)
  go_enter Tryd.func10, Tryd.ntmps10
  go_wp2
  go_ret
  exact ⟨rfl, _, rfl⟩

end Go.Proofs.Qxb6001520aDoor
