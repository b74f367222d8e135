import Derived.Test.Qxb6001520aDoorWalk0
import Derived.Test.Qxb6001520aDoorPlain2
import Derived.Deep.DeepCutAuto
import Derived.Deep.CutBlock
import Derived.Lib.IndexBytes
namespace Go.Proofs.Qxb6001520aDoor
open Go.RowKit

theorem head_ne45s (s : ByteArray) (m : List UInt8) (hs : s.data.toList = sgn false ++ m) (hd : m.head? ≠ some 45) (h0 : 0 < s.size) : ((s[0].toNat : Int) == 45) = false := by
  have e : s.data.toList = m := by simpa [sgn] using hs
  have : s.data.toList[0]? = some s[0] := List.getElem?_eq_getElem (by simpa using h0)
  simp only [beq_eq_false_iff_ne]
  intro h
  apply hd
  rw [← e, List.head?_eq_getElem?, this]
  exact congrArg some (UInt8.toNat_inj.1 (by show _ = 45; omega))
theorem head_45s (s : ByteArray) (m : List UInt8) (hs : s.data.toList = sgn true ++ m) (h0 : 0 < s.size) : ((s[0].toNat : Int) == 45) = true := by
  have e : s.data.toList = 45 :: m := by simpa [sgn] using hs
  have e0 : s.data.toList[0]? = some s[0] := List.getElem?_eq_getElem (by simpa using h0)
  rw [e] at e0
  have : s[0] = 45 := by simpa using e0.symm
  rw [this]; rfl
theorem tail_datas (s : ByteArray) (m : List UInt8) (hs : s.data.toList = sgn true ++ m) : s.extract 1 s.size = ⟨m.toArray⟩ := by
  apply WideShapes.bytes_inj
  rw [Lib.extract_to_end, hs]
  simp [sgn]
theorem mag_head45s {m : List UInt8} (hm : Mag m) : m.head? ≠ some 45 := by
  intro h
  obtain ⟨ne, dig, -, -⟩ := hm
  match m, ne with
  | c :: r, _ =>
    simp at h
    subst h
    exact absurd (dig 45 (by simp)) (by decide)
theorem not_digs {s : ByteArray} {i : Nat} {h : i < s.size} {c : UInt8} (e : s[i] = c) (hc : isDig c = false) : isDig s[i] = false := by rw [e]; exact hc

section
variable {s : ByteArray} {neg hf he eneg : Bool} {n0 n1 n2 : Nat} {ds : List UInt8}
theorem Txt.isNeg (T : Txt s neg hf he eneg n0 n1 n2 ds) (h : 0 < s.size) : ((s[0].toNat : Int) == 45) = neg := by
  cases neg with
  | true => rw [T.at0 rfl h]; rfl
  | false =>
    have e : n0 = 0 := T.h0
    have hd := T.d1 0 h (by omega) (by have := T.h01; omega)
    simp [isDig] at hd
    simp
    omega
/-- Where the whole digits end there is no digit. -/
theorem Txt.end1s (T : Txt s neg hf he eneg n0 n1 n2 ds) (h : n1 < s.size) : isDig s[n1] = false := by
  cases hf with
  | true => exact not_digs (T.fat rfl h) (by decide)
  | false =>
    have e := T.f0 rfl
    subst e
    cases he with
    | true => exact not_digs (T.eat rfl h) (by decide)
    | false => have := T.e0 rfl; omega
theorem Txt.end2s (T : Txt s neg hf he eneg n0 n1 n2 ds) (h : n2 < s.size) : isDig s[n2] = false := by
  cases he with
  | true => exact not_digs (T.eat rfl h) (by decide)
  | false => have := T.e0 rfl; omega
theorem Txt.isPoints (T : Txt s neg hf he eneg n0 n1 n2 ds) (h : n1 < s.size) : ((s[n1].toNat : Int) == 46) = hf := by
  cases hf with
  | true => rw [T.fat rfl h]; rfl
  | false =>
    have e := T.f0 rfl
    subst e
    cases he with
    | true => rw [T.eat rfl h]; rfl
    | false => have := T.e0 rfl; omega
theorem Txt.noPoints (T : Txt s neg hf he eneg n0 n1 n2 ds) (h : ¬ n1 < s.size) : hf = false := by
  cases hf with
  | true => have := T.f1 rfl; have := T.h2s; omega
  | false => rfl
theorem Txt.eds (T : Txt s neg hf he eneg n0 n1 n2 ds) (hh : he = true) : ∀ k (h : k < s.size), n2 + 2 ≤ k → isDig s[k] = true := by
  intro k h h2
  obtain ⟨e1, e2, e3⟩ := T.e1 hh
  have hj : k - (n2 + 2) < ds.length := by omega
  rw [T.ed hh k h h2 hj]
  exact T.edd _ (List.getElem_mem _)
end

theorem ip_facts (s : ByteArray) (n0 n1 : Nat) {he : Bool} (h01 : n0 < n1) (h1 : n1 ≤ s.size) (hl : 1 < n1 - n0 → ∀ h : n0 < s.size, s[n0] ≠ 48) (ho : he = true → n1 - n0 = 1 ∧ ∀ h : n0 < s.size, s[n0] ≠ 48) :
    ∃ I : ByteArray, s.extract n0 n1 = I ∧ I.size = n1 - n0 ∧ (1 < n1 - n0 → ∀ h : 0 < I.size, ((I[0].toNat : Int) == 48) = false) ∧ (he = true → n1 - n0 = 1 ∧ ∀ h : 0 < I.size, ((I[0].toNat : Int) == 48) = false) := by
  have hat : ∀ (h : 0 < (s.extract n0 n1).size) (h' : n0 < s.size), (s.extract n0 n1)[0] = s[n0] := by
    intro h h'
    obtain ⟨h2, e⟩ := getElem_data (s.extract n0 n1) _ (Lib.extract_data s n0 n1) 0 h
    rw [e]
    simp
    rfl
  have hs : (s.extract n0 n1).size = n1 - n0 := by simp; omega
  refine ⟨_, rfl, hs, fun h1' h => ?_, fun hh => ⟨(ho hh).1, fun h => ?_⟩⟩
  · rw [hat h (by omega)]; exact beq48 (hl h1' (by omega))
  · rw [hat h (by omega)]; exact beq48 ((ho hh).2 (by omega))

set_option maxHeartbeats 4000000 in
set_option maxRecDepth 100000 in
theorem shape_any (s c : ByteArray) (exp : Int) (w : World) (neg hf he eneg : Bool) (n0 n1 n2 : Nat) (ds m : List UInt8) (T : Keep (Txt s neg hf he eneg n0 n1 n2 ds)) (hsz : s.size ≤ 2000000)
    (hc : Keep (c.data.toList = sgn neg ++ m)) (hm : Keep (Mag m)) (hl : m.length ≤ 1048576) (he0 : -1073741824 ≤ exp) (he1 : exp ≤ 1073741824)
    (hw : Keep ((he = true) ↔ ((m.length : Int) + exp - 1 < -6 ∨ 21 ≤ (m.length : Int) + exp - 1)))
    (hlead : Keep (1 < n1 - n0 → ∀ h : n0 < s.size, s[n0] ≠ 48)) (hone : Keep (he = true → n1 - n0 = 1 ∧ ∀ h : n0 < s.size, s[n0] ≠ 48))
    (hfend : Keep (hf = true → ∀ h : n2 - 1 < s.size, s[n2 - 1] ≠ 48)) (hexh : Keep (he = true → ∀ h : n2 + 2 < s.size, s[n2 + 2] ≠ 48)) :
    Calls Tryd.prog 15 #[.string s, .string c, .int .i64 exp] w fun e w' => e = .returned (.bool true) ∧ w' = w := by
  have l01 := T.out.h01
  have l12 := T.out.h12
  have l2s := T.out.h2s
  have z0 : 0 < s.size := by omega
  have hn0 : n0 ≤ 1 := by rw [T.out.h0]; split <;> omega
  have hmp : 0 < m.length := List.length_pos_iff.2 hm.out.ne
  have c0 : 0 < c.size := by
    have e := size_of_data c _ hc.out
    simp only [List.length_append] at e
    omega
  have hce := isEmpty_no c (by omega)
  go_enter Tryd.func15, Tryd.ntmps15
  go_upto_if 24 with fail
  go_cut [7, 8] (fun a b wc => a = .string ⟨m.toArray⟩ ∧ b = .bool neg ∧ w = wc)
  case first =>
    as_aux_lemma =>
    rcases Bool.eq_false_or_eq_true neg with hn | hn
    · subst hn
      have h45 := head_45s c m hc.out c0
      go_wp2_with fail
      go_meet
      exact ⟨by rw [tail_datas c m hc.out], rfl, rfl⟩
    · subst hn
      have hne := head_ne45s c m hc.out (mag_head45s hm.out) c0
      have hcm : c = ⟨m.toArray⟩ := by apply WideShapes.bytes_inj; simpa [sgn] using hc.out
      have HC := Keep.mk hcm
      clear hcm
      go_wp2_with fail
      go_meet
      exact ⟨by rw [HC.out], rfl, rfl⟩
  case rest =>
  obtain ⟨rfl, rfl, rfl⟩ := hcut
  go_upto_region 9 with fail
  go_cut [36] (fun b wc => b = .bool neg ∧ w = wc)
  case first =>
    as_aux_lemma =>
    have hb := T.out.isNeg z0
    have HB := Keep.mk hb
    clear hb
    go_wp2_with fail
    go_meet
    exact ⟨by rw [HB.out], rfl⟩
  case rest =>
  obtain ⟨rfl, rfl⟩ := hcut
  go_upto_if 36 with fail
  go_cut [9] (fun i wc => i = .int .i64 n0 ∧ w = wc)
  case first =>
    as_aux_lemma =>
    rcases Bool.eq_false_or_eq_true neg with hn | hn
    · subst hn
      have E0 : Keep (n0 = 1) := T.out.h0
      go_wp2_with fail
      go_meet
      exact ⟨by rw [E0.out]; rfl, rfl⟩
    · subst hn
      have E0 : Keep (n0 = 0) := T.out.h0
      go_wp2_with fail
      go_meet
      exact ⟨by rw [E0.out]; rfl, rfl⟩
  case rest =>
  obtain ⟨rfl, rfl⟩ := hcut
  go_upto_region 16 with fail
  go_cut [11] (fun b wc => b = .bool he ∧ w = wc)
  case first =>
    as_aux_lemma =>
    by_cases h6 : (m.length : Int) + exp - 1 < -6
    · have hb : he = true := hw.out.2 (.inl h6)
      have HB := Keep.mk hb
      clear hb
      go_wp2_with fail
      go_meet
      exact ⟨by rw [HB.out], rfl⟩
    · by_cases h21 : 21 ≤ (m.length : Int) + exp - 1
      · have hb : he = true := hw.out.2 (.inr h21)
        have HB := Keep.mk hb
        clear hb
        go_wp2_with fail
        go_meet
        exact ⟨by rw [HB.out], rfl⟩
      · have hb : he = false := by
          cases hh : he with
          | false => rfl
          | true => exact absurd (hw.out.1 hh) (by omega)
        have HB := Keep.mk hb
        clear hb
        go_wp2_with fail
        go_meet
        exact ⟨by rw [HB.out], rfl⟩
  case rest =>
  obtain ⟨rfl, rfl⟩ := hcut
  go_upto_block 0 with fail
  go_cut [9] (fun i wc => i = .int .i64 n1 ∧ w = wc)
  case first =>
    as_aux_lemma =>
    go_wp2_with fail
    go_loopg [9] (n1 - (n0)) (fun g i wr => ∃ k : Nat, n0 ≤ k ∧ k ≤ n1 ∧ n1 - k ≤ g ∧ w = wr ∧ i = .int .i64 k)
    case atStart => exact ⟨n0, by omega, by omega, by omega, rfl, rfl⟩
    case round =>
      obtain ⟨k, hk1, hk, hg, rfl, rfl⟩ := hrel
      by_cases hlt : k < n1
      · have hks : k < s.size := by omega
        have hc : isDig s[k] = true := T.out.d1 k hks hk1 hlt
        go_wp2_with (go_at_call 17; refine (isDigit_any _ _).mono ?_; rintro e w' ⟨rfl, rfl⟩)
        go_roundg (n1 - (k + 1))
        case measure => omega
        case rel => exact ⟨k + 1, by omega, by omega, by omega, rfl, by go_num⟩
      · obtain rfl : k = n1 := by omega
        by_cases hend : k < s.size
        · have hc : isDig s[k] = false := T.out.end1s hend
          go_wp2_with (go_at_call 17; refine (isDigit_any _ _).mono ?_; rintro e w' ⟨rfl, rfl⟩)
          go_meet
          exact ⟨rfl, rfl⟩
        · have hend' : decide ((k : Int) < (s.size : Int)) = false := by simp; omega
          go_wp2_with fail
          go_meet
          exact ⟨rfl, rfl⟩
  case rest =>
  obtain ⟨rfl, rfl⟩ := hcut
  obtain ⟨I, hI, hIs, hI1, hI2⟩ : ∃ I : ByteArray, s.extract n0 n1 = I ∧ I.size = n1 - n0 ∧ (1 < n1 - n0 → ∀ h : 0 < I.size, ((I[0].toNat : Int) == 48) = false) ∧ (he = true → n1 - n0 = 1 ∧ ∀ h : 0 < I.size, ((I[0].toNat : Int) == 48) = false) := ip_facts s n0 n1 (by omega) (by omega) hlead.out hone.out
  have HIe := Keep.mk hI
  have HIs := Keep.mk hIs
  have HI := Keep.mk (And.intro hI1 hI2)
  have hIb : 0 < I.size ∧ I.size ≤ 2000000 := by omega
  have hip0 : ((I.size : Int) == 0) = false := by rw [beq_eq_false_iff_ne]; omega
  clear hI hIs hI1 hI2
  go_upto_region 21 with fail
  rw [HIe.out]
  go_upto_region 23 with fail
  go_cut [80] (fun b wc => b = .bool false ∧ w = wc)
  case first =>
    as_aux_lemma =>
    by_cases hl1 : 1 < n1 - n0
    · have i0 : 0 < I.size := by omega
      have hb : ((I[0].toNat : Int) == 48) = false := HI.out.1 (by omega) i0
      have hgt : (1 : Int) < (I.size : Int) := by have := HIs.out; omega
      go_wp2_with fail
      go_meet
      exact ⟨rfl, rfl⟩
    · have hgt : decide ((1 : Int) < (I.size : Int)) = false := by have := HIs.out; simp; omega
      go_wp2_with fail
      go_meet
      exact ⟨rfl, rfl⟩
  case rest =>
  obtain ⟨rfl, rfl⟩ := hcut
  go_upto_region 25 with fail
  go_cut [91] (fun b wc => b = .bool false ∧ w = wc)
  case first =>
    as_aux_lemma =>
    rcases Bool.eq_false_or_eq_true he with hh | hh
    · subst hh
      have i0 : 0 < I.size := by omega
      have hb : ((I[0].toNat : Int) == 48) = false := (HI.out.2 rfl).2 i0
      have hne1 : ((I.size : Int) != 1) = false := by rw [HIs.out, (HI.out.2 rfl).1]; rfl
      go_wp2_with fail
      go_meet
      exact ⟨rfl, rfl⟩
    · subst hh
      go_wp2_with fail
      go_meet
      exact ⟨rfl, rfl⟩
  case rest =>
  obtain ⟨rfl, rfl⟩ := hcut
  go_upto_region 27 with fail
  go_cut [101] (fun b wc => b = .bool hf ∧ w = wc)
  case first =>
    as_aux_lemma =>
    by_cases hend : n1 < s.size
    · have hb := T.out.isPoints hend
      have HB := Keep.mk hb
      clear hb
      go_wp2_with fail
      go_meet
      exact ⟨by rw [HB.out], rfl⟩
    · have hb := T.out.noPoints hend
      have HB := Keep.mk hb
      have hend' : decide ((n1 : Int) < (s.size : Int)) = false := by simp; omega
      clear hb
      go_wp2_with fail
      go_meet
      exact ⟨by rw [HB.out], rfl⟩
  case rest =>
  obtain ⟨rfl, rfl⟩ := hcut
  go_upto_if 101 with fail
  go_cut [9] (fun i wc => i = .int .i64 n2 ∧ w = wc)
  case first =>
    as_aux_lemma =>
    rcases Bool.eq_false_or_eq_true hf with hh | hh
    · subst hh
      have l1 := T.out.f1 rfl
      have hfr0 : ((n2 : Int) == (n1 : Int) + 1) = false := by rw [beq_eq_false_iff_ne]; omega
      have HD := Keep.mk (T.out.fd rfl)
      have n2l : n2 - 1 < s.size := by omega
      have h48 : ((s[n2 - 1].toNat : Int) == 48) = false := beq48 (hfend.out rfl n2l)
      go_upto_block 2 with fail
      go_cut [9] (fun i wc => i = .int .i64 n2 ∧ w = wc)
      case first =>
        go_wp2_with fail
        go_loopg [9] (n2 - (n1 + 1)) (fun g i wr => ∃ k : Nat, n1 + 1 ≤ k ∧ k ≤ n2 ∧ n2 - k ≤ g ∧ w = wr ∧ i = .int .i64 k)
        case atStart => exact ⟨n1 + 1, by omega, by omega, by omega, rfl, by go_num⟩
        case round =>
          obtain ⟨k, hk1, hk, hg, rfl, rfl⟩ := hrel
          by_cases hlt : k < n2
          · have hks : k < s.size := by omega
            have hc : isDig s[k] = true := HD.out k hks hk1 hlt
            go_wp2_with (go_at_call 17; refine (isDigit_any _ _).mono ?_; rintro e w' ⟨rfl, rfl⟩)
            go_roundg (n2 - (k + 1))
            case measure => omega
            case rel => exact ⟨k + 1, by omega, by omega, by omega, rfl, by go_num⟩
          · obtain rfl : k = n2 := by omega
            by_cases hend : k < s.size
            · have hc : isDig s[k] = false := T.out.end2s hend
              go_wp2_with (go_at_call 17; refine (isDigit_any _ _).mono ?_; rintro e w' ⟨rfl, rfl⟩)
              go_meet
              exact ⟨rfl, rfl⟩
            · have hend' : decide ((k : Int) < (s.size : Int)) = false := by simp; omega
              go_wp2_with fail
              go_meet
              exact ⟨rfl, rfl⟩
      case rest =>
        obtain ⟨rfl, rfl⟩ := hcut
        go_wp2_with fail
        go_meet
        exact ⟨rfl, rfl⟩
    · subst hh
      have E2 := Keep.mk (T.out.f0 rfl)
      go_wp2_with fail
      go_meet
      exact ⟨by rw [E2.out], rfl⟩
  case rest =>
  obtain ⟨rfl, rfl⟩ := hcut
  go_upto_region 37 with fail
  go_cut [134] (fun b wc => b = .bool he ∧ w = wc)
  case first =>
    as_aux_lemma =>
    rcases Bool.eq_false_or_eq_true he with hh | hh
    · subst hh
      obtain ⟨e1, e2, e3⟩ := T.out.e1 rfl
      have hlt : n2 < s.size := by omega
      have h101 : ((s[n2].toNat : Int) == 101) = true := by rw [T.out.eat rfl hlt]; rfl
      clear e1
      go_wp2_with fail
      go_meet
      exact ⟨rfl, rfl⟩
    · subst hh
      have e1 := T.out.e0 rfl
      have hge : ¬ ((n2 : Int) < (s.size : Int)) := by omega
      clear e1
      go_wp2_with fail
      go_meet
      exact ⟨rfl, rfl⟩
  case rest =>
  obtain ⟨rfl, rfl⟩ := hcut
  go_upto_if 134 with fail
  go_cut [9, 15] (fun i b wc => i = .int .i64 s.size ∧ b = .bool he ∧ w = wc)
  case first =>
    as_aux_lemma =>
    rcases Bool.eq_false_or_eq_true he with hh | hh
    · subst hh
      obtain ⟨e1, e2, e3⟩ := T.out.e1 rfl
      have hlt : n2 + 1 < s.size := by omega
      have hlen2 : n2 + 2 < s.size := by omega
      have hge0 : decide ((s.size : Int) ≤ (n2 : Int) + 1) = false := by simp; omega
      clear e1
      have h48 : ((s[n2 + 2].toNat : Int) == 48) = false := beq48 (hexh.out rfl hlen2)
      have DV : Keep (∀ k (h : k < s.size), n2 + 2 ≤ k → isDig s[k] = true) := T.out.eds rfl
      have hes : ((s.size : Int) == (n2 : Int) + 1 + 1) = false := by rw [beq_eq_false_iff_ne]; omega
      go_upto_region 40 with fail
      go_cut [152] (fun b wc => b = .bool false ∧ w = wc)
      case first =>
        rcases Bool.eq_false_or_eq_true eneg with hn | hn
        · subst hn
          have h43 : ((s[n2 + 1].toNat : Int) != 43) = true := by rw [T.out.eat2 rfl hlt]; rfl
          have h45 : ((s[n2 + 1].toNat : Int) != 45) = false := by rw [T.out.eat2 rfl hlt]; rfl
          go_wp2_with fail
          go_meet
          exact ⟨rfl, rfl⟩
        · subst hn
          have h43 : ((s[n2 + 1].toNat : Int) != 43) = false := by rw [T.out.eat2 rfl hlt]; rfl
          have h45 : ((s[n2 + 1].toNat : Int) != 45) = true := by rw [T.out.eat2 rfl hlt]; rfl
          go_wp2_with fail
          go_meet
          exact ⟨rfl, rfl⟩
      case rest =>
        obtain ⟨rfl, rfl⟩ := hcut
        go_wp2_with fail
        go_loopg [9] (s.size - (n2 + 2)) (fun g i wr => ∃ k : Nat, n2 + 2 ≤ k ∧ k ≤ s.size ∧ s.size - k ≤ g ∧ w = wr ∧ i = .int .i64 k)
        case atStart => exact ⟨n2 + 2, by omega, by omega, by omega, rfl, by go_num⟩
        case round =>
          obtain ⟨k, hk1, hk, hg, rfl, rfl⟩ := hrel
          by_cases hlt : k < s.size
          · have hks : k < s.size := by omega
            have hc : isDig s[k] = true := DV.out k hks hk1
            go_wp2_with (go_at_call 17; refine (isDigit_any _ _).mono ?_; rintro e w' ⟨rfl, rfl⟩)
            go_roundg (s.size - (k + 1))
            case measure => omega
            case rel => exact ⟨k + 1, by omega, by omega, by omega, rfl, by go_num⟩
          · obtain rfl : k = s.size := by omega
            have hend' : decide (((s.size : Nat) : Int) < (s.size : Int)) = false := by simp
            go_wp2_with fail
            go_meet
            exact ⟨rfl, rfl, rfl⟩
    · subst hh
      have E2 := Keep.mk (T.out.e0 rfl)
      go_wp2_with fail
      go_meet
      exact ⟨by rw [E2.out], rfl, rfl⟩
  case rest =>
  obtain ⟨rfl, rfl, rfl⟩ := hcut
  as_aux_lemma =>
  have hneq : ((s.size : Int) != (s.size : Int)) = false := by simp
  go_wp2_with fail
  go_ret
  exact ⟨by simp, rfl⟩

end Go.Proofs.Qxb6001520aDoor
