import Derived.Test.Qxb6001520aDoorWalk0
import Derived.Test.Qxb6001520aDoorPlain2
import Derived.Deep.DeepCutAuto
import Derived.Deep.CutBlock
import Derived.Lib.IndexBytes
namespace Go.Proofs.Qxb6001520aDoor
open Go.RowKit

theorem byte_eq_int {s : ByteArray} {i : Nat} {h : i < s.size} {c : UInt8} (e : s[i] = c) : (s[i].toNat : Int) = (c.toNat : Int) := by rw [e]

theorem not_dig {s : ByteArray} {i : Nat} {h : i < s.size} {c : UInt8} (e : s[i] = c) (hc : isDig c = false) : isDig s[i] = false := by rw [e]; exact hc

/-- Where the whole digits end there is no digit. -/
theorem Txt.end1 {s : ByteArray} {neg hf he eneg : Bool} {n0 n1 n2 : Nat} {ds : List UInt8} (T : Txt s neg hf he eneg n0 n1 n2 ds) (h : n1 < s.size) : isDig s[n1] = false := by
  cases hf with
  | true => exact not_dig (T.fat rfl h) (by decide)
  | false =>
    have e := T.f0 rfl
    subst e
    cases he with
    | true => exact not_dig (T.eat rfl h) (by decide)
    | false => have := T.e0 rfl; omega
theorem Txt.end2 {s : ByteArray} {neg hf he eneg : Bool} {n0 n1 n2 : Nat} {ds : List UInt8} (T : Txt s neg hf he eneg n0 n1 n2 ds) (h : n2 < s.size) : isDig s[n2] = false := by
  cases he with
  | true => exact not_dig (T.eat rfl h) (by decide)
  | false => have := T.e0 rfl; omega

theorem Txt.isPoint {s : ByteArray} {neg hf he eneg : Bool} {n0 n1 n2 : Nat} {ds : List UInt8} (T : Txt s neg hf he eneg n0 n1 n2 ds) (h : n1 < s.size) : ((s[n1].toNat : Int) == 46) = hf := by
  cases hf with
  | true => rw [T.fat rfl h]; rfl
  | false =>
    have e := T.f0 rfl
    subst e
    cases he with
    | true => rw [T.eat rfl h]; rfl
    | false => have := T.e0 rfl; omega
theorem Txt.noPoint {s : ByteArray} {neg hf he eneg : Bool} {n0 n1 n2 : Nat} {ds : List UInt8} (T : Txt s neg hf he eneg n0 n1 n2 ds) (h : ¬ n1 < s.size) : hf = false := by
  cases hf with
  | true => have := T.f1 rfl; have := T.h2s; omega
  | false => rfl

theorem Txt.dstep {s : ByteArray} {neg hf he eneg : Bool} {n0 n1 n2 : Nat} {ds : List UInt8} (T : Txt s neg hf he eneg n0 n1 n2 ds) (hh : he = true) : ∀ k (h : k < s.size), n2 + 2 ≤ k →
    isDig s[k] = true ∧ (dval (ds.take (k + 1 - (n2 + 2))) : Int) = (dval (ds.take (k - (n2 + 2))) : Int) * 10 + ((s[k].toNat : Int) - 48) ∧ (dval (ds.take (k - (n2 + 2))) : Int) < 100000000000 := by
  intro k h h2
  obtain ⟨e1, e2, e3⟩ := T.e1 hh
  have hj : k - (n2 + 2) < ds.length := by omega
  have e := T.ed hh k h h2 hj
  have hd : isDig s[k] = true := by rw [e]; exact T.edd _ (List.getElem_mem _)
  refine ⟨hd, ?_, ?_⟩
  · rw [show k + 1 - (n2 + 2) = (k - (n2 + 2)) + 1 by omega, List.take_succ_eq_append_getElem hj, dval_snoc, ← e]
    simp [isDig] at hd
    omega
  · have h1 := dval_lt (ds.take (k - (n2 + 2))) fun c hc => T.edd c (List.mem_of_mem_take hc)
    have h3 : (ds.take (k - (n2 + 2))).length ≤ 11 := by simp; omega
    have h4 : (10 : Nat) ^ (ds.take (k - (n2 + 2))).length ≤ 10 ^ 11 := Nat.pow_le_pow_right (by decide) h3
    have h5 : (10 : Nat) ^ 11 = 100000000000 := by decide
    omega

theorem Txt.vstep {s : ByteArray} {neg hf he eneg : Bool} {n0 n1 n2 : Nat} {ds : List UInt8} (T : Txt s neg hf he eneg n0 n1 n2 ds) (hh : he = true) (k v : Nat) (h : k < s.size) (h2 : n2 + 2 ≤ k) (hv : v = dval (ds.take (k - (n2 + 2)))) :
    Value.int .i64 ((v : Int) * 10 + ((s[k].toNat : Int) - 48) % 256) = Value.int .i64 (dval (ds.take (k + 1 - (n2 + 2))) : Int) ∧ dval (ds.take (k + 1 - (n2 + 2))) ≤ 99999999999 := by
  obtain ⟨hd, h3, _⟩ := T.dstep hh k h h2
  subst hv
  simp [isDig] at hd
  refine ⟨by rw [h3]; congr 2; omega, ?_⟩
  have h1 := dval_lt (ds.take (k + 1 - (n2 + 2))) fun c hc => T.edd c (List.mem_of_mem_take hc)
  obtain ⟨e1, e2, e3⟩ := T.e1 hh
  have h4 : (10 : Nat) ^ (ds.take (k + 1 - (n2 + 2))).length ≤ 10 ^ 11 := Nat.pow_le_pow_right (by decide) (by simp; omega)
  have h5 : (10 : Nat) ^ 11 = 100000000000 := by decide
  omega
theorem Txt.dbound {s : ByteArray} {neg hf he eneg : Bool} {n0 n1 n2 : Nat} {ds : List UInt8} (T : Txt s neg hf he eneg n0 n1 n2 ds) (hh : he = true) : (dval ds : Int) < 100000000000 := by
  obtain ⟨e1, e2, e3⟩ := T.e1 hh
  have h1 := dval_lt ds T.edd
  have h4 : (10 : Nat) ^ ds.length ≤ 10 ^ 11 := Nat.pow_le_pow_right (by decide) e3
  have h5 : (10 : Nat) ^ 11 = 100000000000 := by decide
  omega
theorem Txt.takeAll {s : ByteArray} {neg hf he eneg : Bool} {n0 n1 n2 : Nat} {ds : List UInt8} (T : Txt s neg hf he eneg n0 n1 n2 ds) (hh : he = true) : ds.take (s.size - (n2 + 2)) = ds := by
  obtain ⟨e1, e2, e3⟩ := T.e1 hh
  exact List.take_of_length_le (by omega)

theorem ret_parse {a : ByteArray} {l : List UInt8} {x y : Int} (h : a.data.toList = l) (hx : x = y) : Ending.returned (.tuple #[.string a, .int .i64 x, .bool true]) = .returned (.tuple #[.string ⟨l.toArray⟩, .int .i64 y, .bool true]) := by
  have : a = ⟨l.toArray⟩ := by apply WideShapes.bytes_inj; simpa using h
  rw [this, hx]

set_option maxHeartbeats 4000000 in
set_option maxRecDepth 100000 in
theorem parse_any (s : ByteArray) (w : World) (neg hf he eneg : Bool) (n0 n1 n2 : Nat) (ds : List UInt8) (T : Keep (Txt s neg hf he eneg n0 n1 n2 ds)) (hsz : s.size ≤ 2000000)
    (F : ByteArray) (hF : Keep (F = if hf then s.extract (n1 + 1) n2 else ⟨#[]⟩))
    (E : Int) (hE : Keep (E = if he then (if eneg then -(dval ds : Int) else dval ds) else 0))
    (m : List UInt8) (z1 z2 : Nat) (hm : Keep (Mag m)) (hD : Keep ((s.extract n0 n1).data.toList ++ F.data.toList = List.replicate z1 48 ++ (m ++ List.replicate z2 48))) :
    Calls Tryd.prog 13 #[.string s] w fun e w' => e = .returned (.tuple #[.string ⟨(sgn neg ++ m).toArray⟩, .int .i64 (E - F.size + z2), .bool true]) ∧ w' = w := by
  have l01 := T.out.h01
  have l12 := T.out.h12
  have l2s := T.out.h2s
  have hs0 : ((s.size : Int) == 0) = false := by rw [beq_eq_false_iff_ne]; omega
  have z0 : 0 < s.size := by omega
  have hn0 : n0 ≤ 1 := by rw [T.out.h0]; split <;> omega
  go_enter Tryd.func13, Tryd.ntmps13
  go_upto_if 22 with fail
  go_cut [5, 6] (fun a b wc => a = .int .i64 n0 ∧ b = .bool neg ∧ w = wc)
  case first =>
    as_aux_lemma =>
    rcases Bool.eq_false_or_eq_true neg with hneg | hneg
    · have e0 : n0 = 1 := by rw [T.out.h0, hneg]; rfl
      have h45 : ((s[0].toNat : Int) == 45) = true := by rw [T.out.at0 hneg z0]; rfl
      have E0 := Keep.mk e0
      have EN := Keep.mk hneg
      clear e0 hneg
      go_wp2_with fail
      go_meet
      exact ⟨by rw [E0.out]; rfl, by rw [EN.out], rfl⟩
    · have e0 : n0 = 0 := by rw [T.out.h0, hneg]; rfl
      have hd := T.out.d1 0 z0 (by omega) (by omega)
      have hne : ((s[0].toNat : Int) == 45) = false := by simp [isDig] at hd; simp; omega
      have E0 := Keep.mk e0
      have EN := Keep.mk hneg
      clear e0 hd hneg
      go_wp2_with fail
      go_meet
      exact ⟨by rw [E0.out]; rfl, by rw [EN.out], rfl⟩
  case rest =>
  obtain ⟨rfl, rfl, rfl⟩ := hcut
  go_upto_block 0 with fail
  go_cut [5] (fun i wc => i = .int .i64 n1 ∧ w = wc)
  case first =>
    as_aux_lemma =>
    go_wp2_with fail
    go_loopg [5] (n1 - (n0)) (fun g i wr => ∃ k : Nat, n0 ≤ k ∧ k ≤ n1 ∧ n1 - k ≤ g ∧ w = wr ∧ i = .int .i64 k)
    case atStart => exact ⟨n0, by omega, by omega, by omega, rfl, rfl⟩
    case round =>
      obtain ⟨k, hk1, hk, hg, rfl, rfl⟩ := hrel
      by_cases hlt : k < n1
      · have hks : k < s.size := by omega
        have hc : isDig s[k] = true := T.out.d1 k hks hk1 hlt
        go_wp2_with (go_at_call 17; refine (isDigit_any _ _).mono ?_; rintro e w' ⟨rfl, rfl⟩)
        go_roundg (n1 - (k + 1))
        case measure => omega
        case rel => exact ⟨k + 1, by omega, by omega, by omega, rfl, by go_num⟩
      · obtain rfl : k = n1 := by omega
        by_cases hend : k < s.size
        · have hc : isDig s[k] = false := T.out.end1 hend
          go_wp2_with (go_at_call 17; refine (isDigit_any _ _).mono ?_; rintro e w' ⟨rfl, rfl⟩)
          go_meet
          exact ⟨rfl, rfl⟩
        · have hend' : decide ((k : Int) < (s.size : Int)) = false := by simp; omega
          go_wp2_with fail
          go_meet
          exact ⟨rfl, rfl⟩
  case rest =>
  obtain ⟨rfl, rfl⟩ := hcut
  have hip0 : ((↑(min n1 s.size - n0) : Int) == 0) = false := by rw [beq_eq_false_iff_ne]; omega
  go_upto_region 15 with fail
  go_cut [52] (fun b wc => b = .bool hf ∧ w = wc)
  case first =>
    as_aux_lemma =>
    by_cases hend : n1 < s.size
    · have hb := T.out.isPoint hend
      have HB := Keep.mk hb
      clear hb
      go_wp2_with fail
      go_meet
      exact ⟨by rw [HB.out], rfl⟩
    · have hb := T.out.noPoint hend
      have HB := Keep.mk hb
      have hend' : decide ((n1 : Int) < (s.size : Int)) = false := by simp; omega
      clear hb
      go_wp2_with fail
      go_meet
      exact ⟨by rw [HB.out], rfl⟩
  case rest =>
  obtain ⟨rfl, rfl⟩ := hcut
  go_upto_if 52 with fail
  go_cut [5, 9] (fun i fr wc => i = .int .i64 n2 ∧ fr = .string F ∧ w = wc)
  case first =>
    as_aux_lemma =>
    rcases Bool.eq_false_or_eq_true hf with hh | hh
    · subst hh
      have l1 := T.out.f1 rfl
      have hfr0 : ((↑(min n2 s.size - (n1 + 1)) : Int) == 0) = false := by rw [beq_eq_false_iff_ne]; omega
      have HF : Keep (F = s.extract (n1 + 1) n2) := hF.out
      have HD := Keep.mk (T.out.fd rfl)
      go_upto_block 2 with fail
      go_cut [5] (fun i wc => i = .int .i64 n2 ∧ w = wc)
      case first =>
        go_wp2_with fail
        go_loopg [5] (n2 - (n1 + 1)) (fun g i wr => ∃ k : Nat, n1 + 1 ≤ k ∧ k ≤ n2 ∧ n2 - k ≤ g ∧ w = wr ∧ i = .int .i64 k)
        case atStart => exact ⟨n1 + 1, by omega, by omega, by omega, rfl, by go_num⟩
        case round =>
          obtain ⟨k, hk1, hk, hg, rfl, rfl⟩ := hrel
          by_cases hlt : k < n2
          · have hks : k < s.size := by omega
            have hc : isDig s[k] = true := HD.out k hks hk1 hlt
            go_wp2_with (go_at_call 17; refine (isDigit_any _ _).mono ?_; rintro e w' ⟨rfl, rfl⟩)
            go_roundg (n2 - (k + 1))
            case measure => omega
            case rel => exact ⟨k + 1, by omega, by omega, by omega, rfl, by go_num⟩
          · obtain rfl : k = n2 := by omega
            by_cases hend : k < s.size
            · have hc : isDig s[k] = false := T.out.end2 hend
              go_wp2_with (go_at_call 17; refine (isDigit_any _ _).mono ?_; rintro e w' ⟨rfl, rfl⟩)
              go_meet
              exact ⟨rfl, rfl⟩
            · have hend' : decide ((k : Int) < (s.size : Int)) = false := by simp; omega
              go_wp2_with fail
              go_meet
              exact ⟨rfl, rfl⟩
      case rest =>
        obtain ⟨rfl, rfl⟩ := hcut
        go_wp2_with fail
        go_meet
        exact ⟨rfl, by rw [HF.out], rfl⟩
    · subst hh
      have E2 := Keep.mk (T.out.f0 rfl)
      have HF : Keep (F = ⟨#[]⟩) := hF.out
      go_wp2_with fail
      go_meet
      exact ⟨by rw [E2.out], by rw [HF.out], rfl⟩
  case rest =>
  obtain ⟨rfl, rfl, rfl⟩ := hcut
  go_upto_region 24 with fail
  go_cut [90] (fun b wc => b = .bool he ∧ w = wc)
  case first =>
    as_aux_lemma =>
    rcases Bool.eq_false_or_eq_true he with hh | hh
    · subst hh
      obtain ⟨e1, e2, e3⟩ := T.out.e1 rfl
      have hlt : n2 < s.size := by omega
      have h101 : ((s[n2].toNat : Int) == 101) = true := by rw [T.out.eat rfl hlt]; rfl
      clear e1
      go_wp2_with fail
      go_meet
      exact ⟨rfl, rfl⟩
    · subst hh
      have e1 := T.out.e0 rfl
      have hge : ¬ ((n2 : Int) < (s.size : Int)) := by omega
      clear e1
      go_wp2_with fail
      go_meet
      exact ⟨rfl, rfl⟩
  case rest =>
  obtain ⟨rfl, rfl⟩ := hcut
  go_upto_if 90 with fail
  go_cut [5, 11] (fun i ev wc => i = .int .i64 s.size ∧ ev = .int .i64 E ∧ w = wc)
  case first =>
    as_aux_lemma =>
    rcases Bool.eq_false_or_eq_true he with hh | hh
    · subst hh
      obtain ⟨e1, e2, e3⟩ := T.out.e1 rfl
      have hlt : n2 + 1 < s.size := by omega
      have hlen : s.size ≤ n2 + 13 := by omega
      have hlen2 : n2 + 2 < s.size := by omega
      clear e1
      have DV := Keep.mk (T.out.dstep rfl)
      rcases Bool.eq_false_or_eq_true eneg with hn | hn
      · subst hn
        have h43 : ((s[n2 + 1].toNat : Int) == 43) = false := by rw [T.out.eat2 rfl hlt]; rfl
        have h45 : ((s[n2 + 1].toNat : Int) == 45) = true := by rw [T.out.eat2 rfl hlt]; rfl
        go_wp2_with fail
        go_loopg [5, 11] (s.size - (n2 + 2)) (fun g i ev wr => ∃ k v : Nat, n2 + 2 ≤ k ∧ k ≤ s.size ∧ s.size - k ≤ g ∧ w = wr ∧ i = .int .i64 k ∧ ev = .int .i64 v ∧ v ≤ 99999999999 ∧ Keep (v = dval (ds.take (k - (n2 + 2)))))
        case atStart => exact ⟨n2 + 2, 0, by omega, by omega, by omega, rfl, by go_num, rfl, by omega, by simp [Keep, dval]⟩
        case round =>
          obtain ⟨k, v, hk1, hk, hg, rfl, rfl, rfl, hb, hv⟩ := hrel
          by_cases hks : k < s.size
          · have hd := DV.out k hks hk1
            have hc : isDig s[k] = true := hd.1
            have HVv := Keep.mk hd
            clear hd
            go_wp2_with (go_at_call 17; refine (isDigit_any _ _).mono ?_; rintro e w' ⟨rfl, rfl⟩)
            go_roundg (s.size - (k + 1))
            case measure => omega
            case rel => exact ⟨k + 1, _, by omega, by omega, by omega, rfl, by go_num, (T.out.vstep rfl k v hks hk1 hv.out).1, (T.out.vstep rfl k v hks hk1 hv.out).2, Keep.mk rfl⟩
          · obtain rfl : k = s.size := by omega
            have hes : ((s.size : Int) == (n2 : Int) + 1 + 1) = false := by rw [beq_eq_false_iff_ne]; omega
            have HV2 : Keep (v = dval ds) := by have := hv.out; rwa [T.out.takeAll rfl] at this
            clear hv
            go_wp2_with fail
            go_meet
            exact ⟨rfl, by rw [hE.out, ← HV2.out]; rfl, rfl⟩
      · subst hn
        have h43 : ((s[n2 + 1].toNat : Int) == 43) = true := by rw [T.out.eat2 rfl hlt]; rfl
        have h45 : ((s[n2 + 1].toNat : Int) == 45) = false := by rw [T.out.eat2 rfl hlt]; rfl
        go_wp2_with fail
        go_loopg [5, 11] (s.size - (n2 + 2)) (fun g i ev wr => ∃ k v : Nat, n2 + 2 ≤ k ∧ k ≤ s.size ∧ s.size - k ≤ g ∧ w = wr ∧ i = .int .i64 k ∧ ev = .int .i64 v ∧ v ≤ 99999999999 ∧ Keep (v = dval (ds.take (k - (n2 + 2)))))
        case atStart => exact ⟨n2 + 2, 0, by omega, by omega, by omega, rfl, by go_num, rfl, by omega, by simp [Keep, dval]⟩
        case round =>
          obtain ⟨k, v, hk1, hk, hg, rfl, rfl, rfl, hb, hv⟩ := hrel
          by_cases hks : k < s.size
          · have hd := DV.out k hks hk1
            have hc : isDig s[k] = true := hd.1
            have HVv := Keep.mk hd
            clear hd
            go_wp2_with (go_at_call 17; refine (isDigit_any _ _).mono ?_; rintro e w' ⟨rfl, rfl⟩)
            go_roundg (s.size - (k + 1))
            case measure => omega
            case rel => exact ⟨k + 1, _, by omega, by omega, by omega, rfl, by go_num, (T.out.vstep rfl k v hks hk1 hv.out).1, (T.out.vstep rfl k v hks hk1 hv.out).2, Keep.mk rfl⟩
          · obtain rfl : k = s.size := by omega
            have hes : ((s.size : Int) == (n2 : Int) + 1 + 1) = false := by rw [beq_eq_false_iff_ne]; omega
            have HV2 : Keep (v = dval ds) := by have := hv.out; rwa [T.out.takeAll rfl] at this
            clear hv
            go_wp2_with fail
            go_meet
            exact ⟨rfl, by rw [hE.out, ← HV2.out]; rfl, rfl⟩
    · subst hh
      have EV : Keep (E = 0) := hE.out
      have E2 := Keep.mk (T.out.e0 rfl)
      go_wp2_with fail
      go_meet
      exact ⟨by rw [E2.out], by rw [EV.out], rfl⟩
  case rest =>
  obtain ⟨rfl, rfl, rfl⟩ := hcut
  as_aux_lemma =>
  have hE0 : -99999999999 ≤ E ∧ E ≤ 99999999999 := T.out.eBound hE.out
  obtain ⟨hE1, hE2⟩ := hE0
  have hFs : F.size ≤ 2000000 := T.out.fBound hsz hF.out
  obtain ⟨D, hDD, hDl⟩ : ∃ D : ByteArray, (s.extract n0 n1 ++ F : ByteArray) = D ∧ D.data.toList = List.replicate z1 48 ++ (m ++ List.replicate z2 48) := ⟨_, rfl, by rw [ByteArray.data_append, Array.toList_append]; exact hD.out⟩
  have HDD := Keep.mk hDD
  have HDl := Keep.mk hDl
  have hDs : D.size ≤ 4000000 := by rw [← hDD, ByteArray.size_append]; simp; omega
  have hDsz := size_of_data D _ hDl
  simp only [List.length_append, List.length_replicate] at hDsz
  have hz1 : z1 < D.size := (at_first D m _ z1 hDl hm.out).1
  have hz2 : z2 ≤ D.size := by omega
  clear hDD hDl hDsz
  go_upto_region 43 with fail
  rw [HDD.out]
  go_wp2_with fail
  go_loopg [15] z1 (fun g lo wr => ∃ k : Nat, k ≤ z1 ∧ z1 - k ≤ g ∧ w = wr ∧ lo = .int .i64 k)
  case atStart => exact ⟨0, by omega, by omega, rfl, rfl⟩
  case round =>
  obtain ⟨k, hk, hg, rfl, rfl⟩ := hrel
  by_cases hlt : k < z1
  · have hks : k < D.size := by omega
    have h48 := at_zeros1 D _ z1 HDl.out k hks hlt
    go_wp2_with fail
    go_roundg (z1 - (k + 1))
    case measure => omega
    case rel => exact ⟨k + 1, by omega, by omega, rfl, by go_num⟩
  obtain rfl : k = z1 := by omega
  have hn48 := (at_first D m _ k HDl.out hm.out).2
  go_upto_region 48 with fail
  obtain ⟨D2, hD2, hl2⟩ : ∃ D2 : ByteArray, D.extract k D.size = D2 ∧ D2.data.toList = m ++ List.replicate z2 48 := ⟨_, rfl, by rw [Lib.extract_to_end, HDl.out]; simp⟩
  rw [hD2]
  have HL2 := Keep.mk hl2
  have h2sz := size_of_data D2 _ hl2
  simp only [List.length_append, List.length_replicate] at h2sz
  have hmp : 0 < m.length := List.length_pos_iff.2 hm.out.ne
  have H2S := Keep.mk h2sz
  have h2s : m.length ≤ D2.size ∧ D2.size ≤ 4000000 ∧ z2 ≤ 4000000 ∧ D2.size ≤ m.length + z2 := by
    have : D2.size ≤ D.size := by rw [← hD2]; simp
    omega
  have hne2 := isEmpty_no D2 (by omega)
  clear hD2 hl2 h2sz
  go_wp2_with fail
  go_loopg [11, 16] z2 (fun g ev hi wr => ∃ j : Nat, j ≤ z2 ∧ j ≤ g ∧ w = wr ∧ hi = .int .i64 ((m.length + j : Nat) : Int) ∧ ev = .int .i64 (E - F.size + ((z2 - j : Nat) : Int)))
  case atStart => exact ⟨z2, by omega, by omega, rfl, by rw [H2S.out], by simp⟩
  case round =>
  obtain ⟨j, hj, hg, rfl, rfl, rfl⟩ := hrel
  have HJ2 := Keep.mk (H2S.out)
  by_cases hj0 : j = 0
  · subst hj0
    have hlast := (at_last D2 m _ HL2.out hm.out)
    have hix : m.length - 1 < D2.size := by omega
    have h48 : ((D2[m.length - 1].toNat : Int) == 48) = false := hlast.2
    clear hlast
    rcases Bool.eq_false_or_eq_true neg with hn | hn
    · subst hn
      go_wp2_with fail
      go_ret3
      exact ⟨ret_parse (by rw [ByteArray.data_append, Array.toList_append, Lib.extract_data, HL2.out]; simp [sgn]) (by simp), rfl⟩
    · subst hn
      go_wp2_with fail
      go_ret3
      exact ⟨ret_parse (by rw [Lib.extract_data, HL2.out]; simp [sgn]) (by simp), rfl⟩
  · have hix : m.length + j - 1 < D2.size := by have := H2S.out; omega
    have h48 := at_zeros2 D2 m z2 HL2.out (m.length + j - 1) hix (by omega)
    go_wp2_with fail
    go_roundg (j - 1)
    case measure => omega
    case rel => exact ⟨j - 1, by omega, by omega, rfl, congrArg _ (by omega), congrArg _ (by omega)⟩

end Go.Proofs.Qxb6001520aDoor
