import Derived.Test.Qxb6001520aDoorWalk0
import Derived.Test.Qxb6001520aDoorPlain2
import Derived.Deep.CutRange
import Derived.Lib.IndexBytes
namespace Go.Proofs.Qxb6001520aDoor
open Go.RowKit

set_option maxHeartbeats 1000000 in
set_option maxRecDepth 100000 in
/-- zzParseNumber reads "0" as zero. -/
theorem parse_zero (s : ByteArray) (w : World) (hl : Keep (s.data.toList = [48])) :
    Calls Tryd.prog 13 #[.string s] w fun e w' => e = .returned (.tuple #[.string ⟨#[]⟩, .int .i64 0, .bool true]) ∧ w' = w := by
  have hsz : s.size = 1 := size_of_data s _ hl.out
  have h0 : 0 < s.size := by omega
  have e48 : s[0] = 48 := by obtain ⟨h', e⟩ := getElem_data s _ hl.out 0 h0; simpa using e
  have hne : ((s[0].toNat : Int) == 45) = false := by rw [e48]; rfl
  have hd : isDig s[0] = true := by rw [e48]; decide
  have hs0 : ((s.size : Int) == 0) = false := by rw [hsz]; rfl
  have b1 : s.size ≤ 1 := by omega
  have b2 : decide ((1 : Int) < (s.size : Int)) = false := by simp; omega
  have HSZ := Keep.mk hsz
  obtain ⟨D, hDD, hDl⟩ : ∃ D : ByteArray, (s.extract 0 1 ++ ⟨#[]⟩ : ByteArray) = D ∧ D.data.toList = [48] := ⟨_, rfl, by rw [ByteArray.data_append, Array.toList_append, Lib.extract_data, hl.out]; rfl⟩
  have HDD := Keep.mk hDD
  have hDs := size_of_data D _ hDl
  have d0 : 0 < D.size := by rw [hDs]; decide
  have d48 : ((D[0].toNat : Int) == 48) = true := by obtain ⟨h', e⟩ := getElem_data D _ hDl 0 d0; rw [e]; rfl
  have d2 : D.size ≤ 1 := by rw [hDs]; decide
  have d3 : decide ((1 : Int) < (D.size : Int)) = false := by simp; omega
  obtain ⟨D2, hD2, hD2s⟩ : ∃ D2 : ByteArray, D.extract 1 D.size = D2 ∧ D2.size = 0 := ⟨_, rfl, by simp; omega⟩
  have HD2 := Keep.mk hD2
  have hne2 := isEmpty_of D2 hD2s
  clear hsz e48 hDD hDl hDs hD2 hD2s
  go_enter Tryd.func13, Tryd.ntmps13
  go_wp2_with fail
  go_loopg [5] 1 (fun g i wr => ∃ k : Nat, k ≤ 1 ∧ 1 - k ≤ g ∧ w = wr ∧ i = .int .i64 k)
  case atStart => exact ⟨0, by omega, by omega, rfl, rfl⟩
  case round =>
  obtain ⟨k, hk, hg, rfl, rfl⟩ := hrel
  by_cases hk0 : k = 0
  · subst hk0
    go_wp2_with (go_at_call 17; refine (isDigit_any _ _).mono ?_; rintro e w' ⟨rfl, rfl⟩)
    go_roundg 0
    case measure => omega
    case rel => exact ⟨1, by omega, by omega, rfl, rfl⟩
  obtain rfl : k = 1 := by omega
  clear hk0
  have hip0 : ((↑(min 1 s.size - 0) : Int) == 0) = false := by rw [beq_eq_false_iff_ne]; omega
  have hneq : ((1 : Int) != (s.size : Int)) = false := by rw [HSZ.out]; rfl
  go_upto_region 43 with fail
  rw [HDD.out]
  go_wp2_with fail
  go_loopg [15] 1 (fun g i wr => ∃ k : Nat, k ≤ 1 ∧ 1 - k ≤ g ∧ w = wr ∧ i = .int .i64 k)
  case atStart => exact ⟨0, by omega, by omega, rfl, rfl⟩
  case round =>
  obtain ⟨k, hk, hg, rfl, rfl⟩ := hrel
  by_cases hk0 : k = 0
  · subst hk0
    go_wp2_with fail
    go_roundg 0
    case measure => omega
    case rel => exact ⟨1, by omega, by omega, rfl, rfl⟩
  obtain rfl : k = 1 := by omega
  clear hk0
  go_upto_region 48 with fail
  rw [HD2.out]
  go_wp2_with fail
  go_ret3
  exact ⟨rfl, rfl⟩

end Go.Proofs.Qxb6001520aDoor
