import Derived.Test.Qxb6001520aDoorRows
import Derived.Test.Qxb6001520aDoorPlain
import Derived.WalkKit
import Derived.WalkSpells
import Derived.WalkLawsBesides
import Derived.Deep.LoopGhost
namespace Go.Proofs.Qxb6001520aDoor
open Go.RowKit

set_option maxHeartbeats 400000 in
theorem isDigit_any (c : UInt8) (w : World) :
    Calls Tryd.prog 17 #[.int .u8 c.toNat] w fun e w' => e = .returned (.bool (isDig c)) ∧ w' = w := by
  by_cases h1 : (48 : Int) ≤ (c.toNat : Int)
  · by_cases h2 : (c.toNat : Int) ≤ 57
    · have e : isDig c = true := by simp [isDig]; omega
      rw [e]
      go_enter Tryd.func17, Tryd.ntmps17
      go_wp2
      go_ret
      exact ⟨rfl, rfl⟩
    · have e : isDig c = false := by simp [isDig]; omega
      rw [e]
      go_enter Tryd.func17, Tryd.ntmps17
      go_wp2
      go_ret
      exact ⟨rfl, rfl⟩
  · have e : isDig c = false := by simp [isDig]; omega
    rw [e]
    go_enter Tryd.func17, Tryd.ntmps17
    go_wp2
    go_ret
    exact ⟨rfl, rfl⟩

/-- A fact laid aside: the walk does not take it for a rule. -/
def Keep (p : Prop) : Prop := p
theorem Keep.mk {p : Prop} (h : p) : Keep p := h
theorem Keep.out {p : Prop} (h : Keep p) : p := h

theorem isEmpty_of (s : ByteArray) (h : s.size = 0) : s.toList.isEmpty = true := by
  rw [ByteArray.toList_eq, List.isEmpty_iff_length_eq_zero]
  simpa using h
theorem isEmpty_no (s : ByteArray) (h : ¬ s.size = 0) : s.toList.isEmpty = false := by
  rw [ByteArray.toList_eq, Bool.eq_false_iff, ne_eq, List.isEmpty_iff_length_eq_zero]
  exact h
theorem ne_48 {s : ByteArray} {i : Nat} (h : i < s.size) (hn : ¬ (s[i].toNat : Int) = 48) : s.data.toList[i]? ≠ some 48 := by
  intro e
  rw [List.getElem?_eq_getElem (by simpa using h)] at e
  have e2 : s[i] = 48 := Option.some.inj e
  rw [e2] at hn
  exact hn rfl
theorem is_45 {s : ByteArray} {i : Nat} (h : i < s.size) (hn : (s[i].toNat : Int) = 45) : s.data.toList[i]? = some 45 := by
  rw [List.getElem?_eq_getElem (by simpa using h)]
  have e2 : s[i] = 45 := UInt8.toNat_inj.1 (by show _ = 45; omega)
  exact congrArg some e2
theorem dig_all {s : ByteArray} {i : Nat} (h : ∀ t (h : t < s.size), i ≤ t → t < s.size → isDig s[t] = true) : ∀ t (h : t < s.data.toList.length), i ≤ t → isDig s.data.toList[t] = true := by
  intro t ht hi
  have ht' : t < s.size := by simpa using ht
  exact h t ht' hi ht'

/-- What zzValidAmount answers: a bool; where it is true the amount is valid. -/
def ValidOut (s : ByteArray) (exp : Int) (e : Ending) : Prop := ∃ b : Bool, e = .returned (.bool b) ∧ (b = true → Valid s.data.toList exp)
theorem ValidOut.no (s : ByteArray) (exp : Int) : ValidOut s exp (.returned (.bool false)) := ⟨false, rfl, fun h => by cases h⟩
theorem ValidOut.yes (s : ByteArray) (exp : Int) (h : Valid s.data.toList exp) : ValidOut s exp (.returned (.bool true)) := ⟨true, rfl, fun _ => h⟩
theorem int_ne_of {a : Nat} {b : Int} (h : ((a : Int) == b) = false) : ¬ (a : Int) = b := by simpa using h

set_option maxHeartbeats 400000 in
theorem valid_any (s : ByteArray) (exp : Int) (w : World) (hs : s.size ≤ 1048576) :
    Calls Tryd.prog 8 #[.string s, .int .i64 exp] w fun e w' => ValidOut s exp e ∧ w' = w := by
  by_cases h0 : s.size = 0
  · have hl : s.data.toList = [] := List.eq_nil_of_length_eq_zero (by simpa using h0)
    have hl2 := isEmpty_of s h0
    go_enter Tryd.func8, Tryd.ntmps8
    go_wp2
    go_ret
    exact ⟨⟨_, rfl, fun h => .inl ⟨hl, by simpa using h⟩⟩, rfl⟩
  have hl2 := isEmpty_no s h0
  by_cases h45 : s[0].toNat = 45
  · by_cases h1 : s.size = 1
    · go_enter Tryd.func8, Tryd.ntmps8
      go_wp2
      go_ret
      exact ⟨ValidOut.no s exp, rfl⟩
    have g1 : decide ((s.size : Int) ≤ 1) = false := decide_eq_false (by omega)
    have l1 : 1 < s.size := by omega
    cases hA : ((s[1].toNat : Int) == 48)
    · cases hB : ((s[s.size - 1].toNat : Int) == 48)
      · have HF : Keep ((∀ t (h : t < s.size), 1 ≤ t → t < s.size → isDig s[t] = true) → Valid s.data.toList exp) := fun hd =>
          valid_neg s.data.toList exp (is_45 (i := 0) (by omega) (by omega)) (by simp; omega) (ne_48 (by omega) (int_ne_of hA)) (by simpa using ne_48 (by omega) (int_ne_of hB)) (dig_all hd)
        go_enter Tryd.func8, Tryd.ntmps8
        go_wp2
        go_loopg [6] (s.size - 1) (fun g j wr => ∃ k : Nat, 1 ≤ k ∧ k ≤ s.size ∧ s.size - k ≤ g ∧ wr = w ∧ j = .int .i64 k ∧ Keep (∀ t (h : t < s.size), 1 ≤ t → t < k → isDig s[t] = true))
        case atStart => exact ⟨1, by omega, by omega, by omega, rfl, rfl, fun t h h1 h2 => by omega⟩
        case round =>
          obtain ⟨k, hk1, hk, hg, rfl, rfl, hd⟩ := hrel
          by_cases hlt : k < s.size
          · by_cases hc : isDig s[k] = true
            · go_wp2_with (go_at_call 17; refine (isDigit_any _ _).mono ?_; rintro e w' ⟨rfl, rfl⟩)
              go_roundg (s.size - (k + 1))
              case measure => omega
              case rel => exact ⟨k + 1, by omega, by omega, by omega, rfl, by go_num, fun t h h1 h2 => by
                by_cases e : t = k
                · subst e; exact hc
                · exact hd.out t h h1 (by omega)⟩
            · have hc' : isDig s[k] = false := by simpa using hc
              go_wp2_with (go_at_call 17; refine (isDigit_any _ _).mono ?_; rintro e w' ⟨rfl, rfl⟩)
              go_ret
              exact ⟨ValidOut.no s exp, rfl⟩
          · obtain rfl : k = s.size := by omega
            go_wp2
            go_ret
            exact ⟨ValidOut.yes s exp (HF.out hd.out), rfl⟩

      · go_enter Tryd.func8, Tryd.ntmps8
        go_wp2
        go_ret
        exact ⟨ValidOut.no s exp, rfl⟩
    · go_enter Tryd.func8, Tryd.ntmps8
      go_wp2
      go_ret
      exact ⟨ValidOut.no s exp, rfl⟩
  · have h45' : ((s[0].toNat : Int) == 45) = false := by simp; omega
    have l1 : 0 < s.size := by omega
    have g1 : decide ((s.size : Int) ≤ 0) = false := decide_eq_false (by omega)
    cases hA : ((s[0].toNat : Int) == 48)
    · cases hB : ((s[s.size - 1].toNat : Int) == 48)
      · have HF : Keep ((∀ t (h : t < s.size), 0 ≤ t → t < s.size → isDig s[t] = true) → Valid s.data.toList exp) := fun hd =>
          valid_pos s.data.toList exp (by simp; omega) (ne_48 (by omega) (int_ne_of hA)) (by simpa using ne_48 (by omega) (int_ne_of hB)) (dig_all hd)
        go_enter Tryd.func8, Tryd.ntmps8
        go_wp2
        go_loopg [6] (s.size - 0) (fun g j wr => ∃ k : Nat, 0 ≤ k ∧ k ≤ s.size ∧ s.size - k ≤ g ∧ wr = w ∧ j = .int .i64 k ∧ Keep (∀ t (h : t < s.size), 0 ≤ t → t < k → isDig s[t] = true))
        case atStart => exact ⟨0, by omega, by omega, by omega, rfl, rfl, fun t h h1 h2 => by omega⟩
        case round =>
          obtain ⟨k, hk1, hk, hg, rfl, rfl, hd⟩ := hrel
          by_cases hlt : k < s.size
          · by_cases hc : isDig s[k] = true
            · go_wp2_with (go_at_call 17; refine (isDigit_any _ _).mono ?_; rintro e w' ⟨rfl, rfl⟩)
              go_roundg (s.size - (k + 1))
              case measure => omega
              case rel => exact ⟨k + 1, by omega, by omega, by omega, rfl, by go_num, fun t h h1 h2 => by
                by_cases e : t = k
                · subst e; exact hc
                · exact hd.out t h h1 (by omega)⟩
            · have hc' : isDig s[k] = false := by simpa using hc
              go_wp2_with (go_at_call 17; refine (isDigit_any _ _).mono ?_; rintro e w' ⟨rfl, rfl⟩)
              go_ret
              exact ⟨ValidOut.no s exp, rfl⟩
          · obtain rfl : k = s.size := by omega
            go_wp2
            go_ret
            exact ⟨ValidOut.yes s exp (HF.out hd.out), rfl⟩

      · go_enter Tryd.func8, Tryd.ntmps8
        go_wp2
        go_ret
        exact ⟨ValidOut.no s exp, rfl⟩
    · go_enter Tryd.func8, Tryd.ntmps8
      go_wp2
      go_ret
      exact ⟨ValidOut.no s exp, rfl⟩

end Go.Proofs.Qxb6001520aDoor
