/-
  THE PLAIN TEXT of the seat's laws: amounts as lists of bytes; no Go in sight.
-/
import Derived.Lib.ItoaNum
import Derived.Lib.ItoaLen
namespace Go.Proofs.Qxb6001520aDoor
open Go

/-- A decimal digit. -/
def isDig (c : UInt8) : Bool := decide (48 ≤ c.toNat) && decide (c.toNat ≤ 57)

/-- A sign: '-' or nothing. -/
def sgn (neg : Bool) : List UInt8 := if neg then [45] else []

/-- A magnitude: digits alone, at least one, neither the first nor the last is '0'. -/
structure Mag (m : List UInt8) : Prop where
  ne : m ≠ []
  dig : ∀ c ∈ m, isDig c = true
  hd : m.head? ≠ some 48
  last : m.getLast? ≠ some 48

/-- What the type's invariant says of an amount. -/
def Valid (l : List UInt8) (exp : Int) : Prop := (l = [] ∧ exp = 0) ∨ ∃ neg m, l = sgn neg ++ m ∧ Mag m

theorem mag_of (l : List UInt8) (i : Nat) (hi : i < l.length) (h0 : l[i]? ≠ some 48) (h1 : l[l.length - 1]? ≠ some 48)
    (hd : ∀ t (h : t < l.length), i ≤ t → isDig l[t] = true) : Mag (l.drop i) := by
  refine ⟨?_, ?_, ?_, ?_⟩
  · intro h
    have := congrArg List.length h
    simp at this
    omega
  · intro c hc
    obtain ⟨t, ht, rfl⟩ := List.mem_iff_getElem.1 hc
    rw [List.getElem_drop]
    exact hd _ _ (by omega)
  · rw [List.head?_drop]; exact h0
  · rw [List.getLast?_drop, if_neg (by omega), List.getLast?_eq_getElem?]; exact h1

theorem valid_neg (l : List UInt8) (exp : Int) (h45 : l[0]? = some 45) (hi : 1 < l.length) (h0 : l[1]? ≠ some 48) (h1 : l[l.length - 1]? ≠ some 48)
    (hd : ∀ t (h : t < l.length), 1 ≤ t → isDig l[t] = true) : Valid l exp := by
  refine .inr ⟨true, l.drop 1, ?_, mag_of l 1 hi h0 h1 hd⟩
  cases l with
  | nil => simp at hi
  | cons a r => simp at h45; subst h45; simp [sgn]

theorem valid_pos (l : List UInt8) (exp : Int) (hi : 0 < l.length) (h0 : l[0]? ≠ some 48) (h1 : l[l.length - 1]? ≠ some 48)
    (hd : ∀ t (h : t < l.length), 0 ≤ t → isDig l[t] = true) : Valid l exp := by
  have := mag_of l 0 hi h0 h1 hd
  exact .inr ⟨false, l, by simp [sgn], by simpa using this⟩

/-- The exponent's text: its sign, then its digits. -/
def expText (n : Int) : List UInt8 := if 0 ≤ n then 43 :: Lib.itoa n else Lib.itoa n

/-- The text of the amount m x 10^exp, without its sign. -/
def body (m : List UInt8) (exp : Int) : List UInt8 :=
  if (m.length : Int) + exp - 1 < -6 ∨ 21 ≤ (m.length : Int) + exp - 1 then m.take 1 ++ ((if 1 < m.length then 46 :: m.drop 1 else []) ++ 101 :: expText ((m.length : Int) + exp - 1))
  else if 0 ≤ exp then m ++ List.replicate exp.toNat 48
  else if 0 < (m.length : Int) + exp then m.take ((m.length : Int) + exp).toNat ++ 46 :: m.drop ((m.length : Int) + exp).toNat
  else 48 :: 46 :: (List.replicate (-((m.length : Int) + exp)).toNat 48 ++ m)

theorem expText_neg {n : Int} (h : n < 0) : expText n = Lib.itoa n := by unfold expText; rw [if_neg (by omega)]
theorem expText_pos {n : Int} (h : 0 ≤ n) : expText n = 43 :: Lib.itoa n := by unfold expText; rw [if_pos h]
theorem body_E1 {m : List UInt8} {exp : Int} (h : (m.length : Int) + exp - 1 < -6 ∨ 21 ≤ (m.length : Int) + exp - 1) (h1 : 1 < m.length) :
    body m exp = m.take 1 ++ (46 :: m.drop 1 ++ 101 :: expText ((m.length : Int) + exp - 1)) := by unfold body; rw [if_pos h, if_pos h1]
theorem body_E2 {m : List UInt8} {exp : Int} (h : (m.length : Int) + exp - 1 < -6 ∨ 21 ≤ (m.length : Int) + exp - 1) (h1 : ¬ 1 < m.length) :
    body m exp = m.take 1 ++ 101 :: expText ((m.length : Int) + exp - 1) := by unfold body; rw [if_pos h, if_neg h1]; rfl
theorem body_P1 {m : List UInt8} {exp : Int} (h : ¬ ((m.length : Int) + exp - 1 < -6 ∨ 21 ≤ (m.length : Int) + exp - 1)) (h1 : 0 ≤ exp) :
    body m exp = m ++ List.replicate exp.toNat 48 := by unfold body; rw [if_neg h, if_pos h1]
theorem body_P2 {m : List UInt8} {exp : Int} (h : ¬ ((m.length : Int) + exp - 1 < -6 ∨ 21 ≤ (m.length : Int) + exp - 1)) (h1 : ¬ 0 ≤ exp) (h2 : 0 < (m.length : Int) + exp) :
    body m exp = m.take ((m.length : Int) + exp).toNat ++ 46 :: m.drop ((m.length : Int) + exp).toNat := by unfold body; rw [if_neg h, if_neg h1, if_pos h2]
theorem body_P3 {m : List UInt8} {exp : Int} (h : ¬ ((m.length : Int) + exp - 1 < -6 ∨ 21 ≤ (m.length : Int) + exp - 1)) (h1 : ¬ 0 ≤ exp) (h2 : ¬ 0 < (m.length : Int) + exp) :
    body m exp = 48 :: 46 :: (List.replicate (-((m.length : Int) + exp)).toNat 48 ++ m) := by unfold body; rw [if_neg h, if_neg h1, if_neg h2]

/-- The text opens with a digit; where that is '0', more follows. -/
theorem body_head {m : List UInt8} (exp : Int) (hm : Mag m) : ∃ c r, body m exp = c :: r ∧ isDig c = true ∧ (c = 48 → r ≠ []) := by
  obtain ⟨ne, dig, hd, -⟩ := hm
  match m, ne with
  | c :: r, _ =>
    have hc : isDig c = true := dig c (by simp)
    have h48 : c ≠ 48 := by simpa using hd
    unfold body
    split
    · exact ⟨c, _, by simp; rfl, hc, fun h => absurd h h48⟩
    · split
      · exact ⟨c, _, by simp; rfl, hc, fun h => absurd h h48⟩
      · split
        · rename_i h
          obtain ⟨k, hk⟩ : ∃ k : Nat, (((c :: r).length : Int) + exp).toNat = k + 1 := ⟨(((c :: r).length : Int) + exp).toNat - 1, by omega⟩
          rw [hk]
          exact ⟨c, _, by simp; rfl, hc, fun h => absurd h h48⟩
        · exact ⟨48, _, rfl, by decide, fun _ h => by simp at h⟩

theorem body_length (m : List UInt8) (exp : Int) (h0 : -1073741824 ≤ exp) (h1 : exp ≤ 1073741824) (hl : m.length ≤ 1048576) (hm : 0 < m.length) : (body m exp).length ≤ m.length + 40 := by
  have hi := Lib.itoa_length_le ((m.length : Int) + exp - 1) (by omega) (by omega)
  have he : (expText ((m.length : Int) + exp - 1)).length ≤ 22 := by
    unfold expText
    split
    · simp; omega
    · omega
  unfold body
  split
  · split <;> simp <;> omega
  · rename_i hE
    split
    · simp; omega
    · split
      · simp; omega
      · simp; omega

end Go.Proofs.Qxb6001520aDoor
