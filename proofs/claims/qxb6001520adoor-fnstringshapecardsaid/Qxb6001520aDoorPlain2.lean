/-
  THE PLAIN TEXT, SECOND PART: a number's text by its parts (sign, whole digits, fraction, exponent), read by places; what String writes has that form.
-/
import Derived.Test.Qxb6001520aDoorPlain
namespace Go.Proofs.Qxb6001520aDoor
open Go

theorem mem_mid {l a b c : List UInt8} (e : l = a ++ (b ++ c)) (t : Nat) (h : t < l.length) (h1 : a.length ≤ t) (h2 : t < a.length + b.length) : l[t] ∈ b := by
  subst e
  rw [List.getElem_append_right h1, List.getElem_append_left (by omega)]
  exact List.getElem_mem _
theorem at_mid {l a c : List UInt8} {x : UInt8} (e : l = a ++ x :: c) (h : a.length < l.length) : l[a.length] = x := by
  subst e
  simp

/-- The number that decimal digits stand for. -/
def dval (l : List UInt8) : Nat := l.foldl (fun a c => a * 10 + (c.toNat - 48)) 0
theorem dval_snoc (l : List UInt8) (c : UInt8) : dval (l ++ [c]) = dval l * 10 + (c.toNat - 48) := by simp [dval]

theorem dig_of_nat (k : Nat) (h : k < 10) : isDig (UInt8.ofNat (48 + k)) = true ∧ (UInt8.ofNat (48 + k)).toNat = 48 + k := by
  have e : (UInt8.ofNat (48 + k)).toNat = 48 + k := by rw [UInt8.toNat_ofNat']; omega
  refine ⟨?_, e⟩
  simp [isDig]
  omega
theorem decDigits_dig (u : Nat) : ∀ c ∈ Lib.decDigits u, isDig c = true := by
  induction u using Nat.strongRecOn with
  | _ u ih =>
    rw [Lib.decDigits]
    split
    · rename_i h
      intro c hc
      rw [List.mem_singleton.1 hc]
      exact (dig_of_nat u h).1
    · intro c hc
      rcases List.mem_append.1 hc with h | h
      · exact ih (u / 10) (by omega) c h
      · rw [List.mem_singleton.1 h]
        exact (dig_of_nat (u % 10) (by omega)).1
theorem decDigits_val (u : Nat) : dval (Lib.decDigits u) = u := by
  induction u using Nat.strongRecOn with
  | _ u ih =>
    rw [Lib.decDigits]
    split
    · rename_i h
      have := (dig_of_nat u h).2
      simp only [dval, List.foldl_cons, List.foldl_nil]
      omega
    · rw [dval_snoc, ih (u / 10) (by omega), (dig_of_nat (u % 10) (by omega)).2]
      omega
theorem decDigits_ne (u : Nat) : Lib.decDigits u ≠ [] := by
  rw [Lib.decDigits]
  split <;> simp
theorem decDigits_head (u : Nat) (h : 1 ≤ u) : (Lib.decDigits u).head? ≠ some 48 := by
  induction u using Nat.strongRecOn with
  | _ u ih =>
    rw [Lib.decDigits]
    split
    · rename_i hu
      intro e
      have e := Option.some.inj (by simpa only [List.head?_cons] using e)
      have := (dig_of_nat u hu).2
      rw [e] at this
      have h48 : (48 : UInt8).toNat = 48 := rfl
      omega
    · have := ih (u / 10) (by omega) (by omega)
      rw [List.head?_append]
      cases hh : (Lib.decDigits (u / 10)).head? with
      | none => exact absurd (List.head?_eq_none_iff.1 hh) (decDigits_ne _)
      | some x => rw [hh] at this; simpa using this
theorem nDigits_le (u k : Nat) (h : u < 10 ^ (k + 1)) : Lib.nDigits u ≤ k + 1 := by
  induction k generalizing u with
  | zero => rw [Lib.nDigits_small (by simpa using h)]; omega
  | succ k ih =>
    by_cases h10 : u < 10
    · rw [Lib.nDigits_small h10]; omega
    · rw [Lib.nDigits_big h10]
      have := ih (u / 10) (by rw [Nat.pow_succ] at h; omega)
      omega
theorem dval_lt (l : List UInt8) (h : ∀ c ∈ l, isDig c = true) : dval l < 10 ^ l.length := by
  suffices H : ∀ (r : List UInt8), (∀ c ∈ r.reverse, isDig c = true) → dval r.reverse < 10 ^ r.length by
    have := H l.reverse (by simpa using h)
    simpa using this
  intro r
  induction r with
  | nil => intro _; simp [dval]
  | cons c r ih =>
    intro hr
    rw [List.reverse_cons, dval_snoc, List.length_cons, Nat.pow_succ]
    have h1 := ih fun x hx => hr x (by simp at hx ⊢; exact .inl hx)
    have h2 := hr c (by simp)
    simp [isDig] at h2
    omega

/-- The text of a number by its parts: sign, whole digits, fraction's digits (none: no point), exponent (its sign, its digits; none: no exponent). -/
def fracT (f : List UInt8) : List UInt8 := if f = [] then [] else 46 :: f
def expT : Option (Bool × List UInt8) → List UInt8
  | none => []
  | some (eneg, ds) => 101 :: (if eneg then 45 else 43) :: ds

/-- THE FORM OF A NUMBER's TEXT. -/
structure Form (neg : Bool) (ip f : List UInt8) (ex : Option (Bool × List UInt8)) (l : List UInt8) : Prop where
  eq : l = sgn neg ++ (ip ++ (fracT f ++ expT ex))
  ipne : ip ≠ []
  ipd : ∀ c ∈ ip, isDig c = true
  fd : ∀ c ∈ f, isDig c = true
  exd : ∀ eneg ds, ex = some (eneg, ds) → ds ≠ [] ∧ ds.length ≤ 11 ∧ ∀ c ∈ ds, isDig c = true

/-- The number after the exponent's mark. -/
def exVal : Option (Bool × List UInt8) → Int
  | none => 0
  | some (eneg, ds) => if eneg then -(dval ds : Int) else dval ds

/-- WHAT String WRITES, AS A FORM: with what the readers ask of it. -/
structure Wrote (neg : Bool) (m : List UInt8) (exp : Int) (ip f : List UInt8) (ex : Option (Bool × List UInt8)) (z1 z2 : Nat) : Prop where
  form : Form neg ip f ex (sgn neg ++ body m exp)
  digs : ip ++ f = List.replicate z1 48 ++ (m ++ List.replicate z2 48)
  val : exVal ex - f.length + z2 = exp
  lead : 1 < ip.length → ip.head? ≠ some 48
  fend : f.getLast? ≠ some 48
  want : (ex.isSome = true) ↔ ((m.length : Int) + exp - 1 < -6 ∨ 21 ≤ (m.length : Int) + exp - 1)
  one : ex.isSome = true → ip.length = 1 ∧ ip.head? ≠ some 48
  exh : ∀ eneg ds, ex = some (eneg, ds) → ds.head? ≠ some 48

theorem wrote (neg : Bool) (m : List UInt8) (exp : Int) (hm : Mag m) (hl : m.length ≤ 1048576) (h0 : -1073741824 ≤ exp) (h1 : exp ≤ 1073741824) :
    ∃ ip f ex z1 z2, Wrote neg m exp ip f ex z1 z2 := by
  obtain ⟨ne, dig, hd, last⟩ := hm
  have hm0 : 0 < m.length := List.length_pos_iff.2 ne
  obtain ⟨c, r, rfl⟩ := List.exists_cons_of_ne_nil ne
  have hc48 : c ≠ 48 := by simpa using hd
  have hcd : isDig c = true := dig c (by simp)
  have hlen : (((c :: r).length : Nat) : Int) = (r.length : Int) + 1 := by simp
  by_cases hE : ((c :: r).length : Int) + exp - 1 < -6 ∨ 21 ≤ ((c :: r).length : Int) + exp - 1
  · -- with an exponent
    have hab : (((c :: r).length : Int) + exp - 1).natAbs < 10 ^ (10 + 1) := by
      have : (10 : Nat) ^ (10 + 1) = 100000000000 := by decide
      omega
    have hex : expT (some (decide (((c :: r).length : Int) + exp - 1 < 0), Lib.decDigits (((c :: r).length : Int) + exp - 1).natAbs)) = 101 :: expText (((c :: r).length : Int) + exp - 1) := by
      by_cases hn : ((c :: r).length : Int) + exp - 1 < 0
      · rw [expText_neg hn, Lib.itoa, if_pos hn]
        simp only [expT, decide_eq_true hn, if_true]
      · rw [expText_pos (by omega), Lib.itoa, if_neg hn]
        simp only [expT, decide_eq_false hn]
        rw [show (((c :: r).length : Int) + exp - 1).toNat = (((c :: r).length : Int) + exp - 1).natAbs by omega]
        rfl
    refine ⟨[c], r, some (decide (((c :: r).length : Int) + exp - 1 < 0), Lib.decDigits (((c :: r).length : Int) + exp - 1).natAbs), 0, 0, ?_, ?_, ?_, ?_, ?_, ?_, ?_, ?_⟩
    · refine ⟨?_, by simp, ?_, ?_, ?_⟩
      · rw [hex]
        by_cases h1r : 1 < (c :: r).length
        · rw [body_E1 hE h1r, fracT, if_neg (by intro h; simp [h] at h1r)]
          simp
        · have hr : r = [] := by
            cases r with
            | nil => rfl
            | cons _ _ => simp at h1r
          rw [body_E2 hE h1r, fracT, if_pos hr]
          simp
      · intro x hx; rw [List.mem_singleton.1 hx]; exact hcd
      · exact fun x hx => dig x (by simp [hx])
      · intro eneg ds h
        obtain ⟨rfl, rfl⟩ := Prod.mk.inj (Option.some.inj h)
        refine ⟨decDigits_ne _, ?_, decDigits_dig _⟩
        rw [Lib.decDigits_length]
        exact nDigits_le _ 10 hab
    · simp
    · simp only [exVal, decDigits_val]
      by_cases hn : ((c :: r).length : Int) + exp - 1 < 0
      · simp only [decide_eq_true hn, if_true]; omega
      · simp only [decide_eq_false hn]
        simp only [Bool.false_eq_true, if_false]
        omega
    · simp
    · intro h
      apply last
      cases r with
      | nil => simp at h
      | cons a b => simpa using h
    · simp only [Option.isSome_some, true_iff]; exact hE
    · intro _; exact ⟨rfl, by simpa using hc48⟩
    · intro eneg ds h
      obtain ⟨rfl, rfl⟩ := Prod.mk.inj (Option.some.inj h)
      exact decDigits_head _ (by omega)
  by_cases hP : 0 ≤ exp
  · refine ⟨c :: r ++ List.replicate exp.toNat 48, [], none, 0, exp.toNat, ?_, ?_, ?_, ?_, ?_, ?_, ?_, ?_⟩
    · refine ⟨?_, by simp, ?_, by simp, by simp⟩
      · rw [body_P1 hE hP]; simp [fracT, expT]
      · intro x hx
        rcases List.mem_append.1 hx with h | h
        · exact dig x h
        · rw [(List.mem_replicate.1 h).2]; decide
    · simp
    · simp only [exVal, List.length_nil]; omega
    · intro _; simpa using hc48
    · simp
    · simp only [Option.isSome_none, Bool.false_eq_true, false_iff]; exact hE
    · simp
    · simp
  by_cases hP2 : 0 < ((c :: r).length : Int) + exp
  · obtain ⟨k, hk⟩ : ∃ k : Nat, (((c :: r).length : Int) + exp).toNat = k + 1 := ⟨(((c :: r).length : Int) + exp).toNat - 1, by omega⟩
    have hkl : k < r.length := by omega
    refine ⟨(c :: r).take (k + 1), (c :: r).drop (k + 1), none, 0, 0, ?_, ?_, ?_, ?_, ?_, ?_, ?_, ?_⟩
    · refine ⟨?_, by simp, ?_, ?_, by simp⟩
      · rw [body_P2 hE hP hP2, hk, fracT, if_neg (by intro h; have := congrArg List.length h; simp at this; omega)]
        simp [expT]
      · exact fun x hx => dig x (List.mem_of_mem_take hx)
      · exact fun x hx => dig x (List.mem_of_mem_drop hx)
    · simp
    · simp only [exVal, List.length_drop]; omega
    · intro _; simpa using hc48
    · rw [List.getLast?_drop]
      split
      · simp
      · exact last
    · simp only [Option.isSome_none, Bool.false_eq_true, false_iff]; exact hE
    · simp
    · simp
  · refine ⟨[48], List.replicate (-(((c :: r).length : Int) + exp)).toNat 48 ++ (c :: r), none, 1 + (-(((c :: r).length : Int) + exp)).toNat, 0, ?_, ?_, ?_, ?_, ?_, ?_, ?_, ?_⟩
    · refine ⟨?_, by simp, by simp; decide, ?_, by simp⟩
      · rw [body_P3 hE hP hP2, fracT, if_neg (by simp)]
        simp [expT]
      · intro x hx
        rcases List.mem_append.1 hx with h | h
        · rw [(List.mem_replicate.1 h).2]; decide
        · exact dig x h
    · rw [Nat.add_comm, List.replicate_succ]; simp
    · simp only [exVal, List.length_append, List.length_replicate]; omega
    · simp
    · rw [List.getLast?_append]
      cases h : (c :: r).getLast? with
      | none => simp at h
      | some x => rw [h] at last; simpa using last
    · simp only [Option.isSome_none, Bool.false_eq_true, false_iff]; exact hE
    · simp
    · simp

/-- THE FORM BY PLACES in a string's bytes. -/
structure Txt (s : ByteArray) (neg hf he eneg : Bool) (n0 n1 n2 : Nat) (ds : List UInt8) : Prop where
  h0 : n0 = if neg then 1 else 0
  h01 : n0 < n1
  h12 : n1 ≤ n2
  h2s : n2 ≤ s.size
  at0 : neg = true → ∀ h : 0 < s.size, s[0] = 45
  d1 : ∀ t (h : t < s.size), n0 ≤ t → t < n1 → isDig s[t] = true
  f0 : hf = false → n2 = n1
  f1 : hf = true → n1 + 1 < n2
  fat : hf = true → ∀ h : n1 < s.size, s[n1] = 46
  fd : hf = true → ∀ t (h : t < s.size), n1 + 1 ≤ t → t < n2 → isDig s[t] = true
  e0 : he = false → s.size = n2
  e1 : he = true → s.size = n2 + 2 + ds.length ∧ 0 < ds.length ∧ ds.length ≤ 11
  eat : he = true → ∀ h : n2 < s.size, s[n2] = 101
  eat2 : he = true → ∀ h : n2 + 1 < s.size, s[n2 + 1] = if eneg then 45 else 43
  ed : he = true → ∀ t (h : t < s.size) (_ : n2 + 2 ≤ t) (h3 : t - (n2 + 2) < ds.length), s[t] = ds[t - (n2 + 2)]
  edd : ∀ c ∈ ds, isDig c = true

def dsOf : Option (Bool × List UInt8) → List UInt8
  | none => []
  | some (_, ds) => ds
def enegOf : Option (Bool × List UInt8) → Bool
  | none => false
  | some (e, _) => e

theorem getElem_data (s : ByteArray) (l : List UInt8) (hs : s.data.toList = l) (t : Nat) (h : t < s.size) : ∃ h' : t < l.length, s[t] = l[t] := by
  subst hs
  exact ⟨by simpa using h, rfl⟩

theorem Form.txt {neg : Bool} {ip f : List UInt8} {ex : Option (Bool × List UInt8)} {l : List UInt8} (F : Form neg ip f ex l) (s : ByteArray) (hs : s.data.toList = l) :
    Txt s neg (decide (f ≠ [])) ex.isSome (enegOf ex) (sgn neg).length ((sgn neg).length + ip.length) ((sgn neg).length + ip.length + (fracT f).length) (dsOf ex) := by
  obtain ⟨eq, ipne, ipd, fd, exd⟩ := F
  have hip : 0 < ip.length := List.length_pos_iff.2 ipne
  have hsz : s.size = l.length := by rw [← hs]; simp
  have hlen := congrArg List.length eq
  simp only [List.length_append] at hlen
  refine ⟨?_, by omega, by omega, by omega, ?_, ?_, ?_, ?_, ?_, ?_, ?_, ?_, ?_, ?_, ?_, ?_⟩
  · cases neg <;> rfl
  · rintro rfl h
    obtain ⟨h', e⟩ := getElem_data s l hs 0 h
    rw [e]
    have := at_mid (l := l) (a := []) (x := 45) (c := ip ++ (fracT f ++ expT ex)) (by rw [eq]; simp [sgn]) h'
    exact this
  · intro t h h1 h2
    obtain ⟨h', e⟩ := getElem_data s l hs t h
    rw [e]
    exact ipd _ (mem_mid eq t h' h1 h2)
  · intro h
    have : f = [] := by simpa using h
    simp [this, fracT]
  · intro h
    have hf : f ≠ [] := by simpa using h
    have := List.length_pos_iff.2 hf
    simp only [fracT, if_neg hf, List.length_cons]
    omega
  · intro hh h
    have hf : f ≠ [] := by simpa using hh
    obtain ⟨h', e⟩ := getElem_data s l hs _ h
    rw [e]
    have := at_mid (l := l) (a := sgn neg ++ ip) (x := 46) (c := f ++ expT ex) (by rw [eq, fracT, if_neg hf]; simp) (by simpa using h')
    simpa using this
  · intro hh t h h1 h2
    have hf : f ≠ [] := by simpa using hh
    obtain ⟨h', e⟩ := getElem_data s l hs t h
    rw [e]
    refine fd _ (mem_mid (a := sgn neg ++ (ip ++ [46])) (c := expT ex) (by rw [eq, fracT, if_neg hf]; simp) t h' (by simp; omega) ?_)
    simp only [fracT, if_neg hf, List.length_cons] at h2
    simp
    omega
  · intro h
    cases ex with
    | none => simp only [expT, List.length_nil] at hlen; omega
    | some _ => simp at h
  · intro h
    match ex, h with
    | some (en, ds), _ =>
      obtain ⟨g1, g2, -⟩ := exd en ds rfl
      have := List.length_pos_iff.2 g1
      simp only [expT, List.length_cons] at hlen
      simp only [dsOf]
      omega
  · intro hh h
    match ex, hh with
    | some (en, ds), _ =>
      obtain ⟨h', e⟩ := getElem_data s l hs _ h
      rw [e]
      have := at_mid (l := l) (a := sgn neg ++ (ip ++ fracT f)) (x := 101) (c := (if en then 45 else 43) :: ds) (by rw [eq, expT]; simp) (by simpa [Nat.add_assoc] using h')
      simpa [Nat.add_assoc] using this
  · intro hh h
    match ex, hh with
    | some (en, ds), _ =>
      obtain ⟨h', e⟩ := getElem_data s l hs _ h
      rw [e]
      have := at_mid (l := l) (a := sgn neg ++ (ip ++ (fracT f ++ [101]))) (x := if en then 45 else 43) (c := ds) (by rw [eq, expT]; simp) (by simpa [Nat.add_assoc] using h')
      cases en <;> simpa [Nat.add_assoc, enegOf] using this
  · intro hh t h h2 h3
    match ex, hh with
    | some (en, ds), _ =>
      obtain ⟨h', e⟩ := getElem_data s l hs t h
      rw [e]
      have e2 : l = (sgn neg ++ (ip ++ (fracT f ++ [101, if en then 45 else 43]))) ++ ds := by rw [eq, expT]; simp
      have hl : (sgn neg ++ (ip ++ (fracT f ++ [101, if en then 45 else 43]))).length = (sgn neg).length + ip.length + (fracT f).length + 2 := by simp; omega
      have e3 := List.getElem_append_right (as := sgn neg ++ (ip ++ (fracT f ++ [101, if en then 45 else 43]))) (bs := ds) (i := t) (by rw [hl]; exact h2) (h₂ := by rw [← e2]; exact h')
      have e4 : l[t] = ((sgn neg ++ (ip ++ (fracT f ++ [101, if en then 45 else 43]))) ++ ds)[t]'(by rw [← e2]; exact h') := by congr 1
      rw [e4, e3]
      simp only [hl]
      rfl
  · intro c hc
    match ex with
    | some (en, ds) => exact (exd en ds rfl).2.2 c hc
    | none => simp [dsOf] at hc

theorem Txt.eBound {s : ByteArray} {neg hf he eneg : Bool} {n0 n1 n2 : Nat} {ds : List UInt8} {E : Int} (T : Txt s neg hf he eneg n0 n1 n2 ds) (hE : E = if he then (if eneg then -(dval ds : Int) else dval ds) else 0) : -99999999999 ≤ E ∧ E ≤ 99999999999 := by
  cases he with
  | false => simp at hE; omega
  | true =>
    obtain ⟨e1, e2, e3⟩ := T.e1 rfl
    have h1 := dval_lt ds T.edd
    have h4 : (10 : Nat) ^ ds.length ≤ 10 ^ 11 := Nat.pow_le_pow_right (by decide) e3
    have h5 : (10 : Nat) ^ 11 = 100000000000 := by decide
    cases eneg <;> simp at hE <;> omega
theorem Txt.fBound {s : ByteArray} {neg hf he eneg : Bool} {n0 n1 n2 : Nat} {ds : List UInt8} {F : ByteArray} (_ : Txt s neg hf he eneg n0 n1 n2 ds) (hs : s.size ≤ 2000000) (hF : F = if hf then s.extract (n1 + 1) n2 else ⟨#[]⟩) : F.size ≤ 2000000 := by
  cases hf with
  | false => rw [hF]; simp; decide
  | true => rw [hF]; simp; omega

theorem beq48 {c : UInt8} (h : c ≠ 48) : ((c.toNat : Int) == 48) = false := by
  rw [beq_eq_false_iff_ne]
  intro e
  exact h (UInt8.toNat_inj.1 (by show _ = 48; omega))
theorem at_zeros1 (D : ByteArray) (r : List UInt8) (z : Nat) (h : D.data.toList = List.replicate z 48 ++ r) (k : Nat) (hk : k < D.size) (hz : k < z) : ((D[k].toNat : Int) == 48) = true := by
  obtain ⟨h', e⟩ := getElem_data D _ h k hk
  rw [e, List.getElem_append_left (by simpa using hz), List.getElem_replicate]
  rfl
theorem at_first (D : ByteArray) (m r : List UInt8) (z : Nat) (h : D.data.toList = List.replicate z 48 ++ (m ++ r)) (hm : Mag m) : ∃ h : z < D.size, ((D[z].toNat : Int) == 48) = false := by
  obtain ⟨ne, -, hd, -⟩ := hm
  obtain ⟨c, t, rfl⟩ := List.exists_cons_of_ne_nil ne
  have hs : z < D.size := by
    have := congrArg List.length h
    simp only [List.length_append, List.length_replicate, List.length_cons, Array.length_toList, ByteArray.size_data] at this
    omega
  refine ⟨hs, ?_⟩
  obtain ⟨h', e⟩ := getElem_data D _ h z hs
  rw [e, List.getElem_append_right (by simp)]
  simp only [List.length_replicate, Nat.sub_self, List.cons_append, List.getElem_cons_zero]
  exact beq48 (by simpa using hd)
theorem at_zeros2 (D : ByteArray) (m : List UInt8) (z : Nat) (h : D.data.toList = m ++ List.replicate z 48) (k : Nat) (hk : k < D.size) (hz : m.length ≤ k) : ((D[k].toNat : Int) == 48) = true := by
  obtain ⟨h', e⟩ := getElem_data D _ h k hk
  rw [e, List.getElem_append_right hz, List.getElem_replicate]
  rfl
theorem at_last (D : ByteArray) (m r : List UInt8) (h : D.data.toList = m ++ r) (hm : Mag m) : ∃ h : m.length - 1 < D.size, ((D[m.length - 1].toNat : Int) == 48) = false := by
  obtain ⟨ne, -, -, hl⟩ := hm
  have hp := List.length_pos_iff.2 ne
  have hs : m.length - 1 < D.size := by
    have := congrArg List.length h
    simp only [List.length_append, Array.length_toList, ByteArray.size_data] at this
    omega
  refine ⟨hs, ?_⟩
  obtain ⟨h', e⟩ := getElem_data D _ h _ hs
  rw [e, List.getElem_append_left (by omega)]
  rw [List.getLast?_eq_getElem?, List.getElem?_eq_getElem (by omega)] at hl
  exact beq48 (by simpa using hl)
theorem size_of_data (D : ByteArray) (l : List UInt8) (h : D.data.toList = l) : D.size = l.length := by rw [← h]; simp

end Go.Proofs.Qxb6001520aDoor
