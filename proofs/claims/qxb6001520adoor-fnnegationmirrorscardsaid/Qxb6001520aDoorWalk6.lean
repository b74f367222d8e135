import Derived.Test.Qxb6001520aDoorWalk1
import Derived.Deep.RegionWith
namespace Go.Proofs.Qxb6001520aDoor
open Go.RowKit

theorem bytes16_big (s : ByteArray) (exp : Int) (w : World) (h : 1048576 < s.size) :
    Calls Tryd.prog 16 #[.string s, .int .i64 exp] w fun e w' => e = .returned (.bool false) ∧ w' = w := by
  go_enter Tryd.func16, Tryd.ntmps16
  go_wp2
  go_ret
  exact ⟨rfl, rfl⟩
theorem bytes16_small (s : ByteArray) (exp : Int) (w : World) (h : s.size ≤ 1048576) :
    Calls Tryd.prog 16 #[.string s, .int .i64 exp] w fun e w' => e = .returned (.bool true) ∧ w' = w := by
  go_enter Tryd.func16, Tryd.ntmps16
  go_wp2
  go_ret
  exact ⟨rfl, rfl⟩

theorem mag_head45' {m : List UInt8} (hm : Mag m) : m.head? ≠ some 45 := by
  intro h
  obtain ⟨ne, dig, -, -⟩ := hm
  match m, ne with
  | c :: r, _ =>
    simp at h
    subst h
    exact absurd (dig 45 (by simp)) (by decide)
theorem bcell {W w1 : World} (hb : Below W.heap.size W w1) : (∀ b o, b < W.heap.size → w1.cell? ⟨b, o, none⟩ = W.cell? ⟨b, o, none⟩) ∧ (∀ b o, b < W.heap.size → w1.frozen? ⟨b, o, none⟩ = W.frozen? ⟨b, o, none⟩) :=
  ⟨fun b o h => hb.cell (p := ⟨b, o, none⟩) h, fun b o h => hb.frozen (p := ⟨b, o, none⟩) h⟩

theorem neg_text (s : ByteArray) (m : List UInt8) (hsm : s.data.toList = sgn false ++ m) : ∃ t : ByteArray, (⟨#[45]⟩ ++ s : ByteArray) = t ∧ t.data.toList = sgn true ++ m ∧ ∃ h : 0 < t.size, ((t[0].toNat : Int) == 45) = true := by
  have e : (⟨#[45]⟩ ++ s : ByteArray).data.toList = sgn true ++ m := by
    rw [ByteArray.data_append, Array.toList_append, hsm]
    simp [sgn]
  have h : 0 < (⟨#[45]⟩ ++ s : ByteArray).size := by
    have := congrArg List.length e
    simp only [Array.length_toList, ByteArray.size_data, sgn, if_true, List.length_append, List.length_cons] at this
    omega
  exact ⟨_, rfl, e, h, head_45 _ m e h⟩

/-- What stands in every world of the law's last statement: all old memory; the two amounts' boxes. -/
def InvN (w1 : World) (s t : ByteArray) (exp : Int) (W : World) : Prop :=
  Below w1.heap.size w1 W ∧ w1.heap.size + 1 + 1 + 1 < W.heap.size ∧ W.cell? ⟨w1.heap.size + 1, 0, none⟩ = some (.string s) ∧ W.cell? ⟨w1.heap.size + 1, 1, none⟩ = some (.int .i64 exp) ∧
  W.cell? ⟨w1.heap.size + 1 + 1 + 1, 0, none⟩ = some (.string t) ∧ W.cell? ⟨w1.heap.size + 1 + 1 + 1, 1, none⟩ = some (.int .i64 exp)
theorem InvN.on {w1 W W' : World} {s t : ByteArray} {exp : Int} (h : InvN w1 s t exp W) (hb : Below W.heap.size W W') : InvN w1 s t exp W' := by
  obtain ⟨h1, h2, h3, h4, h5, h6⟩ := h
  refine ⟨h1.trans (hb.mono (by have := h1.size; omega)), by have := hb.size; omega, ?_, ?_, ?_, ?_⟩
  · exact (hb.cell (p := ⟨w1.heap.size + 1, 0, none⟩) (show w1.heap.size + 1 < W.heap.size by omega)).trans h3
  · exact (hb.cell (p := ⟨w1.heap.size + 1, 1, none⟩) (show w1.heap.size + 1 < W.heap.size by omega)).trans h4
  · exact (hb.cell (p := ⟨w1.heap.size + 1 + 1 + 1, 0, none⟩) (show w1.heap.size + 1 + 1 + 1 < W.heap.size by omega)).trans h5
  · exact (hb.cell (p := ⟨w1.heap.size + 1 + 1 + 1, 1, none⟩) (show w1.heap.size + 1 + 1 + 1 < W.heap.size by omega)).trans h6
theorem InvN.same {w1 W W' : World} {s t : ByteArray} {exp : Int} (h : InvN w1 s t exp W) (h1 : W'.heap = W.heap) (h2 : W'.os = W.os) (h3 : W'.tape = W.tape) (h4 : W'.output = W.output) : InvN w1 s t exp W' :=
  h.on ⟨h2, h3, h4, by rw [h1]; exact Nat.le_refl _, fun _ _ => by rw [h1]⟩
theorem inv_start (w1 : World) (s t : ByteArray) (exp : Int) (c2 c3 c4 c5 : Array Value) : ∃ W, (((((w1.alloc (Obj.cells c2 24)).alloc (Obj.cells #[Value.string s, Value.int IntKind.i64 exp] 24)).alloc
              (Obj.cells c3 24)).alloc (Obj.cells #[Value.string t, Value.int IntKind.i64 exp] 24)).alloc (Obj.cells c4 24)).alloc (Obj.cells c5 24) = W ∧ InvN w1 s t exp W := by
  refine ⟨_, rfl, ?_, ?_, ?_, ?_, ?_, ?_⟩
  · exact ((((((Below.refl _ _).alloc (Nat.le_refl _) _).alloc (by simp) _).alloc (by simp; omega) _).alloc (by simp; omega) _).alloc (by simp; omega) _).alloc (by simp; omega) _
  · simp
  all_goals simp [go_sem, World.cell?_alloc_past]

set_option maxHeartbeats 1000000 in
set_option maxRecDepth 100000 in
theorem walk_neg (s : ByteArray) (exp : Int) (w : World) (htab : Keep (Lib.TabIs Tryd.prog w Tryd.powName .u64 Lib.pow10Tab)) :
    Calls Tryd.prog 6 #[.string s, .int .i64 exp] w fun e w' => e = .returned (.bool true) ∧ Below w.heap.size w w' := by
  by_cases hs : s.size ≤ 1048576
  case neg =>
    go_enter Tryd.func6, Tryd.ntmps6
    go_wp2_with (go_at_call 16; refine (bytes16_big _ _ _ (by omega)).mono ?_; rintro e w' ⟨rfl, rfl⟩)
    go_ret
    exact ⟨rfl, Below.refl _ _⟩
  by_cases he0 : exp < -1073741824
  · go_enter Tryd.func6, Tryd.ntmps6
    go_wp2_with (go_at_call 16; refine (bytes16_small _ _ _ hs).mono ?_; rintro e w' ⟨rfl, rfl⟩)
    go_ret
    exact ⟨rfl, Below.refl _ _⟩
  by_cases he1 : 1073741824 < exp
  · go_enter Tryd.func6, Tryd.ntmps6
    go_wp2_with (go_at_call 16; refine (bytes16_small _ _ _ hs).mono ?_; rintro e w' ⟨rfl, rfl⟩)
    go_ret
    exact ⟨rfl, Below.refl _ _⟩
  by_cases h0 : s.size = 0
  · have hl2 := isEmpty_of s h0
    go_enter Tryd.func6, Tryd.ntmps6
    go_wp2_with (go_at_call 16; refine (bytes16_small _ _ _ hs).mono ?_; rintro e w' ⟨rfl, rfl⟩)
    go_ret
    exact ⟨rfl, Below.refl _ _⟩
  have hl2 := isEmpty_no s h0
  have z0 : 0 < s.size := by omega
  cases hne : ((s[0].toNat : Int) == 45)
  case true =>
    go_enter Tryd.func6, Tryd.ntmps6
    go_wp2_with (go_at_call 16; refine (bytes16_small _ _ _ hs).mono ?_; rintro e w' ⟨rfl, rfl⟩)
    go_ret
    exact ⟨rfl, Below.refl _ _⟩
  go_enter Tryd.func6, Tryd.ntmps6
  go_wp2_with (go_at_call 16; refine (bytes16_small _ _ _ hs).mono ?_; rintro e w' ⟨rfl, rfl⟩)
  refine (valid_any s exp _ hs).mono ?_
  rintro e w1 ⟨⟨b, rfl, hv⟩, hw1⟩
  subst hw1
  cases b
  · clear hv
    go_wp2_with fail
    go_ret
    exact ⟨rfl, Below.refl _ _⟩
  have HV := Keep.mk (hv rfl)
  clear hv
  rcases HV.out with ⟨hnil, _⟩ | ⟨neg, m, hsm, hm⟩
  · exact absurd (by simpa using congrArg List.length hnil : s.size = 0) h0
  cases neg
  case true => exact absurd (head_45 s m hsm z0) (by rw [hne]; simp)
  obtain ⟨t, hst, htm, t0, t45⟩ := neg_text s m hsm
  have HST := Keep.mk hst
  have hml : m.length ≤ 1048576 := by
    have e := congrArg List.length hsm
    simp [sgn] at e
    omega
  have hT : ∀ W, Below w1.heap.size w1 W → Keep (Lib.TabIs Tryd.prog W Tryd.powName .u64 Lib.pow10Tab) := fun W hb => Joins.tab_stays gPow htab.out hb (Nat.le_refl _)
  obtain ⟨RA, hRA⟩ : ∃ RA : ByteArray, (⟨(sgn false ++ body m exp).toArray⟩ : ByteArray) = RA := ⟨_, rfl⟩
  have hRN : (⟨(sgn true ++ body m exp).toArray⟩ : ByteArray) = ⟨#[45]⟩ ++ RA := by
    rw [← hRA]
    apply WideShapes.bytes_inj
    rw [ByteArray.data_append, Array.toList_append]
    simp [sgn]
  have hRs : RA.size ≤ 2000000 := by
    have hb := body_length m exp (by omega) (by omega) hml (List.length_pos_iff.2 hm.ne)
    rw [← hRA]
    show (sgn false ++ body m exp).length ≤ _
    simp [sgn]
    omega
  have HA : Keep (∀ W, InvN w1 s t exp W → Calls Tryd.prog 11 #[.agg #[.string s, .int .i64 exp]] W fun e w' => e = .returned (.string RA) ∧ InvN w1 s t exp w') := fun W hI => by
    have := string_core false m exp s W (Keep.mk hsm) hm.ne (mag_head45' hm) hml (by omega) (by omega) (hT W hI.1)
    rw [hRA] at this
    exact this.mono fun e w' ⟨he, hb⟩ => ⟨he, hI.on hb⟩
  have HN : Keep (∀ W, InvN w1 s t exp W → Calls Tryd.prog 11 #[.agg #[.string t, .int .i64 exp]] W fun e w' => e = .returned (.string (⟨#[45]⟩ ++ RA)) ∧ InvN w1 s t exp w') := fun W hI => by
    have := string_core true m exp t W (Keep.mk htm) hm.ne (mag_head45' hm) hml (by omega) (by omega) (hT W hI.1)
    rw [hRN] at this
    exact this.mono fun e w' ⟨he, hb⟩ => ⟨he, hI.on hb⟩
  clear hst hsm htm hm HV hT hRA hRN
  go_wp2_with fail
  refine (make_any _ _ _).mono ?_
  rintro e w2 ⟨rfl, c2, rfl⟩
  go_wp2_with fail
  rw [HST.out]
  refine (make_any _ _ _).mono ?_
  rintro e w2 ⟨rfl, c3, rfl⟩
  go_wp2_with fail
  refine (sign_pos _ _ _ z0 hne).mono ?_
  rintro e w2 ⟨rfl, c4, rfl⟩
  go_wp2_with fail
  refine (sign_neg _ _ _ t0 t45).mono ?_
  rintro e w2 ⟨rfl, c5, rfl⟩
  go_wp2_with fail
  obtain ⟨W, hW, hI⟩ := inv_start w1 s t exp c2 c3 c4 c5
  rw [hW]
  clear hW
  obtain ⟨i1, i2, i3, i4, i5, i6⟩ := id hI
  have HI := Keep.mk hI
  clear hI
  go_region_with (first
    | (go_at_call_of 11 (Value.string s); refine (HA.out _ ?_).mono ?_; exact HI.out.same rfl rfl rfl rfl; rintro e w3 ⟨rfl, hI⟩; obtain ⟨j1, j2, j3, j4, j5, j6⟩ := id hI; have HJ := Keep.mk hI; clear hI)
    | (go_at_call_of 11 (Value.string s); refine (HA.out _ ?_).mono ?_; exact HJ.out.same rfl rfl rfl rfl; rintro e w3 ⟨rfl, hI⟩; obtain ⟨j1, j2, j3, j4, j5, j6⟩ := id hI; have HJ := Keep.mk hI; clear hI)
    | (go_at_call_of 11 (Value.string t); refine (HN.out _ ?_).mono ?_; exact HI.out.same rfl rfl rfl rfl; rintro e w3 ⟨rfl, hI⟩; obtain ⟨j1, j2, j3, j4, j5, j6⟩ := id hI; have HJ := Keep.mk hI; clear hI)
    | (go_at_call_of 11 (Value.string t); refine (HN.out _ ?_).mono ?_; exact HJ.out.same rfl rfl rfl rfl; rintro e w3 ⟨rfl, hI⟩; obtain ⟨j1, j2, j3, j4, j5, j6⟩ := id hI; have HJ := Keep.mk hI; clear hI))
  all_goals (go_wp2_with fail; go_ret; exact ⟨rfl, (HJ.out.same rfl rfl rfl rfl).1⟩)

end Go.Proofs.Qxb6001520aDoor
