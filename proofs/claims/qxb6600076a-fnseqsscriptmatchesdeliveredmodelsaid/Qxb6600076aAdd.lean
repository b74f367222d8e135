import Derived.Test.Qxb6600076aDelete
import Derived.Test.Qxb6600076aPlainA
namespace Go.Proofs.Qxb6600076a
open Go.RowKit
set_option linter.unusedVariables false

theorem sl_of_own {k : IntKind} {w : World} {base : Nat} {e : TypeId} {v : Value} {l : List Int} (h : w.ownsRow base e 1 v l.length (l.map (Value.int k))) : Sl k w v l := by
  obtain ⟨-, h⟩ := h
  rcases h with ⟨rfl, h0⟩ | ⟨g, cap, cur, rfl, -, hh, -, -, -, ht⟩
  · have : l = [] := List.length_eq_zero_iff.1 h0
    subst this
    exact ⟨none, 0, rfl, .inl rfl⟩
  · refine ⟨_, _, rfl, .inr ⟨g, 0, rfl, ?_, fun i hi => ?_⟩⟩
    · rcases Nat.lt_or_ge g w.heap.size with h1 | h1
      · exact h1
      · rw [Array.getElem?_eq_none h1] at hh; cases hh
    · have e1 : cur[i]? = some (.int k (l.getD i 0)) := by
        have : (cur.toList.take (l.length * 1))[i]? = (l.map (Value.int k))[i]? := by rw [ht]
        rw [List.getElem?_take, if_pos (by omega)] at this
        rw [← Array.getElem?_toList, this]
        simp [hi]
      rw [Nat.zero_add]
      simp only [World.cell?, hh]
      simpa using e1

/-- THE Seqs AT BLOCK sb: its two fields; the row that the second leads to is owned (its block from base on). -/
structure SQ (w : World) (base sb : Nat) (H : Int) (V : Value) (L : List Int) : Prop where
  blk : w.heap[sb]? = some (.cells #[.int .u64 H, V] 27 (0, 0))
  own : w.ownsRow base 25 1 V L.length (L.map (Value.int .u64))
  size : base ≤ w.heap.size
/-- Below base nothing has turned but the block sb. -/
structure Sp (base sb : Nat) (w w' : World) : Prop where
  os : w'.os = w.os
  tape : w'.tape = w.tape
  output : w'.output = w.output
  size : w.heap.size ≤ w'.heap.size
  block : ∀ k, k < base → k ≠ sb → w'.heap[k]? = w.heap[k]?
theorem Sp.refl (base sb : Nat) (w : World) : Sp base sb w w := ⟨rfl, rfl, rfl, Nat.le_refl _, fun _ _ _ => rfl⟩
theorem Sp.trans {base sb : Nat} {a b c : World} (h : Sp base sb a b) (k : Sp base sb b c) : Sp base sb a c :=
  ⟨k.os.trans h.os, k.tape.trans h.tape, k.output.trans h.output, Nat.le_trans h.size k.size, fun i h1 h2 => (k.block i h1 h2).trans (h.block i h1 h2)⟩
section
variable {w : World} {base sb : Nat} {H : Int} {V : Value} {L : List Int}
theorem SQ.c0 (h : SQ w base sb H V L) : w.cell? ⟨sb, 0, none⟩ = some (.int .u64 H) := by simp [World.cell?, h.blk]
theorem SQ.c1 (h : SQ w base sb H V L) : w.cell? ⟨sb, 1, none⟩ = some V := by simp [World.cell?, h.blk]
theorem SQ.f0 (h : SQ w base sb H V L) : w.frozen? ⟨sb, 0, none⟩ = false := by simp [World.frozen?, h.blk]
theorem SQ.f1 (h : SQ w base sb H V L) : w.frozen? ⟨sb, 1, none⟩ = false := by simp [World.frozen?, h.blk]
theorem SQ.lt (h : SQ w base sb H V L) : sb < w.heap.size := by
  rcases Nat.lt_or_ge sb w.heap.size with h1 | h1
  · exact h1
  · have := h.blk; rw [Array.getElem?_eq_none h1] at this; cases this
theorem SQ.sl (h : SQ w base sb H V L) : Sl .u64 w V L := sl_of_own h.own
/-- The row lies not in the struct's own block. -/
theorem SQ.ne (h : SQ w base sb H V L) : some sb ≠ V.ownBlock := by
  intro e
  obtain ⟨-, h2⟩ := h.own
  rcases h2 with ⟨rfl, -⟩ | ⟨g, cap, cur, rfl, -, hh, -⟩
  · cases e
  · have : sb = g := Option.some.inj e
    subst this
    have := h.blk
    rw [hh] at this
    simp at this
theorem own_form {e : TypeId} {v : Value} {n : Nat} {xs : List Value} (h : w.ownsRow base e 1 v n xs) : ∃ a n c, v = .slice a n c := by
  rcases h.2 with ⟨rfl, -⟩ | ⟨g, cap, cur, rfl, -⟩
  · exact ⟨_, _, _, rfl⟩
  · exact ⟨_, _, _, rfl⟩
theorem own_ne {w1 : World} {c : Array Value} {f : Nat × Nat} {v : Value} {n : Nat} {xs : List Value} (hb : w1.heap[sb]? = some (.cells c 27 f)) (h : w1.ownsRow base 25 1 v n xs) : some sb ≠ v.ownBlock := by
  intro e
  rcases h.2 with ⟨rfl, -⟩ | ⟨g, cap, cur, rfl, -, hh, -⟩
  · cases e
  · have : sb = g := Option.some.inj e
    subst this
    rw [hh] at hb
    simp at hb
theorem grown_alloc {w1 : World} {o : Obj} {row : Option Nat} (h : (w.alloc o).grownBy w1 row) : w.grownBy w1 row :=
  ⟨h.os, h.tape, h.output, by have := h.size; simp at this; omega, fun k hk hne => (h.block k (by simp; omega) hne).trans (Below.heap_alloc w o k hk)⟩
theorem heap_set (w : World) (sb i : Nat) (x : Value) (k : Nat) (hk : k ≠ sb) : (w.setCell ⟨sb, i, none⟩ x).heap[k]? = w.heap[k]? := Below.heap_setCell w ⟨sb, i, none⟩ x k hk
theorem heap_set_same (w : World) (sb i : Nat) (x : Value) (c : Array Value) (t : TypeId) (f : Nat × Nat) (h : w.heap[sb]? = some (.cells c t f)) : (w.setCell ⟨sb, i, none⟩ x).heap[sb]? = some (.cells (c.setIfInBounds i x) t f) := by
  rw [Sort.setCell_eq]
  show (w.heap.modify sb _)[sb]? = _
  rw [Array.getElem?_modify, if_pos rfl, h]
  rfl
theorem owns_set {e : TypeId} {v : Value} {n : Nat} {xs : List Value} (h : w.ownsRow base e 1 v n xs) (sb i : Nat) (x : Value) (hne : some sb ≠ v.ownBlock) : (w.setCell ⟨sb, i, none⟩ x).ownsRow base e 1 v n xs := by
  obtain ⟨h1, h2⟩ := h
  refine ⟨h1, ?_⟩
  rcases h2 with h2 | ⟨g, cap, cur, rfl, hb, hh, r⟩
  · exact .inl h2
  · refine .inr ⟨g, cap, cur, rfl, hb, ?_, r⟩
    rw [heap_set w sb i x g (fun e => hne (by rw [← e]; rfl))]
    exact hh
theorem sp_set (base sb : Nat) (w : World) (i : Nat) (x : Value) : Sp base sb w (w.setCell ⟨sb, i, none⟩ x) :=
  ⟨rfl, rfl, rfl, by simp [World.setCell], fun k _ hk => heap_set w sb i x k hk⟩
/-- The first field is written. -/
theorem SQ.set0 (h : SQ w base sb H V L) (H' : Int) : SQ (w.setCell ⟨sb, 0, none⟩ (.int .u64 H')) base sb H' V L :=
  ⟨by rw [heap_set_same w sb 0 _ _ _ _ h.blk]; rfl, owns_set h.own sb 0 _ h.ne, by have := h.size; simp [World.setCell]; exact this⟩
/-- Behind a growth of the row, the second field is written. -/
theorem SQ.set1 {w1 : World} {V' : Value} {L' : List Int} (h : SQ w base sb H V L) (hg : w.grownBy w1 V.ownBlock) (hown : w1.ownsRow base 25 1 V' L'.length (L'.map (Value.int .u64))) (hsz : w.heap.size ≤ w1.heap.size) (hne : some sb ≠ V'.ownBlock) :
    SQ (w1.setCell ⟨sb, 1, none⟩ V') base sb H V' L' := by
  have hb : w1.heap[sb]? = some (.cells #[.int .u64 H, V] 27 (0, 0)) := (hg.block sb h.lt h.ne).trans h.blk
  exact ⟨by rw [heap_set_same w1 sb 1 _ _ _ _ hb]; rfl, owns_set hown sb 1 _ hne, by have := h.size; simp [World.setCell]; omega⟩
theorem sp_grown {w1 : World} {row : Option Nat} (hg : w.grownBy w1 row) (hr : ∀ k, row = some k → base ≤ k) (hb : base ≤ w.heap.size) : Sp base sb w w1 :=
  ⟨hg.os, hg.tape, hg.output, hg.size, fun k hk _ => hg.block k (by omega) (fun e => by have := hr k e.symm; omega)⟩
end

set_option maxHeartbeats 1000000 in
set_option maxRecDepth 100000 in
/-- add, of a number that is missing. -/
theorem add_A (base sb : Nat) (H seq : Int) (V : Value) (L : List Int) (w : World) (hq : Keep (SQ w base sb H V L)) (hv : Keep (VS H L)) (hle : seq ≤ H) (hm : Keep (seq ∈ L)) :
    Calls Try.prog 29 #[.pointer (some ⟨sb, 0, none⟩), .int .u64 seq] w fun e w' => e = .returned (.tuple #[]) ∧ ∃ V' L', SQ w' base sb H V' L' ∧ AddTo H L seq L' ∧ Sp base sb w w' := by
  have g0 := hq.out.c0
  have g1 := hq.out.c1
  have hlen := hv.out.length
  go_enter Try.func29, Try.ntmps29
  go_wp2_with fail
  refine (search_any L seq V _ hq.out.sl (by omega) hv.out.sorted).mono ?_
  rintro e w1 ⟨i, hi, hbs, rfl, hw⟩
  subst hw
  obtain ⟨hil, hadd⟩ := add_known hv.out.sorted hle hm.out hbs
  have HAD := Keep.mk hadd
  clear hbs hadd
  go_wp2_with fail
  rw [show (i : Int) + 1 = ((i + 1 : Nat) : Int) by omega]
  refine (delete_own base V L i (i + 1) _ hq.out.own (by omega) (by omega)).mono ?_
  rintro e w2 ⟨v', rfl, hown', hg, hob⟩
  obtain ⟨a', n', c', rfl⟩ := own_form hown'
  have q0 : w2.heap[sb]? = w1.heap[sb]? := hg.block sb hq.out.lt hq.out.ne
  have k1 : w2.cell? ⟨sb, 1, none⟩ = some V := (World.cell?_of_block (a := ⟨sb, 1, none⟩) q0).trans g1
  have k2 : w2.frozen? ⟨sb, 1, none⟩ = false := (World.frozen?_of_block (a := ⟨sb, 1, none⟩) q0).trans hq.out.f1
  have FIN := Keep.mk (And.intro (hq.out.set1 hg hown' hg.size (by rw [hob]; exact hq.out.ne)) ((sp_grown (base := base) (sb := sb) hg (fun k e => (hq.out.own.lt k e).1) hq.out.size).trans (sp_set base sb w2 1 (.slice a' n' c'))))
  clear hown' hg hob q0
  go_wp2_with fail
  refine bodyPost_ret (results_none rfl _ _ _) rfl ?_
  exact ⟨rfl, _, _, FIN.out.1, HAD.out, FIN.out.2⟩

set_option maxHeartbeats 1000000 in
set_option maxRecDepth 100000 in
/-- add, of a number beyond the window. -/
theorem add_B (base sb : Nat) (H seq : Int) (V : Value) (L : List Int) (w : World) (hq : Keep (SQ w base sb H V L)) (hH0 : 0 ≤ H) (hH1 : H ≤ 18446744073709486079) (hbig : H + 65536 < seq) :
    Calls Try.prog 29 #[.pointer (some ⟨sb, 0, none⟩), .int .u64 seq] w fun e w' => e = .returned (.tuple #[]) ∧ ∃ V' L', SQ w' base sb seq V' L' ∧ AddTo H L seq L' ∧ Sp base sb w w' := by
  have g0 := hq.out.c0
  have g1 := hq.out.c1
  have f0 := hq.out.f0
  have f1 := hq.out.f1
  have hgt : ¬ seq ≤ H := by omega
  have FIN : Keep (SQ ((w.setCell ⟨sb, 0, none⟩ (.int .u64 seq)).setCell ⟨sb, 1, none⟩ (.slice none 0 0)) base sb seq (.slice none 0 0) []) :=
    (hq.out.set0 seq).set1 (w1 := w.setCell ⟨sb, 0, none⟩ (.int .u64 seq)) ⟨rfl, rfl, rfl, Nat.le_refl _, fun _ _ _ => rfl⟩ (World.ownsRow_nil _ _ _ _) (Nat.le_refl _) (fun e => by cases e)
  have SP := Keep.mk ((sp_set base sb w 0 (.int .u64 seq)).trans (sp_set base sb _ 1 (.slice none 0 0)))
  go_enter Try.func29, Try.ntmps29
  go_wp2_with fail
  refine bodyPost_ret (results_none rfl _ _ _) rfl ?_
  exact ⟨rfl, _, _, FIN.out, add_rejoin (by omega) hbig, SP.out⟩

set_option maxHeartbeats 4000000 in
set_option maxRecDepth 100000 in
/-- add, of a number above the highest, within the window's reach. -/
theorem add_C (base sb : Nat) (H seq : Int) (V : Value) (L : List Int) (w : World) (hq : Keep (SQ w base sb H V L)) (hv : Keep (VS H L)) (hH0 : 0 ≤ H) (hH1 : H ≤ 18446744073709486079) (hgt : H < seq) (hle : seq ≤ H + 65536) (hseq : seq ≤ 18446744073709551615) :
    Calls Try.prog 29 #[.pointer (some ⟨sb, 0, none⟩), .int .u64 seq] w fun e w' => e = .returned (.tuple #[]) ∧ ∃ V' L', SQ w' base sb seq V' L' ∧ AddTo H L seq L' ∧ Sp base sb w w' := by
  have g0 := hq.out.c0
  have hlen := hv.out.length
  have fr1 := fromOf_ge H seq
  have fr2 := fromOf_le hgt
  obtain ⟨fr, hfr⟩ : ∃ fr, fromOf H seq = fr := ⟨_, rfl⟩
  have HFR := Keep.mk hfr
  rw [hfr] at fr1 fr2
  clear hfr
  go_enter Try.func29, Try.ntmps29
  go_upto_if 56 with fail
  go_cut [6] (fun f wc => f = .int .u64 fr ∧ w = wc)
  case first =>
    by_cases hb : 65536 < seq
    · go_wp2_with fail
      go_meet
      exact ⟨congrArg (Value.int .u64) (by rw [← HFR.out, fromOf, if_pos hb]; omega), rfl⟩
    · go_wp2_with fail
      go_meet
      exact ⟨congrArg (Value.int .u64) (by rw [← HFR.out, fromOf, if_neg (by omega)]), rfl⟩
  case rest =>
  obtain ⟨rfl, rfl⟩ := hcut
  obtain ⟨i0, hi, hz0, hz1, hz2⟩ := type25
  clear g0
  go_wp2_with fail
  go_loopg [7] (seq - fr).toNat (fun g nn wr => ∃ (nv : Int) (V' : Value), fr ≤ nv ∧ nv ≤ seq ∧ (seq - nv).toNat ≤ g ∧ nn = .int .u64 nv ∧ Keep (SQ wr base sb H V' (L ++ seqR fr nv)) ∧ Keep (Sp base sb w wr))
  case atStart => exact ⟨fr, V, by omega, by omega, by omega, rfl, by rw [seqR_nil, List.append_nil]; exact hq, Sp.refl _ _ _⟩
  case round =>
  obtain ⟨nv, V', hn1, hn2, hg, rfl, hQ, hS⟩ := hrel
  by_cases hlt : nv < seq
  · have g1 := hQ.out.c1
    have hown := hQ.out.own
    have hlen2 : (L ++ seqR fr nv).length ≤ 200000 := by rw [List.length_append, seqR_length]; omega
    have hwb := hQ.out.size
    have HOA := Keep.mk (hown.alloc (.cells #[.int .u64 nv] 25))
    clear hown
    go_wp2_with (at_builtin; refine wpList_append_own _ rfl _ _ 22 rfl base 25 i0 (.int .u64 0) 1 8 Try.underlying22 hi hz0 hz1 hz2 rfl (by decide) _ _ _ rfl HOA.out ⟨wr.heap.size, 0, none⟩ 1 1 [.int .u64 nv] rfl rfl ?c1 ?c2 ?c3 ?c4 ?c5 ?_)
    case c1 =>
      intro j u hj
      match j, hj with
      | 0, hj => simp at hj; subst hj; simp [Addr.add]
    case c2 => intro u hu; simp at hu; subst hu; rfl
    case c3 => unfold maxLen; omega
    case c4 => omega
    case c5 => simp; omega
    intro v' w1 hown' hgrow _
    obtain ⟨a', n', c', rfl⟩ := own_form hown'
    have hgr : wr.grownBy w1 V'.ownBlock := grown_alloc hgrow
    have q0 : w1.heap[sb]? = wr.heap[sb]? := hgr.block sb hQ.out.lt hQ.out.ne
    have k1 : w1.cell? ⟨sb, 1, none⟩ = some V' := (World.cell?_of_block (a := ⟨sb, 1, none⟩) q0).trans g1
    have k2 : w1.frozen? ⟨sb, 1, none⟩ = false := (World.frozen?_of_block (a := ⟨sb, 1, none⟩) q0).trans hQ.out.f1
    have hown2 : w1.ownsRow base 25 1 (.slice a' n' c') (L ++ seqR fr (nv + 1)).length ((L ++ seqR fr (nv + 1)).map (Value.int .u64)) := by
      rw [seqR_snoc hn1, ← List.append_assoc]
      simpa [Nat.add_assoc] using hown'
    have FIN := Keep.mk (And.intro (hQ.out.set1 hgr hown2 hgr.size (own_ne (q0.trans hQ.out.blk) hown2)) (hS.out.trans ((sp_grown (base := base) (sb := sb) hgr (fun k e => (hQ.out.own.lt k e).1) hQ.out.size).trans (sp_set base sb w1 1 (.slice a' n' c')))))
    clear hown' hgrow hgr q0 hown2
    go_wp2_with fail
    go_roundg (seq - (nv + 1)).toNat
    case measure => omega
    case rel => exact ⟨nv + 1, .slice a' n' c', by omega, by omega, by omega, rfl, FIN.out.1, FIN.out.2⟩
  · obtain rfl : nv = seq := by omega
    have c0 := hQ.out.c0
    have f0 := hQ.out.f0
    have Q2 := Keep.mk (hQ.out.set0 nv)
    have S2 := Keep.mk (hS.out.trans (sp_set base sb wr 0 (.int .u64 nv)))
    by_cases hb : 65536 < nv
    · have c1 := hQ.out.c1
      have hlen2 : (L ++ seqR fr nv).length ≤ 200000 := by rw [List.length_append, seqR_length]; omega
      have hsrt : Keep ((L ++ seqR fr nv).Pairwise (· < ·)) := grown_sorted hv.out _ _ fr1
      clear hlt hg
      go_wp2_with fail
      refine (search_any (L ++ seqR fr nv) _ V' _ Q2.out.sl (by omega) hsrt.out).mono ?_
      rintro e w2 ⟨i, hi2, hbs, rfl, hw⟩
      subst hw
      have HBS := Keep.mk hbs
      clear hbs
      go_wp2_with fail
      refine (delete_own base V' (L ++ seqR fr nv) 0 i _ Q2.out.own (by omega) hi2).mono ?_
      rintro e w3 ⟨v', rfl, hown', hg, hob⟩
      obtain ⟨a', n', c', rfl⟩ := own_form hown'
      have q0 : w3.heap[sb]? = (wr.setCell ⟨sb, 0, none⟩ (.int .u64 nv)).heap[sb]? := hg.block sb Q2.out.lt Q2.out.ne
      have k1 : w3.cell? ⟨sb, 1, none⟩ = some V' := (World.cell?_of_block (a := ⟨sb, 1, none⟩) q0).trans Q2.out.c1
      have k2 : w3.frozen? ⟨sb, 1, none⟩ = false := (World.frozen?_of_block (a := ⟨sb, 1, none⟩) q0).trans Q2.out.f1
      have FIN := Keep.mk (And.intro (Q2.out.set1 hg hown' hg.size (by rw [hob]; exact Q2.out.ne)) (S2.out.trans ((sp_grown (base := base) (sb := sb) hg (fun k e => (Q2.out.own.lt k e).1) Q2.out.size).trans (sp_set base sb w3 1 (.slice a' n' c')))))
      clear hown' hg hob q0
      go_wp2_with fail
      go_end0
      exact ⟨rfl, _, _, FIN.out.1, by
        have hb2 := HBS.out
        rw [← HFR.out] at hb2 ⊢
        exact add_big hv.out (by omega) (by omega) hb hb2, FIN.out.2⟩
    · go_wp2_with fail
      go_end0
      exact ⟨rfl, _, _, Q2.out, by rw [← HFR.out]; exact add_small hv.out (by omega) (by omega) (by omega), S2.out⟩

end Go.Proofs.Qxb6600076a
