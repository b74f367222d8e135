import Derived.Test.Qxb6600076aWalk7
import Derived.Test.Qxb6600076aPlain3
import Derived.Maps.OwnOps
import Derived.Maps.Views
import Derived.ArgAppend
namespace Go.Proofs.Qxb6600076a
open Go.RowKit Go.Maps
set_option linter.unusedVariables false

theorem map28 : Try.prog.underlying 28 = some (.map 25 4) := by kernel_rfl
theorem law25 : Keyed Try.prog 25 := int_keyed Try.underlying25
theorem zero4 (w : World) : (zeroValue 4).run Try.prog w = .ok (.bool false) w := by kernel_rfl
theorem make28 (n : Int) (w : World) : (Instr.makeMap 28 (some (.int .i64 n))).run Try.prog w = .ok (.map (some w.heap.size)) (w.alloc (.map #[] 0)) := by
  simp [Instr.makeMap, run_underlying map28, asInt, newObj]
  rfl
theorem wf_u64 {n : Int} (h0 : 0 ≤ n) (h1 : n ≤ 18446744073709551615) : (Lit.int .u64 n).wf = true := by
  simp [Lit.wf, IntKind.min, IntKind.max, IntKind.signed, IntKind.bits]
  omega
theorem make_added (n : Nat) (h : n ≤ 4096) (w : World) : (Instr.makeSlice 22 (.int .i64 0) (.int .i64 (n : Int))).run Try.prog w = .ok (.slice (some ⟨w.heap.size, 0, none⟩) 0 n) (w.alloc (.cells (rowA .u64 (List.replicate n 0)) 25)) := by
  rw [← rowA_made]
  exact run_make_room 22 25 (.int .u64 0) 8 Try.underlying22 info25 rfl .i64 .i64 n (by omega) (by omega) w

/-- THE ROW OF THE ADDED NUMBERS: a block of cap cells that begins with them. -/
def AR (w : World) (ab cap : Nat) (A : List Int) : Prop :=
  ∃ Y, w.heap[ab]? = some (.cells Y 25 (0, 0)) ∧ Y.size = cap ∧ A.length ≤ cap ∧ ∀ i, i < A.length → Y[i]? = some (.int .u64 (A.getD i 0))
theorem AR.kept {w w' : World} {ab cap : Nat} {A : List Int} (h : AR w ab cap A) (e : w'.heap[ab]? = w.heap[ab]?) : AR w' ab cap A := by
  obtain ⟨Y, h1, h2⟩ := h
  exact ⟨Y, e.trans h1, h2⟩
theorem AR.cell {w : World} {ab cap : Nat} {A : List Int} (h : AR w ab cap A) (i : Nat) (hi : i < A.length) : w.cell? ⟨ab, i, none⟩ = some (.int .u64 (A.getD i 0)) := by
  obtain ⟨Y, h1, h2, h3, h4⟩ := h
  simp only [World.cell?, h1]
  simpa using h4 i hi
theorem AR.olds {w : World} {ab cap : Nat} {A : List Int} (h : AR w ab cap A) : ∀ j u, (A.map (Value.int .u64))[j]? = some u → w.cell? ⟨ab, 0 + j, none⟩ = some u := by
  intro j u hj
  have hl : j < A.length := by
    rcases Nat.lt_or_ge j A.length with h1 | h1
    · exact h1
    · rw [List.getElem?_eq_none (by simpa using h1)] at hj; cases hj
  rw [Nat.zero_add, h.cell j hl, ← hj]
  simp [List.getD_eq_getElem?_getD, hl]
theorem AR.room {w : World} {ab cap : Nat} {A : List Int} (h : AR w ab cap A) (hl : A.length < cap) : (w.cell? ⟨ab, A.length, none⟩).isSome = true ∧ w.frozen? ⟨ab, A.length, none⟩ = false := by
  obtain ⟨Y, h1, h2, h3, h4⟩ := h
  constructor
  · simp only [World.cell?, h1]
    simp
    omega
  · simp [World.frozen?, h1]
theorem AR.push {w : World} {ab cap : Nat} {A : List Int} (h : AR w ab cap A) (hl : A.length < cap) (x : Int) : AR (w.setCell ⟨ab, A.length, none⟩ (.int .u64 x)) ab cap (A ++ [x]) := by
  obtain ⟨Y, h1, h2, h3, h4⟩ := h
  refine ⟨_, heap_set_same w ab A.length _ _ _ _ h1, by simp [h2], by simp; omega, fun i hi => ?_⟩
  rw [List.length_append, List.length_singleton] at hi
  rw [Array.getElem?_setIfInBounds]
  by_cases he : A.length = i
  · subst he
    rw [if_pos rfl, if_pos (by omega)]
    simp [List.getD_eq_getElem?_getD]
  · rw [if_neg he, h4 i (by omega)]
    have hi2 : i < A.length := by omega
    simp [List.getD_eq_getElem?_getD, List.getElem?_append_left hi2]

/-- THE SET OF THE ADDED NUMBERS: what is not among them is not in it. -/
def SM (w : World) (mb n : Nat) (A : List Int) : Prop :=
  ∃ D : DataW Unit, w.ownsMap Try.prog 25 (plainElem Try.prog 4) mb n D ∧ ∀ x, x ∉ A → D.atKey (.int .u64 x) (.lit (.bool false)) = .lit (.bool false)
theorem SM.kept {w w' : World} {mb n : Nat} {A : List Int} (h : SM w mb n A) (e : w'.heap[mb]? = w.heap[mb]?) : SM w' mb n A := by
  obtain ⟨D, ⟨es, clock, hb, r⟩, h2⟩ := h
  exact ⟨D, ⟨es, clock, e.trans hb, r⟩, h2⟩
theorem SM.made (w : World) : SM (w.alloc (.map #[] 0)) w.heap.size 0 [] :=
  ⟨.map [], World.ownsMap_made _ _ _ _, fun x _ => rfl⟩
theorem elem_bool_inv {v : Value} {z : DataW Unit × List MemPlace} (h : plainElem Try.prog 4 v = some z) : ∃ a, v = .bool a ∧ z = (.lit (.bool a), []) := by
  have e4 := Try.underlying4
  unfold plainElem at h
  generalize Try.prog.underlying 4 = u at h e4
  subst e4
  cases v <;> simp at h
  subst h
  exact ⟨_, rfl, rfl⟩
/-- The look-up at a number that was not added. -/
theorem SM.look {w : World} {mb n : Nat} {A : List Int} (h : SM w mb n A) (x : Int) (h0 : 0 ≤ x) (h1 : x ≤ 18446744073709551615) (hx : x ∉ A) : (Instr.lookup 28 (.map (some mb)) (.int .u64 x) false).run Try.prog w = .ok (.bool false) w := by
  obtain ⟨D, hown, hD⟩ := h
  obtain ⟨v, ps, hrun, hv⟩ := hown.lookup law25 map28 (zero4 w) (plainElem_bool Try.underlying4 false) (keyOf_int_mk Try.underlying25 (wf_u64 h0 h1))
  obtain ⟨a, rfl, hz⟩ := elem_bool_inv hv
  rw [hD x hx] at hz
  simp only [Prod.mk.injEq, DataW.lit.injEq, Lit.bool.injEq] at hz
  rw [hrun, ← hz.1]
/-- The store. -/
theorem SM.store {w : World} {mb n : Nat} {A : List Int} (h : SM w mb n A) (hn : n ≤ 100000) (x : Int) (h0 : 0 ≤ x) (h1 : x ≤ 18446744073709551615) :
    ∃ w', (Instr.mapUpdate 28 (.map (some mb)) (.int .u64 x) (.bool true)).run Try.prog w = .ok () w' ∧ SM w' mb (n + 1) (A ++ [x]) ∧ w.grownBy w' (some mb) := by
  obtain ⟨D, hown, hD⟩ := h
  obtain ⟨w', hrun, ho, hg⟩ := hown.update law25 map28 (by unfold maxLen; omega) (keyOf_int_mk Try.underlying25 (wf_u64 h0 h1)) (plainElem_bool Try.underlying4 true)
  refine ⟨w', hrun, ⟨_, ho, fun y hy => ?_⟩, hg⟩
  rw [List.mem_append, not_or, List.mem_singleton] at hy
  rw [atKey_put_other (by intro e; injection e with _ e; exact hy.2 e)]
  exact hD y hy.1

/-- THE WHOLE STATE of the script's loop: the Seqs in block B, the row in ab = B + 1, the set in mb = B + 2; what the Seqs owns lies above. -/
structure ST (w0 : World) (B ab mb n : Nat) (w : World) (H : Int) (V : Value) (L A : List Int) : Prop where
  e1 : ab = B + 1
  e2 : mb = B + 2
  sq : SQ w (B + 3) B H V L
  ar : AR w ab n A
  sm : SM w mb A.length A
  be : Below B w0 w
section
variable {w0 w : World} {B ab mb n : Nat} {H : Int} {V : Value} {L A : List Int}
theorem ST.drew (h : ST w0 B ab mb n w H V L A) (q : Nat) : ST w0 B ab mb n (w.drewN q) H V L A :=
  ⟨h.e1, h.e2, h.sq.drew q, h.ar.kept rfl, h.sm.kept rfl, h.be.trans ⟨rfl, rfl, rfl, Nat.le_refl _, fun _ _ => rfl⟩⟩
theorem ST.add {w' : World} {H' : Int} {V' : Value} {L' : List Int} (h : ST w0 B ab mb n w H V L A) (hq : SQ w' (B + 3) B H' V' L') (hp : Sp (B + 3) B w w') : ST w0 B ab mb n w' H' V' L' A := by
  obtain ⟨rfl, rfl, h1, h2, h3, h4⟩ := h
  exact ⟨rfl, rfl, hq, h2.kept (hp.block _ (by omega) (by omega)), h3.kept (hp.block _ (by omega) (by omega)), h4.trans ⟨hp.os, hp.tape, hp.output, hp.size, fun k hk => hp.block k (by omega) (by omega)⟩⟩
theorem SQ.grown {w' : World} {base sb r : Nat} (h : SQ w base sb H V L) (hg : w.grownBy w' (some r)) (h1 : sb ≠ r) (h2 : r < base) : SQ w' base sb H V L :=
  ⟨(hg.block sb h.lt (by simpa using h1)).trans h.blk, h.own.kept hg (by
    cases e : V.ownBlock with
    | none => exact .inl rfl
    | some k => exact .inr (by have := (h.own.lt k e).1; simp; omega)), Nat.le_trans h.size hg.size⟩
/-- Behind the append. -/
theorem ST.push {w' : World} (h : ST w0 B ab mb n w H V L A) (hl : A.length < n) (x : Int) (o : Obj) (hw : (w.alloc o).setCell ⟨ab, A.length, none⟩ (.int .u64 x) = w') :
    SQ w' (B + 3) B H V L ∧ AR w' ab n (A ++ [x]) ∧ SM w' mb A.length A ∧ Below B w0 w' := by
  obtain ⟨rfl, rfl, h1, h2, h3, h4⟩ := h
  subst hw
  have hs := h1.size
  have g1 : w.grownBy (w.alloc o) (some (B + 1)) := ⟨rfl, rfl, rfl, by simp, fun k hk _ => Below.heap_alloc w o k hk⟩
  have g2 : (w.alloc o).grownBy ((w.alloc o).setCell ⟨B + 1, A.length, none⟩ (.int .u64 x)) (some (B + 1)) := ⟨rfl, rfl, rfl, by simp [World.setCell], fun k hk hne => heap_set (w.alloc o) (B + 1) A.length (.int .u64 x) k (by simpa using hne)⟩
  have a1 : AR (w.alloc o) (B + 1) n A := h2.kept (Below.heap_alloc w o _ (by omega))
  refine ⟨(h1.grown g1 (by omega) (by omega)).grown g2 (by omega) (by omega), a1.push hl x, ?_, ?_⟩
  · exact (h3.kept (Below.heap_alloc w o _ (by omega))).kept (heap_set (w.alloc o) (B + 1) A.length (.int .u64 x) _ (by omega))
  · refine h4.trans ⟨rfl, rfl, rfl, by simp [World.setCell], fun k hk => ?_⟩
    exact (heap_set (w.alloc o) (B + 1) A.length (.int .u64 x) k (by omega)).trans (Below.heap_alloc w o k (by omega))
/-- Behind the store into the set. -/
theorem ST.mk2 {w' : World} {x : Int} (e1 : ab = B + 1) (e2 : mb = B + 2) (q : SQ w (B + 3) B H V L) (a : AR w ab n (A ++ [x])) (b : Below B w0 w) (m : SM w' mb (A.length + 1) (A ++ [x])) (hg : w.grownBy w' (some mb)) : ST w0 B ab mb n w' H V L (A ++ [x]) := by
  subst e1 e2
  have hs := q.size
  refine ⟨rfl, rfl, q.grown hg (by omega) (by omega), a.kept (hg.block _ (by omega) (by simp)), by simpa using m, b.trans ⟨hg.os, hg.tape, hg.output, hg.size, fun k hk => hg.block k (by omega) (by simp; omega)⟩⟩
/-- At the start. -/
theorem st_start (w : World) (n : Nat) : ST w w.heap.size (w.heap.size + 1) (w.heap.size + 1 + 1) n (((w.alloc (.cells #[.int .u64 0, .slice none 0 0] 27)).alloc (.cells (rowA .u64 (List.replicate n 0)) 25)).alloc (.map #[] 0)) 0 (.slice none 0 0) [] [] := by
  refine ⟨rfl, rfl, ⟨?_, World.ownsRow_nil _ _ _ _, ?_⟩, ⟨rowA .u64 (List.replicate n 0), ?_, by simp [rowA], by simp, fun i hi => absurd hi (by simp)⟩, ?_, ?_⟩
  · rw [Below.heap_alloc _ _ _ (by simp; omega), Below.heap_alloc _ _ _ (by simp)]
    exact heap_alloc_new w _
  · simp
  · rw [Below.heap_alloc _ _ _ (by simp)]
    have := heap_alloc_new (w.alloc (.cells #[.int .u64 0, .slice none 0 0] 27)) (.cells (rowA .u64 (List.replicate n 0)) 25)
    simpa using this
  · have := SM.made ((w.alloc (.cells #[.int .u64 0, .slice none 0 0] 27)).alloc (.cells (rowA .u64 (List.replicate n 0)) 25))
    simpa using this
  · exact (((Below.refl _ _).alloc (Nat.le_refl _) _).alloc (by simp) _).alloc (by simp; omega) _
end

end Go.Proofs.Qxb6600076a
