/-
  THE GROUND of the seat's walks: slices of integers as lists; rows of a new block.
-/
import Derived.Test.Qxb6600076aRows
import Derived.WalkKit
import Derived.WalkSpells
import Derived.WalkLawsBesides
import Derived.Deep.LoopGhost
import Derived.Deep.DeepCutAuto
import Derived.Deep.CutBlock
import Derived.Deep.QuietTactic
import Derived.BigQuiet
import Derived.Deep.OwnRows
import Derived.Lib.JoinLaws
namespace Go.Proofs.Qxb6600076a
open Go.RowKit

/-- A fact laid aside: the walk does not take it for a rule. -/
def Keep (p : Prop) : Prop := p
theorem Keep.mk {p : Prop} (h : p) : Keep p := h
theorem Keep.out {p : Prop} (h : Keep p) : p := h

/-- A row of integers as cells. -/
def rowA (k : IntKind) (l : List Int) : Array Value := (l.map (Value.int k)).toArray
theorem rowA_set (k : IntKind) (l : List Int) (i : Nat) (v : Int) : (rowA k l).setIfInBounds i (.int k v) = rowA k (l.set i v) := by
  simp [rowA, List.map_set]
theorem rowA_get (k : IntKind) (l : List Int) (i : Nat) (h : i < l.length) : (rowA k l)[i]? = some (.int k (l.getD i 0)) := by
  simp [rowA, List.getElem?_eq_getElem h]
theorem rowA_made (k : IntKind) (n : Nat) : madeCells #[.int k 0] n = rowA k (List.replicate n 0) := by
  apply Array.ext'
  apply List.ext_getElem
  · simp [madeCells, rowA]
  · intro i h1 h2
    simp [madeCells, rowA, Nat.mod_one]

theorem info36 : (Try.prog.info? 36).map (fun i => (i.zero, i.size, i.bytes)) = some (some (.int .u32 0), 1, 4) := by kernel_rfl
theorem info37 : (Try.prog.info? 37).map (fun i => (i.zero, i.size, i.bytes)) = some (some (.int .u32 0), 1, 4) := by kernel_rfl
theorem info25 : (Try.prog.info? 25).map (fun i => (i.zero, i.size, i.bytes)) = some (some (.int .u64 0), 1, 8) := by kernel_rfl
theorem make53 (n : Nat) (h : n ≤ 4000000) (w : World) : (Instr.makeSlice 53 (.int .i64 (n : Int)) (.int .i64 (n : Int))).run Try.prog w = .ok (.slice (some ⟨w.heap.size, 0, none⟩) n n) (w.alloc (.cells (rowA .u32 (List.replicate n 0)) 36)) := by
  rw [← rowA_made]
  exact run_make_row' 53 36 (.int .u32 0) 4 Try.underlying53 info36 rfl .i64 .i64 n (by omega) (by omega) w
theorem make58 (n : Nat) (h : n ≤ 4000000) (w : World) : (Instr.makeSlice 58 (.int .i64 (n : Int)) (.int .i64 (n : Int))).run Try.prog w = .ok (.slice (some ⟨w.heap.size, 0, none⟩) n n) (w.alloc (.cells (rowA .u32 (List.replicate n 0)) 37)) := by
  rw [← rowA_made]
  exact run_make_row' 58 37 (.int .u32 0) 4 Try.underlying58 info37 rfl .i64 .i64 n (by omega) (by omega) w
theorem make22 (n : Nat) (h : n ≤ 4000000) (w : World) : (Instr.makeSlice 22 (.int .i64 (n : Int)) (.int .i64 (n : Int))).run Try.prog w = .ok (.slice (some ⟨w.heap.size, 0, none⟩) n n) (w.alloc (.cells (rowA .u64 (List.replicate n 0)) 25)) := by
  rw [← rowA_made]
  exact run_make_row' 22 25 (.int .u64 0) 8 Try.underlying22 info25 rfl .i64 .i64 n (by omega) (by omega) w

/-- THE SLICE v HOLDS THE NUMBERS l in the world w: it has no element; or it leads to a row of cells. -/
def Sl (k : IntKind) (w : World) (v : Value) (l : List Int) : Prop :=
  ∃ a c, v = .slice a l.length c ∧ (l = [] ∨ ∃ b off, a = some ⟨b, off, none⟩ ∧ b < w.heap.size ∧ ∀ i, i < l.length → w.cell? ⟨b, off + i, none⟩ = some (.int k (l.getD i 0)))
theorem Sl.on {k : IntKind} {w w' : World} {v : Value} {l : List Int} (h : Sl k w v l) (hb : Below w.heap.size w w') : Sl k w' v l := by
  obtain ⟨a, c, rfl, h⟩ := h
  refine ⟨a, c, rfl, ?_⟩
  rcases h with h | ⟨b, off, rfl, hlt, hc⟩
  · exact .inl h
  · exact .inr ⟨b, off, rfl, Nat.lt_of_lt_of_le hlt hb.size, fun i hi => (hb.cell (p := ⟨b, off + i, none⟩) hlt).trans (hc i hi)⟩
theorem Sl.heap {k : IntKind} {w w' : World} {v : Value} {l : List Int} (h : Sl k w v l) (e : w'.heap = w.heap) (e1 : w'.os = w.os) (e2 : w'.tape = w.tape) (e3 : w'.output = w.output) : Sl k w' v l :=
  h.on ⟨e1, e2, e3, by rw [e]; exact Nat.le_refl _, fun _ _ => by rw [e]⟩

/-- From what the row hands over to the list of the elements. -/
theorem sl_of_row {k : IntKind} {w : World} {a : Option Addr} {len : Nat} {zs : List Int} (h : len = 0 ∨ ∃ x, a = some x ∧ len ≤ zs.length ∧ ∀ i, i < zs.length → w.cell? (x.add i) = some (.int k (zs.getD i 0))) :
    ∃ l : List Int, l.length = len ∧ ∀ c, Sl k w (.slice a len c) l := by
  by_cases h0 : len = 0
  · subst h0
    exact ⟨[], rfl, fun c => ⟨a, c, rfl, .inl rfl⟩⟩
  · rcases h with h | ⟨x, rfl, hl, hc⟩
    · exact absurd h h0
    · obtain ⟨b, off, spot⟩ := x
      have hspot : spot = none := by simpa [Addr.add] using World.cell?_spot (hc 0 (by omega))
      subst hspot
      refine ⟨zs.take len, by simp; omega, fun c => ⟨_, c, by rw [List.length_take, Nat.min_eq_left hl], .inr ⟨b, off, rfl, ?_, ?_⟩⟩⟩
      · have h1 := hc 0 (by omega)
        rcases Nat.lt_or_ge b w.heap.size with h2 | h2
        · exact h2
        · exfalso
          have e : (⟨b, off, none⟩ : Addr).add 0 = ⟨b, off, none⟩ := by simp [Addr.add]
          rw [e] at h1
          simp [World.cell?, Array.getElem?_eq_none h2] at h1
      · intro i hi
        have hi' : i < len := by simp at hi; omega
        have h1 := hc i (by omega)
        have e : (⟨b, off, none⟩ : Addr).add i = ⟨b, off + i, none⟩ := by simp [Addr.add]
        rw [e] at h1
        rw [h1]
        simp [List.getD_eq_getElem?_getD, hi']

end Go.Proofs.Qxb6600076a
