/-
  THE SHELF's CONTRACT of slices.Delete laid at this dump, in plain words (by the shelf's own tool).
-/
import Derived.Shelf.SlicesE.Delete
import Derived.Test.Qxb6600076aProg
namespace Go.Proofs
open Go.Shelf
def Try.laysSlE45_f33_ren : Go.Shelf.Ren := ⟨fun | 45 => 33 | n => n, fun | 22 => 22 | 23 => 25 | 3 => 3 | 4 => 4 | 0 => 0 | n => n, fun | n => n⟩
theorem Try.laysSlE45_f33 : Go.Proofs.SlLaysE.n45 Try.prog Try.laysSlE45_f33_ren := {
  mixed := by kernel_rfl
  f45 := ⟨Try.f33.name, by decide, Try.func33.trans (congrArg some (by kernel_rfl))⟩
  t0 := Try.underlying0
  a0 := Try.isAgg0
  z0 := Try.sizeOf0
  v0 := Try.zeroValue0
  t3 := Try.underlying3
  a3 := Try.isAgg3
  z3 := Try.sizeOf3
  v3 := Try.zeroValue3
  t4 := Try.underlying4
  a4 := Try.isAgg4
  z4 := Try.sizeOf4
  v4 := Try.zeroValue4
  t22 := Try.underlying22
  a22 := Try.isAgg22
  z22 := Try.sizeOf22
  v22 := Try.zeroValue22
  a23 := Try.isAgg25
  z23 := Try.sizeOf25 }
open Go.RowKit Go.Lib Go.Sort in
/-- slices.Delete at this instance. (Laid: one application.) -/
theorem Try.slices_Delete {α : Type} [Inhabited α] (enc : α → Value) (h1 : OneCell enc) (zr : α) (v23 : ∀ w, (zeroValue 25).run Try.prog w = .ok (enc zr) w) (i0 : TypeInfo) (hi0 : Try.prog.info? 25 = some i0) (hz1 : i0.size = 1) (blk off cap i j : Nat) (d : Array α) (w : World) (hH : Holds enc w blk off d) (hcap : d.size ≤ cap) (hm : cap ≤ 9223372036854775807) (hij : i ≤ j) (hj : j ≤ d.size) :
    Calls Try.prog 33 #[.slice (some ⟨blk, off, none⟩) d.size cap, .int .i64 i, .int .i64 j] w fun e w' => e = .returned (.slice (some ⟨blk, off, none⟩) (d.size - (j - i)) cap) ∧ ∃ q, w' = putRow enc (Sort.ahead w q) blk off (d.toList.take i ++ d.toList.drop j ++ List.replicate (j - i) zr).toArray := AnyE.slices_Delete Try.laysSlE45_f33 enc h1 zr v23 i0 hi0 hz1 blk off cap i j d w hH hcap hm hij hj
end Go.Proofs
