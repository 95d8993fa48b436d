/-
  SMALL THINGS FOR THE WALKS: bytes as cells; what a 'Below' keeps.
-/
import Derived.Test.Qxb6000021aModsRows
import Derived.Test.Qxb6000021aModsModel
import Derived.WalkKit
import Derived.WalkSpells
import Derived.WalkLawsBesides
import Derived.Lib.AppendStr
import Derived.Deep.Draws
namespace Go.Proofs.Qxb6000021aMods
open Go.RowKit Pl

theorem Trym.info5 : (Trym.prog.info? 5).map (fun i => (i.zero, i.size, i.bytes)) = some (some (.int .u8 0), 1, 1) := by kernel_rfl

/-- Bytes as cells. -/
def bc (l : List UInt8) : List Value := l.map fun b => Value.int .u8 b.toNat
theorem bc_len (l : List UInt8) : (bc l).length = l.length := List.length_map ..
theorem bc_snoc (l : List UInt8) (c : UInt8) : bc (l ++ [c]) = bc l ++ [.int .u8 c.toNat] := by simp [bc]

theorem bc_cell {w : World} {B n cap : Nat} {d : List UInt8} (hn : n = d.length) (h : w.ownsRow B 5 1 (.slice (some ⟨B, 0, none⟩) n cap) n (bc d)) (z : Nat) (hz : z < d.length) : w.cell? ⟨B, z, none⟩ = some (.int .u8 (d[z].toNat : Int)) := by
  rw [h.cellAt z (by omega)]; simp [bc, hz]

theorem below_drewN {B n : Nat} {a b : World} (h : Below B a b) : Below B a (b.drewN n) := ⟨h.os, h.tape, h.output, h.size, h.block⟩

end Go.Proofs.Qxb6000021aMods
