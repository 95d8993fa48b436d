/-
  A canonical number: what is written for it reads as it (the two plain laws brought together).
-/
import Derived.Test.Qxb6000021aModsLaw2
import Derived.Test.Qxb6000021aModsCanon
namespace Go.Proofs.Qxb6000021aMods
open Go.RowKit Pl

theorem mk_data (s : ByteArray) : (⟨s.data.toList.toArray⟩ : ByteArray) = s := by
  apply ByteArray.ext; simp

/-- A canonical number: what is written for it reads as it. -/
theorem rd_back {neg : Bool} {dg : ByteArray} {ex : Int} (h : cnB neg dg.data.toList ex = true) : rd ⟨(apT neg dg.data.toList ex).toArray⟩ = (neg, dg, ex, true) := by
  unfold cnB at h
  by_cases hd : dg.data.toList = []
  · rw [if_pos hd] at h
    simp at h
    obtain ⟨rfl, rfl⟩ := h
    have e : apT false dg.data.toList 0 = [48] := if_pos hd
    rw [rd_zero (by rw [e])]
    have : dg = ByteArray.empty := by rw [← mk_data dg, hd]; rfl
    rw [this]
  · rw [if_neg hd] at h
    obtain ⟨h1, h2⟩ := (cdB_iff _).1 h
    rw [rd_ap (neg := neg) (ex := ex) h1 h2 rfl, mk_data]

end Go.Proofs.Qxb6000021aMods
