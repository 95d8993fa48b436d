/-
  THE PLAIN LAWS of reading and writing: what Append writes reads as the number it was written from; what is read is canonical. No Go in sight.
-/
import Derived.Test.Qxb6000021aModsLaw
import Derived.Test.Qxb6000021aModsPlace
namespace Go.Proofs.Qxb6000021aMods.Pl

theorem sgn_neg {s : ByteArray} {r : List UInt8} (h : s.data.toList = 45 :: r) : sgnLen (fr s 0) = 1 ∧ sgnNeg (fr s 0) = true := by
  have e : fr s 0 = 45 :: r := h
  rw [e]; exact ⟨rfl, rfl⟩
theorem sgn_dig {s : ByteArray} {c : UInt8} {r : List UInt8} (h : s.data.toList = c :: r) (hc : 48 ≤ c.toNat) : sgnLen (fr s 0) = 0 ∧ sgnNeg (fr s 0) = false := by
  have e : fr s 0 = c :: r := h
  rw [e]
  exact ⟨if_neg (by omega), by simp only [sgnNeg]; exact beq_eq_false_iff_ne.2 (by omega)⟩

/-- A text of the plain form: a minus or none, digits, a point and digits or none. -/
theorem md_plain {s : ByteArray} {neg : Bool} {I F M : List UInt8} (hT : s.data.toList = sgT neg ++ (I ++ M)) (hI : Dg I) (hF : Dg F) (hn : I ≠ []) (hM : (M = [] ∧ F = []) ∨ M = 46 :: F) :
    md s = mdFin neg (I ++ F) I.length 0 := by
  have hlen : s.data.toList.length = s.size := by simp
  have hsg : sgnLen (fr s 0) = (sgT neg).length ∧ sgnNeg (fr s 0) = neg := by
    cases neg
    · match I, hn, hI with
      | c :: r, _, hI => exact sgn_dig (c := c) (r := r ++ M) (by rw [hT]; rfl) hI.head.1
    · exact sgn_neg (r := I ++ M) (by rw [hT]; rfl)
  unfold md
  rw [hsg.1, hsg.2]
  have hfr : fr s (sgT neg).length = I ++ (M ++ []) := by
    unfold fr; rw [hT, List.drop_left]; simp
  have hM' : (M = [] ∧ F = [] ∧ Stop (-1) []) ∨ (M = 46 :: F ∧ Stop 0 []) := by
    rcases hM with ⟨a, b⟩ | a
    · exact .inl ⟨a, b, trivial⟩
    · exact .inr ⟨a, trivial⟩
  obtain ⟨_, e2⟩ := scans hfr hI hF hM' (sgT neg).length
  rw [e2]
  have hend : fr s ((sgT neg).length + I.length + M.length) = [] := by
    refine fr_end s _ ?_
    rw [← hlen, hT]; simp; omega
  refine mt_some ?_ (by rw [hend]; rfl)
  intro h
  exact hn (List.append_eq_nil_iff.1 h).1

theorem ap_dg_head {d : List UInt8} (h : Core d) : d ≠ [] := by
  obtain ⟨⟨c, R, rfl, _⟩, _⟩ := h; simp

theorem ap_len (neg : Bool) (d : List UInt8) (ex : Int) (hd : d.length ≤ 65536) (h1 : -65536 ≤ ex) (h2 : ex ≤ 65536) : 0 < (apT neg d ex).length ∧ (apT neg d ex).length ≤ 1000000 := by
  have h4 : (sgT neg).length ≤ 1 := by cases neg <;> simp [sgT]
  unfold apT
  by_cases h : d = []
  · rw [if_pos h]; simp
  · have := List.length_pos_iff.2 h
    rw [if_neg h, List.length_append]; unfold apB
    split
    · simp; omega
    · split
      · simp; omega
      · simp; omega

/-- THE LAW: what is written for a canonical number reads as it. -/
theorem rd_ap {s : ByteArray} {neg : Bool} {d : List UInt8} {ex : Int} (hd : Dg d) (hc : Core d) (hT : s.data.toList = apT neg d ex) : rd s = (neg, ⟨d.toArray⟩, ex, true) := by
  have hne := ap_dg_head hc
  have hp := core_pos hc
  rw [rd_eq_md]
  unfold apT at hT
  rw [if_neg hne] at hT
  unfold apB at hT
  by_cases h1 : ex < 0
  · rw [if_pos h1] at hT
    obtain ⟨a, ha⟩ : ∃ a : Nat, ex = -(a : Int) - 1 := ⟨(-ex - 1).toNat, by omega⟩
    have e1 : (-ex - 1).toNat = a := by omega
    rw [e1] at hT
    rw [md_plain (neg := neg) (I := [48]) (F := zs a ++ d) (M := 46 :: (zs a ++ d)) (by rw [hT]; rfl) (Dg.zeros 1) ((Dg.zeros a).append hd) (by simp) (.inr rfl)]
    have e2 : [48] ++ (zs a ++ d) = zs (a + 1) ++ d ++ zs 0 := by
      rw [zs, zs, zs, List.replicate_succ]; simp
    rw [e2, mdFin_core neg hc]
    refine Prod.ext rfl (Prod.ext rfl (Prod.ext ?_ rfl))
    simp only [List.length_singleton]; omega
  · rw [if_neg h1] at hT
    obtain ⟨m, hm⟩ : ∃ m : Nat, ex = m := ⟨ex.toNat, by omega⟩
    subst hm
    by_cases h2 : (m : Int) + 1 < d.length
    · rw [if_pos h2, show ((m : Int) + 1).toNat = m + 1 from by omega] at hT
      have hsp : d.take (m + 1) ++ d.drop (m + 1) = d := List.take_append_drop _ _
      have hdd : Dg (d.take (m + 1) ++ d.drop (m + 1)) := by rw [hsp]; exact hd
      have htl : (d.take (m + 1)).length = m + 1 := by rw [List.length_take]; omega
      rw [md_plain (neg := neg) (I := d.take (m + 1)) (F := d.drop (m + 1)) (M := 46 :: d.drop (m + 1)) (by rw [hT]; rfl) hdd.left hdd.right (fun h => by rw [h] at htl; simp at htl) (.inr rfl), hsp, htl]
      have e2 : d = zs 0 ++ d ++ zs 0 := by simp [zs]
      have e3 := mdFin_core neg (z := 0) (y := 0) hc (m + 1) 0
      rw [← e2] at e3
      rw [e3]
      refine Prod.ext rfl (Prod.ext rfl (Prod.ext ?_ rfl))
      simp only; omega
    · rw [if_neg h2] at hT
      rw [md_plain (neg := neg) (I := d ++ zs ((m : Int) + 1 - d.length).toNat) (F := []) (M := []) (by rw [hT]; simp) (hd.append (Dg.zeros _)) Dg.nil (by simp [hne]) (.inl ⟨rfl, rfl⟩)]
      have e2 : d ++ zs ((m : Int) + 1 - d.length).toNat ++ [] = zs 0 ++ d ++ zs ((m : Int) + 1 - d.length).toNat := by simp [zs]
      rw [e2, mdFin_core neg hc]
      refine Prod.ext rfl (Prod.ext rfl (Prod.ext ?_ rfl))
      simp only [List.length_append, List.length_replicate]; omega
theorem rd_zero {s : ByteArray} (hT : s.data.toList = [48]) : rd s = (false, ByteArray.empty, 0, true) := by
  rw [rd_eq_md, md_plain (neg := false) (I := [48]) (F := []) (M := []) (by rw [hT]; rfl) (Dg.zeros 1) Dg.nil (by simp) (.inl ⟨rfl, rfl⟩)]
  exact mdFin_zeros false 1 _ _

/-- THE LAW: what is read is zero, or has a core of digits. -/
theorem rd_canon (s : ByteArray) : rd s = Bad ∨ rd s = (false, ByteArray.empty, 0, true) ∨ ∃ neg D ex, rd s = (neg, ⟨D.toArray⟩, ex, true) ∧ Dg D ∧ Core D := by
  rw [rd_eq_md]; unfold md
  obtain ⟨I, F, M, R, hb, hI, hF, hM⟩ := splitM (fr s (sgnLen (fr s 0)))
  obtain ⟨_, e2⟩ := scans hb hI hF hM (sgnLen (fr s 0))
  rw [e2]
  by_cases hn : I ++ F = []
  · rw [hn]; exact .inl mt_nil
  · cases hx : expo (fr s (sgnLen (fr s 0) + I.length + M.length)) with
    | none => exact .inl (mt_none hx)
    | some e =>
      rw [mt_some hn hx]
      rcases zdec (I ++ F) with ⟨m, hm⟩ | ⟨z, D, y, hd, hD⟩
      · rw [hm]; exact .inr (.inl (mdFin_zeros _ _ _ _))
      · have hdg : Dg (zs z ++ D ++ zs y) := by rw [← hd]; exact hI.append hF
        rw [hd]; exact .inr (.inr ⟨_, D, _, mdFin_core _ hD _ _, hdg.left.right, hD⟩)

/-- A digit string's length is at most the text's. -/
theorem rd_len (s : ByteArray) : (rd s).2.1.size ≤ s.size := by
  rw [rd_eq_md]; unfold md
  obtain ⟨I, F, M, R, hb, hI, hF, hM⟩ := splitM (fr s (sgnLen (fr s 0)))
  obtain ⟨_, e2⟩ := scans hb hI hF hM (sgnLen (fr s 0))
  rw [e2]
  have hl : (I ++ F).length ≤ s.size := by
    have h1 := congrArg List.length hb
    have h2 : (fr s (sgnLen (fr s 0))).length ≤ s.size := by unfold fr; rw [List.length_drop]; simp
    rw [h1, List.length_append, List.length_append] at h2
    rw [List.length_append]
    rcases hM with ⟨rfl, rfl, _⟩ | ⟨rfl, _⟩
    · simp at h2 ⊢; omega
    · rw [List.length_cons] at h2; omega
  by_cases hn : I ++ F = []
  · rw [hn]; exact Nat.zero_le _
  · cases hx : expo (fr s (sgnLen (fr s 0) + I.length + M.length)) with
    | none => rw [mt_none hx]; exact Nat.zero_le _
    | some e =>
      rw [mt_some hn hx]
      rcases zdec (I ++ F) with ⟨m, hm⟩ | ⟨z, D, y, hd, hD⟩
      · rw [hm, mdFin_zeros]; exact Nat.zero_le _
      · rw [hd, mdFin_core _ hD]
        rw [hd] at hl
        have : (⟨D.toArray⟩ : ByteArray).size = D.length := rfl
        simp only [this]
        simp at hl; omega

end Go.Proofs.Qxb6000021aMods.Pl
