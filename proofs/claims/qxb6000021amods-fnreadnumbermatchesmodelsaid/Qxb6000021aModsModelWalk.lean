/-
  THE WALK OF zzb1ModelRead (function 10): it computes 'Pl.md'.
-/
import Derived.Test.Qxb6000021aModsRows
import Derived.Test.Qxb6000021aModsCells
import Derived.WalkKit
import Derived.WalkSpells
import Derived.WalkLawsBesides
import Derived.Deep.DeepCutAuto
import Derived.Deep.CutBlock
import Derived.RegionTactic
import Derived.Lib.AppendStr
import Derived.Deep.QuietTactic
import Derived.BigQuiet
namespace Go.Proofs.Qxb6000021aMods
open Go.RowKit Pl

theorem own_snoc {w : World} {B cap : Nat} {d : List UInt8} {c : UInt8} (h : w.ownsRow B 5 1 (.slice (some ⟨B, 0, none⟩) (d.length + 1) cap) (d.length + 1) (bc d ++ [.int .u8 c.toNat])) : w.ownsRow B 5 1 (.slice (some ⟨B, 0, none⟩) (d ++ [c]).length cap) (d ++ [c]).length (bc (d ++ [c])) := by
  rw [bc_snoc, List.length_append]; exact h

/-- What zzb1ModelRead leaves: 'md s', some word on 'big', and nothing old has turned. -/
def MdSaid (s : ByteArray) (w : World) (e : Ending) (w' : World) : Prop :=
  ∃ big : Bool, e = .returned (.tuple #[.bool (md s).1, .string (md s).2.1, .int .i64 (md s).2.2.1, .bool (md s).2.2.2, .bool big]) ∧ Below w.heap.size w w'
theorem ret_md {s : ByteArray} {w w' : World} {M : Num} {b : Bool} {B : Nat} (h : md s = M) (hB : B = w.heap.size) (hb : Below B w w') : MdSaid s w (.returned (.tuple #[.bool M.1, .string M.2.1, .int .i64 M.2.2.1, .bool M.2.2.2, .bool b])) w' :=
  ⟨b, by rw [h], by rw [← hB]; exact hb⟩
theorem conv_cut {w : World} {B cap : Nat} {d : List UInt8} {z u : Nat} (h : w.ownsRow B 5 1 (.slice (some ⟨B, 0, none⟩) d.length cap) d.length (bc d)) (hz : lz d = z) (ht : tend d d.length = u + 1) (hu : u < d.length) (nq cp : Nat) :
    (convert 29 9 (.slice (some ⟨B, z, none⟩) (u + 1 - z) cp)).run Trym.prog (w.drewN nq) = .ok (.string ⟨(cutZ d).toArray⟩) (w.drewN nq) := by
  have hcl : (cutZ d).length = u + 1 - z := by unfold cutZ; rw [ht, hz, List.length_drop, List.length_take]; omega
  have e := run_convert_bytes_arg (P := Trym.prog) (w.drewN nq) 29 5 Trym.underlying29 Trym.underlying5 B z (u + 1 - z) cp ((cutZ d).map fun c => (c.toNat : Int)) (by rw [List.length_map, hcl]) (by
    intro i hi
    have hg : z + i < d.length := by omega
    rw [World.cell?_drewN, bc_cell rfl h (z + i) hg]
    have hi' : i < (cutZ d).length := by omega
    have e1 : (cutZ d)[i] = d[z + i] := by
      simp only [cutZ, List.getElem_drop, List.getElem_take, hz]
    rw [List.getD_eq_getElem?_getD, List.getElem?_map, List.getElem?_eq_getElem hi', e1]; rfl) 9 Trym.underlying9
  rw [e]
  have e2 : strOfNums ((cutZ d).map fun c => (c.toNat : Int)) = ⟨(cutZ d).toArray⟩ := by
    unfold strOfNums; rw [List.map_map]
    congr 2
    refine (List.map_congr_left (g := id) fun c _ => ?_).trans (List.map_id _)
    simp
  rw [e2]
theorem fin_md {neg : Bool} {d : List UInt8} {n z : Nat} {e : Int} (h : lz d = z) (h2 : z < d.length) : mdFin neg d n e = (neg, ⟨(cutZ d).toArray⟩, (n : Int) - (z : Int) - 1 + e, true) := by
  unfold mdFin; rw [if_neg (by omega), h]
set_option maxRecDepth 100000 in
set_option maxHeartbeats 4000000 in
theorem md_any (s : ByteArray) (w : World) (hs : s.size ≤ 4294967296) :
    Calls Trym.prog 10 #[.string s] w fun e w' => MdSaid s w e w' := by
  obtain ⟨i0, hi, hz0, hz1, hz2⟩ := info_parts Trym.info5
  go_enter Trym.func10, Trym.ntmps10
  go_upto_region 3 with fail
  go_cut [33] from 18 to 33 (fun b wx => b = .bool (sgnLen (fr s 0) == 1) ∧ w = wx)
  case first =>
    by_cases h0 : 0 < s.size
    · by_cases h1 : (s[0].toNat : Int) = 43
      · have H : Hid _ := sgn_plus s 0 h0 h1
        go_wp2
        go_meet
        case rel => exact ⟨by rw [H.out.1]; rfl, rfl⟩
      · by_cases h2 : (s[0].toNat : Int) = 45
        · have H : Hid _ := sgn_minus s 0 h0 h2
          go_wp2
          go_meet
          case rel => exact ⟨by rw [H.out.1]; rfl, rfl⟩
        · have H : Hid _ := sgn_other s 0 h0 h1 h2
          go_wp2
          go_meet
          case rel => exact ⟨by rw [H.out.1]; exact congrArg Value.bool (by simp [h1, h2]), rfl⟩
    · have H : Hid _ := sgn_nil s 0 h0
      go_wp2
      go_meet
      case rel => exact ⟨by rw [H.out.1]; rfl, rfl⟩
  case rest =>
    obtain ⟨rfl, rfl⟩ := hcut
    go_upto_if 33 with fail
    go_cut [7, 8] from 18 to 39 (fun i b wx => i = .int .i64 (sgnLen (fr s 0) : Nat) ∧ b = .bool (sgnNeg (fr s 0)) ∧ w = wx)
    case first =>
      by_cases h0 : 0 < s.size
      · by_cases h1 : (s[0].toNat : Int) = 43
        · have H : Hid _ := sgn_plus s 0 h0 h1
          have hb : (sgnLen (fr s 0) == 1) = true := by rw [H.out.1]; rfl
          go_wp2
          go_meet
          case rel => exact ⟨by rw [H.out.1]; rfl, by rw [H.out.2], rfl⟩
        · by_cases h2 : (s[0].toNat : Int) = 45
          · have H : Hid _ := sgn_minus s 0 h0 h2
            have hb : (sgnLen (fr s 0) == 1) = true := by rw [H.out.1]; rfl
            go_wp2
            go_meet
            case rel => exact ⟨by rw [H.out.1]; rfl, by rw [H.out.2], rfl⟩
          · have H : Hid _ := sgn_other s 0 h0 h1 h2
            have hb : (sgnLen (fr s 0) == 1) = false := by rw [H.out.1]; rfl
            go_wp2
            go_meet
            case rel => exact ⟨by rw [H.out.1]; rfl, by rw [H.out.2], rfl⟩
      · have H : Hid _ := sgn_nil s 0 h0
        have hb : (sgnLen (fr s 0) == 1) = false := by rw [H.out.1]; rfl
        go_wp2
        go_meet
        case rel => exact ⟨by rw [H.out.1]; rfl, by rw [H.out.2], rfl⟩
    case rest =>
      obtain ⟨rfl, rfl, rfl⟩ := hcut
      have hst : 0 + sgnLen (fr s 0) ≤ s.size := sgn_le s 0 (Nat.zero_le _)
      rw [Nat.zero_add] at hst
      have HR : Hid (md s = mdTail s (sgnNeg (fr s 0)) (dscan (fr s (sgnLen (fr s 0))) (sgnLen (fr s 0)) [] 0 false)) := rfl
      revert hst HR
      generalize sgnLen (fr s 0) = st
      generalize sgnNeg (fr s 0) = neg
      intro hst HR
      go_upto_block 0 with (at_make; refine wpList_make_own _ rfl _ _ 29 rfl w.heap.size 5 i0 (.int .u8 0) 1 Trym.underlying29 hi hz0 hz1 _ _ _ s.size rfl rfl (by omega) (by rw [hz2]; omega) (by unfold maxLen; omega) (Nat.le_refl _) ?_; intro w1 hown hgrow)
      have hbel : Below w.heap.size w w1 := (Below.refl _ _).grown hgrow (Nat.le_refl _) (fun k h => by cases h)
      clear hgrow
      obtain ⟨B, hB⟩ : ∃ B, B = w.heap.size := ⟨_, rfl⟩
      rw [← hB] at hown hbel
      have HBW : Hid (B = w.heap.size) := hB
      rw [← hB]
      clear hB
      go_cut [7, 9, 10] from 18 to 73 (fun i v m wx => ∃ (j n : Nat) (d : List UInt8), j ≤ s.size ∧ n ≤ d.length ∧ d.length ≤ j ∧ i = .int .i64 j ∧ v = .slice (some ⟨B, 0, none⟩) d.length s.size ∧ m = .int .i64 n ∧ wx.ownsRow B 5 1 (.slice (some ⟨B, 0, none⟩) d.length s.size) d.length (bc d) ∧ Below B w wx ∧ Hid (dscan (fr s st) st [] 0 false = (j, d, n)))
      case first =>
        go_wp2
        go_loopw [7, 9, 10, 11] (fun i v m b wx => ∃ (j n : Nat) (d : List UInt8) (p : Bool), j ≤ s.size ∧ n ≤ d.length ∧ d.length ≤ j ∧ i = .int .i64 j ∧ v = .slice (some ⟨B, 0, none⟩) d.length s.size ∧ m = .int .i64 n ∧ b = .bool p ∧ wx.ownsRow B 5 1 (.slice (some ⟨B, 0, none⟩) d.length s.size) d.length (bc d) ∧ Below B w wx ∧ Hid (dscan (fr s st) st [] 0 false = dscan (fr s j) j d n p)) (fun i _ _ _ _ => s.size - (intOf i).toNat)
        case atStart => exact ⟨st, 0, [], false, hst, Nat.le_refl _, Nat.zero_le _, rfl, rfl, rfl, rfl, hown, hbel, rfl⟩
        case round =>
          clear hown hbel
          obtain ⟨j, n, d, p, hj, hn, hd, rfl, rfl, rfl, rfl, hown, hbel, HM⟩ := hrel
          by_cases hlt : j < s.size
          · by_cases c1 : (s[j].toNat : Int) = 46 ∧ p = false
            · obtain ⟨c1, c2⟩ := c1
              subst c2
              go_wp2
              go_roundw
              case rel => exact ⟨j + 1, n, d, true, by omega, hn, by omega, by go_num, rfl, rfl, rfl, hown, hbel, HM.out.trans (ds_pt hlt c1)⟩
              case measure => simp [intOf]; omega
            · by_cases c2 : (s[j].toNat : Int) < 48 ∨ 57 < (s[j].toNat : Int)
              · have HC : Hid _ := c1
                by_cases d1 : (s[j].toNat : Int) = 46
                · have d2 : p = true := by cases p with | false => exact absurd ⟨d1, rfl⟩ c1 | true => rfl
                  clear c1
                  subst d2
                  go_wp2
                  all_goals
                    go_meet
                    case rel => exact ⟨j, n, d, hj, hn, hd, rfl, rfl, rfl, hown, hbel, HM.out.trans (ds_out hlt HC.out c2)⟩
                · clear c1
                  go_wp2
                  all_goals
                    go_meet
                    case rel => exact ⟨j, n, d, hj, hn, hd, rfl, rfl, rfl, hown, hbel, HM.out.trans (ds_out hlt HC.out c2)⟩
              · have c3 : 48 ≤ (s[j].toNat : Int) := by omega
                have c4 : (s[j].toNat : Int) ≤ 57 := by omega
                clear c1 c2
                have HS : Hid _ := HM.out.trans (ds_dig hlt c3 c4)
                clear HM
                have hsz : B ≤ wr.heap.size := by have := hbel.size; have := HBW.out; omega
                cases p
                · go_wp2_with (at_builtin; refine wpList_append_fits _ rfl _ _ 29 rfl B 5 i0 1 Trym.underlying29 hi hz1 B d.length s.size (bc d) rfl (hown.alloc _) ⟨wr.heap.size, 0, none⟩ 1 1 [.int .u8 (s[j].toNat : Int)] rfl rfl (cell_one_new _ _ _) (by intro u hu; simp at hu; subst hu; rfl) (by omega) ?_; intro w2 hown2 hgrow2)
                  have hown3 := own_snoc hown2
                  have hbel3 := (hbel.alloc hsz (.cells #[.int .u8 (s[j].toNat : Int)] 5)).grown hgrow2 (by simp; omega) (fun k h => by cases h; exact Nat.le_refl _)
                  go_roundw
                  case rel => exact ⟨j + 1, n + 1, d ++ [s[j]], false, by omega, by simp; omega, by simp; omega, by go_num, by simp, by go_num, rfl, hown3, hbel3, HS⟩
                  case measure => simp [intOf]; omega
                · go_wp2_with (at_builtin; refine wpList_append_fits _ rfl _ _ 29 rfl B 5 i0 1 Trym.underlying29 hi hz1 B d.length s.size (bc d) rfl (hown.alloc _) ⟨wr.heap.size, 0, none⟩ 1 1 [.int .u8 (s[j].toNat : Int)] rfl rfl (cell_one_new _ _ _) (by intro u hu; simp at hu; subst hu; rfl) (by omega) ?_; intro w2 hown2 hgrow2)
                  have hown3 := own_snoc hown2
                  have hbel3 := (hbel.alloc hsz (.cells #[.int .u8 (s[j].toNat : Int)] 5)).grown hgrow2 (by simp; omega) (fun k h => by cases h; exact Nat.le_refl _)
                  go_roundw
                  case rel => exact ⟨j + 1, n, d ++ [s[j]], true, by omega, by simp; omega, by simp; omega, by go_num, by simp, rfl, rfl, hown3, hbel3, HS⟩
                  case measure => simp [intOf]; omega
          · go_wp2
            go_meet
            case rel => exact ⟨j, n, d, hj, hn, hd, rfl, rfl, rfl, hown, hbel, HM.out.trans (ds_end hlt)⟩
      case rest =>
        clear hown hbel
        obtain ⟨k, n, d, hk, hn, hd, rfl, rfl, rfl, hown, hbel, HM⟩ := hcut
        have HT : Hid (md s = mdTail s neg (k, d, n)) := by rw [← HM.out]; exact HR.out
        clear HM HR
        by_cases hd0 : d = []
        · subst hd0
          have HX : Hid (md s = Bad) := HT.out.trans mt_nil
          clear HT
          go_wp2
          exact bodyPost_ret (v := .tuple #[.bool false, .string ByteArray.empty, .int .i64 0, .bool false, .bool false]) (by simp [results, Trym.results10, go_sem]; rfl) rfl (ret_md (M := Bad) (b := false) HX.out HBW.out hbel)
        · have hdl : 0 < d.length := List.length_pos_iff.2 hd0
          have HD : Hid (d ≠ []) := hd0
          clear hd0
          have hb0 : ((d.length : Int) == 0) = false := beq_eq_false_iff_ne.2 (by omega)
          go_upto_region 22 with fail
          go_cut [92] from 18 to 92 (fun b wx => b = .bool (isE (fr s k)) ∧ wc = wx)
          case first =>
            by_cases c0 : k < s.size
            · by_cases c1 : (s[k].toNat : Int) = 101
              · have E : Hid (isE (fr s k) = true) := isE_yes c0 (.inl c1)
                go_wp2
                go_meet
                case rel => exact ⟨congrArg Value.bool E.out.symm, rfl⟩
              · by_cases c2 : (s[k].toNat : Int) = 69
                · have E : Hid (isE (fr s k) = true) := isE_yes c0 (.inr c2)
                  go_wp2
                  go_meet
                  case rel => exact ⟨congrArg Value.bool E.out.symm, rfl⟩
                · have E : Hid (isE (fr s k) = false) := isE_no c0 c1 c2
                  go_wp2
                  go_meet
                  case rel => exact ⟨congrArg Value.bool (Eq.trans (by simp [c1, c2]) E.out.symm), rfl⟩
            · have E : Hid (isE (fr s k) = false) := isE_end c0
              go_wp2
              go_meet
              case rel => exact ⟨congrArg Value.bool E.out.symm, rfl⟩
          case rest =>
            obtain ⟨rfl, rfl⟩ := hcut
            go_upto_if 92 with fail
            go_cut [6, 7, 13] from 18 to 148 (fun b i e wx => ∃ (bg : Bool) (j : Nat) (ee : Int), b = .bool bg ∧ i = .int .i64 j ∧ e = .int .i64 ee ∧ j ≤ s.size ∧ -1000000000 ≤ ee ∧ ee ≤ 1000000000 ∧ Hid ((j = s.size → expo (fr s k) = some ee) ∧ (¬ j = s.size → expo (fr s k) = none)) ∧ wc = wx)
            case first =>
              by_cases hE : isE (fr s k) = true
              · have X : Hid (k < s.size ∧ expo (fr s k) = eafter (fr s (k + 1))) := isE_true hE
                have hk1 : k + 1 ≤ s.size := X.out.1
                rw [hE]
                clear hE
                go_upto_region 25 with fail
                go_cut [110] from 18 to 110 (fun b wx => b = .bool (sgnLen (fr s (k + 1)) == 1) ∧ wc = wx)
                case first =>
                  by_cases h0 : k + 1 < s.size
                  · by_cases h1 : (s[k + 1].toNat : Int) = 43
                    · have H : Hid _ := sgn_plus s (k + 1) h0 h1
                      go_wp2
                      go_meet
                      case rel => exact ⟨by rw [H.out.1]; rfl, rfl⟩
                    · by_cases h2 : (s[k + 1].toNat : Int) = 45
                      · have H : Hid _ := sgn_minus s (k + 1) h0 h2
                        go_wp2
                        go_meet
                        case rel => exact ⟨by rw [H.out.1]; rfl, rfl⟩
                      · have H : Hid _ := sgn_other s (k + 1) h0 h1 h2
                        go_wp2
                        go_meet
                        case rel => exact ⟨by rw [H.out.1]; exact congrArg Value.bool (by simp [h1, h2]), rfl⟩
                  · have H : Hid _ := sgn_nil s (k + 1) h0
                    go_wp2
                    go_meet
                    case rel => exact ⟨by rw [H.out.1]; rfl, rfl⟩
                case rest =>
                  obtain ⟨rfl, rfl⟩ := hcut
                  go_upto_if 110 with fail
                  go_cut [7, 14] from 18 to 116 (fun i b wx => i = .int .i64 ((k + 1 + sgnLen (fr s (k + 1)) : Nat) : Int) ∧ b = .bool (sgnNeg (fr s (k + 1))) ∧ wc = wx)
                  case first =>
                    by_cases h0 : k + 1 < s.size
                    · by_cases h1 : (s[k + 1].toNat : Int) = 43
                      · have H : Hid _ := sgn_plus s (k + 1) h0 h1
                        have hb : (sgnLen (fr s (k + 1)) == 1) = true := by rw [H.out.1]; rfl
                        rw [hb]
                        clear hb
                        go_wp2
                        go_meet
                        case rel => exact ⟨by rw [H.out.1]; go_num, by rw [H.out.2], rfl⟩
                      · by_cases h2 : (s[k + 1].toNat : Int) = 45
                        · have H : Hid _ := sgn_minus s (k + 1) h0 h2
                          have hb : (sgnLen (fr s (k + 1)) == 1) = true := by rw [H.out.1]; rfl
                          rw [hb]
                          clear hb
                          go_wp2
                          go_meet
                          case rel => exact ⟨by rw [H.out.1]; go_num, by rw [H.out.2], rfl⟩
                        · have H : Hid _ := sgn_other s (k + 1) h0 h1 h2
                          have hb : (sgnLen (fr s (k + 1)) == 1) = false := by rw [H.out.1]; rfl
                          rw [hb]
                          clear hb
                          go_wp2
                          go_meet
                          case rel => exact ⟨by rw [H.out.1]; go_num, by rw [H.out.2], rfl⟩
                    · have H : Hid _ := sgn_nil s (k + 1) h0
                      have hb : (sgnLen (fr s (k + 1)) == 1) = false := by rw [H.out.1]; rfl
                      rw [hb]
                      clear hb
                      go_wp2
                      go_meet
                      case rel => exact ⟨by rw [H.out.1]; go_num, by rw [H.out.2], rfl⟩
                  case rest =>
                    obtain ⟨rfl, rfl, rfl⟩ := hcut
                    have hts : k + 1 + sgnLen (fr s (k + 1)) ≤ s.size := sgn_le s (k + 1) hk1
                    have HN : Hid (∀ e, k + 1 + sgnLen (fr s (k + 1)) < s.size → escan (fr s (k + 1 + sgnLen (fr s (k + 1)))) 0 = some e → expo (fr s k) = some (if sgnNeg (fr s (k + 1)) then -e else e)) := fun e h1 h2 => X.out.2.trans (ea_some h1 h2)
                    have HN2 : Hid (k + 1 + sgnLen (fr s (k + 1)) < s.size → escan (fr s (k + 1 + sgnLen (fr s (k + 1)))) 0 = none → expo (fr s k) = none) := fun h1 h2 => X.out.2.trans (ea_none h1 h2)
                    have HN3 : Hid (¬ k + 1 + sgnLen (fr s (k + 1)) < s.size → expo (fr s k) = none) := fun h1 => X.out.2.trans (ea_short h1)
                    revert hts HN HN2 HN3
                    generalize k + 1 + sgnLen (fr s (k + 1)) = ts
                    generalize sgnNeg (fr s (k + 1)) = en
                    intro hts HN HN2 HN3
                    clear X
                    by_cases hlt0 : ts < s.size
                    · have hb0 : ((ts : Int) == (s.size : Int)) = false := beq_eq_false_iff_ne.2 (by omega)
                      go_wp2
                      go_loop [6, 7, 13] (fun b i e => ∃ (bg : Bool) (j : Nat) (ee : Int), j ≤ s.size ∧ b = .bool bg ∧ i = .int .i64 j ∧ e = .int .i64 ee ∧ 0 ≤ ee ∧ ee < 1000000000 ∧ Hid (escan (fr s ts) 0 = escan (fr s j) ee)) (fun _ i _ => s.size - (intOf i).toNat)
                      case atStart => exact ⟨false, ts, 0, hts, rfl, rfl, rfl, by omega, by omega, rfl⟩
                      case round =>
                        obtain ⟨bg, j, ee, hj, rfl, rfl, rfl, e1, e2, HE⟩ := hrel
                        by_cases hlt : j < s.size
                        · by_cases c1 : (s[j].toNat : Int) < 48 ∨ 57 < (s[j].toNat : Int)
                          · have HX : Hid (md s = Bad) := HT.out.trans (mt_none (HN2.out hlt0 (HE.out.trans (es_out hlt c1))))
                            go_wp2
                            all_goals exact bodyPost_ret (v := .tuple #[.bool false, .string ByteArray.empty, .int .i64 0, .bool false, .bool false]) (by simp [results, Trym.results10, go_sem]; rfl) rfl (ret_md (M := Bad) (b := false) HX.out HBW.out hbel)
                          · have c3 : 48 ≤ (s[j].toNat : Int) := by omega
                            have c4 : (s[j].toNat : Int) ≤ 57 := by omega
                            clear c1
                            by_cases c5 : ee < 100000000
                            · go_wp2
                              go_round
                              case rel => exact ⟨bg, j + 1, ee * 10 + ((s[j].toNat : Int) - 48), by omega, rfl, by go_num, by go_num, by omega, by omega, HE.out.trans (es_add hlt c3 c4 c5)⟩
                              case measure => simp [intOf]; omega
                            · go_wp2
                              go_round
                              case rel => exact ⟨true, j + 1, ee, by omega, rfl, by go_num, rfl, by omega, by omega, HE.out.trans (es_skip hlt c3 c4 c5)⟩
                              case measure => simp [intOf]; omega
                        · have HX : Hid _ := HN.out ee hlt0 (HE.out.trans (es_end hlt))
                          have hje : j = s.size := by omega
                          have HJ : Hid (j = s.size) := hje
                          clear hje
                          cases en
                          · go_wp2
                            all_goals
                              go_meet
                              case rel => exact ⟨_, j, ee, rfl, rfl, rfl, hj, by omega, by omega, ⟨fun _ => HX.out, fun h => absurd HJ.out h⟩, rfl⟩
                          · go_wp2
                            all_goals
                              go_meet
                              case rel => exact ⟨_, j, -ee, rfl, rfl, by go_num, hj, by omega, by omega, ⟨fun _ => HX.out, fun h => absurd HJ.out h⟩, rfl⟩
                    · have HX : Hid (md s = Bad) := HT.out.trans (mt_none (HN3.out hlt0))
                      go_wp2
                      exact bodyPost_ret (v := .tuple #[.bool false, .string ByteArray.empty, .int .i64 0, .bool false, .bool false]) (by simp [results, Trym.results10, go_sem]; rfl) rfl (ret_md (M := Bad) (b := false) HX.out HBW.out hbel)
              · have X : Hid ((k = s.size → expo (fr s k) = some 0) ∧ (¬ k = s.size → expo (fr s k) = none)) := isE_false hE hk
                have hE : isE (fr s k) = false := by simpa using hE
                rw [hE]
                clear hE
                go_wp2
                go_meet
                case rel => exact ⟨false, k, 0, rfl, rfl, rfl, hk, by omega, by omega, X, rfl⟩
            case rest =>
              obtain ⟨bg, j, ee, rfl, rfl, rfl, hj, e1, e2, HX, rfl⟩ := hcut
              by_cases hje : j = s.size
              · have hX : Hid (md s = mdFin neg d n ee) := HT.out.trans (mt_some HD.out (HX.out.1 hje))
                clear HX HT
                have hb1 : ((j : Int) != (s.size : Int)) = false := by simp [hje]
                clear hje
                go_wp2
                go_loop [16] (fun i => ∃ z : Nat, z ≤ d.length ∧ i = .int .i64 z ∧ Hid (z + lz (d.drop z) = lz d)) (fun i => d.length - (intOf i).toNat)
                case atStart => exact ⟨0, Nat.zero_le _, rfl, by rw [List.drop_zero, Nat.zero_add]; exact rfl⟩
                case round =>
                  obtain ⟨z, hz, rfl, HZ⟩ := hrel
                  by_cases hlt : z < d.length
                  · have hcz := bc_cell rfl hown z hlt
                    by_cases c1 : (d[z].toNat : Int) = 48
                    · go_wp2
                      go_round
                      case rel => exact ⟨z + 1, by omega, by go_num, (lz_step hlt c1).symm.trans HZ.out⟩
                      case measure => simp [intOf]; omega
                    · have HZ2 : Hid (lz d = z) := HZ.out.symm.trans (lz_stop hlt c1)
                      clear HZ
                      have HC : Hid _ := c1
                      go_wp2
                      go_loop [17] (fun i => ∃ t : Nat, z < t ∧ t ≤ d.length ∧ i = .int .i64 t ∧ Hid (tend d t = tend d d.length)) (fun i => (intOf i).toNat)
                      case atStart => exact ⟨d.length, hlt, Nat.le_refl _, rfl, rfl⟩
                      case round =>
                        obtain ⟨t, ht1, ht2, rfl, HTE⟩ := hrel
                        obtain ⟨u, rfl⟩ : ∃ u, t = u + 1 := ⟨t - 1, by omega⟩
                        have hul : u < d.length := by omega
                        have hcu := bc_cell rfl hown u hul
                        by_cases d1 : (d[u].toNat : Int) = 48
                        · have hzu : z < u := by
                            by_cases e : z = u
                            · subst e; exact absurd d1 HC.out
                            · omega
                          go_wp2
                          go_round
                          case rel => exact ⟨u, hzu, by omega, by go_num, (tend_zero hul d1).symm.trans HTE.out⟩
                          case measure => simp [intOf]
                        · have HTU : Hid (tend d d.length = u + 1) := HTE.out.symm.trans (tend_stop hul d1)
                          clear HTE
                          have hcv : ∀ nq cp, (convert 29 9 (.slice (some ⟨B, z, none⟩) (u + 1 - z) cp)).run Trym.prog (wc.drewN nq) = .ok (.string ⟨(cutZ d).toArray⟩) (wc.drewN nq) := fun nq cp => conv_cut hown HZ2.out HTU.out hul nq cp
                          go_wp2
                          go_quiet (fail)
                          go_wp2
                          exact bodyPost_ret (v := .tuple #[.bool neg, .string ⟨(cutZ d).toArray⟩, .int .i64 ((n : Int) - (z : Int) - 1 + ee), .bool true, .bool bg]) (by simp [results, Trym.results10, go_sem]) rfl (ret_md (M := (neg, ⟨(cutZ d).toArray⟩, (n : Int) - (z : Int) - 1 + ee, true)) (b := bg) (hX.out.trans (fin_md HZ2.out hlt)) HBW.out (below_drewN hbel))
                  · have hze : z = d.length := by omega
                    have HZ2 : Hid (lz d = d.length) := by rw [hze] at HZ; exact HZ.out.symm.trans lz_end
                    have hb2 : ((z : Int) == (d.length : Int)) = true := by simp [hze]
                    clear hze
                    go_wp2
                    exact bodyPost_ret (v := .tuple #[.bool false, .string ByteArray.empty, .int .i64 0, .bool true, .bool bg]) (by simp [results, Trym.results10, go_sem]; rfl) rfl (ret_md (M := (false, ByteArray.empty, 0, true)) (b := bg) (hX.out.trans (if_pos HZ2.out)) HBW.out hbel)
              · have hX : Hid (md s = Bad) := HT.out.trans (mt_none (HX.out.2 hje))
                clear HX HT
                have hb1 : ((j : Int) != (s.size : Int)) = true := by simp; omega
                go_wp2
                exact bodyPost_ret (v := .tuple #[.bool false, .string ByteArray.empty, .int .i64 0, .bool false, .bool false]) (by simp [results, Trym.results10, go_sem]; rfl) rfl (ret_md (M := Bad) (b := false) hX.out HBW.out hbel)
end Go.Proofs.Qxb6000021aMods
