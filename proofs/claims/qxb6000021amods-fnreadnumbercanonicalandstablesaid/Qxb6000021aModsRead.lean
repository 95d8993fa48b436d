/-
  THE WALK OF readNumber (function 25) and of ZZReadNumber (11): they compute 'Pl.rd'.
-/
import Derived.Test.Qxb6000021aModsRows
import Derived.Test.Qxb6000021aModsSteps
import Derived.WalkKit
import Derived.WalkSpells
import Derived.WalkLawsBesides
import Derived.Deep.DeepCutAuto
import Derived.Deep.CutBlock
import Derived.RegionTactic
namespace Go.Proofs.Qxb6000021aMods
open Go.RowKit Pl

theorem ret_num {N M : Num} (h : N = M) : Ending.returned (.tuple #[.agg #[.bool M.1, .string M.2.1, .int .i64 M.2.2.1], .bool M.2.2.2]) = Ending.returned (.tuple #[.agg #[.bool N.1, .string N.2.1, .int .i64 N.2.2.1], .bool N.2.2.2]) := by rw [h]

set_option maxRecDepth 100000 in
set_option maxHeartbeats 4000000 in
theorem rd_any (s : ByteArray) (w : World) (hs : s.size ≤ 4294967296) :
    Calls Trym.prog 25 #[.string s] w fun e w' => e = .returned (.tuple #[.agg #[.bool (rd s).1, .string (rd s).2.1, .int .i64 (rd s).2.2.1], .bool (rd s).2.2.2]) ∧ Below w.heap.size w w' := by
  go_enter Trym.func25, Trym.ntmps25
  go_upto_region 2 with fail
  go_cut [29] from 14 to 29 (fun b wx => b = .bool (sgnLen (fr s 0) == 1) ∧ wx = w.alloc (.cells #[.bool false, .string ByteArray.empty, .int .i64 0] 26))
  case first =>
    by_cases h0 : 0 < s.size
    · by_cases h1 : (s[0].toNat : Int) = 43
      · have H : Hid _ := sgn_plus s 0 h0 h1
        go_wp2
        go_meet
        case rel => exact ⟨by rw [H.out.1]; rfl, rfl⟩
      · by_cases h2 : (s[0].toNat : Int) = 45
        · have H : Hid _ := sgn_minus s 0 h0 h2
          go_wp2
          go_meet
          case rel => exact ⟨by rw [H.out.1]; rfl, rfl⟩
        · have H : Hid _ := sgn_other s 0 h0 h1 h2
          go_wp2
          go_meet
          case rel => exact ⟨by rw [H.out.1]; exact congrArg Value.bool (by simp [h1, h2]), rfl⟩
    · have H : Hid _ := sgn_nil s 0 h0
      go_wp2
      go_meet
      case rel => exact ⟨by rw [H.out.1]; rfl, rfl⟩
  case rest =>
    obtain ⟨rfl, rfl⟩ := hcut
    go_upto_if 29 with fail
    go_cut [4] from 14 to 36 (fun i wx => i = .int .i64 (sgnLen (fr s 0) : Nat) ∧ wx = w.alloc (.cells #[.bool (sgnNeg (fr s 0)), .string ByteArray.empty, .int .i64 0] 26))
    case first =>
      by_cases h0 : 0 < s.size
      · by_cases h1 : (s[0].toNat : Int) = 43
        · have H : Hid _ := sgn_plus s 0 h0 h1
          have hb : (sgnLen (fr s 0) == 1) = true := by rw [H.out.1]; rfl
          go_wp2
          go_meet
          case rel => exact ⟨by rw [H.out.1]; rfl, by rw [H.out.2]⟩
        · by_cases h2 : (s[0].toNat : Int) = 45
          · have H : Hid _ := sgn_minus s 0 h0 h2
            have hb : (sgnLen (fr s 0) == 1) = true := by rw [H.out.1]; rfl
            go_wp2
            go_meet
            case rel => exact ⟨by rw [H.out.1]; rfl, by rw [H.out.2]⟩
          · have H : Hid _ := sgn_other s 0 h0 h1 h2
            have hb : (sgnLen (fr s 0) == 1) = false := by rw [H.out.1]; rfl
            go_wp2
            go_meet
            case rel => exact ⟨by rw [H.out.1]; rfl, by rw [H.out.2]⟩
      · have H : Hid _ := sgn_nil s 0 h0
        have hb : (sgnLen (fr s 0) == 1) = false := by rw [H.out.1]; rfl
        go_wp2
        go_meet
        case rel => exact ⟨by rw [H.out.1]; rfl, by rw [H.out.2]⟩
    case rest =>
      obtain ⟨rfl, rfl⟩ := hcut
      have hst : 0 + sgnLen (fr s 0) ≤ s.size := sgn_le s 0 (Nat.zero_le _)
      rw [Nat.zero_add] at hst
      have HR : Hid (rd s = rdTail s (sgnNeg (fr s 0)) (sgnLen (fr s 0)) (mscan (fr s (sgnLen (fr s 0))) (sgnLen (fr s 0)) (-1) (-1) (-1))) := rd_fr s
      revert hst HR
      generalize sgnLen (fr s 0) = st
      generalize sgnNeg (fr s 0) = neg
      intro hst HR
      go_upto_block 0 with fail
      go_cut [4, 6, 7, 8] from 14 to 65 (fun i p f l wx => ∃ (k : Nat) (pp ff ll : Int), k ≤ s.size ∧ i = .int .i64 k ∧ p = .int .i64 pp ∧ f = .int .i64 ff ∧ l = .int .i64 ll ∧ MB st k pp ff ll ∧ Hid (mscan (fr s st) st (-1) (-1) (-1) = (k, pp, ff, ll)) ∧ wx = w.alloc (.cells #[.bool neg, .string ByteArray.empty, .int .i64 0] 26))
      case first =>
        go_wp2
        go_loop [4, 6, 7, 8] (fun i p f l => ∃ (k : Nat) (pp ff ll : Int), k ≤ s.size ∧ i = .int .i64 k ∧ p = .int .i64 pp ∧ f = .int .i64 ff ∧ l = .int .i64 ll ∧ MB st k pp ff ll ∧ Hid (mscan (fr s st) st (-1) (-1) (-1) = mscan (fr s k) k pp ff ll)) (fun i _ _ _ => s.size - (intOf i).toNat)
        case atStart => exact ⟨st, -1, -1, -1, hst, rfl, rfl, rfl, rfl, MB.start st, rfl⟩
        case round =>
          obtain ⟨k, pp, ff, ll, hk, rfl, rfl, rfl, rfl, hb, HM⟩ := hrel
          obtain ⟨b1, b2, b3, b4, b5, b6, b7⟩ := hb
          by_cases hlt : k < s.size
          · by_cases c1 : (s[k].toNat : Int) = 46 ∧ pp < 0
            · obtain ⟨c1, c2⟩ := c1
              go_wp2
              go_round
              case rel => exact ⟨k + 1, k, ff, ll, by omega, by go_num, rfl, rfl, rfl, ⟨by omega, by omega, by omega, by omega, by omega, by omega, by omega⟩, HM.out.trans (ms_pt hlt c1 c2)⟩
              case measure => simp [intOf]; omega
            · by_cases c2 : (s[k].toNat : Int) < 48 ∨ 57 < (s[k].toNat : Int)
              · have HC : Hid _ := c1
                by_cases d1 : (s[k].toNat : Int) = 46
                · have d2 : 0 ≤ pp := by omega
                  clear c1
                  go_wp2
                  all_goals
                    go_meet
                    case rel => exact ⟨k, pp, ff, ll, hk, rfl, rfl, rfl, rfl, ⟨b1, b2, b3, b4, b5, b6, b7⟩, HM.out.trans (ms_out hlt HC.out c2), rfl⟩
                · clear c1
                  go_wp2
                  all_goals
                    go_meet
                    case rel => exact ⟨k, pp, ff, ll, hk, rfl, rfl, rfl, rfl, ⟨b1, b2, b3, b4, b5, b6, b7⟩, HM.out.trans (ms_out hlt HC.out c2), rfl⟩
              · have HC : Hid _ := c1
                clear c1
                have c3 : 48 ≤ (s[k].toNat : Int) := by omega
                have c4 : (s[k].toNat : Int) ≤ 57 := by omega
                clear c2
                by_cases c5 : (s[k].toNat : Int) = 48
                · go_wp2
                  go_round
                  case rel => exact ⟨k + 1, pp, ff, ll, by omega, by go_num, rfl, rfl, rfl, ⟨by omega, by omega, by omega, by omega, by omega, by omega, by omega⟩, HM.out.trans (ms_zero hlt c5)⟩
                  case measure => simp [intOf]; omega
                · have c6 : 48 < (s[k].toNat : Int) := by omega
                  by_cases c7 : ff < 0
                  · go_wp2
                    go_round
                    case rel => exact ⟨k + 1, pp, k, k, by omega, by go_num, rfl, rfl, rfl, ⟨by omega, by omega, by omega, by omega, by omega, by omega, by omega⟩, HM.out.trans (ms_fst hlt c6 c4 c7)⟩
                    case measure => simp [intOf]; omega
                  · go_wp2
                    go_round
                    case rel => exact ⟨k + 1, pp, ff, k, by omega, by go_num, rfl, rfl, rfl, ⟨by omega, by omega, by omega, by omega, by omega, by omega, by omega⟩, HM.out.trans (ms_dig hlt c6 c4 c7)⟩
                    case measure => simp [intOf]; omega
          · go_wp2
            go_meet
            case rel => exact ⟨k, pp, ff, ll, hk, rfl, rfl, rfl, rfl, ⟨b1, b2, b3, b4, b5, b6, b7⟩, HM.out.trans (ms_end hlt), rfl⟩
      case rest =>
        obtain ⟨k, pp, ff, ll, hk, rfl, rfl, rfl, rfl, hb, HM, rfl⟩ := hcut
        obtain ⟨b1, b2, b3, b4, b5, b6, b7⟩ := hb
        have HT : Hid (rd s = rdTail s neg st (k, pp, ff, ll)) := by rw [← HM.out]; exact HR.out
        clear HM HR
        go_upto_region 17 with fail
        go_cut [81] from 14 to 81 (fun b wx => b = .bool (decide (k = st ∨ (k = st + 1 ∧ pp = st))) ∧ wx = w.alloc (.cells #[.bool neg, .string ByteArray.empty, .int .i64 0] 26))
        case first =>
          by_cases c1 : k = st
          · have E : Hid (decide (k = st ∨ (k = st + 1 ∧ pp = st)) = true) := by simp [Hid, c1]
            subst c1
            go_wp2
            go_meet
            case rel => exact ⟨congrArg Value.bool E.out.symm, rfl⟩
          · by_cases c2 : k = st + 1
            · by_cases c3 : pp = st
              · have E : Hid (decide (k = st ∨ (k = st + 1 ∧ pp = st)) = true) := by simp [Hid, c2, c3]
                subst c2 c3
                go_wp2
                go_meet
                case rel => exact ⟨congrArg Value.bool E.out.symm, rfl⟩
              · have E : Hid (decide (k = st ∨ (k = st + 1 ∧ pp = st)) = false) := by simp [Hid, c2, c3]
                subst c2
                go_wp2
                go_meet
                case rel => exact ⟨congrArg Value.bool (Eq.trans (by simp [c3]) E.out.symm), rfl⟩
            · have E : Hid (decide (k = st ∨ (k = st + 1 ∧ pp = st)) = false) := by simp [Hid, c1, c2]
              have c3 : ¬ (k : Int) - (st : Int) = 0 := by omega
              go_wp2
              go_meet
              case rel => exact ⟨congrArg Value.bool (Eq.trans (by simp [c3]) E.out.symm), rfl⟩
        case rest =>
          obtain ⟨rfl, rfl⟩ := hcut
          by_cases hbad : k = st ∨ (k = st + 1 ∧ pp = st)
          · have E : decide (k = st ∨ (k = st + 1 ∧ pp = st)) = true := decide_eq_true hbad
            have hR : Hid (rd s = Bad) := HT.out.trans (tail_bad hbad)
            rw [E]
            clear HT hbad E
            go_wp2
            exact bodyPost_ret (v := .tuple #[.agg #[.bool false, .string ByteArray.empty, .int .i64 0], .bool false]) (by simp [results, Trym.results25, go_sem]; rfl) rfl ⟨ret_num (M := Bad) hR.out, (Below.refl _ _).alloc (Nat.le_refl _) _⟩
          · have E : decide (k = st ∨ (k = st + 1 ∧ pp = st)) = false := decide_eq_false hbad
            have HB : Hid _ := hbad
            rw [E]
            clear hbad E
            go_upto_region 20 with fail
            go_cut [98] from 14 to 98 (fun b wx => b = .bool (isE (fr s k)) ∧ wx = w.alloc (.cells #[.bool neg, .string ByteArray.empty, .int .i64 0] 26))
            case first =>
              by_cases c0 : k < s.size
              · by_cases c1 : (s[k].toNat : Int) = 101
                · have E : Hid (isE (fr s k) = true) := isE_yes c0 (.inl c1)
                  go_wp2
                  go_meet
                  case rel => exact ⟨congrArg Value.bool E.out.symm, rfl⟩
                · by_cases c2 : (s[k].toNat : Int) = 69
                  · have E : Hid (isE (fr s k) = true) := isE_yes c0 (.inr c2)
                    go_wp2
                    go_meet
                    case rel => exact ⟨congrArg Value.bool E.out.symm, rfl⟩
                  · have E : Hid (isE (fr s k) = false) := isE_no c0 c1 c2
                    go_wp2
                    go_meet
                    case rel => exact ⟨congrArg Value.bool (Eq.trans (by simp [c1, c2]) E.out.symm), rfl⟩
              · have E : Hid (isE (fr s k) = false) := isE_end c0
                go_wp2
                go_meet
                case rel => exact ⟨congrArg Value.bool E.out.symm, rfl⟩
            case rest =>
              obtain ⟨rfl, rfl⟩ := hcut
              go_upto_if 98 with fail
              go_cut [4, 11] from 14 to 160 (fun i e wx => ∃ (j : Nat) (ee : Int), i = .int .i64 j ∧ e = .int .i64 ee ∧ j ≤ s.size ∧ -1000000000 ≤ ee ∧ ee ≤ 1000000000 ∧ Hid ((j = s.size → expo (fr s k) = some ee) ∧ (¬ j = s.size → expo (fr s k) = none)) ∧ wx = w.alloc (.cells #[.bool neg, .string ByteArray.empty, .int .i64 0] 26))
              case first =>
                by_cases hE : isE (fr s k) = true
                · have X : Hid (k < s.size ∧ expo (fr s k) = eafter (fr s (k + 1))) := isE_true hE
                  have hk1 : k + 1 ≤ s.size := X.out.1
                  rw [hE]
                  clear hE
                  go_upto_region 22 with fail
                  go_cut [12] from 14 to 110 (fun b wx => b = .bool (sgnNeg (fr s (k + 1))) ∧ wx = w.alloc (.cells #[.bool neg, .string ByteArray.empty, .int .i64 0] 26))
                  case first =>
                    by_cases h0 : k + 1 < s.size
                    · by_cases h2 : (s[k + 1].toNat : Int) = 45
                      · have H : Hid _ := sgn_minus s (k + 1) h0 h2
                        go_wp2
                        go_meet
                        case rel => exact ⟨congrArg Value.bool H.out.2.symm, rfl⟩
                      · have H : Hid (sgnNeg (fr s (k + 1)) = false) := sgn_nominus s (k + 1) h0 h2
                        go_wp2
                        go_meet
                        case rel => exact ⟨congrArg Value.bool (Eq.trans (by simp [h2]) H.out.symm), rfl⟩
                    · have H : Hid _ := sgn_nil s (k + 1) h0
                      go_wp2
                      go_meet
                      case rel => exact ⟨congrArg Value.bool H.out.2.symm, rfl⟩
                  case rest =>
                    obtain ⟨rfl, rfl⟩ := hcut
                    go_upto_region 23 with fail
                    go_cut [126] from 14 to 126 (fun b wx => b = .bool (sgnLen (fr s (k + 1)) == 1) ∧ wx = w.alloc (.cells #[.bool neg, .string ByteArray.empty, .int .i64 0] 26))
                    case first =>
                      by_cases h0 : k + 1 < s.size
                      · by_cases h1 : (s[k + 1].toNat : Int) = 43
                        · have H : Hid _ := sgn_plus s (k + 1) h0 h1
                          go_wp2
                          go_meet
                          case rel => exact ⟨by rw [H.out.1]; rfl, rfl⟩
                        · by_cases h2 : (s[k + 1].toNat : Int) = 45
                          · have H : Hid _ := sgn_minus s (k + 1) h0 h2
                            go_wp2
                            go_meet
                            case rel => exact ⟨by rw [H.out.1]; rfl, rfl⟩
                          · have H : Hid _ := sgn_other s (k + 1) h0 h1 h2
                            go_wp2
                            go_meet
                            case rel => exact ⟨by rw [H.out.1]; exact congrArg Value.bool (by simp [h1, h2]), rfl⟩
                      · have H : Hid _ := sgn_nil s (k + 1) h0
                        go_wp2
                        go_meet
                        case rel => exact ⟨by rw [H.out.1]; rfl, rfl⟩
                    case rest =>
                      obtain ⟨rfl, rfl⟩ := hcut
                      go_upto_if 126 with fail
                      go_cut [4] from 14 to 128 (fun i wx => i = .int .i64 ((k + 1 + sgnLen (fr s (k + 1)) : Nat) : Int) ∧ wx = w.alloc (.cells #[.bool neg, .string ByteArray.empty, .int .i64 0] 26))
                      case first =>
                        by_cases h1 : sgnLen (fr s (k + 1)) = 1
                        · have hb : (sgnLen (fr s (k + 1)) == 1) = true := by rw [h1]; rfl
                          rw [hb]
                          have H : Hid _ := h1
                          clear h1 hb
                          go_wp2
                          go_meet
                          case rel => exact ⟨by rw [H.out]; go_num, rfl⟩
                        · have H : Hid (sgnLen (fr s (k + 1)) = 0) := by have := sgn_01 (fr s (k + 1)); show _ = _; omega
                          have hb : (sgnLen (fr s (k + 1)) == 1) = false := by rw [H.out]; rfl
                          rw [hb]
                          clear h1 hb
                          go_wp2
                          go_meet
                          case rel => exact ⟨by rw [H.out]; go_num, rfl⟩
                      case rest =>
                        obtain ⟨rfl, rfl⟩ := hcut
                        have hts : k + 1 + sgnLen (fr s (k + 1)) ≤ s.size := sgn_le s (k + 1) hk1
                        have HN : Hid (∀ e, k + 1 + sgnLen (fr s (k + 1)) < s.size → escan (fr s (k + 1 + sgnLen (fr s (k + 1)))) 0 = some e → expo (fr s k) = some (if sgnNeg (fr s (k + 1)) then -e else e)) := fun e h1 h2 => X.out.2.trans (ea_some h1 h2)
                        have HN2 : Hid (k + 1 + sgnLen (fr s (k + 1)) < s.size → escan (fr s (k + 1 + sgnLen (fr s (k + 1)))) 0 = none → expo (fr s k) = none) := fun h1 h2 => X.out.2.trans (ea_none h1 h2)
                        have HN3 : Hid (¬ k + 1 + sgnLen (fr s (k + 1)) < s.size → expo (fr s k) = none) := fun h1 => X.out.2.trans (ea_short h1)
                        revert hts HN HN2 HN3
                        generalize k + 1 + sgnLen (fr s (k + 1)) = ts
                        generalize sgnNeg (fr s (k + 1)) = en
                        intro hts HN HN2 HN3
                        clear X
                        by_cases hlt0 : ts < s.size
                        · have hb0 : ((ts : Int) == (s.size : Int)) = false := beq_eq_false_iff_ne.2 (by omega)
                          go_wp2
                          go_loop [4, 11] (fun i e => ∃ (j : Nat) (ee : Int), j ≤ s.size ∧ i = .int .i64 j ∧ e = .int .i64 ee ∧ 0 ≤ ee ∧ ee < 1000000000 ∧ Hid (escan (fr s ts) 0 = escan (fr s j) ee)) (fun i _ => s.size - (intOf i).toNat)
                          case atStart => exact ⟨ts, 0, hts, rfl, rfl, by omega, by omega, rfl⟩
                          case round =>
                            obtain ⟨j, ee, hj, rfl, rfl, e1, e2, HE⟩ := hrel
                            by_cases hlt : j < s.size
                            · by_cases c1 : (s[j].toNat : Int) < 48 ∨ 57 < (s[j].toNat : Int)
                              · have HX : Hid (rd s = Bad) := HT.out.trans (tail_none (HN2.out hlt0 (HE.out.trans (es_out hlt c1))))
                                go_wp2
                                all_goals exact bodyPost_ret (v := .tuple #[.agg #[.bool false, .string ByteArray.empty, .int .i64 0], .bool false]) (by simp [results, Trym.results25, go_sem]; rfl) rfl ⟨ret_num (M := Bad) HX.out, (Below.refl _ _).alloc (Nat.le_refl _) _⟩
                              · have c3 : 48 ≤ (s[j].toNat : Int) := by omega
                                have c4 : (s[j].toNat : Int) ≤ 57 := by omega
                                clear c1
                                by_cases c5 : ee < 100000000
                                · go_wp2
                                  go_round
                                  case rel => exact ⟨j + 1, ee * 10 + ((s[j].toNat : Int) - 48), by omega, by go_num, by go_num, by omega, by omega, HE.out.trans (es_add hlt c3 c4 c5)⟩
                                  case measure => simp [intOf]; omega
                                · go_wp2
                                  go_round
                                  case rel => exact ⟨j + 1, ee, by omega, by go_num, rfl, by omega, by omega, HE.out.trans (es_skip hlt c3 c4 c5)⟩
                                  case measure => simp [intOf]; omega
                            · have HX : Hid _ := HN.out ee hlt0 (HE.out.trans (es_end hlt))
                              have hje : j = s.size := by omega
                              have HJ : Hid (j = s.size) := hje
                              clear hje
                              cases en
                              · go_wp2
                                go_meet
                                case rel => exact ⟨j, ee, rfl, rfl, hj, by omega, by omega, ⟨fun _ => HX.out, fun h => absurd HJ.out h⟩, rfl⟩
                              · go_wp2
                                go_meet
                                case rel => exact ⟨j, -ee, rfl, by go_num, hj, by omega, by omega, ⟨fun _ => HX.out, fun h => absurd HJ.out h⟩, rfl⟩
                        · have HX : Hid (rd s = Bad) := HT.out.trans (tail_none (HN3.out hlt0))
                          go_wp2
                          exact bodyPost_ret (v := .tuple #[.agg #[.bool false, .string ByteArray.empty, .int .i64 0], .bool false]) (by simp [results, Trym.results25, go_sem]; rfl) rfl ⟨ret_num (M := Bad) HX.out, (Below.refl _ _).alloc (Nat.le_refl _) _⟩
                · have X : Hid ((k = s.size → expo (fr s k) = some 0) ∧ (¬ k = s.size → expo (fr s k) = none)) := isE_false hE hk
                  have hE : isE (fr s k) = false := by simpa using hE
                  rw [hE]
                  clear hE
                  go_wp2
                  go_meet
                  case rel => exact ⟨k, 0, rfl, rfl, hk, by omega, by omega, X, rfl⟩
              case rest =>
                obtain ⟨j, ee, rfl, rfl, hj, e1, e2, HX, rfl⟩ := hcut
                by_cases hje : j = s.size
                · have hX : Hid (rd s = rdFin s neg k pp ff ll ee) := HT.out.trans (tail_some HB.out (HX.out.1 hje))
                  clear HX HT HB
                  have hb0 : ((j : Int) != (s.size : Int)) = false := by simp [hje]
                  have HJ : Hid (j = s.size) := hje
                  clear hje
                  by_cases hf : ff < 0
                  · go_wp2
                    exact bodyPost_ret (v := .tuple #[.agg #[.bool false, .string ByteArray.empty, .int .i64 0], .bool true]) (by simp [results, Trym.results25, go_sem]; rfl) rfl ⟨ret_num (M := (false, ByteArray.empty, 0, true)) (hX.out.trans (fin_zero hf)), (Below.refl _ _).alloc (Nat.le_refl _) _⟩
                  · obtain ⟨f, rfl⟩ : ∃ f : Nat, ff = f := ⟨ff.toNat, by omega⟩
                    obtain ⟨l, rfl⟩ : ∃ l : Nat, ll = l := ⟨ll.toNat, by omega⟩
                    go_upto_if 170 with fail
                    go_cut [6] from 14 to 171 (fun p wx => ∃ q : Nat, p = .int .i64 q ∧ q ≤ k ∧ Hid ((q : Int) = if pp < 0 then (k : Int) else pp) ∧ wx = w.alloc (.cells #[.bool neg, .string ByteArray.empty, .int .i64 0] 26))
                    case first =>
                      by_cases hp : pp < 0
                      · go_wp2
                        go_meet
                        case rel => exact ⟨k, rfl, Nat.le_refl _, (if_pos hp).symm, rfl⟩
                      · obtain ⟨q, rfl⟩ : ∃ q : Nat, pp = q := ⟨pp.toNat, by omega⟩
                        go_wp2
                        go_meet
                        case rel => exact ⟨q, rfl, by omega, (if_neg (by omega)).symm, rfl⟩
                    case rest =>
                      obtain ⟨q, rfl, hqk, HQ, rfl⟩ := hcut
                      have hfl : f ≤ l + 1 := by omega
                      have hls : l + 1 ≤ s.size := by omega
                      by_cases c1 : f < q
                      · by_cases c2 : q < l
                        · have hX2 : Hid _ := hX.out.trans (fin_A HQ.out c1 c2)
                          clear hX
                          go_wp2
                          go_region
                          go_wp2
                          exact bodyPost_ret (v := .tuple #[.agg #[.bool neg, .string (s.extract f q ++ s.extract (q + 1) (l + 1)), .int .i64 (ee + q - f - 1)], .bool true]) (by simp [results, Trym.results25, go_sem]) rfl ⟨ret_num hX2.out, ((Below.refl _ _).alloc (Nat.le_refl _) _).drew⟩
                        · have hX2 : Hid _ := hX.out.trans (fin_B HQ.out c1 c2)
                          clear hX
                          go_wp2
                          exact bodyPost_ret (v := .tuple #[.agg #[.bool neg, .string (s.extract f (l + 1)), .int .i64 (ee + q - f - 1)], .bool true]) (by simp [results, Trym.results25, go_sem]) rfl ⟨ret_num hX2.out, (Below.refl _ _).alloc (Nat.le_refl _) _⟩
                      · have hX2 : Hid _ := hX.out.trans (fin_C HQ.out c1)
                        clear hX
                        go_wp2
                        exact bodyPost_ret (v := .tuple #[.agg #[.bool neg, .string (s.extract f (l + 1)), .int .i64 (ee + q - f)], .bool true]) (by simp [results, Trym.results25, go_sem]) rfl ⟨ret_num hX2.out, (Below.refl _ _).alloc (Nat.le_refl _) _⟩
                · have hX : Hid (rd s = Bad) := HT.out.trans (tail_none (HX.out.2 hje))
                  clear HX HT HB
                  have hb0 : ((j : Int) != (s.size : Int)) = true := by simp; omega
                  go_wp2
                  exact bodyPost_ret (v := .tuple #[.agg #[.bool false, .string ByteArray.empty, .int .i64 0], .bool false]) (by simp [results, Trym.results25, go_sem]; rfl) rfl ⟨ret_num (M := Bad) hX.out, (Below.refl _ _).alloc (Nat.le_refl _) _⟩

theorem bcell {W w1 : World} (hb : Below W.heap.size W w1) : (∀ b o, b < W.heap.size → w1.cell? ⟨b, o, none⟩ = W.cell? ⟨b, o, none⟩) ∧ (∀ b o, b < W.heap.size → w1.frozen? ⟨b, o, none⟩ = W.frozen? ⟨b, o, none⟩) :=
  ⟨fun b o h => hb.cell (p := ⟨b, o, none⟩) h, fun b o h => hb.frozen (p := ⟨b, o, none⟩) h⟩

set_option maxRecDepth 100000 in
/-- ZZReadNumber hands readNumber's answer on. -/
theorem zz_any (s : ByteArray) (w : World) (hs : s.size ≤ 4294967296) :
    Calls Trym.prog 11 #[.string s] w fun e w' => e = .returned (.tuple #[.agg #[.bool (rd s).1, .string (rd s).2.1, .int .i64 (rd s).2.2.1], .bool (rd s).2.2.2]) ∧ Below w.heap.size w w' := by
  go_enter Trym.func11, Trym.ntmps11
  go_wp2_with fail
  refine (rd_any s _ hs).mono ?_
  rintro e w' ⟨rfl, hb⟩
  obtain ⟨hc, hf⟩ := bcell hb

  go_wp2
  refine bodyPost_ret (v := .tuple #[.agg #[.bool (rd s).1, .string (rd s).2.1, .int .i64 (rd s).2.2.1], .bool (rd s).2.2.2]) (by simp [results, Trym.results11, go_sem, hc]) rfl ⟨rfl, ?_⟩
  exact (((((Below.refl _ _).alloc (Nat.le_refl _) _).trans (hb.mono (by simp))).setCell (Nat.le_refl _) _).setCell (Nat.le_refl _) _).setCell (Nat.le_refl _) _
end Go.Proofs.Qxb6000021aMods
