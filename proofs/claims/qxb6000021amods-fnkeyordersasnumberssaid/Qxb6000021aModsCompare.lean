/-
  CONTRACTS of zzb1CompareStrings (22), zzb1SignOf (27), zzb1CompareMagnitude (28), zzb1CompareNumbers (24).
-/
import Derived.Test.Qxb6000021aModsCanon
import Derived.Test.Qxb6000021aModsKeyLaw
import Derived.Deep.DeepCutAuto
import Derived.Deep.QuietTactic
import Derived.BigQuiet
namespace Go.Proofs.Qxb6000021aMods
open Go.RowKit Pl
namespace Pl
theorem cl_ne {a b : ByteArray} {k : Nat} (ha : k < a.size) (hb : k < b.size) (h : ¬ (a[k].toNat : Int) = (b[k].toNat : Int)) : cmpL (fr a k) (fr b k) = if (a[k].toNat : Int) < (b[k].toNat : Int) then -1 else 1 := by
  rw [fr_at a k ha, fr_at b k hb, cmpL, if_neg (by omega)]
  by_cases l : a[k].toNat < b[k].toNat
  · rw [if_pos l, if_pos (by omega)]
  · rw [if_neg l, if_neg (by omega)]
theorem cl_eq {a b : ByteArray} {k : Nat} (ha : k < a.size) (hb : k < b.size) (h : (a[k].toNat : Int) = (b[k].toNat : Int)) : cmpL (fr a k) (fr b k) = cmpL (fr a (k + 1)) (fr b (k + 1)) := by
  rw [fr_at a k ha, fr_at b k hb, cmpL, if_pos (by omega)]
theorem cl_lt {a b : ByteArray} {k : Nat} (ha : ¬ k < a.size) (hb : k < b.size) : cmpL (fr a k) (fr b k) = -1 := by
  rw [fr_end a k ha, fr_at b k hb]; rfl
theorem cl_gt {a b : ByteArray} {k : Nat} (ha : k < a.size) (hb : ¬ k < b.size) : cmpL (fr a k) (fr b k) = 1 := by
  rw [fr_at a k ha, fr_end b k hb]; rfl
theorem cl_end {a b : ByteArray} {k : Nat} (ha : ¬ k < a.size) (hb : ¬ k < b.size) : cmpL (fr a k) (fr b k) = 0 := by
  rw [fr_end a k ha, fr_end b k hb]; rfl
end Pl

theorem ret_i {a b : Int} (h : a = b) : Ending.returned (.int .i64 a) = .returned (.int .i64 b) := by rw [h]

set_option maxRecDepth 100000 in
set_option maxHeartbeats 1000000 in
theorem cs_any (a b : ByteArray) (w : World) (ha : a.size ≤ 4294967296) (_hb : b.size ≤ 4294967296) :
    Calls Trym.prog 22 #[.string a, .string b] w fun e w' => e = .returned (.int .i64 (cmpL a.data.toList b.data.toList)) ∧ ∃ n, w' = w.drewN n := by
  have HS : Hid (cmpL a.data.toList b.data.toList = cmpL (fr a 0) (fr b 0)) := rfl
  generalize cmpL a.data.toList b.data.toList = R at *
  go_enter Trym.func22, Trym.ntmps22
  go_upto_if 12 with fail
  go_cut [5] from 7 to 14 (fun m wx => m = .int .i64 ((min a.size b.size : Nat) : Int) ∧ w = wx)
  case first =>
    by_cases h : b.size < a.size
    · have E : Hid (min a.size b.size = b.size) := Nat.min_eq_right (by omega)
      go_wp2
      go_meet
      case rel => exact ⟨by rw [E.out], rfl⟩
    · have E : Hid (min a.size b.size = a.size) := Nat.min_eq_left (by omega)
      go_wp2
      go_meet
      case rel => exact ⟨by rw [E.out], rfl⟩
  case rest =>
    obtain ⟨rfl, rfl⟩ := hcut
    have hm1 : min a.size b.size ≤ a.size := Nat.min_le_left _ _
    have hm2 : min a.size b.size ≤ b.size := Nat.min_le_right _ _
    have HM : Hid (min a.size b.size = a.size ∨ min a.size b.size = b.size) := by show _ ∨ _; omega
    generalize min a.size b.size = m at *
    go_wp2
    go_loopw [6] (fun i wx => ∃ k n : Nat, k ≤ m ∧ i = .int .i64 k ∧ wx = w.drewN n ∧ Hid (R = cmpL (fr a k) (fr b k))) (fun i _ => m - (intOf i).toNat)
    case atStart => exact ⟨0, 0, Nat.zero_le _, rfl, rfl, HS⟩
    case round =>
      obtain ⟨k, n, hk, rfl, rfl, HK⟩ := hrel
      by_cases hlt : k < m
      · have ka : k < a.size := by omega
        have kb : k < b.size := by omega
        have i1 : (k : Int) < (a.size : Int) := by omega
        have i2 : (k : Int) < (b.size : Int) := by omega
        by_cases hne : (a[k].toNat : Int) = (b[k].toNat : Int)
        · have HX : Hid _ := HK.out.trans (cl_eq ka kb hne)
          go_wp2
          go_quiet (fail)
          go_wp2
          go_roundw
          case rel => exact ⟨k + 1, _, by omega, by go_num, rfl, HX⟩
          case measure => simp [intOf]; omega
        · have HX : Hid _ := HK.out.trans (cl_ne ka kb hne)
          have hneb : ((a[k].toNat : Int) != (b[k].toNat : Int)) = true := by simpa using hne
          by_cases hl : (a[k].toNat : Int) < (b[k].toNat : Int)
          · go_wp2
            go_quiet (fail)
            go_wp2
            go_quiet (fail)
            go_wp2
            go_ret
            exact ⟨ret_i (by rw [HX.out, if_pos hl]), _, by rw [World.drewN_drewN, World.drewN_drewN]⟩
          · go_wp2
            go_quiet (fail)
            go_wp2
            go_quiet (fail)
            go_wp2
            go_ret
            exact ⟨ret_i (by rw [HX.out, if_neg (by omega)]), _, by rw [World.drewN_drewN, World.drewN_drewN]⟩
      · have hkm : k = m := by omega
        subst hkm
        rcases Nat.lt_trichotomy a.size b.size with h | h | h
        · have HX : Hid _ := HK.out.trans (cl_lt (a := a) (b := b) (k := k) (by have := HM.out; omega) (by have := HM.out; omega))
          go_wp2
          go_ret
          exact ⟨ret_i HX.out.symm, _, rfl⟩
        · have HX : Hid _ := HK.out.trans (cl_end (a := a) (b := b) (k := k) (by have := HM.out; omega) (by have := HM.out; omega))
          have h1 : ¬ a.size < b.size := by omega
          have h2 : ¬ b.size < a.size := by omega
          clear h
          go_wp2
          go_ret
          exact ⟨ret_i HX.out.symm, _, rfl⟩
        · have HX : Hid _ := HK.out.trans (cl_gt (a := a) (b := b) (k := k) (by have := HM.out; omega) (by have := HM.out; omega))
          go_wp2
          go_ret
          exact ⟨ret_i HX.out.symm, _, rfl⟩

namespace Pl
theorem hd_in {s : ByteArray} {k : Nat} (h : k < s.size) : (((fr s k).headD 48).toNat : Int) = (s[k].toNat : Int) := by rw [fr_at s k h]; rfl
theorem hd_out {s : ByteArray} {k : Nat} (h : ¬ k < s.size) : (((fr s k).headD 48).toNat : Int) = 48 := by rw [fr_end s k h]; rfl
theorem fr_tail (s : ByteArray) (k : Nat) : (fr s k).tail = fr s (k + 1) := by unfold fr; rw [List.tail_drop]
/-- One place of the padded comparison. -/
theorem cp_step {a b : ByteArray} {k n : Nat} {x y : Int} (hx : (((fr a k).headD 48).toNat : Int) = x) (hy : (((fr b k).headD 48).toNat : Int) = y) (h : k < n) :
    cmpP (n - k) (fr a k) (fr b k) = if x = y then cmpP (n - (k + 1)) (fr a (k + 1)) (fr b (k + 1)) else if x < y then -1 else 1 := by
  rw [show n - k = (n - (k + 1)) + 1 from by omega, cmpP, fr_tail, fr_tail]
  subst hx hy
  by_cases e : ((fr a k).headD 48).toNat = ((fr b k).headD 48).toNat
  · rw [if_pos e, if_pos (by rw [e])]
  · have e' : ¬ (((fr a k).headD 48).toNat : Int) = (((fr b k).headD 48).toNat : Int) := by omega
    rw [if_neg e, if_neg e']
    by_cases l : ((fr a k).headD 48).toNat < ((fr b k).headD 48).toNat
    · have l' : (((fr a k).headD 48).toNat : Int) < (((fr b k).headD 48).toNat : Int) := by omega
      rw [if_pos l, if_pos l']
    · have l' : ¬ (((fr a k).headD 48).toNat : Int) < (((fr b k).headD 48).toNat : Int) := by omega
      rw [if_neg l, if_neg l']
theorem ite3_lt {x y u : Int} (h : x < y) : (if x = y then u else if x < y then -1 else 1) = -1 := by rw [if_neg (by omega), if_pos h]
theorem ite3_eq {x y u : Int} (h : x = y) : (if x = y then u else if x < y then -1 else 1) = u := if_pos h
theorem ite3_gt {x y u : Int} (h : y < x) : (if x = y then u else if x < y then -1 else 1) = 1 := by rw [if_neg (by omega), if_neg (by omega)]
end Pl

theorem so_any (neg : Bool) (s : ByteArray) (w : World) : Calls Trym.prog 27 #[.bool neg, .string s] w fun e w' => e = .returned (.int .i64 (sgnOf neg s.data.toList)) ∧ w' = w := by
  by_cases h0 : 0 < s.size
  · have hne := tl_ne h0
    cases neg
    · have E : Hid (sgnOf false s.data.toList = 1) := by show sgnOf _ _ = _; unfold sgnOf; rw [if_neg (list_ne h0)]; rfl
      go_enter Trym.func27, Trym.ntmps27
      go_wp2
      go_ret
      exact ⟨ret_i E.out.symm, rfl⟩
    · have E : Hid (sgnOf true s.data.toList = -1) := by show sgnOf _ _ = _; unfold sgnOf; rw [if_neg (list_ne h0)]; rfl
      go_enter Trym.func27, Trym.ntmps27
      go_wp2
      go_ret
      exact ⟨ret_i E.out.symm, rfl⟩
  · have := empty_of (s := s) (by omega)
    subst this
    go_enter Trym.func27, Trym.ntmps27
    go_wp2
    go_ret
    exact ⟨rfl, rfl⟩

set_option maxRecDepth 100000 in
set_option maxHeartbeats 1000000 in
theorem cm_any (a b : ByteArray) (aE bE : Int) (w : World) (ha : a.size ≤ 4294967296) (hb : b.size ≤ 4294967296) :
    Calls Trym.prog 28 #[.string a, .int .i64 aE, .string b, .int .i64 bE] w fun e w' => e = .returned (.int .i64 (cmpM a.data.toList aE b.data.toList bE)) ∧ w' = w := by
  rcases Int.lt_trichotomy aE bE with h | h | h
  · have E : Hid (cmpM a.data.toList aE b.data.toList bE = -1) := ite3_lt h
    have hneb : (aE != bE) = true := by simp; omega
    go_enter Trym.func28, Trym.ntmps28
    go_wp2
    go_ret
    exact ⟨ret_i E.out.symm, rfl⟩
  · subst h
    have hla : a.data.toList.length = a.size := by simp
    have hlb : b.data.toList.length = b.size := by simp
    have HS : Hid (cmpM a.data.toList aE b.data.toList aE = cmpP (max a.size b.size - 0) (fr a 0) (fr b 0)) := by
      show cmpM _ _ _ _ = _; unfold cmpM; rw [if_pos rfl, hla, hlb]; rfl
    clear hla hlb
    generalize cmpM a.data.toList aE b.data.toList aE = R at *
    have hneb : (aE != aE) = false := by simp
    go_enter Trym.func28, Trym.ntmps28
    go_upto_if 24 with fail
    go_cut [9] from 13 to 26 (fun m wx => m = .int .i64 ((max a.size b.size : Nat) : Int) ∧ w = wx)
    case first =>
      by_cases h : a.size < b.size
      · have E : Hid (max a.size b.size = b.size) := Nat.max_eq_right (by omega)
        go_wp2
        go_meet
        case rel => exact ⟨by rw [E.out], rfl⟩
      · have E : Hid (max a.size b.size = a.size) := Nat.max_eq_left (by omega)
        go_wp2
        go_meet
        case rel => exact ⟨by rw [E.out], rfl⟩
    case rest =>
      obtain ⟨rfl, rfl⟩ := hcut
      have hm1 : a.size ≤ max a.size b.size := Nat.le_max_left _ _
      have hm2 : b.size ≤ max a.size b.size := Nat.le_max_right _ _
      have hm3 : max a.size b.size ≤ 4294967296 := Nat.max_le.2 ⟨ha, hb⟩
      have HM : Hid (max a.size b.size = a.size ∨ max a.size b.size = b.size) := by show _ ∨ _; omega
      generalize max a.size b.size = m at *
      clear hneb
      go_wp2
      go_loop [10] (fun i => ∃ k : Nat, k ≤ m ∧ i = .int .i64 k ∧ Hid (R = cmpP (m - k) (fr a k) (fr b k))) (fun i => m - (intOf i).toNat)
      case atStart => exact ⟨0, Nat.zero_le _, rfl, HS⟩
      case round =>
        obtain ⟨k, hk, rfl, HK⟩ := hrel
        by_cases hlt : k < m
        · by_cases ka : k < a.size
          · by_cases kb : k < b.size
            · have HX : Hid _ := HK.out.trans (cp_step (hd_in ka) (hd_in kb) hlt)
              rcases Int.lt_trichotomy (a[k].toNat : Int) (b[k].toNat : Int) with h | h | h
              · have HY : Hid _ := HX.out.trans (ite3_lt h)
                have hneb : ((a[k].toNat : Int) != (b[k].toNat : Int)) = true := by simp; omega
                clear HX
                go_wp2
                go_ret
                exact ⟨ret_i HY.out.symm, rfl⟩
              · have HY : Hid _ := HX.out.trans (ite3_eq h)
                clear HX
                go_wp2
                go_round
                case rel => exact ⟨k + 1, by omega, by go_num, HY⟩
                case measure => simp [intOf]; omega
              · have HY : Hid _ := HX.out.trans (ite3_gt h)
                have hneb : ((a[k].toNat : Int) != (b[k].toNat : Int)) = true := by simp; omega
                clear HX
                go_wp2
                go_ret
                exact ⟨ret_i HY.out.symm, rfl⟩
            · have HX : Hid _ := HK.out.trans (cp_step (hd_in ka) (hd_out kb) hlt)
              rcases Int.lt_trichotomy (a[k].toNat : Int) (48 : Int) with h | h | h
              · have HY : Hid _ := HX.out.trans (ite3_lt h)
                have hneb : ((a[k].toNat : Int) != (48 : Int)) = true := by simp; omega
                clear HX
                go_wp2
                go_ret
                exact ⟨ret_i HY.out.symm, rfl⟩
              · have HY : Hid _ := HX.out.trans (ite3_eq h)
                clear HX
                go_wp2
                go_round
                case rel => exact ⟨k + 1, by omega, by go_num, HY⟩
                case measure => simp [intOf]; omega
              · have HY : Hid _ := HX.out.trans (ite3_gt h)
                have hneb : ((a[k].toNat : Int) != (48 : Int)) = true := by simp; omega
                clear HX
                go_wp2
                go_ret
                exact ⟨ret_i HY.out.symm, rfl⟩
          · have kb : k < b.size := by have := HM.out; omega
            have HX : Hid _ := HK.out.trans (cp_step (hd_out ka) (hd_in kb) hlt)
            rcases Int.lt_trichotomy (48 : Int) (b[k].toNat : Int) with h | h | h
            · have HY : Hid _ := HX.out.trans (ite3_lt h)
              have hneb : ((48 : Int) != (b[k].toNat : Int)) = true := by simp; omega
              clear HX
              go_wp2
              go_ret
              exact ⟨ret_i HY.out.symm, rfl⟩
            · have HY : Hid _ := HX.out.trans (ite3_eq h)
              clear HX
              go_wp2
              go_round
              case rel => exact ⟨k + 1, by omega, by go_num, HY⟩
              case measure => simp [intOf]; omega
            · have HY : Hid _ := HX.out.trans (ite3_gt h)
              have hneb : ((48 : Int) != (b[k].toNat : Int)) = true := by simp; omega
              clear HX
              go_wp2
              go_ret
              exact ⟨ret_i HY.out.symm, rfl⟩
        · have HX : Hid (R = 0) := by show R = 0; rw [HK.out, show m - k = 0 from by omega]; rfl
          go_wp2
          go_ret
          exact ⟨ret_i HX.out.symm, rfl⟩
  · have E : Hid (cmpM a.data.toList aE b.data.toList bE = 1) := ite3_gt h
    have hneb : (aE != bE) = true := by simp; omega
    go_enter Trym.func28, Trym.ntmps28
    go_wp2
    go_ret
    exact ⟨ret_i E.out.symm, rfl⟩

theorem cm_bd (a b : List UInt8) (aE bE : Int) : -1 ≤ cmpM a aE b bE ∧ cmpM a aE b bE ≤ 1 := by
  have hp : ∀ (n : Nat) (x y : List UInt8), -1 ≤ cmpP n x y ∧ cmpP n x y ≤ 1 := by
    intro n
    induction n with
    | zero => intro x y; exact ⟨by show (-1 : Int) ≤ 0; omega, by show (0 : Int) ≤ 1; omega⟩
    | succ n ih =>
      intro x y; rw [cmpP]
      split
      · exact ih _ _
      · split <;> omega
  unfold cmpM
  split
  · exact hp _ _ _
  · split <;> omega
theorem so_bd (neg : Bool) (d : List UInt8) : sgnOf neg d = -1 ∨ sgnOf neg d = 0 ∨ sgnOf neg d = 1 := by
  unfold sgnOf
  split
  · exact .inr (.inl rfl)
  · cases neg
    · exact .inr (.inr rfl)
    · exact .inl rfl

set_option maxRecDepth 100000 in
set_option maxHeartbeats 1000000 in
theorem cnum_any (aN : Bool) (a : ByteArray) (aE : Int) (bN : Bool) (b : ByteArray) (bE : Int) (w : World) (ha : a.size ≤ 4294967296) (hb : b.size ≤ 4294967296) :
    Calls Trym.prog 24 #[.bool aN, .string a, .int .i64 aE, .bool bN, .string b, .int .i64 bE] w fun e w' => e = .returned (.int .i64 (cmpN aN a.data.toList aE bN b.data.toList bE)) ∧ w' = w := by
  obtain ⟨m1, m2⟩ := cm_bd a.data.toList b.data.toList aE bE
  have HM : Hid (Calls Trym.prog 28 #[.string a, .int .i64 aE, .string b, .int .i64 bE] w fun e w' => e = .returned (.int .i64 (cmpM a.data.toList aE b.data.toList bE)) ∧ w' = w) := cm_any a b aE bE w ha hb
  have HR : Hid (cmpN aN a.data.toList aE bN b.data.toList bE = if sgnOf aN a.data.toList = sgnOf bN b.data.toList then (if sgnOf aN a.data.toList = 0 then 0 else if sgnOf aN a.data.toList < 0 then -(cmpM a.data.toList aE b.data.toList bE) else cmpM a.data.toList aE b.data.toList bE) else if sgnOf aN a.data.toList < sgnOf bN b.data.toList then -1 else 1) := rfl
  have HA : Hid (Calls Trym.prog 27 #[.bool aN, .string a] w fun e w' => e = .returned (.int .i64 (sgnOf aN a.data.toList)) ∧ w' = w) := so_any aN a w
  have HB : Hid (Calls Trym.prog 27 #[.bool bN, .string b] w fun e w' => e = .returned (.int .i64 (sgnOf bN b.data.toList)) ∧ w' = w) := so_any bN b w
  have sa := so_bd aN a.data.toList
  have sb := so_bd bN b.data.toList
  generalize cmpN aN a.data.toList aE bN b.data.toList bE = R at *
  generalize cmpM a.data.toList aE b.data.toList bE = M at *
  generalize sgnOf aN a.data.toList = x at *
  generalize sgnOf bN b.data.toList = y at *
  go_enter Trym.func24, Trym.ntmps24
  go_wp2_with fail
  refine HA.out.mono ?_
  rintro e w' ⟨rfl, hw⟩
  subst hw
  go_wp2_with fail
  refine HB.out.mono ?_
  rintro e w' ⟨rfl, hw⟩
  subst hw
  rcases sa with rfl | rfl | rfl <;> rcases sb with rfl | rfl | rfl
  · go_wp2_with fail
    refine HM.out.mono ?_
    rintro e w' ⟨rfl, hw⟩
    subst hw
    go_wp2
    go_ret
    exact ⟨ret_i HR.out.symm, rfl⟩
  · go_wp2
    go_ret
    exact ⟨ret_i HR.out.symm, rfl⟩
  · go_wp2
    go_ret
    exact ⟨ret_i HR.out.symm, rfl⟩
  · go_wp2
    go_ret
    exact ⟨ret_i HR.out.symm, rfl⟩
  · go_wp2
    go_ret
    exact ⟨ret_i HR.out.symm, rfl⟩
  · go_wp2
    go_ret
    exact ⟨ret_i HR.out.symm, rfl⟩
  · go_wp2
    go_ret
    exact ⟨ret_i HR.out.symm, rfl⟩
  · go_wp2
    go_ret
    exact ⟨ret_i HR.out.symm, rfl⟩
  · go_wp2_with fail
    refine HM.out.mono ?_
    rintro e w' ⟨rfl, hw⟩
    subst hw
    go_wp2
    go_ret
    exact ⟨ret_i HR.out.symm, rfl⟩
end Go.Proofs.Qxb6000021aMods
