/-
  THE WALK OF zzb1ModelPlain (function 15): it writes 'Pl.mpT' into memory of its own.
-/
import Derived.Test.Qxb6000021aModsRowBytes
import Derived.Test.Qxb6000021aModsPlace
import Derived.Deep.DeepCutAuto
import Derived.Deep.CutBlock
namespace Go.Proofs.Qxb6000021aMods
open Go.RowKit Pl

theorem pl_len (d : List UInt8) (ex : Int) : ∀ (m : Nat) (k : Int), (plT d ex m k).length ≤ 2 * m
  | 0, _ => Nat.le_refl _
  | m + 1, k => by rw [plT]; have := pl_len d ex m (k - 1); split <;> simp <;> omega

theorem toList_ne' {s : ByteArray} (h : ¬ s.size = 0) : s.toList.isEmpty = false := by
  cases hh : s.toList with
  | nil =>
    have : s.toList.length = s.size := by rw [ByteArray.toList_eq]; simp
    rw [hh] at this; exact absurd this.symm h
  | cons a b => rfl

/-- What zzb1ModelPlain leaves. -/
def MpSaid (neg : Bool) (dg : ByteArray) (ex : Int) (w : World) (e : Ending) (w' : World) : Prop :=
  ∃ v', e = .returned v' ∧ w'.ownsRow w.heap.size 5 1 v' (mpT neg dg.data.toList ex).length (bc (mpT neg dg.data.toList ex)) ∧ Below w.heap.size w w'

theorem mp_said {neg : Bool} {dg : ByteArray} {ex : Int} {w w' : World} {v0 v : Value} {bs : List UInt8} {k : Int} {n0 : Nat} {o : Obj} (h : mpT neg dg.data.toList ex = bs ++ plT dg.data.toList ex 0 k) (R : Row (w.alloc o) w' w.heap.size v0 v n0 bs) : MpSaid neg dg ex w (.returned v) w' := by
  have e : mpT neg dg.data.toList ex = bs := by rw [h, plT, List.append_nil]
  refine ⟨v, rfl, by rw [e]; exact R.own, ((Below.refl _ _).alloc (Nat.le_refl _) _).trans R.below⟩
theorem dig_at {dg : ByteArray} {n : Nat} {i : Int} (h : n < dg.size) (hi : i = n) : dig dg.data.toList i = dg[n] :=
  dig_in _ n (by simpa using h) i hi
theorem dig_no {dg : ByteArray} {i : Int} (h : ¬ (0 ≤ i ∧ i < (dg.size : Int))) : dig dg.data.toList i = 48 :=
  dig_out _ i (by have : dg.data.toList.length = dg.size := by simp
                  omega)
theorem pl_step {d bs : List UInt8} {ex k : Int} {m : Nat} {c : UInt8} (h : ¬ k = -1) (hc : dig d (ex - k) = c) : bs ++ plT d ex (m + 1) k = bs ++ [c] ++ plT d ex m (k - 1) := by
  rw [plT, if_neg h, hc]; simp
theorem pl_step_dot {d bs : List UInt8} {ex : Int} {m : Nat} {c : UInt8} (hc : dig d (ex - -1) = c) : bs ++ plT d ex (m + 1) (-1) = bs ++ [46] ++ [c] ++ plT d ex m (-1 - 1) := by
  rw [plT, if_pos rfl, hc]; simp

set_option maxRecDepth 100000 in
set_option maxHeartbeats 4000000 in
theorem mp_any (neg : Bool) (dg : ByteArray) (ex : Int) (w : World) (hd : dg.size ≤ 200000) (hx1 : -200000 ≤ ex) (hx2 : ex ≤ 200000) :
    Calls Trym.prog 15 #[.bool neg, .string dg, .int .i64 ex] w fun e w' => MpSaid neg dg ex w e w' := by
  by_cases hd0 : dg.size = 0
  · have he : dg = ByteArray.empty := by
      apply ByteArray.ext; exact Array.eq_empty_of_size_eq_zero hd0
    subst he
    go_enter Trym.func15, Trym.ntmps15
    go_wp2
    go_ret
    refine ⟨_, rfl, ?_, ?_⟩
    · exact World.ownsRow_lit w #[.int .u8 48] 1 (Nat.le_refl _) (by unfold maxLen; omega) rfl
    · exact (Below.refl _ _).alloc (Nat.le_refl _) _
  · have hne : dg.toList.isEmpty = false := toList_ne' hd0
    have HD : Hid (dg.data.toList ≠ []) := fun e => hd0 (by have := congrArg List.length e; simpa using this)
    have R0 : Row (w.alloc (.cells #[] 5)) (w.alloc (.cells #[] 5)) w.heap.size (.slice (some ⟨w.heap.size, 0, none⟩) 0 0) (.slice (some ⟨w.heap.size, 0, none⟩) 0 0) 0 [] :=
      Row.start (bs := []) (World.ownsRow_lit w #[] 0 (Nat.le_refl _) (by unfold maxLen; omega) rfl) (show w.heap.size ≤ (w.alloc (.cells #[] 5)).heap.size by rw [World.size_alloc]; omega)
    go_enter Trym.func15, Trym.ntmps15
    go_upto_if 16 with fail
    go_cut [7] from 12 to 19 (fun b wx => Row (w.alloc (.cells #[] 5)) wx w.heap.size (.slice (some ⟨w.heap.size, 0, none⟩) 0 0) b 0 (sgT neg))
    case first =>
      cases neg
      · go_wp2
        go_meet
        case rel => exact R0
      · go_wp2_with (at_builtin; refine wpl_byte R0 rfl _ _ rfl rfl 45 45 rfl _ rfl (by simp) (by simp) ?_; intro v1 w1 R1)
        go_meet
        case rel => exact R1
    case rest =>
      clear R0
      have R1 := hcut
      clear hcut
      go_upto_if 22 with fail
      go_cut [8] from 12 to 22 (fun h wx => h = .int .i64 (hiP ex) ∧ wc = wx)
      case first =>
        by_cases hx : ex < 0
        · have H : Hid (hiP ex = 0) := if_pos hx
          go_wp2
          go_meet
          case rel => exact ⟨by rw [H.out], rfl⟩
        · have H : Hid (hiP ex = ex) := if_neg hx
          go_wp2
          go_meet
          case rel => exact ⟨by rw [H.out], rfl⟩
      case rest =>
        obtain ⟨rfl, rfl⟩ := hcut
        have hl0 : dg.data.toList.length = dg.size := by simp
        go_upto_if 29 with fail
        go_cut [9] from 12 to 29 (fun h wx => h = .int .i64 (loP dg.data.toList ex) ∧ wc = wx)
        case first =>
          by_cases hx : 0 < ex - (dg.size : Int) + 1
          · have H : Hid (loP dg.data.toList ex = 0) := by show loP _ _ = _; unfold loP; rw [hl0, if_pos hx]
            clear hl0
            go_wp2
            go_meet
            case rel => exact ⟨by rw [H.out], rfl⟩
          · have H : Hid (loP dg.data.toList ex = ex - (dg.size : Int) + 1) := by show loP _ _ = _; unfold loP; rw [hl0, if_neg hx]
            clear hl0
            go_wp2
            go_meet
            case rel => exact ⟨by rw [H.out], rfl⟩
        case rest =>
          obtain ⟨rfl, rfl⟩ := hcut
          have hhi : 0 ≤ hiP ex ∧ hiP ex ≤ 200000 := by unfold hiP; split <;> omega
          have hlo : -400001 ≤ loP dg.data.toList ex ∧ loP dg.data.toList ex ≤ 0 := by unfold loP; rw [hl0]; split <;> omega
          obtain ⟨hh1, hh2⟩ := hhi
          obtain ⟨hl1, hl2⟩ := hlo
          have HT : Hid (mpT neg dg.data.toList ex = sgT neg ++ plT dg.data.toList ex (hiP ex - loP dg.data.toList ex + 1).toNat (hiP ex)) := by show mpT _ _ _ = _; unfold mpT; rw [if_neg HD.out]
          have HL : Hid ((mpT neg dg.data.toList ex).length ≤ 2000000) := by
            show _ ≤ _
            rw [HT.out, List.length_append]
            have := pl_len dg.data.toList ex (hiP ex - loP dg.data.toList ex + 1).toNat (hiP ex)
            have : (sgT neg).length ≤ 1 := by cases neg <;> simp [sgT]
            omega
          clear hl0
          generalize hiP ex = hi at *
          generalize loP dg.data.toList ex = lo at *
          go_wp2
          go_loopw [7, 10] (fun b i wx => ∃ (m : Nat) (k : Int) (bs : List UInt8), k = lo + m - 1 ∧ k ≤ hi ∧ i = .int .i64 k ∧ Row (w.alloc (.cells #[] 5)) wx w.heap.size (.slice (some ⟨w.heap.size, 0, none⟩) 0 0) b 0 bs ∧ Hid (mpT neg dg.data.toList ex = bs ++ plT dg.data.toList ex m k)) (fun _ i _ => (intOf i - lo + 1).toNat)
          case atStart => exact ⟨(hi - lo + 1).toNat, hi, sgT neg, by omega, Int.le_refl _, rfl, R1, HT⟩
          case round =>
            obtain ⟨m, k, bs, hk, hkh, rfl, R2, HM⟩ := hrel
            have hbl : bs.length ≤ 2000000 := by have h1 := HL.out; rw [HM.out, List.length_append] at h1; omega
            clear R1 HT
            cases m with
            | zero =>
              have hlk : k < lo := by omega
              clear hk
              go_wp2
              go_ret
              exact mp_said HM.out R2
            | succ m =>
              have hlk : lo ≤ k := by omega
              have HK : Hid _ := hk
              clear hk
              by_cases hk1 : k = -1
              · subst hk1
                by_cases hin : 0 ≤ ex - -1 ∧ ex - -1 < (dg.size : Int)
                · obtain ⟨hin1, hin2⟩ := hin
                  obtain ⟨n, hn⟩ : ∃ n : Nat, ex = (n : Int) - 1 := ⟨(ex + 1).toNat, by omega⟩
                  subst hn
                  have hidx : (n : Int) - 1 - -1 = n := by omega
                  have hnl : n < dg.size := by omega
                  go_wp2_with (first | (at_builtin; refine wpl_byte R2 rfl (.tmp 38) (.tmp 39) rfl rfl 46 46 rfl _ rfl (by simp) (by omega) ?_; intro v3 w3 R3) | (at_builtin; refine wpl_byte R3 rfl (.tmp 52) (.tmp 56) rfl rfl dg[n] _ rfl _ rfl (by simp) (by simp; omega) ?_; intro v4 w4 R4))
                  go_roundw
                  case rel => exact ⟨m, -1 - 1, bs ++ [46] ++ [dg[n]], by have := HK.out; omega, by omega, by go_num, R4, HM.out.trans (pl_step_dot (dig_at hnl (by omega)))⟩
                  case measure => simp [intOf]; omega
                · have HO : Hid _ := hin
                  by_cases hin1 : 0 ≤ ex - -1
                  · have hin2 : (dg.size : Int) ≤ ex - -1 := by omega
                    clear hin
                    go_wp2_with (first | (at_builtin; refine wpl_byte R2 rfl (.tmp 38) (.tmp 39) rfl rfl 46 46 rfl _ rfl (by simp) (by omega) ?_; intro v3 w3 R3) | (at_builtin; refine wpl_byte R3 rfl (.tmp 58) (.tmp 59) rfl rfl 48 48 rfl _ rfl (by simp) (by simp; omega) ?_; intro v4 w4 R4))
                    go_roundw
                    case rel => exact ⟨m, -1 - 1, bs ++ [46] ++ [48], by have := HK.out; omega, by omega, by go_num, R4, HM.out.trans (pl_step_dot (dig_no HO.out))⟩
                    case measure => simp [intOf]; omega
                  · clear hin
                    go_wp2_with (first | (at_builtin; refine wpl_byte R2 rfl (.tmp 38) (.tmp 39) rfl rfl 46 46 rfl _ rfl (by simp) (by omega) ?_; intro v3 w3 R3) | (at_builtin; refine wpl_byte R3 rfl (.tmp 58) (.tmp 59) rfl rfl 48 48 rfl _ rfl (by simp) (by simp; omega) ?_; intro v4 w4 R4))
                    go_roundw
                    case rel => exact ⟨m, -1 - 1, bs ++ [46] ++ [48], by have := HK.out; omega, by omega, by go_num, R4, HM.out.trans (pl_step_dot (dig_no HO.out))⟩
                    case measure => simp [intOf]; omega
              · by_cases hin : 0 ≤ ex - k ∧ ex - k < (dg.size : Int)
                · obtain ⟨hin1, hin2⟩ := hin
                  obtain ⟨n, hn⟩ : ∃ n : Nat, k = ex - n := ⟨(ex - k).toNat, by omega⟩
                  subst hn
                  have hidx : ex - (ex - (n : Int)) = n := by omega
                  have hnl : n < dg.size := by omega
                  go_wp2_with (at_builtin; refine wpl_byte R2 rfl _ _ rfl rfl dg[n] _ rfl _ rfl (by simp) (by omega) ?_; intro v4 w4 R4)
                  go_roundw
                  case rel => exact ⟨m, ex - n - 1, bs ++ [dg[n]], by have := HK.out; omega, by omega, by go_num, R4, HM.out.trans (pl_step hk1 (dig_at hnl (by omega)))⟩
                  case measure => simp [intOf]; omega
                · have HO : Hid _ := hin
                  by_cases hin1 : 0 ≤ ex - k
                  · have hin2 : (dg.size : Int) ≤ ex - k := by omega
                    clear hin
                    go_wp2_with (at_builtin; refine wpl_byte R2 rfl _ _ rfl rfl 48 48 rfl _ rfl (by simp) (by omega) ?_; intro v4 w4 R4)
                    go_roundw
                    case rel => exact ⟨m, k - 1, bs ++ [48], by have := HK.out; omega, by omega, by go_num, R4, HM.out.trans (pl_step hk1 (dig_no HO.out))⟩
                    case measure => simp [intOf]; omega
                  · clear hin
                    go_wp2_with (at_builtin; refine wpl_byte R2 rfl _ _ rfl rfl 48 48 rfl _ rfl (by simp) (by omega) ?_; intro v4 w4 R4)
                    go_roundw
                    case rel => exact ⟨m, k - 1, bs ++ [48], by have := HK.out; omega, by omega, by go_num, R4, HM.out.trans (pl_step hk1 (dig_no HO.out))⟩
                    case measure => simp [intOf]; omega
end Go.Proofs.Qxb6000021aMods
