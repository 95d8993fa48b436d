/-
  CONTRACTS of zzb1CanonicalDigits (26), zzb1CanonicalNumber (17) and of the small length tests (16, 18, 20).
-/
import Derived.Test.Qxb6000021aModsCells
import Derived.Deep.DeepCutAuto
namespace Go.Proofs.Qxb6000021aMods
open Go.RowKit Pl
namespace Pl
def isD (c : UInt8) : Bool := decide (48 ≤ c.toNat) && decide (c.toNat ≤ 57)
def cdB (d : List UInt8) : Bool := !d.isEmpty && (decide ((d.getD 0 0).toNat ≠ 48) && (decide ((d.getD (d.length - 1) 0).toNat ≠ 48) && d.all isD))
theorem isD_iff {c : UInt8} : isD c = true ↔ 48 ≤ c.toNat ∧ c.toNat ≤ 57 := by simp [isD]
theorem cdB_iff (d : List UInt8) : cdB d = true ↔ Dg d ∧ Core d := by
  unfold cdB
  simp only [Bool.and_eq_true, Bool.not_eq_true', decide_eq_true_eq, List.all_eq_true]
  constructor
  · rintro ⟨h0, h1, h2, h3⟩
    have hne : d ≠ [] := by intro e; subst e; simp at h0
    have hp := List.length_pos_iff.2 hne
    refine ⟨fun c hc => isD_iff.1 (h3 c hc), ?_, d.dropLast, d.getLast hne, (List.dropLast_concat_getLast hne).symm, ?_⟩
    · match d, hne with
      | c :: r, _ => exact ⟨c, r, rfl, by simpa using h1⟩
    · rw [List.getLast_eq_getElem]
      rwa [List.getD_eq_getElem?_getD, List.getElem?_eq_getElem (by omega)] at h2
  · rintro ⟨h1, ⟨c, R, rfl, hc⟩, R2, c2, h2, hc2⟩
    refine ⟨rfl, by simpa using hc, ?_, fun x hx => isD_iff.2 (h1 x hx)⟩
    rw [h2]; simpa using hc2
theorem cd_nil : cdB [] = false := rfl
theorem getD_fr (s : ByteArray) (k : Nat) (h : k < s.size) : s.data.toList.getD k 0 = s[k] := by
  rw [List.getD_eq_getElem?_getD, List.getElem?_eq_getElem (by simpa using h)]; rfl
theorem cd_head {s : ByteArray} (h : 0 < s.size) (h1 : (s[0].toNat : Int) = 48) : cdB s.data.toList = false := by
  unfold cdB; rw [getD_fr s 0 h]; simp; omega
theorem cd_last {s : ByteArray} {n : Nat} (h : n < s.size) (hn : n + 1 = s.size) (h1 : (s[n].toNat : Int) = 48) : cdB s.data.toList = false := by
  have hl : s.data.toList.length - 1 = n := by have : s.data.toList.length = s.size := by simp
                                               omega
  unfold cdB; rw [hl, getD_fr s n h]; simp; omega
theorem cd_all {s : ByteArray} {n : Nat} (h0 : 0 < s.size) (h : n < s.size) (hn : n + 1 = s.size) (h1 : ¬ (s[0].toNat : Int) = 48) (h2 : ¬ (s[n].toNat : Int) = 48) : cdB s.data.toList = (fr s 0).all isD := by
  have hl : s.data.toList.length - 1 = n := by have : s.data.toList.length = s.size := by simp
                                               omega
  have hne : s.data.toList.isEmpty = false := by
    have := fr_at s 0 h0
    have e : fr s 0 = s.data.toList := rfl
    rw [e] at this; rw [this]; rfl
  unfold cdB
  rw [hl, getD_fr s n h, getD_fr s 0 h0, hne, decide_eq_true (by omega), decide_eq_true (by omega)]; rfl
theorem all_out {s : ByteArray} {k : Nat} (h : k < s.size) (h1 : (s[k].toNat : Int) < 48 ∨ 57 < (s[k].toNat : Int)) : (fr s k).all isD = false := by
  rw [fr_at s k h, List.all_cons]
  have : isD s[k] = false := by
    cases hh : isD s[k] with
    | false => rfl
    | true => have := isD_iff.1 hh; omega
  rw [this]; rfl
theorem all_in {s : ByteArray} {k : Nat} (h : k < s.size) (h1 : 48 ≤ (s[k].toNat : Int)) (h2 : (s[k].toNat : Int) ≤ 57) : (fr s k).all isD = (fr s (k + 1)).all isD := by
  rw [fr_at s k h, List.all_cons, isD_iff.2 (by omega), Bool.true_and]
theorem all_end {s : ByteArray} {k : Nat} (h : ¬ k < s.size) : (fr s k).all isD = true := by
  rw [fr_end s k h]; rfl
end Pl

theorem empty_of {s : ByteArray} (h : s.size = 0) : s = ByteArray.empty := by
  apply ByteArray.ext; exact Array.eq_empty_of_size_eq_zero h
theorem list_ne {s : ByteArray} (h : 0 < s.size) : s.data.toList ≠ [] := by
  intro e
  have h2 : s.data.toList.length = s.size := by simp
  rw [e] at h2; simp at h2; omega
theorem tl_ne {s : ByteArray} (h : 0 < s.size) : s.toList.isEmpty = false := by
  cases hh : s.toList with
  | nil =>
    have : s.toList.length = s.size := by rw [ByteArray.toList_eq]; simp
    rw [hh] at this; simp at this; omega
  | cons a b => rfl

set_option maxRecDepth 100000 in
set_option maxHeartbeats 1000000 in
theorem cd_any (s : ByteArray) (w : World) (hs : s.size ≤ 4294967296) :
    Calls Trym.prog 26 #[.string s] w fun e w' => e = .returned (.bool (cdB s.data.toList)) ∧ w' = w := by
  by_cases h0 : 0 < s.size
  · have hne := tl_ne h0
    obtain ⟨n, hn⟩ : ∃ n, n + 1 = s.size := ⟨s.size - 1, by omega⟩
    have hnl : n < s.size := by omega
    have HN : Hid _ := hn
    by_cases h1 : (s[0].toNat : Int) = 48
    · have E : Hid (cdB s.data.toList = false) := cd_head h0 h1
      clear hn
      go_enter Trym.func26, Trym.ntmps26
      go_wp2
      go_ret
      exact ⟨by rw [E.out]; rfl, rfl⟩
    · have hidx : ((s.size : Int) - 1).toNat = n := by omega
      have i1 : (0 : Int) ≤ (s.size : Int) - 1 := by omega
      have i2 : (s.size : Int) - 1 = (n : Int) := by omega
      clear hn
      by_cases h2 : (s[n].toNat : Int) = 48
      · have E : Hid (cdB s.data.toList = false) := cd_last hnl HN.out h2
        go_enter Trym.func26, Trym.ntmps26
        go_wp2
        go_ret
        exact ⟨by rw [E.out]; rfl, rfl⟩
      · have E : Hid (cdB s.data.toList = (fr s 0).all isD) := cd_all h0 hnl HN.out h1 h2
        have hb1 : ((s[0].toNat : Int) == 48) = false := beq_eq_false_iff_ne.2 h1
        have hb2 : ((s[n].toNat : Int) == 48) = false := beq_eq_false_iff_ne.2 h2
        go_enter Trym.func26, Trym.ntmps26
        go_wp2
        go_loop [3] (fun i => ∃ k : Nat, k ≤ s.size ∧ i = .int .i64 k ∧ Hid ((fr s 0).all isD = (fr s k).all isD)) (fun i => s.size - (intOf i).toNat)
        case atStart => exact ⟨0, Nat.zero_le _, rfl, rfl⟩
        case round =>
          obtain ⟨k, hk, rfl, HK⟩ := hrel
          by_cases hlt : k < s.size
          · by_cases c1 : (s[k].toNat : Int) < 48 ∨ 57 < (s[k].toNat : Int)
            · have HX : Hid (cdB s.data.toList = false) := E.out.trans (HK.out.trans (all_out hlt c1))
              go_wp2
              all_goals
                go_ret
                exact ⟨by rw [HX.out]; rfl, rfl⟩
            · have c3 : 48 ≤ (s[k].toNat : Int) := by omega
              have c4 : (s[k].toNat : Int) ≤ 57 := by omega
              clear c1
              go_wp2
              go_round
              case rel => exact ⟨k + 1, by omega, by go_num, HK.out.trans (all_in hlt c3 c4)⟩
              case measure => simp [intOf]; omega
          · have HX : Hid (cdB s.data.toList = true) := E.out.trans (HK.out.trans (all_end hlt))
            go_wp2
            go_ret
            exact ⟨by rw [HX.out]; rfl, rfl⟩
  · have := empty_of (s := s) (by omega)
    subst this
    go_enter Trym.func26, Trym.ntmps26
    go_wp2
    go_ret
    exact ⟨rfl, rfl⟩

/-- What zzb1CanonicalNumber says. -/
def Pl.cnB (neg : Bool) (d : List UInt8) (e : Int) : Bool := if d = [] then (!neg && e == 0) else cdB d

theorem cn_any (neg : Bool) (s : ByteArray) (ex : Int) (w : World) (hs : s.size ≤ 4294967296) :
    Calls Trym.prog 17 #[.bool neg, .string s, .int .i64 ex] w fun e w' => e = .returned (.bool (cnB neg s.data.toList ex)) ∧ w' = w := by
  by_cases h0 : 0 < s.size
  · have hne := tl_ne h0
    have E : Hid (cnB neg s.data.toList ex = cdB s.data.toList) := if_neg (list_ne h0)
    go_enter Trym.func17, Trym.ntmps17
    go_wp2_with fail
    refine (cd_any s _ hs).mono ?_
    rintro e w' ⟨rfl, rfl⟩
    go_wp2
    go_ret
    exact ⟨by rw [E.out]; rfl, rfl⟩
  · have := empty_of (s := s) (by omega)
    subst this
    have E : Hid (cnB neg ByteArray.empty.data.toList ex = (!neg && ex == 0)) := rfl
    cases neg
    · go_enter Trym.func17, Trym.ntmps17
      go_wp2
      go_ret
      exact ⟨rfl, rfl⟩
    · go_enter Trym.func17, Trym.ntmps17
      go_wp2
      go_ret
      exact ⟨rfl, rfl⟩

theorem bytes16 (neg : Bool) (s : ByteArray) (ex : Int) (w : World) (hs : s.size ≤ maxLen) :
    Calls Trym.prog 16 #[.bool neg, .string s, .int .i64 ex] w fun e w' => e = .returned (.bool (decide (s.size ≤ 1048576))) ∧ w' = w := by
  unfold maxLen at hs
  by_cases h : s.size ≤ 1048576
  · have e : Hid (decide (s.size ≤ 1048576) = true) := decide_eq_true h
    go_enter Trym.func16, Trym.ntmps16
    go_wp2
    go_ret
    exact ⟨by rw [e.out]; rfl, rfl⟩
  · have e : Hid (decide (s.size ≤ 1048576) = false) := decide_eq_false h
    go_enter Trym.func16, Trym.ntmps16
    go_wp2
    go_ret
    exact ⟨by rw [e.out]; rfl, rfl⟩

theorem bytes18 (s : ByteArray) (w : World) (hs : s.size ≤ maxLen) :
    Calls Trym.prog 18 #[.string s] w fun e w' => e = .returned (.bool (decide (s.size ≤ 1048576))) ∧ w' = w := by
  unfold maxLen at hs
  by_cases h : s.size ≤ 1048576
  · have e : Hid (decide (s.size ≤ 1048576) = true) := decide_eq_true h
    go_enter Trym.func18, Trym.ntmps18
    go_wp2
    go_ret
    exact ⟨by rw [e.out]; rfl, rfl⟩
  · have e : Hid (decide (s.size ≤ 1048576) = false) := decide_eq_false h
    go_enter Trym.func18, Trym.ntmps18
    go_wp2
    go_ret
    exact ⟨by rw [e.out]; rfl, rfl⟩

/-- The bytes that a call owns, turned to a string. -/
theorem conv_own {w : World} {g cap : Nat} {bs : List UInt8} (h : ∀ i (hi : i < bs.length), w.cell? ⟨g, i, none⟩ = some (.int .u8 (bs[i].toNat : Int))) :
    (convert 29 9 (.slice (some ⟨g, 0, none⟩) bs.length cap)).run Trym.prog w = .ok (.string ⟨bs.toArray⟩) w := by
  have e := run_convert_bytes_arg (P := Trym.prog) w 29 5 Trym.underlying29 Trym.underlying5 g 0 bs.length cap (bs.map fun c => (c.toNat : Int)) (by rw [List.length_map]) (by
    intro i hi
    rw [Nat.zero_add, h i hi, List.getD_eq_getElem?_getD, List.getElem?_map, List.getElem?_eq_getElem hi]; rfl) 9 Trym.underlying9
  rw [e]
  have e2 : strOfNums (bs.map fun c => (c.toNat : Int)) = ⟨bs.toArray⟩ := by
    unfold strOfNums; rw [List.map_map]
    congr 2
    refine (List.map_congr_left (g := id) fun c _ => ?_).trans (List.map_id _)
    simp
  rw [e2]

end Go.Proofs.Qxb6000021aMods
