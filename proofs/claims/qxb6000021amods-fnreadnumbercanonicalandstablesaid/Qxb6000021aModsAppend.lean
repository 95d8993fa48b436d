/-
  THE WALK OF (Number).Append (function 14): onto a slice that the caller's call itself made (or nil) it writes 'Pl.apT'.
-/
import Derived.Test.Qxb6000021aModsRowBytes
import Derived.Test.Qxb6000021aModsPlace
import Derived.Deep.DeepCutAuto
import Derived.Deep.CutBlock
import Derived.Lib.Builder
namespace Go.Proofs.Qxb6000021aMods
open Go.RowKit Pl

/-- The receiver's box. -/
abbrev boxN (neg : Bool) (dg : ByteArray) (ex : Int) : Obj := .cells #[.bool neg, .string dg, .int .i64 ex] 26

theorem Row.box {w w' : World} {base : Nat} {v v' : Value} {n : Nat} {bs : List UInt8} {neg : Bool} {dg : ByteArray} {ex : Int} (h : Row (w.alloc (boxN neg dg ex)) w' base v v' n bs) (hv : v.ownBlock ≠ some w.heap.size) :
    w'.cell? ⟨w.heap.size, 0, none⟩ = some (.bool neg) ∧ w'.cell? ⟨w.heap.size, 1, none⟩ = some (.string dg) ∧ w'.cell? ⟨w.heap.size, 2, none⟩ = some (.int .i64 ex) := by
  have hb : (w.alloc (boxN neg dg ex)).heap[w.heap.size]? = some (.cells #[.bool neg, .string dg, .int .i64 ex] 26 (0, 0)) := heap_alloc_new w _
  have e := ((h.keep _ _ _ _ hb (.inl (by decide)) hv).1).trans hb
  exact ⟨Lib.cell_of_heap e 0, Lib.cell_of_heap e 1, Lib.cell_of_heap e 2⟩

theorem Row.out {w w' : World} {base : Nat} {v v' : Value} {n : Nat} {bs : List UInt8} {o : Obj} (h : Row (w.alloc o) w' base v v' n bs) (hb : base ≤ w.heap.size) : Row w w' base v v' n bs :=
  ⟨h.own, ((Below.refl _ _).alloc hb o).trans h.below, hb, h.longer, fun k c t fr h1 h2 h3 => by
    have e : (w.alloc o).heap[k]? = w.heap[k]? := Below.heap_alloc w o k (heap_lt h1)
    have := h.keep k c t fr (e.trans h1) h2 h3
    exact ⟨this.1.trans e, this.2⟩⟩

theorem Row.to {w0 w : World} {base : Nat} {v0 v : Value} {n0 : Nat} {bs cs : List UInt8} (h : Row w0 w base v0 v n0 bs) (e : bs = cs) : Row w0 w base v0 v n0 cs := e ▸ h

theorem toList_ne {s : ByteArray} (h : ¬ s.size = 0) : s.toList.isEmpty = false := by
  cases hh : s.toList with
  | nil =>
    have : s.toList.length = s.size := by rw [ByteArray.toList_eq]; simp
    rw [hh] at this; exact absurd this.symm h
  | cons a b => rfl

theorem ap_neg {neg : Bool} {bs bs1 d : List UInt8} {j a : Nat} (hj : j = a) (hb : bs1 = bs ++ sgT neg) (hd : d ≠ []) : bs1 ++ [48, 46] ++ List.replicate j 48 ++ d = bs ++ apT neg d (-(a : Int) - 1) := by
  subst hj hb
  unfold apT apB
  rw [if_neg hd, if_pos (by omega), show (-(-(j : Int) - 1) - 1).toNat = j from by omega]
  simp [List.append_assoc]

theorem ext_len {s : ByteArray} {a b n : Nat} (h : (s.extract a b).size = n) : (s.extract a b).data.toList.length = n := by rw [← h, Array.length_toList]; rfl
theorem ext_list (s : ByteArray) (a b : Nat) : (s.extract a b).data.toList = (s.data.toList.drop a).take (b - a) := by
  rw [ByteArray.data_extract, Array.toList_extract, List.extract_eq_take_drop]
theorem ap_mid {neg : Bool} {bs bs1 : List UInt8} {dg : ByteArray} {m : Nat} (hb : bs1 = bs ++ sgT neg) (hd : dg.data.toList ≠ []) (hm : m + 1 < dg.size) :
    bs1 ++ (dg.extract 0 (m + 1)).data.toList ++ [46] ++ (dg.extract (m + 1) dg.size).data.toList = bs ++ apT neg dg.data.toList (m : Int) := by
  subst hb
  have hl : dg.data.toList.length = dg.size := by simp
  unfold apT apB
  rw [if_neg hd, if_neg (by omega), if_pos (by rw [hl]; omega), ext_list, ext_list, show ((m : Int) + 1).toNat = m + 1 from by omega]
  rw [List.take_of_length_le (l := dg.data.toList.drop (m + 1)) (by rw [List.length_drop]; omega), List.drop_zero, Nat.sub_zero]
  simp [List.append_assoc]
theorem ap_long {neg : Bool} {bs bs1 : List UInt8} {dg : ByteArray} {m j : Nat} (hj : j = m + 1 - dg.size) (hb : bs1 = bs ++ sgT neg) (hd : dg.data.toList ≠ []) (hm : ¬ m + 1 < dg.size) :
    bs1 ++ dg.data.toList ++ List.replicate j 48 = bs ++ apT neg dg.data.toList (m : Int) := by
  subst hb
  have hl : dg.data.toList.length = dg.size := by simp
  unfold apT apB
  rw [if_neg hd, if_neg (by omega), if_neg (by rw [hl]; omega), hl, show ((m : Int) + 1 - (dg.size : Int)).toNat = j from by omega]
  simp [List.append_assoc]

set_option maxRecDepth 100000 in
set_option maxHeartbeats 4000000 in
theorem ap_any (neg : Bool) (dg : ByteArray) (ex : Int) (v : Value) (bs : List UInt8) (base : Nat) (w : World) (hown : w.ownsRow base 5 1 v bs.length (bc bs)) (hbase : base ≤ w.heap.size)
    (hb : bs.length ≤ 200000) (hd : dg.size ≤ 200000) (hx1 : -200000 ≤ ex) (hx2 : ex ≤ 200000) :
    Calls Trym.prog 14 #[.agg #[.bool neg, .string dg, .int .i64 ex], v] w fun e w' => ∃ v', e = .returned v' ∧ Row w w' base v v' bs.length (bs ++ apT neg dg.data.toList ex) := by
  have R0 : Row (w.alloc (boxN neg dg ex)) (w.alloc (boxN neg dg ex)) base v v bs.length bs := Row.start (hown.alloc _) (by simp; omega)
  have hv : v.ownBlock ≠ some w.heap.size := fun e => by have := (hown.lt _ e).2; omega
  have HV : Hid _ := hv
  clear hv
  have HW : Hid _ := hown
  clear hown
  by_cases hd0 : dg.size = 0
  · have he : dg = ByteArray.empty := by
      apply ByteArray.ext; exact Array.eq_empty_of_size_eq_zero hd0
    subst he
    go_enter Trym.func14, Trym.ntmps14
    go_wp2_with (at_builtin; refine wpl_byte R0 rfl _ _ rfl rfl 48 48 rfl _ rfl (by simp) (by omega) ?_; intro v1 w1 R1)
    go_ret
    exact ⟨_, rfl, R1.out hbase⟩
  · have hne : dg.toList.isEmpty = false := toList_ne hd0
    have HD : Hid (dg.data.toList ≠ []) := fun e => hd0 (by have := congrArg List.length e; simpa using this)
    go_enter Trym.func14, Trym.ntmps14
    go_upto_if 15 with fail
    go_cut [1] from 8 to 18 (fun b wx => Row (w.alloc (boxN neg dg ex)) wx base v b bs.length (bs ++ sgT neg))
    case first =>
      cases neg
      · go_wp2
        go_meet
        case rel => exact R0.to (by simp [sgT])
      · go_wp2_with (at_builtin; refine wpl_byte R0 rfl _ _ rfl rfl 45 45 rfl _ rfl (by simp) (by omega) ?_; intro v1 w1 R1)
        go_meet
        case rel => exact R1
    case rest =>
      have hsg : (bs ++ sgT neg).length ≤ 200001 := by cases neg <;> simp [sgT] <;> omega
      obtain ⟨bs1, hbs1⟩ : ∃ bs1, bs1 = bs ++ sgT neg := ⟨_, rfl⟩
      rw [← hbs1] at hcut hsg
      have HBS : Hid (bs1 = bs ++ sgT neg) := hbs1
      clear hbs1 R0
      obtain ⟨k0, k1, k2⟩ := hcut.box HV.out
      by_cases hx : ex < 0
      · obtain ⟨a, rfl⟩ : ∃ a : Nat, ex = -(a : Int) - 1 := ⟨(-ex - 1).toNat, by omega⟩
        go_wp2_with (at_builtin; refine wpl_str hcut rfl _ _ rfl rfl ⟨#[48, 46]⟩ rfl (by decide) (by have : (⟨#[48, 46]⟩ : ByteArray).size = 2 := rfl; omega) ?_; intro v2 w2 R2; obtain ⟨m0, m1, m2⟩ := R2.box HV.out)
        go_loopw [1, 5] (fun b i wx => ∃ (j r : Nat), j + r = a ∧ i = .int .i64 r ∧ Row (w.alloc (boxN neg dg (-(a : Int) - 1))) wx base v b bs.length (bs1 ++ [48, 46] ++ List.replicate j 48)) (fun _ i _ => (intOf i).toNat)
        case atStart => exact ⟨0, a, by omega, by go_num, R2.to (by simp)⟩
        case round =>
          obtain ⟨j, r, hj, rfl, R3⟩ := hrel
          obtain ⟨n0, n1, n2⟩ := R3.box HV.out
          have hl3 : (bs1 ++ [48, 46] ++ List.replicate j 48).length ≤ 800000 := by simp; omega
          clear R2 m0 m1 m2 k0 k1 k2 hcut
          by_cases hr : r = 0
          · subst hr
            have hj2 : Hid (j = a) := by show _ = _; omega
            go_wp2_with (at_builtin; refine wpl_str R3 rfl _ _ rfl rfl dg rfl (by omega) (by omega) ?_; intro v4 w4 R4)
            go_ret
            exact ⟨_, rfl, (R4.out hbase).to (ap_neg hj2.out HBS.out HD.out)⟩
          · obtain ⟨r', rfl⟩ : ∃ r', r = r' + 1 := ⟨r - 1, by omega⟩
            go_wp2_with (at_builtin; refine wpl_byte R3 rfl _ _ rfl rfl 48 48 rfl _ rfl (by simp) (by omega) ?_; intro v4 w4 R4)
            go_roundw
            case rel => exact ⟨j + 1, r', by omega, by go_num, R4.to (by rw [List.append_assoc, ← List.replicate_succ'])⟩
            case measure => simp [intOf]
      · obtain ⟨m, rfl⟩ : ∃ m : Nat, ex = m := ⟨ex.toNat, by omega⟩
        by_cases hx3 : m + 1 < dg.size
        · have hs1 : (dg.extract 0 (m + 1)).size = m + 1 := by rw [ByteArray.size_extract]; omega
          have hs2 : (dg.extract (m + 1) dg.size).size = dg.size - (m + 1) := by rw [ByteArray.size_extract]; omega
          have H1 : Hid _ := hs1
          have H2 : Hid _ := hs2
          clear hs1 hs2
          go_wp2_with (first | (at_builtin; refine wpl_str hcut rfl (.tmp 47) (.tmp 51) rfl rfl (dg.extract 0 (m + 1)) rfl (by rw [H1.out]; omega) (by rw [H1.out]; omega) ?_; intro v2 w2 R2; obtain ⟨m0, m1, m2⟩ := R2.box HV.out) | (at_builtin; refine wpl_byte R2 rfl (.tmp 53) (.tmp 54) rfl rfl 46 46 rfl _ rfl (by simp) (by have := ext_len H1.out; simp; omega) ?_; intro v3 w3 R3; obtain ⟨n0, n1, n2⟩ := R3.box HV.out) | (at_builtin; refine wpl_str R3 rfl (.tmp 56) (.tmp 60) rfl rfl (dg.extract (m + 1) dg.size) rfl (by rw [H2.out]; omega) (by have := ext_len H1.out; rw [H2.out]; simp; omega) ?_; intro v4 w4 R4))
          go_ret
          exact ⟨_, rfl, (R4.out hbase).to (ap_mid HBS.out HD.out hx3)⟩
        · go_wp2_with (at_builtin; refine wpl_str hcut rfl (.tmp 62) (.tmp 64) rfl rfl dg rfl (by omega) (by omega) ?_; intro v2 w2 R2; obtain ⟨m0, m1, m2⟩ := R2.box HV.out)
          go_loopw [1, 7] (fun b i wx => ∃ (j r : Nat), j + r = m + 1 - dg.size ∧ i = .int .i64 r ∧ Row (w.alloc (boxN neg dg m)) wx base v b bs.length (bs1 ++ dg.data.toList ++ List.replicate j 48)) (fun _ i _ => (intOf i).toNat)
          case atStart => exact ⟨0, m + 1 - dg.size, by omega, by go_num, R2.to (by simp)⟩
          case round =>
            obtain ⟨j, r, hj, rfl, R3⟩ := hrel
            have hl3 : (bs1 ++ dg.data.toList ++ List.replicate j 48).length ≤ 800000 := by simp; omega
            clear R2 m0 m1 m2 k0 k1 k2 hcut
            by_cases hr : r = 0
            · subst hr
              have hj2 : Hid (j = m + 1 - dg.size) := by show _ = _; omega
              go_wp2
              go_ret
              exact ⟨_, rfl, (R3.out hbase).to (ap_long hj2.out HBS.out HD.out (by omega))⟩
            · obtain ⟨r', rfl⟩ : ∃ r', r = r' + 1 := ⟨r - 1, by omega⟩
              go_wp2_with (at_builtin; refine wpl_byte R3 rfl _ _ rfl rfl 48 48 rfl _ rfl (by simp) (by omega) ?_; intro v4 w4 R4)
              go_roundw
              case rel => exact ⟨j + 1, r', by omega, by go_num, R4.to (by rw [List.append_assoc, ← List.replicate_succ'])⟩
              case measure => simp [intOf]
end Go.Proofs.Qxb6000021aMods
