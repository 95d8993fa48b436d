/-
  CONTRACTS of zzb1Clone (13) and of zzBytes_FnAppendMatchesPlaceValue (12).
-/
import Derived.Test.Qxb6000021aModsRowBytes
import Derived.Deep.DeepCutAuto
namespace Go.Proofs.Qxb6000021aMods
open Go.RowKit Pl

def b12 (n d : Nat) : Bool := decide (n + d ≤ 1048576)
theorem bytes12 (a : Option Addr) (n c : Nat) (neg : Bool) (dg : ByteArray) (ex : Int) (w : World) (hn : n ≤ maxLen) (hd : dg.size ≤ maxLen) :
    Calls Trym.prog 12 #[.slice a n c, .bool neg, .string dg, .int .i64 ex] w fun e w' => e = .returned (.bool (b12 n dg.size)) ∧ w' = w := by
  unfold maxLen at hn hd
  by_cases h1 : n ≤ 1048576
  · by_cases h2 : dg.size ≤ 1048576
    · by_cases h3 : n + dg.size ≤ 1048576
      · have e : Hid (b12 n dg.size = true) := decide_eq_true h3
        go_enter Trym.func12, Trym.ntmps12
        go_wp2
        go_ret
        exact ⟨by rw [e.out]; rfl, rfl⟩
      · have e : Hid (b12 n dg.size = false) := decide_eq_false h3
        go_enter Trym.func12, Trym.ntmps12
        go_wp2
        go_ret
        exact ⟨by rw [e.out]; rfl, rfl⟩
    · have e : Hid (b12 n dg.size = false) := decide_eq_false (by omega)
      go_enter Trym.func12, Trym.ntmps12
      go_wp2
      go_ret
      exact ⟨by rw [e.out]; rfl, rfl⟩
  · have e : Hid (b12 n dg.size = false) := decide_eq_false (by omega)
    go_enter Trym.func12, Trym.ntmps12
    go_wp2
    go_ret
    exact ⟨by rw [e.out]; rfl, rfl⟩

theorem q29 (w : World) (a : Option Addr) (n c n' c' : Nat) : (binOp .eql 29 (.slice a n c) (.slice none n' c')).run Trym.prog w = .ok (.bool a.isNone) w := Lib.run_eql_slice_nil w _ _ a n c n' c' Trym.underlying29

theorem clone_nil (w : World) : Calls Trym.prog 13 #[.slice none 0 0] w fun e w' => e = .returned (.slice none 0 0) ∧ w' = w := by
  have q := q29
  go_enter Trym.func13, Trym.ntmps13
  go_wp2
  go_ret
  exact ⟨rfl, rfl⟩

/-- The bytes so far stored over zeros. -/
def half (bs : List UInt8) (k : Nat) : List UInt8 := bs.take k ++ List.replicate (bs.length - k) 0

theorem half_zero {w : World} {B n : Nat} {bs : List UInt8} (h : w.ownsRow B 5 1 (.slice (some ⟨B, 0, none⟩) n n) n (madeCells (Value.int .u8 0).cells (bs.length * 1)).toList) : w.ownsRow B 5 1 (.slice (some ⟨B, 0, none⟩) n n) n (bc (half bs 0)) := by
  have e : (madeCells (Value.int .u8 0).cells (bs.length * 1)).toList = bc (half bs 0) := by
    rw [Nat.mul_one, show (Value.int .u8 0).cells = #[.int .u8 0] from rfl, toList_madeCells_one]
    simp [half, bc]
  rw [e] at h; exact h
theorem half_len (bs : List UInt8) (k : Nat) (h : k ≤ bs.length) : (half bs k).length = bs.length := by simp [half]; omega
theorem half_cell {w : World} {B : Nat} {bs : List UInt8} {k : Nat} (h : w.ownsRow B 5 1 (.slice (some ⟨B, 0, none⟩) bs.length bs.length) bs.length (bc (half bs k))) (j : Nat) (hj : j < bs.length) : ∃ x, w.cell? ⟨B, j, none⟩ = some x := by
  rw [h.cellAt j (by omega)]
  have hl : j < (bc (half bs k)).length := by rw [h.1]; omega
  exact ⟨_, List.getElem?_eq_getElem hl⟩
theorem half_step {w : World} {B : Nat} {bs : List UInt8} {k : Nat} (hk : k < bs.length) (h : w.ownsRow B 5 1 (.slice (some ⟨B, 0, none⟩) bs.length bs.length) bs.length ((bc (half bs k)).set k (.int .u8 (bs[k].toNat : Int)))) : w.ownsRow B 5 1 (.slice (some ⟨B, 0, none⟩) bs.length bs.length) bs.length (bc (half bs (k + 1))) := by
  have e : (bc (half bs k)).set k (.int .u8 (bs[k].toNat : Int)) = bc (half bs (k + 1)) := by
    have e1 : (half bs k).set k bs[k] = half bs (k + 1) := by
      unfold half
      rw [show bs.length - k = (bs.length - (k + 1)) + 1 from by omega, List.replicate_succ]
      have hlk : (bs.take k).length = k := by rw [List.length_take]; omega
      rw [List.set_append_right _ _ (by omega), hlk, Nat.sub_self, List.set_cons_zero, List.take_succ_eq_append_getElem hk, List.append_assoc]; rfl
    rw [← e1]; unfold bc; rw [List.map_set]
  rw [e] at h; exact h
theorem half_end (bs : List UInt8) : half bs bs.length = bs := by simp [half]

theorem clone_row (b off cap : Nat) (bs : List UInt8) (w : World) (hl : bs.length ≤ 1000000) (hb : b < w.heap.size) (hc : ∀ i (h : i < bs.length), w.cell? ⟨b, off + i, none⟩ = some (.int .u8 (bs[i].toNat : Int))) :
    Calls Trym.prog 13 #[.slice (some ⟨b, off, none⟩) bs.length cap] w fun e w' => e = .returned (.slice (some ⟨w.heap.size, 0, none⟩) bs.length bs.length) ∧ w'.ownsRow w.heap.size 5 1 (.slice (some ⟨w.heap.size, 0, none⟩) bs.length bs.length) bs.length (bc bs) ∧ Below w.heap.size w w' := by
  obtain ⟨i0, hi, hz0, hz1, hz2⟩ := info_parts Trym.info5
  have q := q29
  go_enter Trym.func13, Trym.ntmps13
  go_wp2_with (at_make; refine wpList_make_full _ rfl _ _ 29 rfl w.heap.size 5 i0 (.int .u8 0) 1 Trym.underlying29 hi hz0 hz1 _ _ _ _ bs.length rfl rfl rfl rfl (by rw [hz2]; omega) (by unfold maxLen; omega) (Nat.le_refl _) ?_; intro w1 hown hgrow)
  obtain ⟨B, hB⟩ : ∃ B, B = w.heap.size := ⟨_, rfl⟩
  rw [← hB] at hown ⊢
  have hbel : Below B w w1 := (Below.refl _ _).grown hgrow (by omega) (fun k h => by cases h)
  have HBW : Hid (B = w.heap.size) := hB
  clear hgrow q hB
  go_loopw [4] (fun i wx => ∃ k : Nat, k ≤ bs.length ∧ i = .int .i64 k ∧ wx.ownsRow B 5 1 (.slice (some ⟨B, 0, none⟩) bs.length bs.length) bs.length (bc (half bs k)) ∧ Below B w wx) (fun i _ => bs.length - (intOf i).toNat)
  case atStart => exact ⟨0, Nat.zero_le _, rfl, half_zero hown, hbel⟩
  case round =>
    clear hown hbel
    obtain ⟨k, hk, rfl, hown, hbel⟩ := hrel
    by_cases hlt : k < bs.length
    · have hcx : wr.cell? ⟨b, off + k, none⟩ = some (.int .u8 (bs[k].toNat : Int)) := (hbel.cell (by exact HBW.out ▸ hb)).trans (hc k hlt)
      have hfz := hown.frozenAt k
      obtain ⟨x0, hck⟩ := half_cell hown k hlt
      go_wp2
      go_roundw
      case rel => exact ⟨k + 1, by omega, by go_num, half_step hlt (hown.stored k _).1, hbel.setCell (Nat.le_refl _) _⟩
      case measure => simp [intOf]; omega
    · have HE : Hid (half bs k = bs) := by
        have : k = bs.length := by omega
        show half bs k = bs; rw [this]; exact half_end bs
      go_wp2
      go_ret
      have hBW := HBW.out
      rw [HE.out] at hown
      subst hBW
      exact ⟨rfl, hown, hbel⟩

/-- An empty slice that is not nil: of its address nothing is known. -/
theorem clone_empty (x : Addr) (cap : Nat) (w : World) :
    Calls Trym.prog 13 #[.slice (some x) 0 cap] w fun e w' => e = .returned (.slice (some ⟨w.heap.size, 0, none⟩) 0 0) ∧ w'.ownsRow w.heap.size 5 1 (.slice (some ⟨w.heap.size, 0, none⟩) 0 0) 0 [] ∧ Below w.heap.size w w' := by
  obtain ⟨i0, hi, hz0, hz1, hz2⟩ := info_parts Trym.info5
  have q := q29
  go_enter Trym.func13, Trym.ntmps13
  go_wp2_with (at_make; refine wpList_make_full _ rfl _ _ 29 rfl w.heap.size 5 i0 (.int .u8 0) 1 Trym.underlying29 hi hz0 hz1 _ _ _ _ 0 rfl rfl rfl rfl (by omega) (by unfold maxLen; omega) (Nat.le_refl _) ?_; intro w1 hown hgrow)
  have hbel : Below w.heap.size w w1 := (Below.refl _ _).grown hgrow (Nat.le_refl _) (fun k h => by cases h)
  clear hgrow q
  refine wp_loop_rounds 1 ?_
  rw [rounds_succ]
  go_wp2
  go_ret
  exact ⟨rfl, half_zero (bs := []) hown, hbel⟩

/-- What a clone leaves: the bytes in a row of their own, as long as they are (or nil). -/
structure Cloned (w w' : World) (v' : Value) (bs : List UInt8) : Prop where
  own : w'.ownsRow w.heap.size 5 1 v' bs.length (bc bs)
  below : Below w.heap.size w w'
  shape : (v' = .slice none 0 0 ∧ bs = []) ∨ v' = .slice (some ⟨w.heap.size, 0, none⟩) bs.length bs.length

/-- A slice of bytes that can be read: nil; empty; or a row of cells below the heap's end. -/
def Bytes (w : World) (a : Option Addr) (cap : Nat) (bs : List UInt8) : Prop :=
  (a = none ∧ cap = 0 ∧ bs = []) ∨ (∃ x, a = some x ∧ bs = []) ∨
  ∃ b off, a = some ⟨b, off, none⟩ ∧ b < w.heap.size ∧ ∀ i (h : i < bs.length), w.cell? ⟨b, off + i, none⟩ = some (.int .u8 (bs[i].toNat : Int))

theorem clone_any (a : Option Addr) (cap : Nat) (bs : List UInt8) (w : World) (hl : bs.length ≤ 1000000) (h : Bytes w a cap bs) :
    Calls Trym.prog 13 #[.slice a bs.length cap] w fun e w' => ∃ v', e = .returned v' ∧ Cloned w w' v' bs := by
  rcases h with ⟨rfl, rfl, rfl⟩ | ⟨x, rfl, rfl⟩ | ⟨b, off, rfl, hb, hc⟩
  · refine (clone_nil w).mono ?_
    rintro e w' ⟨rfl, rfl⟩
    exact ⟨_, rfl, World.ownsRow_nil _ _ _ _, Below.refl _ _, .inl ⟨rfl, rfl⟩⟩
  · refine (clone_empty x cap w).mono ?_
    rintro e w' ⟨rfl, h1, h2⟩
    exact ⟨_, rfl, h1, h2, .inr rfl⟩
  · refine (clone_row b off cap bs w hl hb hc).mono ?_
    rintro e w' ⟨rfl, h1, h2⟩
    exact ⟨_, rfl, h1, h2, .inr rfl⟩

/-- A row that the call owns can be read. -/
theorem own_bytes {w : World} {base n : Nat} {a : Option Addr} {cap : Nat} {bs : List UInt8} (h : w.ownsRow base 5 1 (.slice a n cap) bs.length (bc bs)) : n = bs.length ∧ Bytes w a cap bs := by
  rcases h.2 with ⟨h1, h2⟩ | ⟨g, cap', cur, h1, hb, hg, hle, hm, hs, ht⟩
  · simp only [Value.slice.injEq] at h1
    obtain ⟨rfl, rfl, rfl⟩ := h1
    have : bs = [] := List.length_eq_zero_iff.1 h2
    subst this
    exact ⟨rfl, .inl ⟨rfl, rfl, rfl⟩⟩
  · simp only [Value.slice.injEq] at h1
    obtain ⟨rfl, rfl, rfl⟩ := h1
    refine ⟨rfl, .inr (.inr ⟨g, 0, rfl, heap_lt hg, fun i hi => ?_⟩)⟩
    rw [h.cellAt _ (by omega)]; simp [bc, hi]

/-- Of an owned row that is not empty: its shape and its cells. -/
theorem own_shape {w : World} {base : Nat} {v : Value} {bs : List UInt8} (h : w.ownsRow base 5 1 v bs.length (bc bs)) (hp : 0 < bs.length) :
    ∃ g cap, v = .slice (some ⟨g, 0, none⟩) bs.length cap ∧ ∀ i (hi : i < bs.length), w.cell? ⟨g, i, none⟩ = some (.int .u8 (bs[i].toNat : Int)) := by
  rcases h.2 with ⟨h1, h2⟩ | ⟨g, cap', cur, rfl, hb, hg, hle, hm, hs, ht⟩
  · omega
  · refine ⟨g, cap', rfl, fun i hi => ?_⟩
    rw [h.cellAt _ (by omega)]; simp [bc, hi]

theorem own_below {w w' : World} {base : Nat} {v : Value} {n : Nat} {xs : List Value} (h : w.ownsRow base 5 1 v n xs) (hb : Below w.heap.size w w') : w'.ownsRow base 5 1 v n xs := by
  refine ⟨h.1, ?_⟩
  rcases h.2 with h2 | ⟨g, cap, cur, hv, hg, hh, r⟩
  · exact .inl h2
  · exact .inr ⟨g, cap, cur, hv, hg, (hb.block g (heap_lt hh)).trans hh, r⟩
end Go.Proofs.Qxb6000021aMods
