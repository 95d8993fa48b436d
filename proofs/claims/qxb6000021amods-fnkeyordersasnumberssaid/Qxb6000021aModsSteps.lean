/-
  STEP LEMMAS FOR THE WALKS of readNumber and zzb1ModelRead: how the plain functions go on at one place of the text. No Go in sight.
-/
import Derived.Test.Qxb6000021aModsPlain
namespace Go.Proofs.Qxb6000021aMods.Pl

theorem drop_at (s : ByteArray) (k : Nat) (h : k < s.size) : s.data.toList.drop k = s[k] :: s.data.toList.drop (k + 1) := by
  rw [List.drop_eq_getElem_cons (by simpa using h)]; rfl
theorem drop_end (s : ByteArray) (k : Nat) (h : ¬ k < s.size) : s.data.toList.drop k = [] := List.drop_eq_nil_of_le (by simpa using h)
theorem drop_nil_iff (s : ByteArray) (k : Nat) : s.data.toList.drop k = [] ↔ s.size ≤ k := by
  rw [List.drop_eq_nil_iff]; simp

/-- The text from k on. -/
def fr (s : ByteArray) (k : Nat) : List UInt8 := s.data.toList.drop k
theorem fr_at (s : ByteArray) (k : Nat) (h : k < s.size) : fr s k = s[k] :: fr s (k + 1) := drop_at s k h
theorem fr_end (s : ByteArray) (k : Nat) (h : ¬ k < s.size) : fr s k = [] := drop_end s k h
theorem fr_drop (s : ByteArray) (k n : Nat) : (fr s k).drop n = fr s (k + n) := by unfold fr; rw [List.drop_drop]

theorem sgn_plus (s : ByteArray) (k : Nat) (h : k < s.size) (h1 : (s[k].toNat : Int) = 43) : sgnLen (fr s k) = 1 ∧ sgnNeg (fr s k) = false := by
  rw [fr_at s k h]
  exact ⟨if_pos (.inl (by omega)), by simp only [sgnNeg]; exact beq_eq_false_iff_ne.2 (by omega)⟩
theorem sgn_minus (s : ByteArray) (k : Nat) (h : k < s.size) (h1 : (s[k].toNat : Int) = 45) : sgnLen (fr s k) = 1 ∧ sgnNeg (fr s k) = true := by
  rw [fr_at s k h]
  exact ⟨if_pos (.inr (by omega)), by simp only [sgnNeg]; exact beq_iff_eq.2 (by omega)⟩
theorem sgn_other (s : ByteArray) (k : Nat) (h : k < s.size) (h1 : ¬ (s[k].toNat : Int) = 43) (h2 : ¬ (s[k].toNat : Int) = 45) : sgnLen (fr s k) = 0 ∧ sgnNeg (fr s k) = false := by
  rw [fr_at s k h]
  exact ⟨if_neg (by omega), by simp only [sgnNeg]; exact beq_eq_false_iff_ne.2 (by omega)⟩
theorem sgn_nil (s : ByteArray) (k : Nat) (h : ¬ k < s.size) : sgnLen (fr s k) = 0 ∧ sgnNeg (fr s k) = false := by
  rw [fr_end s k h]; exact ⟨rfl, rfl⟩
theorem sgn_le (s : ByteArray) (k : Nat) (hk : k ≤ s.size) : k + sgnLen (fr s k) ≤ s.size := by
  by_cases h : k < s.size
  · rw [fr_at s k h]; simp only [sgnLen]; split <;> omega
  · rw [(sgn_nil s k h).1]; omega
theorem sgn_01 (l : List UInt8) : sgnLen l ≤ 1 := by
  cases l with
  | nil => exact Nat.zero_le _
  | cons c r => simp only [sgnLen]; split <;> omega

theorem rd_fr (s : ByteArray) : rd s = rdTail s (sgnNeg (fr s 0)) (sgnLen (fr s 0)) (mscan (fr s (sgnLen (fr s 0))) (sgnLen (fr s 0)) (-1) (-1) (-1)) := rfl

/-- What the mantissa's loop keeps of its places. -/
structure MB (st k : Nat) (p f l : Int) : Prop where
  b1 : -1 ≤ p
  b2 : p < k
  b3 : -1 ≤ f
  b4 : f ≤ l
  b5 : l < k
  b6 : f < 0 → l < 0
  b7 : st ≤ k
theorem MB.start (st : Nat) : MB st st (-1) (-1) (-1) := ⟨by omega, by omega, by omega, by omega, by omega, by omega, by omega⟩

theorem ms_pt {s : ByteArray} {k : Nat} {p f l : Int} (h : k < s.size) (h1 : (s[k].toNat : Int) = 46) (h2 : p < 0) : mscan (fr s k) k p f l = mscan (fr s (k + 1)) (k + 1) k f l := by
  rw [fr_at s k h, mscan, if_pos ⟨by omega, h2⟩]
theorem ms_out {s : ByteArray} {k : Nat} {p f l : Int} (h : k < s.size) (h1 : ¬ ((s[k].toNat : Int) = 46 ∧ p < 0)) (h2 : (s[k].toNat : Int) < 48 ∨ 57 < (s[k].toNat : Int)) : mscan (fr s k) k p f l = (k, p, f, l) := by
  rw [fr_at s k h, mscan, if_neg (by omega), if_pos (by omega)]
theorem ms_end {s : ByteArray} {k : Nat} {p f l : Int} (h : ¬ k < s.size) : mscan (fr s k) k p f l = (k, p, f, l) := by
  rw [fr_end s k h]; rfl
theorem ms_zero {s : ByteArray} {k : Nat} {p f l : Int} (h : k < s.size) (h1 : (s[k].toNat : Int) = 48) : mscan (fr s k) k p f l = mscan (fr s (k + 1)) (k + 1) p f l := by
  rw [fr_at s k h, mscan, if_neg (by omega), if_neg (by omega), if_pos (by omega)]
theorem ms_fst {s : ByteArray} {k : Nat} {p f l : Int} (h : k < s.size) (h1 : 48 < (s[k].toNat : Int)) (h2 : (s[k].toNat : Int) ≤ 57) (h3 : f < 0) : mscan (fr s k) k p f l = mscan (fr s (k + 1)) (k + 1) p k k := by
  rw [fr_at s k h, mscan, if_neg (by omega), if_neg (by omega), if_neg (by omega), if_pos h3]
theorem ms_dig {s : ByteArray} {k : Nat} {p f l : Int} (h : k < s.size) (h1 : 48 < (s[k].toNat : Int)) (h2 : (s[k].toNat : Int) ≤ 57) (h3 : ¬ f < 0) : mscan (fr s k) k p f l = mscan (fr s (k + 1)) (k + 1) p f k := by
  rw [fr_at s k h, mscan, if_neg (by omega), if_neg (by omega), if_neg (by omega), if_neg h3]

theorem es_out {s : ByteArray} {k : Nat} {e : Int} (h : k < s.size) (h1 : (s[k].toNat : Int) < 48 ∨ 57 < (s[k].toNat : Int)) : escan (fr s k) e = none := by
  rw [fr_at s k h, escan, if_pos (by omega)]
theorem es_end {s : ByteArray} {k : Nat} {e : Int} (h : ¬ k < s.size) : escan (fr s k) e = some e := by
  rw [fr_end s k h]; rfl
theorem es_add {s : ByteArray} {k : Nat} {e : Int} (h : k < s.size) (h1 : 48 ≤ (s[k].toNat : Int)) (h2 : (s[k].toNat : Int) ≤ 57) (h3 : e < 100000000) : escan (fr s k) e = escan (fr s (k + 1)) (e * 10 + ((s[k].toNat : Int) - 48)) := by
  rw [fr_at s k h, escan, if_neg (by omega), if_pos h3]
theorem es_skip {s : ByteArray} {k : Nat} {e : Int} (h : k < s.size) (h1 : 48 ≤ (s[k].toNat : Int)) (h2 : (s[k].toNat : Int) ≤ 57) (h3 : ¬ e < 100000000) : escan (fr s k) e = escan (fr s (k + 1)) e := by
  rw [fr_at s k h, escan, if_neg (by omega), if_neg h3]

theorem ea_short {s : ByteArray} {k : Nat} (h : ¬ k + sgnLen (fr s k) < s.size) : eafter (fr s k) = none := by
  unfold eafter; rw [fr_drop, fr_end s _ h, if_pos rfl]
theorem ea_none {s : ByteArray} {k : Nat} (h : k + sgnLen (fr s k) < s.size) (h2 : escan (fr s (k + sgnLen (fr s k))) 0 = none) : eafter (fr s k) = none := by
  unfold eafter; rw [fr_drop, if_neg (by rw [fr_at s _ h]; simp), h2]; rfl
theorem ea_some {s : ByteArray} {k : Nat} {e : Int} (h : k + sgnLen (fr s k) < s.size) (h2 : escan (fr s (k + sgnLen (fr s k))) 0 = some e) : eafter (fr s k) = some (if sgnNeg (fr s k) then -e else e) := by
  unfold eafter; rw [fr_drop, if_neg (by rw [fr_at s _ h]; simp), h2]; rfl

theorem ex_e {s : ByteArray} {k : Nat} (h : k < s.size) (h1 : (s[k].toNat : Int) = 101 ∨ (s[k].toNat : Int) = 69) : expo (fr s k) = eafter (fr s (k + 1)) := by
  rw [fr_at s k h, expo, if_pos (by omega)]
theorem ex_no {s : ByteArray} {k : Nat} (h : k < s.size) (h1 : ¬ (s[k].toNat : Int) = 101) (h2 : ¬ (s[k].toNat : Int) = 69) : expo (fr s k) = none := by
  rw [fr_at s k h, expo, if_neg (by omega)]
theorem ex_end {s : ByteArray} {k : Nat} (h : ¬ k < s.size) : expo (fr s k) = some 0 := by
  rw [fr_end s k h]; rfl

def isE : List UInt8 → Bool
  | [] => false
  | c :: _ => c.toNat == 101 || c.toNat == 69
theorem isE_yes {s : ByteArray} {k : Nat} (h : k < s.size) (h1 : (s[k].toNat : Int) = 101 ∨ (s[k].toNat : Int) = 69) : isE (fr s k) = true := by
  rw [fr_at s k h, isE]; simp; omega
theorem isE_no {s : ByteArray} {k : Nat} (h : k < s.size) (h1 : ¬ (s[k].toNat : Int) = 101) (h2 : ¬ (s[k].toNat : Int) = 69) : isE (fr s k) = false := by
  rw [fr_at s k h, isE]; simp; omega
theorem isE_end {s : ByteArray} {k : Nat} (h : ¬ k < s.size) : isE (fr s k) = false := by
  rw [fr_end s k h]; rfl
theorem isE_true {s : ByteArray} {k : Nat} (h : isE (fr s k) = true) : k < s.size ∧ expo (fr s k) = eafter (fr s (k + 1)) := by
  by_cases hk : k < s.size
  · refine ⟨hk, ex_e hk ?_⟩
    rw [fr_at s k hk, isE] at h; simp at h; omega
  · rw [isE_end hk] at h; cases h
theorem isE_false {s : ByteArray} {k : Nat} (h : ¬ isE (fr s k) = true) (hle : k ≤ s.size) : (k = s.size → expo (fr s k) = some 0) ∧ (¬ k = s.size → expo (fr s k) = none) := by
  refine ⟨fun e => ex_end (by omega), fun e => ?_⟩
  have hk : k < s.size := by omega
  rw [fr_at s k hk, isE] at h; simp at h
  exact ex_no hk (by omega) (by omega)
theorem sgn_nominus (s : ByteArray) (k : Nat) (h : k < s.size) (h2 : ¬ (s[k].toNat : Int) = 45) : sgnNeg (fr s k) = false := by
  rw [fr_at s k h]; simp only [sgnNeg]; exact beq_eq_false_iff_ne.2 (by omega)

def Bad : Num := (false, ByteArray.empty, 0, false)

theorem tail_bad {s : ByteArray} {neg : Bool} {st k : Nat} {p f l : Int} (h : k = st ∨ (k = st + 1 ∧ p = st)) : rdTail s neg st (k, p, f, l) = Bad := by
  unfold rdTail; rw [if_pos h]; rfl
theorem tail_none {s : ByteArray} {neg : Bool} {st k : Nat} {p f l : Int} (h : expo (fr s k) = none) : rdTail s neg st (k, p, f, l) = Bad := by
  unfold rdTail
  have h' : expo (s.data.toList.drop (k, p, f, l).1) = none := h
  rw [h']; split <;> rfl
theorem tail_some {s : ByteArray} {neg : Bool} {st k : Nat} {p f l e : Int} (h0 : ¬ (k = st ∨ (k = st + 1 ∧ p = st))) (h : expo (fr s k) = some e) : rdTail s neg st (k, p, f, l) = rdFin s neg k p f l e := by
  unfold rdTail
  have h' : expo (s.data.toList.drop (k, p, f, l).1) = some e := h
  rw [if_neg h0, h']

theorem fin_zero {s : ByteArray} {neg : Bool} {k : Nat} {p f l e : Int} (h : f < 0) : rdFin s neg k p f l e = (false, ByteArray.empty, 0, true) := by
  unfold rdFin; rw [if_pos h]
theorem fin_A {s : ByteArray} {neg : Bool} {k f l q : Nat} {p e : Int} (hq : (q : Int) = if p < 0 then (k : Int) else p) (h1 : f < q) (h2 : q < l) : rdFin s neg k p f l e =
    (neg, s.extract f q ++ s.extract (q + 1) (l + 1), e + q - f - 1, true) := by
  simp only [rdFin, ← hq]
  rw [if_neg (by omega), if_pos (by omega), if_pos (by omega), show ((q : Int) + 1).toNat = q + 1 from by omega, show ((l : Int) + 1).toNat = l + 1 from by omega]; rfl
theorem fin_B {s : ByteArray} {neg : Bool} {k f l q : Nat} {p e : Int} (hq : (q : Int) = if p < 0 then (k : Int) else p) (h1 : f < q) (h2 : ¬ q < l) : rdFin s neg k p f l e =
    (neg, s.extract f (l + 1), e + q - f - 1, true) := by
  simp only [rdFin, ← hq]
  rw [if_neg (by omega), if_neg (by omega), if_pos (by omega), show ((l : Int) + 1).toNat = l + 1 from by omega]; rfl
theorem fin_C {s : ByteArray} {neg : Bool} {k f l q : Nat} {p e : Int} (hq : (q : Int) = if p < 0 then (k : Int) else p) (h1 : ¬ f < q) : rdFin s neg k p f l e =
    (neg, s.extract f (l + 1), e + q - f, true) := by
  simp only [rdFin, ← hq]
  rw [if_neg (by omega), if_neg (by omega), if_neg (by omega), show ((l : Int) + 1).toNat = l + 1 from by omega]; rfl

end Go.Proofs.Qxb6000021aMods.Pl
