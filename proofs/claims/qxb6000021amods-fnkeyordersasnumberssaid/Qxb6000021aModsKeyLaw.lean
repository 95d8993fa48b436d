/-
  THE PLAIN LAW OF THE KEYS: compared byte by byte they stand as the numbers do. No Go in sight.
-/
import Derived.Test.Qxb6000021aModsLaw
namespace Go.Proofs.Qxb6000021aMods.Pl

/-- Byte by byte; the shorter first. -/
def cmpL : List UInt8 → List UInt8 → Int
  | [], [] => 0
  | [], _ :: _ => -1
  | _ :: _, [] => 1
  | a :: as, b :: bs => if a.toNat = b.toNat then cmpL as bs else if a.toNat < b.toNat then -1 else 1

/-- Digit by digit, the shorter padded by zeros: the first n places. -/
def cmpP : Nat → List UInt8 → List UInt8 → Int
  | 0, _, _ => 0
  | n + 1, a, b => if (a.headD 48).toNat = (b.headD 48).toNat then cmpP n a.tail b.tail else if (a.headD 48).toNat < (b.headD 48).toNat then -1 else 1

def cmpM (aD : List UInt8) (aE : Int) (bD : List UInt8) (bE : Int) : Int :=
  if aE = bE then cmpP (max aD.length bD.length) aD bD else if aE < bE then -1 else 1

def sgnOf (neg : Bool) (d : List UInt8) : Int := if d = [] then 0 else if neg then -1 else 1

def cmpN (aN : Bool) (aD : List UInt8) (aE : Int) (bN : Bool) (bD : List UInt8) (bE : Int) : Int :=
  if sgnOf aN aD = sgnOf bN bD then (if sgnOf aN aD = 0 then 0 else if sgnOf aN aD < 0 then -(cmpM aD aE bD bE) else cmpM aD aE bD bE)
  else if sgnOf aN aD < sgnOf bN bD then -1 else 1

def expB (ex : Int) : UInt8 := UInt8.ofNat (ex + 130).toNat
def comp (c : UInt8) : UInt8 := 105 - c
def keyT (neg : Bool) (d : List UInt8) (ex : Int) : List UInt8 :=
  if d = [] then [1] else if neg then [0, 255 - expB ex] ++ d.map comp ++ [58] else [2, expB ex] ++ d

/-- Empty, or the last digit is no zero. -/
def Lst (d : List UInt8) : Prop := d = [] ∨ ∃ R c, d = R ++ [c] ∧ c.toNat ≠ 48
theorem Lst.tail {a : UInt8} {d : List UInt8} (h : Lst (a :: d)) : Lst d := by
  rcases h with h | ⟨R, c, h, hc⟩
  · cases h
  · cases R with
    | nil => simp at h; exact .inl h.2
    | cons r R => simp at h; exact .inr ⟨R, c, h.2, hc⟩
theorem Lst.single {a : UInt8} (h : Lst [a]) : a.toNat ≠ 48 := by
  rcases h with h | ⟨R, c, h, hc⟩
  · cases h
  · cases R with
    | nil => simp at h; rw [h]; exact hc
    | cons r R => simp at h
theorem core_lst {d : List UInt8} (h : Core d) : Lst d := .inr h.2

theorem pad_zero : ∀ n, cmpP n [] [] = 0
  | 0 => rfl
  | n + 1 => by rw [cmpP, if_pos rfl]; exact pad_zero n
theorem pad_left : ∀ (n : Nat) (b : UInt8) (L : List UInt8), Dg (b :: L) → Lst (b :: L) → L.length < n → cmpP n [] (b :: L) = -1
  | 0, _, _, _, _, h => by omega
  | n + 1, b, L, hd, hl, h => by
    have hb := hd.head
    rw [cmpP]
    by_cases e : b.toNat = 48
    · rw [if_pos (by show (48 : UInt8).toNat = b.toNat; rw [e]; rfl)]
      match L, hd, hl, h with
      | [], hd, hl, h => exact absurd e hl.single
      | c :: L, hd, hl, h => exact pad_left n c L hd.tail hl.tail (by simp at h; omega)
    · have e48 : (List.headD ([] : List UInt8) 48).toNat = 48 := rfl
      have eb : ((b :: L).headD 48).toNat = b.toNat := rfl
      rw [e48, eb, if_neg (by omega), if_pos (by omega)]
theorem pad_right : ∀ (n : Nat) (b : UInt8) (L : List UInt8), Dg (b :: L) → Lst (b :: L) → L.length < n → cmpP n (b :: L) [] = 1
  | 0, _, _, _, _, h => by omega
  | n + 1, b, L, hd, hl, h => by
    have hb := hd.head
    rw [cmpP]
    by_cases e : b.toNat = 48
    · rw [if_pos (by show b.toNat = (48 : UInt8).toNat; rw [e]; rfl)]
      match L, hd, hl, h with
      | [], hd, hl, h => exact absurd e hl.single
      | c :: L, hd, hl, h => exact pad_right n c L hd.tail hl.tail (by simp at h; omega)
    · have e48 : (List.headD ([] : List UInt8) 48).toNat = 48 := rfl
      have eb : ((b :: L).headD 48).toNat = b.toNat := rfl
      rw [e48, eb, if_neg (by omega), if_neg (by omega)]

theorem cmp_pos : ∀ (d e : List UInt8) (n : Nat), Dg d → Dg e → Lst d → Lst e → d.length ≤ n → e.length ≤ n → cmpL d e = cmpP n d e
  | [], [], n, _, _, _, _, _, _ => by rw [pad_zero]; rfl
  | [], b :: bs, n, _, h2, _, l2, _, n2 => by rw [pad_left n b bs h2 l2 (by simp at n2; omega)]; rfl
  | a :: as, [], n, h1, _, l1, _, n1, _ => by rw [pad_right n a as h1 l1 (by simp at n1; omega)]; rfl
  | a :: as, b :: bs, 0, _, _, _, _, n1, _ => by simp at n1
  | a :: as, b :: bs, n + 1, h1, h2, l1, l2, n1, n2 => by
    rw [cmpL, cmpP, cmp_pos as bs n h1.tail h2.tail l1.tail l2.tail (by simpa using n1) (by simpa using n2)]; rfl

theorem comp_nat {c : UInt8} (h : 48 ≤ c.toNat ∧ c.toNat ≤ 57) : (comp c).toNat = 105 - c.toNat := by
  unfold comp
  rw [UInt8.toNat_sub_of_le]
  · rfl
  · rw [UInt8.le_iff_toNat_le]; exact Nat.le_trans h.2 (by decide)

theorem cmp_neg : ∀ (d e : List UInt8) (n : Nat), Dg d → Dg e → Lst d → Lst e → d.length ≤ n → e.length ≤ n → cmpL (d.map comp ++ [58]) (e.map comp ++ [58]) = -(cmpP n d e)
  | [], [], n, _, _, _, _, _, _ => by rw [pad_zero]; rfl
  | [], b :: bs, n, _, h2, _, l2, _, n2 => by
    rw [pad_left n b bs h2 l2 (by simp at n2; omega)]
    have hb := h2.head
    have e := comp_nat hb
    show cmpL [58] (comp b :: (bs.map comp ++ [58])) = _
    rw [cmpL, e, if_neg (show ¬ (58 : UInt8).toNat = 105 - b.toNat from by show ¬ 58 = _; omega), if_neg (show ¬ (58 : UInt8).toNat < 105 - b.toNat from by show ¬ 58 < _; omega)]; rfl
  | a :: as, [], n, h1, _, l1, _, n1, _ => by
    rw [pad_right n a as h1 l1 (by simp at n1; omega)]
    have ha := h1.head
    have e := comp_nat ha
    show cmpL (comp a :: (as.map comp ++ [58])) [58] = _
    rw [cmpL, e, if_neg (show ¬ 105 - a.toNat = (58 : UInt8).toNat from by show ¬ _ = 58; omega), if_pos (show 105 - a.toNat < (58 : UInt8).toNat from by show _ < 58; omega)]
  | a :: as, b :: bs, 0, _, _, _, _, n1, _ => by simp at n1
  | a :: as, b :: bs, n + 1, h1, h2, l1, l2, n1, n2 => by
    have ha := h1.head
    have hb := h2.head
    have ih := cmp_neg as bs n h1.tail h2.tail l1.tail l2.tail (by simpa using n1) (by simpa using n2)
    show cmpL (comp a :: (as.map comp ++ [58])) (comp b :: (bs.map comp ++ [58])) = _
    rw [cmpL, comp_nat ha, comp_nat hb, ih, cmpP]
    have ea : ((a :: as).headD 48).toNat = a.toNat := rfl
    have eb : ((b :: bs).headD 48).toNat = b.toNat := rfl
    rw [ea, eb]
    by_cases e : a.toNat = b.toNat
    · rw [if_pos (by omega), if_pos e]; rfl
    · rw [if_neg (by omega), if_neg e]
      by_cases l : a.toNat < b.toNat
      · rw [if_neg (by omega), if_pos l]; rfl
      · rw [if_pos (by omega), if_neg l]

theorem exp_nat {ex : Int} (h1 : -130 ≤ ex) (h2 : ex ≤ 125) : (expB ex).toNat = (ex + 130).toNat := by
  unfold expB; rw [UInt8.toNat_ofNat']; omega
theorem nexp_nat {ex : Int} (h1 : -130 ≤ ex) (h2 : ex ≤ 125) : (255 - expB ex).toNat = 255 - (ex + 130).toNat := by
  rw [UInt8.toNat_sub_of_le, exp_nat h1 h2]
  · rfl
  · rw [UInt8.le_iff_toNat_le, exp_nat h1 h2]; show _ ≤ 255; omega

/-- In the domain of the keys: zero, or canonical within DynamoDB's range. -/
def InDom (d : List UInt8) (ex : Int) : Prop := d = [] ∨ (Dg d ∧ Core d ∧ -130 ≤ ex ∧ ex ≤ 125)

theorem cmpL_head {a b : UInt8} {as bs : List UInt8} {x y : Nat} (ha : a.toNat = x) (hb : b.toNat = y) : cmpL (a :: as) (b :: bs) = if x = y then cmpL as bs else if x < y then -1 else 1 := by
  rw [cmpL, ha, hb]

/-- THE LAW. -/
theorem key_cmp {aN bN : Bool} {aD bD : List UInt8} {aE bE : Int} (ha : InDom aD aE) (hb : InDom bD bE) : cmpL (keyT aN aD aE) (keyT bN bD bE) = cmpN aN aD aE bN bD bE := by
  unfold keyT cmpN sgnOf
  rcases ha with rfl | ⟨a1, a2, a3, a4⟩
  · rcases hb with rfl | ⟨b1, b2, b3, b4⟩
    · rfl
    · have hne : bD ≠ [] := by obtain ⟨⟨c, R, rfl, _⟩, _⟩ := b2; simp
      rw [if_pos rfl, if_pos rfl, if_neg hne, if_neg hne]
      cases bN
      · exact cmpL_head (x := 1) (y := 2) rfl rfl
      · exact cmpL_head (x := 1) (y := 0) rfl rfl
  · have hna : aD ≠ [] := by obtain ⟨⟨c, R, rfl, _⟩, _⟩ := a2; simp
    rw [if_neg hna, if_neg hna]
    rcases hb with rfl | ⟨b1, b2, b3, b4⟩
    · rw [if_pos rfl, if_pos rfl]
      cases aN
      · exact cmpL_head (x := 2) (y := 1) rfl rfl
      · exact cmpL_head (x := 0) (y := 1) rfl rfl
    · have hnb : bD ≠ [] := by obtain ⟨⟨c, R, rfl, _⟩, _⟩ := b2; simp
      rw [if_neg hnb, if_neg hnb]
      cases aN <;> cases bN
      · show cmpL (2 :: expB aE :: aD) (2 :: expB bE :: bD) = cmpM aD aE bD bE
        rw [cmpL_head (x := 2) (y := 2) rfl rfl, if_pos rfl, cmpL_head (exp_nat a3 a4) (exp_nat b3 b4), cmp_pos aD bD (max aD.length bD.length) a1 b1 (core_lst a2) (core_lst b2) (Nat.le_max_left _ _) (Nat.le_max_right _ _)]
        unfold cmpM
        by_cases e : aE = bE
        · rw [if_pos (by rw [e]), if_pos e]
        · rw [if_neg (by omega), if_neg e]
          by_cases l : aE < bE
          · rw [if_pos (by omega), if_pos l]
          · rw [if_neg (by omega), if_neg l]
      · exact cmpL_head (x := 2) (y := 0) rfl rfl
      · exact cmpL_head (x := 0) (y := 2) rfl rfl
      · show cmpL (0 :: (255 - expB aE) :: (aD.map comp ++ [58])) (0 :: (255 - expB bE) :: (bD.map comp ++ [58])) = -(cmpM aD aE bD bE)
        rw [cmpL_head (x := 0) (y := 0) rfl rfl, if_pos rfl, cmpL_head (nexp_nat a3 a4) (nexp_nat b3 b4), cmp_neg aD bD (max aD.length bD.length) a1 b1 (core_lst a2) (core_lst b2) (Nat.le_max_left _ _) (Nat.le_max_right _ _)]
        unfold cmpM
        by_cases e : aE = bE
        · rw [if_pos (by rw [e]), if_pos e]
        · rw [if_neg (by omega), if_neg e]
          by_cases l : aE < bE
          · rw [if_neg (by omega), if_pos l]; rfl
          · rw [if_pos (by omega), if_neg l]

end Go.Proofs.Qxb6000021aMods.Pl
