/-
  THE PLAIN LAW: 'rd' and 'md' answer alike; what a text of the grammar reads as. No Go in sight.
-/
import Derived.Test.Qxb6000021aModsModel
namespace Go.Proofs.Qxb6000021aMods.Pl

/-- Zeros. -/
abbrev zs (n : Nat) : List UInt8 := List.replicate n 48

theorem is48 {c : UInt8} (h : c.toNat = 48) : c = 48 := UInt8.toNat_inj.1 (by rw [h]; rfl)

theorem lead (d : List UInt8) : ∃ z r, d = zs z ++ r ∧ (r = [] ∨ ∃ c r', r = c :: r' ∧ c.toNat ≠ 48) := by
  induction d with
  | nil => exact ⟨0, [], rfl, .inl rfl⟩
  | cons c d ih =>
    by_cases h : c.toNat = 48
    · obtain ⟨z, r, hd, hr⟩ := ih
      exact ⟨z + 1, r, by rw [is48 h, hd]; rfl, hr⟩
    · exact ⟨0, c :: d, rfl, .inr ⟨c, d, rfl, h⟩⟩

/-- Every digit string is zeros, or zeros around a core. -/
theorem zdec (d : List UInt8) : (∃ n, d = zs n) ∨ ∃ z D y, d = zs z ++ D ++ zs y ∧ Core D := by
  obtain ⟨z, r, hd, hr⟩ := lead d
  rcases hr with rfl | ⟨c, r', rfl, hc⟩
  · exact .inl ⟨z, by simpa using hd⟩
  · obtain ⟨y, q, hq, hr2⟩ := lead (c :: r').reverse
    have hq2 : c :: r' = q.reverse ++ zs y := by
      have := congrArg List.reverse hq
      simpa using this
    rcases hr2 with rfl | ⟨c2, q', rfl, hc2⟩
    · exfalso
      have h1 : c ∈ zs y := by
        have : c :: r' = zs y := by simpa using hq2
        rw [← this]; exact List.mem_cons_self
      rw [(List.mem_replicate.1 h1).2] at hc
      exact hc rfl
    · refine .inr ⟨z, (c2 :: q').reverse, y, by rw [hd, hq2, List.append_assoc], ?_, q'.reverse, c2, by simp, hc2⟩
      cases hh : (c2 :: q').reverse with
      | nil => simp at hh
      | cons a b =>
        rw [hh] at hq2
        have : c = a := by simpa using congrArg List.head? hq2
        exact ⟨a, b, rfl, this ▸ hc⟩

theorem lz_zeros (z : Nat) (r : List UInt8) : lz (zs z ++ r) = z + lz r := by
  induction z with
  | zero => simp
  | succ z ih => rw [zs, List.replicate_succ, List.cons_append, lz, if_pos (by decide)]; rw [zs] at ih; rw [ih]; omega
theorem lz_all (z : Nat) : lz (zs z) = z := by have := lz_zeros z []; simpa [lz] using this
theorem lz_core {z y : Nat} {D : List UInt8} (h : Core D) : lz (zs z ++ D ++ zs y) = z := by
  obtain ⟨⟨c, R, rfl, hc⟩, _⟩ := h
  rw [List.append_assoc, lz_zeros, List.cons_append, lz, if_neg hc]; rfl

theorem tend_of (d : List UInt8) (m : Nat) (hm : m ≠ 0) (h1 : (d.getD (m - 1) 0).toNat ≠ 48) : ∀ t, m ≤ t → (∀ i, m ≤ i → i < t → (d.getD i 0).toNat = 48) → tend d t = m := by
  intro t
  induction t with
  | zero => intro h; omega
  | succ t ih =>
    intro h h2
    rw [tend]
    by_cases e : m = t + 1
    · subst e; rw [if_neg (by simpa using h1)]
    · rw [if_pos (h2 t (by omega) (by omega))]
      exact ih (by omega) (fun i a b => h2 i a (by omega))
theorem tend_core {z y : Nat} {D : List UInt8} (h : Core D) : tend (zs z ++ D ++ zs y) (zs z ++ D ++ zs y).length = z + D.length := by
  obtain ⟨⟨_, _, hD, _⟩, R, c, rfl, hc⟩ := h
  refine tend_of _ _ (by simp) ?_ _ (by simp) ?_
  · have e : (zs z ++ (R ++ [c]) ++ zs y).getD (z + (R ++ [c]).length - 1) 0 = c := by
      rw [List.getD_eq_getElem?_getD, List.append_assoc, List.getElem?_append_right (by simp), List.append_assoc, List.getElem?_append_right (by simp)]
      simp
    rw [e]; exact hc
  · intro i h1 h2
    have e : (zs z ++ (R ++ [c]) ++ zs y).getD i 0 = 48 := by
      rw [List.getD_eq_getElem?_getD, List.getElem?_append_right (by simp at h1 ⊢; omega)]
      simp at h1 h2 ⊢
      rw [List.getElem?_replicate, if_pos (by omega)]; rfl
    rw [e]; rfl
theorem cut_core {z y : Nat} {D : List UInt8} (h : Core D) : cutZ (zs z ++ D ++ zs y) = D := by
  unfold cutZ
  rw [tend_core h, lz_core h]
  rw [List.take_append_of_le_length (by simp), List.take_of_length_le (by simp), List.drop_append_of_le_length (by simp), List.drop_of_length_le (by simp)]; rfl
theorem core_pos {D : List UInt8} (h : Core D) : 0 < D.length := by
  obtain ⟨⟨c, R, rfl, hc⟩, _⟩ := h; simp

theorem mdFin_zeros (neg : Bool) (m n : Nat) (e : Int) : mdFin neg (zs m) n e = (false, ByteArray.empty, 0, true) := by
  unfold mdFin; rw [if_pos (by rw [lz_all]; simp)]
theorem mdFin_core (neg : Bool) {z y : Nat} {D : List UInt8} (h : Core D) (n : Nat) (e : Int) : mdFin neg (zs z ++ D ++ zs y) n e = (neg, ⟨D.toArray⟩, (n : Int) - z - 1 + e, true) := by
  unfold mdFin; rw [lz_core h, cut_core h, if_neg (by have := core_pos h; simp only [List.length_append, List.length_replicate]; omega)]

theorem ext_mid {s : ByteArray} {A X Y : List UInt8} {a b : Nat} (h : s.data.toList = A ++ (X ++ Y)) (ha : a = A.length) (hb : b = A.length + X.length) : s.extract a b = ⟨X.toArray⟩ := by
  have e : (s.extract a b).data.toList = X := by
    rw [ByteArray.data_extract, Array.toList_extract]
    rw [List.extract_eq_take_drop, h, ha, List.drop_left, hb, show A.length + X.length - A.length = X.length from by omega, List.take_left]
  apply ByteArray.ext
  apply Array.ext'
  exact e
theorem app_mk (X Y : List UInt8) : (⟨X.toArray⟩ : ByteArray) ++ (⟨Y.toArray⟩ : ByteArray) = ⟨(X ++ Y).toArray⟩ := by
  apply ByteArray.ext
  rw [ByteArray.data_append]; simp


theorem rdFin_eq {s : ByteArray} {neg : Bool} {st k : Nat} {p e : Int} {pre I F M R : List UInt8} (hT : s.data.toList = pre ++ (I ++ (M ++ R))) (hpre : pre.length = st)
    (hM : (M = [] ∧ F = []) ∨ M = 46 :: F) (hq : ((st + I.length : Nat) : Int) = if p < 0 then (k : Int) else p) :
    rdFin s neg k p (fstN F (st + I.length + 1) (fstN I st (-1))) (lstN F (st + I.length + 1) (lstN I st (-1))) e = mdFin neg (I ++ F) I.length e := by
  rcases zdec (I ++ F) with ⟨m, hm⟩ | ⟨z, D, y, hd, hD⟩
  · obtain ⟨_, hI, hF⟩ := List.append_eq_replicate_iff.1 hm
    rw [hm, mdFin_zeros]
    have e1 : fstN F (st + I.length + 1) (fstN I st (-1)) = -1 := by rw [hI, hF, fst_all, fst_all]
    rw [e1]; exact fin_zero (by omega)
  · rw [hd, mdFin_core neg hD]
    have hDp := core_pos hD
    have caseA : ∀ y1 y2, I = zs z ++ D ++ zs y1 → F = zs y2 → rdFin s neg k p (fstN F (st + I.length + 1) (fstN I st (-1))) (lstN F (st + I.length + 1) (lstN I st (-1))) e = (neg, ⟨D.toArray⟩, (I.length : Int) - z - 1 + e, true) := by
      intro y1 y2 hI hF
      have hIl : I.length = z + D.length + y1 := by rw [hI]; simp; omega
      have e1 : fstN F (st + I.length + 1) (fstN I st (-1)) = ((st + z : Nat) : Int) := by rw [hF, fst_all, hI, fst_core _ _ _ _ hD]
      have e2 : lstN F (st + I.length + 1) (lstN I st (-1)) = ((st + z + D.length - 1 : Nat) : Int) := by rw [hF, lst_all, hI, lst_core _ _ _ _ _ hD]; omega
      rw [e1, e2, fin_B hq (by omega) (by omega)]
      have e3 : s.extract (st + z) (st + z + D.length - 1 + 1) = ⟨D.toArray⟩ := by
        refine ext_mid (A := pre ++ zs z) (X := D) (Y := zs y1 ++ (M ++ R)) ?_ ?_ ?_
        · rw [hT, hI]; simp [List.append_assoc]
        · simp [hpre]
        · simp [hpre]; omega
      rw [e3]
      refine Prod.ext rfl (Prod.ext rfl (Prod.ext ?_ rfl))
      simp only; omega
    have caseC : ∀ n1 n2, I = zs n1 → z = n1 + n2 → F = zs n2 ++ D ++ zs y → rdFin s neg k p (fstN F (st + I.length + 1) (fstN I st (-1))) (lstN F (st + I.length + 1) (lstN I st (-1))) e = (neg, ⟨D.toArray⟩, (I.length : Int) - z - 1 + e, true) := by
      intro n1 n2 hI hz hF
      have hIl : I.length = n1 := by rw [hI]; simp
      have hM' : M = 46 :: F := by
        rcases hM with ⟨_, h⟩ | h
        · rw [h] at hF; have := congrArg List.length hF; simp at this; omega
        · exact h
      have e1 : fstN F (st + I.length + 1) (fstN I st (-1)) = ((st + I.length + 1 + n2 : Nat) : Int) := by rw [hF, show fstN I st (-1) = -1 from by rw [hI, fst_all], fst_core _ _ _ _ hD]
      have e2 : lstN F (st + I.length + 1) (lstN I st (-1)) = ((st + I.length + 1 + n2 + D.length - 1 : Nat) : Int) := by rw [hF, lst_core _ _ _ _ _ hD]; omega
      rw [e1, e2, fin_C hq (by omega)]
      have e3 : s.extract (st + I.length + 1 + n2) (st + I.length + 1 + n2 + D.length - 1 + 1) = ⟨D.toArray⟩ := by
        refine ext_mid (A := pre ++ (I ++ (46 :: zs n2))) (X := D) (Y := zs y ++ R) ?_ ?_ ?_
        · rw [hT, hM', hF]; simp [List.append_assoc]
        · simp [hpre]; omega
        · simp [hpre]; omega
      rw [e3]
      refine Prod.ext rfl (Prod.ext rfl (Prod.ext ?_ rfl))
      simp only; omega
    have caseB : ∀ D1 D2, D = D1 ++ D2 → D1 ≠ [] → D2 ≠ [] → I = zs z ++ D1 → F = D2 ++ zs y → rdFin s neg k p (fstN F (st + I.length + 1) (fstN I st (-1))) (lstN F (st + I.length + 1) (lstN I st (-1))) e = (neg, ⟨D.toArray⟩, (I.length : Int) - z - 1 + e, true) := by
      intro D1 D2 hDD h1 h2 hI hF
      have l1 : 0 < D1.length := List.length_pos_iff.2 h1
      have l2 : 0 < D2.length := List.length_pos_iff.2 h2
      have hIl : I.length = z + D1.length := by rw [hI]; simp
      have hM' : M = 46 :: F := by
        rcases hM with ⟨_, h⟩ | h
        · rw [h] at hF; have := congrArg List.length hF; simp at this; omega
        · exact h
      obtain ⟨⟨c, A, hcA, hc⟩, A2, c2, hcA2, hc2⟩ := hD
      have e1 : fstN F (st + I.length + 1) (fstN I st (-1)) = ((st + z : Nat) : Int) := by
        have : fstN I st (-1) = ((st + z : Nat) : Int) := by
          rw [hI]; refine fst_core' _ _ _ ?_
          match D1, h1, hDD with
          | a :: D1', _, hDD => rw [hcA] at hDD; simp at hDD; exact ⟨a, D1', rfl, by rw [← hDD.1]; exact hc⟩
        rw [this]; exact fst_set _ _ _ (by omega)
      have e2 : lstN F (st + I.length + 1) (lstN I st (-1)) = ((st + I.length + 1 + D2.length - 1 : Nat) : Int) := by
        rw [hF, lst_core' _ _ _ _ ?_]
        · omega
        · have hr : D2 = D2.dropLast ++ [D2.getLast h2] := (List.dropLast_concat_getLast h2).symm
          refine ⟨_, _, hr, ?_⟩
          have : D2.getLast h2 = c2 := by
            have e := congrArg List.getLast? (hDD.symm.trans hcA2)
            rw [List.getLast?_append, List.getLast?_eq_some_getLast h2] at e
            simpa using e
          rw [this]; exact hc2
      rw [e1, e2, fin_A hq (by omega) (by omega)]
      have e3 : s.extract (st + z) (st + I.length) = ⟨D1.toArray⟩ := by
        refine ext_mid (A := pre ++ zs z) (X := D1) (Y := M ++ R) ?_ ?_ ?_
        · rw [hT, hI]; simp [List.append_assoc]
        · simp [hpre]
        · simp [hpre]; omega
      have e4 : s.extract (st + I.length + 1) (st + I.length + 1 + D2.length - 1 + 1) = ⟨D2.toArray⟩ := by
        refine ext_mid (A := pre ++ (I ++ [46])) (X := D2) (Y := zs y ++ R) ?_ ?_ ?_
        · rw [hT, hM', hF]; simp [List.append_assoc]
        · simp [hpre]; omega
        · simp [hpre]; omega
      rw [e3, e4, app_mk, ← hDD]
      refine Prod.ext rfl (Prod.ext rfl (Prod.ext ?_ rfl))
      simp only; omega
    rw [List.append_assoc] at hd
    rcases List.append_eq_append_iff.1 hd with ⟨a', h1, h2⟩ | ⟨c', h1, h2⟩
    · obtain ⟨hl, hI, ha⟩ := List.append_eq_replicate_iff.1 h1.symm
      exact caseC I.length a'.length hI hl.symm (by rw [h2, List.append_assoc]; exact congrArg (fun x => x ++ (D ++ zs y)) ha)
    · rcases List.append_eq_append_iff.1 h2 with ⟨a', h3, h4⟩ | ⟨D2, h3, h4⟩
      · obtain ⟨hl, ha, hF⟩ := List.append_eq_replicate_iff.1 h4.symm
        exact caseA a'.length F.length (by rw [h1, h3, List.append_assoc]; exact congrArg (fun x => zs z ++ (D ++ x)) ha) hF
      · by_cases n1 : c' = []
        · subst n1
          exact caseC z 0 (by simpa using h1) rfl (by rw [h4, h3]; simp)
        · by_cases n2 : D2 = []
          · subst n2
            exact caseA 0 y (by rw [h1, h3]; simp) (by rw [h4]; rfl)
          · exact caseB c' D2 h3 n1 n2 h1 h4


theorem dscan_dig (L R : List UInt8) : ∀ (j : Nat) (d : List UInt8) (n : Nat) (p : Bool), Dg L → dscan (L ++ R) j d n p = dscan R (j + L.length) (d ++ L) (if p then n else n + L.length) p := by
  induction L with
  | nil => intro j d n p _; cases p <;> simp
  | cons c L ih =>
    intro j d n p h
    have h1 := h.head
    rw [List.cons_append, dscan, if_neg (by omega), if_neg (by omega), ih _ _ _ _ h.tail]
    cases p <;> simp [Nat.add_assoc, Nat.add_comm 1]
theorem dscan_stop (R : List UInt8) (j : Nat) (d : List UInt8) (n : Nat) (p : Bool) (h : Stop (if p then 0 else -1) R) : dscan R j d n p = (j, d, n) := by
  cases R with
  | nil => rfl
  | cons c R =>
    rw [dscan, if_neg, if_pos h.1]
    rintro ⟨h1, rfl⟩
    exact h.2 ⟨h1, by simp⟩

theorem pre_dig (b : List UInt8) : ∃ I R, b = I ++ R ∧ Dg I ∧ (R = [] ∨ ∃ c r, R = c :: r ∧ (c.toNat < 48 ∨ 57 < c.toNat)) := by
  induction b with
  | nil => exact ⟨[], [], rfl, Dg.nil, .inl rfl⟩
  | cons c b ih =>
    by_cases h : 48 ≤ c.toNat ∧ c.toNat ≤ 57
    · obtain ⟨I, R, hb, hI, hR⟩ := ih
      exact ⟨c :: I, R, by rw [hb]; rfl, fun x hx => by rcases List.mem_cons.1 hx with rfl | h2; exact h; exact hI x h2, hR⟩
    · exact ⟨[], c :: b, rfl, Dg.nil, .inr ⟨c, b, rfl, by omega⟩⟩

/-- Every text behind the sign: digits; a point and digits, or none; what stops the scan. -/
theorem splitM (b : List UInt8) : ∃ I F M R, b = I ++ (M ++ R) ∧ Dg I ∧ Dg F ∧ ((M = [] ∧ F = [] ∧ Stop (-1) R) ∨ (M = 46 :: F ∧ Stop 0 R)) := by
  obtain ⟨I, R, hb, hI, hR⟩ := pre_dig b
  rcases hR with rfl | ⟨c, r, rfl, hc⟩
  · exact ⟨I, [], [], [], by simpa using hb, hI, Dg.nil, .inl ⟨rfl, rfl, trivial⟩⟩
  · by_cases h46 : c.toNat = 46
    · obtain ⟨F, R2, hr, hF, hR2⟩ := pre_dig r
      have hc46 : c = 46 := UInt8.toNat_inj.1 (by rw [h46]; rfl)
      refine ⟨I, F, 46 :: F, R2, by rw [hb, hc46, hr]; rfl, hI, hF, .inr ⟨rfl, ?_⟩⟩
      rcases hR2 with rfl | ⟨c2, r2, rfl, hc2⟩
      · trivial
      · exact ⟨hc2, by omega⟩
    · exact ⟨I, [], [], c :: r, hb, hI, Dg.nil, .inl ⟨rfl, rfl, hc, by omega⟩⟩

/-- What the two scans make of such a text. -/
theorem scans {b I F M R : List UInt8} (hb : b = I ++ (M ++ R)) (hI : Dg I) (hF : Dg F) (hM : (M = [] ∧ F = [] ∧ Stop (-1) R) ∨ (M = 46 :: F ∧ Stop 0 R)) (st : Nat) :
    (∃ p : Int, mscan b st (-1) (-1) (-1) = (st + I.length + M.length, p, fstN F (st + I.length + 1) (fstN I st (-1)), lstN F (st + I.length + 1) (lstN I st (-1))) ∧
      ((st + I.length : Nat) : Int) = (if p < 0 then ((st + I.length + M.length : Nat) : Int) else p) ∧ ((M = [] ∧ p = -1) ∨ (M ≠ [] ∧ p = ((st + I.length : Nat) : Int)))) ∧
    dscan b st [] 0 false = (st + I.length + M.length, I ++ F, I.length) := by
  subst hb
  rcases hM with ⟨rfl, rfl, hs⟩ | ⟨rfl, hs⟩
  · refine ⟨⟨-1, ?_, ?_, .inl ⟨rfl, rfl⟩⟩, ?_⟩
    · rw [List.nil_append, mscan_dig _ _ _ _ _ _ hI, mscan_stop _ _ _ _ _ hs]; rfl
    · rw [if_pos (by omega)]; rfl
    · rw [List.nil_append, dscan_dig _ _ _ _ _ _ hI, dscan_stop _ _ _ _ false (by simpa using hs)]; simp
  · refine ⟨⟨((st + I.length : Nat) : Int), ?_, ?_, .inr ⟨by simp, rfl⟩⟩, ?_⟩
    · have hs' : Stop ((st + I.length : Nat) : Int) R := by
        cases R with
        | nil => trivial
        | cons c R => exact ⟨hs.1, by omega⟩
      rw [mscan_dig _ _ _ _ _ _ hI, List.cons_append, mscan, if_pos ⟨by decide, by omega⟩, mscan_dig _ _ _ _ _ _ hF, mscan_stop _ _ _ _ _ hs']
      simp only [List.length_cons, Prod.mk.injEq, and_true]
      omega
    · rw [if_neg (by omega)]
    · rw [dscan_dig _ _ _ _ _ _ hI, List.cons_append, dscan, if_pos ⟨by decide, rfl⟩, dscan_dig _ _ _ _ _ _ hF, dscan_stop _ _ _ _ _ (by simpa using hs)]
      simp only [List.length_cons, Prod.mk.injEq]
      exact ⟨by omega, by simp, by simp⟩

theorem fr_pre (s : ByteArray) (k : Nat) : s.data.toList = s.data.toList.take k ++ fr s k := (List.take_append_drop k _).symm

/-- THE LAW: both read alike. -/
theorem rd_eq_md (s : ByteArray) : rd s = md s := by
  rw [rd_fr, md]
  have hst : 0 + sgnLen (fr s 0) ≤ s.size := sgn_le s 0 (Nat.zero_le _)
  generalize sgnNeg (fr s 0) = neg
  generalize sgnLen (fr s 0) = st at *
  obtain ⟨I, F, M, R, hb, hI, hF, hM⟩ := splitM (fr s st)
  obtain ⟨⟨p, e1, hq, hp⟩, e2⟩ := scans hb hI hF hM st
  rw [e1, e2]
  have hM' : (M = [] ∧ F = []) ∨ M = 46 :: F := by
    rcases hM with ⟨a, b, _⟩ | ⟨a, _⟩
    · exact .inl ⟨a, b⟩
    · exact .inr a
  have hsz : s.data.toList.length = s.size := by simp
  have hpre : (s.data.toList.take st).length = st := by rw [List.length_take]; omega
  have hT : s.data.toList = s.data.toList.take st ++ (I ++ (M ++ R)) := by rw [← hb]; exact fr_pre s st
  by_cases hn : I ++ F = []
  · obtain ⟨rfl, rfl⟩ := List.append_eq_nil_iff.1 hn
    rw [show mdTail s neg (st + ([] : List UInt8).length + M.length, [] ++ [], ([] : List UInt8).length) = Bad from rfl]
    refine tail_bad ?_
    rcases hM' with ⟨rfl, _⟩ | rfl
    · exact .inl rfl
    · rcases hp with ⟨h, _⟩ | ⟨_, hp⟩
      · cases h
      · exact .inr ⟨rfl, hp⟩
  · cases hx : expo (fr s (st + I.length + M.length)) with
    | none => rw [tail_none hx, mt_none hx]
    | some e =>
      rw [tail_some ?_ hx, mt_some hn hx]
      · exact rdFin_eq hT hpre hM' hq
      · have hl : 0 < (I ++ F).length := List.length_pos_iff.2 hn
        rw [List.length_append] at hl
        rcases hM' with ⟨rfl, rfl⟩ | rfl
        · rintro (h | ⟨h1, h2⟩)
          · simp at h hl; rw [h] at hl; simp at hl
          · rcases hp with ⟨_, hp⟩ | ⟨h, _⟩
            · omega
            · exact h rfl
        · rintro (h | ⟨h1, h2⟩)
          · simp only [List.length_cons] at h; omega
          · simp only [List.length_cons] at h1; omega

end Go.Proofs.Qxb6000021aMods.Pl
