/- SjisPacks: any row and cell is folded, and any two bytes are unfolded, as the document says, at all numbers. No condition. -/
import Derived.Test.YtadhfojgifhjcaaPSjisPacksx2
import Derived.OpenShut
namespace Go.Proofs.Ytadhfojgifhjcaa.Pure
open Go.RowKit Go.Proofs.Ytadhfojgifhjcaa.PSjisPacks Go.Proofs.YtadhfojgifhjcaaW.PrintWords Go.Proofs.YtadhfojgifhjcaaW.PrintLast

def In (r c : Int) : Prop := 1 ≤ r ∧ r ≤ 94 ∧ 1 ≤ c ∧ c ≤ 94
/-- The lead of a row, and the trail of a cell in it. -/
def lead (r : Int) : Int := if 129 + (r - 1) / 2 > 159 then 193 + (r - 1) / 2 else 129 + (r - 1) / 2
def trail (r c : Int) : Int := if r % 2 = 0 then 158 + c else if c > 63 then 64 + c else 63 + c

theorem pack_yes {r c : Int} (h : In r c) (k : Nat) : sjis_Pack.f (k + 2) r c = some (lead r, trail r c, true) := by
  obtain ⟨h0, h1, h2, h3⟩ := h
  have e0 : wrap64 (r - 1) = r - 1 := by unfold wrap64; omega
  have e1 : Int.tdiv (r - 1) 2 = (r - 1) / 2 := Int.tdiv_eq_ediv_of_nonneg (by omega)
  have e2 : Int.tmod r 2 = r % 2 := Int.tmod_eq_emod_of_nonneg (by omega)
  have e3 : wrap64 ((r - 1) / 2) = (r - 1) / 2 := by unfold wrap64; omega
  have e4 : wrap64 (129 + (r - 1) / 2) = 129 + (r - 1) / 2 := by unfold wrap64; omega
  have e5 : wrap64 (129 + (r - 1) / 2 + 64) = 193 + (r - 1) / 2 := by unfold wrap64; omega
  have e6 : wrap64 (wrap64 (159 + c) - 1) = 158 + c := by unfold wrap64; omega
  have e7 : wrap64 (wrap64 (64 + c) - 1) = 63 + c := by unfold wrap64; omega
  have e8 : wrap64 (63 + c + 1) = 64 + c := by unfold wrap64; omega
  unfold sjis_Pack.f lead trail
  rw [if_neg (by omega), if_neg (by omega), if_neg (by omega)]
  simp only [sjis_Pack.j0, sjis_Pack.j1, e0, e1, e2, e3, e4, e5, e6, e7, e8]
  rw [if_neg (by simp; omega)]
  have m1 : (193 + (r - 1) / 2) % 256 = 193 + (r - 1) / 2 := by omega
  have m2 : (129 + (r - 1) / 2) % 256 = 129 + (r - 1) / 2 := by omega
  have m3 : (158 + c) % 256 = 158 + c := by omega
  have m4 : (63 + c) % 256 = 63 + c := by omega
  have m5 : (64 + c) % 256 = 64 + c := by omega
  rw [m1, m2, m3, m4, m5]
  by_cases c1 : 129 + (r - 1) / 2 > 159
  · rw [if_pos c1, if_pos c1]
    by_cases c2 : r % 2 = 0
    · rw [if_pos c2, if_pos c2]
    · rw [if_neg c2, if_neg c2]
      by_cases c3 : c > 63
      · rw [if_pos (by omega), if_pos c3]
      · rw [if_neg (by omega), if_neg c3]
  · rw [if_neg c1, if_neg c1]
    by_cases c2 : r % 2 = 0
    · rw [if_pos c2, if_pos c2]
    · rw [if_neg c2, if_neg c2]
      by_cases c3 : c > 63
      · rw [if_pos (by omega), if_pos c3]
      · rw [if_neg (by omega), if_neg c3]
theorem pack_no {r c : Int} (h : ¬ In r c) (k : Nat) : sjis_Pack.f (k + 2) r c = some (0, 0, false) := by
  unfold In at h
  unfold sjis_Pack.f
  simp only [sjis_Pack.j0]
  repeat' split
  all_goals first | rfl | (exfalso; simp at *; done) | (exfalso; simp at *; omega)
theorem rpack_yes {r c : Int} (h : In r c) (k : Nat) : dragomanref18_Pack.f (k + 2) r c = some (lead r, trail r c, true) := by
  obtain ⟨h0, h1, h2, h3⟩ := h
  have e0 : wrap64 (r - 1) = r - 1 := by unfold wrap64; omega
  have e1 : Int.tdiv (r - 1) 2 = (r - 1) / 2 := Int.tdiv_eq_ediv_of_nonneg (by omega)
  have e2 : Int.tmod r 2 = r % 2 := Int.tmod_eq_emod_of_nonneg (by omega)
  have e3 : wrap64 ((r - 1) / 2) = (r - 1) / 2 := by unfold wrap64; omega
  have e4 : wrap64 (129 + (r - 1) / 2) = 129 + (r - 1) / 2 := by unfold wrap64; omega
  have e5 : wrap64 (193 + (r - 1) / 2) = 193 + (r - 1) / 2 := by unfold wrap64; omega
  have e6 : wrap64 (158 + c) = 158 + c := by unfold wrap64; omega
  have e7 : wrap64 (64 + c) = 64 + c := by unfold wrap64; omega
  have e8 : wrap64 (63 + c) = 63 + c := by unfold wrap64; omega
  unfold dragomanref18_Pack.f lead trail
  rw [if_neg (by omega), if_neg (by omega), if_neg (by omega)]
  simp only [dragomanref18_Pack.j0, dragomanref18_Pack.j1, e0, e1, e2, e3, e4, e5, e6, e7, e8]
  rw [if_neg (by simp; omega)]
  have m1 : (193 + (r - 1) / 2) % 256 = 193 + (r - 1) / 2 := by omega
  have m2 : (129 + (r - 1) / 2) % 256 = 129 + (r - 1) / 2 := by omega
  have m3 : (158 + c) % 256 = 158 + c := by omega
  have m4 : (63 + c) % 256 = 63 + c := by omega
  have m5 : (64 + c) % 256 = 64 + c := by omega
  rw [m1, m2, m3, m4, m5]
  by_cases c1 : 129 + (r - 1) / 2 > 159
  · rw [if_pos c1, if_pos c1]
    by_cases c2 : r % 2 = 0
    · rw [if_neg (by omega), if_pos c2]
    · rw [if_pos (by omega), if_neg c2]
      by_cases c3 : c > 63
      · rw [if_pos c3, if_pos c3]
      · rw [if_neg c3, if_neg c3]
  · rw [if_neg c1, if_neg c1]
    by_cases c2 : r % 2 = 0
    · rw [if_neg (by omega), if_pos c2]
    · rw [if_pos (by omega), if_neg c2]
      by_cases c3 : c > 63
      · rw [if_pos c3, if_pos c3]
      · rw [if_neg c3, if_neg c3]
theorem rpack_no {r c : Int} (h : ¬ In r c) (k : Nat) : dragomanref18_Pack.f (k + 2) r c = some (0, 0, false) := by
  unfold In at h
  unfold dragomanref18_Pack.f
  simp only [dragomanref18_Pack.j0]
  repeat' split
  all_goals first | rfl | (exfalso; simp at *; done) | (exfalso; simp at *; omega)

def Lead (a : Int) : Prop := (129 ≤ a ∧ a ≤ 159) ∨ (224 ≤ a ∧ a ≤ 239)
def Trail (b : Int) : Prop := 64 ≤ b ∧ b ≤ 252 ∧ b ≠ 127
/-- Which of the 47 leads a byte is. -/
def nth (a : Int) : Int := if 224 ≤ a then a - 193 else a - 129
def rowOf (a b : Int) : Int := if 159 ≤ b then 2 * nth a + 2 else 2 * nth a + 1
def cellOf (b : Int) : Int := if 159 ≤ b then b - 158 else if 127 < b then b - 64 else b - 63

theorem isLead_yes {a : Int} (h : Lead a) : sjis_isLead.f a = some true := by
  unfold Lead at h
  unfold sjis_isLead.f
  repeat' split
  all_goals first | rfl | (simp; omega) | (exfalso; omega)
theorem isLead_no {a : Int} (h : ¬ Lead a) : sjis_isLead.f a = some false := by
  unfold Lead at h
  unfold sjis_isLead.f
  repeat' split
  all_goals first | rfl | (simp; omega) | (exfalso; omega)
theorem isTrail_yes {a : Int} (h : Trail a) : sjis_isTrail.f a = some true := by
  unfold Trail at h
  unfold sjis_isTrail.f
  rw [if_pos (by omega), if_pos (by omega)]
  simp
  omega
theorem isTrail_no {a : Int} (h : ¬ Trail a) : sjis_isTrail.f a = some false := by
  unfold Trail at h
  unfold sjis_isTrail.f
  repeat' split
  all_goals first | rfl | (simp; omega)

theorem unpack_yes {a b : Int} (ha : Lead a) (hb : Trail b) (k : Nat) : sjis_Unpack.f (k + 2) a b = some (rowOf a b, cellOf b, true) := by
  unfold sjis_Unpack.f
  rw [isLead_yes ha]
  simp only [Option.bind_some, if_true]
  rw [isTrail_yes hb]
  unfold Lead at ha
  unfold Trail at hb
  simp only [Option.bind_some, sjis_Unpack.j0, sjis_Unpack.j1, Bool.not_true]
  have e1 : wrap64 (wrap64 (wrap64 a - 129) - 64) = a - 193 := by unfold wrap64; omega
  have e2 : wrap64 (wrap64 a - 129) = a - 129 := by unfold wrap64; omega
  have e3 : wrap64 (wrap64 (wrap64 b - 159) + 1) = b - 158 := by unfold wrap64; omega
  have e4 : wrap64 (wrap64 (wrap64 (wrap64 b - 64) + 1) - 1) = b - 64 := by unfold wrap64; omega
  have e5 : wrap64 (wrap64 (wrap64 b - 64) + 1) = b - 63 := by unfold wrap64; omega
  have e6 : wrap64 (wrap64 (2 * (a - 193)) + 2) = 2 * (a - 193) + 2 := by unfold wrap64; omega
  have e7 : wrap64 (wrap64 (2 * (a - 193)) + 1) = 2 * (a - 193) + 1 := by unfold wrap64; omega
  have e8 : wrap64 (wrap64 (2 * (a - 129)) + 2) = 2 * (a - 129) + 2 := by unfold wrap64; omega
  have e9 : wrap64 (wrap64 (2 * (a - 129)) + 1) = 2 * (a - 129) + 1 := by unfold wrap64; omega
  rw [if_neg (by simp), e1, e2, e3, e4, e5, e6, e7, e8, e9]
  unfold rowOf cellOf nth
  by_cases c1 : 224 ≤ a
  · rw [if_pos c1, if_pos c1]
    by_cases c2 : 159 ≤ b
    · rw [if_pos c2, if_pos c2, if_pos c2]
    · rw [if_neg (by omega), if_neg c2, if_neg c2]
      by_cases c3 : 127 < b
      · rw [if_pos (by omega), if_pos c3]
      · rw [if_neg (by omega), if_neg c3]
  · rw [if_neg (by omega), if_neg c1]
    by_cases c2 : 159 ≤ b
    · rw [if_pos c2, if_pos c2, if_pos c2]
    · rw [if_neg (by omega), if_neg c2, if_neg c2]
      by_cases c3 : 127 < b
      · rw [if_pos (by omega), if_pos c3]
      · rw [if_neg (by omega), if_neg c3]
theorem unpack_no {a b : Int} (h : ¬ (Lead a ∧ Trail b)) (k : Nat) : sjis_Unpack.f (k + 2) a b = some (0, 0, false) := by
  unfold sjis_Unpack.f
  by_cases ha : Lead a
  · rw [isLead_yes ha, Option.bind_some, if_pos rfl, isTrail_no (fun hb => h ⟨ha, hb⟩)]
    simp [sjis_Unpack.j0]
  · rw [isLead_no ha]
    simp [sjis_Unpack.j0]

/-! ### the reference's search -/
theorem lead_inj {r a : Int} (h : 1 ≤ r ∧ r ≤ 94) : lead r = a ↔ Lead a ∧ (r = 2 * nth a + 1 ∨ r = 2 * nth a + 2) := by
  unfold lead Lead nth
  by_cases c1 : 129 + (r - 1) / 2 > 159
  · rw [if_pos c1]
    by_cases c2 : 224 ≤ a
    · rw [if_pos c2]; omega
    · rw [if_neg c2]; omega
  · rw [if_neg c1]
    by_cases c2 : 224 ≤ a
    · rw [if_pos c2]; omega
    · rw [if_neg c2]; omega
theorem trail_inj {r c b : Int} (h : 1 ≤ c ∧ c ≤ 94) : trail r c = b ↔ Trail b ∧ c = cellOf b ∧ (r % 2 = 0 ↔ 159 ≤ b) := by
  unfold trail Trail cellOf
  by_cases c1 : r % 2 = 0
  · rw [if_pos c1]
    by_cases c2 : 159 ≤ b
    · rw [if_pos c2]; omega
    · rw [if_neg c2]
      by_cases c3 : 127 < b
      · rw [if_pos c3]; omega
      · rw [if_neg c3]; omega
  · rw [if_neg c1]
    by_cases c4 : c > 63
    · rw [if_pos c4]
      by_cases c2 : 159 ≤ b
      · rw [if_pos c2]; omega
      · rw [if_neg c2]
        by_cases c3 : 127 < b
        · rw [if_pos c3]; omega
        · rw [if_neg c3]; omega
    · rw [if_neg c4]
      by_cases c2 : 159 ≤ b
      · rw [if_pos c2]; omega
      · rw [if_neg c2]
        by_cases c3 : 127 < b
        · rw [if_pos c3]; omega
        · rw [if_neg c3]; omega

theorem outer (k : Nat) (a b r : Int) (h0 : 1 ≤ r) (h1 : r ≤ 94) : dragomanref18_Unpack.l0 (k + 3) a b r = if lead r = a then dragomanref18_Unpack.l1 (k + 2) a b r 1 else dragomanref18_Unpack.l0 (k + 2) a b (r + 1) := by
  have e : wrap64 (r + 1) = r + 1 := by unfold wrap64; omega
  rw [dragomanref18_Unpack.l0, if_pos h1, rpack_yes ⟨h0, h1, by omega, by omega⟩, e]
  rfl
theorem inner (k : Nat) (a b r c : Int) (h0 : 1 ≤ r) (h1 : r ≤ 94) (h2 : 1 ≤ c) (h3 : c ≤ 94) : dragomanref18_Unpack.l1 (k + 3) a b r c = if trail r c = b then some (r, c, true) else dragomanref18_Unpack.l1 (k + 2) a b r (c + 1) := by
  have e : wrap64 (c + 1) = c + 1 := by unfold wrap64; omega
  rw [dragomanref18_Unpack.l1, if_pos h3, rpack_yes ⟨h0, h1, h2, h3⟩, e]
  rfl
theorem inner_end (k : Nat) (a b r : Int) (h1 : r ≤ 94) (h0 : 1 ≤ r) : dragomanref18_Unpack.l1 (k + 1) a b r 95 = dragomanref18_Unpack.l0 k a b (r + 1) := by
  have e : wrap64 (r + 1) = r + 1 := by unfold wrap64; omega
  rw [dragomanref18_Unpack.l1, if_neg (by omega), e]
theorem outer_end (k : Nat) (a b : Int) : dragomanref18_Unpack.l0 (k + 1) a b 95 = some (0, 0, false) := by
  rw [dragomanref18_Unpack.l0, if_neg (by omega)]
/-- No cell of this row has the trail: on to the next row. -/
theorem inner_no {a b r : Int} (h0 : 1 ≤ r) (h1 : r ≤ 94) (hno : ∀ c, 1 ≤ c → c ≤ 94 → trail r c ≠ b) (d : Nat) : ∀ (k : Nat) (c : Int), 1 ≤ c → c + d = 95 → dragomanref18_Unpack.l1 (k + d + 3) a b r c = dragomanref18_Unpack.l0 (k + 2) a b (r + 1) := by
  induction d with
  | zero =>
    intro k c hc hd
    obtain rfl : c = 95 := by omega
    exact inner_end (k + 2) a b r h1 h0
  | succ d ih =>
    intro k c hc hd
    rw [show k + (d + 1) + 3 = (k + d + 1) + 3 by omega, inner _ a b r c h0 h1 hc (by omega), if_neg (hno c hc (by omega)), show k + d + 1 + 2 = k + d + 3 by omega]
    exact ih k (c + 1) (by omega) (by omega)
theorem inner_yes {a b r x : Int} (h0 : 1 ≤ r) (h1 : r ≤ 94) (hx : 1 ≤ x ∧ x ≤ 94) (hyes : trail r x = b) (d : Nat) : ∀ (k : Nat) (c : Int), 1 ≤ c → c + d = x → d + 3 ≤ k → dragomanref18_Unpack.l1 k a b r c = some (r, x, true) := by
  induction d with
  | zero =>
    intro k c hc hd hk
    obtain ⟨k, rfl⟩ : ∃ m, k = m + 3 := ⟨k - 3, by omega⟩
    obtain rfl : c = x := by omega
    rw [inner k a b r c h0 h1 hc (by omega), if_pos hyes]
  | succ d ih =>
    intro k c hc hd hk
    obtain ⟨k, rfl⟩ : ∃ m, k = m + 3 := ⟨k - 3, by omega⟩
    rw [inner k a b r c h0 h1 hc (by omega), if_neg, ih (k + 2) (c + 1) (by omega) (by omega) (by omega)]
    intro h
    have p := (trail_inj (r := r) (b := b) hx).1 hyes
    have q := (trail_inj (r := r) (b := b) ⟨hc, by omega⟩).1 h
    omega
/-- Where no row is left that has the lead and the trail: none. -/
theorem rows_no {a b : Int} (d : Nat) : ∀ (k : Nat) (r : Int), 1 ≤ r → r + d = 95 → (∀ r' c', r ≤ r' → r' ≤ 94 → 1 ≤ c' → c' ≤ 94 → ¬ (lead r' = a ∧ trail r' c' = b)) → d * 97 + 3 ≤ k → dragomanref18_Unpack.l0 k a b r = some (0, 0, false) := by
  induction d with
  | zero =>
    intro k r hr hd _ hk
    obtain ⟨k, rfl⟩ : ∃ m, k = m + 1 := ⟨k - 1, by omega⟩
    obtain rfl : r = 95 := by omega
    exact outer_end k a b
  | succ d ih =>
    intro k r hr hd hno hk
    have hno' := fun r' c' (h : r + 1 ≤ r') => hno r' c' (by omega)
    obtain ⟨k, rfl⟩ : ∃ m, k = m + 3 := ⟨k - 3, by omega⟩
    rw [outer k a b r hr (by omega)]
    by_cases hl : lead r = a
    · obtain ⟨k, rfl⟩ : ∃ m, k = m + 95 := ⟨k - 95, by omega⟩
      rw [if_pos hl, show k + 95 + 2 = k + 94 + 3 by omega, inner_no hr (by omega) (fun c h1 h2 h => hno r c (by omega) (by omega) h1 h2 ⟨hl, h⟩) 94 k 1 (by omega) (by omega)]
      exact ih (k + 2) (r + 1) (by omega) (by omega) hno' (by omega)
    · rw [if_neg hl]
      exact ih (k + 2) (r + 1) (by omega) (by omega) hno' (by omega)
theorem rows_yes {a b x : Int} (_ha : Lead a) (_hb : Trail b) (_hx : x = rowOf a b) (hx1 : 1 ≤ x ∧ x ≤ 94) (hc1 : 1 ≤ cellOf b ∧ cellOf b ≤ 94) (hl : lead x = a) (ht : trail x (cellOf b) = b) (d : Nat) : ∀ (k : Nat) (r : Int), 1 ≤ r → r + d = x → d * 97 + 103 ≤ k → dragomanref18_Unpack.l0 k a b r = some (x, cellOf b, true) := by
  induction d with
  | zero =>
    intro k r hr hd hk
    obtain ⟨k, rfl⟩ : ∃ m, k = m + 3 := ⟨k - 3, by omega⟩
    obtain rfl : r = x := by omega
    rw [outer k a b r hr (by omega), if_pos hl]
    exact inner_yes hr (by omega) hc1 ht (cellOf b - 1).toNat (k + 2) 1 (by omega) (by omega) (by omega)
  | succ d ih =>
    intro k r hr hd hk
    obtain ⟨k, rfl⟩ : ∃ m, k = m + 3 := ⟨k - 3, by omega⟩
    rw [outer k a b r hr (by omega)]
    by_cases hl2 : lead r = a
    · obtain ⟨k, rfl⟩ : ∃ m, k = m + 95 := ⟨k - 95, by omega⟩
      have hnoc : ∀ c, 1 ≤ c → c ≤ 94 → trail r c ≠ b := by
        intro c h1 h2 h
        have p := (lead_inj (a := a) (r := r) ⟨hr, by omega⟩).1 hl2
        have q := (lead_inj (a := a) hx1).1 hl
        have p2 := (trail_inj (r := r) (b := b) ⟨h1, h2⟩).1 h
        have q2 := (trail_inj (r := x) (b := b) hc1).1 ht
        omega
      rw [if_pos hl2, show k + 95 + 2 = k + 94 + 3 by omega, inner_no hr (by omega) hnoc 94 k 1 (by omega) (by omega)]
      exact ih (k + 2) (r + 1) (by omega) (by omega) (by omega)
    · rw [if_neg hl2]
      exact ih (k + 2) (r + 1) (by omega) (by omega) (by omega)

theorem place_ {a b : Int} (ha : Lead a) (hb : Trail b) : (1 ≤ rowOf a b ∧ rowOf a b ≤ 94) ∧ (1 ≤ cellOf b ∧ cellOf b ≤ 94) ∧ lead (rowOf a b) = a ∧ trail (rowOf a b) (cellOf b) = b := by
  have h1 : 1 ≤ rowOf a b ∧ rowOf a b ≤ 94 := by
    unfold Lead at ha
    unfold rowOf nth
    repeat' split
    all_goals omega
  have h2 : 1 ≤ cellOf b ∧ cellOf b ≤ 94 := by
    unfold Trail at hb
    unfold cellOf
    repeat' split
    all_goals omega
  refine ⟨h1, h2, (lead_inj h1).2 ⟨ha, ?_⟩, (trail_inj h2).2 ⟨hb, rfl, ?_⟩⟩
  · unfold rowOf
    split <;> omega
  · unfold rowOf
    split <;> omega
theorem runpack_yes {a b : Int} (ha : Lead a) (hb : Trail b) : dragomanref18_Unpack.f 9500 a b = some (rowOf a b, cellOf b, true) := by
  obtain ⟨h1, h2, h3, h4⟩ := place_ ha hb
  unfold dragomanref18_Unpack.f
  exact rows_yes ha hb rfl h1 h2 h3 h4 (rowOf a b - 1).toNat 9500 1 (by omega) (by omega) (by omega)
theorem runpack_no {a b : Int} (h : ¬ (Lead a ∧ Trail b)) : dragomanref18_Unpack.f 9500 a b = some (0, 0, false) := by
  unfold dragomanref18_Unpack.f
  refine rows_no 94 9500 1 (by omega) (by omega) ?_ (by omega)
  intro r c h1 h2 h3 h4 ⟨h5, h6⟩
  exact h ⟨((lead_inj ⟨h1, h2⟩).1 h5).1, ((trail_inj ⟨h3, h4⟩).1 h6).1⟩

theorem SjisPacks : dragomanlaw18_SjisPacks.Pure := by
  intro r c a b _ _ _ _
  refine ⟨9500, ?_⟩
  unfold dragomanlaw18_SjisPacks.f
  have hP : ∃ p, sjis_Pack.f 9500 r c = some p ∧ dragomanref18_Pack.f 9500 r c = some p := by
    by_cases h : In r c
    · exact ⟨_, pack_yes h 9498, rpack_yes h 9498⟩
    · exact ⟨_, pack_no h 9498, rpack_no h 9498⟩
  have hQ : ∃ p, sjis_Unpack.f 9500 a b = some p ∧ dragomanref18_Unpack.f 9500 a b = some p := by
    by_cases h : Lead a ∧ Trail b
    · exact ⟨_, unpack_yes h.1 h.2 9498, runpack_yes h.1 h.2⟩
    · exact ⟨_, unpack_no h 9498, runpack_no h⟩
  obtain ⟨p, p1, p2⟩ := hP
  obtain ⟨q, q1, q2⟩ := hQ
  rw [p1, p2, q1, q2]
  simp only [Option.bind_some, if_true, beq_self_eq_true]

end Go.Proofs.Ytadhfojgifhjcaa.Pure
