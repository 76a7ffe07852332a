/- JisHalf: what any byte of JIS X 0201 stands for, and the byte of any number there, is told as the document says; each is the other's. No condition. -/
import Derived.Test.YtadhfojgifhjcaaPJisHalfx1
import Derived.OpenShut
namespace Go.Proofs.Ytadhfojgifhjcaa.Pure
open Go.RowKit Go.Proofs.Ytadhfojgifhjcaa.PJisHalf Go.Proofs.YtadhfojgifhjcaaW.PrintWords Go.Proofs.YtadhfojgifhjcaaW.PrintLast

/-- The scalar of a byte; -1: none. -/
def hv (b : Int) : Int := if b = 92 then 165 else if b = 126 then 8254 else if b < 128 then b else if b < 161 then -1 else if b > 223 then -1 else 65216 + b
/-- The byte of a scalar; -1: none. -/
def hb (u : Int) : Int := if u = 165 then 92 else if u = 8254 then 126 else if u < 0 then -1 else if u = 92 then -1 else if u = 126 then -1 else if u < 128 then u else if u < 65377 then -1 else if u > 65439 then -1 else u - 65216

theorem hv_hb {b : Int} (h0 : 0 ≤ b) (h1 : b < 256) (u : Int) (h : hv b = u) (hu : u ≠ -1) : hb u = b := by
  subst h
  unfold hv at hu ⊢
  by_cases c1 : b = 92
  · rw [if_pos c1, c1]; rfl
  · by_cases c2 : b = 126
    · rw [if_neg c1, if_pos c2, c2]; rfl
    · rw [if_neg c1, if_neg c2] at hu ⊢
      unfold hb
      by_cases c3 : b < 128
      · rw [if_pos c3]
        repeat' split
        all_goals omega
      · rw [if_neg c3] at hu ⊢
        by_cases c4 : b < 161
        · rw [if_pos c4] at hu
          omega
        · rw [if_neg c4] at hu ⊢
          by_cases c5 : b > 223
          · rw [if_pos c5] at hu
            omega
          · rw [if_neg c5]
            repeat' split
            all_goals omega
theorem hb_hv {u : Int} (h : hb u ≠ -1) : 0 ≤ hb u ∧ hb u < 256 ∧ hv (hb u) = u := by
  unfold hb at h ⊢
  by_cases c1 : u = 165
  · rw [if_pos c1, c1]; decide
  · by_cases c2 : u = 8254
    · rw [if_neg c1, if_pos c2, c2]; decide
    · rw [if_neg c1, if_neg c2] at h ⊢
      by_cases c3 : u < 0
      · rw [if_pos c3] at h; omega
      · rw [if_neg c3] at h ⊢
        by_cases c4 : u = 92
        · rw [if_pos c4] at h; omega
        · rw [if_neg c4] at h ⊢
          by_cases c5 : u = 126
          · rw [if_pos c5] at h; omega
          · rw [if_neg c5] at h ⊢
            unfold hv
            by_cases c6 : u < 128
            · rw [if_pos c6, if_neg c4, if_neg c5, if_pos c6]
              omega
            · rw [if_neg c6] at h ⊢
              by_cases c7 : u < 65377
              · rw [if_pos c7] at h; omega
              · rw [if_neg c7] at h ⊢
                by_cases c8 : u > 65439
                · rw [if_pos c8] at h; omega
                · rw [if_neg c8, if_neg (by omega), if_neg (by omega), if_neg (by omega), if_neg (by omega), if_neg (by omega)]
                  omega

def told (v : Int) : Int × Bool := if v = -1 then (0, false) else (v, true)

theorem half_is {b : Int} (h0 : 0 ≤ b) (h1 : b < 256) : jis_Half.f b = some (told (hv b)) := by
  have e : wrap32 (wrap32 (65377 + wrap32 b) - 161) = 65216 + b := by unfold wrap32; omega
  have e1 : wrap32 b = b := by unfold wrap32; omega
  unfold jis_Half.f hv told
  rw [e, e1]
  repeat' split
  all_goals first | rfl | (exfalso; omega) | simp_all
theorem rhalf_is {b : Int} (h0 : 0 ≤ b) (h1 : b < 256) : dragomanref14_Half.f b = some (told (hv b)) := by
  have e1 : wrap32 b = b := by unfold wrap32; omega
  unfold dragomanref14_Half.f hv told
  rw [e1]
  by_cases c1 : b = 92
  · simp [c1]
  · by_cases c2 : b = 126
    · simp [c2]
    · by_cases c3 : b < 128
      · rw [if_neg c1, if_neg c2, if_pos c3, if_neg c1, if_neg c2, if_pos c3, if_neg (by omega)]
      · by_cases c4 : b < 161
        · rw [if_neg c1, if_neg c2, if_neg c3, if_neg (by omega), if_neg c1, if_neg c2, if_neg c3, if_pos c4]
          rfl
        · by_cases c5 : b > 223
          · rw [if_neg c1, if_neg c2, if_neg c3, if_pos (by omega), if_neg (by omega), if_neg c1, if_neg c2, if_neg c3, if_neg c4, if_pos c5]
            rfl
          · rw [if_neg c1, if_neg c2, if_neg c3, if_pos (by omega), if_pos (by omega), if_neg c1, if_neg c2, if_neg c3, if_neg c4, if_neg c5, if_neg (by omega)]
            congr 2
            omega
theorem byte_is {u : Int} (hu : -2147483648 ≤ u ∧ u ≤ 2147483647) (k : Nat) : jis_HalfByte.f (k + 1) u = some (told (hb u)) := by
  have e : 65377 ≤ u → u ≤ 65439 → wrap32 (wrap32 (u - 65377) + 161) % 256 = u - 65216 := by intro _ _; unfold wrap32; omega
  unfold jis_HalfByte.f hb told
  by_cases c1 : u = 165
  · simp [c1]
  · by_cases c2 : u = 8254
    · simp [c2]
    · by_cases c3 : u < 0
      · rw [if_neg c1, if_neg c2, if_neg (by omega), if_neg c1, if_neg c2, if_pos c3]
        simp only [jis_HalfByte.j0]
        rw [if_neg (by simp), if_neg (by omega)]
        rfl
      · by_cases c4 : u = 92
        · subst c4
          simp [jis_HalfByte.j0]
        · by_cases c5 : u = 126
          · subst c5
            simp [jis_HalfByte.j0]
          · rw [if_neg c1, if_neg c2, if_pos (by omega), if_neg c1, if_neg c2, if_neg c3, if_neg c4, if_neg c5]
            by_cases c6 : u < 128
            · rw [if_pos c6, if_neg c4, if_pos c6, if_neg (by omega)]
              simp only [jis_HalfByte.j0]
              rw [if_pos (by simp [c5])]
              congr 2
              omega
            · rw [if_neg c6, if_neg c6]
              simp only [jis_HalfByte.j0]
              rw [if_neg (by simp), if_neg c4]
              by_cases c7 : u < 65377
              · rw [if_neg (by omega), if_pos c7]
                rfl
              · rw [if_pos (by omega), if_neg c7]
                by_cases c8 : u > 65439
                · rw [if_neg (by omega), if_pos c8]
                  rfl
                · rw [if_pos (by omega), if_neg c8, e (by omega) (by omega), if_neg (by omega)]
theorem round_ (k : Nat) (u i : Int) (h0 : 0 ≤ i) (h1 : i < 256) : dragomanref14_HalfByte.l0 (k + 1) u i = if hv i = u ∧ u ≠ -1 then some (i, true) else dragomanref14_HalfByte.l0 k u (i + 1) := by
  have e : wrap64 (i + 1) = i + 1 := by unfold wrap64; omega
  have e2 : i % 256 = i := by omega
  simp only [dragomanref14_HalfByte.l0]
  rw [if_pos h1, e, e2, rhalf_is h0 h1]
  simp only [Option.bind_some]
  unfold told
  by_cases c : hv i = -1
  · rw [if_pos c]
    by_cases c2 : hv i = u ∧ u ≠ -1
    · exfalso
      omega
    · rw [if_neg c2]
      simp
  · rw [if_neg c]
    simp only [if_true]
    by_cases c2 : hv i = u
    · rw [if_pos c2, if_pos ⟨c2, by omega⟩]
    · rw [if_neg c2, if_neg (fun h => c2 h.1)]
theorem loop_yes {u : Int} (h : hb u ≠ -1) (hu : u ≠ -1) (d : Nat) : ∀ (k : Nat) (i : Int), 0 ≤ i → i + d = hb u → d < k → dragomanref14_HalfByte.l0 k u i = some (hb u, true) := by
  have hh := hb_hv h
  induction d with
  | zero =>
    intro k i h0 hd hk
    obtain ⟨k, rfl⟩ : ∃ m, k = m + 1 := ⟨k - 1, by omega⟩
    have : i = hb u := by omega
    rw [round_ k u i h0 (by omega), this, if_pos ⟨hh.2.2, hu⟩]
  | succ d ih =>
    intro k i h0 hd hk
    obtain ⟨k, rfl⟩ : ∃ m, k = m + 1 := ⟨k - 1, by omega⟩
    rw [round_ k u i h0 (by omega), if_neg, ih k (i + 1) (by omega) (by omega) (by omega)]
    rintro ⟨h1, h2⟩
    have := hv_hb h0 (by omega) u h1 h2
    omega
theorem loop_no {u : Int} (h : hb u = -1) (d : Nat) : ∀ (k : Nat) (i : Int), 0 ≤ i → i + d = 256 → d < k → dragomanref14_HalfByte.l0 k u i = some (0, false) := by
  induction d with
  | zero =>
    intro k i h0 hd hk
    obtain ⟨k, rfl⟩ : ∃ m, k = m + 1 := ⟨k - 1, by omega⟩
    simp only [dragomanref14_HalfByte.l0]
    rw [if_neg (by omega)]
  | succ d ih =>
    intro k i h0 hd hk
    obtain ⟨k, rfl⟩ : ∃ m, k = m + 1 := ⟨k - 1, by omega⟩
    rw [round_ k u i h0 (by omega), if_neg, ih k (i + 1) (by omega) (by omega) (by omega)]
    rintro ⟨h1, h2⟩
    have := hv_hb h0 (by omega) u h1 h2
    omega
theorem rbyte_is (u : Int) : dragomanref14_HalfByte.f 300 u = some (told (hb u)) := by
  unfold dragomanref14_HalfByte.f told
  by_cases h : hb u = -1
  · rw [if_pos h]
    exact loop_no h 256 300 0 (by omega) (by omega) (by omega)
  · rw [if_neg h]
    have hh := hb_hv h
    refine loop_yes h ?_ (hb u).toNat 300 0 (by omega) (by omega) (by omega)
    rintro rfl
    exact h (by decide)

theorem JisHalf : dragomanlaw14_JisHalf.Pure := by
  intro b u hb0 hu0
  have hb1 := bounds_u8 hb0
  have hu1 := bounds_i32 hu0
  refine ⟨300, ?_⟩
  unfold dragomanlaw14_JisHalf.f
  rw [half_is hb1.1 (by omega), rhalf_is hb1.1 (by omega), byte_is hu1, rbyte_is]
  simp only [Option.bind_some, if_true, bne_self_eq_false]
  rw [if_neg (by simp)]
  have hvr : -2147483648 ≤ hv b ∧ hv b ≤ 2147483647 := by unfold hv; repeat' split <;> omega
  by_cases c : hv b = -1
  · have ht : told (hv b) = (0, false) := by unfold told; rw [if_pos c]
    rw [ht, byte_is (u := (0, false).1) (by simp)]
    simp
  · have ht : told (hv b) = (hv b, true) := by unfold told; rw [if_neg c]
    rw [ht, byte_is (u := (hv b, true).1) hvr]
    have ht2 : told (hb (hv b, true).1) = (b, true) := by
      rw [show hb (hv b, true).1 = b from hv_hb hb1.1 (by omega) (hv b) rfl c]
      unfold told
      rw [if_neg (by omega)]
    rw [ht2]
    simp

end Go.Proofs.Ytadhfojgifhjcaa.Pure
