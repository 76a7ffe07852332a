/- What the reference's Scalars come to: the text's runes, where it is all of units. -/
import Derived.Test.YtkbblppoalgkmaaDeRs
namespace Go.Proofs.Ytkbblppoalgkmaa.De
open Go.RowKit Go.Maps Go.Proofs.YtkbblppoalgkmaaW.PrintWords Go.Proofs.YtkbblppoalgkmaaW.PrintLast Go.Proofs.YtkbblppoalgkmaaW.PrintMore
open Go.Proofs.Ytkbblppoalgkmaa.U8 (scan scan3 dec enc Scal dec_enc dec_cases enc_len_bd Byte)
set_option linter.unusedVariables false
theorem scan_scan3 : ∀ (m : Nat) (l : List Int), (∀ x ∈ l, Byte x) → l.length ≤ m → ((scan m l).2 = true → (scan3 (m + 1) l).2.2 = 0 ∧ (scan3 (m + 1) l).1 = (scan m l).1) ∧ ((scan m l).2 = false → (scan3 (m + 1) l).2.2 ≠ 0)
  | 0, l, _, h => by
    obtain rfl : l = [] := List.eq_nil_of_length_eq_zero (by omega)
    exact ⟨fun _ => ⟨rfl, rfl⟩, fun h => by cases h⟩
  | m + 1, [], _, _ => ⟨fun _ => ⟨rfl, rfl⟩, fun h => by cases h⟩
  | m + 1, a :: t, hb, hl => by
    rw [scan, scan3]
    by_cases h0 : (dec (a :: t)).1 = 0
    · rw [if_pos h0, if_pos h0]
      rcases dec_cases (a :: t) hb with ⟨hd, _⟩ | ⟨n, _, _, _, hd⟩ | ⟨u, t', hu, hyt, hd⟩
      · rw [hd] at h0
        exact absurd h0 (by decide)
      · rw [hd] at h0
        exact absurd h0 (show ¬ (10 : Int) = 0 by decide)
      · have hn : (dec (a :: t)).2.1.toNat = (enc u).length := by rw [hd]; simp [U8.good]
        have hdr : (a :: t).drop (enc u).length = t' := by rw [hyt, List.drop_left]
        have hlen := congrArg List.length hyt
        rw [List.length_append] at hlen
        have he := enc_len_bd u
        rw [hn, hdr]
        obtain ⟨k1, k2⟩ := scan_scan3 m t' (fun x hx => hb x (by rw [hyt]; exact List.mem_append_right _ hx)) (by omega)
        exact ⟨fun h => ⟨(k1 h).1, congrArg _ (k1 h).2⟩, fun h => k2 h⟩
    · rw [if_neg h0, if_neg h0]
      exact ⟨fun h => (by cases h), fun _ => h0⟩
theorem runes_scan (s : ByteArray) (h : vb s = true) : (scan3 ((bytesOf s).length + 1) (bytesOf s)).2.2 = 0 ∧ (scan3 ((bytesOf s).length + 1) (bytesOf s)).1 = runes s := by
  obtain ⟨k1, k2⟩ := (scan_scan3 (bytesOf s).length (bytesOf s) (bytes_byte s) (Nat.le_refl _)).1 h
  refine ⟨k1, k2.trans ?_⟩
  obtain ⟨us, h1, h2, h3⟩ := scan_units (bytesOf s).length (bytesOf s) (bytes_byte s) (Nat.le_refl _) h
  rw [h3]
  have hle : us.length ≤ s.size := by
    have := units_len us
    rw [← h2, bytesOf_length] at this
    exact this
  have hr := runes_units s us (s.size - us.length) 0 [] h1 (by rw [List.drop_zero, List.append_nil]; exact h2)
  rw [show s.size - us.length + us.length = s.size by omega, runesF_end s (s.size - us.length) (0 + (us.flatMap enc).length) (by rw [Nat.zero_add, ← h2, bytesOf_length]; omega), List.append_nil] at hr
  exact hr.symm
theorem bad_scan (s : ByteArray) (h : vb s = false) : (scan3 ((bytesOf s).length + 1) (bytesOf s)).2.2 ≠ 0 :=
  (scan_scan3 (bytesOf s).length (bytesOf s) (bytes_byte s) (Nat.le_refl _)).2 h
end Go.Proofs.Ytkbblppoalgkmaa.De
