/- A text of units of UTF-8: its runes are its scalars, whatever follows. -/
import Derived.Test.YtkbblppoalgkmaaDeL
namespace Go.Proofs.Ytkbblppoalgkmaa.De
open Go.RowKit Go.Maps Go.Proofs.YtkbblppoalgkmaaW.PrintWords Go.Proofs.YtkbblppoalgkmaaW.PrintLast Go.Proofs.YtkbblppoalgkmaaW.PrintMore
open Go.Proofs.Ytkbblppoalgkmaa.U8 (scan dec enc Scal dec_enc dec_cases enc_len_bd Byte)
set_option linter.unusedVariables false
theorem bt_get (s : ByteArray) (k : Nat) (x : Int) (h : (bytesOf s)[k]? = some x) : k < s.size ∧ ((s.get! k).toNat : Int) = x := by
  have hk : k < s.size := by
    rcases Nat.lt_or_ge k s.size with h1 | h1
    · exact h1
    · rw [List.getElem?_eq_none (by rw [bytesOf_length]; exact h1)] at h
      cases h
  refine ⟨hk, ?_⟩
  have h2 : (bytesOf s)[k]? = some ((s.get! k).toNat : Int) := by
    have hg := get_at s k hk
    rw [Nat.add_zero] at hg
    rw [hg]
    unfold bytesOf
    rw [List.getElem?_map, List.getElem?_eq_getElem (show k < s.data.toList.length by rw [Array.length_toList]; exact hk)]
    rfl
  rw [h2] at h
  exact Option.some.inj h
theorem drop_at {l : List Int} {pos : Nat} {y t : List Int} (h : l.drop pos = y ++ t) (j : Nat) (x : Int) (hj : y[j]? = some x) : l[pos + j]? = some x := by
  have hlt : j < y.length := by
    rcases Nat.lt_or_ge j y.length with h1 | h1
    · exact h1
    · rw [List.getElem?_eq_none h1] at hj
      cases hj
  rw [← List.getElem?_drop, h, List.getElem?_append_left hlt, hj]
theorem val_ok (c : Nat) (h : (c : Int) ≤ 1114111) (h2 : ¬ (55296 ≤ (c : Int) ∧ (c : Int) ≤ 57343)) : Utf8.valid (c : Int) = true := by
  unfold Utf8.valid
  by_cases k : (c : Int) < 55296
  · rw [decide_eq_true (show (0 : Int) ≤ c by omega), decide_eq_true (show (c : Int) < 0xD800 by omega)]
    rfl
  · rw [decide_eq_true (show (0xE000 : Int) ≤ c by omega), decide_eq_true (show (c : Int) ≤ 0x10FFFF by omega)]
    simp
theorem dec_eq (s : ByteArray) (pos n0 n1 n2 n3 : Nat) (e0 : (s.get! (pos + 0)).toNat = n0) (e1 : (s.get! (pos + 1)).toNat = n1) (e2 : (s.get! (pos + 2)).toNat = n2) (e3 : (s.get! (pos + 3)).toNat = n3) :
    Utf8.decode s pos = if n0 < 0x80 then (n0, 1)
      else if (n0 / 32 == 6 && (decide (pos + 1 < s.size) && n1 / 64 == 2)) = true then (if n0 % 32 * 64 + n1 % 64 ≥ 0x80 then (n0 % 32 * 64 + n1 % 64, 2) else (0xFFFD, 1))
      else if (n0 / 16 == 14 && (decide (pos + 1 < s.size) && n1 / 64 == 2) && (decide (pos + 2 < s.size) && n2 / 64 == 2)) = true then
        (if (decide (n0 % 16 * 4096 + n1 % 64 * 64 + n2 % 64 ≥ 0x800) && Utf8.valid ((n0 % 16 * 4096 + n1 % 64 * 64 + n2 % 64 : Nat) : Int)) = true then (n0 % 16 * 4096 + n1 % 64 * 64 + n2 % 64, 3) else (0xFFFD, 1))
      else if (n0 / 8 == 30 && (decide (pos + 1 < s.size) && n1 / 64 == 2) && (decide (pos + 2 < s.size) && n2 / 64 == 2) && (decide (pos + 3 < s.size) && n3 / 64 == 2)) = true then
        (if (decide (n0 % 8 * 262144 + n1 % 64 * 4096 + n2 % 64 * 64 + n3 % 64 ≥ 0x10000) && Utf8.valid ((n0 % 8 * 262144 + n1 % 64 * 4096 + n2 % 64 * 64 + n3 % 64 : Nat) : Int)) = true then (n0 % 8 * 262144 + n1 % 64 * 4096 + n2 % 64 * 64 + n3 % 64, 4) else (0xFFFD, 1))
      else (0xFFFD, 1) := by
  subst e0 e1 e2 e3
  unfold Utf8.decode Utf8.runeError
  simp only [Bool.and_eq_true, decide_eq_true_eq]
theorem decode_enc (s : ByteArray) (pos : Nat) (u : Int) (t : List Int) (hu : Scal u) (h : (bytesOf s).drop pos = enc u ++ t) : ((Utf8.decode s pos).1 : Int) = u ∧ (Utf8.decode s pos).2 = (enc u).length ∧ pos < s.size := by
  obtain ⟨u0, u1, u2⟩ := hu
  unfold enc at h ⊢
  by_cases a1 : u < 128
  · rw [if_pos a1] at h ⊢
    obtain ⟨p0, q0⟩ := bt_get s (pos + 0) u (drop_at h 0 u rfl)
    rw [dec_eq s pos _ _ _ _ rfl rfl rfl rfl, if_pos (by omega)]
    exact ⟨q0, rfl, p0⟩
  rw [if_neg a1] at h ⊢
  by_cases a2 : u < 2048
  · rw [if_pos a2] at h ⊢
    obtain ⟨p0, q0⟩ := bt_get s (pos + 0) _ (drop_at h 0 _ rfl)
    obtain ⟨p1, q1⟩ := bt_get s (pos + 1) _ (drop_at h 1 _ rfl)
    obtain ⟨n0, e0⟩ : ∃ n, (s.get! (pos + 0)).toNat = n := ⟨_, rfl⟩
    obtain ⟨n1, e1⟩ : ∃ n, (s.get! (pos + 1)).toNat = n := ⟨_, rfl⟩
    obtain ⟨n2, e2⟩ : ∃ n, (s.get! (pos + 2)).toNat = n := ⟨_, rfl⟩
    obtain ⟨n3, e3⟩ : ∃ n, (s.get! (pos + 3)).toNat = n := ⟨_, rfl⟩
    rw [e0] at q0
    rw [e1] at q1
    rw [dec_eq s pos n0 n1 n2 n3 e0 e1 e2 e3]
    clear e0 e1 e2 e3
    rw [if_neg (show ¬ n0 < 0x80 by omega), decide_eq_true p1, beq_iff_eq.mpr (show n0 / 32 = 6 by omega), beq_iff_eq.mpr (show n1 / 64 = 2 by omega), if_pos (by rfl), if_pos (show n0 % 32 * 64 + n1 % 64 ≥ 0x80 by omega)]
    exact ⟨by show ((n0 % 32 * 64 + n1 % 64 : Nat) : Int) = u; omega, rfl, p0⟩
  rw [if_neg a2] at h ⊢
  by_cases a3 : u < 65536
  · rw [if_pos a3] at h ⊢
    obtain ⟨p0, q0⟩ := bt_get s (pos + 0) _ (drop_at h 0 _ rfl)
    obtain ⟨p1, q1⟩ := bt_get s (pos + 1) _ (drop_at h 1 _ rfl)
    obtain ⟨p2, q2⟩ := bt_get s (pos + 2) _ (drop_at h 2 _ rfl)
    obtain ⟨n0, e0⟩ : ∃ n, (s.get! (pos + 0)).toNat = n := ⟨_, rfl⟩
    obtain ⟨n1, e1⟩ : ∃ n, (s.get! (pos + 1)).toNat = n := ⟨_, rfl⟩
    obtain ⟨n2, e2⟩ : ∃ n, (s.get! (pos + 2)).toNat = n := ⟨_, rfl⟩
    obtain ⟨n3, e3⟩ : ∃ n, (s.get! (pos + 3)).toNat = n := ⟨_, rfl⟩
    rw [e0] at q0
    rw [e1] at q1
    rw [e2] at q2
    rw [dec_eq s pos n0 n1 n2 n3 e0 e1 e2 e3]
    clear e0 e1 e2 e3
    have hc : ((n0 % 16 * 4096 + n1 % 64 * 64 + n2 % 64 : Nat) : Int) = u := by omega
    have hv := val_ok (n0 % 16 * 4096 + n1 % 64 * 64 + n2 % 64) (by omega) (by omega)
    rw [if_neg (show ¬ n0 < 0x80 by omega), beq_eq_false_iff_ne.mpr (show n0 / 32 ≠ 6 by omega), Bool.false_and, if_neg (by decide), decide_eq_true p1, decide_eq_true p2, beq_iff_eq.mpr (show n0 / 16 = 14 by omega), beq_iff_eq.mpr (show n1 / 64 = 2 by omega), beq_iff_eq.mpr (show n2 / 64 = 2 by omega), if_pos (by rfl), hv, decide_eq_true (show n0 % 16 * 4096 + n1 % 64 * 64 + n2 % 64 ≥ 0x800 by omega), if_pos (by rfl)]
    exact ⟨hc, rfl, p0⟩
  · rw [if_neg a3] at h ⊢
    obtain ⟨p0, q0⟩ := bt_get s (pos + 0) _ (drop_at h 0 _ rfl)
    obtain ⟨p1, q1⟩ := bt_get s (pos + 1) _ (drop_at h 1 _ rfl)
    obtain ⟨p2, q2⟩ := bt_get s (pos + 2) _ (drop_at h 2 _ rfl)
    obtain ⟨p3, q3⟩ := bt_get s (pos + 3) _ (drop_at h 3 _ rfl)
    obtain ⟨n0, e0⟩ : ∃ n, (s.get! (pos + 0)).toNat = n := ⟨_, rfl⟩
    obtain ⟨n1, e1⟩ : ∃ n, (s.get! (pos + 1)).toNat = n := ⟨_, rfl⟩
    obtain ⟨n2, e2⟩ : ∃ n, (s.get! (pos + 2)).toNat = n := ⟨_, rfl⟩
    obtain ⟨n3, e3⟩ : ∃ n, (s.get! (pos + 3)).toNat = n := ⟨_, rfl⟩
    rw [e0] at q0
    rw [e1] at q1
    rw [e2] at q2
    rw [e3] at q3
    rw [dec_eq s pos n0 n1 n2 n3 e0 e1 e2 e3]
    clear e0 e1 e2 e3
    have hc : ((n0 % 8 * 262144 + n1 % 64 * 4096 + n2 % 64 * 64 + n3 % 64 : Nat) : Int) = u := by omega
    have hv := val_ok (n0 % 8 * 262144 + n1 % 64 * 4096 + n2 % 64 * 64 + n3 % 64) (by omega) (by omega)
    rw [if_neg (show ¬ n0 < 0x80 by omega), beq_eq_false_iff_ne.mpr (show n0 / 32 ≠ 6 by omega), Bool.false_and, if_neg (by decide), beq_eq_false_iff_ne.mpr (show n0 / 16 ≠ 14 by omega), Bool.false_and, Bool.false_and, if_neg (by decide), decide_eq_true p1, decide_eq_true p2, decide_eq_true p3, beq_iff_eq.mpr (show n0 / 8 = 30 by omega), beq_iff_eq.mpr (show n1 / 64 = 2 by omega), beq_iff_eq.mpr (show n2 / 64 = 2 by omega), beq_iff_eq.mpr (show n3 / 64 = 2 by omega), if_pos (by rfl), hv, decide_eq_true (show n0 % 8 * 262144 + n1 % 64 * 4096 + n2 % 64 * 64 + n3 % 64 ≥ 0x10000 by omega), if_pos (by rfl)]
    exact ⟨hc, rfl, p0⟩
/-- All units. -/
theorem scan_units : ∀ (m : Nat) (l : List Int), (∀ x ∈ l, Byte x) → l.length ≤ m → (scan m l).2 = true → ∃ us : List Int, (∀ u ∈ us, Scal u) ∧ l = us.flatMap enc ∧ (scan m l).1 = us
  | 0, l, _, h, _ => by
    obtain rfl : l = [] := List.eq_nil_of_length_eq_zero (by omega)
    exact ⟨[], by simp, rfl, rfl⟩
  | m + 1, [], _, _, _ => ⟨[], by simp, rfl, rfl⟩
  | m + 1, a :: t, hb, hl, hs => by
    rw [scan] at hs ⊢
    rcases dec_cases (a :: t) hb with ⟨hd, _⟩ | ⟨n, _, _, _, hd⟩ | ⟨u, t', hu, hyt, hd⟩
    · rw [hd, if_neg (by decide)] at hs
      cases hs
    · have h0 : ¬ (dec (a :: t)).1 = 0 := by
        rw [hd]
        exact (by decide : ¬ (10 : Int) = 0)
      rw [if_neg h0] at hs
      cases hs
    · have h0 : (dec (a :: t)).1 = 0 := by rw [hd]; rfl
      have hn : (dec (a :: t)).2.1.toNat = (enc u).length := by rw [hd]; simp [U8.good]
      have hv : (dec (a :: t)).2.2.2.1 = u := by rw [hd]; rfl
      have hdr : (a :: t).drop (enc u).length = t' := by rw [hyt, List.drop_left]
      have hlen := congrArg List.length hyt
      rw [List.length_append] at hlen
      have he := enc_len_bd u
      rw [if_pos h0, hn, hdr] at hs ⊢
      obtain ⟨us, k1, k2, k3⟩ := scan_units m t' (fun x hx => hb x (by rw [hyt]; exact List.mem_append_right _ hx)) (by omega) hs
      refine ⟨u :: us, ?_, ?_, ?_⟩
      · intro x hx
        rcases List.mem_cons.1 hx with rfl | hx
        · exact hu
        · exact k1 x hx
      · rw [hyt, List.flatMap_cons, ← k2]
      · rw [hv, k3]
theorem units_len : ∀ us : List Int, us.length ≤ (us.flatMap enc).length
  | [] => Nat.le_refl _
  | u :: us => by
    have := units_len us
    have he := enc_len_bd u
    rw [List.flatMap_cons, List.length_append, List.length_cons]
    omega
/-- The runes of a text that begins with units. -/
theorem runes_units (s : ByteArray) : ∀ (us : List Int) (f pos : Nat) (t : List Int), (∀ u ∈ us, Scal u) → (bytesOf s).drop pos = us.flatMap enc ++ t → runesF s (f + us.length) pos = us ++ runesF s f (pos + (us.flatMap enc).length)
  | [], f, pos, t, _, _ => by simp
  | u :: us, f, pos, t, hu, h => by
    rw [List.flatMap_cons, List.append_assoc] at h
    obtain ⟨d1, d2, d3⟩ := decode_enc s pos u _ (hu u (List.mem_cons_self ..)) h
    have h2 : (bytesOf s).drop (pos + (enc u).length) = us.flatMap enc ++ t := by
      rw [← List.drop_drop, h, List.drop_left]
    rw [List.length_cons, show f + (us.length + 1) = (f + us.length) + 1 by omega, runesF, if_pos d3, d1, d2, runes_units s us f (pos + (enc u).length) t (fun x hx => hu x (List.mem_cons_of_mem _ hx)) h2, List.flatMap_cons, List.length_append, Nat.add_assoc]
    rfl
theorem bytesOf_app (a b : ByteArray) : bytesOf (a ++ b) = bytesOf a ++ bytesOf b := by
  unfold bytesOf
  simp
theorem more_runes (a b : ByteArray) (h : vb a = true) : ∃ r, runes (a ++ b) = runes a ++ r := by
  obtain ⟨us, k1, k2, k3⟩ := scan_units _ _ (bytes_byte a) (Nat.le_refl _) h
  have hl := units_len us
  rw [← k2, bytesOf_length] at hl
  have hs : (a ++ b).size = a.size + b.size := ByteArray.size_append
  have h1 : runes a = us := by
    have := runes_units a us (a.size - us.length) 0 [] k1 (by rw [List.drop_zero, List.append_nil]; exact k2)
    rw [show a.size - us.length + us.length = a.size by omega, runesF_end a (a.size - us.length) (0 + (us.flatMap enc).length) (by rw [Nat.zero_add, ← k2, bytesOf_length]; omega), List.append_nil] at this
    exact this
  have h2 := runes_units (a ++ b) us ((a ++ b).size - us.length) 0 (bytesOf b) k1 (by rw [List.drop_zero, bytesOf_app, ← k2])
  rw [show (a ++ b).size - us.length + us.length = (a ++ b).size by omega] at h2
  rw [h1]
  exact ⟨_, h2⟩
end Go.Proofs.Ytkbblppoalgkmaa.De
