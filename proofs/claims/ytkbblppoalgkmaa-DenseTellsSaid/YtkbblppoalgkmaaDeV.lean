/- utf8.Valid, plainly: it always answers. -/
import Derived.Test.YtkbblppoalgkmaaU8Get
import Derived.Test.YtkbblppoalgkmaaU8More
namespace Go.Proofs.Ytkbblppoalgkmaa.U8
open Go.RowKit Go.Proofs.YtkbblppoalgkmaaW.PrintWords Go.Proofs.YtkbblppoalgkmaaW.PrintLast Go.Proofs.YtkbblppoalgkmaaW.PrintMore Go.Proofs.Ytkbblppoalgkmaa.PDenseTells
set_option linter.unusedVariables false
/-- The scalars of a text of bytes, and whether it is all of units. -/
def scan : Nat → List Int → List Int × Bool
  | 0, _ => ([], true)
  | _ + 1, [] => ([], true)
  | f + 1, a :: t => if (dec (a :: t)).1 = 0 then ((dec (a :: t)).2.2.2.1 :: (scan f ((a :: t).drop (dec (a :: t)).2.1.toNat)).1, (scan f ((a :: t).drop (dec (a :: t)).2.1.toNat)).2) else ([], false)
theorem scan_nil (f : Nat) : scan f [] = ([], true) := by cases f <;> rfl
theorem valid_l (l : List Int) (hl : ∀ x ∈ l, Byte x) (hs : l.length ≤ 140737488355328) : ∀ (m off : Nat), off ≤ l.length → l.length - off ≤ m → ∃ n : Int, ∀ k, utf8_Valid.l0 (k + m + 8) l (off : Int) = some (n, (scan m (l.drop off)).2) := by
  intro m
  induction m with
  | zero =>
    intro off h1 h2
    refine ⟨(off : Int), fun k => ?_⟩
    rw [show k + 0 + 8 = (k + 7) + 1 by omega, utf8_Valid.l0, if_neg (by omega)]
    rfl
  | succ m ih =>
    intro off h1 h2
    by_cases hlt : off < l.length
    · have hne : l.drop off ≠ [] := fun h => by
        have := congrArg List.length h
        rw [List.length_drop] at this
        simp at this
        omega
      have hbs : ∀ x ∈ l.drop off, Byte x := fun x hx => hl x (List.mem_of_mem_drop hx)
      have hget : ∀ k, utf8_Get.f (k + m + 8) (l.drop off) = some (dec (l.drop off)) := fun k => by
        rw [show k + m + 8 = (k + m + 2) + 6 by omega]
        exact get_is _ hbs _
      obtain ⟨a, t, hat⟩ : ∃ a t, l.drop off = a :: t := by
        cases hd : l.drop off with
        | nil => exact absurd hd hne
        | cons a t => exact ⟨a, t, rfl⟩
      have hsc : scan (m + 1) (l.drop off) = if (dec (l.drop off)).1 = 0 then ((dec (l.drop off)).2.2.2.1 :: (scan m ((l.drop off).drop (dec (l.drop off)).2.1.toNat)).1, (scan m ((l.drop off).drop (dec (l.drop off)).2.1.toNat)).2) else ([], false) := by
        rw [hat, scan]
      by_cases h0 : (dec (l.drop off)).1 = 0
      · have hgood : ∃ n : Nat, (dec (l.drop off)).2.1 = (n : Int) ∧ 1 ≤ n ∧ n ≤ l.length - off := by
          rcases dec_cases (l.drop off) hbs with ⟨hd, _⟩ | ⟨n, _, _, _, hd⟩ | ⟨u, t', hu, hyt, hd⟩
          · rw [hd] at h0
            exact absurd h0 (by decide)
          · rw [hd] at h0
            exact absurd h0 (show ¬ (10 : Int) = 0 by decide)
          · refine ⟨(enc u).length, ?_, (enc_len_bd u).1, ?_⟩
            · rw [hd]
              rfl
            · have := congrArg List.length hyt
              rw [List.length_drop, List.length_append] at this
              omega
        obtain ⟨n, hn, n1, n2⟩ := hgood
        obtain ⟨r, hr⟩ := ih (off + n) (by omega) (by omega)
        refine ⟨r, fun k => ?_⟩
        have hw : wrap64 ((off : Int) + (n : Int)) = ((off + n : Nat) : Int) := by unfold wrap64; omega
        rw [show k + (m + 1) + 8 = (k + m + 8) + 1 by omega, utf8_Valid.l0, if_pos (by omega), if_pos (by omega), if_pos (by omega), Int.toNat_natCast, hget k, Option.bind_some, if_pos h0, hn, hw, hr k, hsc, if_pos h0, hn, Int.toNat_natCast, List.drop_drop]
      · refine ⟨(off : Int), fun k => ?_⟩
        rw [show k + (m + 1) + 8 = (k + m + 8) + 1 by omega, utf8_Valid.l0, if_pos (by omega), if_pos (by omega), if_pos (by omega), Int.toNat_natCast, hget k, Option.bind_some, if_neg h0, hsc, if_neg h0]
    · refine ⟨(off : Int), fun k => ?_⟩
      rw [show k + (m + 1) + 8 = (k + m + 8) + 1 by omega, utf8_Valid.l0, if_neg (by omega), List.drop_eq_nil_of_le (by omega), scan_nil]
theorem validC (A : Option Addr) (c : Nat) (l : List Int) (w : World) (hC : Kd.C (Kd.int .u8) w A l.length l) (hc : l.length ≤ c) (hb : ∀ x ∈ l, Byte x) (hlen : l.length ≤ 140737488355328) :
    Calls Try.prog 14 #[.slice A l.length c] w fun e w' => ∃ n, e = .returned (.tuple #[.int .i64 n, .bool (scan l.length l).2]) ∧ Below w.heap.size w w' := by
  obtain ⟨n, hn⟩ := valid_l l hb hlen l.length 0 (Nat.zero_le _) (by omega)
  have h := hn 0
  refine (utf8_Valid.calls (0 + l.length + 8) A c l n (scan l.length l).2 w hC hc ?_).mono ?_
  · unfold utf8_Valid.f
    exact h
  · rintro e w' ⟨rfl, hbb⟩
    exact ⟨n, rfl, by first | exact hbb | exact pw_below_drewN (Below.refl _ _) _⟩
end Go.Proofs.Ytkbblppoalgkmaa.U8
