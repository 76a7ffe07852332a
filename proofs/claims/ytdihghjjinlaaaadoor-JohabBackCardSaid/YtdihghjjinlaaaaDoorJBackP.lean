/- JohabBack: what is written, what is read of it, and what is written of what was read. No condition. -/
import Derived.Test.YtdihghjjinlaaaaDoorJSyl
import Derived.Test.YtdihghjjinlaaaaDoorJApp
namespace Go.Proofs.YtdihghjjinlaaaaDoor.J
open Go.RowKit Go.Proofs.YtdihghjjinlaaaaDoorW.PrintWords Go.Proofs.YtdihghjjinlaaaaDoorW.PrintLast Go.Proofs.YtdihghjjinlaaaaDoorW.PrintMore
theorem bytesOf_strB (l : List Int) (h : ∀ x ∈ l, 0 ≤ x ∧ x < 256) : bytesOf (strOfNums l) = l := by
  unfold bytesOf strOfNums
  simp only [List.map_map]
  conv => rhs; rw [← List.map_id l]
  apply List.map_congr_left
  intro x hx
  have := h x hx
  simp [UInt8.toNat_ofNat']
  omega
theorem str_lenB (a : List Int) : (strOfNums a).size = a.length := by unfold strOfNums ByteArray.size; simp
theorem got_syl {u : Int} (h : 44032 ≤ u ∧ u ≤ 55203) (l : List Int) : GotIs (cd u / 256 :: cd u % 256 :: l) 0 2 1 u := by
  have hb := cd_bd h
  have he : cd u / 256 * 256 + cd u % 256 = cd u := by omega
  obtain ⟨hc, p1, p2, p3⟩ := code_unpack (parts_ok h)
  have hc' : Code (cd u / 256 * 256 + cd u % 256) := by rw [he]; exact hc
  have g := GotIs.two (cd u / 256) (cd u % 256) l (by omega) (by omega) (by omega) (by omega) ⟨(cd u % 256).toNat, by omega, by rw [show (((cd u % 256).toNat : Nat) : Int) = cd u % 256 by omega]; exact hc'⟩ hc'
  rw [he] at g
  have hs : syl (ua (cd u)) (ub (cd u)) (uc (cd u)) = u := by
    unfold cd
    rw [p1, p2, p3]
    exact syl_parts u
  rw [hs] at g
  exact g
/-- What Set answers of u: the error and the bytes. -/
def SetIs (u e : Int) (b : List Int) : Prop := (∀ W, Tab W → Calls Tryd.prog 13 #[.int .i32 u] W fun en w' => en = .returned (put e (strOfNums b)) ∧ Below W.heap.size W w')
def Written (u e : Int) (b : List Int) : Prop := SetIs u e b ∧ ((e = 0 ∧ 1 ≤ b.length ∧ b.length ≤ 2 ∧ (∀ x ∈ b, 0 ≤ x ∧ x < 256) ∧ ∀ l, GotIs (b ++ l) 0 b.length 1 u) ∨ (e == 0) = false)
theorem set_ex (u : Int) (hu : (Lit.int .i32 u).wf = true) : ∃ e b, Written u e b := by
  by_cases h1 : u = 8361
  · subst h1
    exact ⟨0, [92], fun W _ => set_won W, .inl ⟨rfl, by decide, by decide, by simp, fun l => .won l⟩⟩
  · by_cases h2 : 0 ≤ u ∧ u < 128 ∧ u ≠ 92
    · exact ⟨0, [u], fun W _ => set_low u W h2.1 h2.2.1 h2.2.2, .inl ⟨rfl, by simp, by simp, by simp; omega, fun l => .low u l h2.2.2 h2.1 h2.2.1⟩⟩
    · by_cases h3 : 44032 ≤ u ∧ u ≤ 55203
      · have hb := cd_bd h3
        exact ⟨0, [cd u / 256, cd u % 256], fun W ht => set_syl u W h3 ht, .inl ⟨rfl, by simp, by simp, by simp; omega, fun l => got_syl h3 l⟩⟩
      · exact ⟨11, [], fun W _ => set_none u W hu h3 h1 h2, .inr rfl⟩
/-- What is read of l, and what is written of it. -/
def Again (l : List Int) (e n k u : Int) : Prop := GotIs l e n k u ∧ ((e = 1 ∧ n = 0) ∨ (e = 10 ∧ 1 ≤ n ∧ n ≤ 2 ∧ n ≤ l.length) ∨ (e = 0 ∧ ∃ j : Nat, n = (j : Int) ∧ j ≤ l.length ∧ SetIs u 0 (l.take j)))
theorem fa_syl {a b c : Int} (h : Ok a b c) : (44032 ≤ syl a b c ∧ syl a b c ≤ 55203) ∧ fa (syl a b c) = a ∧ fb (syl a b c) = b ∧ fc (syl a b c) = c := by
  obtain ⟨⟨a1, a2⟩, ⟨b1, b2⟩, c1, c2⟩ := h
  unfold syl fa fb fc
  omega
theorem again_ex (l : List Int) (hl : ∀ x ∈ l, 0 ≤ x ∧ x < 256) : ∃ e n k u, Again l e n k u := by
  obtain ⟨e, n, k, u, h⟩ := got_ex l hl
  refine ⟨e, n, k, u, h, ?_⟩
  cases h with
  | none => exact .inl ⟨rfl, rfl⟩
  | won t => exact .inr (.inr ⟨rfl, 1, rfl, by simp, fun W _ => set_won W⟩)
  | low t _ h h0 h1 => exact .inr (.inr ⟨rfl, 1, rfl, by simp, fun W _ => set_low _ W h0 h1 h⟩)
  | bad a t h h1 hb => exact .inr (.inl ⟨rfl, by omega, by omega, by simp; omega⟩)
  | more h h1 hb => exact .inl ⟨rfl, rfl⟩
  | ill a b t h h1 h2 h3 hb hc => exact .inr (.inl ⟨rfl, by omega, by omega, by simp; omega⟩)
  | two a b t h h1 h2 h3 hb hc =>
    refine .inr (.inr ⟨rfl, 2, rfl, by simp, fun W ht => ?_⟩)
    obtain ⟨hr, p1, p2, p3⟩ := fa_syl hc.2
    have hs := set_syl _ W hr ht
    rw [p1, p2, p3, unpack_code hc, show (a * 256 + b) / 256 = a by omega, show (a * 256 + b) % 256 = b by omega] at hs
    exact hs
end Go.Proofs.YtdihghjjinlaaaaDoor.J
