/- wide.Set whole: whatever the kind, the state and the number. No condition. -/
import Derived.Test.YtflmpdfcbdfabaaWl
import Derived.Test.YtflmpdfcbdfabaaWn
import Derived.Test.YtflmpdfcbdfabaaWv
import Derived.Test.YtflmpdfcbdfabaaWp
namespace Go.Proofs.Ytflmpdfcbdfabaa.Wd
open Go.RowKit Go.Proofs.YtflmpdfcbdfabaaW.PrintWords Go.Proofs.YtflmpdfcbdfabaaW.PrintLast Go.Proofs.YtflmpdfcbdfabaaW.PrintMore
theorem marked0 {kind n : Int} {pairs low : Bool} (h : shp kind 0 = some (n, pairs, true, low)) : (n = 2 ∧ pairs = true ∨ n = 4 ∧ pairs = false) ∧ low = false := by
  rcases kinds h with ⟨_, _, _, h3, _⟩ | ⟨_, _, _, h3, _⟩ | ⟨_, h1, h2, _, h4⟩ | ⟨_, _, _, h3, _⟩ | ⟨_, _, _, h3, _⟩ | ⟨_, h1, h2, _, h4⟩ | ⟨_, _, _, h3, _⟩ | ⟨_, _, _, h3, _⟩
  all_goals first | (cases h3; done) | (refine ⟨?_, h4⟩; first | exact .inl ⟨h1, h2⟩ | exact .inr ⟨h1, h2⟩)
theorem setC {kind mode bits acc held u e m : Int} {b : List Int} (w : World) (h : SW kind mode bits acc held u e b m) :
    Calls Try.prog 9 #[.int .i64 kind, stV mode bits acc held, .int .i32 u] w fun en w' => en = .returned (putV e (strOfNums b) m) ∧ Below w.heap.size w w' := by
  have hm0 : ∀ {marks : Bool}, ¬ (marks = true ∧ mode = 0) → marks = true → (mode == 0) = false := fun hm hk => beq_eq_false_iff_ne.2 fun h0 => hm ⟨hk, h0⟩
  cases h with
  | kind h => exact set_kind kind mode bits acc held u w h
  | state n pairs marks low h hf => exact set_state kind mode bits acc held n u pairs marks low w h hf
  | none n pairs marks low h hf hx =>
    by_cases hs : Scal u
    · obtain ⟨rfl, rfl, h6⟩ : n = 2 ∧ pairs = false ∧ 65535 < u := by
        rcases hx with hx | hx
        · exact absurd hs hx
        · exact hx
      exact set_none_two kind mode bits acc held u marks low w h hf hs h6
    · exact set_none_sc kind mode bits acc held u n pairs marks low w h hf hs
  | one n pairs marks low h hf hs h1 hm =>
    obtain ⟨rfl, rfl, rfl, hf4⟩ := hf
    have hf : Fit marks mode 0 0 0 := ⟨rfl, rfl, rfl, hf4⟩
    rcases (shp_ok h).1 with rfl | rfl
    · have h6 : u < 65536 := by omega
      cases low
      · exact set_one_false2 kind mode u 0 0 pairs marks false w h hf (hm0 hm) hs (fun W => splitC_no W (.inl h6)) rfl (.inr h6)
      · exact set_one_true2 kind mode u 0 0 pairs marks false w h hf (hm0 hm) hs (fun W => splitC_no W (.inl h6)) rfl (.inr h6)
    · rcases (show u < 65536 ∨ 65536 ≤ u by omega) with h6 | h6
      · cases low
        · exact set_one_false4 kind mode u 0 0 pairs marks false w h hf (hm0 hm) hs (fun W => splitC_no W (.inl h6))
        · exact set_one_true4 kind mode u 0 0 pairs marks false w h hf (hm0 hm) hs (fun W => splitC_no W (.inl h6))
      · cases low
        · exact set_one_false4 kind mode u _ _ pairs marks true w h hf (hm0 hm) hs (fun W => splitC W h6 hs.2.1)
        · exact set_one_true4 kind mode u _ _ pairs marks true w h hf (hm0 hm) hs (fun W => splitC W h6 hs.2.1)
  | two marks low h hf hs h6 hm =>
    obtain ⟨rfl, rfl, rfl, hf4⟩ := hf
    have hf : Fit marks mode 0 0 0 := ⟨rfl, rfl, rfl, hf4⟩
    have h7 : u ≤ 1114111 := hs.2.1
    cases low
    · exact set_two_false kind mode u _ _ marks w h hf (hm0 hm) hs (fun W => splitC W h6 hs.2.1) (by omega) (by omega)
    · exact set_two_true kind mode u _ _ marks w h hf (hm0 hm) hs (fun W => splitC W h6 hs.2.1) (by omega) (by omega)
  | mOne n pairs low h hf hs h1 h0 =>
    subst h0
    obtain ⟨rfl, rfl, rfl, _⟩ := hf
    obtain ⟨hp, rfl⟩ := marked0 h
    rcases hp with ⟨rfl, rfl⟩ | ⟨rfl, rfl⟩
    · have h6 : u < 65536 := by omega
      exact set_mOne2 kind u 0 0 false w h hs (fun W => splitC_no W (.inl h6)) rfl
    · rcases (show u < 65536 ∨ 65536 ≤ u by omega) with h6 | h6
      · exact set_mOne4 kind u 0 0 false w h hs (fun W => splitC_no W (.inl h6))
      · exact set_mOne4 kind u _ _ true w h hs (fun W => splitC W h6 hs.2.1)
  | mTwo low h hf hs h6 h0 =>
    subst h0
    obtain ⟨rfl, rfl, rfl, _⟩ := hf
    obtain ⟨_, rfl⟩ := marked0 h
    have h7 : u ≤ 1114111 := hs.2.1
    rw [← List.append_assoc]
    exact set_mTwo kind u _ _ w h hs (fun W => splitC W h6 hs.2.1) (by omega) (by omega)
end Go.Proofs.Ytflmpdfcbdfabaa.Wd
