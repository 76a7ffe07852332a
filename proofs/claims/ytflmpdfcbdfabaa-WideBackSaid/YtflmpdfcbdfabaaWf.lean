/- Whether a state is one of a kind's, walked; what a shape gets of bytes, walked. -/
import Derived.Test.YtflmpdfcbdfabaaWs
namespace Go.Proofs.Ytflmpdfcbdfabaa.Wd
open Go.RowKit Go.Proofs.YtflmpdfcbdfabaaW.PrintWords Go.Proofs.YtflmpdfcbdfabaaW.PrintLast Go.Proofs.YtflmpdfcbdfabaaW.PrintMore
open Go.Proofs.Ytflmpdfcbdfabaa.PWideGets
attribute [local go_sem high] eqA24
def stV (mode bits acc held : Int) : Value := .agg #[.int .i64 mode, .int .i64 bits, .int .u32 acc, .int .i32 held]
set_option maxRecDepth 100000 in
theorem fits_bad (n mode bits acc held : Int) (pairs marks low : Bool) (w : World) (hz : (bits == 0 && (acc == 0 && held == 0)) = false) : Calls Try.prog 18 #[shV n pairs marks low, stV mode bits acc held] w fun e w' => e = .returned (.bool false) ∧ Below w.heap.size w w' := by
  cases marks
  all_goals
    unfold shV stV
    generalize fN low = F1
    generalize fS low = F2
    go_enter Try.func18, Try.ntmps18
    go_wp2_with fail
    go_ret
    exact ⟨rfl, below_alloc (below_alloc (Below.refl _ _) _) _⟩
set_option maxRecDepth 100000 in
theorem fits_zero (n : Int) (pairs marks low : Bool) (w : World) : Calls Try.prog 18 #[shV n pairs marks low, stV 0 0 0 0] w fun e w' => e = .returned (.bool true) ∧ Below w.heap.size w w' := by
  unfold shV stV
  generalize fN low = F1
  generalize fS low = F2
  go_enter Try.func18, Try.ntmps18
  go_wp2_with fail
  go_ret
  exact ⟨rfl, below_alloc (below_alloc (Below.refl _ _) _) _⟩
set_option maxRecDepth 100000 in
theorem fits_mode (n mode : Int) (pairs marks low : Bool) (w : World) (h0 : (mode == 0) = false) (hm : marks = false ∨ mode = 1 ∨ mode = 2 ∨ ((mode == 1) = false ∧ (mode == 2) = false)) : Calls Try.prog 18 #[shV n pairs marks low, stV mode 0 0 0] w fun e w' => e = .returned (.bool (decide (marks = true ∧ (mode = 1 ∨ mode = 2)))) ∧ Below w.heap.size w w' := by
  rcases hm with rfl | rfl | rfl | ⟨h1, h2⟩
  · unfold shV stV
    generalize fN low = F1
    generalize fS low = F2
    go_enter Try.func18, Try.ntmps18
    go_wp2_with fail
    go_ret
    exact ⟨rfl, below_alloc (below_alloc (Below.refl _ _) _) _⟩
  · cases marks
    all_goals
      unfold shV stV
      generalize fN low = F1
      generalize fS low = F2
      go_enter Try.func18, Try.ntmps18
      go_wp2_with fail
      go_ret
      exact ⟨rfl, below_alloc (below_alloc (Below.refl _ _) _) _⟩
  · cases marks
    all_goals
      unfold shV stV
      generalize fN low = F1
      generalize fS low = F2
      go_enter Try.func18, Try.ntmps18
      go_wp2_with fail
      go_ret
      exact ⟨rfl, below_alloc (below_alloc (Below.refl _ _) _) _⟩
  · have hd : decide (marks = true ∧ (mode = 1 ∨ mode = 2)) = false := decide_eq_false (by rw [beq_eq_false_iff_ne] at h1 h2; omega)
    rw [hd]
    clear hd
    cases marks
    all_goals
      unfold shV stV
      generalize fN low = F1
      generalize fS low = F2
      go_enter Try.func18, Try.ntmps18
      go_wp2_with fail
      go_ret
      exact ⟨rfl, below_alloc (below_alloc (Below.refl _ _) _) _⟩
theorem fitsC (n mode bits acc held : Int) (pairs marks low : Bool) (w : World) (h : Fit marks mode bits acc held) : Calls Try.prog 18 #[shV n pairs marks low, stV mode bits acc held] w fun e w' => e = .returned (.bool true) ∧ Below w.heap.size w w' := by
  obtain ⟨rfl, rfl, rfl, h⟩ := h
  rcases h with rfl | ⟨rfl, h⟩
  · exact fits_zero n pairs marks low w
  · have := fits_mode n mode pairs true low w (beq_eq_false_iff_ne.2 (by omega)) (by omega)
    rwa [decide_eq_true (show true = true ∧ (mode = 1 ∨ mode = 2) from ⟨rfl, h⟩)] at this
theorem fitsC_not (n mode bits acc held : Int) (pairs marks low : Bool) (w : World) (h : ¬ Fit marks mode bits acc held) : Calls Try.prog 18 #[shV n pairs marks low, stV mode bits acc held] w fun e w' => e = .returned (.bool false) ∧ Below w.heap.size w w' := by
  by_cases hz : bits = 0 ∧ acc = 0 ∧ held = 0
  · obtain ⟨rfl, rfl, rfl⟩ := hz
    unfold Fit at h
    have h0 : mode ≠ 0 := fun h0 => h ⟨rfl, rfl, rfl, .inl h0⟩
    have hm : ¬ (marks = true ∧ (mode = 1 ∨ mode = 2)) := fun hm => h ⟨rfl, rfl, rfl, .inr hm⟩
    have := fits_mode n mode pairs marks low w (beq_eq_false_iff_ne.2 h0) (by
      cases marks
      · exact .inl rfl
      · refine .inr (.inr (.inr ⟨beq_eq_false_iff_ne.2 fun h1 => hm ⟨rfl, .inl h1⟩, beq_eq_false_iff_ne.2 fun h1 => hm ⟨rfl, .inr h1⟩⟩)))
    rwa [decide_eq_false hm] at this
  · refine fits_bad n mode bits acc held pairs marks low w ?_
    simp only [Bool.and_eq_false_iff, beq_eq_false_iff_ne]
    omega
end Go.Proofs.Ytflmpdfcbdfabaa.Wd
