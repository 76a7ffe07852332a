/- wide.Set, walked: two surrogates, no mark. -/
import Derived.Test.YtflmpdfcbdfabaaWm
import Derived.Lib.SmallJoins
import Derived.Deep.RegionHeld3
import Derived.Deep.DrawnRows
namespace Go.Proofs.Ytflmpdfcbdfabaa.Wd
open Go.RowKit Go.Proofs.YtflmpdfcbdfabaaW.PrintWords Go.Proofs.YtflmpdfcbdfabaaW.PrintLast Go.Proofs.YtflmpdfcbdfabaaW.PrintMore
attribute [local go_sem ↓] Go.wp_at_zero Go.wp_at_succ
def RowEnd (w : World) (l : List Int) (e : Ending) (w' : World) : Prop := ∃ g c, e = .returned (.slice (some ⟨g, 0, none⟩) l.length c) ∧ w'.ownsRow w.heap.size 5 1 (.slice (some ⟨g, 0, none⟩) l.length c) l.length (nums .u8 l) ∧ Below w.heap.size w w'
theorem row_end {f : Nat} {args : Array Value} {w : World} {l : List Int} (h : Calls Try.prog f args w (BytesEnd w l)) (hl : 0 < l.length) : Calls Try.prog f args w (RowEnd w l) := by
  refine h.mono ?_
  rintro e w1 ⟨v, rfl, ho, hb⟩
  obtain ⟨g, c, rfl⟩ := Go.Joins.ownsRow_form ho hl
  exact ⟨g, c, rfl, ho, hb⟩
theorem own_apart {W W1 : World} {base : Nat} {e : TypeId} {size n : Nat} {v : Value} {xs : List Value} {row : Option Nat} (h : W.ownsRow base e size v n xs) (hg : W.grownBy W1 row) (hr : ∀ k, row = some k → k < base) : W1.ownsRow base e size v n xs := by
  refine h.kept hg ?_
  by_cases hv : v.ownBlock = none
  · exact .inl hv
  · refine .inr fun he => ?_
    obtain ⟨k, hk⟩ := Option.ne_none_iff_exists'.1 hv
    have h1 := own_base h k hk
    have h2 := hr k (he ▸ hk)
    omega
theorem below_on {B : Nat} {w W W1 : World} (h : Below B w W) (hB : B ≤ W.heap.size) (k : Below W.heap.size W W1) : Below B w W1 := below_then h hB k
set_option maxHeartbeats 4000000 in
set_option maxRecDepth 100000 in
theorem set_two_false (kind mode u x y : Int) (marks : Bool) (w : World) (hk : shp kind mode = some (2, true, marks, false)) (hf : Fit marks mode 0 0 0) (hm : marks = true → (mode == 0) = false) (hs : Scal u) (hsp : ∀ W, Calls Try.prog 20 #[.int .i32 u] W fun e w' => e = .returned (.tuple #[.int .i32 x, .int .i32 y, .bool true]) ∧ Drawn0 W w') (hxm : x % 4294967296 = x) (hym : y % 4294967296 = y) :
    Calls Try.prog 9 #[.int .i64 kind, stV mode 0 0 0, .int .i32 u] w fun en w' => en = .returned (putV 0 (strOfNums (un false 2 x ++ un false 2 y)) mode) ∧ Below w.heap.size w w' := by
  have h1l : (un false 2 x).length = 2 := by have := un_len false (show (2 : Int) = 2 ∨ (2 : Int) = 4 by decide) x; omega
  have HY1 : Hid (∀ W, Calls Try.prog 35 #[.int .u32 x, .int .i64 2] W (RowEnd W (un false 2 x))) := Lib.hid (fun W => row_end (bigS 2 x W (by decide)) (by omega))
  generalize un false 2 x = l1 at *
  have h1a : l1.length ≤ 2 := by omega
  clear h1l
  have h2l : (un false 2 y).length = 2 := by have := un_len false (show (2 : Int) = 2 ∨ (2 : Int) = 4 by decide) y; omega
  have HY2 : Hid (∀ W, Calls Try.prog 35 #[.int .u32 y, .int .i64 2] W (RowEnd W (un false 2 y))) := Lib.hid (fun W => row_end (bigS 2 y W (by decide)) (by omega))
  generalize un false 2 y = l2 at *
  have h2a : l2.length ≤ 2 := by omega
  clear h2l
  have HS : Hid (decide (Scal u) = true) := Lib.hid (decide_eq_true hs)
  have HSP := Lib.hid hsp
  have HK := Lib.hid hk
  have HF := Lib.hid hf
  have HM := Lib.hid hm
  clear hk hf hsp hs hm
  have hmm : marks = false ∨ (marks = true ∧ (mode == 0) = false) := by cases marks; exact .inl rfl; exact .inr ⟨rfl, HM.out rfl⟩
  clear HM
  rcases hmm with rfl | ⟨rfl, hmm⟩
  · skip
    unfold stV
    go_enter Try.func9, Try.ntmps9
    go_wp2_with fail
    refine (shapeC _ HK.out).mono ?_
    rintro e w1 ⟨rfl, hb1⟩
    rw [shV_eq, show fa false = 34 from rfl, show fb false = 35 from rfl]
    have ST0 : Hid ((w1).heap[w.heap.size]? = some (.cells #[.int .i64 mode, .int .i64 0, .int .u32 0, .int .i32 0] 24 (0, 0))) := Lib.hid (blk_below (blk_alloc (heap_alloc_new _ _) _) hb1)
    have RK0 : Hid ((w1).heap[w.heap.size + 1]? = some (.cells #[.int .i64 0, .string ⟨#[]⟩, .int .i64 0, .int .i64 0, .int .u32 0, .int .i32 0] 27 (0, 0))) := Lib.hid (blk_below (blk_second _ _ _) hb1)
    have HB0 : Hid (Below w.heap.size w (w1)) := Lib.hid (on (below_alloc (below_alloc (Below.refl _ _) _) _) hb1)
    have hg0 : w.heap.size + 1 < w1.heap.size := blk_lt RK0.out
    clear hb1
    have hg1 : w.heap.size < w1.heap.size := by omega
    have e0 := blk_cell ST0.out 0
    have e1 := blk_cell ST0.out 1
    have e2 := blk_cell ST0.out 2
    have e3 := blk_cell ST0.out 3
    go_wp2_with fail
    have hc := fitsC 2 mode 0 0 0 true false false (w1.alloc (.cells #[.int .i64 2, .bool true, .bool false, .func (.func 34) #[] #[], .func (.func 35) #[] #[]] 48)) HF.out
    rw [shV_eq, show fa false = 34 from rfl, show fb false = 35 from rfl] at hc
    unfold stV at hc
    refine hc.mono ?_
    clear hc
    rintro e w2 ⟨rfl, hb2⟩
    clear e0 e1 e2 e3
    have ST1 : Hid ((w2).heap[w.heap.size]? = some (.cells #[.int .i64 mode, .int .i64 0, .int .u32 0, .int .i32 0] 24 (0, 0))) := Lib.hid (blk_below (blk_alloc ST0.out _) hb2)
    have RK1 : Hid ((w2).heap[w.heap.size + 1]? = some (.cells #[.int .i64 0, .string ⟨#[]⟩, .int .i64 0, .int .i64 0, .int .u32 0, .int .i32 0] 27 (0, 0))) := Lib.hid (blk_below (blk_alloc RK0.out _) hb2)
    have SK1 : Hid ((w2).heap[w1.heap.size]? = some (.cells #[.int .i64 2, .bool true, .bool false, .func (.func 34) #[] #[], .func (.func 35) #[] #[]] 48 (0, 0))) := Lib.hid (blk_below (heap_alloc_new _ _) hb2)
    have HB1 : Hid (Below w.heap.size w (w2)) := Lib.hid (on (below_alloc HB0.out _) hb2)
    clear hb2 ST0 RK0 HB0
    have hg2 : w1.heap.size < w2.heap.size := blk_lt SK1.out
    have s0 := blk_cell SK1.out 0
    have s1 := blk_cell SK1.out 1
    have s2 := blk_cell SK1.out 2
    have s3 := blk_cell SK1.out 3
    have s4 := blk_cell SK1.out 4
    go_wp2_with fail
    refine (scalarC u _).mono ?_
    rintro e w3 ⟨rfl, hd3⟩
    rw [HS.out]
    clear s0 s1 s2 s3 s4
    have hb3 := hd3.below
    have ST2 : Hid ((w3).heap[w.heap.size]? = some (.cells #[.int .i64 mode, .int .i64 0, .int .u32 0, .int .i32 0] 24 (0, 0))) := Lib.hid (blk_below ST1.out hb3)
    have RK2 : Hid ((w3).heap[w.heap.size + 1]? = some (.cells #[.int .i64 0, .string ⟨#[]⟩, .int .i64 0, .int .i64 0, .int .u32 0, .int .i32 0] 27 (0, 0))) := Lib.hid (blk_below RK1.out hb3)
    have SK2 : Hid ((w3).heap[w1.heap.size]? = some (.cells #[.int .i64 2, .bool true, .bool false, .func (.func 34) #[] #[], .func (.func 35) #[] #[]] 48 (0, 0))) := Lib.hid (blk_below SK1.out hb3)
    have HB2 : Hid (Below w.heap.size w (w3)) := Lib.hid (on HB1.out hb3)
    clear hb3 hd3 ST1 RK1 SK1 HB1
    have hg5 : w1.heap.size < w3.heap.size := blk_lt SK2.out
    have hg6 : w.heap.size + 1 < w3.heap.size := by omega
    have hg7 : w.heap.size < w3.heap.size := by omega
    have e0 := blk_cell ST2.out 0
    have e1 := blk_cell ST2.out 1
    have e2 := blk_cell ST2.out 2
    have e3 := blk_cell ST2.out 3
    have s0 := blk_cell SK2.out 0
    have s1 := blk_cell SK2.out 1
    have s2 := blk_cell SK2.out 2
    have s3 := blk_cell SK2.out 3
    have s4 := blk_cell SK2.out 4
    go_wp2_with fail
    refine (HSP.out _).mono ?_
    rintro e w4 ⟨rfl, hd4⟩
    have hb4 := hd4.below
    have ST3 : Hid ((w4).heap[w.heap.size]? = some (.cells #[.int .i64 mode, .int .i64 0, .int .u32 0, .int .i32 0] 24 (0, 0))) := Lib.hid (blk_below ST2.out hb4)
    have RK3 : Hid ((w4).heap[w.heap.size + 1]? = some (.cells #[.int .i64 0, .string ⟨#[]⟩, .int .i64 0, .int .i64 0, .int .u32 0, .int .i32 0] 27 (0, 0))) := Lib.hid (blk_below RK2.out hb4)
    have SK3 : Hid ((w4).heap[w1.heap.size]? = some (.cells #[.int .i64 2, .bool true, .bool false, .func (.func 34) #[] #[], .func (.func 35) #[] #[]] 48 (0, 0))) := Lib.hid (blk_below SK2.out hb4)
    have HB3 : Hid (Below w.heap.size w (w4)) := Lib.hid (on HB2.out hb4)
    clear e0 e1 e2 e3
    clear s0 s1 s2 s3 s4
    clear hb4 hd4 ST2 RK2 SK2 HB2
    have hg8 : w1.heap.size < w4.heap.size := blk_lt SK3.out
    have hB1 : w1.heap.size < w4.heap.size := hg8
    have hg9 : w.heap.size + 1 < w4.heap.size := by omega
    have s0 := blk_cell SK3.out 0
    have s1 := blk_cell SK3.out 1
    have s2 := blk_cell SK3.out 2
    have s3 := blk_cell SK3.out 3
    have s4 := blk_cell SK3.out 4
    go_wp2_with fail
    clear s0 s1 s2 s3 s4
    have HZ0 : Hid (w4.heap.size ≤ w4.heap.size) := Lib.hid (Nat.le_refl _)
    have OB : Hid (w4.drew.ownsRow w4.heap.size 5 1 (.slice none 0 0) ([] : List Int).length (nums .u8 [])) := Lib.hid (own_nil _ _ _ _)
    have HV0 : Hid (∀ k, (Value.slice none 0 0).ownBlock = some k → k < w4.heap.size) := Lib.hid (fun k hk => by cases hk)
    have HX : Hid (Below w4.heap.size w4 w4.drew) := Lib.hid (below_drew (Below.refl _ _))
    have HZ : Hid (w4.heap.size ≤ w4.drew.heap.size ∧ w4.heap.size ≤ w4.drew.heap.size) := Lib.hid ⟨HZ0.out, Nat.le_refl _⟩
    have hs4 := blk_cell SK3.out 4
    have hwx : IntKind.u32.wrap x = x := by rw [IntKind.wrap_u32]; exact hxm
    have hwy : IntKind.u32.wrap y = y := by rw [IntKind.wrap_u32]; exact hym
    go_region_held3 (fun w' => w'.cell? ⟨w1.heap.size, 4, none⟩ = some (.func (.func 35) #[] #[])) (first | exact hs4 | exact (HX.out.cell (p := ⟨w1.heap.size, 4, none⟩) hB1).trans hs4) (first | (go_at_call 35; (with_reducible refine (HY1.out _).mono ?_); rintro e wa ⟨g1, c1, rfl, ho, hb⟩; have R1 := Lib.hid (Go.Joins.ownsRow_le ho HZ.out.2); (try replace OB := Lib.hid (own_on OB.out hb)); (try replace OA := Lib.hid (own_on OA.out hb)); (try replace R2 := Lib.hid (own_on R2.out hb)); have hz := HZ.out; have hsz := hb.size; replace HX := Lib.hid (below_on HX.out HZ.out.1 hb); clear HZ; have HZ : Hid (w4.heap.size ≤ wa.heap.size ∧ w4.heap.size ≤ wa.heap.size) := Lib.hid ⟨Nat.le_trans hz.1 hsz, Nat.le_trans hz.2 hsz⟩; clear ho hb hz hsz) | (go_at_call 35; (with_reducible refine (HY2.out _).mono ?_); rintro e wa ⟨g2, c2, rfl, ho, hb⟩; have R2 := Lib.hid (Go.Joins.ownsRow_le ho HZ.out.2); (try replace OB := Lib.hid (own_on OB.out hb)); (try replace OA := Lib.hid (own_on OA.out hb)); (try replace R1 := Lib.hid (own_on R1.out hb)); have hz := HZ.out; have hsz := hb.size; replace HX := Lib.hid (below_on HX.out HZ.out.1 hb); clear HZ; have HZ : Hid (w4.heap.size ≤ wa.heap.size ∧ w4.heap.size ≤ wa.heap.size) := Lib.hid ⟨Nat.le_trans hz.1 hsz, Nat.le_trans hz.2 hsz⟩; clear ho hb hz hsz) | (refine step_append_row (w0 := w4) w4.heap.size (by simp [Region.wanted]) (.tmp 75) (.tmp 81) rfl (.slice none 0 0) [] l1 ⟨g1, 0, none⟩ l1.length c1 (by simp [Act.eval]; try rfl) (by simp [Act.eval]; try rfl) OB.out (own_reads' R1.out) HX.out HZ.out.1 (by first | omega | (simp; omega)) ?_; intro va wa ho hb hg; have hsz := hg.size; have OA : Hid (wa.ownsRow w4.heap.size 5 1 va l1.length (nums .u8 l1)) := Lib.hid ho; (try replace R2 := Lib.hid (own_apart R2.out hg HV0.out)); clear OB HX; have HX := Lib.hid hb; have hz := HZ.out; clear HZ; have HZ : Hid (w4.heap.size ≤ wa.heap.size ∧ w4.heap.size ≤ wa.heap.size) := Lib.hid ⟨Nat.le_trans hz.1 hsz, Nat.le_trans hz.2 hsz⟩; clear ho hb hz hsz hg) | (refine step_append_row (w0 := w4) w4.heap.size (by simp [Region.wanted]) (.tmp 82) (.tmp 88) rfl va l1 l2 ⟨g2, 0, none⟩ l2.length c2 (by simp [Act.eval]; try rfl) (by simp [Act.eval]; try rfl) OA.out (own_reads' R2.out) HX.out HZ.out.1 (by first | omega | (simp; omega)) ?_; intro vb wb ho hb hg; have OC : Hid (wb.ownsRow w4.heap.size 5 1 vb (l1 ++ l2).length (nums .u8 (l1 ++ l2))) := Lib.hid ho; clear HX; have HX := Lib.hid hb; clear ho hb hg) | fail)
    all_goals
      have ST5 : Hid ((wb).heap[w.heap.size]? = some (.cells #[.int .i64 mode, .int .i64 0, .int .u32 0, .int .i32 0] 24 (0, 0))) := Lib.hid (blk_b ST3.out HX.out (by omega))
      have RK5 : Hid ((wb).heap[w.heap.size + 1]? = some (.cells #[.int .i64 0, .string ⟨#[]⟩, .int .i64 0, .int .i64 0, .int .u32 0, .int .i32 0] 27 (0, 0))) := Lib.hid (blk_b RK3.out HX.out (by omega))
      have HB5 : Hid (Below w.heap.size w (wb)) := Lib.hid (below_b HB3.out HB3.out.size HX.out)
      clear ST3 RK3 SK3 HX HB3 hs4 OA R1 R2
      obtain ⟨A8, c8, rfl, hr8⟩ := own_reads OC.out
      have hcv : (convert 30 9 (.slice A8 (l1 ++ l2).length c8)).run Try.prog wb = .ok (.string (strOfNums (l1 ++ l2))) wb := Kd.C_string (P := Try.prog) Try.underlying30 Try.underlying5 Try.underlying9 (Kd.C_of_reads (d := (0 : Int)) hr8)
      clear hr8
      obtain ⟨S8, hS8⟩ : ∃ S, S = strOfNums (l1 ++ l2) := ⟨_, rfl⟩
      rw [← hS8] at hcv
      simp only [List.length_append] at hcv
      have HS8 := Lib.hid hS8
      clear hS8
      have e0 := blk_cell ST5.out 0
      have e1 := blk_cell ST5.out 1
      have e2 := blk_cell ST5.out 2
      have e3 := blk_cell ST5.out 3
      have r0 := blk_cell RK5.out 0
      have r1 := blk_cell RK5.out 1
      have r2 := blk_cell RK5.out 2
      have r3 := blk_cell RK5.out 3
      have r4 := blk_cell RK5.out 4
      have r5 := blk_cell RK5.out 5
      have q0 := blk_frozen RK5.out 0
      have q1 := blk_frozen RK5.out 1
      have q2 := blk_frozen RK5.out 2
      have q3 := blk_frozen RK5.out 3
      have q4 := blk_frozen RK5.out 4
      have q5 := blk_frozen RK5.out 5
      go_wp2_with fail
      refine bodyPost_ret (results_cell_row rfl _ _ (w.heap.size + 1) 27 _ (0, 0) _ rfl (put6 RK5.out _ _ _ _ _ _) Try.underlying27 rfl (by kernel_rfl)) rfl ?_
      exact ⟨by rw [← HS8.out]; rfl, below6 HB5.out (Nat.le_succ _) _ _ _ _ _ _⟩
  · skip
    unfold stV
    go_enter Try.func9, Try.ntmps9
    go_wp2_with fail
    refine (shapeC _ HK.out).mono ?_
    rintro e w1 ⟨rfl, hb1⟩
    rw [shV_eq, show fa false = 34 from rfl, show fb false = 35 from rfl]
    have ST0 : Hid ((w1).heap[w.heap.size]? = some (.cells #[.int .i64 mode, .int .i64 0, .int .u32 0, .int .i32 0] 24 (0, 0))) := Lib.hid (blk_below (blk_alloc (heap_alloc_new _ _) _) hb1)
    have RK0 : Hid ((w1).heap[w.heap.size + 1]? = some (.cells #[.int .i64 0, .string ⟨#[]⟩, .int .i64 0, .int .i64 0, .int .u32 0, .int .i32 0] 27 (0, 0))) := Lib.hid (blk_below (blk_second _ _ _) hb1)
    have HB0 : Hid (Below w.heap.size w (w1)) := Lib.hid (on (below_alloc (below_alloc (Below.refl _ _) _) _) hb1)
    have hg0 : w.heap.size + 1 < w1.heap.size := blk_lt RK0.out
    clear hb1
    have hg1 : w.heap.size < w1.heap.size := by omega
    have e0 := blk_cell ST0.out 0
    have e1 := blk_cell ST0.out 1
    have e2 := blk_cell ST0.out 2
    have e3 := blk_cell ST0.out 3
    go_wp2_with fail
    have hc := fitsC 2 mode 0 0 0 true true false (w1.alloc (.cells #[.int .i64 2, .bool true, .bool true, .func (.func 34) #[] #[], .func (.func 35) #[] #[]] 48)) HF.out
    rw [shV_eq, show fa false = 34 from rfl, show fb false = 35 from rfl] at hc
    unfold stV at hc
    refine hc.mono ?_
    clear hc
    rintro e w2 ⟨rfl, hb2⟩
    clear e0 e1 e2 e3
    have ST1 : Hid ((w2).heap[w.heap.size]? = some (.cells #[.int .i64 mode, .int .i64 0, .int .u32 0, .int .i32 0] 24 (0, 0))) := Lib.hid (blk_below (blk_alloc ST0.out _) hb2)
    have RK1 : Hid ((w2).heap[w.heap.size + 1]? = some (.cells #[.int .i64 0, .string ⟨#[]⟩, .int .i64 0, .int .i64 0, .int .u32 0, .int .i32 0] 27 (0, 0))) := Lib.hid (blk_below (blk_alloc RK0.out _) hb2)
    have SK1 : Hid ((w2).heap[w1.heap.size]? = some (.cells #[.int .i64 2, .bool true, .bool true, .func (.func 34) #[] #[], .func (.func 35) #[] #[]] 48 (0, 0))) := Lib.hid (blk_below (heap_alloc_new _ _) hb2)
    have HB1 : Hid (Below w.heap.size w (w2)) := Lib.hid (on (below_alloc HB0.out _) hb2)
    clear hb2 ST0 RK0 HB0
    have hg2 : w1.heap.size < w2.heap.size := blk_lt SK1.out
    have s0 := blk_cell SK1.out 0
    have s1 := blk_cell SK1.out 1
    have s2 := blk_cell SK1.out 2
    have s3 := blk_cell SK1.out 3
    have s4 := blk_cell SK1.out 4
    go_wp2_with fail
    refine (scalarC u _).mono ?_
    rintro e w3 ⟨rfl, hd3⟩
    rw [HS.out]
    clear s0 s1 s2 s3 s4
    have hb3 := hd3.below
    have ST2 : Hid ((w3).heap[w.heap.size]? = some (.cells #[.int .i64 mode, .int .i64 0, .int .u32 0, .int .i32 0] 24 (0, 0))) := Lib.hid (blk_below ST1.out hb3)
    have RK2 : Hid ((w3).heap[w.heap.size + 1]? = some (.cells #[.int .i64 0, .string ⟨#[]⟩, .int .i64 0, .int .i64 0, .int .u32 0, .int .i32 0] 27 (0, 0))) := Lib.hid (blk_below RK1.out hb3)
    have SK2 : Hid ((w3).heap[w1.heap.size]? = some (.cells #[.int .i64 2, .bool true, .bool true, .func (.func 34) #[] #[], .func (.func 35) #[] #[]] 48 (0, 0))) := Lib.hid (blk_below SK1.out hb3)
    have HB2 : Hid (Below w.heap.size w (w3)) := Lib.hid (on HB1.out hb3)
    clear hb3 hd3 ST1 RK1 SK1 HB1
    have hg5 : w1.heap.size < w3.heap.size := blk_lt SK2.out
    have hg6 : w.heap.size + 1 < w3.heap.size := by omega
    have hg7 : w.heap.size < w3.heap.size := by omega
    have e0 := blk_cell ST2.out 0
    have e1 := blk_cell ST2.out 1
    have e2 := blk_cell ST2.out 2
    have e3 := blk_cell ST2.out 3
    have s0 := blk_cell SK2.out 0
    have s1 := blk_cell SK2.out 1
    have s2 := blk_cell SK2.out 2
    have s3 := blk_cell SK2.out 3
    have s4 := blk_cell SK2.out 4
    go_wp2_with fail
    refine (HSP.out _).mono ?_
    rintro e w4 ⟨rfl, hd4⟩
    have hb4 := hd4.below
    have ST3 : Hid ((w4).heap[w.heap.size]? = some (.cells #[.int .i64 mode, .int .i64 0, .int .u32 0, .int .i32 0] 24 (0, 0))) := Lib.hid (blk_below ST2.out hb4)
    have RK3 : Hid ((w4).heap[w.heap.size + 1]? = some (.cells #[.int .i64 0, .string ⟨#[]⟩, .int .i64 0, .int .i64 0, .int .u32 0, .int .i32 0] 27 (0, 0))) := Lib.hid (blk_below RK2.out hb4)
    have SK3 : Hid ((w4).heap[w1.heap.size]? = some (.cells #[.int .i64 2, .bool true, .bool true, .func (.func 34) #[] #[], .func (.func 35) #[] #[]] 48 (0, 0))) := Lib.hid (blk_below SK2.out hb4)
    have HB3 : Hid (Below w.heap.size w (w4)) := Lib.hid (on HB2.out hb4)
    clear e0 e1 e2 e3
    clear s0 s1 s2 s3 s4
    clear hb4 hd4 ST2 RK2 SK2 HB2
    have hg8 : w1.heap.size < w4.heap.size := blk_lt SK3.out
    have hB1 : w1.heap.size < w4.heap.size := hg8
    have hg9 : w.heap.size + 1 < w4.heap.size := by omega
    have s0 := blk_cell SK3.out 0
    have s1 := blk_cell SK3.out 1
    have s2 := blk_cell SK3.out 2
    have s3 := blk_cell SK3.out 3
    have s4 := blk_cell SK3.out 4
    go_wp2_with fail
    clear s0 s1 s2 s3 s4
    have HZ0 : Hid (w4.heap.size ≤ w4.heap.size) := Lib.hid (Nat.le_refl _)
    have OB : Hid (w4.drew.ownsRow w4.heap.size 5 1 (.slice none 0 0) ([] : List Int).length (nums .u8 [])) := Lib.hid (own_nil _ _ _ _)
    have HV0 : Hid (∀ k, (Value.slice none 0 0).ownBlock = some k → k < w4.heap.size) := Lib.hid (fun k hk => by cases hk)
    have HX : Hid (Below w4.heap.size w4 w4.drew) := Lib.hid (below_drew (Below.refl _ _))
    have HZ : Hid (w4.heap.size ≤ w4.drew.heap.size ∧ w4.heap.size ≤ w4.drew.heap.size) := Lib.hid ⟨HZ0.out, Nat.le_refl _⟩
    have hs4 := blk_cell SK3.out 4
    have hwx : IntKind.u32.wrap x = x := by rw [IntKind.wrap_u32]; exact hxm
    have hwy : IntKind.u32.wrap y = y := by rw [IntKind.wrap_u32]; exact hym
    go_region_held3 (fun w' => w'.cell? ⟨w1.heap.size, 4, none⟩ = some (.func (.func 35) #[] #[])) (first | exact hs4 | exact (HX.out.cell (p := ⟨w1.heap.size, 4, none⟩) hB1).trans hs4) (first | (go_at_call 35; (with_reducible refine (HY1.out _).mono ?_); rintro e wa ⟨g1, c1, rfl, ho, hb⟩; have R1 := Lib.hid (Go.Joins.ownsRow_le ho HZ.out.2); (try replace OB := Lib.hid (own_on OB.out hb)); (try replace OA := Lib.hid (own_on OA.out hb)); (try replace R2 := Lib.hid (own_on R2.out hb)); have hz := HZ.out; have hsz := hb.size; replace HX := Lib.hid (below_on HX.out HZ.out.1 hb); clear HZ; have HZ : Hid (w4.heap.size ≤ wa.heap.size ∧ w4.heap.size ≤ wa.heap.size) := Lib.hid ⟨Nat.le_trans hz.1 hsz, Nat.le_trans hz.2 hsz⟩; clear ho hb hz hsz) | (go_at_call 35; (with_reducible refine (HY2.out _).mono ?_); rintro e wa ⟨g2, c2, rfl, ho, hb⟩; have R2 := Lib.hid (Go.Joins.ownsRow_le ho HZ.out.2); (try replace OB := Lib.hid (own_on OB.out hb)); (try replace OA := Lib.hid (own_on OA.out hb)); (try replace R1 := Lib.hid (own_on R1.out hb)); have hz := HZ.out; have hsz := hb.size; replace HX := Lib.hid (below_on HX.out HZ.out.1 hb); clear HZ; have HZ : Hid (w4.heap.size ≤ wa.heap.size ∧ w4.heap.size ≤ wa.heap.size) := Lib.hid ⟨Nat.le_trans hz.1 hsz, Nat.le_trans hz.2 hsz⟩; clear ho hb hz hsz) | (refine step_append_row (w0 := w4) w4.heap.size (by simp [Region.wanted]) (.tmp 75) (.tmp 81) rfl (.slice none 0 0) [] l1 ⟨g1, 0, none⟩ l1.length c1 (by simp [Act.eval]; try rfl) (by simp [Act.eval]; try rfl) OB.out (own_reads' R1.out) HX.out HZ.out.1 (by first | omega | (simp; omega)) ?_; intro va wa ho hb hg; have hsz := hg.size; have OA : Hid (wa.ownsRow w4.heap.size 5 1 va l1.length (nums .u8 l1)) := Lib.hid ho; (try replace R2 := Lib.hid (own_apart R2.out hg HV0.out)); clear OB HX; have HX := Lib.hid hb; have hz := HZ.out; clear HZ; have HZ : Hid (w4.heap.size ≤ wa.heap.size ∧ w4.heap.size ≤ wa.heap.size) := Lib.hid ⟨Nat.le_trans hz.1 hsz, Nat.le_trans hz.2 hsz⟩; clear ho hb hz hsz hg) | (refine step_append_row (w0 := w4) w4.heap.size (by simp [Region.wanted]) (.tmp 82) (.tmp 88) rfl va l1 l2 ⟨g2, 0, none⟩ l2.length c2 (by simp [Act.eval]; try rfl) (by simp [Act.eval]; try rfl) OA.out (own_reads' R2.out) HX.out HZ.out.1 (by first | omega | (simp; omega)) ?_; intro vb wb ho hb hg; have OC : Hid (wb.ownsRow w4.heap.size 5 1 vb (l1 ++ l2).length (nums .u8 (l1 ++ l2))) := Lib.hid ho; clear HX; have HX := Lib.hid hb; clear ho hb hg) | fail)
    all_goals
      have ST5 : Hid ((wb).heap[w.heap.size]? = some (.cells #[.int .i64 mode, .int .i64 0, .int .u32 0, .int .i32 0] 24 (0, 0))) := Lib.hid (blk_b ST3.out HX.out (by omega))
      have RK5 : Hid ((wb).heap[w.heap.size + 1]? = some (.cells #[.int .i64 0, .string ⟨#[]⟩, .int .i64 0, .int .i64 0, .int .u32 0, .int .i32 0] 27 (0, 0))) := Lib.hid (blk_b RK3.out HX.out (by omega))
      have HB5 : Hid (Below w.heap.size w (wb)) := Lib.hid (below_b HB3.out HB3.out.size HX.out)
      clear ST3 RK3 SK3 HX HB3 hs4 OA R1 R2
      obtain ⟨A8, c8, rfl, hr8⟩ := own_reads OC.out
      have hcv : (convert 30 9 (.slice A8 (l1 ++ l2).length c8)).run Try.prog wb = .ok (.string (strOfNums (l1 ++ l2))) wb := Kd.C_string (P := Try.prog) Try.underlying30 Try.underlying5 Try.underlying9 (Kd.C_of_reads (d := (0 : Int)) hr8)
      clear hr8
      obtain ⟨S8, hS8⟩ : ∃ S, S = strOfNums (l1 ++ l2) := ⟨_, rfl⟩
      rw [← hS8] at hcv
      simp only [List.length_append] at hcv
      have HS8 := Lib.hid hS8
      clear hS8
      have e0 := blk_cell ST5.out 0
      have e1 := blk_cell ST5.out 1
      have e2 := blk_cell ST5.out 2
      have e3 := blk_cell ST5.out 3
      have r0 := blk_cell RK5.out 0
      have r1 := blk_cell RK5.out 1
      have r2 := blk_cell RK5.out 2
      have r3 := blk_cell RK5.out 3
      have r4 := blk_cell RK5.out 4
      have r5 := blk_cell RK5.out 5
      have q0 := blk_frozen RK5.out 0
      have q1 := blk_frozen RK5.out 1
      have q2 := blk_frozen RK5.out 2
      have q3 := blk_frozen RK5.out 3
      have q4 := blk_frozen RK5.out 4
      have q5 := blk_frozen RK5.out 5
      go_wp2_with fail
      refine bodyPost_ret (results_cell_row rfl _ _ (w.heap.size + 1) 27 _ (0, 0) _ rfl (put6 RK5.out _ _ _ _ _ _) Try.underlying27 rfl (by kernel_rfl)) rfl ?_
      exact ⟨by rw [← HS8.out]; rfl, below6 HB5.out (Nat.le_succ _) _ _ _ _ _ _⟩
set_option maxHeartbeats 4000000 in
set_option maxRecDepth 100000 in
theorem set_two_true (kind mode u x y : Int) (marks : Bool) (w : World) (hk : shp kind mode = some (2, true, marks, true)) (hf : Fit marks mode 0 0 0) (hm : marks = true → (mode == 0) = false) (hs : Scal u) (hsp : ∀ W, Calls Try.prog 20 #[.int .i32 u] W fun e w' => e = .returned (.tuple #[.int .i32 x, .int .i32 y, .bool true]) ∧ Drawn0 W w') (hxm : x % 4294967296 = x) (hym : y % 4294967296 = y) :
    Calls Try.prog 9 #[.int .i64 kind, stV mode 0 0 0, .int .i32 u] w fun en w' => en = .returned (putV 0 (strOfNums (un true 2 x ++ un true 2 y)) mode) ∧ Below w.heap.size w w' := by
  have h1l : (un true 2 x).length = 2 := by have := un_len true (show (2 : Int) = 2 ∨ (2 : Int) = 4 by decide) x; omega
  have HY1 : Hid (∀ W, Calls Try.prog 37 #[.int .u32 x, .int .i64 2] W (RowEnd W (un true 2 x))) := Lib.hid (fun W => row_end (littleS 2 x W (by decide)) (by omega))
  generalize un true 2 x = l1 at *
  have h1a : l1.length ≤ 2 := by omega
  clear h1l
  have h2l : (un true 2 y).length = 2 := by have := un_len true (show (2 : Int) = 2 ∨ (2 : Int) = 4 by decide) y; omega
  have HY2 : Hid (∀ W, Calls Try.prog 37 #[.int .u32 y, .int .i64 2] W (RowEnd W (un true 2 y))) := Lib.hid (fun W => row_end (littleS 2 y W (by decide)) (by omega))
  generalize un true 2 y = l2 at *
  have h2a : l2.length ≤ 2 := by omega
  clear h2l
  have HS : Hid (decide (Scal u) = true) := Lib.hid (decide_eq_true hs)
  have HSP := Lib.hid hsp
  have HK := Lib.hid hk
  have HF := Lib.hid hf
  have HM := Lib.hid hm
  clear hk hf hsp hs hm
  have hmm : marks = false ∨ (marks = true ∧ (mode == 0) = false) := by cases marks; exact .inl rfl; exact .inr ⟨rfl, HM.out rfl⟩
  clear HM
  rcases hmm with rfl | ⟨rfl, hmm⟩
  · skip
    unfold stV
    go_enter Try.func9, Try.ntmps9
    go_wp2_with fail
    refine (shapeC _ HK.out).mono ?_
    rintro e w1 ⟨rfl, hb1⟩
    rw [shV_eq, show fa true = 36 from rfl, show fb true = 37 from rfl]
    have ST0 : Hid ((w1).heap[w.heap.size]? = some (.cells #[.int .i64 mode, .int .i64 0, .int .u32 0, .int .i32 0] 24 (0, 0))) := Lib.hid (blk_below (blk_alloc (heap_alloc_new _ _) _) hb1)
    have RK0 : Hid ((w1).heap[w.heap.size + 1]? = some (.cells #[.int .i64 0, .string ⟨#[]⟩, .int .i64 0, .int .i64 0, .int .u32 0, .int .i32 0] 27 (0, 0))) := Lib.hid (blk_below (blk_second _ _ _) hb1)
    have HB0 : Hid (Below w.heap.size w (w1)) := Lib.hid (on (below_alloc (below_alloc (Below.refl _ _) _) _) hb1)
    have hg0 : w.heap.size + 1 < w1.heap.size := blk_lt RK0.out
    clear hb1
    have hg1 : w.heap.size < w1.heap.size := by omega
    have e0 := blk_cell ST0.out 0
    have e1 := blk_cell ST0.out 1
    have e2 := blk_cell ST0.out 2
    have e3 := blk_cell ST0.out 3
    go_wp2_with fail
    have hc := fitsC 2 mode 0 0 0 true false true (w1.alloc (.cells #[.int .i64 2, .bool true, .bool false, .func (.func 36) #[] #[], .func (.func 37) #[] #[]] 48)) HF.out
    rw [shV_eq, show fa true = 36 from rfl, show fb true = 37 from rfl] at hc
    unfold stV at hc
    refine hc.mono ?_
    clear hc
    rintro e w2 ⟨rfl, hb2⟩
    clear e0 e1 e2 e3
    have ST1 : Hid ((w2).heap[w.heap.size]? = some (.cells #[.int .i64 mode, .int .i64 0, .int .u32 0, .int .i32 0] 24 (0, 0))) := Lib.hid (blk_below (blk_alloc ST0.out _) hb2)
    have RK1 : Hid ((w2).heap[w.heap.size + 1]? = some (.cells #[.int .i64 0, .string ⟨#[]⟩, .int .i64 0, .int .i64 0, .int .u32 0, .int .i32 0] 27 (0, 0))) := Lib.hid (blk_below (blk_alloc RK0.out _) hb2)
    have SK1 : Hid ((w2).heap[w1.heap.size]? = some (.cells #[.int .i64 2, .bool true, .bool false, .func (.func 36) #[] #[], .func (.func 37) #[] #[]] 48 (0, 0))) := Lib.hid (blk_below (heap_alloc_new _ _) hb2)
    have HB1 : Hid (Below w.heap.size w (w2)) := Lib.hid (on (below_alloc HB0.out _) hb2)
    clear hb2 ST0 RK0 HB0
    have hg2 : w1.heap.size < w2.heap.size := blk_lt SK1.out
    have s0 := blk_cell SK1.out 0
    have s1 := blk_cell SK1.out 1
    have s2 := blk_cell SK1.out 2
    have s3 := blk_cell SK1.out 3
    have s4 := blk_cell SK1.out 4
    go_wp2_with fail
    refine (scalarC u _).mono ?_
    rintro e w3 ⟨rfl, hd3⟩
    rw [HS.out]
    clear s0 s1 s2 s3 s4
    have hb3 := hd3.below
    have ST2 : Hid ((w3).heap[w.heap.size]? = some (.cells #[.int .i64 mode, .int .i64 0, .int .u32 0, .int .i32 0] 24 (0, 0))) := Lib.hid (blk_below ST1.out hb3)
    have RK2 : Hid ((w3).heap[w.heap.size + 1]? = some (.cells #[.int .i64 0, .string ⟨#[]⟩, .int .i64 0, .int .i64 0, .int .u32 0, .int .i32 0] 27 (0, 0))) := Lib.hid (blk_below RK1.out hb3)
    have SK2 : Hid ((w3).heap[w1.heap.size]? = some (.cells #[.int .i64 2, .bool true, .bool false, .func (.func 36) #[] #[], .func (.func 37) #[] #[]] 48 (0, 0))) := Lib.hid (blk_below SK1.out hb3)
    have HB2 : Hid (Below w.heap.size w (w3)) := Lib.hid (on HB1.out hb3)
    clear hb3 hd3 ST1 RK1 SK1 HB1
    have hg5 : w1.heap.size < w3.heap.size := blk_lt SK2.out
    have hg6 : w.heap.size + 1 < w3.heap.size := by omega
    have hg7 : w.heap.size < w3.heap.size := by omega
    have e0 := blk_cell ST2.out 0
    have e1 := blk_cell ST2.out 1
    have e2 := blk_cell ST2.out 2
    have e3 := blk_cell ST2.out 3
    have s0 := blk_cell SK2.out 0
    have s1 := blk_cell SK2.out 1
    have s2 := blk_cell SK2.out 2
    have s3 := blk_cell SK2.out 3
    have s4 := blk_cell SK2.out 4
    go_wp2_with fail
    refine (HSP.out _).mono ?_
    rintro e w4 ⟨rfl, hd4⟩
    have hb4 := hd4.below
    have ST3 : Hid ((w4).heap[w.heap.size]? = some (.cells #[.int .i64 mode, .int .i64 0, .int .u32 0, .int .i32 0] 24 (0, 0))) := Lib.hid (blk_below ST2.out hb4)
    have RK3 : Hid ((w4).heap[w.heap.size + 1]? = some (.cells #[.int .i64 0, .string ⟨#[]⟩, .int .i64 0, .int .i64 0, .int .u32 0, .int .i32 0] 27 (0, 0))) := Lib.hid (blk_below RK2.out hb4)
    have SK3 : Hid ((w4).heap[w1.heap.size]? = some (.cells #[.int .i64 2, .bool true, .bool false, .func (.func 36) #[] #[], .func (.func 37) #[] #[]] 48 (0, 0))) := Lib.hid (blk_below SK2.out hb4)
    have HB3 : Hid (Below w.heap.size w (w4)) := Lib.hid (on HB2.out hb4)
    clear e0 e1 e2 e3
    clear s0 s1 s2 s3 s4
    clear hb4 hd4 ST2 RK2 SK2 HB2
    have hg8 : w1.heap.size < w4.heap.size := blk_lt SK3.out
    have hB1 : w1.heap.size < w4.heap.size := hg8
    have hg9 : w.heap.size + 1 < w4.heap.size := by omega
    have s0 := blk_cell SK3.out 0
    have s1 := blk_cell SK3.out 1
    have s2 := blk_cell SK3.out 2
    have s3 := blk_cell SK3.out 3
    have s4 := blk_cell SK3.out 4
    go_wp2_with fail
    clear s0 s1 s2 s3 s4
    have HZ0 : Hid (w4.heap.size ≤ w4.heap.size) := Lib.hid (Nat.le_refl _)
    have OB : Hid (w4.drew.ownsRow w4.heap.size 5 1 (.slice none 0 0) ([] : List Int).length (nums .u8 [])) := Lib.hid (own_nil _ _ _ _)
    have HV0 : Hid (∀ k, (Value.slice none 0 0).ownBlock = some k → k < w4.heap.size) := Lib.hid (fun k hk => by cases hk)
    have HX : Hid (Below w4.heap.size w4 w4.drew) := Lib.hid (below_drew (Below.refl _ _))
    have HZ : Hid (w4.heap.size ≤ w4.drew.heap.size ∧ w4.heap.size ≤ w4.drew.heap.size) := Lib.hid ⟨HZ0.out, Nat.le_refl _⟩
    have hs4 := blk_cell SK3.out 4
    have hwx : IntKind.u32.wrap x = x := by rw [IntKind.wrap_u32]; exact hxm
    have hwy : IntKind.u32.wrap y = y := by rw [IntKind.wrap_u32]; exact hym
    go_region_held3 (fun w' => w'.cell? ⟨w1.heap.size, 4, none⟩ = some (.func (.func 37) #[] #[])) (first | exact hs4 | exact (HX.out.cell (p := ⟨w1.heap.size, 4, none⟩) hB1).trans hs4) (first | (go_at_call 37; (with_reducible refine (HY1.out _).mono ?_); rintro e wa ⟨g1, c1, rfl, ho, hb⟩; have R1 := Lib.hid (Go.Joins.ownsRow_le ho HZ.out.2); (try replace OB := Lib.hid (own_on OB.out hb)); (try replace OA := Lib.hid (own_on OA.out hb)); (try replace R2 := Lib.hid (own_on R2.out hb)); have hz := HZ.out; have hsz := hb.size; replace HX := Lib.hid (below_on HX.out HZ.out.1 hb); clear HZ; have HZ : Hid (w4.heap.size ≤ wa.heap.size ∧ w4.heap.size ≤ wa.heap.size) := Lib.hid ⟨Nat.le_trans hz.1 hsz, Nat.le_trans hz.2 hsz⟩; clear ho hb hz hsz) | (go_at_call 37; (with_reducible refine (HY2.out _).mono ?_); rintro e wa ⟨g2, c2, rfl, ho, hb⟩; have R2 := Lib.hid (Go.Joins.ownsRow_le ho HZ.out.2); (try replace OB := Lib.hid (own_on OB.out hb)); (try replace OA := Lib.hid (own_on OA.out hb)); (try replace R1 := Lib.hid (own_on R1.out hb)); have hz := HZ.out; have hsz := hb.size; replace HX := Lib.hid (below_on HX.out HZ.out.1 hb); clear HZ; have HZ : Hid (w4.heap.size ≤ wa.heap.size ∧ w4.heap.size ≤ wa.heap.size) := Lib.hid ⟨Nat.le_trans hz.1 hsz, Nat.le_trans hz.2 hsz⟩; clear ho hb hz hsz) | (refine step_append_row (w0 := w4) w4.heap.size (by simp [Region.wanted]) (.tmp 75) (.tmp 81) rfl (.slice none 0 0) [] l1 ⟨g1, 0, none⟩ l1.length c1 (by simp [Act.eval]; try rfl) (by simp [Act.eval]; try rfl) OB.out (own_reads' R1.out) HX.out HZ.out.1 (by first | omega | (simp; omega)) ?_; intro va wa ho hb hg; have hsz := hg.size; have OA : Hid (wa.ownsRow w4.heap.size 5 1 va l1.length (nums .u8 l1)) := Lib.hid ho; (try replace R2 := Lib.hid (own_apart R2.out hg HV0.out)); clear OB HX; have HX := Lib.hid hb; have hz := HZ.out; clear HZ; have HZ : Hid (w4.heap.size ≤ wa.heap.size ∧ w4.heap.size ≤ wa.heap.size) := Lib.hid ⟨Nat.le_trans hz.1 hsz, Nat.le_trans hz.2 hsz⟩; clear ho hb hz hsz hg) | (refine step_append_row (w0 := w4) w4.heap.size (by simp [Region.wanted]) (.tmp 82) (.tmp 88) rfl va l1 l2 ⟨g2, 0, none⟩ l2.length c2 (by simp [Act.eval]; try rfl) (by simp [Act.eval]; try rfl) OA.out (own_reads' R2.out) HX.out HZ.out.1 (by first | omega | (simp; omega)) ?_; intro vb wb ho hb hg; have OC : Hid (wb.ownsRow w4.heap.size 5 1 vb (l1 ++ l2).length (nums .u8 (l1 ++ l2))) := Lib.hid ho; clear HX; have HX := Lib.hid hb; clear ho hb hg) | fail)
    all_goals
      have ST5 : Hid ((wb).heap[w.heap.size]? = some (.cells #[.int .i64 mode, .int .i64 0, .int .u32 0, .int .i32 0] 24 (0, 0))) := Lib.hid (blk_b ST3.out HX.out (by omega))
      have RK5 : Hid ((wb).heap[w.heap.size + 1]? = some (.cells #[.int .i64 0, .string ⟨#[]⟩, .int .i64 0, .int .i64 0, .int .u32 0, .int .i32 0] 27 (0, 0))) := Lib.hid (blk_b RK3.out HX.out (by omega))
      have HB5 : Hid (Below w.heap.size w (wb)) := Lib.hid (below_b HB3.out HB3.out.size HX.out)
      clear ST3 RK3 SK3 HX HB3 hs4 OA R1 R2
      obtain ⟨A8, c8, rfl, hr8⟩ := own_reads OC.out
      have hcv : (convert 30 9 (.slice A8 (l1 ++ l2).length c8)).run Try.prog wb = .ok (.string (strOfNums (l1 ++ l2))) wb := Kd.C_string (P := Try.prog) Try.underlying30 Try.underlying5 Try.underlying9 (Kd.C_of_reads (d := (0 : Int)) hr8)
      clear hr8
      obtain ⟨S8, hS8⟩ : ∃ S, S = strOfNums (l1 ++ l2) := ⟨_, rfl⟩
      rw [← hS8] at hcv
      simp only [List.length_append] at hcv
      have HS8 := Lib.hid hS8
      clear hS8
      have e0 := blk_cell ST5.out 0
      have e1 := blk_cell ST5.out 1
      have e2 := blk_cell ST5.out 2
      have e3 := blk_cell ST5.out 3
      have r0 := blk_cell RK5.out 0
      have r1 := blk_cell RK5.out 1
      have r2 := blk_cell RK5.out 2
      have r3 := blk_cell RK5.out 3
      have r4 := blk_cell RK5.out 4
      have r5 := blk_cell RK5.out 5
      have q0 := blk_frozen RK5.out 0
      have q1 := blk_frozen RK5.out 1
      have q2 := blk_frozen RK5.out 2
      have q3 := blk_frozen RK5.out 3
      have q4 := blk_frozen RK5.out 4
      have q5 := blk_frozen RK5.out 5
      go_wp2_with fail
      refine bodyPost_ret (results_cell_row rfl _ _ (w.heap.size + 1) 27 _ (0, 0) _ rfl (put6 RK5.out _ _ _ _ _ _) Try.underlying27 rfl (by kernel_rfl)) rfl ?_
      exact ⟨by rw [← HS8.out]; rfl, below6 HB5.out (Nat.le_succ _) _ _ _ _ _ _⟩
  · skip
    unfold stV
    go_enter Try.func9, Try.ntmps9
    go_wp2_with fail
    refine (shapeC _ HK.out).mono ?_
    rintro e w1 ⟨rfl, hb1⟩
    rw [shV_eq, show fa true = 36 from rfl, show fb true = 37 from rfl]
    have ST0 : Hid ((w1).heap[w.heap.size]? = some (.cells #[.int .i64 mode, .int .i64 0, .int .u32 0, .int .i32 0] 24 (0, 0))) := Lib.hid (blk_below (blk_alloc (heap_alloc_new _ _) _) hb1)
    have RK0 : Hid ((w1).heap[w.heap.size + 1]? = some (.cells #[.int .i64 0, .string ⟨#[]⟩, .int .i64 0, .int .i64 0, .int .u32 0, .int .i32 0] 27 (0, 0))) := Lib.hid (blk_below (blk_second _ _ _) hb1)
    have HB0 : Hid (Below w.heap.size w (w1)) := Lib.hid (on (below_alloc (below_alloc (Below.refl _ _) _) _) hb1)
    have hg0 : w.heap.size + 1 < w1.heap.size := blk_lt RK0.out
    clear hb1
    have hg1 : w.heap.size < w1.heap.size := by omega
    have e0 := blk_cell ST0.out 0
    have e1 := blk_cell ST0.out 1
    have e2 := blk_cell ST0.out 2
    have e3 := blk_cell ST0.out 3
    go_wp2_with fail
    have hc := fitsC 2 mode 0 0 0 true true true (w1.alloc (.cells #[.int .i64 2, .bool true, .bool true, .func (.func 36) #[] #[], .func (.func 37) #[] #[]] 48)) HF.out
    rw [shV_eq, show fa true = 36 from rfl, show fb true = 37 from rfl] at hc
    unfold stV at hc
    refine hc.mono ?_
    clear hc
    rintro e w2 ⟨rfl, hb2⟩
    clear e0 e1 e2 e3
    have ST1 : Hid ((w2).heap[w.heap.size]? = some (.cells #[.int .i64 mode, .int .i64 0, .int .u32 0, .int .i32 0] 24 (0, 0))) := Lib.hid (blk_below (blk_alloc ST0.out _) hb2)
    have RK1 : Hid ((w2).heap[w.heap.size + 1]? = some (.cells #[.int .i64 0, .string ⟨#[]⟩, .int .i64 0, .int .i64 0, .int .u32 0, .int .i32 0] 27 (0, 0))) := Lib.hid (blk_below (blk_alloc RK0.out _) hb2)
    have SK1 : Hid ((w2).heap[w1.heap.size]? = some (.cells #[.int .i64 2, .bool true, .bool true, .func (.func 36) #[] #[], .func (.func 37) #[] #[]] 48 (0, 0))) := Lib.hid (blk_below (heap_alloc_new _ _) hb2)
    have HB1 : Hid (Below w.heap.size w (w2)) := Lib.hid (on (below_alloc HB0.out _) hb2)
    clear hb2 ST0 RK0 HB0
    have hg2 : w1.heap.size < w2.heap.size := blk_lt SK1.out
    have s0 := blk_cell SK1.out 0
    have s1 := blk_cell SK1.out 1
    have s2 := blk_cell SK1.out 2
    have s3 := blk_cell SK1.out 3
    have s4 := blk_cell SK1.out 4
    go_wp2_with fail
    refine (scalarC u _).mono ?_
    rintro e w3 ⟨rfl, hd3⟩
    rw [HS.out]
    clear s0 s1 s2 s3 s4
    have hb3 := hd3.below
    have ST2 : Hid ((w3).heap[w.heap.size]? = some (.cells #[.int .i64 mode, .int .i64 0, .int .u32 0, .int .i32 0] 24 (0, 0))) := Lib.hid (blk_below ST1.out hb3)
    have RK2 : Hid ((w3).heap[w.heap.size + 1]? = some (.cells #[.int .i64 0, .string ⟨#[]⟩, .int .i64 0, .int .i64 0, .int .u32 0, .int .i32 0] 27 (0, 0))) := Lib.hid (blk_below RK1.out hb3)
    have SK2 : Hid ((w3).heap[w1.heap.size]? = some (.cells #[.int .i64 2, .bool true, .bool true, .func (.func 36) #[] #[], .func (.func 37) #[] #[]] 48 (0, 0))) := Lib.hid (blk_below SK1.out hb3)
    have HB2 : Hid (Below w.heap.size w (w3)) := Lib.hid (on HB1.out hb3)
    clear hb3 hd3 ST1 RK1 SK1 HB1
    have hg5 : w1.heap.size < w3.heap.size := blk_lt SK2.out
    have hg6 : w.heap.size + 1 < w3.heap.size := by omega
    have hg7 : w.heap.size < w3.heap.size := by omega
    have e0 := blk_cell ST2.out 0
    have e1 := blk_cell ST2.out 1
    have e2 := blk_cell ST2.out 2
    have e3 := blk_cell ST2.out 3
    have s0 := blk_cell SK2.out 0
    have s1 := blk_cell SK2.out 1
    have s2 := blk_cell SK2.out 2
    have s3 := blk_cell SK2.out 3
    have s4 := blk_cell SK2.out 4
    go_wp2_with fail
    refine (HSP.out _).mono ?_
    rintro e w4 ⟨rfl, hd4⟩
    have hb4 := hd4.below
    have ST3 : Hid ((w4).heap[w.heap.size]? = some (.cells #[.int .i64 mode, .int .i64 0, .int .u32 0, .int .i32 0] 24 (0, 0))) := Lib.hid (blk_below ST2.out hb4)
    have RK3 : Hid ((w4).heap[w.heap.size + 1]? = some (.cells #[.int .i64 0, .string ⟨#[]⟩, .int .i64 0, .int .i64 0, .int .u32 0, .int .i32 0] 27 (0, 0))) := Lib.hid (blk_below RK2.out hb4)
    have SK3 : Hid ((w4).heap[w1.heap.size]? = some (.cells #[.int .i64 2, .bool true, .bool true, .func (.func 36) #[] #[], .func (.func 37) #[] #[]] 48 (0, 0))) := Lib.hid (blk_below SK2.out hb4)
    have HB3 : Hid (Below w.heap.size w (w4)) := Lib.hid (on HB2.out hb4)
    clear e0 e1 e2 e3
    clear s0 s1 s2 s3 s4
    clear hb4 hd4 ST2 RK2 SK2 HB2
    have hg8 : w1.heap.size < w4.heap.size := blk_lt SK3.out
    have hB1 : w1.heap.size < w4.heap.size := hg8
    have hg9 : w.heap.size + 1 < w4.heap.size := by omega
    have s0 := blk_cell SK3.out 0
    have s1 := blk_cell SK3.out 1
    have s2 := blk_cell SK3.out 2
    have s3 := blk_cell SK3.out 3
    have s4 := blk_cell SK3.out 4
    go_wp2_with fail
    clear s0 s1 s2 s3 s4
    have HZ0 : Hid (w4.heap.size ≤ w4.heap.size) := Lib.hid (Nat.le_refl _)
    have OB : Hid (w4.drew.ownsRow w4.heap.size 5 1 (.slice none 0 0) ([] : List Int).length (nums .u8 [])) := Lib.hid (own_nil _ _ _ _)
    have HV0 : Hid (∀ k, (Value.slice none 0 0).ownBlock = some k → k < w4.heap.size) := Lib.hid (fun k hk => by cases hk)
    have HX : Hid (Below w4.heap.size w4 w4.drew) := Lib.hid (below_drew (Below.refl _ _))
    have HZ : Hid (w4.heap.size ≤ w4.drew.heap.size ∧ w4.heap.size ≤ w4.drew.heap.size) := Lib.hid ⟨HZ0.out, Nat.le_refl _⟩
    have hs4 := blk_cell SK3.out 4
    have hwx : IntKind.u32.wrap x = x := by rw [IntKind.wrap_u32]; exact hxm
    have hwy : IntKind.u32.wrap y = y := by rw [IntKind.wrap_u32]; exact hym
    go_region_held3 (fun w' => w'.cell? ⟨w1.heap.size, 4, none⟩ = some (.func (.func 37) #[] #[])) (first | exact hs4 | exact (HX.out.cell (p := ⟨w1.heap.size, 4, none⟩) hB1).trans hs4) (first | (go_at_call 37; (with_reducible refine (HY1.out _).mono ?_); rintro e wa ⟨g1, c1, rfl, ho, hb⟩; have R1 := Lib.hid (Go.Joins.ownsRow_le ho HZ.out.2); (try replace OB := Lib.hid (own_on OB.out hb)); (try replace OA := Lib.hid (own_on OA.out hb)); (try replace R2 := Lib.hid (own_on R2.out hb)); have hz := HZ.out; have hsz := hb.size; replace HX := Lib.hid (below_on HX.out HZ.out.1 hb); clear HZ; have HZ : Hid (w4.heap.size ≤ wa.heap.size ∧ w4.heap.size ≤ wa.heap.size) := Lib.hid ⟨Nat.le_trans hz.1 hsz, Nat.le_trans hz.2 hsz⟩; clear ho hb hz hsz) | (go_at_call 37; (with_reducible refine (HY2.out _).mono ?_); rintro e wa ⟨g2, c2, rfl, ho, hb⟩; have R2 := Lib.hid (Go.Joins.ownsRow_le ho HZ.out.2); (try replace OB := Lib.hid (own_on OB.out hb)); (try replace OA := Lib.hid (own_on OA.out hb)); (try replace R1 := Lib.hid (own_on R1.out hb)); have hz := HZ.out; have hsz := hb.size; replace HX := Lib.hid (below_on HX.out HZ.out.1 hb); clear HZ; have HZ : Hid (w4.heap.size ≤ wa.heap.size ∧ w4.heap.size ≤ wa.heap.size) := Lib.hid ⟨Nat.le_trans hz.1 hsz, Nat.le_trans hz.2 hsz⟩; clear ho hb hz hsz) | (refine step_append_row (w0 := w4) w4.heap.size (by simp [Region.wanted]) (.tmp 75) (.tmp 81) rfl (.slice none 0 0) [] l1 ⟨g1, 0, none⟩ l1.length c1 (by simp [Act.eval]; try rfl) (by simp [Act.eval]; try rfl) OB.out (own_reads' R1.out) HX.out HZ.out.1 (by first | omega | (simp; omega)) ?_; intro va wa ho hb hg; have hsz := hg.size; have OA : Hid (wa.ownsRow w4.heap.size 5 1 va l1.length (nums .u8 l1)) := Lib.hid ho; (try replace R2 := Lib.hid (own_apart R2.out hg HV0.out)); clear OB HX; have HX := Lib.hid hb; have hz := HZ.out; clear HZ; have HZ : Hid (w4.heap.size ≤ wa.heap.size ∧ w4.heap.size ≤ wa.heap.size) := Lib.hid ⟨Nat.le_trans hz.1 hsz, Nat.le_trans hz.2 hsz⟩; clear ho hb hz hsz hg) | (refine step_append_row (w0 := w4) w4.heap.size (by simp [Region.wanted]) (.tmp 82) (.tmp 88) rfl va l1 l2 ⟨g2, 0, none⟩ l2.length c2 (by simp [Act.eval]; try rfl) (by simp [Act.eval]; try rfl) OA.out (own_reads' R2.out) HX.out HZ.out.1 (by first | omega | (simp; omega)) ?_; intro vb wb ho hb hg; have OC : Hid (wb.ownsRow w4.heap.size 5 1 vb (l1 ++ l2).length (nums .u8 (l1 ++ l2))) := Lib.hid ho; clear HX; have HX := Lib.hid hb; clear ho hb hg) | fail)
    all_goals
      have ST5 : Hid ((wb).heap[w.heap.size]? = some (.cells #[.int .i64 mode, .int .i64 0, .int .u32 0, .int .i32 0] 24 (0, 0))) := Lib.hid (blk_b ST3.out HX.out (by omega))
      have RK5 : Hid ((wb).heap[w.heap.size + 1]? = some (.cells #[.int .i64 0, .string ⟨#[]⟩, .int .i64 0, .int .i64 0, .int .u32 0, .int .i32 0] 27 (0, 0))) := Lib.hid (blk_b RK3.out HX.out (by omega))
      have HB5 : Hid (Below w.heap.size w (wb)) := Lib.hid (below_b HB3.out HB3.out.size HX.out)
      clear ST3 RK3 SK3 HX HB3 hs4 OA R1 R2
      obtain ⟨A8, c8, rfl, hr8⟩ := own_reads OC.out
      have hcv : (convert 30 9 (.slice A8 (l1 ++ l2).length c8)).run Try.prog wb = .ok (.string (strOfNums (l1 ++ l2))) wb := Kd.C_string (P := Try.prog) Try.underlying30 Try.underlying5 Try.underlying9 (Kd.C_of_reads (d := (0 : Int)) hr8)
      clear hr8
      obtain ⟨S8, hS8⟩ : ∃ S, S = strOfNums (l1 ++ l2) := ⟨_, rfl⟩
      rw [← hS8] at hcv
      simp only [List.length_append] at hcv
      have HS8 := Lib.hid hS8
      clear hS8
      have e0 := blk_cell ST5.out 0
      have e1 := blk_cell ST5.out 1
      have e2 := blk_cell ST5.out 2
      have e3 := blk_cell ST5.out 3
      have r0 := blk_cell RK5.out 0
      have r1 := blk_cell RK5.out 1
      have r2 := blk_cell RK5.out 2
      have r3 := blk_cell RK5.out 3
      have r4 := blk_cell RK5.out 4
      have r5 := blk_cell RK5.out 5
      have q0 := blk_frozen RK5.out 0
      have q1 := blk_frozen RK5.out 1
      have q2 := blk_frozen RK5.out 2
      have q3 := blk_frozen RK5.out 3
      have q4 := blk_frozen RK5.out 4
      have q5 := blk_frozen RK5.out 5
      go_wp2_with fail
      refine bodyPost_ret (results_cell_row rfl _ _ (w.heap.size + 1) 27 _ (0, 0) _ rfl (put6 RK5.out _ _ _ _ _ _) Try.underlying27 rfl (by kernel_rfl)) rfl ?_
      exact ⟨by rw [← HS8.out]; rfl, below6 HB5.out (Nat.le_succ _) _ _ _ _ _ _⟩
end Go.Proofs.Ytflmpdfcbdfabaa.Wd
