/- WideSizes, walked: how many bytes a scalar has. No condition. -/
import Derived.Test.YtflmpdfcbdfabaaWWorks
namespace Go.Proofs.Ytflmpdfcbdfabaa.Wd
open Go.RowKit Go.Proofs.YtflmpdfcbdfabaaW.PrintWords Go.Proofs.YtflmpdfcbdfabaaW.PrintLast Go.Proofs.YtflmpdfcbdfabaaW.PrintMore
theorem str_len (a : List Int) : (strOfNums a).size = a.length := by unfold strOfNums ByteArray.size; simp
/-- Set, where a number is written: the string by its length alone. -/
theorem set_len {kind u m : Int} {b : List Int} (k : Nat) (h : SW kind 0 0 0 0 u 0 b m) (hk : b.length = k) : ∃ S : ByteArray, S.size = k ∧ ∀ W, Calls Try.prog 9 #[.int .i64 kind, .agg #[.int .i64 0, .int .i64 0, .int .u32 0, .int .i32 0], .int .i32 u] W fun en w' => en = .returned (.agg #[.int .i64 0, .string S, .int .i64 m, .int .i64 0, .int .u32 0, .int .i32 0]) ∧ Below W.heap.size W w' :=
  ⟨strOfNums b, by rw [str_len]; exact hk, fun W => setC W h⟩
theorem set_none0 {kind u : Int} (h : SW kind 0 0 0 0 u 11 [] 0) : ∀ W, Calls Try.prog 9 #[.int .i64 kind, .agg #[.int .i64 0, .int .i64 0, .int .u32 0, .int .i32 0], .int .i32 u] W fun en w' => en = .returned (.agg #[.int .i64 11, .string ⟨#[]⟩, .int .i64 0, .int .i64 0, .int .u32 0, .int .i32 0]) ∧ Below W.heap.size W w' := fun W => setC W h
theorem fit00 (marks : Bool) : Fit marks 0 0 0 0 := ⟨rfl, rfl, rfl, .inl rfl⟩
set_option maxRecDepth 100000 in
theorem sizes_not (u : Int) (w : World) (hs : ¬ Scal u) : Calls Try.prog 8 #[.int .i32 u] w fun e w' => e = .returned (.bool true) ∧ Below w.heap.size w w' := by
  have HS := Lib.hid (decide_eq_false hs)
  clear hs
  go_enter Try.func8, Try.ntmps8
  go_wp2_with fail
  refine (worksC _).mono ?_
  rintro e w1 ⟨rfl, hb1⟩
  have HB1 : Hid (Below w.heap.size w w1) := hb1
  clear hb1
  go_wp2_with fail
  refine (rscalarC u _).mono ?_
  rintro e w2 ⟨rfl, hd2⟩
  rw [HS.out]
  have HB2 : Hid (Below w.heap.size w w2) := on HB1.out hd2.below
  clear hd2
  go_wp2_with fail
  go_ret
  exact ⟨rfl, HB2.out⟩
set_option maxHeartbeats 2000000 in
set_option maxRecDepth 100000 in
theorem sizes_lo (u : Int) (w : World) (hs : Scal u) (hu : u < 65536) : Calls Try.prog 8 #[.int .i32 u] w fun e w' => e = .returned (.bool true) ∧ Below w.heap.size w w' := by
  obtain ⟨S1, z1, h1⟩ := set_len 2 (.one (kind := 10) (mode := 0) (bits := 0) (acc := 0) (held := 0) 2 false false true rfl (fit00 _) hs (.inr hu) (by simp)) (by have := un_len true (.inl rfl : (2 : Int) = 2 ∨ (2 : Int) = 4) u; omega)
  obtain ⟨S2, z2, h2⟩ := set_len 2 (.one (kind := 3) (mode := 0) (bits := 0) (acc := 0) (held := 0) 2 true false false rfl (fit00 _) hs (.inr hu) (by simp)) (by have := un_len false (.inl rfl : (2 : Int) = 2 ∨ (2 : Int) = 4) u; omega)
  obtain ⟨S3, z3, h3⟩ := set_len 2 (.one (kind := 4) (mode := 0) (bits := 0) (acc := 0) (held := 0) 2 true false true rfl (fit00 _) hs (.inr hu) (by simp)) (by have := un_len true (.inl rfl : (2 : Int) = 2 ∨ (2 : Int) = 4) u; omega)
  obtain ⟨S4, z4, h4⟩ := set_len 4 (.one (kind := 6) (mode := 0) (bits := 0) (acc := 0) (held := 0) 4 false false false rfl (fit00 _) hs (.inl rfl) (by simp)) (by have := un_len false (.inr rfl : (4 : Int) = 2 ∨ (4 : Int) = 4) u; omega)
  obtain ⟨S5, z5, h5⟩ := set_len 4 (.mOne (kind := 5) (mode := 0) (bits := 0) (acc := 0) (held := 0) 2 true false rfl (fit00 _) hs (.inr hu) rfl) (by rw [List.length_append]; have := un_len false (.inl rfl : (2 : Int) = 2 ∨ (2 : Int) = 4) u; have := un_len false (.inl rfl : (2 : Int) = 2 ∨ (2 : Int) = 4) 65279; omega)
  have H1 := Lib.hid h1
  have H2 := Lib.hid h2
  have H3 := Lib.hid h3
  have H4 := Lib.hid h4
  have H5 := Lib.hid h5
  have HS := Lib.hid (decide_eq_true hs)
  have hu' : ¬ 65535 < u := by omega
  clear h1 h2 h3 h4 h5 hs hu
  have f2 := fun W => field_bytes 0 S2 0 0 0 0 W
  have f3 := fun W => field_bytes 0 S3 0 0 0 0 W
  have f4 := fun W => field_bytes 0 S4 0 0 0 0 W
  have f5 := fun W => field_bytes 0 S5 1 0 0 0 W
  go_enter Try.func8, Try.ntmps8
  go_wp2_with fail
  refine (worksC _).mono ?_
  rintro e w1 ⟨rfl, hb1⟩
  have HB1 : Hid (Below w.heap.size w w1) := hb1
  clear hb1
  go_wp2_with fail
  refine (rscalarC u _).mono ?_
  rintro e w2 ⟨rfl, hd2⟩
  rw [HS.out]
  have HB2 : Hid (Below w.heap.size w w2) := on HB1.out hd2.below
  clear hd2
  go_wp2_with fail
  refine (H1.out _).mono ?_
  rintro e w3 ⟨rfl, hb3⟩
  have HB3 : Hid (Below w.heap.size w w3) := on HB2.out hb3
  clear hb3
  go_wp2_with fail
  refine (H2.out _).mono ?_
  rintro e w4 ⟨rfl, hb4⟩
  have PK4 := Lib.hid (blk_below (heap_alloc_new w3 (.cells #[.int .i64 0, .string S1, .int .i64 0, .int .i64 0, .int .u32 0, .int .i32 0] 27)) hb4)
  have HB4 : Hid (Below w.heap.size w w4) := onA HB3.out hb4
  clear hb4
  go_wp2_with fail
  refine (H3.out _).mono ?_
  rintro e w5 ⟨rfl, hb5⟩
  have PK5 := Lib.hid (blk_below PK4.out hb5)
  have HB5 : Hid (Below w.heap.size w w5) := on HB4.out hb5
  clear hb5
  go_wp2_with fail
  refine (H4.out _).mono ?_
  rintro e w6 ⟨rfl, hb6⟩
  have PK6 := Lib.hid (blk_below PK5.out hb6)
  have HB6 : Hid (Below w.heap.size w w6) := on HB5.out hb6
  clear hb6
  go_wp2_with fail
  refine (H5.out _).mono ?_
  rintro e w7 ⟨rfl, hb7⟩
  have PK7 := Lib.hid (blk_below PK6.out hb7)
  have HB7 : Hid (Below w.heap.size w w7) := on HB6.out hb7
  clear hb7
  have p0 := blk_cell PK7.out 0
  have p1 := blk_cell PK7.out 1
  have p2 := blk_cell PK7.out 2
  have p3 := blk_cell PK7.out 3
  have p4 := blk_cell PK7.out 4
  have p5 := blk_cell PK7.out 5
  have hz : w3.heap.size < w7.heap.size := blk_lt PK7.out
  go_wp2_with fail
  go_ret
  exact ⟨rfl, HB7.out⟩
set_option maxHeartbeats 2000000 in
set_option maxRecDepth 100000 in
theorem sizes_hi (u : Int) (w : World) (hs : Scal u) (hu : 65536 ≤ u) : Calls Try.prog 8 #[.int .i32 u] w fun e w' => e = .returned (.bool true) ∧ Below w.heap.size w w' := by
  have h1 := set_none0 (.none (kind := 10) (mode := 0) (bits := 0) (acc := 0) (held := 0) (u := u) 2 false false true rfl (fit00 _) (.inr ⟨rfl, rfl, by omega⟩))
  obtain ⟨S2, z2, h2⟩ := set_len 4 (.two (kind := 3) (mode := 0) (bits := 0) (acc := 0) (held := 0) false false rfl (fit00 _) hs hu (by simp)) (by rw [List.length_append]; have := un_len false (.inl rfl : (2 : Int) = 2 ∨ (2 : Int) = 4) (55296 + (u - 65536) / 1024); have := un_len false (.inl rfl : (2 : Int) = 2 ∨ (2 : Int) = 4) (56320 + (u - 65536) % 1024); omega)
  obtain ⟨S3, z3, h3⟩ := set_len 4 (.two (kind := 4) (mode := 0) (bits := 0) (acc := 0) (held := 0) false true rfl (fit00 _) hs hu (by simp)) (by rw [List.length_append]; have := un_len true (.inl rfl : (2 : Int) = 2 ∨ (2 : Int) = 4) (55296 + (u - 65536) / 1024); have := un_len true (.inl rfl : (2 : Int) = 2 ∨ (2 : Int) = 4) (56320 + (u - 65536) % 1024); omega)
  obtain ⟨S4, z4, h4⟩ := set_len 4 (.one (kind := 6) (mode := 0) (bits := 0) (acc := 0) (held := 0) 4 false false false rfl (fit00 _) hs (.inl rfl) (by simp)) (by have := un_len false (.inr rfl : (4 : Int) = 2 ∨ (4 : Int) = 4) u; omega)
  obtain ⟨S5, z5, h5⟩ := set_len 6 (.mTwo (kind := 5) (mode := 0) (bits := 0) (acc := 0) (held := 0) false rfl (fit00 _) hs hu rfl) (by rw [List.length_append, List.length_append]; have := un_len false (.inl rfl : (2 : Int) = 2 ∨ (2 : Int) = 4) 65279; have := un_len false (.inl rfl : (2 : Int) = 2 ∨ (2 : Int) = 4) (55296 + (u - 65536) / 1024); have := un_len false (.inl rfl : (2 : Int) = 2 ∨ (2 : Int) = 4) (56320 + (u - 65536) % 1024); omega)
  have H1 := Lib.hid h1
  have H2 := Lib.hid h2
  have H3 := Lib.hid h3
  have H4 := Lib.hid h4
  have H5 := Lib.hid h5
  have HS := Lib.hid (decide_eq_true hs)
  have hu' : 65535 < u := by omega
  clear h1 h2 h3 h4 h5 hs hu
  have f2 := fun W => field_bytes 0 S2 0 0 0 0 W
  have f3 := fun W => field_bytes 0 S3 0 0 0 0 W
  have f4 := fun W => field_bytes 0 S4 0 0 0 0 W
  have f5 := fun W => field_bytes 0 S5 1 0 0 0 W
  go_enter Try.func8, Try.ntmps8
  go_wp2_with fail
  refine (worksC _).mono ?_
  rintro e w1 ⟨rfl, hb1⟩
  have HB1 : Hid (Below w.heap.size w w1) := hb1
  clear hb1
  go_wp2_with fail
  refine (rscalarC u _).mono ?_
  rintro e w2 ⟨rfl, hd2⟩
  rw [HS.out]
  have HB2 : Hid (Below w.heap.size w w2) := on HB1.out hd2.below
  clear hd2
  go_wp2_with fail
  refine (H1.out _).mono ?_
  rintro e w3 ⟨rfl, hb3⟩
  have HB3 : Hid (Below w.heap.size w w3) := on HB2.out hb3
  clear hb3
  go_wp2_with fail
  refine (H2.out _).mono ?_
  rintro e w4 ⟨rfl, hb4⟩
  have PK4 := Lib.hid (blk_below (heap_alloc_new w3 (.cells #[.int .i64 11, .string ⟨#[]⟩, .int .i64 0, .int .i64 0, .int .u32 0, .int .i32 0] 27)) hb4)
  have HB4 : Hid (Below w.heap.size w w4) := onA HB3.out hb4
  clear hb4
  go_wp2_with fail
  refine (H3.out _).mono ?_
  rintro e w5 ⟨rfl, hb5⟩
  have PK5 := Lib.hid (blk_below PK4.out hb5)
  have HB5 : Hid (Below w.heap.size w w5) := on HB4.out hb5
  clear hb5
  go_wp2_with fail
  refine (H4.out _).mono ?_
  rintro e w6 ⟨rfl, hb6⟩
  have PK6 := Lib.hid (blk_below PK5.out hb6)
  have HB6 : Hid (Below w.heap.size w w6) := on HB5.out hb6
  clear hb6
  go_wp2_with fail
  refine (H5.out _).mono ?_
  rintro e w7 ⟨rfl, hb7⟩
  have PK7 := Lib.hid (blk_below PK6.out hb7)
  have HB7 : Hid (Below w.heap.size w w7) := on HB6.out hb7
  clear hb7
  have p0 := blk_cell PK7.out 0
  have p1 := blk_cell PK7.out 1
  have p2 := blk_cell PK7.out 2
  have p3 := blk_cell PK7.out 3
  have p4 := blk_cell PK7.out 4
  have p5 := blk_cell PK7.out 5
  have hz : w3.heap.size < w7.heap.size := blk_lt PK7.out
  go_wp2_with fail
  go_ret
  exact ⟨rfl, HB7.out⟩
theorem wsizes_walk (w : World) (u : Int) (_ : (Lit.int .i32 u).wf = true) : Calls Try.prog 8 #[.int .i32 u] w fun e w' => e = .returned (.bool true) ∧ Below w.heap.size w w' := by
  by_cases hs : Scal u
  · rcases (show u < 65536 ∨ 65536 ≤ u by omega) with h6 | h6
    · exact sizes_lo u w hs h6
    · exact sizes_hi u w hs h6
  · exact sizes_not u w hs
end Go.Proofs.Ytflmpdfcbdfabaa.Wd
