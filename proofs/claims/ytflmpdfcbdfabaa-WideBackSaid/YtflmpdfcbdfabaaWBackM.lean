/- WideBack, walked: a number that has no place; what is written without a mark. No condition. -/
import Derived.Test.YtflmpdfcbdfabaaWBk
import Derived.Test.YtflmpdfcbdfabaaWApp
import Derived.Test.YtflmpdfcbdfabaaWRow
import Derived.Deep.RegionHeld3
import Derived.Lib.AppendZerosOnto
import Derived.Deep.DrawnRows
import Derived.Outline
import Derived.Deep.DeepCutAuto
import Derived.Deep.RegionLaw
namespace Go.Proofs.Ytflmpdfcbdfabaa.Wd
open Go.RowKit Go.Proofs.YtflmpdfcbdfabaaW.PrintWords Go.Proofs.YtflmpdfcbdfabaaW.PrintLast Go.Proofs.YtflmpdfcbdfabaaW.PrintMore
set_option linter.unusedVariables false
attribute [local go_sem ↓] Go.wp_at_zero Go.wp_at_succ
def Cut17 (P : Nat → World → Prop) (s : Value) (wx : World) : Prop := ∃ g, s = .pointer (some ⟨g, 0, none⟩) ∧ P g wx
theorem bytesOf_str (l : List Int) (h : ∀ x ∈ l, Byte x) : bytesOf (strOfNums l) = l := by
  unfold bytesOf strOfNums
  simp only [List.map_map]
  conv => rhs; rw [← List.map_id l]
  apply List.map_congr_left
  intro x hx
  have := h x hx
  unfold Byte at this
  simp [UInt8.toNat_ofNat']
  omega
def Direct (K m u : Int) (ub : List Int) : Prop := 1 ≤ ub.length ∧ ub.length ≤ 4 ∧ (∀ x ∈ ub, Byte x) ∧ SW K m 0 0 0 u 0 ub m ∧ ∀ l, GW K m 0 0 0 (ub ++ l) 0 ub.length 1 u m
theorem direct_ex {K m n u : Int} {pairs marks low : Bool} (hk : shp K m = some (n, pairs, marks, low)) (hf : Fit marks m 0 0 0) (hm : ¬ (marks = true ∧ m = 0)) (hs : Scal u) (hok : ¬ (n = 2 ∧ pairs = false ∧ 65535 < u)) : ∃ ub, Direct K m u ub := by
  have hn := (shp_ok hk).1
  have hlo : ∀ l e k s v, GP n pairs low l e k s v → e ≠ 1 → GW K m 0 0 0 l e k s v m := fun l e k s v h he => .plain n pairs marks low e k s v hk hf hm h he
  by_cases h1 : n = 4 ∨ u < 65536
  · have hl := un_len low hn u
    refine ⟨un low n u, by omega, by omega, un_byte low n u, .one n pairs marks low hk hf hs h1 hm, fun l => ?_⟩
    rw [hl]
    exact hlo _ _ _ _ _ (gp_one l hn hs h1) (by decide)
  · obtain rfl : n = 2 := by omega
    obtain rfl : pairs = true := by
      cases pairs
      · exact absurd ⟨rfl, rfl, by omega⟩ hok
      · rfl
    have hl1 := un_len low (.inl rfl : (2 : Int) = 2 ∨ (2 : Int) = 4) (55296 + (u - 65536) / 1024)
    have hl2 := un_len low (.inl rfl : (2 : Int) = 2 ∨ (2 : Int) = 4) (56320 + (u - 65536) % 1024)
    refine ⟨un low 2 (55296 + (u - 65536) / 1024) ++ un low 2 (56320 + (u - 65536) % 1024), by rw [List.length_append]; omega, by rw [List.length_append]; omega, ?_, .two marks low hk hf hs (by omega) hm, fun l => ?_⟩
    · intro x hx
      rcases List.mem_append.1 hx with hx | hx
      · exact un_byte _ _ _ x hx
      · exact un_byte _ _ _ x hx
    · rw [List.append_assoc, show (((un low 2 (55296 + (u - 65536) / 1024) ++ un low 2 (56320 + (u - 65536) % 1024)).length : Nat) : Int) = 4 by rw [List.length_append]; omega]
      exact hlo _ _ _ _ _ (gp_two l hs (by omega)) (by decide)
def Marked (K n u : Int) (mk ub : List Int) : Prop := (mk.length : Int) = n ∧ 1 ≤ ub.length ∧ ub.length ≤ 4 ∧ (∀ x ∈ mk ++ ub, Byte x) ∧ SW K 0 0 0 0 u 0 (mk ++ ub) 1 ∧ (∀ l, GW K 0 0 0 0 (mk ++ ub ++ l) 0 n 0 0 1) ∧ ∀ l, GW K 1 0 0 0 (ub ++ l) 0 ub.length 1 u 1
def Again (K m : Int) (l : List Int) (e k s v m' : Int) : Prop := GW K m 0 0 0 l e k s v m' ∧ ((e == 0) = false ∨ (e = 0 ∧ ∃ j : Nat, k = (j : Int) ∧ j ≤ l.length ∧ SW K m 0 0 0 v 0 (l.take j) m))
theorem again_ex {K m n : Int} {pairs marks low : Bool} {l : List Int} (hk : shp K m = some (n, pairs, marks, low)) (hf : Fit marks m 0 0 0) (hm : ¬ (marks = true ∧ m = 0)) (hb : ∀ x ∈ l, Byte x) : ∃ e k s v m', Again K m l e k s v m' := by
  obtain ⟨e, k, s, v, hg⟩ := gp_ex n pairs low l (shp_ok hk).2
  by_cases he : e = 1
  · subst he
    exact ⟨1, k, s, v, 0, .plainMore n pairs marks low k s v hk hf hm hg, .inl rfl⟩
  · refine ⟨e, k, s, v, m, .plain n pairs marks low e k s v hk hf hm hg he, ?_⟩
    by_cases h0 : e = 0
    · subst h0
      exact .inr ⟨rfl, gp_back hk hf hm hb hg⟩
    · exact .inl (beq_eq_false_iff_ne.2 h0)
theorem set_at {K m u e m' : Int} {b : List Int} (h : SW K m 0 0 0 u e b m') : Hid (∀ W, Calls Try.prog 9 #[.int .i64 K, .agg #[.int .i64 m, .int .i64 0, .int .u32 0, .int .i32 0], .int .i32 u] W fun en w' => en = .returned (.agg #[.int .i64 e, .string (strOfNums b), .int .i64 m', .int .i64 0, .int .u32 0, .int .i32 0]) ∧ Below W.heap.size W w') := Lib.hid (fun W => setC W h)
theorem set9 {w : World} {g g' : Nat} {t : TypeId} {cs : Array Value} (h : w.heap[g]? = some (.cells cs t (0, 0))) (hne : g ≠ g') (a0 a1 a2 a3 a4 a5 a6 a7 a8 : Value) :
    (((((((((w.setCell ⟨g', 0, none⟩ a0).setCell ⟨g', 1, none⟩ a1).setCell ⟨g', 2, none⟩ a2).setCell ⟨g', 3, none⟩ a3).setCell ⟨g', 4, none⟩ a4).setCell ⟨g', 5, none⟩ a5).setCell ⟨g', 6, none⟩ a6).setCell ⟨g', 7, none⟩ a7).setCell ⟨g', 8, none⟩ a8).heap[g]? = some (.cells cs t (0, 0)) :=
  blk_far (blk_far (blk_far (blk_far (blk_far (blk_far (blk_far (blk_far (blk_far h hne _) hne _) hne _) hne _) hne _) hne _) hne _) hne _) hne _
theorem put44 {w : World} {g : Nat} {t : TypeId} {o0 o1 o2 o3 : Value} (h : w.heap[g]? = some (.cells #[o0, o1, o2, o3] t (0, 0))) (a0 a1 a2 a3 : Value) :
    ((((w.setCell ⟨g, 0, none⟩ a0).setCell ⟨g, 1, none⟩ a1).setCell ⟨g, 2, none⟩ a2).setCell ⟨g, 3, none⟩ a3).heap[g]? = some (.cells #[a0, a1, a2, a3] t (0, 0)) := by
  have h0 : (w.setCell ⟨g, 0, none⟩ a0).heap[g]? = some (.cells #[a0, o1, o2, o3] t (0, 0)) := blk_set h 0 a0
  have h1 : ((w.setCell ⟨g, 0, none⟩ a0).setCell ⟨g, 1, none⟩ a1).heap[g]? = some (.cells #[a0, a1, o2, o3] t (0, 0)) := blk_set h0 1 a1
  have h2 : (((w.setCell ⟨g, 0, none⟩ a0).setCell ⟨g, 1, none⟩ a1).setCell ⟨g, 2, none⟩ a2).heap[g]? = some (.cells #[a0, a1, a2, o3] t (0, 0)) := blk_set h1 2 a2
  exact blk_set h2 3 a3
theorem set4 {w : World} {g g' : Nat} {t : TypeId} {cs : Array Value} (h : w.heap[g]? = some (.cells cs t (0, 0))) (hne : g ≠ g') (a0 a1 a2 a3 : Value) :
    ((((w.setCell ⟨g', 0, none⟩ a0).setCell ⟨g', 1, none⟩ a1).setCell ⟨g', 2, none⟩ a2).setCell ⟨g', 3, none⟩ a3).heap[g]? = some (.cells cs t (0, 0)) := blk_far (blk_far (blk_far (blk_far h hne _) hne _) hne _) hne _
theorem below4 {B : Nat} {w0 w : World} (h : Below B w0 w) {g : Nat} (hg : B ≤ g) (a0 a1 a2 a3 : Value) :
    Below B w0 ((((w.setCell ⟨g, 0, none⟩ a0).setCell ⟨g, 1, none⟩ a1).setCell ⟨g, 2, none⟩ a2).setCell ⟨g, 3, none⟩ a3) :=
  (((h.setCell (p := ⟨g, 0, none⟩) hg a0).setCell (p := ⟨g, 1, none⟩) hg a1).setCell (p := ⟨g, 2, none⟩) hg a2).setCell (p := ⟨g, 3, none⟩) hg a3
theorem not_there {W : World} {g : Nat} {m b a h x : Int} {p : Addr} (hk : W.heap[g]? = some (.cells #[.int .i64 m, .int .i64 b, .int .u32 a, .int .i32 h] 24 (0, 0))) (hp : p.block = g) (hc : W.cell? p = some (.int .u8 x)) : False := by
  obtain ⟨pb, po, ps⟩ := p
  subst hp
  cases ps with
  | none =>
    have h1 := blk_cell hk po
    rw [h1] at hc
    match po with
    | 0 => simp at hc
    | 1 => simp at hc
    | 2 => simp at hc
    | 3 => simp at hc
    | k + 4 => simp at hc
  | some s => simp [World.cell?, hk] at hc
theorem C_far4 {W : World} {g : Nat} {m b a h : Int} (hk : W.heap[g]? = some (.cells #[.int .i64 m, .int .i64 b, .int .u32 a, .int .i32 h] 24 (0, 0))) {A : Option Addr} {n : Nat} {xs : List Int} (hc : Kd.C (Kd.int .u8) W A n xs) (a0 a1 a2 a3 : Value) :
    Kd.C (Kd.int .u8) ((((W.setCell ⟨g, 0, none⟩ a0).setCell ⟨g, 1, none⟩ a1).setCell ⟨g, 2, none⟩ a2).setCell ⟨g, 3, none⟩ a3) A n xs := by
  have hr : ReadsInt W .u8 A n xs := Kd.reads_of_C (enc := Value.int .u8) (d := (0 : Int)) (h1 := fun _ => rfl) hc
  obtain ⟨h1, h2, h3⟩ := hr
  refine Kd.C_of_reads (d := (0 : Int)) ⟨h1, h2, fun hp => ?_⟩
  obtain ⟨ad, rfl, hcell⟩ := h3 hp
  refine ⟨ad, rfl, fun j hj => ?_⟩
  have hne : (ad.add j).block ≠ g := fun he => not_there hk he (hcell j hj)
  have hf : ∀ i : Nat, (⟨g, i, none⟩ : Addr) ≠ ad.add j := fun i he => hne (by rw [← he])
  rw [World.cell?_setCell_other (h := hf 3), World.cell?_setCell_other (h := hf 2), World.cell?_setCell_other (h := hf 1), World.cell?_setCell_other (h := hf 0)]
  exact hcell j hj
theorem drop_at {A : Option Addr} {c : Nat} {l : List Int} (a : Nat) (ha : a ≤ l.length) (hc : l.length ≤ c) : ∃ A', Hid (∀ W : World, (Instr.slice 30 (.slice A l.length c) (some (.int .i64 (a : Int))) none none).run Try.prog W = .ok (.slice A' (l.drop a).length (c - a)) W) ∧ Hid (∀ W, Kd.C (Kd.int .u8) W A l.length l → Kd.C (Kd.int .u8) W A' (l.drop a).length (l.drop a)) ∧ Hid ((l.drop a).length ≤ c - a) := by
  obtain ⟨i5, hi5, hz5⟩ := Option.map_eq_some_iff.1 info5
  simp only [Prod.mk.injEq] at hz5
  obtain ⟨A', h1, h2, h3⟩ := print_drop_of (P := Try.prog) (Value.int .u8) (0 : Int) 30 5 .i64 Try.underlying30 hi5 hz5.2.1 A c l (a : Int) (by omega) (by omega) hc
  rw [Int.toNat_natCast] at h1 h2 h3
  exact ⟨A', Lib.hid h1, Lib.hid (fun W hW => Kd.C_of_reads (d := (0 : Int)) (h2 W (Kd.reads_of_C (enc := Value.int .u8) (d := (0 : Int)) (h1 := fun _ => rfl) hW))), Lib.hid h3⟩
theorem take_at {A : Option Addr} {c : Nat} {l : List Int} (j : Nat) (hj : j ≤ l.length) (hc : l.length ≤ c) : ∀ W : World, (Instr.slice 30 (.slice A l.length c) none (some (.int .i64 (j : Int))) none).run Try.prog W = .ok (.slice A j c) W := by
  obtain ⟨i5, hi5, hz5⟩ := Option.map_eq_some_iff.1 info5
  simp only [Prod.mk.injEq] at hz5
  have h := (print_take_int (P := Try.prog) (k := .u8) 30 5 Try.underlying30 hi5 hz5.2.1 A c l (j : Int) (by omega) (by omega) hc).1
  rw [Int.toNat_natCast, List.length_take, Nat.min_eq_left hj] at h
  exact h
theorem marked_ex {K n u : Int} {pairs : Bool} (hk0 : shp K 0 = some (n, pairs, true, false)) (hk1 : shp K 1 = some (n, pairs, true, false)) (hok : pairs = true ∨ n = 4) (hs : Scal u) : ∃ mk ub, Marked K n u mk ub := by
  have hn := (shp_ok hk0).1
  have hml := un_len false hn 65279
  have hf0 : Fit true 0 0 0 0 := ⟨rfl, rfl, rfl, .inl rfl⟩
  have hf1 : Fit true 1 0 0 0 := ⟨rfl, rfl, rfl, .inr ⟨rfl, .inl rfl⟩⟩
  have hmk : ∀ ub l : List Int, GW K 0 0 0 0 (un false n 65279 ++ ub ++ l) 0 n 0 0 1 := by
    intro ub l
    refine .markB n pairs false hk0 hf0 rfl (by rw [List.length_append, List.length_append]; omega) ?_
    rw [List.append_assoc, take_un hn]
    exact num_un false (by decide) (by omega)
  by_cases h1 : n = 4 ∨ u < 65536
  · have hl := un_len false hn u
    refine ⟨un false n 65279, un false n u, hml, by omega, by omega, ?_, .mOne n pairs false hk0 hf0 hs h1 rfl, hmk _, fun l => ?_⟩
    · intro x hx
      rcases List.mem_append.1 hx with hx | hx
      · exact un_byte _ _ _ x hx
      · exact un_byte _ _ _ x hx
    · rw [hl]
      exact .plain n pairs true false 0 n 1 u hk1 hf1 (by simp) (gp_one l hn hs h1) (by decide)
  · obtain rfl : n = 2 := by omega
    obtain rfl : pairs = true := by
      rcases hok with h | h
      · exact h
      · omega
    have hl1 := un_len false (.inl rfl : (2 : Int) = 2 ∨ (2 : Int) = 4) (55296 + (u - 65536) / 1024)
    have hl2 := un_len false (.inl rfl : (2 : Int) = 2 ∨ (2 : Int) = 4) (56320 + (u - 65536) % 1024)
    refine ⟨un false 2 65279, un false 2 (55296 + (u - 65536) / 1024) ++ un false 2 (56320 + (u - 65536) % 1024), hml, by rw [List.length_append]; omega, by rw [List.length_append]; omega, ?_, .mTwo false hk0 hf0 hs (by omega) rfl, hmk _, fun l => ?_⟩
    · intro x hx
      rcases List.mem_append.1 hx with hx | hx
      · exact un_byte _ _ _ x hx
      · rcases List.mem_append.1 hx with hx | hx
        · exact un_byte _ _ _ x hx
        · exact un_byte _ _ _ x hx
    · rw [List.append_assoc, show (((un false 2 (55296 + (u - 65536) / 1024) ++ un false 2 (56320 + (u - 65536) % 1024)).length : Nat) : Int) = 4 by rw [List.length_append]; omega]
      exact .plain 2 true true false 0 4 1 u hk1 hf1 (by simp) (gp_two l hs (by omega)) (by decide)
set_option maxHeartbeats 4000000 in
set_option maxRecDepth 100000 in
theorem back_none_q_0 (kind mode u q : Int) (A : Option Addr) (c : Nat) (l : List Int) (w : World) (hC : Kd.C (Kd.int .u8) w A l.length l) (hc : l.length ≤ c) (hb : ∀ x ∈ l, Byte x) (hlen : l.length ≤ 140737488351232) (hq : (IntKind.u64.wrap kind).tmod 8 = q)(hq0 : 0 ≤ q) (hq7 : q ≤ 7) (h5 : ((3 + q) == 5) = false) (h8 : ((3 + q) == 8) = false) (hsw : SW (3 + q) 0 0 0 0 u 11 [] 0) (hu : ¬ Scal u ∨ (Scal u ∧ 65535 < u ∧ 9 ≤ 3 + q)) :
    Calls Try.prog 5 #[.int .i64 kind, .int .i64 mode, .int .i32 u, .slice A l.length c] w fun e w' => e = .returned (.bool true) ∧ Below w.heap.size w w' := by
  have hw : wrap64 q = q := by unfold wrap64; omega
  have H9 := set_at hsw
  clear hsw
  rw [show strOfNums [] = (⟨#[]⟩ : ByteArray) from rfl] at H9
  have HC := Lib.hid hC
  have Hc := Lib.hid hc
  have Hb := Lib.hid hb
  clear hC hc hb
  go_enter Try.func5, Try.ntmps5
  go_wp2_with fail
  refine (worksC _).mono ?_
  rintro e w1 ⟨rfl, hb1⟩
  have HB : Hid (Below w.heap.size w w1) := Lib.hid hb1
  replace HC := Lib.hid (Kd.C_below HC.out hb1)
  have Hgs : Hid (w.heap.size ≤ w1.heap.size) := Lib.hid hb1.size
  clear hb1
  go_upto_region 7 with fail
  have hb := below_alloc (Below.refl w1.heap.size w1) (.cells #[.int .i64 0, .int .i64 0, .int .u32 0, .int .i32 0] 24)
  replace HB := Lib.hid (on HB.out hb)
  replace HC := Lib.hid (Kd.C_below HC.out hb)
  have SK : Hid ((w1.alloc (.cells #[.int .i64 0, .int .i64 0, .int .u32 0, .int .i32 0] 24)).heap[w1.heap.size]? = some (.cells #[.int .i64 0, .int .i64 0, .int .u32 0, .int .i32 0] 24 (0, 0))) := Lib.hid (heap_alloc_new _ _)
  have hz2 : w1.heap.size < (w1.alloc (.cells #[.int .i64 0, .int .i64 0, .int .u32 0, .int .i32 0] 24)).heap.size := blk_lt SK.out
  clear hb
  generalize w1.alloc (.cells #[.int .i64 0, .int .i64 0, .int .u32 0, .int .i32 0] 24) = w2 at *
  generalize w1.heap.size = gs at *
  have e0 := blk_cell SK.out 0
  have e1 := blk_cell SK.out 1
  have e2 := blk_cell SK.out 2
  have e3 := blk_cell SK.out 3
  go_wp2_with fail
  refine (H9.out _).mono ?_
  rintro e w3 ⟨rfl, hb⟩
  replace HB := Lib.hid (on HB.out hb)
  replace HC := Lib.hid (Kd.C_below HC.out hb)
  replace SK := Lib.hid (blk_below SK.out hb)
  clear e0 e1 e2 e3
  have hz3 : gs < w3.heap.size := blk_lt SK.out
  clear hb hz2
  go_upto_region 8 with fail
  have hb := below_alloc (Below.refl w3.heap.size w3) (.cells #[.int .i64 11, .string ⟨#[]⟩, .int .i64 0, .int .i64 0, .int .u32 0, .int .i32 0] 27)
  replace HB := Lib.hid (on HB.out hb)
  replace HC := Lib.hid (Kd.C_below HC.out hb)
  replace SK := Lib.hid (blk_below SK.out hb)
  have PK : Hid ((w3.alloc (.cells #[.int .i64 11, .string ⟨#[]⟩, .int .i64 0, .int .i64 0, .int .u32 0, .int .i32 0] 27)).heap[w3.heap.size]? = some (.cells #[.int .i64 11, .string ⟨#[]⟩, .int .i64 0, .int .i64 0, .int .u32 0, .int .i32 0] 27 (0, 0))) := Lib.hid (heap_alloc_new _ _)
  have hz4 : w3.heap.size < (w3.alloc (.cells #[.int .i64 11, .string ⟨#[]⟩, .int .i64 0, .int .i64 0, .int .u32 0, .int .i32 0] 27)).heap.size := blk_lt PK.out
  clear hb
  generalize w3.alloc (.cells #[.int .i64 11, .string ⟨#[]⟩, .int .i64 0, .int .i64 0, .int .u32 0, .int .i32 0] 27) = w4 at *
  generalize w3.heap.size = gp at *
  have hz5 : gs < w4.heap.size := blk_lt SK.out
  clear hz3
  have p0 := blk_cell PK.out 0
  have p1 := blk_cell PK.out 1
  have p2 := blk_cell PK.out 2
  have p3 := blk_cell PK.out 3
  have p4 := blk_cell PK.out 4
  have p5 := blk_cell PK.out 5
  go_upto_region 9 with fail
  rcases hu with hu | ⟨hs, hu, h9⟩
  · have HS := Lib.hid (decide_eq_false hu)
    clear hu
    go_wp2_with fail
    refine (rscalarC u _).mono ?_
    rintro e w5 ⟨rfl, hd⟩
    rw [HS.out]
    have HB5 := Lib.hid (on HB.out hd.below)
    clear hd
    go_wp2_with fail
    go_ret
    exact ⟨rfl, HB5.out⟩
  · have HS := Lib.hid (decide_eq_true hs)
    clear hs
    go_wp2_with fail
    refine (rscalarC u _).mono ?_
    rintro e w5 ⟨rfl, hd⟩
    rw [HS.out]
    have HB5 := Lib.hid (on HB.out hd.below)
    clear hd
    go_wp2_with fail
    go_ret
    exact ⟨rfl, HB5.out⟩
set_option maxHeartbeats 4000000 in
set_option maxRecDepth 100000 in
theorem back_none_2_0 (kind mode u : Int) (A : Option Addr) (c : Nat) (l : List Int) (w : World) (hC : Kd.C (Kd.int .u8) w A l.length l) (hc : l.length ≤ c) (hb : ∀ x ∈ l, Byte x) (hlen : l.length ≤ 140737488351232) (hq : (IntKind.u64.wrap kind).tmod 8 = 2) (hmode : (IntKind.u64.wrap mode).tmod 3 = 0) (hsw : SW 5 0 0 0 0 u 11 [] 0) (hu : ¬ Scal u) :
    Calls Try.prog 5 #[.int .i64 kind, .int .i64 mode, .int .i32 u, .slice A l.length c] w fun e w' => e = .returned (.bool true) ∧ Below w.heap.size w w' := by
  have H9 := set_at hsw
  clear hsw
  rw [show strOfNums [] = (⟨#[]⟩ : ByteArray) from rfl] at H9
  have HC := Lib.hid hC
  have Hc := Lib.hid hc
  have Hb := Lib.hid hb
  clear hC hc hb
  go_enter Try.func5, Try.ntmps5
  go_wp2_with fail
  refine (worksC _).mono ?_
  rintro e w1 ⟨rfl, hb1⟩
  have HB : Hid (Below w.heap.size w w1) := Lib.hid hb1
  replace HC := Lib.hid (Kd.C_below HC.out hb1)
  have Hgs : Hid (w.heap.size ≤ w1.heap.size) := Lib.hid hb1.size
  clear hb1
  go_upto_region 7 with fail
  have hb := below_alloc (Below.refl w1.heap.size w1) (.cells #[.int .i64 0, .int .i64 0, .int .u32 0, .int .i32 0] 24)
  replace HB := Lib.hid (on HB.out hb)
  replace HC := Lib.hid (Kd.C_below HC.out hb)
  have SK : Hid ((w1.alloc (.cells #[.int .i64 0, .int .i64 0, .int .u32 0, .int .i32 0] 24)).heap[w1.heap.size]? = some (.cells #[.int .i64 0, .int .i64 0, .int .u32 0, .int .i32 0] 24 (0, 0))) := Lib.hid (heap_alloc_new _ _)
  have hz2 : w1.heap.size < (w1.alloc (.cells #[.int .i64 0, .int .i64 0, .int .u32 0, .int .i32 0] 24)).heap.size := blk_lt SK.out
  clear hb
  generalize w1.alloc (.cells #[.int .i64 0, .int .i64 0, .int .u32 0, .int .i32 0] 24) = w2 at *
  generalize w1.heap.size = gs at *
  have e0 := blk_cell SK.out 0
  have e1 := blk_cell SK.out 1
  have e2 := blk_cell SK.out 2
  have e3 := blk_cell SK.out 3
  go_wp2_with fail
  refine (H9.out _).mono ?_
  rintro e w3 ⟨rfl, hb⟩
  replace HB := Lib.hid (on HB.out hb)
  replace HC := Lib.hid (Kd.C_below HC.out hb)
  replace SK := Lib.hid (blk_below SK.out hb)
  clear e0 e1 e2 e3
  have hz3 : gs < w3.heap.size := blk_lt SK.out
  clear hb hz2
  go_upto_region 8 with fail
  have hb := below_alloc (Below.refl w3.heap.size w3) (.cells #[.int .i64 11, .string ⟨#[]⟩, .int .i64 0, .int .i64 0, .int .u32 0, .int .i32 0] 27)
  replace HB := Lib.hid (on HB.out hb)
  replace HC := Lib.hid (Kd.C_below HC.out hb)
  replace SK := Lib.hid (blk_below SK.out hb)
  have PK : Hid ((w3.alloc (.cells #[.int .i64 11, .string ⟨#[]⟩, .int .i64 0, .int .i64 0, .int .u32 0, .int .i32 0] 27)).heap[w3.heap.size]? = some (.cells #[.int .i64 11, .string ⟨#[]⟩, .int .i64 0, .int .i64 0, .int .u32 0, .int .i32 0] 27 (0, 0))) := Lib.hid (heap_alloc_new _ _)
  have hz4 : w3.heap.size < (w3.alloc (.cells #[.int .i64 11, .string ⟨#[]⟩, .int .i64 0, .int .i64 0, .int .u32 0, .int .i32 0] 27)).heap.size := blk_lt PK.out
  clear hb
  generalize w3.alloc (.cells #[.int .i64 11, .string ⟨#[]⟩, .int .i64 0, .int .i64 0, .int .u32 0, .int .i32 0] 27) = w4 at *
  generalize w3.heap.size = gp at *
  have hz5 : gs < w4.heap.size := blk_lt SK.out
  clear hz3
  have p0 := blk_cell PK.out 0
  have p1 := blk_cell PK.out 1
  have p2 := blk_cell PK.out 2
  have p3 := blk_cell PK.out 3
  have p4 := blk_cell PK.out 4
  have p5 := blk_cell PK.out 5
  go_upto_region 9 with fail
  have HS := Lib.hid (decide_eq_false hu)
  clear hu
  go_wp2_with fail
  refine (rscalarC u _).mono ?_
  rintro e w5 ⟨rfl, hd⟩
  rw [HS.out]
  have HB5 := Lib.hid (on HB.out hd.below)
  clear hd
  go_wp2_with fail
  go_ret
  exact ⟨rfl, HB5.out⟩
set_option maxHeartbeats 4000000 in
set_option maxRecDepth 100000 in
theorem back_none_2_1 (kind mode u : Int) (A : Option Addr) (c : Nat) (l : List Int) (w : World) (hC : Kd.C (Kd.int .u8) w A l.length l) (hc : l.length ≤ c) (hb : ∀ x ∈ l, Byte x) (hlen : l.length ≤ 140737488351232) (hq : (IntKind.u64.wrap kind).tmod 8 = 2) (hmode : (IntKind.u64.wrap mode).tmod 3 = 1) (hsw : SW 5 1 0 0 0 u 11 [] 0) (hu : ¬ Scal u) :
    Calls Try.prog 5 #[.int .i64 kind, .int .i64 mode, .int .i32 u, .slice A l.length c] w fun e w' => e = .returned (.bool true) ∧ Below w.heap.size w w' := by
  have H9 := set_at hsw
  clear hsw
  rw [show strOfNums [] = (⟨#[]⟩ : ByteArray) from rfl] at H9
  have HC := Lib.hid hC
  have Hc := Lib.hid hc
  have Hb := Lib.hid hb
  clear hC hc hb
  go_enter Try.func5, Try.ntmps5
  go_wp2_with fail
  refine (worksC _).mono ?_
  rintro e w1 ⟨rfl, hb1⟩
  have HB : Hid (Below w.heap.size w w1) := Lib.hid hb1
  replace HC := Lib.hid (Kd.C_below HC.out hb1)
  have Hgs : Hid (w.heap.size ≤ w1.heap.size) := Lib.hid hb1.size
  clear hb1
  go_upto_region 7 with fail
  have hb := below_alloc (Below.refl w1.heap.size w1) (.cells #[.int .i64 1, .int .i64 0, .int .u32 0, .int .i32 0] 24)
  replace HB := Lib.hid (on HB.out hb)
  replace HC := Lib.hid (Kd.C_below HC.out hb)
  have SK : Hid ((w1.alloc (.cells #[.int .i64 1, .int .i64 0, .int .u32 0, .int .i32 0] 24)).heap[w1.heap.size]? = some (.cells #[.int .i64 1, .int .i64 0, .int .u32 0, .int .i32 0] 24 (0, 0))) := Lib.hid (heap_alloc_new _ _)
  have hz2 : w1.heap.size < (w1.alloc (.cells #[.int .i64 1, .int .i64 0, .int .u32 0, .int .i32 0] 24)).heap.size := blk_lt SK.out
  clear hb
  generalize w1.alloc (.cells #[.int .i64 1, .int .i64 0, .int .u32 0, .int .i32 0] 24) = w2 at *
  generalize w1.heap.size = gs at *
  have e0 := blk_cell SK.out 0
  have e1 := blk_cell SK.out 1
  have e2 := blk_cell SK.out 2
  have e3 := blk_cell SK.out 3
  go_wp2_with fail
  refine (H9.out _).mono ?_
  rintro e w3 ⟨rfl, hb⟩
  replace HB := Lib.hid (on HB.out hb)
  replace HC := Lib.hid (Kd.C_below HC.out hb)
  replace SK := Lib.hid (blk_below SK.out hb)
  clear e0 e1 e2 e3
  have hz3 : gs < w3.heap.size := blk_lt SK.out
  clear hb hz2
  go_upto_region 8 with fail
  have hb := below_alloc (Below.refl w3.heap.size w3) (.cells #[.int .i64 11, .string ⟨#[]⟩, .int .i64 0, .int .i64 0, .int .u32 0, .int .i32 0] 27)
  replace HB := Lib.hid (on HB.out hb)
  replace HC := Lib.hid (Kd.C_below HC.out hb)
  replace SK := Lib.hid (blk_below SK.out hb)
  have PK : Hid ((w3.alloc (.cells #[.int .i64 11, .string ⟨#[]⟩, .int .i64 0, .int .i64 0, .int .u32 0, .int .i32 0] 27)).heap[w3.heap.size]? = some (.cells #[.int .i64 11, .string ⟨#[]⟩, .int .i64 0, .int .i64 0, .int .u32 0, .int .i32 0] 27 (0, 0))) := Lib.hid (heap_alloc_new _ _)
  have hz4 : w3.heap.size < (w3.alloc (.cells #[.int .i64 11, .string ⟨#[]⟩, .int .i64 0, .int .i64 0, .int .u32 0, .int .i32 0] 27)).heap.size := blk_lt PK.out
  clear hb
  generalize w3.alloc (.cells #[.int .i64 11, .string ⟨#[]⟩, .int .i64 0, .int .i64 0, .int .u32 0, .int .i32 0] 27) = w4 at *
  generalize w3.heap.size = gp at *
  have hz5 : gs < w4.heap.size := blk_lt SK.out
  clear hz3
  have p0 := blk_cell PK.out 0
  have p1 := blk_cell PK.out 1
  have p2 := blk_cell PK.out 2
  have p3 := blk_cell PK.out 3
  have p4 := blk_cell PK.out 4
  have p5 := blk_cell PK.out 5
  go_upto_region 9 with fail
  have HS := Lib.hid (decide_eq_false hu)
  clear hu
  go_wp2_with fail
  refine (rscalarC u _).mono ?_
  rintro e w5 ⟨rfl, hd⟩
  rw [HS.out]
  have HB5 := Lib.hid (on HB.out hd.below)
  clear hd
  go_wp2_with fail
  go_ret
  exact ⟨rfl, HB5.out⟩
set_option maxHeartbeats 4000000 in
set_option maxRecDepth 100000 in
theorem back_none_2_2 (kind mode u : Int) (A : Option Addr) (c : Nat) (l : List Int) (w : World) (hC : Kd.C (Kd.int .u8) w A l.length l) (hc : l.length ≤ c) (hb : ∀ x ∈ l, Byte x) (hlen : l.length ≤ 140737488351232) (hq : (IntKind.u64.wrap kind).tmod 8 = 2) (hmode : (IntKind.u64.wrap mode).tmod 3 = 2) (hsw : SW 5 2 0 0 0 u 11 [] 0) (hu : ¬ Scal u) :
    Calls Try.prog 5 #[.int .i64 kind, .int .i64 mode, .int .i32 u, .slice A l.length c] w fun e w' => e = .returned (.bool true) ∧ Below w.heap.size w w' := by
  have H9 := set_at hsw
  clear hsw
  rw [show strOfNums [] = (⟨#[]⟩ : ByteArray) from rfl] at H9
  have HC := Lib.hid hC
  have Hc := Lib.hid hc
  have Hb := Lib.hid hb
  clear hC hc hb
  go_enter Try.func5, Try.ntmps5
  go_wp2_with fail
  refine (worksC _).mono ?_
  rintro e w1 ⟨rfl, hb1⟩
  have HB : Hid (Below w.heap.size w w1) := Lib.hid hb1
  replace HC := Lib.hid (Kd.C_below HC.out hb1)
  have Hgs : Hid (w.heap.size ≤ w1.heap.size) := Lib.hid hb1.size
  clear hb1
  go_upto_region 7 with fail
  have hb := below_alloc (Below.refl w1.heap.size w1) (.cells #[.int .i64 2, .int .i64 0, .int .u32 0, .int .i32 0] 24)
  replace HB := Lib.hid (on HB.out hb)
  replace HC := Lib.hid (Kd.C_below HC.out hb)
  have SK : Hid ((w1.alloc (.cells #[.int .i64 2, .int .i64 0, .int .u32 0, .int .i32 0] 24)).heap[w1.heap.size]? = some (.cells #[.int .i64 2, .int .i64 0, .int .u32 0, .int .i32 0] 24 (0, 0))) := Lib.hid (heap_alloc_new _ _)
  have hz2 : w1.heap.size < (w1.alloc (.cells #[.int .i64 2, .int .i64 0, .int .u32 0, .int .i32 0] 24)).heap.size := blk_lt SK.out
  clear hb
  generalize w1.alloc (.cells #[.int .i64 2, .int .i64 0, .int .u32 0, .int .i32 0] 24) = w2 at *
  generalize w1.heap.size = gs at *
  have e0 := blk_cell SK.out 0
  have e1 := blk_cell SK.out 1
  have e2 := blk_cell SK.out 2
  have e3 := blk_cell SK.out 3
  go_wp2_with fail
  refine (H9.out _).mono ?_
  rintro e w3 ⟨rfl, hb⟩
  replace HB := Lib.hid (on HB.out hb)
  replace HC := Lib.hid (Kd.C_below HC.out hb)
  replace SK := Lib.hid (blk_below SK.out hb)
  clear e0 e1 e2 e3
  have hz3 : gs < w3.heap.size := blk_lt SK.out
  clear hb hz2
  go_upto_region 8 with fail
  have hb := below_alloc (Below.refl w3.heap.size w3) (.cells #[.int .i64 11, .string ⟨#[]⟩, .int .i64 0, .int .i64 0, .int .u32 0, .int .i32 0] 27)
  replace HB := Lib.hid (on HB.out hb)
  replace HC := Lib.hid (Kd.C_below HC.out hb)
  replace SK := Lib.hid (blk_below SK.out hb)
  have PK : Hid ((w3.alloc (.cells #[.int .i64 11, .string ⟨#[]⟩, .int .i64 0, .int .i64 0, .int .u32 0, .int .i32 0] 27)).heap[w3.heap.size]? = some (.cells #[.int .i64 11, .string ⟨#[]⟩, .int .i64 0, .int .i64 0, .int .u32 0, .int .i32 0] 27 (0, 0))) := Lib.hid (heap_alloc_new _ _)
  have hz4 : w3.heap.size < (w3.alloc (.cells #[.int .i64 11, .string ⟨#[]⟩, .int .i64 0, .int .i64 0, .int .u32 0, .int .i32 0] 27)).heap.size := blk_lt PK.out
  clear hb
  generalize w3.alloc (.cells #[.int .i64 11, .string ⟨#[]⟩, .int .i64 0, .int .i64 0, .int .u32 0, .int .i32 0] 27) = w4 at *
  generalize w3.heap.size = gp at *
  have hz5 : gs < w4.heap.size := blk_lt SK.out
  clear hz3
  have p0 := blk_cell PK.out 0
  have p1 := blk_cell PK.out 1
  have p2 := blk_cell PK.out 2
  have p3 := blk_cell PK.out 3
  have p4 := blk_cell PK.out 4
  have p5 := blk_cell PK.out 5
  go_upto_region 9 with fail
  have HS := Lib.hid (decide_eq_false hu)
  clear hu
  go_wp2_with fail
  refine (rscalarC u _).mono ?_
  rintro e w5 ⟨rfl, hd⟩
  rw [HS.out]
  have HB5 := Lib.hid (on HB.out hd.below)
  clear hd
  go_wp2_with fail
  go_ret
  exact ⟨rfl, HB5.out⟩
set_option maxHeartbeats 4000000 in
set_option maxRecDepth 100000 in
theorem back_none_5_0 (kind mode u : Int) (A : Option Addr) (c : Nat) (l : List Int) (w : World) (hC : Kd.C (Kd.int .u8) w A l.length l) (hc : l.length ≤ c) (hb : ∀ x ∈ l, Byte x) (hlen : l.length ≤ 140737488351232) (hq : (IntKind.u64.wrap kind).tmod 8 = 5) (hmode : (IntKind.u64.wrap mode).tmod 3 = 0) (hsw : SW 8 0 0 0 0 u 11 [] 0) (hu : ¬ Scal u) :
    Calls Try.prog 5 #[.int .i64 kind, .int .i64 mode, .int .i32 u, .slice A l.length c] w fun e w' => e = .returned (.bool true) ∧ Below w.heap.size w w' := by
  have H9 := set_at hsw
  clear hsw
  rw [show strOfNums [] = (⟨#[]⟩ : ByteArray) from rfl] at H9
  have HC := Lib.hid hC
  have Hc := Lib.hid hc
  have Hb := Lib.hid hb
  clear hC hc hb
  go_enter Try.func5, Try.ntmps5
  go_wp2_with fail
  refine (worksC _).mono ?_
  rintro e w1 ⟨rfl, hb1⟩
  have HB : Hid (Below w.heap.size w w1) := Lib.hid hb1
  replace HC := Lib.hid (Kd.C_below HC.out hb1)
  have Hgs : Hid (w.heap.size ≤ w1.heap.size) := Lib.hid hb1.size
  clear hb1
  go_upto_region 7 with fail
  have hb := below_alloc (Below.refl w1.heap.size w1) (.cells #[.int .i64 0, .int .i64 0, .int .u32 0, .int .i32 0] 24)
  replace HB := Lib.hid (on HB.out hb)
  replace HC := Lib.hid (Kd.C_below HC.out hb)
  have SK : Hid ((w1.alloc (.cells #[.int .i64 0, .int .i64 0, .int .u32 0, .int .i32 0] 24)).heap[w1.heap.size]? = some (.cells #[.int .i64 0, .int .i64 0, .int .u32 0, .int .i32 0] 24 (0, 0))) := Lib.hid (heap_alloc_new _ _)
  have hz2 : w1.heap.size < (w1.alloc (.cells #[.int .i64 0, .int .i64 0, .int .u32 0, .int .i32 0] 24)).heap.size := blk_lt SK.out
  clear hb
  generalize w1.alloc (.cells #[.int .i64 0, .int .i64 0, .int .u32 0, .int .i32 0] 24) = w2 at *
  generalize w1.heap.size = gs at *
  have e0 := blk_cell SK.out 0
  have e1 := blk_cell SK.out 1
  have e2 := blk_cell SK.out 2
  have e3 := blk_cell SK.out 3
  go_wp2_with fail
  refine (H9.out _).mono ?_
  rintro e w3 ⟨rfl, hb⟩
  replace HB := Lib.hid (on HB.out hb)
  replace HC := Lib.hid (Kd.C_below HC.out hb)
  replace SK := Lib.hid (blk_below SK.out hb)
  clear e0 e1 e2 e3
  have hz3 : gs < w3.heap.size := blk_lt SK.out
  clear hb hz2
  go_upto_region 8 with fail
  have hb := below_alloc (Below.refl w3.heap.size w3) (.cells #[.int .i64 11, .string ⟨#[]⟩, .int .i64 0, .int .i64 0, .int .u32 0, .int .i32 0] 27)
  replace HB := Lib.hid (on HB.out hb)
  replace HC := Lib.hid (Kd.C_below HC.out hb)
  replace SK := Lib.hid (blk_below SK.out hb)
  have PK : Hid ((w3.alloc (.cells #[.int .i64 11, .string ⟨#[]⟩, .int .i64 0, .int .i64 0, .int .u32 0, .int .i32 0] 27)).heap[w3.heap.size]? = some (.cells #[.int .i64 11, .string ⟨#[]⟩, .int .i64 0, .int .i64 0, .int .u32 0, .int .i32 0] 27 (0, 0))) := Lib.hid (heap_alloc_new _ _)
  have hz4 : w3.heap.size < (w3.alloc (.cells #[.int .i64 11, .string ⟨#[]⟩, .int .i64 0, .int .i64 0, .int .u32 0, .int .i32 0] 27)).heap.size := blk_lt PK.out
  clear hb
  generalize w3.alloc (.cells #[.int .i64 11, .string ⟨#[]⟩, .int .i64 0, .int .i64 0, .int .u32 0, .int .i32 0] 27) = w4 at *
  generalize w3.heap.size = gp at *
  have hz5 : gs < w4.heap.size := blk_lt SK.out
  clear hz3
  have p0 := blk_cell PK.out 0
  have p1 := blk_cell PK.out 1
  have p2 := blk_cell PK.out 2
  have p3 := blk_cell PK.out 3
  have p4 := blk_cell PK.out 4
  have p5 := blk_cell PK.out 5
  go_upto_region 9 with fail
  have HS := Lib.hid (decide_eq_false hu)
  clear hu
  go_wp2_with fail
  refine (rscalarC u _).mono ?_
  rintro e w5 ⟨rfl, hd⟩
  rw [HS.out]
  have HB5 := Lib.hid (on HB.out hd.below)
  clear hd
  go_wp2_with fail
  go_ret
  exact ⟨rfl, HB5.out⟩
set_option maxHeartbeats 4000000 in
set_option maxRecDepth 100000 in
theorem back_none_5_1 (kind mode u : Int) (A : Option Addr) (c : Nat) (l : List Int) (w : World) (hC : Kd.C (Kd.int .u8) w A l.length l) (hc : l.length ≤ c) (hb : ∀ x ∈ l, Byte x) (hlen : l.length ≤ 140737488351232) (hq : (IntKind.u64.wrap kind).tmod 8 = 5) (hmode : (IntKind.u64.wrap mode).tmod 3 = 1) (hsw : SW 8 1 0 0 0 u 11 [] 0) (hu : ¬ Scal u) :
    Calls Try.prog 5 #[.int .i64 kind, .int .i64 mode, .int .i32 u, .slice A l.length c] w fun e w' => e = .returned (.bool true) ∧ Below w.heap.size w w' := by
  have H9 := set_at hsw
  clear hsw
  rw [show strOfNums [] = (⟨#[]⟩ : ByteArray) from rfl] at H9
  have HC := Lib.hid hC
  have Hc := Lib.hid hc
  have Hb := Lib.hid hb
  clear hC hc hb
  go_enter Try.func5, Try.ntmps5
  go_wp2_with fail
  refine (worksC _).mono ?_
  rintro e w1 ⟨rfl, hb1⟩
  have HB : Hid (Below w.heap.size w w1) := Lib.hid hb1
  replace HC := Lib.hid (Kd.C_below HC.out hb1)
  have Hgs : Hid (w.heap.size ≤ w1.heap.size) := Lib.hid hb1.size
  clear hb1
  go_upto_region 7 with fail
  have hb := below_alloc (Below.refl w1.heap.size w1) (.cells #[.int .i64 1, .int .i64 0, .int .u32 0, .int .i32 0] 24)
  replace HB := Lib.hid (on HB.out hb)
  replace HC := Lib.hid (Kd.C_below HC.out hb)
  have SK : Hid ((w1.alloc (.cells #[.int .i64 1, .int .i64 0, .int .u32 0, .int .i32 0] 24)).heap[w1.heap.size]? = some (.cells #[.int .i64 1, .int .i64 0, .int .u32 0, .int .i32 0] 24 (0, 0))) := Lib.hid (heap_alloc_new _ _)
  have hz2 : w1.heap.size < (w1.alloc (.cells #[.int .i64 1, .int .i64 0, .int .u32 0, .int .i32 0] 24)).heap.size := blk_lt SK.out
  clear hb
  generalize w1.alloc (.cells #[.int .i64 1, .int .i64 0, .int .u32 0, .int .i32 0] 24) = w2 at *
  generalize w1.heap.size = gs at *
  have e0 := blk_cell SK.out 0
  have e1 := blk_cell SK.out 1
  have e2 := blk_cell SK.out 2
  have e3 := blk_cell SK.out 3
  go_wp2_with fail
  refine (H9.out _).mono ?_
  rintro e w3 ⟨rfl, hb⟩
  replace HB := Lib.hid (on HB.out hb)
  replace HC := Lib.hid (Kd.C_below HC.out hb)
  replace SK := Lib.hid (blk_below SK.out hb)
  clear e0 e1 e2 e3
  have hz3 : gs < w3.heap.size := blk_lt SK.out
  clear hb hz2
  go_upto_region 8 with fail
  have hb := below_alloc (Below.refl w3.heap.size w3) (.cells #[.int .i64 11, .string ⟨#[]⟩, .int .i64 0, .int .i64 0, .int .u32 0, .int .i32 0] 27)
  replace HB := Lib.hid (on HB.out hb)
  replace HC := Lib.hid (Kd.C_below HC.out hb)
  replace SK := Lib.hid (blk_below SK.out hb)
  have PK : Hid ((w3.alloc (.cells #[.int .i64 11, .string ⟨#[]⟩, .int .i64 0, .int .i64 0, .int .u32 0, .int .i32 0] 27)).heap[w3.heap.size]? = some (.cells #[.int .i64 11, .string ⟨#[]⟩, .int .i64 0, .int .i64 0, .int .u32 0, .int .i32 0] 27 (0, 0))) := Lib.hid (heap_alloc_new _ _)
  have hz4 : w3.heap.size < (w3.alloc (.cells #[.int .i64 11, .string ⟨#[]⟩, .int .i64 0, .int .i64 0, .int .u32 0, .int .i32 0] 27)).heap.size := blk_lt PK.out
  clear hb
  generalize w3.alloc (.cells #[.int .i64 11, .string ⟨#[]⟩, .int .i64 0, .int .i64 0, .int .u32 0, .int .i32 0] 27) = w4 at *
  generalize w3.heap.size = gp at *
  have hz5 : gs < w4.heap.size := blk_lt SK.out
  clear hz3
  have p0 := blk_cell PK.out 0
  have p1 := blk_cell PK.out 1
  have p2 := blk_cell PK.out 2
  have p3 := blk_cell PK.out 3
  have p4 := blk_cell PK.out 4
  have p5 := blk_cell PK.out 5
  go_upto_region 9 with fail
  have HS := Lib.hid (decide_eq_false hu)
  clear hu
  go_wp2_with fail
  refine (rscalarC u _).mono ?_
  rintro e w5 ⟨rfl, hd⟩
  rw [HS.out]
  have HB5 := Lib.hid (on HB.out hd.below)
  clear hd
  go_wp2_with fail
  go_ret
  exact ⟨rfl, HB5.out⟩
set_option maxHeartbeats 4000000 in
set_option maxRecDepth 100000 in
theorem back_none_5_2 (kind mode u : Int) (A : Option Addr) (c : Nat) (l : List Int) (w : World) (hC : Kd.C (Kd.int .u8) w A l.length l) (hc : l.length ≤ c) (hb : ∀ x ∈ l, Byte x) (hlen : l.length ≤ 140737488351232) (hq : (IntKind.u64.wrap kind).tmod 8 = 5) (hmode : (IntKind.u64.wrap mode).tmod 3 = 2) (hsw : SW 8 2 0 0 0 u 11 [] 0) (hu : ¬ Scal u) :
    Calls Try.prog 5 #[.int .i64 kind, .int .i64 mode, .int .i32 u, .slice A l.length c] w fun e w' => e = .returned (.bool true) ∧ Below w.heap.size w w' := by
  have H9 := set_at hsw
  clear hsw
  rw [show strOfNums [] = (⟨#[]⟩ : ByteArray) from rfl] at H9
  have HC := Lib.hid hC
  have Hc := Lib.hid hc
  have Hb := Lib.hid hb
  clear hC hc hb
  go_enter Try.func5, Try.ntmps5
  go_wp2_with fail
  refine (worksC _).mono ?_
  rintro e w1 ⟨rfl, hb1⟩
  have HB : Hid (Below w.heap.size w w1) := Lib.hid hb1
  replace HC := Lib.hid (Kd.C_below HC.out hb1)
  have Hgs : Hid (w.heap.size ≤ w1.heap.size) := Lib.hid hb1.size
  clear hb1
  go_upto_region 7 with fail
  have hb := below_alloc (Below.refl w1.heap.size w1) (.cells #[.int .i64 2, .int .i64 0, .int .u32 0, .int .i32 0] 24)
  replace HB := Lib.hid (on HB.out hb)
  replace HC := Lib.hid (Kd.C_below HC.out hb)
  have SK : Hid ((w1.alloc (.cells #[.int .i64 2, .int .i64 0, .int .u32 0, .int .i32 0] 24)).heap[w1.heap.size]? = some (.cells #[.int .i64 2, .int .i64 0, .int .u32 0, .int .i32 0] 24 (0, 0))) := Lib.hid (heap_alloc_new _ _)
  have hz2 : w1.heap.size < (w1.alloc (.cells #[.int .i64 2, .int .i64 0, .int .u32 0, .int .i32 0] 24)).heap.size := blk_lt SK.out
  clear hb
  generalize w1.alloc (.cells #[.int .i64 2, .int .i64 0, .int .u32 0, .int .i32 0] 24) = w2 at *
  generalize w1.heap.size = gs at *
  have e0 := blk_cell SK.out 0
  have e1 := blk_cell SK.out 1
  have e2 := blk_cell SK.out 2
  have e3 := blk_cell SK.out 3
  go_wp2_with fail
  refine (H9.out _).mono ?_
  rintro e w3 ⟨rfl, hb⟩
  replace HB := Lib.hid (on HB.out hb)
  replace HC := Lib.hid (Kd.C_below HC.out hb)
  replace SK := Lib.hid (blk_below SK.out hb)
  clear e0 e1 e2 e3
  have hz3 : gs < w3.heap.size := blk_lt SK.out
  clear hb hz2
  go_upto_region 8 with fail
  have hb := below_alloc (Below.refl w3.heap.size w3) (.cells #[.int .i64 11, .string ⟨#[]⟩, .int .i64 0, .int .i64 0, .int .u32 0, .int .i32 0] 27)
  replace HB := Lib.hid (on HB.out hb)
  replace HC := Lib.hid (Kd.C_below HC.out hb)
  replace SK := Lib.hid (blk_below SK.out hb)
  have PK : Hid ((w3.alloc (.cells #[.int .i64 11, .string ⟨#[]⟩, .int .i64 0, .int .i64 0, .int .u32 0, .int .i32 0] 27)).heap[w3.heap.size]? = some (.cells #[.int .i64 11, .string ⟨#[]⟩, .int .i64 0, .int .i64 0, .int .u32 0, .int .i32 0] 27 (0, 0))) := Lib.hid (heap_alloc_new _ _)
  have hz4 : w3.heap.size < (w3.alloc (.cells #[.int .i64 11, .string ⟨#[]⟩, .int .i64 0, .int .i64 0, .int .u32 0, .int .i32 0] 27)).heap.size := blk_lt PK.out
  clear hb
  generalize w3.alloc (.cells #[.int .i64 11, .string ⟨#[]⟩, .int .i64 0, .int .i64 0, .int .u32 0, .int .i32 0] 27) = w4 at *
  generalize w3.heap.size = gp at *
  have hz5 : gs < w4.heap.size := blk_lt SK.out
  clear hz3
  have p0 := blk_cell PK.out 0
  have p1 := blk_cell PK.out 1
  have p2 := blk_cell PK.out 2
  have p3 := blk_cell PK.out 3
  have p4 := blk_cell PK.out 4
  have p5 := blk_cell PK.out 5
  go_upto_region 9 with fail
  have HS := Lib.hid (decide_eq_false hu)
  clear hu
  go_wp2_with fail
  refine (rscalarC u _).mono ?_
  rintro e w5 ⟨rfl, hd⟩
  rw [HS.out]
  have HB5 := Lib.hid (on HB.out hd.below)
  clear hd
  go_wp2_with fail
  go_ret
  exact ⟨rfl, HB5.out⟩
set_option maxHeartbeats 4000000 in
set_option maxRecDepth 100000 in
theorem back_direct_q_0 (kind mode u q : Int) (A : Option Addr) (c : Nat) (l : List Int) (w : World) (hC : Kd.C (Kd.int .u8) w A l.length l) (hc : l.length ≤ c) (hb : ∀ x ∈ l, Byte x) (hlen : l.length ≤ 140737488351232) (hq : (IntKind.u64.wrap kind).tmod 8 = q)(hq0 : 0 ≤ q) (hq7 : q ≤ 7) (h5 : ((3 + q) == 5) = false) (h8 : ((3 + q) == 8) = false) (ub : List Int) (hd : Direct (3 + q) 0 u ub) (er k1 s1 v1 m1 : Int) (hag : Again (3 + q) 0 l er k1 s1 v1 m1) :
    Calls Try.prog 5 #[.int .i64 kind, .int .i64 mode, .int .i32 u, .slice A l.length c] w fun e w' => e = .returned (.bool true) ∧ Below w.heap.size w w' := by
  have hw : wrap64 q = q := by unfold wrap64; omega
  obtain ⟨hu1, hu4, hubb, hsw, hgw⟩ := hd
  have H9 := set_at hsw
  have HLBb : ∀ x ∈ ub ++ l, Byte x := by
    intro x hx
    rcases List.mem_append.1 hx with hx | hx
    · exact hubb x hx
    · exact hb x hx
  have HG2 := got_at HLBb (hgw l)
  have HH := got_at hb hag.1
  have HAG := Lib.hid hag.2
  obtain ⟨S, hS⟩ : ∃ S, S = strOfNums (ub) := ⟨_, rfl⟩
  rw [← hS] at H9
  have hsz : S.size = (ub).length := by rw [hS, str_len]
  have hbo : bytesOf S = ub := by rw [hS]; exact bytesOf_str _ hubb
  clear hS
  rw [← hsz] at HG2
  obtain ⟨lb, hlb⟩ : ∃ lb, lb = ub ++ l := ⟨_, rfl⟩
  rw [← hlb] at HG2
  have HLB := Lib.hid hlb
  have HBO := Lib.hid hbo
  have hsz1 : S.size ≤ 4 := by omega
  have HSZ := Lib.hid hsz
  have hul : ub.length ≤ 4 := hu4
  clear hlb hbo hsz hsw hgw hag hubb HLBb hu1 hu4
  have HC := Lib.hid hC
  have Hc := Lib.hid hc
  have Hb := Lib.hid hb
  clear hC hc hb
  go_enter Try.func5, Try.ntmps5
  go_wp2_with fail
  refine (worksC _).mono ?_
  rintro e w1 ⟨rfl, hb1⟩
  have HB : Hid (Below w.heap.size w w1) := Lib.hid hb1
  replace HC := Lib.hid (Kd.C_below HC.out hb1)
  have Hgs : Hid (w.heap.size ≤ w1.heap.size) := Lib.hid hb1.size
  clear hb1
  go_upto_region 7 with fail
  have hb := below_alloc (Below.refl w1.heap.size w1) (.cells #[.int .i64 0, .int .i64 0, .int .u32 0, .int .i32 0] 24)
  replace HB := Lib.hid (on HB.out hb)
  replace HC := Lib.hid (Kd.C_below HC.out hb)
  have SK : Hid ((w1.alloc (.cells #[.int .i64 0, .int .i64 0, .int .u32 0, .int .i32 0] 24)).heap[w1.heap.size]? = some (.cells #[.int .i64 0, .int .i64 0, .int .u32 0, .int .i32 0] 24 (0, 0))) := Lib.hid (heap_alloc_new _ _)
  have hz2 : w1.heap.size < (w1.alloc (.cells #[.int .i64 0, .int .i64 0, .int .u32 0, .int .i32 0] 24)).heap.size := blk_lt SK.out
  clear hb
  generalize w1.alloc (.cells #[.int .i64 0, .int .i64 0, .int .u32 0, .int .i32 0] 24) = w2 at *
  generalize w1.heap.size = gs at *
  have e0 := blk_cell SK.out 0
  have e1 := blk_cell SK.out 1
  have e2 := blk_cell SK.out 2
  have e3 := blk_cell SK.out 3
  go_wp2_with fail
  refine (H9.out _).mono ?_
  rintro e w3 ⟨rfl, hb⟩
  replace HB := Lib.hid (on HB.out hb)
  replace HC := Lib.hid (Kd.C_below HC.out hb)
  replace SK := Lib.hid (blk_below SK.out hb)
  clear e0 e1 e2 e3
  have hz3 : gs < w3.heap.size := blk_lt SK.out
  clear hb hz2
  go_upto_region 8 with fail
  have hb := below_alloc (Below.refl w3.heap.size w3) (.cells #[.int .i64 0, .string S, .int .i64 0, .int .i64 0, .int .u32 0, .int .i32 0] 27)
  replace HB := Lib.hid (on HB.out hb)
  replace HC := Lib.hid (Kd.C_below HC.out hb)
  replace SK := Lib.hid (blk_below SK.out hb)
  have PK : Hid ((w3.alloc (.cells #[.int .i64 0, .string S, .int .i64 0, .int .i64 0, .int .u32 0, .int .i32 0] 27)).heap[w3.heap.size]? = some (.cells #[.int .i64 0, .string S, .int .i64 0, .int .i64 0, .int .u32 0, .int .i32 0] 27 (0, 0))) := Lib.hid (heap_alloc_new _ _)
  have hz4 : w3.heap.size < (w3.alloc (.cells #[.int .i64 0, .string S, .int .i64 0, .int .i64 0, .int .u32 0, .int .i32 0] 27)).heap.size := blk_lt PK.out
  clear hb
  generalize w3.alloc (.cells #[.int .i64 0, .string S, .int .i64 0, .int .i64 0, .int .u32 0, .int .i32 0] 27) = w4 at *
  generalize w3.heap.size = gp at *
  have hz5 : gs < w4.heap.size := blk_lt SK.out
  clear hz3
  have kb := fun W => print_bytes (P := Try.prog) 9 30 5 Try.underlying9 Try.underlying30 Try.underlying5 S W
  have hbz : Below w4.heap.size w4 (Lib.bytesWorld w4 5 S) := bytes_below (Below.refl _ _) (Nat.le_refl _) 5 _
  obtain ⟨A1, c1, w5, hr, hC1, hc1, hb5⟩ := append_run (w0 := w4) (base := w4.heap.size) 30 (OwnB.conv w4 S (by omega)) (Kd.C_below HC.out hbz) hbz (Nat.le_refl _) hbz.size (by rw [HBO.out]; omega)
  rw [HBO.out] at hr hC1 hc1
  rw [← HLB.out] at hr hC1 hc1
  have HR := Lib.hid hr
  have HC1 := Lib.hid hC1
  have Hc1 := Lib.hid hc1
  have HB5 := Lib.hid hb5
  clear hr hC1 hc1 hb5
  have p0 := blk_cell PK.out 0
  have p1 := blk_cell PK.out 1
  have p2 := blk_cell PK.out 2
  have p3 := blk_cell PK.out 3
  have p4 := blk_cell PK.out 4
  have p5 := blk_cell PK.out 5
  go_upto_region 10 with fail
  go_upto_region 11 with (at_builtin; refine Lib.wpList_append_run _ rfl (.tmp 60) (.tmp 61) 30 30 rfl _ _ rfl rfl _ _ HR.out ?_)
  clear kb HR
  clear p0 p1 p2 p3 p4 p5
  replace HB := Lib.hid (on HB.out HB5.out)
  replace HC := Lib.hid (Kd.C_below HC.out HB5.out)
  replace SK := Lib.hid (blk_below SK.out HB5.out)
  replace PK := Lib.hid (blk_below PK.out HB5.out)
  clear HB5
  have hz6 : gs < w5.heap.size := blk_lt SK.out
  have hz7 : gp < w5.heap.size := blk_lt PK.out
  clear hz4 hz5
  obtain ⟨A2, HSL, HSD, Hsc⟩ := drop_at (A := A1) (c := c1) (l := lb) 0 (Nat.zero_le _) Hc1.out
  rw [List.drop_zero] at HSL HSD Hsc
  rw [Nat.sub_zero] at HSL Hsc
  change Hid (∀ W : World, (Instr.slice 30 (.slice A1 lb.length c1) (some (.int .i64 0)) none none).run Try.prog W = .ok (.slice A2 lb.length c1) W) at HSL
  have e0 := blk_cell SK.out 0
  have e1 := blk_cell SK.out 1
  have e2 := blk_cell SK.out 2
  have e3 := blk_cell SK.out 3
  go_upto_region 17 with fail
  clear e0 e1 e2 e3
  go_cut [14] (fun s wx => Cut17 (fun g wy => Hid (wy.heap[g]? = some (.cells #[.int .i64 0, .int .i64 S.size, .int .i64 1, .int .i32 u, .int .i32 0, .int .i64 0, .int .i64 0, .int .u32 0, .int .i32 0] 32 (0, 0))) ∧ Hid (wy.heap[gs]? = some (.cells #[.int .i64 0, .int .i64 0, .int .u32 0, .int .i32 0] 24 (0, 0))) ∧ Hid (wy.heap[gp]? = some (.cells #[.int .i64 0, .string S, .int .i64 0, .int .i64 0, .int .u32 0, .int .i32 0] 27 (0, 0))) ∧ Hid (Below w.heap.size w wy) ∧ Hid (Kd.C (Kd.int .u8) wy A l.length l)) s wx)
  case first =>
    have HX : Hid (Below w5.heap.size w5 w5.drew) := Lib.hid (below_drew (Below.refl _ _))
    have HXa : Hid (Below w5.heap.size w5 (w5.alloc (.cells #[.int .i64 0, .int .i64 0, .int .i64 0, .int .i32 0, .int .i32 0, .int .i64 0, .int .i64 0, .int .u32 0, .int .i32 0] 32)).drew) := Lib.hid (below_drew (below_alloc (Below.refl _ _) _))
    have d0 : w5.drew.cell? ⟨gs, 0, none⟩ = some (.int .i64 0) := blk_cell SK.out 0
    have d1 : w5.drew.cell? ⟨gs, 1, none⟩ = some (.int .i64 0) := blk_cell SK.out 1
    have d2 : w5.drew.cell? ⟨gs, 2, none⟩ = some (.int .u32 0) := blk_cell SK.out 2
    have d3 : w5.drew.cell? ⟨gs, 3, none⟩ = some (.int .i32 0) := blk_cell SK.out 3
    have b0 : (w5.alloc (.cells #[.int .i64 0, .int .i64 0, .int .i64 0, .int .i32 0, .int .i32 0, .int .i64 0, .int .i64 0, .int .u32 0, .int .i32 0] 32)).drew.cell? ⟨gs, 0, none⟩ = some (.int .i64 0) := blk_cell (blk_alloc SK.out _) 0
    have b1 : (w5.alloc (.cells #[.int .i64 0, .int .i64 0, .int .i64 0, .int .i32 0, .int .i32 0, .int .i64 0, .int .i64 0, .int .u32 0, .int .i32 0] 32)).drew.cell? ⟨gs, 1, none⟩ = some (.int .i64 0) := blk_cell (blk_alloc SK.out _) 1
    have b2 : (w5.alloc (.cells #[.int .i64 0, .int .i64 0, .int .i64 0, .int .i32 0, .int .i32 0, .int .i64 0, .int .i64 0, .int .u32 0, .int .i32 0] 32)).drew.cell? ⟨gs, 2, none⟩ = some (.int .u32 0) := blk_cell (blk_alloc SK.out _) 2
    have b3 : (w5.alloc (.cells #[.int .i64 0, .int .i64 0, .int .i64 0, .int .i32 0, .int .i32 0, .int .i64 0, .int .i64 0, .int .u32 0, .int .i32 0] 32)).drew.cell? ⟨gs, 3, none⟩ = some (.int .i32 0) := blk_cell (blk_alloc SK.out _) 3
    have hsl := HSL.out
    go_region_law (first | (go_simp; go_at_call 11; ((with_reducible refine (HG2.out _ _ _ (HSD.out _ (Kd.C_below HC1.out HX.out)) Hsc.out).mono ?_); rintro e wa ⟨rfl, hb⟩; have HWp := Lib.hid (below_on HX.out HX.out.size hb); clear hb; have SKp := Lib.hid (blk_b SK.out HWp.out hz6); have hne : gs < wa.heap.size := Nat.lt_of_lt_of_le hz6 HWp.out.size)) | (go_simp; go_at_call 11; ((with_reducible refine (HG2.out _ _ _ (HSD.out _ (Kd.C_below HC1.out HXa.out)) Hsc.out).mono ?_); rintro e wa ⟨rfl, hb⟩; have GZ : Hid (wa.heap[w5.heap.size]? = some (.cells #[.int .i64 0, .int .i64 0, .int .i64 0, .int .i32 0, .int .i32 0, .int .i64 0, .int .i64 0, .int .u32 0, .int .i32 0] 32 (0, 0))) := Lib.hid (blk_below (blk_drew (heap_alloc_new _ _)) hb); have HWq := Lib.hid (below_on HXa.out HXa.out.size hb); clear hb; have SKq := Lib.hid (blk_b SK.out HWq.out hz6); have hne : gs < wa.heap.size := Nat.lt_of_lt_of_le hz6 HWq.out.size; have hnz : w5.heap.size < wa.heap.size := blk_lt GZ.out; have r0 := blk_cell GZ.out 0; have r1 := blk_cell GZ.out 1; have r2 := blk_cell GZ.out 2; have r3 := blk_cell GZ.out 3; have r4 := blk_cell GZ.out 4; have r5 := blk_cell GZ.out 5; have r6 := blk_cell GZ.out 6; have r7 := blk_cell GZ.out 7; have r8 := blk_cell GZ.out 8; have t0 := blk_frozen GZ.out 0; have t1 := blk_frozen GZ.out 1; have t2 := blk_frozen GZ.out 2; have t3 := blk_frozen GZ.out 3; have t4 := blk_frozen GZ.out 4; have t5 := blk_frozen GZ.out 5; have t6 := blk_frozen GZ.out 6; have t7 := blk_frozen GZ.out 7; have t8 := blk_frozen GZ.out 8)) | fail)
    all_goals
      go_wp2_with fail
      go_meet
      first | (have hx_ := HWp.out; clear hx_; exact ⟨wa.heap.size, rfl, Lib.hid (heap_alloc_new _ _), Lib.hid (blk_alloc SKp.out _), Lib.hid (blk_alloc (blk_b PK.out HWp.out hz7) _), Lib.hid (below_alloc (on HB.out HWp.out) _), Lib.hid (Kd.C_below HC.out (below_alloc HWp.out _))⟩) | (have hx_ := HWq.out; clear hx_; exact ⟨w5.heap.size, rfl, Lib.hid (put9 GZ.out _ _ _ _ _ _ _ _ _), Lib.hid (set9 SKq.out (Nat.ne_of_lt hz6) _ _ _ _ _ _ _ _ _), Lib.hid (set9 (blk_b PK.out HWq.out hz7) (Nat.ne_of_lt hz7) _ _ _ _ _ _ _ _ _), Lib.hid (below9 (on HB.out HWq.out) HB.out.size _ _ _ _ _ _ _ _ _), Lib.hid (Kd.C_below HC.out (below9 HWq.out (Nat.le_refl _) _ _ _ _ _ _ _ _ _))⟩)
  case rest =>
    obtain ⟨gg, rfl, GK, SK, PK, HB, HC⟩ := hcut
    clear HSD HSL Hsc
    have hz8 : gs < wc.heap.size := blk_lt SK.out
    have hz9 : gp < wc.heap.size := blk_lt PK.out
    have hz10 : gg < wc.heap.size := blk_lt GK.out
    have e0 := blk_cell SK.out 0
    have e1 := blk_cell SK.out 1
    have e2 := blk_cell SK.out 2
    have e3 := blk_cell SK.out 3
    have p0 := blk_cell PK.out 0
    have p1 := blk_cell PK.out 1
    have p2 := blk_cell PK.out 2
    have p3 := blk_cell PK.out 3
    have p4 := blk_cell PK.out 4
    have p5 := blk_cell PK.out 5
    have g0 := blk_cell GK.out 0
    have g1 := blk_cell GK.out 1
    have g2 := blk_cell GK.out 2
    have g3 := blk_cell GK.out 3
    have g4 := blk_cell GK.out 4
    have g5 := blk_cell GK.out 5
    have g6 := blk_cell GK.out 6
    have g7 := blk_cell GK.out 7
    have g8 := blk_cell GK.out 8
    go_upto_region 20 with fail
    clear p0 p1 p2 p3 p4 p5
    clear g0 g1 g2 g3 g4 g5 g6 g7 g8
    go_wp2_with fail
    refine (HH.out _ _ _ HC.out Hc.out).mono ?_
    rintro e w9 ⟨rfl, hb⟩
    replace HB := Lib.hid (on HB.out hb)
    replace HC := Lib.hid (Kd.C_below HC.out hb)
    replace SK := Lib.hid (blk_below SK.out hb)
    replace PK := Lib.hid (blk_below PK.out hb)
    replace GK := Lib.hid (blk_below GK.out hb)
    clear hb
    clear e0 e1 e2 e3
    go_upto_region 21 with fail
    have hb := below_alloc (Below.refl w9.heap.size w9) (.cells #[.int .i64 er, .int .i64 k1, .int .i64 s1, .int .i32 v1, .int .i32 0, .int .i64 m1, .int .i64 0, .int .u32 0, .int .i32 0] 32)
    replace HB := Lib.hid (on HB.out hb)
    replace HC := Lib.hid (Kd.C_below HC.out hb)
    replace SK := Lib.hid (blk_below SK.out hb)
    replace PK := Lib.hid (blk_below PK.out hb)
    replace GK := Lib.hid (blk_below GK.out hb)
    have HK : Hid ((w9.alloc (.cells #[.int .i64 er, .int .i64 k1, .int .i64 s1, .int .i32 v1, .int .i32 0, .int .i64 m1, .int .i64 0, .int .u32 0, .int .i32 0] 32)).heap[w9.heap.size]? = some (.cells #[.int .i64 er, .int .i64 k1, .int .i64 s1, .int .i32 v1, .int .i32 0, .int .i64 m1, .int .i64 0, .int .u32 0, .int .i32 0] 32 (0, 0))) := Lib.hid (heap_alloc_new _ _)
    clear hb
    generalize w9.alloc (.cells #[.int .i64 er, .int .i64 k1, .int .i64 s1, .int .i32 v1, .int .i32 0, .int .i64 m1, .int .i64 0, .int .u32 0, .int .i32 0] 32) = w10 at *
    generalize w9.heap.size = gh at *
    have hz11 : gs < w10.heap.size := blk_lt SK.out
    have hz12 : gh < w10.heap.size := blk_lt HK.out
    clear hz8 hz9 hz10
    have h0 := blk_cell HK.out 0
    have h1 := blk_cell HK.out 1
    have h3 := blk_cell HK.out 3
    have e0 := blk_cell SK.out 0
    have e1 := blk_cell SK.out 1
    have e2 := blk_cell SK.out 2
    have e3 := blk_cell SK.out 3
    rcases HAG.out with hne | ⟨he, j, hk, hj, hsw⟩
    · clear HAG
      have hne2 : (er != 0) = true := by simp only [bne, hne, Bool.not_false]
      go_quiet (fail)
      go_wp2_with fail
      go_ret
      exact ⟨rfl, pw_below_drewN HB.out _⟩
    · clear HAG
      subst he hk
      have HS2 := set_at hsw
      clear hsw
      have hcv : ∀ W', Below w10.heap.size w10 W' → (convert 30 9 (.slice A j c)).run Try.prog W' = .ok (.string (strOfNums (l.take j))) W' := by
        intro W' hW'
        have h1 := Kd.C_take (m := j) (Kd.C_below HC.out hW') hj
        rw [List.length_take, Nat.min_eq_left hj] at h1
        exact Kd.C_string (P := Try.prog) Try.underlying30 Try.underlying5 Try.underlying9 h1
      have HCV := Lib.hid hcv
      clear hcv
      generalize strOfNums (l.take j) = T at *
      have hsl := take_at (A := A) j hj Hc.out
      have hjc : j ≤ c := Nat.le_trans hj Hc.out
      have i0 : (0 : Int) ≤ (j : Int) := by omega
      have i1 : (j : Int) ≤ (l.length : Int) := by omega
      have i2 : (j : Int) ≤ (c : Int) := by omega
      have HX : Hid (Below w10.heap.size w10 w10.drew) := Lib.hid (below_drew (Below.refl _ _))
      have SKd : Hid (w10.drew.heap[gs]? = some (.cells #[.int .i64 0, .int .i64 0, .int .u32 0, .int .i32 0] 24 (0, 0))) := Lib.hid SK.out
      have HKd : Hid (w10.drew.heap[gh]? = some (.cells #[.int .i64 0, .int .i64 j, .int .i64 s1, .int .i32 v1, .int .i32 0, .int .i64 m1, .int .i64 0, .int .u32 0, .int .i32 0] 32 (0, 0))) := Lib.hid HK.out
      go_region_held3 (fun w' => w'.cell? ⟨gs, 0, none⟩ = some (.int .i64 0) ∧ w'.cell? ⟨gs, 1, none⟩ = some (.int .i64 0) ∧ w'.cell? ⟨gs, 2, none⟩ = some (.int .u32 0) ∧ w'.cell? ⟨gs, 3, none⟩ = some (.int .i32 0) ∧ w'.cell? ⟨gh, 0, none⟩ = some (.int .i64 0) ∧ w'.cell? ⟨gh, 1, none⟩ = some (.int .i64 j) ∧ w'.cell? ⟨gh, 3, none⟩ = some (.int .i32 v1) ∧ (convert 30 9 (.slice A j c)).run Try.prog w' = .ok (.string T) w') (exact ⟨blk_cell SKd.out 0, blk_cell SKd.out 1, blk_cell SKd.out 2, blk_cell SKd.out 3, blk_cell HKd.out 0, blk_cell HKd.out 1, blk_cell HKd.out 3, HCV.out _ HX.out⟩) (first | (go_at_call 9; (with_reducible refine (HS2.out _).mono ?_); rintro e wa ⟨rfl, hb⟩; replace SKd := Lib.hid (blk_below SKd.out hb); replace HKd := Lib.hid (blk_below HKd.out hb); replace HX := Lib.hid (below_on HX.out HX.out.size hb); clear hb) | fail)
      all_goals
        go_wp2_with fail
        go_ret
        exact ⟨rfl, on HB.out HX.out⟩
set_option maxHeartbeats 4000000 in
set_option maxRecDepth 100000 in
theorem back_direct_2_1 (kind mode u : Int) (A : Option Addr) (c : Nat) (l : List Int) (w : World) (hC : Kd.C (Kd.int .u8) w A l.length l) (hc : l.length ≤ c) (hb : ∀ x ∈ l, Byte x) (hlen : l.length ≤ 140737488351232) (hq : (IntKind.u64.wrap kind).tmod 8 = 2) (hmode : (IntKind.u64.wrap mode).tmod 3 = 1) (ub : List Int) (hd : Direct 5 1 u ub) (er k1 s1 v1 m1 : Int) (hag : Again 5 1 l er k1 s1 v1 m1) :
    Calls Try.prog 5 #[.int .i64 kind, .int .i64 mode, .int .i32 u, .slice A l.length c] w fun e w' => e = .returned (.bool true) ∧ Below w.heap.size w w' := by
    obtain ⟨hu1, hu4, hubb, hsw, hgw⟩ := hd
    have H9 := set_at hsw
    have HLBb : ∀ x ∈ ub ++ l, Byte x := by
      intro x hx
      rcases List.mem_append.1 hx with hx | hx
      · exact hubb x hx
      · exact hb x hx
    have HG2 := got_at HLBb (hgw l)
    have HH := got_at hb hag.1
    have HAG := Lib.hid hag.2
    obtain ⟨S, hS⟩ : ∃ S, S = strOfNums (ub) := ⟨_, rfl⟩
    rw [← hS] at H9
    have hsz : S.size = (ub).length := by rw [hS, str_len]
    have hbo : bytesOf S = ub := by rw [hS]; exact bytesOf_str _ hubb
    clear hS
    rw [← hsz] at HG2
    obtain ⟨lb, hlb⟩ : ∃ lb, lb = ub ++ l := ⟨_, rfl⟩
    rw [← hlb] at HG2
    have HLB := Lib.hid hlb
    have HBO := Lib.hid hbo
    have hsz1 : S.size ≤ 4 := by omega
    have HSZ := Lib.hid hsz
    have hul : ub.length ≤ 4 := hu4
    clear hlb hbo hsz hsw hgw hag hubb HLBb hu1 hu4
    have HC := Lib.hid hC
    have Hc := Lib.hid hc
    have Hb := Lib.hid hb
    clear hC hc hb
    go_enter Try.func5, Try.ntmps5
    go_wp2_with fail
    refine (worksC _).mono ?_
    rintro e w1 ⟨rfl, hb1⟩
    have HB : Hid (Below w.heap.size w w1) := Lib.hid hb1
    replace HC := Lib.hid (Kd.C_below HC.out hb1)
    have Hgs : Hid (w.heap.size ≤ w1.heap.size) := Lib.hid hb1.size
    clear hb1
    go_upto_region 7 with fail
    have hb := below_alloc (Below.refl w1.heap.size w1) (.cells #[.int .i64 1, .int .i64 0, .int .u32 0, .int .i32 0] 24)
    replace HB := Lib.hid (on HB.out hb)
    replace HC := Lib.hid (Kd.C_below HC.out hb)
    have SK : Hid ((w1.alloc (.cells #[.int .i64 1, .int .i64 0, .int .u32 0, .int .i32 0] 24)).heap[w1.heap.size]? = some (.cells #[.int .i64 1, .int .i64 0, .int .u32 0, .int .i32 0] 24 (0, 0))) := Lib.hid (heap_alloc_new _ _)
    have hz2 : w1.heap.size < (w1.alloc (.cells #[.int .i64 1, .int .i64 0, .int .u32 0, .int .i32 0] 24)).heap.size := blk_lt SK.out
    clear hb
    generalize w1.alloc (.cells #[.int .i64 1, .int .i64 0, .int .u32 0, .int .i32 0] 24) = w2 at *
    generalize w1.heap.size = gs at *
    have e0 := blk_cell SK.out 0
    have e1 := blk_cell SK.out 1
    have e2 := blk_cell SK.out 2
    have e3 := blk_cell SK.out 3
    go_wp2_with fail
    refine (H9.out _).mono ?_
    rintro e w3 ⟨rfl, hb⟩
    replace HB := Lib.hid (on HB.out hb)
    replace HC := Lib.hid (Kd.C_below HC.out hb)
    replace SK := Lib.hid (blk_below SK.out hb)
    clear e0 e1 e2 e3
    have hz3 : gs < w3.heap.size := blk_lt SK.out
    clear hb hz2
    go_upto_region 8 with fail
    have hb := below_alloc (Below.refl w3.heap.size w3) (.cells #[.int .i64 0, .string S, .int .i64 1, .int .i64 0, .int .u32 0, .int .i32 0] 27)
    replace HB := Lib.hid (on HB.out hb)
    replace HC := Lib.hid (Kd.C_below HC.out hb)
    replace SK := Lib.hid (blk_below SK.out hb)
    have PK : Hid ((w3.alloc (.cells #[.int .i64 0, .string S, .int .i64 1, .int .i64 0, .int .u32 0, .int .i32 0] 27)).heap[w3.heap.size]? = some (.cells #[.int .i64 0, .string S, .int .i64 1, .int .i64 0, .int .u32 0, .int .i32 0] 27 (0, 0))) := Lib.hid (heap_alloc_new _ _)
    have hz4 : w3.heap.size < (w3.alloc (.cells #[.int .i64 0, .string S, .int .i64 1, .int .i64 0, .int .u32 0, .int .i32 0] 27)).heap.size := blk_lt PK.out
    clear hb
    generalize w3.alloc (.cells #[.int .i64 0, .string S, .int .i64 1, .int .i64 0, .int .u32 0, .int .i32 0] 27) = w4 at *
    generalize w3.heap.size = gp at *
    have hz5 : gs < w4.heap.size := blk_lt SK.out
    clear hz3
    have kb := fun W => print_bytes (P := Try.prog) 9 30 5 Try.underlying9 Try.underlying30 Try.underlying5 S W
    have hbz : Below w4.heap.size w4 (Lib.bytesWorld w4 5 S) := bytes_below (Below.refl _ _) (Nat.le_refl _) 5 _
    obtain ⟨A1, c1, w5, hr, hC1, hc1, hb5⟩ := append_run (w0 := w4) (base := w4.heap.size) 30 (OwnB.conv w4 S (by omega)) (Kd.C_below HC.out hbz) hbz (Nat.le_refl _) hbz.size (by rw [HBO.out]; omega)
    rw [HBO.out] at hr hC1 hc1
    rw [← HLB.out] at hr hC1 hc1
    have HR := Lib.hid hr
    have HC1 := Lib.hid hC1
    have Hc1 := Lib.hid hc1
    have HB5 := Lib.hid hb5
    clear hr hC1 hc1 hb5
    have p0 := blk_cell PK.out 0
    have p1 := blk_cell PK.out 1
    have p2 := blk_cell PK.out 2
    have p3 := blk_cell PK.out 3
    have p4 := blk_cell PK.out 4
    have p5 := blk_cell PK.out 5
    go_upto_region 10 with fail
    go_upto_region 11 with (at_builtin; refine Lib.wpList_append_run _ rfl (.tmp 60) (.tmp 61) 30 30 rfl _ _ rfl rfl _ _ HR.out ?_)
    clear kb HR
    clear p0 p1 p2 p3 p4 p5
    replace HB := Lib.hid (on HB.out HB5.out)
    replace HC := Lib.hid (Kd.C_below HC.out HB5.out)
    replace SK := Lib.hid (blk_below SK.out HB5.out)
    replace PK := Lib.hid (blk_below PK.out HB5.out)
    clear HB5
    have hz6 : gs < w5.heap.size := blk_lt SK.out
    have hz7 : gp < w5.heap.size := blk_lt PK.out
    clear hz4 hz5
    obtain ⟨A2, HSL, HSD, Hsc⟩ := drop_at (A := A1) (c := c1) (l := lb) 0 (Nat.zero_le _) Hc1.out
    rw [List.drop_zero] at HSL HSD Hsc
    rw [Nat.sub_zero] at HSL Hsc
    change Hid (∀ W : World, (Instr.slice 30 (.slice A1 lb.length c1) (some (.int .i64 0)) none none).run Try.prog W = .ok (.slice A2 lb.length c1) W) at HSL
    have e0 := blk_cell SK.out 0
    have e1 := blk_cell SK.out 1
    have e2 := blk_cell SK.out 2
    have e3 := blk_cell SK.out 3
    go_upto_region 17 with fail
    clear e0 e1 e2 e3
    go_cut [14] (fun s wx => Cut17 (fun g wy => Hid (wy.heap[g]? = some (.cells #[.int .i64 0, .int .i64 S.size, .int .i64 1, .int .i32 u, .int .i32 0, .int .i64 1, .int .i64 0, .int .u32 0, .int .i32 0] 32 (0, 0))) ∧ Hid (wy.heap[gs]? = some (.cells #[.int .i64 1, .int .i64 0, .int .u32 0, .int .i32 0] 24 (0, 0))) ∧ Hid (wy.heap[gp]? = some (.cells #[.int .i64 0, .string S, .int .i64 1, .int .i64 0, .int .u32 0, .int .i32 0] 27 (0, 0))) ∧ Hid (Below w.heap.size w wy) ∧ Hid (Kd.C (Kd.int .u8) wy A l.length l)) s wx)
    case first =>
      have HX : Hid (Below w5.heap.size w5 w5.drew) := Lib.hid (below_drew (Below.refl _ _))
      have HXa : Hid (Below w5.heap.size w5 (w5.alloc (.cells #[.int .i64 0, .int .i64 0, .int .i64 0, .int .i32 0, .int .i32 0, .int .i64 0, .int .i64 0, .int .u32 0, .int .i32 0] 32)).drew) := Lib.hid (below_drew (below_alloc (Below.refl _ _) _))
      have d0 : w5.drew.cell? ⟨gs, 0, none⟩ = some (.int .i64 1) := blk_cell SK.out 0
      have d1 : w5.drew.cell? ⟨gs, 1, none⟩ = some (.int .i64 0) := blk_cell SK.out 1
      have d2 : w5.drew.cell? ⟨gs, 2, none⟩ = some (.int .u32 0) := blk_cell SK.out 2
      have d3 : w5.drew.cell? ⟨gs, 3, none⟩ = some (.int .i32 0) := blk_cell SK.out 3
      have b0 : (w5.alloc (.cells #[.int .i64 0, .int .i64 0, .int .i64 0, .int .i32 0, .int .i32 0, .int .i64 0, .int .i64 0, .int .u32 0, .int .i32 0] 32)).drew.cell? ⟨gs, 0, none⟩ = some (.int .i64 1) := blk_cell (blk_alloc SK.out _) 0
      have b1 : (w5.alloc (.cells #[.int .i64 0, .int .i64 0, .int .i64 0, .int .i32 0, .int .i32 0, .int .i64 0, .int .i64 0, .int .u32 0, .int .i32 0] 32)).drew.cell? ⟨gs, 1, none⟩ = some (.int .i64 0) := blk_cell (blk_alloc SK.out _) 1
      have b2 : (w5.alloc (.cells #[.int .i64 0, .int .i64 0, .int .i64 0, .int .i32 0, .int .i32 0, .int .i64 0, .int .i64 0, .int .u32 0, .int .i32 0] 32)).drew.cell? ⟨gs, 2, none⟩ = some (.int .u32 0) := blk_cell (blk_alloc SK.out _) 2
      have b3 : (w5.alloc (.cells #[.int .i64 0, .int .i64 0, .int .i64 0, .int .i32 0, .int .i32 0, .int .i64 0, .int .i64 0, .int .u32 0, .int .i32 0] 32)).drew.cell? ⟨gs, 3, none⟩ = some (.int .i32 0) := blk_cell (blk_alloc SK.out _) 3
      have hsl := HSL.out
      go_region_law (first | (go_simp; go_at_call 11; ((with_reducible refine (HG2.out _ _ _ (HSD.out _ (Kd.C_below HC1.out HX.out)) Hsc.out).mono ?_); rintro e wa ⟨rfl, hb⟩; have HWp := Lib.hid (below_on HX.out HX.out.size hb); clear hb; have SKp := Lib.hid (blk_b SK.out HWp.out hz6); have hne : gs < wa.heap.size := Nat.lt_of_lt_of_le hz6 HWp.out.size)) | (go_simp; go_at_call 11; ((with_reducible refine (HG2.out _ _ _ (HSD.out _ (Kd.C_below HC1.out HXa.out)) Hsc.out).mono ?_); rintro e wa ⟨rfl, hb⟩; have GZ : Hid (wa.heap[w5.heap.size]? = some (.cells #[.int .i64 0, .int .i64 0, .int .i64 0, .int .i32 0, .int .i32 0, .int .i64 0, .int .i64 0, .int .u32 0, .int .i32 0] 32 (0, 0))) := Lib.hid (blk_below (blk_drew (heap_alloc_new _ _)) hb); have HWq := Lib.hid (below_on HXa.out HXa.out.size hb); clear hb; have SKq := Lib.hid (blk_b SK.out HWq.out hz6); have hne : gs < wa.heap.size := Nat.lt_of_lt_of_le hz6 HWq.out.size; have hnz : w5.heap.size < wa.heap.size := blk_lt GZ.out; have r0 := blk_cell GZ.out 0; have r1 := blk_cell GZ.out 1; have r2 := blk_cell GZ.out 2; have r3 := blk_cell GZ.out 3; have r4 := blk_cell GZ.out 4; have r5 := blk_cell GZ.out 5; have r6 := blk_cell GZ.out 6; have r7 := blk_cell GZ.out 7; have r8 := blk_cell GZ.out 8; have t0 := blk_frozen GZ.out 0; have t1 := blk_frozen GZ.out 1; have t2 := blk_frozen GZ.out 2; have t3 := blk_frozen GZ.out 3; have t4 := blk_frozen GZ.out 4; have t5 := blk_frozen GZ.out 5; have t6 := blk_frozen GZ.out 6; have t7 := blk_frozen GZ.out 7; have t8 := blk_frozen GZ.out 8)) | fail)
      all_goals
        go_wp2_with fail
        go_meet
        first | (have hx_ := HWp.out; clear hx_; exact ⟨wa.heap.size, rfl, Lib.hid (heap_alloc_new _ _), Lib.hid (blk_alloc SKp.out _), Lib.hid (blk_alloc (blk_b PK.out HWp.out hz7) _), Lib.hid (below_alloc (on HB.out HWp.out) _), Lib.hid (Kd.C_below HC.out (below_alloc HWp.out _))⟩) | (have hx_ := HWq.out; clear hx_; exact ⟨w5.heap.size, rfl, Lib.hid (put9 GZ.out _ _ _ _ _ _ _ _ _), Lib.hid (set9 SKq.out (Nat.ne_of_lt hz6) _ _ _ _ _ _ _ _ _), Lib.hid (set9 (blk_b PK.out HWq.out hz7) (Nat.ne_of_lt hz7) _ _ _ _ _ _ _ _ _), Lib.hid (below9 (on HB.out HWq.out) HB.out.size _ _ _ _ _ _ _ _ _), Lib.hid (Kd.C_below HC.out (below9 HWq.out (Nat.le_refl _) _ _ _ _ _ _ _ _ _))⟩)
    case rest =>
      obtain ⟨gg, rfl, GK, SK, PK, HB, HC⟩ := hcut
      clear HSD HSL Hsc
      have hz8 : gs < wc.heap.size := blk_lt SK.out
      have hz9 : gp < wc.heap.size := blk_lt PK.out
      have hz10 : gg < wc.heap.size := blk_lt GK.out
      have e0 := blk_cell SK.out 0
      have e1 := blk_cell SK.out 1
      have e2 := blk_cell SK.out 2
      have e3 := blk_cell SK.out 3
      have p0 := blk_cell PK.out 0
      have p1 := blk_cell PK.out 1
      have p2 := blk_cell PK.out 2
      have p3 := blk_cell PK.out 3
      have p4 := blk_cell PK.out 4
      have p5 := blk_cell PK.out 5
      have g0 := blk_cell GK.out 0
      have g1 := blk_cell GK.out 1
      have g2 := blk_cell GK.out 2
      have g3 := blk_cell GK.out 3
      have g4 := blk_cell GK.out 4
      have g5 := blk_cell GK.out 5
      have g6 := blk_cell GK.out 6
      have g7 := blk_cell GK.out 7
      have g8 := blk_cell GK.out 8
      go_upto_region 20 with fail
      clear p0 p1 p2 p3 p4 p5
      clear g0 g1 g2 g3 g4 g5 g6 g7 g8
      go_wp2_with fail
      refine (HH.out _ _ _ HC.out Hc.out).mono ?_
      rintro e w9 ⟨rfl, hb⟩
      replace HB := Lib.hid (on HB.out hb)
      replace HC := Lib.hid (Kd.C_below HC.out hb)
      replace SK := Lib.hid (blk_below SK.out hb)
      replace PK := Lib.hid (blk_below PK.out hb)
      replace GK := Lib.hid (blk_below GK.out hb)
      clear hb
      clear e0 e1 e2 e3
      go_upto_region 21 with fail
      have hb := below_alloc (Below.refl w9.heap.size w9) (.cells #[.int .i64 er, .int .i64 k1, .int .i64 s1, .int .i32 v1, .int .i32 0, .int .i64 m1, .int .i64 0, .int .u32 0, .int .i32 0] 32)
      replace HB := Lib.hid (on HB.out hb)
      replace HC := Lib.hid (Kd.C_below HC.out hb)
      replace SK := Lib.hid (blk_below SK.out hb)
      replace PK := Lib.hid (blk_below PK.out hb)
      replace GK := Lib.hid (blk_below GK.out hb)
      have HK : Hid ((w9.alloc (.cells #[.int .i64 er, .int .i64 k1, .int .i64 s1, .int .i32 v1, .int .i32 0, .int .i64 m1, .int .i64 0, .int .u32 0, .int .i32 0] 32)).heap[w9.heap.size]? = some (.cells #[.int .i64 er, .int .i64 k1, .int .i64 s1, .int .i32 v1, .int .i32 0, .int .i64 m1, .int .i64 0, .int .u32 0, .int .i32 0] 32 (0, 0))) := Lib.hid (heap_alloc_new _ _)
      clear hb
      generalize w9.alloc (.cells #[.int .i64 er, .int .i64 k1, .int .i64 s1, .int .i32 v1, .int .i32 0, .int .i64 m1, .int .i64 0, .int .u32 0, .int .i32 0] 32) = w10 at *
      generalize w9.heap.size = gh at *
      have hz11 : gs < w10.heap.size := blk_lt SK.out
      have hz12 : gh < w10.heap.size := blk_lt HK.out
      clear hz8 hz9 hz10
      have h0 := blk_cell HK.out 0
      have h1 := blk_cell HK.out 1
      have h3 := blk_cell HK.out 3
      have e0 := blk_cell SK.out 0
      have e1 := blk_cell SK.out 1
      have e2 := blk_cell SK.out 2
      have e3 := blk_cell SK.out 3
      rcases HAG.out with hne | ⟨he, j, hk, hj, hsw⟩
      · clear HAG
        have hne2 : (er != 0) = true := by simp only [bne, hne, Bool.not_false]
        go_quiet (fail)
        go_wp2_with fail
        go_ret
        exact ⟨rfl, pw_below_drewN HB.out _⟩
      · clear HAG
        subst he hk
        have HS2 := set_at hsw
        clear hsw
        have hcv : ∀ W', Below w10.heap.size w10 W' → (convert 30 9 (.slice A j c)).run Try.prog W' = .ok (.string (strOfNums (l.take j))) W' := by
          intro W' hW'
          have h1 := Kd.C_take (m := j) (Kd.C_below HC.out hW') hj
          rw [List.length_take, Nat.min_eq_left hj] at h1
          exact Kd.C_string (P := Try.prog) Try.underlying30 Try.underlying5 Try.underlying9 h1
        have HCV := Lib.hid hcv
        clear hcv
        generalize strOfNums (l.take j) = T at *
        have hsl := take_at (A := A) j hj Hc.out
        have hjc : j ≤ c := Nat.le_trans hj Hc.out
        have i0 : (0 : Int) ≤ (j : Int) := by omega
        have i1 : (j : Int) ≤ (l.length : Int) := by omega
        have i2 : (j : Int) ≤ (c : Int) := by omega
        have HX : Hid (Below w10.heap.size w10 w10.drew) := Lib.hid (below_drew (Below.refl _ _))
        have SKd : Hid (w10.drew.heap[gs]? = some (.cells #[.int .i64 1, .int .i64 0, .int .u32 0, .int .i32 0] 24 (0, 0))) := Lib.hid SK.out
        have HKd : Hid (w10.drew.heap[gh]? = some (.cells #[.int .i64 0, .int .i64 j, .int .i64 s1, .int .i32 v1, .int .i32 0, .int .i64 m1, .int .i64 0, .int .u32 0, .int .i32 0] 32 (0, 0))) := Lib.hid HK.out
        go_region_held3 (fun w' => w'.cell? ⟨gs, 0, none⟩ = some (.int .i64 1) ∧ w'.cell? ⟨gs, 1, none⟩ = some (.int .i64 0) ∧ w'.cell? ⟨gs, 2, none⟩ = some (.int .u32 0) ∧ w'.cell? ⟨gs, 3, none⟩ = some (.int .i32 0) ∧ w'.cell? ⟨gh, 0, none⟩ = some (.int .i64 0) ∧ w'.cell? ⟨gh, 1, none⟩ = some (.int .i64 j) ∧ w'.cell? ⟨gh, 3, none⟩ = some (.int .i32 v1) ∧ (convert 30 9 (.slice A j c)).run Try.prog w' = .ok (.string T) w') (exact ⟨blk_cell SKd.out 0, blk_cell SKd.out 1, blk_cell SKd.out 2, blk_cell SKd.out 3, blk_cell HKd.out 0, blk_cell HKd.out 1, blk_cell HKd.out 3, HCV.out _ HX.out⟩) (first | (go_at_call 9; (with_reducible refine (HS2.out _).mono ?_); rintro e wa ⟨rfl, hb⟩; replace SKd := Lib.hid (blk_below SKd.out hb); replace HKd := Lib.hid (blk_below HKd.out hb); replace HX := Lib.hid (below_on HX.out HX.out.size hb); clear hb) | fail)
        all_goals
          go_wp2_with fail
          go_ret
          exact ⟨rfl, on HB.out HX.out⟩
set_option maxHeartbeats 4000000 in
set_option maxRecDepth 100000 in
theorem back_direct_2_2 (kind mode u : Int) (A : Option Addr) (c : Nat) (l : List Int) (w : World) (hC : Kd.C (Kd.int .u8) w A l.length l) (hc : l.length ≤ c) (hb : ∀ x ∈ l, Byte x) (hlen : l.length ≤ 140737488351232) (hq : (IntKind.u64.wrap kind).tmod 8 = 2) (hmode : (IntKind.u64.wrap mode).tmod 3 = 2) (ub : List Int) (hd : Direct 5 2 u ub) (er k1 s1 v1 m1 : Int) (hag : Again 5 2 l er k1 s1 v1 m1) :
    Calls Try.prog 5 #[.int .i64 kind, .int .i64 mode, .int .i32 u, .slice A l.length c] w fun e w' => e = .returned (.bool true) ∧ Below w.heap.size w w' := by
      obtain ⟨hu1, hu4, hubb, hsw, hgw⟩ := hd
      have H9 := set_at hsw
      have HLBb : ∀ x ∈ ub ++ l, Byte x := by
        intro x hx
        rcases List.mem_append.1 hx with hx | hx
        · exact hubb x hx
        · exact hb x hx
      have HG2 := got_at HLBb (hgw l)
      have HH := got_at hb hag.1
      have HAG := Lib.hid hag.2
      obtain ⟨S, hS⟩ : ∃ S, S = strOfNums (ub) := ⟨_, rfl⟩
      rw [← hS] at H9
      have hsz : S.size = (ub).length := by rw [hS, str_len]
      have hbo : bytesOf S = ub := by rw [hS]; exact bytesOf_str _ hubb
      clear hS
      rw [← hsz] at HG2
      obtain ⟨lb, hlb⟩ : ∃ lb, lb = ub ++ l := ⟨_, rfl⟩
      rw [← hlb] at HG2
      have HLB := Lib.hid hlb
      have HBO := Lib.hid hbo
      have hsz1 : S.size ≤ 4 := by omega
      have HSZ := Lib.hid hsz
      have hul : ub.length ≤ 4 := hu4
      clear hlb hbo hsz hsw hgw hag hubb HLBb hu1 hu4
      have HC := Lib.hid hC
      have Hc := Lib.hid hc
      have Hb := Lib.hid hb
      clear hC hc hb
      go_enter Try.func5, Try.ntmps5
      go_wp2_with fail
      refine (worksC _).mono ?_
      rintro e w1 ⟨rfl, hb1⟩
      have HB : Hid (Below w.heap.size w w1) := Lib.hid hb1
      replace HC := Lib.hid (Kd.C_below HC.out hb1)
      have Hgs : Hid (w.heap.size ≤ w1.heap.size) := Lib.hid hb1.size
      clear hb1
      go_upto_region 7 with fail
      have hb := below_alloc (Below.refl w1.heap.size w1) (.cells #[.int .i64 2, .int .i64 0, .int .u32 0, .int .i32 0] 24)
      replace HB := Lib.hid (on HB.out hb)
      replace HC := Lib.hid (Kd.C_below HC.out hb)
      have SK : Hid ((w1.alloc (.cells #[.int .i64 2, .int .i64 0, .int .u32 0, .int .i32 0] 24)).heap[w1.heap.size]? = some (.cells #[.int .i64 2, .int .i64 0, .int .u32 0, .int .i32 0] 24 (0, 0))) := Lib.hid (heap_alloc_new _ _)
      have hz2 : w1.heap.size < (w1.alloc (.cells #[.int .i64 2, .int .i64 0, .int .u32 0, .int .i32 0] 24)).heap.size := blk_lt SK.out
      clear hb
      generalize w1.alloc (.cells #[.int .i64 2, .int .i64 0, .int .u32 0, .int .i32 0] 24) = w2 at *
      generalize w1.heap.size = gs at *
      have e0 := blk_cell SK.out 0
      have e1 := blk_cell SK.out 1
      have e2 := blk_cell SK.out 2
      have e3 := blk_cell SK.out 3
      go_wp2_with fail
      refine (H9.out _).mono ?_
      rintro e w3 ⟨rfl, hb⟩
      replace HB := Lib.hid (on HB.out hb)
      replace HC := Lib.hid (Kd.C_below HC.out hb)
      replace SK := Lib.hid (blk_below SK.out hb)
      clear e0 e1 e2 e3
      have hz3 : gs < w3.heap.size := blk_lt SK.out
      clear hb hz2
      go_upto_region 8 with fail
      have hb := below_alloc (Below.refl w3.heap.size w3) (.cells #[.int .i64 0, .string S, .int .i64 2, .int .i64 0, .int .u32 0, .int .i32 0] 27)
      replace HB := Lib.hid (on HB.out hb)
      replace HC := Lib.hid (Kd.C_below HC.out hb)
      replace SK := Lib.hid (blk_below SK.out hb)
      have PK : Hid ((w3.alloc (.cells #[.int .i64 0, .string S, .int .i64 2, .int .i64 0, .int .u32 0, .int .i32 0] 27)).heap[w3.heap.size]? = some (.cells #[.int .i64 0, .string S, .int .i64 2, .int .i64 0, .int .u32 0, .int .i32 0] 27 (0, 0))) := Lib.hid (heap_alloc_new _ _)
      have hz4 : w3.heap.size < (w3.alloc (.cells #[.int .i64 0, .string S, .int .i64 2, .int .i64 0, .int .u32 0, .int .i32 0] 27)).heap.size := blk_lt PK.out
      clear hb
      generalize w3.alloc (.cells #[.int .i64 0, .string S, .int .i64 2, .int .i64 0, .int .u32 0, .int .i32 0] 27) = w4 at *
      generalize w3.heap.size = gp at *
      have hz5 : gs < w4.heap.size := blk_lt SK.out
      clear hz3
      have kb := fun W => print_bytes (P := Try.prog) 9 30 5 Try.underlying9 Try.underlying30 Try.underlying5 S W
      have hbz : Below w4.heap.size w4 (Lib.bytesWorld w4 5 S) := bytes_below (Below.refl _ _) (Nat.le_refl _) 5 _
      obtain ⟨A1, c1, w5, hr, hC1, hc1, hb5⟩ := append_run (w0 := w4) (base := w4.heap.size) 30 (OwnB.conv w4 S (by omega)) (Kd.C_below HC.out hbz) hbz (Nat.le_refl _) hbz.size (by rw [HBO.out]; omega)
      rw [HBO.out] at hr hC1 hc1
      rw [← HLB.out] at hr hC1 hc1
      have HR := Lib.hid hr
      have HC1 := Lib.hid hC1
      have Hc1 := Lib.hid hc1
      have HB5 := Lib.hid hb5
      clear hr hC1 hc1 hb5
      have p0 := blk_cell PK.out 0
      have p1 := blk_cell PK.out 1
      have p2 := blk_cell PK.out 2
      have p3 := blk_cell PK.out 3
      have p4 := blk_cell PK.out 4
      have p5 := blk_cell PK.out 5
      go_upto_region 10 with fail
      go_upto_region 11 with (at_builtin; refine Lib.wpList_append_run _ rfl (.tmp 60) (.tmp 61) 30 30 rfl _ _ rfl rfl _ _ HR.out ?_)
      clear kb HR
      clear p0 p1 p2 p3 p4 p5
      replace HB := Lib.hid (on HB.out HB5.out)
      replace HC := Lib.hid (Kd.C_below HC.out HB5.out)
      replace SK := Lib.hid (blk_below SK.out HB5.out)
      replace PK := Lib.hid (blk_below PK.out HB5.out)
      clear HB5
      have hz6 : gs < w5.heap.size := blk_lt SK.out
      have hz7 : gp < w5.heap.size := blk_lt PK.out
      clear hz4 hz5
      obtain ⟨A2, HSL, HSD, Hsc⟩ := drop_at (A := A1) (c := c1) (l := lb) 0 (Nat.zero_le _) Hc1.out
      rw [List.drop_zero] at HSL HSD Hsc
      rw [Nat.sub_zero] at HSL Hsc
      change Hid (∀ W : World, (Instr.slice 30 (.slice A1 lb.length c1) (some (.int .i64 0)) none none).run Try.prog W = .ok (.slice A2 lb.length c1) W) at HSL
      have e0 := blk_cell SK.out 0
      have e1 := blk_cell SK.out 1
      have e2 := blk_cell SK.out 2
      have e3 := blk_cell SK.out 3
      go_upto_region 17 with fail
      clear e0 e1 e2 e3
      go_cut [14] (fun s wx => Cut17 (fun g wy => Hid (wy.heap[g]? = some (.cells #[.int .i64 0, .int .i64 S.size, .int .i64 1, .int .i32 u, .int .i32 0, .int .i64 2, .int .i64 0, .int .u32 0, .int .i32 0] 32 (0, 0))) ∧ Hid (wy.heap[gs]? = some (.cells #[.int .i64 2, .int .i64 0, .int .u32 0, .int .i32 0] 24 (0, 0))) ∧ Hid (wy.heap[gp]? = some (.cells #[.int .i64 0, .string S, .int .i64 2, .int .i64 0, .int .u32 0, .int .i32 0] 27 (0, 0))) ∧ Hid (Below w.heap.size w wy) ∧ Hid (Kd.C (Kd.int .u8) wy A l.length l)) s wx)
      case first =>
        have HX : Hid (Below w5.heap.size w5 w5.drew) := Lib.hid (below_drew (Below.refl _ _))
        have HXa : Hid (Below w5.heap.size w5 (w5.alloc (.cells #[.int .i64 0, .int .i64 0, .int .i64 0, .int .i32 0, .int .i32 0, .int .i64 0, .int .i64 0, .int .u32 0, .int .i32 0] 32)).drew) := Lib.hid (below_drew (below_alloc (Below.refl _ _) _))
        have d0 : w5.drew.cell? ⟨gs, 0, none⟩ = some (.int .i64 2) := blk_cell SK.out 0
        have d1 : w5.drew.cell? ⟨gs, 1, none⟩ = some (.int .i64 0) := blk_cell SK.out 1
        have d2 : w5.drew.cell? ⟨gs, 2, none⟩ = some (.int .u32 0) := blk_cell SK.out 2
        have d3 : w5.drew.cell? ⟨gs, 3, none⟩ = some (.int .i32 0) := blk_cell SK.out 3
        have b0 : (w5.alloc (.cells #[.int .i64 0, .int .i64 0, .int .i64 0, .int .i32 0, .int .i32 0, .int .i64 0, .int .i64 0, .int .u32 0, .int .i32 0] 32)).drew.cell? ⟨gs, 0, none⟩ = some (.int .i64 2) := blk_cell (blk_alloc SK.out _) 0
        have b1 : (w5.alloc (.cells #[.int .i64 0, .int .i64 0, .int .i64 0, .int .i32 0, .int .i32 0, .int .i64 0, .int .i64 0, .int .u32 0, .int .i32 0] 32)).drew.cell? ⟨gs, 1, none⟩ = some (.int .i64 0) := blk_cell (blk_alloc SK.out _) 1
        have b2 : (w5.alloc (.cells #[.int .i64 0, .int .i64 0, .int .i64 0, .int .i32 0, .int .i32 0, .int .i64 0, .int .i64 0, .int .u32 0, .int .i32 0] 32)).drew.cell? ⟨gs, 2, none⟩ = some (.int .u32 0) := blk_cell (blk_alloc SK.out _) 2
        have b3 : (w5.alloc (.cells #[.int .i64 0, .int .i64 0, .int .i64 0, .int .i32 0, .int .i32 0, .int .i64 0, .int .i64 0, .int .u32 0, .int .i32 0] 32)).drew.cell? ⟨gs, 3, none⟩ = some (.int .i32 0) := blk_cell (blk_alloc SK.out _) 3
        have hsl := HSL.out
        go_region_law (first | (go_simp; go_at_call 11; ((with_reducible refine (HG2.out _ _ _ (HSD.out _ (Kd.C_below HC1.out HX.out)) Hsc.out).mono ?_); rintro e wa ⟨rfl, hb⟩; have HWp := Lib.hid (below_on HX.out HX.out.size hb); clear hb; have SKp := Lib.hid (blk_b SK.out HWp.out hz6); have hne : gs < wa.heap.size := Nat.lt_of_lt_of_le hz6 HWp.out.size)) | (go_simp; go_at_call 11; ((with_reducible refine (HG2.out _ _ _ (HSD.out _ (Kd.C_below HC1.out HXa.out)) Hsc.out).mono ?_); rintro e wa ⟨rfl, hb⟩; have GZ : Hid (wa.heap[w5.heap.size]? = some (.cells #[.int .i64 0, .int .i64 0, .int .i64 0, .int .i32 0, .int .i32 0, .int .i64 0, .int .i64 0, .int .u32 0, .int .i32 0] 32 (0, 0))) := Lib.hid (blk_below (blk_drew (heap_alloc_new _ _)) hb); have HWq := Lib.hid (below_on HXa.out HXa.out.size hb); clear hb; have SKq := Lib.hid (blk_b SK.out HWq.out hz6); have hne : gs < wa.heap.size := Nat.lt_of_lt_of_le hz6 HWq.out.size; have hnz : w5.heap.size < wa.heap.size := blk_lt GZ.out; have r0 := blk_cell GZ.out 0; have r1 := blk_cell GZ.out 1; have r2 := blk_cell GZ.out 2; have r3 := blk_cell GZ.out 3; have r4 := blk_cell GZ.out 4; have r5 := blk_cell GZ.out 5; have r6 := blk_cell GZ.out 6; have r7 := blk_cell GZ.out 7; have r8 := blk_cell GZ.out 8; have t0 := blk_frozen GZ.out 0; have t1 := blk_frozen GZ.out 1; have t2 := blk_frozen GZ.out 2; have t3 := blk_frozen GZ.out 3; have t4 := blk_frozen GZ.out 4; have t5 := blk_frozen GZ.out 5; have t6 := blk_frozen GZ.out 6; have t7 := blk_frozen GZ.out 7; have t8 := blk_frozen GZ.out 8)) | fail)
        all_goals
          go_wp2_with fail
          go_meet
          first | (have hx_ := HWp.out; clear hx_; exact ⟨wa.heap.size, rfl, Lib.hid (heap_alloc_new _ _), Lib.hid (blk_alloc SKp.out _), Lib.hid (blk_alloc (blk_b PK.out HWp.out hz7) _), Lib.hid (below_alloc (on HB.out HWp.out) _), Lib.hid (Kd.C_below HC.out (below_alloc HWp.out _))⟩) | (have hx_ := HWq.out; clear hx_; exact ⟨w5.heap.size, rfl, Lib.hid (put9 GZ.out _ _ _ _ _ _ _ _ _), Lib.hid (set9 SKq.out (Nat.ne_of_lt hz6) _ _ _ _ _ _ _ _ _), Lib.hid (set9 (blk_b PK.out HWq.out hz7) (Nat.ne_of_lt hz7) _ _ _ _ _ _ _ _ _), Lib.hid (below9 (on HB.out HWq.out) HB.out.size _ _ _ _ _ _ _ _ _), Lib.hid (Kd.C_below HC.out (below9 HWq.out (Nat.le_refl _) _ _ _ _ _ _ _ _ _))⟩)
      case rest =>
        obtain ⟨gg, rfl, GK, SK, PK, HB, HC⟩ := hcut
        clear HSD HSL Hsc
        have hz8 : gs < wc.heap.size := blk_lt SK.out
        have hz9 : gp < wc.heap.size := blk_lt PK.out
        have hz10 : gg < wc.heap.size := blk_lt GK.out
        have e0 := blk_cell SK.out 0
        have e1 := blk_cell SK.out 1
        have e2 := blk_cell SK.out 2
        have e3 := blk_cell SK.out 3
        have p0 := blk_cell PK.out 0
        have p1 := blk_cell PK.out 1
        have p2 := blk_cell PK.out 2
        have p3 := blk_cell PK.out 3
        have p4 := blk_cell PK.out 4
        have p5 := blk_cell PK.out 5
        have g0 := blk_cell GK.out 0
        have g1 := blk_cell GK.out 1
        have g2 := blk_cell GK.out 2
        have g3 := blk_cell GK.out 3
        have g4 := blk_cell GK.out 4
        have g5 := blk_cell GK.out 5
        have g6 := blk_cell GK.out 6
        have g7 := blk_cell GK.out 7
        have g8 := blk_cell GK.out 8
        go_upto_region 20 with fail
        clear p0 p1 p2 p3 p4 p5
        clear g0 g1 g2 g3 g4 g5 g6 g7 g8
        go_wp2_with fail
        refine (HH.out _ _ _ HC.out Hc.out).mono ?_
        rintro e w9 ⟨rfl, hb⟩
        replace HB := Lib.hid (on HB.out hb)
        replace HC := Lib.hid (Kd.C_below HC.out hb)
        replace SK := Lib.hid (blk_below SK.out hb)
        replace PK := Lib.hid (blk_below PK.out hb)
        replace GK := Lib.hid (blk_below GK.out hb)
        clear hb
        clear e0 e1 e2 e3
        go_upto_region 21 with fail
        have hb := below_alloc (Below.refl w9.heap.size w9) (.cells #[.int .i64 er, .int .i64 k1, .int .i64 s1, .int .i32 v1, .int .i32 0, .int .i64 m1, .int .i64 0, .int .u32 0, .int .i32 0] 32)
        replace HB := Lib.hid (on HB.out hb)
        replace HC := Lib.hid (Kd.C_below HC.out hb)
        replace SK := Lib.hid (blk_below SK.out hb)
        replace PK := Lib.hid (blk_below PK.out hb)
        replace GK := Lib.hid (blk_below GK.out hb)
        have HK : Hid ((w9.alloc (.cells #[.int .i64 er, .int .i64 k1, .int .i64 s1, .int .i32 v1, .int .i32 0, .int .i64 m1, .int .i64 0, .int .u32 0, .int .i32 0] 32)).heap[w9.heap.size]? = some (.cells #[.int .i64 er, .int .i64 k1, .int .i64 s1, .int .i32 v1, .int .i32 0, .int .i64 m1, .int .i64 0, .int .u32 0, .int .i32 0] 32 (0, 0))) := Lib.hid (heap_alloc_new _ _)
        clear hb
        generalize w9.alloc (.cells #[.int .i64 er, .int .i64 k1, .int .i64 s1, .int .i32 v1, .int .i32 0, .int .i64 m1, .int .i64 0, .int .u32 0, .int .i32 0] 32) = w10 at *
        generalize w9.heap.size = gh at *
        have hz11 : gs < w10.heap.size := blk_lt SK.out
        have hz12 : gh < w10.heap.size := blk_lt HK.out
        clear hz8 hz9 hz10
        have h0 := blk_cell HK.out 0
        have h1 := blk_cell HK.out 1
        have h3 := blk_cell HK.out 3
        have e0 := blk_cell SK.out 0
        have e1 := blk_cell SK.out 1
        have e2 := blk_cell SK.out 2
        have e3 := blk_cell SK.out 3
        rcases HAG.out with hne | ⟨he, j, hk, hj, hsw⟩
        · clear HAG
          have hne2 : (er != 0) = true := by simp only [bne, hne, Bool.not_false]
          go_quiet (fail)
          go_wp2_with fail
          go_ret
          exact ⟨rfl, pw_below_drewN HB.out _⟩
        · clear HAG
          subst he hk
          have HS2 := set_at hsw
          clear hsw
          have hcv : ∀ W', Below w10.heap.size w10 W' → (convert 30 9 (.slice A j c)).run Try.prog W' = .ok (.string (strOfNums (l.take j))) W' := by
            intro W' hW'
            have h1 := Kd.C_take (m := j) (Kd.C_below HC.out hW') hj
            rw [List.length_take, Nat.min_eq_left hj] at h1
            exact Kd.C_string (P := Try.prog) Try.underlying30 Try.underlying5 Try.underlying9 h1
          have HCV := Lib.hid hcv
          clear hcv
          generalize strOfNums (l.take j) = T at *
          have hsl := take_at (A := A) j hj Hc.out
          have hjc : j ≤ c := Nat.le_trans hj Hc.out
          have i0 : (0 : Int) ≤ (j : Int) := by omega
          have i1 : (j : Int) ≤ (l.length : Int) := by omega
          have i2 : (j : Int) ≤ (c : Int) := by omega
          have HX : Hid (Below w10.heap.size w10 w10.drew) := Lib.hid (below_drew (Below.refl _ _))
          have SKd : Hid (w10.drew.heap[gs]? = some (.cells #[.int .i64 2, .int .i64 0, .int .u32 0, .int .i32 0] 24 (0, 0))) := Lib.hid SK.out
          have HKd : Hid (w10.drew.heap[gh]? = some (.cells #[.int .i64 0, .int .i64 j, .int .i64 s1, .int .i32 v1, .int .i32 0, .int .i64 m1, .int .i64 0, .int .u32 0, .int .i32 0] 32 (0, 0))) := Lib.hid HK.out
          go_region_held3 (fun w' => w'.cell? ⟨gs, 0, none⟩ = some (.int .i64 2) ∧ w'.cell? ⟨gs, 1, none⟩ = some (.int .i64 0) ∧ w'.cell? ⟨gs, 2, none⟩ = some (.int .u32 0) ∧ w'.cell? ⟨gs, 3, none⟩ = some (.int .i32 0) ∧ w'.cell? ⟨gh, 0, none⟩ = some (.int .i64 0) ∧ w'.cell? ⟨gh, 1, none⟩ = some (.int .i64 j) ∧ w'.cell? ⟨gh, 3, none⟩ = some (.int .i32 v1) ∧ (convert 30 9 (.slice A j c)).run Try.prog w' = .ok (.string T) w') (exact ⟨blk_cell SKd.out 0, blk_cell SKd.out 1, blk_cell SKd.out 2, blk_cell SKd.out 3, blk_cell HKd.out 0, blk_cell HKd.out 1, blk_cell HKd.out 3, HCV.out _ HX.out⟩) (first | (go_at_call 9; (with_reducible refine (HS2.out _).mono ?_); rintro e wa ⟨rfl, hb⟩; replace SKd := Lib.hid (blk_below SKd.out hb); replace HKd := Lib.hid (blk_below HKd.out hb); replace HX := Lib.hid (below_on HX.out HX.out.size hb); clear hb) | fail)
          all_goals
            go_wp2_with fail
            go_ret
            exact ⟨rfl, on HB.out HX.out⟩
set_option maxHeartbeats 4000000 in
set_option maxRecDepth 100000 in
theorem back_direct_5_1 (kind mode u : Int) (A : Option Addr) (c : Nat) (l : List Int) (w : World) (hC : Kd.C (Kd.int .u8) w A l.length l) (hc : l.length ≤ c) (hb : ∀ x ∈ l, Byte x) (hlen : l.length ≤ 140737488351232) (hq : (IntKind.u64.wrap kind).tmod 8 = 5) (hmode : (IntKind.u64.wrap mode).tmod 3 = 1) (ub : List Int) (hd : Direct 8 1 u ub) (er k1 s1 v1 m1 : Int) (hag : Again 8 1 l er k1 s1 v1 m1) :
    Calls Try.prog 5 #[.int .i64 kind, .int .i64 mode, .int .i32 u, .slice A l.length c] w fun e w' => e = .returned (.bool true) ∧ Below w.heap.size w w' := by
        obtain ⟨hu1, hu4, hubb, hsw, hgw⟩ := hd
        have H9 := set_at hsw
        have HLBb : ∀ x ∈ ub ++ l, Byte x := by
          intro x hx
          rcases List.mem_append.1 hx with hx | hx
          · exact hubb x hx
          · exact hb x hx
        have HG2 := got_at HLBb (hgw l)
        have HH := got_at hb hag.1
        have HAG := Lib.hid hag.2
        obtain ⟨S, hS⟩ : ∃ S, S = strOfNums (ub) := ⟨_, rfl⟩
        rw [← hS] at H9
        have hsz : S.size = (ub).length := by rw [hS, str_len]
        have hbo : bytesOf S = ub := by rw [hS]; exact bytesOf_str _ hubb
        clear hS
        rw [← hsz] at HG2
        obtain ⟨lb, hlb⟩ : ∃ lb, lb = ub ++ l := ⟨_, rfl⟩
        rw [← hlb] at HG2
        have HLB := Lib.hid hlb
        have HBO := Lib.hid hbo
        have hsz1 : S.size ≤ 4 := by omega
        have HSZ := Lib.hid hsz
        have hul : ub.length ≤ 4 := hu4
        clear hlb hbo hsz hsw hgw hag hubb HLBb hu1 hu4
        have HC := Lib.hid hC
        have Hc := Lib.hid hc
        have Hb := Lib.hid hb
        clear hC hc hb
        go_enter Try.func5, Try.ntmps5
        go_wp2_with fail
        refine (worksC _).mono ?_
        rintro e w1 ⟨rfl, hb1⟩
        have HB : Hid (Below w.heap.size w w1) := Lib.hid hb1
        replace HC := Lib.hid (Kd.C_below HC.out hb1)
        have Hgs : Hid (w.heap.size ≤ w1.heap.size) := Lib.hid hb1.size
        clear hb1
        go_upto_region 7 with fail
        have hb := below_alloc (Below.refl w1.heap.size w1) (.cells #[.int .i64 1, .int .i64 0, .int .u32 0, .int .i32 0] 24)
        replace HB := Lib.hid (on HB.out hb)
        replace HC := Lib.hid (Kd.C_below HC.out hb)
        have SK : Hid ((w1.alloc (.cells #[.int .i64 1, .int .i64 0, .int .u32 0, .int .i32 0] 24)).heap[w1.heap.size]? = some (.cells #[.int .i64 1, .int .i64 0, .int .u32 0, .int .i32 0] 24 (0, 0))) := Lib.hid (heap_alloc_new _ _)
        have hz2 : w1.heap.size < (w1.alloc (.cells #[.int .i64 1, .int .i64 0, .int .u32 0, .int .i32 0] 24)).heap.size := blk_lt SK.out
        clear hb
        generalize w1.alloc (.cells #[.int .i64 1, .int .i64 0, .int .u32 0, .int .i32 0] 24) = w2 at *
        generalize w1.heap.size = gs at *
        have e0 := blk_cell SK.out 0
        have e1 := blk_cell SK.out 1
        have e2 := blk_cell SK.out 2
        have e3 := blk_cell SK.out 3
        go_wp2_with fail
        refine (H9.out _).mono ?_
        rintro e w3 ⟨rfl, hb⟩
        replace HB := Lib.hid (on HB.out hb)
        replace HC := Lib.hid (Kd.C_below HC.out hb)
        replace SK := Lib.hid (blk_below SK.out hb)
        clear e0 e1 e2 e3
        have hz3 : gs < w3.heap.size := blk_lt SK.out
        clear hb hz2
        go_upto_region 8 with fail
        have hb := below_alloc (Below.refl w3.heap.size w3) (.cells #[.int .i64 0, .string S, .int .i64 1, .int .i64 0, .int .u32 0, .int .i32 0] 27)
        replace HB := Lib.hid (on HB.out hb)
        replace HC := Lib.hid (Kd.C_below HC.out hb)
        replace SK := Lib.hid (blk_below SK.out hb)
        have PK : Hid ((w3.alloc (.cells #[.int .i64 0, .string S, .int .i64 1, .int .i64 0, .int .u32 0, .int .i32 0] 27)).heap[w3.heap.size]? = some (.cells #[.int .i64 0, .string S, .int .i64 1, .int .i64 0, .int .u32 0, .int .i32 0] 27 (0, 0))) := Lib.hid (heap_alloc_new _ _)
        have hz4 : w3.heap.size < (w3.alloc (.cells #[.int .i64 0, .string S, .int .i64 1, .int .i64 0, .int .u32 0, .int .i32 0] 27)).heap.size := blk_lt PK.out
        clear hb
        generalize w3.alloc (.cells #[.int .i64 0, .string S, .int .i64 1, .int .i64 0, .int .u32 0, .int .i32 0] 27) = w4 at *
        generalize w3.heap.size = gp at *
        have hz5 : gs < w4.heap.size := blk_lt SK.out
        clear hz3
        have kb := fun W => print_bytes (P := Try.prog) 9 30 5 Try.underlying9 Try.underlying30 Try.underlying5 S W
        have hbz : Below w4.heap.size w4 (Lib.bytesWorld w4 5 S) := bytes_below (Below.refl _ _) (Nat.le_refl _) 5 _
        obtain ⟨A1, c1, w5, hr, hC1, hc1, hb5⟩ := append_run (w0 := w4) (base := w4.heap.size) 30 (OwnB.conv w4 S (by omega)) (Kd.C_below HC.out hbz) hbz (Nat.le_refl _) hbz.size (by rw [HBO.out]; omega)
        rw [HBO.out] at hr hC1 hc1
        rw [← HLB.out] at hr hC1 hc1
        have HR := Lib.hid hr
        have HC1 := Lib.hid hC1
        have Hc1 := Lib.hid hc1
        have HB5 := Lib.hid hb5
        clear hr hC1 hc1 hb5
        have p0 := blk_cell PK.out 0
        have p1 := blk_cell PK.out 1
        have p2 := blk_cell PK.out 2
        have p3 := blk_cell PK.out 3
        have p4 := blk_cell PK.out 4
        have p5 := blk_cell PK.out 5
        go_upto_region 10 with fail
        go_upto_region 11 with (at_builtin; refine Lib.wpList_append_run _ rfl (.tmp 60) (.tmp 61) 30 30 rfl _ _ rfl rfl _ _ HR.out ?_)
        clear kb HR
        clear p0 p1 p2 p3 p4 p5
        replace HB := Lib.hid (on HB.out HB5.out)
        replace HC := Lib.hid (Kd.C_below HC.out HB5.out)
        replace SK := Lib.hid (blk_below SK.out HB5.out)
        replace PK := Lib.hid (blk_below PK.out HB5.out)
        clear HB5
        have hz6 : gs < w5.heap.size := blk_lt SK.out
        have hz7 : gp < w5.heap.size := blk_lt PK.out
        clear hz4 hz5
        obtain ⟨A2, HSL, HSD, Hsc⟩ := drop_at (A := A1) (c := c1) (l := lb) 0 (Nat.zero_le _) Hc1.out
        rw [List.drop_zero] at HSL HSD Hsc
        rw [Nat.sub_zero] at HSL Hsc
        change Hid (∀ W : World, (Instr.slice 30 (.slice A1 lb.length c1) (some (.int .i64 0)) none none).run Try.prog W = .ok (.slice A2 lb.length c1) W) at HSL
        have e0 := blk_cell SK.out 0
        have e1 := blk_cell SK.out 1
        have e2 := blk_cell SK.out 2
        have e3 := blk_cell SK.out 3
        go_upto_region 17 with fail
        clear e0 e1 e2 e3
        go_cut [14] (fun s wx => Cut17 (fun g wy => Hid (wy.heap[g]? = some (.cells #[.int .i64 0, .int .i64 S.size, .int .i64 1, .int .i32 u, .int .i32 0, .int .i64 1, .int .i64 0, .int .u32 0, .int .i32 0] 32 (0, 0))) ∧ Hid (wy.heap[gs]? = some (.cells #[.int .i64 1, .int .i64 0, .int .u32 0, .int .i32 0] 24 (0, 0))) ∧ Hid (wy.heap[gp]? = some (.cells #[.int .i64 0, .string S, .int .i64 1, .int .i64 0, .int .u32 0, .int .i32 0] 27 (0, 0))) ∧ Hid (Below w.heap.size w wy) ∧ Hid (Kd.C (Kd.int .u8) wy A l.length l)) s wx)
        case first =>
          have HX : Hid (Below w5.heap.size w5 w5.drew) := Lib.hid (below_drew (Below.refl _ _))
          have HXa : Hid (Below w5.heap.size w5 (w5.alloc (.cells #[.int .i64 0, .int .i64 0, .int .i64 0, .int .i32 0, .int .i32 0, .int .i64 0, .int .i64 0, .int .u32 0, .int .i32 0] 32)).drew) := Lib.hid (below_drew (below_alloc (Below.refl _ _) _))
          have d0 : w5.drew.cell? ⟨gs, 0, none⟩ = some (.int .i64 1) := blk_cell SK.out 0
          have d1 : w5.drew.cell? ⟨gs, 1, none⟩ = some (.int .i64 0) := blk_cell SK.out 1
          have d2 : w5.drew.cell? ⟨gs, 2, none⟩ = some (.int .u32 0) := blk_cell SK.out 2
          have d3 : w5.drew.cell? ⟨gs, 3, none⟩ = some (.int .i32 0) := blk_cell SK.out 3
          have b0 : (w5.alloc (.cells #[.int .i64 0, .int .i64 0, .int .i64 0, .int .i32 0, .int .i32 0, .int .i64 0, .int .i64 0, .int .u32 0, .int .i32 0] 32)).drew.cell? ⟨gs, 0, none⟩ = some (.int .i64 1) := blk_cell (blk_alloc SK.out _) 0
          have b1 : (w5.alloc (.cells #[.int .i64 0, .int .i64 0, .int .i64 0, .int .i32 0, .int .i32 0, .int .i64 0, .int .i64 0, .int .u32 0, .int .i32 0] 32)).drew.cell? ⟨gs, 1, none⟩ = some (.int .i64 0) := blk_cell (blk_alloc SK.out _) 1
          have b2 : (w5.alloc (.cells #[.int .i64 0, .int .i64 0, .int .i64 0, .int .i32 0, .int .i32 0, .int .i64 0, .int .i64 0, .int .u32 0, .int .i32 0] 32)).drew.cell? ⟨gs, 2, none⟩ = some (.int .u32 0) := blk_cell (blk_alloc SK.out _) 2
          have b3 : (w5.alloc (.cells #[.int .i64 0, .int .i64 0, .int .i64 0, .int .i32 0, .int .i32 0, .int .i64 0, .int .i64 0, .int .u32 0, .int .i32 0] 32)).drew.cell? ⟨gs, 3, none⟩ = some (.int .i32 0) := blk_cell (blk_alloc SK.out _) 3
          have hsl := HSL.out
          go_region_law (first | (go_simp; go_at_call 11; ((with_reducible refine (HG2.out _ _ _ (HSD.out _ (Kd.C_below HC1.out HX.out)) Hsc.out).mono ?_); rintro e wa ⟨rfl, hb⟩; have HWp := Lib.hid (below_on HX.out HX.out.size hb); clear hb; have SKp := Lib.hid (blk_b SK.out HWp.out hz6); have hne : gs < wa.heap.size := Nat.lt_of_lt_of_le hz6 HWp.out.size)) | (go_simp; go_at_call 11; ((with_reducible refine (HG2.out _ _ _ (HSD.out _ (Kd.C_below HC1.out HXa.out)) Hsc.out).mono ?_); rintro e wa ⟨rfl, hb⟩; have GZ : Hid (wa.heap[w5.heap.size]? = some (.cells #[.int .i64 0, .int .i64 0, .int .i64 0, .int .i32 0, .int .i32 0, .int .i64 0, .int .i64 0, .int .u32 0, .int .i32 0] 32 (0, 0))) := Lib.hid (blk_below (blk_drew (heap_alloc_new _ _)) hb); have HWq := Lib.hid (below_on HXa.out HXa.out.size hb); clear hb; have SKq := Lib.hid (blk_b SK.out HWq.out hz6); have hne : gs < wa.heap.size := Nat.lt_of_lt_of_le hz6 HWq.out.size; have hnz : w5.heap.size < wa.heap.size := blk_lt GZ.out; have r0 := blk_cell GZ.out 0; have r1 := blk_cell GZ.out 1; have r2 := blk_cell GZ.out 2; have r3 := blk_cell GZ.out 3; have r4 := blk_cell GZ.out 4; have r5 := blk_cell GZ.out 5; have r6 := blk_cell GZ.out 6; have r7 := blk_cell GZ.out 7; have r8 := blk_cell GZ.out 8; have t0 := blk_frozen GZ.out 0; have t1 := blk_frozen GZ.out 1; have t2 := blk_frozen GZ.out 2; have t3 := blk_frozen GZ.out 3; have t4 := blk_frozen GZ.out 4; have t5 := blk_frozen GZ.out 5; have t6 := blk_frozen GZ.out 6; have t7 := blk_frozen GZ.out 7; have t8 := blk_frozen GZ.out 8)) | fail)
          all_goals
            go_wp2_with fail
            go_meet
            first | (have hx_ := HWp.out; clear hx_; exact ⟨wa.heap.size, rfl, Lib.hid (heap_alloc_new _ _), Lib.hid (blk_alloc SKp.out _), Lib.hid (blk_alloc (blk_b PK.out HWp.out hz7) _), Lib.hid (below_alloc (on HB.out HWp.out) _), Lib.hid (Kd.C_below HC.out (below_alloc HWp.out _))⟩) | (have hx_ := HWq.out; clear hx_; exact ⟨w5.heap.size, rfl, Lib.hid (put9 GZ.out _ _ _ _ _ _ _ _ _), Lib.hid (set9 SKq.out (Nat.ne_of_lt hz6) _ _ _ _ _ _ _ _ _), Lib.hid (set9 (blk_b PK.out HWq.out hz7) (Nat.ne_of_lt hz7) _ _ _ _ _ _ _ _ _), Lib.hid (below9 (on HB.out HWq.out) HB.out.size _ _ _ _ _ _ _ _ _), Lib.hid (Kd.C_below HC.out (below9 HWq.out (Nat.le_refl _) _ _ _ _ _ _ _ _ _))⟩)
        case rest =>
          obtain ⟨gg, rfl, GK, SK, PK, HB, HC⟩ := hcut
          clear HSD HSL Hsc
          have hz8 : gs < wc.heap.size := blk_lt SK.out
          have hz9 : gp < wc.heap.size := blk_lt PK.out
          have hz10 : gg < wc.heap.size := blk_lt GK.out
          have e0 := blk_cell SK.out 0
          have e1 := blk_cell SK.out 1
          have e2 := blk_cell SK.out 2
          have e3 := blk_cell SK.out 3
          have p0 := blk_cell PK.out 0
          have p1 := blk_cell PK.out 1
          have p2 := blk_cell PK.out 2
          have p3 := blk_cell PK.out 3
          have p4 := blk_cell PK.out 4
          have p5 := blk_cell PK.out 5
          have g0 := blk_cell GK.out 0
          have g1 := blk_cell GK.out 1
          have g2 := blk_cell GK.out 2
          have g3 := blk_cell GK.out 3
          have g4 := blk_cell GK.out 4
          have g5 := blk_cell GK.out 5
          have g6 := blk_cell GK.out 6
          have g7 := blk_cell GK.out 7
          have g8 := blk_cell GK.out 8
          go_upto_region 20 with fail
          clear p0 p1 p2 p3 p4 p5
          clear g0 g1 g2 g3 g4 g5 g6 g7 g8
          go_wp2_with fail
          refine (HH.out _ _ _ HC.out Hc.out).mono ?_
          rintro e w9 ⟨rfl, hb⟩
          replace HB := Lib.hid (on HB.out hb)
          replace HC := Lib.hid (Kd.C_below HC.out hb)
          replace SK := Lib.hid (blk_below SK.out hb)
          replace PK := Lib.hid (blk_below PK.out hb)
          replace GK := Lib.hid (blk_below GK.out hb)
          clear hb
          clear e0 e1 e2 e3
          go_upto_region 21 with fail
          have hb := below_alloc (Below.refl w9.heap.size w9) (.cells #[.int .i64 er, .int .i64 k1, .int .i64 s1, .int .i32 v1, .int .i32 0, .int .i64 m1, .int .i64 0, .int .u32 0, .int .i32 0] 32)
          replace HB := Lib.hid (on HB.out hb)
          replace HC := Lib.hid (Kd.C_below HC.out hb)
          replace SK := Lib.hid (blk_below SK.out hb)
          replace PK := Lib.hid (blk_below PK.out hb)
          replace GK := Lib.hid (blk_below GK.out hb)
          have HK : Hid ((w9.alloc (.cells #[.int .i64 er, .int .i64 k1, .int .i64 s1, .int .i32 v1, .int .i32 0, .int .i64 m1, .int .i64 0, .int .u32 0, .int .i32 0] 32)).heap[w9.heap.size]? = some (.cells #[.int .i64 er, .int .i64 k1, .int .i64 s1, .int .i32 v1, .int .i32 0, .int .i64 m1, .int .i64 0, .int .u32 0, .int .i32 0] 32 (0, 0))) := Lib.hid (heap_alloc_new _ _)
          clear hb
          generalize w9.alloc (.cells #[.int .i64 er, .int .i64 k1, .int .i64 s1, .int .i32 v1, .int .i32 0, .int .i64 m1, .int .i64 0, .int .u32 0, .int .i32 0] 32) = w10 at *
          generalize w9.heap.size = gh at *
          have hz11 : gs < w10.heap.size := blk_lt SK.out
          have hz12 : gh < w10.heap.size := blk_lt HK.out
          clear hz8 hz9 hz10
          have h0 := blk_cell HK.out 0
          have h1 := blk_cell HK.out 1
          have h3 := blk_cell HK.out 3
          have e0 := blk_cell SK.out 0
          have e1 := blk_cell SK.out 1
          have e2 := blk_cell SK.out 2
          have e3 := blk_cell SK.out 3
          rcases HAG.out with hne | ⟨he, j, hk, hj, hsw⟩
          · clear HAG
            have hne2 : (er != 0) = true := by simp only [bne, hne, Bool.not_false]
            go_quiet (fail)
            go_wp2_with fail
            go_ret
            exact ⟨rfl, pw_below_drewN HB.out _⟩
          · clear HAG
            subst he hk
            have HS2 := set_at hsw
            clear hsw
            have hcv : ∀ W', Below w10.heap.size w10 W' → (convert 30 9 (.slice A j c)).run Try.prog W' = .ok (.string (strOfNums (l.take j))) W' := by
              intro W' hW'
              have h1 := Kd.C_take (m := j) (Kd.C_below HC.out hW') hj
              rw [List.length_take, Nat.min_eq_left hj] at h1
              exact Kd.C_string (P := Try.prog) Try.underlying30 Try.underlying5 Try.underlying9 h1
            have HCV := Lib.hid hcv
            clear hcv
            generalize strOfNums (l.take j) = T at *
            have hsl := take_at (A := A) j hj Hc.out
            have hjc : j ≤ c := Nat.le_trans hj Hc.out
            have i0 : (0 : Int) ≤ (j : Int) := by omega
            have i1 : (j : Int) ≤ (l.length : Int) := by omega
            have i2 : (j : Int) ≤ (c : Int) := by omega
            have HX : Hid (Below w10.heap.size w10 w10.drew) := Lib.hid (below_drew (Below.refl _ _))
            have SKd : Hid (w10.drew.heap[gs]? = some (.cells #[.int .i64 1, .int .i64 0, .int .u32 0, .int .i32 0] 24 (0, 0))) := Lib.hid SK.out
            have HKd : Hid (w10.drew.heap[gh]? = some (.cells #[.int .i64 0, .int .i64 j, .int .i64 s1, .int .i32 v1, .int .i32 0, .int .i64 m1, .int .i64 0, .int .u32 0, .int .i32 0] 32 (0, 0))) := Lib.hid HK.out
            go_region_held3 (fun w' => w'.cell? ⟨gs, 0, none⟩ = some (.int .i64 1) ∧ w'.cell? ⟨gs, 1, none⟩ = some (.int .i64 0) ∧ w'.cell? ⟨gs, 2, none⟩ = some (.int .u32 0) ∧ w'.cell? ⟨gs, 3, none⟩ = some (.int .i32 0) ∧ w'.cell? ⟨gh, 0, none⟩ = some (.int .i64 0) ∧ w'.cell? ⟨gh, 1, none⟩ = some (.int .i64 j) ∧ w'.cell? ⟨gh, 3, none⟩ = some (.int .i32 v1) ∧ (convert 30 9 (.slice A j c)).run Try.prog w' = .ok (.string T) w') (exact ⟨blk_cell SKd.out 0, blk_cell SKd.out 1, blk_cell SKd.out 2, blk_cell SKd.out 3, blk_cell HKd.out 0, blk_cell HKd.out 1, blk_cell HKd.out 3, HCV.out _ HX.out⟩) (first | (go_at_call 9; (with_reducible refine (HS2.out _).mono ?_); rintro e wa ⟨rfl, hb⟩; replace SKd := Lib.hid (blk_below SKd.out hb); replace HKd := Lib.hid (blk_below HKd.out hb); replace HX := Lib.hid (below_on HX.out HX.out.size hb); clear hb) | fail)
            all_goals
              go_wp2_with fail
              go_ret
              exact ⟨rfl, on HB.out HX.out⟩
set_option maxHeartbeats 4000000 in
set_option maxRecDepth 100000 in
theorem back_direct_5_2 (kind mode u : Int) (A : Option Addr) (c : Nat) (l : List Int) (w : World) (hC : Kd.C (Kd.int .u8) w A l.length l) (hc : l.length ≤ c) (hb : ∀ x ∈ l, Byte x) (hlen : l.length ≤ 140737488351232) (hq : (IntKind.u64.wrap kind).tmod 8 = 5) (hmode : (IntKind.u64.wrap mode).tmod 3 = 2) (ub : List Int) (hd : Direct 8 2 u ub) (er k1 s1 v1 m1 : Int) (hag : Again 8 2 l er k1 s1 v1 m1) :
    Calls Try.prog 5 #[.int .i64 kind, .int .i64 mode, .int .i32 u, .slice A l.length c] w fun e w' => e = .returned (.bool true) ∧ Below w.heap.size w w' := by
          obtain ⟨hu1, hu4, hubb, hsw, hgw⟩ := hd
          have H9 := set_at hsw
          have HLBb : ∀ x ∈ ub ++ l, Byte x := by
            intro x hx
            rcases List.mem_append.1 hx with hx | hx
            · exact hubb x hx
            · exact hb x hx
          have HG2 := got_at HLBb (hgw l)
          have HH := got_at hb hag.1
          have HAG := Lib.hid hag.2
          obtain ⟨S, hS⟩ : ∃ S, S = strOfNums (ub) := ⟨_, rfl⟩
          rw [← hS] at H9
          have hsz : S.size = (ub).length := by rw [hS, str_len]
          have hbo : bytesOf S = ub := by rw [hS]; exact bytesOf_str _ hubb
          clear hS
          rw [← hsz] at HG2
          obtain ⟨lb, hlb⟩ : ∃ lb, lb = ub ++ l := ⟨_, rfl⟩
          rw [← hlb] at HG2
          have HLB := Lib.hid hlb
          have HBO := Lib.hid hbo
          have hsz1 : S.size ≤ 4 := by omega
          have HSZ := Lib.hid hsz
          have hul : ub.length ≤ 4 := hu4
          clear hlb hbo hsz hsw hgw hag hubb HLBb hu1 hu4
          have HC := Lib.hid hC
          have Hc := Lib.hid hc
          have Hb := Lib.hid hb
          clear hC hc hb
          go_enter Try.func5, Try.ntmps5
          go_wp2_with fail
          refine (worksC _).mono ?_
          rintro e w1 ⟨rfl, hb1⟩
          have HB : Hid (Below w.heap.size w w1) := Lib.hid hb1
          replace HC := Lib.hid (Kd.C_below HC.out hb1)
          have Hgs : Hid (w.heap.size ≤ w1.heap.size) := Lib.hid hb1.size
          clear hb1
          go_upto_region 7 with fail
          have hb := below_alloc (Below.refl w1.heap.size w1) (.cells #[.int .i64 2, .int .i64 0, .int .u32 0, .int .i32 0] 24)
          replace HB := Lib.hid (on HB.out hb)
          replace HC := Lib.hid (Kd.C_below HC.out hb)
          have SK : Hid ((w1.alloc (.cells #[.int .i64 2, .int .i64 0, .int .u32 0, .int .i32 0] 24)).heap[w1.heap.size]? = some (.cells #[.int .i64 2, .int .i64 0, .int .u32 0, .int .i32 0] 24 (0, 0))) := Lib.hid (heap_alloc_new _ _)
          have hz2 : w1.heap.size < (w1.alloc (.cells #[.int .i64 2, .int .i64 0, .int .u32 0, .int .i32 0] 24)).heap.size := blk_lt SK.out
          clear hb
          generalize w1.alloc (.cells #[.int .i64 2, .int .i64 0, .int .u32 0, .int .i32 0] 24) = w2 at *
          generalize w1.heap.size = gs at *
          have e0 := blk_cell SK.out 0
          have e1 := blk_cell SK.out 1
          have e2 := blk_cell SK.out 2
          have e3 := blk_cell SK.out 3
          go_wp2_with fail
          refine (H9.out _).mono ?_
          rintro e w3 ⟨rfl, hb⟩
          replace HB := Lib.hid (on HB.out hb)
          replace HC := Lib.hid (Kd.C_below HC.out hb)
          replace SK := Lib.hid (blk_below SK.out hb)
          clear e0 e1 e2 e3
          have hz3 : gs < w3.heap.size := blk_lt SK.out
          clear hb hz2
          go_upto_region 8 with fail
          have hb := below_alloc (Below.refl w3.heap.size w3) (.cells #[.int .i64 0, .string S, .int .i64 2, .int .i64 0, .int .u32 0, .int .i32 0] 27)
          replace HB := Lib.hid (on HB.out hb)
          replace HC := Lib.hid (Kd.C_below HC.out hb)
          replace SK := Lib.hid (blk_below SK.out hb)
          have PK : Hid ((w3.alloc (.cells #[.int .i64 0, .string S, .int .i64 2, .int .i64 0, .int .u32 0, .int .i32 0] 27)).heap[w3.heap.size]? = some (.cells #[.int .i64 0, .string S, .int .i64 2, .int .i64 0, .int .u32 0, .int .i32 0] 27 (0, 0))) := Lib.hid (heap_alloc_new _ _)
          have hz4 : w3.heap.size < (w3.alloc (.cells #[.int .i64 0, .string S, .int .i64 2, .int .i64 0, .int .u32 0, .int .i32 0] 27)).heap.size := blk_lt PK.out
          clear hb
          generalize w3.alloc (.cells #[.int .i64 0, .string S, .int .i64 2, .int .i64 0, .int .u32 0, .int .i32 0] 27) = w4 at *
          generalize w3.heap.size = gp at *
          have hz5 : gs < w4.heap.size := blk_lt SK.out
          clear hz3
          have kb := fun W => print_bytes (P := Try.prog) 9 30 5 Try.underlying9 Try.underlying30 Try.underlying5 S W
          have hbz : Below w4.heap.size w4 (Lib.bytesWorld w4 5 S) := bytes_below (Below.refl _ _) (Nat.le_refl _) 5 _
          obtain ⟨A1, c1, w5, hr, hC1, hc1, hb5⟩ := append_run (w0 := w4) (base := w4.heap.size) 30 (OwnB.conv w4 S (by omega)) (Kd.C_below HC.out hbz) hbz (Nat.le_refl _) hbz.size (by rw [HBO.out]; omega)
          rw [HBO.out] at hr hC1 hc1
          rw [← HLB.out] at hr hC1 hc1
          have HR := Lib.hid hr
          have HC1 := Lib.hid hC1
          have Hc1 := Lib.hid hc1
          have HB5 := Lib.hid hb5
          clear hr hC1 hc1 hb5
          have p0 := blk_cell PK.out 0
          have p1 := blk_cell PK.out 1
          have p2 := blk_cell PK.out 2
          have p3 := blk_cell PK.out 3
          have p4 := blk_cell PK.out 4
          have p5 := blk_cell PK.out 5
          go_upto_region 10 with fail
          go_upto_region 11 with (at_builtin; refine Lib.wpList_append_run _ rfl (.tmp 60) (.tmp 61) 30 30 rfl _ _ rfl rfl _ _ HR.out ?_)
          clear kb HR
          clear p0 p1 p2 p3 p4 p5
          replace HB := Lib.hid (on HB.out HB5.out)
          replace HC := Lib.hid (Kd.C_below HC.out HB5.out)
          replace SK := Lib.hid (blk_below SK.out HB5.out)
          replace PK := Lib.hid (blk_below PK.out HB5.out)
          clear HB5
          have hz6 : gs < w5.heap.size := blk_lt SK.out
          have hz7 : gp < w5.heap.size := blk_lt PK.out
          clear hz4 hz5
          obtain ⟨A2, HSL, HSD, Hsc⟩ := drop_at (A := A1) (c := c1) (l := lb) 0 (Nat.zero_le _) Hc1.out
          rw [List.drop_zero] at HSL HSD Hsc
          rw [Nat.sub_zero] at HSL Hsc
          change Hid (∀ W : World, (Instr.slice 30 (.slice A1 lb.length c1) (some (.int .i64 0)) none none).run Try.prog W = .ok (.slice A2 lb.length c1) W) at HSL
          have e0 := blk_cell SK.out 0
          have e1 := blk_cell SK.out 1
          have e2 := blk_cell SK.out 2
          have e3 := blk_cell SK.out 3
          go_upto_region 17 with fail
          clear e0 e1 e2 e3
          go_cut [14] (fun s wx => Cut17 (fun g wy => Hid (wy.heap[g]? = some (.cells #[.int .i64 0, .int .i64 S.size, .int .i64 1, .int .i32 u, .int .i32 0, .int .i64 2, .int .i64 0, .int .u32 0, .int .i32 0] 32 (0, 0))) ∧ Hid (wy.heap[gs]? = some (.cells #[.int .i64 2, .int .i64 0, .int .u32 0, .int .i32 0] 24 (0, 0))) ∧ Hid (wy.heap[gp]? = some (.cells #[.int .i64 0, .string S, .int .i64 2, .int .i64 0, .int .u32 0, .int .i32 0] 27 (0, 0))) ∧ Hid (Below w.heap.size w wy) ∧ Hid (Kd.C (Kd.int .u8) wy A l.length l)) s wx)
          case first =>
            have HX : Hid (Below w5.heap.size w5 w5.drew) := Lib.hid (below_drew (Below.refl _ _))
            have HXa : Hid (Below w5.heap.size w5 (w5.alloc (.cells #[.int .i64 0, .int .i64 0, .int .i64 0, .int .i32 0, .int .i32 0, .int .i64 0, .int .i64 0, .int .u32 0, .int .i32 0] 32)).drew) := Lib.hid (below_drew (below_alloc (Below.refl _ _) _))
            have d0 : w5.drew.cell? ⟨gs, 0, none⟩ = some (.int .i64 2) := blk_cell SK.out 0
            have d1 : w5.drew.cell? ⟨gs, 1, none⟩ = some (.int .i64 0) := blk_cell SK.out 1
            have d2 : w5.drew.cell? ⟨gs, 2, none⟩ = some (.int .u32 0) := blk_cell SK.out 2
            have d3 : w5.drew.cell? ⟨gs, 3, none⟩ = some (.int .i32 0) := blk_cell SK.out 3
            have b0 : (w5.alloc (.cells #[.int .i64 0, .int .i64 0, .int .i64 0, .int .i32 0, .int .i32 0, .int .i64 0, .int .i64 0, .int .u32 0, .int .i32 0] 32)).drew.cell? ⟨gs, 0, none⟩ = some (.int .i64 2) := blk_cell (blk_alloc SK.out _) 0
            have b1 : (w5.alloc (.cells #[.int .i64 0, .int .i64 0, .int .i64 0, .int .i32 0, .int .i32 0, .int .i64 0, .int .i64 0, .int .u32 0, .int .i32 0] 32)).drew.cell? ⟨gs, 1, none⟩ = some (.int .i64 0) := blk_cell (blk_alloc SK.out _) 1
            have b2 : (w5.alloc (.cells #[.int .i64 0, .int .i64 0, .int .i64 0, .int .i32 0, .int .i32 0, .int .i64 0, .int .i64 0, .int .u32 0, .int .i32 0] 32)).drew.cell? ⟨gs, 2, none⟩ = some (.int .u32 0) := blk_cell (blk_alloc SK.out _) 2
            have b3 : (w5.alloc (.cells #[.int .i64 0, .int .i64 0, .int .i64 0, .int .i32 0, .int .i32 0, .int .i64 0, .int .i64 0, .int .u32 0, .int .i32 0] 32)).drew.cell? ⟨gs, 3, none⟩ = some (.int .i32 0) := blk_cell (blk_alloc SK.out _) 3
            have hsl := HSL.out
            go_region_law (first | (go_simp; go_at_call 11; ((with_reducible refine (HG2.out _ _ _ (HSD.out _ (Kd.C_below HC1.out HX.out)) Hsc.out).mono ?_); rintro e wa ⟨rfl, hb⟩; have HWp := Lib.hid (below_on HX.out HX.out.size hb); clear hb; have SKp := Lib.hid (blk_b SK.out HWp.out hz6); have hne : gs < wa.heap.size := Nat.lt_of_lt_of_le hz6 HWp.out.size)) | (go_simp; go_at_call 11; ((with_reducible refine (HG2.out _ _ _ (HSD.out _ (Kd.C_below HC1.out HXa.out)) Hsc.out).mono ?_); rintro e wa ⟨rfl, hb⟩; have GZ : Hid (wa.heap[w5.heap.size]? = some (.cells #[.int .i64 0, .int .i64 0, .int .i64 0, .int .i32 0, .int .i32 0, .int .i64 0, .int .i64 0, .int .u32 0, .int .i32 0] 32 (0, 0))) := Lib.hid (blk_below (blk_drew (heap_alloc_new _ _)) hb); have HWq := Lib.hid (below_on HXa.out HXa.out.size hb); clear hb; have SKq := Lib.hid (blk_b SK.out HWq.out hz6); have hne : gs < wa.heap.size := Nat.lt_of_lt_of_le hz6 HWq.out.size; have hnz : w5.heap.size < wa.heap.size := blk_lt GZ.out; have r0 := blk_cell GZ.out 0; have r1 := blk_cell GZ.out 1; have r2 := blk_cell GZ.out 2; have r3 := blk_cell GZ.out 3; have r4 := blk_cell GZ.out 4; have r5 := blk_cell GZ.out 5; have r6 := blk_cell GZ.out 6; have r7 := blk_cell GZ.out 7; have r8 := blk_cell GZ.out 8; have t0 := blk_frozen GZ.out 0; have t1 := blk_frozen GZ.out 1; have t2 := blk_frozen GZ.out 2; have t3 := blk_frozen GZ.out 3; have t4 := blk_frozen GZ.out 4; have t5 := blk_frozen GZ.out 5; have t6 := blk_frozen GZ.out 6; have t7 := blk_frozen GZ.out 7; have t8 := blk_frozen GZ.out 8)) | fail)
            all_goals
              go_wp2_with fail
              go_meet
              first | (have hx_ := HWp.out; clear hx_; exact ⟨wa.heap.size, rfl, Lib.hid (heap_alloc_new _ _), Lib.hid (blk_alloc SKp.out _), Lib.hid (blk_alloc (blk_b PK.out HWp.out hz7) _), Lib.hid (below_alloc (on HB.out HWp.out) _), Lib.hid (Kd.C_below HC.out (below_alloc HWp.out _))⟩) | (have hx_ := HWq.out; clear hx_; exact ⟨w5.heap.size, rfl, Lib.hid (put9 GZ.out _ _ _ _ _ _ _ _ _), Lib.hid (set9 SKq.out (Nat.ne_of_lt hz6) _ _ _ _ _ _ _ _ _), Lib.hid (set9 (blk_b PK.out HWq.out hz7) (Nat.ne_of_lt hz7) _ _ _ _ _ _ _ _ _), Lib.hid (below9 (on HB.out HWq.out) HB.out.size _ _ _ _ _ _ _ _ _), Lib.hid (Kd.C_below HC.out (below9 HWq.out (Nat.le_refl _) _ _ _ _ _ _ _ _ _))⟩)
          case rest =>
            obtain ⟨gg, rfl, GK, SK, PK, HB, HC⟩ := hcut
            clear HSD HSL Hsc
            have hz8 : gs < wc.heap.size := blk_lt SK.out
            have hz9 : gp < wc.heap.size := blk_lt PK.out
            have hz10 : gg < wc.heap.size := blk_lt GK.out
            have e0 := blk_cell SK.out 0
            have e1 := blk_cell SK.out 1
            have e2 := blk_cell SK.out 2
            have e3 := blk_cell SK.out 3
            have p0 := blk_cell PK.out 0
            have p1 := blk_cell PK.out 1
            have p2 := blk_cell PK.out 2
            have p3 := blk_cell PK.out 3
            have p4 := blk_cell PK.out 4
            have p5 := blk_cell PK.out 5
            have g0 := blk_cell GK.out 0
            have g1 := blk_cell GK.out 1
            have g2 := blk_cell GK.out 2
            have g3 := blk_cell GK.out 3
            have g4 := blk_cell GK.out 4
            have g5 := blk_cell GK.out 5
            have g6 := blk_cell GK.out 6
            have g7 := blk_cell GK.out 7
            have g8 := blk_cell GK.out 8
            go_upto_region 20 with fail
            clear p0 p1 p2 p3 p4 p5
            clear g0 g1 g2 g3 g4 g5 g6 g7 g8
            go_wp2_with fail
            refine (HH.out _ _ _ HC.out Hc.out).mono ?_
            rintro e w9 ⟨rfl, hb⟩
            replace HB := Lib.hid (on HB.out hb)
            replace HC := Lib.hid (Kd.C_below HC.out hb)
            replace SK := Lib.hid (blk_below SK.out hb)
            replace PK := Lib.hid (blk_below PK.out hb)
            replace GK := Lib.hid (blk_below GK.out hb)
            clear hb
            clear e0 e1 e2 e3
            go_upto_region 21 with fail
            have hb := below_alloc (Below.refl w9.heap.size w9) (.cells #[.int .i64 er, .int .i64 k1, .int .i64 s1, .int .i32 v1, .int .i32 0, .int .i64 m1, .int .i64 0, .int .u32 0, .int .i32 0] 32)
            replace HB := Lib.hid (on HB.out hb)
            replace HC := Lib.hid (Kd.C_below HC.out hb)
            replace SK := Lib.hid (blk_below SK.out hb)
            replace PK := Lib.hid (blk_below PK.out hb)
            replace GK := Lib.hid (blk_below GK.out hb)
            have HK : Hid ((w9.alloc (.cells #[.int .i64 er, .int .i64 k1, .int .i64 s1, .int .i32 v1, .int .i32 0, .int .i64 m1, .int .i64 0, .int .u32 0, .int .i32 0] 32)).heap[w9.heap.size]? = some (.cells #[.int .i64 er, .int .i64 k1, .int .i64 s1, .int .i32 v1, .int .i32 0, .int .i64 m1, .int .i64 0, .int .u32 0, .int .i32 0] 32 (0, 0))) := Lib.hid (heap_alloc_new _ _)
            clear hb
            generalize w9.alloc (.cells #[.int .i64 er, .int .i64 k1, .int .i64 s1, .int .i32 v1, .int .i32 0, .int .i64 m1, .int .i64 0, .int .u32 0, .int .i32 0] 32) = w10 at *
            generalize w9.heap.size = gh at *
            have hz11 : gs < w10.heap.size := blk_lt SK.out
            have hz12 : gh < w10.heap.size := blk_lt HK.out
            clear hz8 hz9 hz10
            have h0 := blk_cell HK.out 0
            have h1 := blk_cell HK.out 1
            have h3 := blk_cell HK.out 3
            have e0 := blk_cell SK.out 0
            have e1 := blk_cell SK.out 1
            have e2 := blk_cell SK.out 2
            have e3 := blk_cell SK.out 3
            rcases HAG.out with hne | ⟨he, j, hk, hj, hsw⟩
            · clear HAG
              have hne2 : (er != 0) = true := by simp only [bne, hne, Bool.not_false]
              go_quiet (fail)
              go_wp2_with fail
              go_ret
              exact ⟨rfl, pw_below_drewN HB.out _⟩
            · clear HAG
              subst he hk
              have HS2 := set_at hsw
              clear hsw
              have hcv : ∀ W', Below w10.heap.size w10 W' → (convert 30 9 (.slice A j c)).run Try.prog W' = .ok (.string (strOfNums (l.take j))) W' := by
                intro W' hW'
                have h1 := Kd.C_take (m := j) (Kd.C_below HC.out hW') hj
                rw [List.length_take, Nat.min_eq_left hj] at h1
                exact Kd.C_string (P := Try.prog) Try.underlying30 Try.underlying5 Try.underlying9 h1
              have HCV := Lib.hid hcv
              clear hcv
              generalize strOfNums (l.take j) = T at *
              have hsl := take_at (A := A) j hj Hc.out
              have hjc : j ≤ c := Nat.le_trans hj Hc.out
              have i0 : (0 : Int) ≤ (j : Int) := by omega
              have i1 : (j : Int) ≤ (l.length : Int) := by omega
              have i2 : (j : Int) ≤ (c : Int) := by omega
              have HX : Hid (Below w10.heap.size w10 w10.drew) := Lib.hid (below_drew (Below.refl _ _))
              have SKd : Hid (w10.drew.heap[gs]? = some (.cells #[.int .i64 2, .int .i64 0, .int .u32 0, .int .i32 0] 24 (0, 0))) := Lib.hid SK.out
              have HKd : Hid (w10.drew.heap[gh]? = some (.cells #[.int .i64 0, .int .i64 j, .int .i64 s1, .int .i32 v1, .int .i32 0, .int .i64 m1, .int .i64 0, .int .u32 0, .int .i32 0] 32 (0, 0))) := Lib.hid HK.out
              go_region_held3 (fun w' => w'.cell? ⟨gs, 0, none⟩ = some (.int .i64 2) ∧ w'.cell? ⟨gs, 1, none⟩ = some (.int .i64 0) ∧ w'.cell? ⟨gs, 2, none⟩ = some (.int .u32 0) ∧ w'.cell? ⟨gs, 3, none⟩ = some (.int .i32 0) ∧ w'.cell? ⟨gh, 0, none⟩ = some (.int .i64 0) ∧ w'.cell? ⟨gh, 1, none⟩ = some (.int .i64 j) ∧ w'.cell? ⟨gh, 3, none⟩ = some (.int .i32 v1) ∧ (convert 30 9 (.slice A j c)).run Try.prog w' = .ok (.string T) w') (exact ⟨blk_cell SKd.out 0, blk_cell SKd.out 1, blk_cell SKd.out 2, blk_cell SKd.out 3, blk_cell HKd.out 0, blk_cell HKd.out 1, blk_cell HKd.out 3, HCV.out _ HX.out⟩) (first | (go_at_call 9; (with_reducible refine (HS2.out _).mono ?_); rintro e wa ⟨rfl, hb⟩; replace SKd := Lib.hid (blk_below SKd.out hb); replace HKd := Lib.hid (blk_below HKd.out hb); replace HX := Lib.hid (below_on HX.out HX.out.size hb); clear hb) | fail)
              all_goals
                go_wp2_with fail
                go_ret
                exact ⟨rfl, on HB.out HX.out⟩
end Go.Proofs.Ytflmpdfcbdfabaa.Wd
