/- FlowIn, walked. -/
import Derived.Test.YtadhfojgifhjcaaFlQ
import Derived.Deep.DeepCutAuto
import Derived.Deep.QuietTactic
import Derived.Deep.CutBlock
import Derived.BigQuiet
import Derived.Deep.RegionHeld3
namespace Go.Proofs.Ytadhfojgifhjcaa.Fl
open Go.RowKit Go.Proofs.YtadhfojgifhjcaaW.PrintWords Go.Proofs.YtadhfojgifhjcaaW.PrintLast Go.Proofs.YtadhfojgifhjcaaW.PrintMore
set_option linter.unusedVariables false
set_option linter.unusedSimpArgs false
theorem on {w w1 w2 : World} (h : Below w.heap.size w w1) (k : Below w1.heap.size w1 w2) : Below w.heap.size w w2 := below_step h k
theorem wp_append_opt {ops : Array Oper} {rest : List Oper} {o : Oper} {a : Act} {Q : Exit → Act → World → Prop} {w0 W : World} (base : Nat) (hgd : o.guard = none) (s x : Operand)
    (ho : o.op = .call { callee := .builtin .append, args := #[s, x], argTypes := #[31, 31] })
    (v : Value) (xs ys zs : List Int) (hzs : zs = xs ++ ys) (A : Option Addr) (m c : Nat) (hs : a.eval s = v) (hx : a.eval x = .slice A m c)
    (HO : W.ownsRow base 5 1 v xs.length (nums .u8 xs)) (HR : ReadsInt W .u8 A m ys) (HB : Below base w0 W) (hbase : base ≤ W.heap.size) (hl : xs.length + m ≤ 140737488355328)
    (h : ∀ A1 c1 w1, w1.ownsRow base 5 1 (.slice A1 zs.length c1) zs.length (nums .u8 zs) → Below base w0 w1 → wpList Try.prog ops Q rest (a.put o.dst (.slice A1 zs.length c1)) w1) :
    wpList Try.prog ops Q (o :: rest) a W := by
  refine wpList_plain hgd fun K hK => ?_
  obtain ⟨v1, w1, hr, hown, hg, _⟩ := run_append_opt (W := W) o.type base v xs ys A m c HO HR hbase hl
  subst hzs
  obtain ⟨A1, c1, rfl⟩ := own_slice hown
  unfold Oper.wp execOp
  simp only [ho, resolve, invoke, builtin, Sem.run_bind, Sem.run_pure, Result.andThen_ok, List.map_toArray, List.map_cons, List.map_nil, hs, hx, hr]
  exact hK _ _ (h A1 c1 w1 hown (HB.grown hg hbase (own_base HO)))
/-- Bytes of its own, and the text that they are. -/
def ConvEnd (w : World) (l : List Int) (e : Ending) (w' : World) : Prop :=
  ∃ A c, e = .returned (.slice A l.length c) ∧ (convert 31 9 (.slice A l.length c)).run Try.prog w' = .ok (.string (strOfNums l)) w' ∧ Hid (w'.ownsRow w.heap.size 5 1 (.slice A l.length c) l.length (nums .u8 l)) ∧ Hid (Below w.heap.size w w')
theorem conv_end {w w' : World} {l : List Int} {e : Ending} (h : BytesEnd w l e w') : ConvEnd w l e w' := by
  obtain ⟨v, rfl, ho, hb⟩ := h
  obtain ⟨A, c, rfl⟩ := own_slice ho
  exact ⟨A, c, rfl, own_string Try.underlying31 Try.underlying5 Try.underlying9 ho, Lib.hid ho, Lib.hid hb⟩

section
variable {P : Program} {l : List Oper} {Q : Exit → Act → World → Prop} {md : Region.Mode} {S S2 : World → Prop}
theorem takeL {i : Nat} {oi : Oper} {v : Value} {fuel : Nat} {listed : Array Bool} {a : Act} {w : World} (hi : l[i]? = some oi)
    (hs : Region.noSelect l.toArray = true) (hf : Region.free md l.toArray listed i = true) (hr : (Region.ready md l.toArray listed).contains i = true)
    (hQ : ∀ c a w, Q (.panic c) (a.put oi.dst v) w → Q (.panic c) a w) (hy : YieldsIf P l.toArray S oi v a) (hS : S w)
    (h : wpAnyH P md l.toArray Q S fuel (listed.setIfInBounds i true) (a.put oi.dst v) w) : wpAnyH P md l.toArray Q S (fuel + 1) listed a w :=
  wpAnyH_take (by simpa using hi) hs hf hr hQ hy hS h
theorem goL {i : Nat} {oi : Oper} {fuel : Nat} {listed : Array Bool} {a : Act} {w : World} (hi : l[i]? = some oi) (hr : Region.ready md l.toArray listed = [i])
    (h : ∀ K' : Act → World → Prop, Shut (∀ a w, S w → (S w → wpAnyH P md l.toArray Q S fuel (listed.setIfInBounds i true) a w) → K' a w) → if Region.wanted oi (yielded l.toArray a.tmps) = true then Oper.wp P oi a w K' Q else K' (a.put oi.dst undef) w) :
    wpAnyH P md l.toArray Q S (fuel + 1) listed a w :=
  wpAnyH_ready hr (by simp) (AllReadyH.cons (by simpa using hi) h AllReadyH.nil)
theorem startL {id : Nat} {a : Act} {w : World} (hm : P.follows .mixedOrders = true) (hS : S w.drew)
    (h : S w.drew → wpAnyH P .any l.toArray Q S l.length (List.replicate l.length false).toArray a w.drew) : (Code.region id l.toArray true).wp P Q a w :=
  wp_region_held_drew hm hS (by simpa using h)
/-- A stronger condition from here on. -/
theorem impL (hi : ∀ w, S2 w → S w) : ∀ (fuel : Nat) (listed : Array Bool) (a : Act) (w : World), wpAnyH P md l.toArray Q S2 fuel listed a w → wpAnyH P md l.toArray Q S fuel listed a w
  | 0, _, _, _, h => h
  | fuel + 1, _, _, _, h => ⟨h.1, fun i hj => wpOp_mono (fun a' w' h' => ⟨hi w' h'.1, impL hi fuel _ a' w' h'.2⟩) (h.2 i hj)⟩
end
theorem gen_post {P : Program} {c : Code} {K K2 : Act → World → Prop} {Q : Exit → Act → World → Prop} {n : Nat} {a : Act} {w : World} (h : ∀ K1, Code.wp P c (Exit.then K (Exit.inBlock n (Exit.then K1 Q))) a w) : Code.wp P c (Exit.then K (Exit.inBlock n (Exit.then K2 Q))) a w := h K2
set_option maxHeartbeats 8000000 in
set_option maxRecDepth 100000 in
theorem flowInC (A : Option Addr) (c : Nat) (l : List Int) (A1 : Option Addr) (c1 : Nat) (pk : List Int) (A2 : Option Addr) (c2 : Nat) (sk : List Int) (w : World) (hC : Kd.C (Kd.int .u8) w A l.length l) (hP : Kd.C (Kd.int .i64) w A1 pk.length pk) (hS : Kd.C (Kd.int .i64) w A2 sk.length sk) (hn : l.length ≤ 140737488351232) :
    Calls Try.prog 5 #[.slice A l.length c, .slice A1 pk.length c1, .slice A2 sk.length c2] w fun e w' => e = .returned (.bool true) ∧ Below w.heap.size w w' := by
  have HC := Lib.hid hC
  have HP := Lib.hid hP
  have HS := Lib.hid hS
  clear hC hP hS
  go_enter Try.func5, Try.ntmps5
  go_upto_region 2 with (at_builtin; refine wp_append_opt (w0 := w) w.heap.size rfl (.tmp 15) (.tmp 16) rfl (.slice (some ⟨w.heap.size, 0, none⟩) 0 0) [] l l rfl A l.length c rfl rfl (own_lit w w.heap.size 5 .u8 [] (Nat.le_refl _) (by simp)) (Kd.reads_of_C (enc := Value.int .u8) (d := (0 : Int)) (h1 := fun _ => rfl) (Kd.C_below HC.out (below_alloc (Below.refl _ _) _))) (below_alloc (Below.refl _ _) _) (by simp) (by simp; omega) ?_; intro A3 c3 w3 hown3 hb3; have HO3 := Lib.hid hown3; have HB3 := Lib.hid hb3; clear hown3 hb3)
  go_wp2_with fail
  refine (newInC A3 c3 l w3 (Kd.C_of_reads (d := (0 : Int)) (own_reads' HO3.out)) (by omega)).mono ?_
  rintro e w4 ⟨g1, A4, c4, rfl, hg4, ho4, hl4, hb4⟩
  have HG4 := Lib.hid hg4
  have HO4 := Lib.hid ho4
  have HL4 := Lib.hid hl4
  have HB4 := Lib.hid hb4
  clear hg4 ho4 hl4 hb4
  go_upto_region 4 with (at_builtin; refine wp_append_opt (w0 := w4) w4.heap.size rfl (.tmp 20) (.tmp 21) rfl (.slice (some ⟨w4.heap.size, 0, none⟩) 0 0) [] l l rfl A l.length c rfl rfl (own_lit w4 w4.heap.size 5 .u8 [] (Nat.le_refl _) (by simp)) (Kd.reads_of_C (enc := Value.int .u8) (d := (0 : Int)) (h1 := fun _ => rfl) (Kd.C_below HC.out (below_alloc (on HB3.out HB4.out) _))) (below_alloc (Below.refl _ _) _) (by simp) (by simp; omega) ?_; intro A5 c5 w5 hown5 hb5; have HO5 := Lib.hid hown5; have HB5 := Lib.hid hb5; clear hown5 hb5)
  have HE5 : Hid (Below w.heap.size w (w5.alloc (.cells #[.slice A5 l.length c5, .int .i64 0] 43))) := Lib.hid (below_alloc (on (on HB3.out HB4.out) HB5.out) _)
  have HI1 : Hid (InOne w (w5.alloc (.cells #[.slice A5 l.length c5, .int .i64 0] 43)) w3.heap.size g1 l 0) := by
    have hb : Below w4.heap.size w4 (w5.alloc (.cells #[.slice A5 l.length c5, .int .i64 0] 43)) := below_alloc HB5.out _
    exact Lib.hid ⟨A4, c4, blk_below HG4.out hb, pw_own_below HO4.out hb, HL4.out, Nat.zero_le _, by omega, HB3.out.size, HE5.out⟩
  have HI2 : Hid (InTwo (w5.alloc (.cells #[.slice A5 l.length c5, .int .i64 0] 43)) w3.heap.size w5.heap.size l 0 A5 c5) :=
    Lib.hid ⟨.slice A5 l.length c5, heap_alloc_new _ _, own_less (HO5.out.alloc _) HB4.out.size, fun W hW => Kd.C_of_reads (d := (0 : Int)) (own_reads' hW), own_cap HO5.out, own_capm HO5.out, Nat.le_trans HB4.out.size HB5.out.size, Nat.zero_le _⟩
  have HO6 : Hid ((w5.alloc (.cells #[.slice A5 l.length c5, .int .i64 0] 43)).ownsRow w.heap.size 5 1 (.slice A3 l.length c3) l.length (nums .u8 l)) :=
    Lib.hid (pw_own_below HO3.out (below_alloc (on HB4.out HB5.out) _))
  have HK3 : Hid (∀ k, (Value.slice A3 l.length c3).ownBlock = some k → k < w3.heap.size) := Lib.hid fun k hk => own_lt HO3.out k hk
  have HZ : Hid (w.heap.size ≤ w3.heap.size) := Lib.hid HB3.out.size
  clear HB3 HO3 HG4 HO4 HL4 HB4 HO5 HB5 HE5
  generalize w5.alloc (.cells #[.slice A5 l.length c5, .int .i64 0] 43) = w6 at *
  generalize w5.heap.size = g2 at *
  generalize w3.heap.size = b at *
  go_upto_block 0 with fail
  go_cut [10] (fun v wx => (∃ k : Nat, v = .int .i64 (k : Int)) ∧ Hid (InOne w wx b g1 l 0) ∧ Hid (InTwo wx b g2 l 0 A5 c5))
  case first =>
    go_wp2_with fail
    go_loopw [10] (fun i wr => ∃ (k : Nat) (ys : List Int), k ≤ l.length ∧ i = .int .i64 (k : Int) ∧ Hid (wr.ownsRow w.heap.size 5 1 (.slice A3 l.length c3) l.length (nums .u8 ys)) ∧ Hid (InOne w wr b g1 l 0) ∧ Hid (InTwo wr b g2 l 0 A5 c5)) (fun i _ => l.length - (intOf i).toNat)
    case atStart => exact ⟨0, l, Nat.zero_le _, rfl, HO6, HI1, HI2⟩
    case round =>
      obtain ⟨k, ys, hk, rfl, HOk, HJ1, HJ2⟩ := hrel
      clear HO6 HI1 HI2
      by_cases hlt : k < l.length
      · obtain ⟨gk, cap, he, hgb, hgl⟩ := HOk.out.form (by omega)
        injection he with he1 _ he3
        subst he1
        clear he3 hgl
        have Hgb := Lib.hid hgb
        clear hgb
        have Hlt : Hid (gk < b) := Lib.hid (HK3.out gk (by simp [Value.ownBlock]))
        obtain ⟨hcs, hfs⟩ := own_at HOk.out (k : Int) (by omega) (by omega)
        rw [Int.toNat_natCast] at hcs hfs
        obtain ⟨x, hx⟩ : ∃ x, x = rd ys (k : Int) := ⟨_, rfl⟩
        rw [← hx] at hcs
        clear hx
        have j0 : (0 : Int) ≤ (k : Int) := by omega
        have j1 : (k : Int) < (l.length : Int) := by omega
        go_wp2_with fail
        go_roundw
        case rel =>
          have hst := (own_store HOk.out (k : Int) (IntKind.u8.wrap (x + 1))).1
          rw [Int.toNat_natCast] at hst
          exact ⟨k + 1, _, by omega, by go_num, Lib.hid hst, Lib.hid (HJ1.out.low Hlt.out Hgb.out _ _), Lib.hid (HJ2.out.low Hlt.out _ _)⟩
        case measure => simp [intOf]; omega
      · go_wp2_with fail
        go_meet
        exact ⟨⟨k, rfl⟩, HJ1, HJ2⟩
  obtain ⟨⟨k0, rfl⟩, HJ1, HJ2⟩ := hcut
  clear HO6 HI1 HI2 HK3 HZ
  go_wp2_with fail
  go_loopw [11] (fun i wr => ∃ (k x : Nat) (B : Option Addr) (d : Nat), k ≤ sk.length ∧ i = .int .i64 (k : Int) ∧ x ≤ l.length ∧ Hid (InOne w wr b g1 l x) ∧ Hid (InTwo wr b g2 l x B d)) (fun i _ => sk.length - (intOf i).toNat)
  case atStart => exact ⟨0, 0, A5, c5, Nat.zero_le _, rfl, Nat.zero_le _, HJ1, HJ2⟩
  case round =>
    obtain ⟨q, x, B, d, hq, rfl, hx, H1, H2⟩ := hrel
    clear HJ1 HJ2
    by_cases hqq : q < sk.length ∧ q < 60
    · obtain ⟨hq1, hq2⟩ := hqq
      go_upto_region 11 with fail
      go_cut [46] (fun v wx => v = .bool true ∧ wr = wx)
      case first =>
        go_wp2_with fail
        go_meet
        exact ⟨congrArg Value.bool (decide_eq_true (by omega)), rfl⟩
      obtain ⟨rfl, rfl⟩ := hcut
      obtain ⟨a2, rfl, hs2⟩ := Kd.at_int HS.out (q : Int) (by omega) (by omega)
      rw [Int.toNat_natCast] at hs2
      obtain ⟨n, hnn⟩ : ∃ n, n = rd sk (q : Int) := ⟨_, rfl⟩
      rw [← hnn] at hs2
      have HS2 := Lib.hid hs2
      clear hs2 hnn
      have hcs : wr.cell? (a2.add q) = some (.int .i64 n) := pw_cell_below H1.out.bel HS2.out
      have j0 : (0 : Int) ≤ (q : Int) := by omega
      have j1 : (q : Int) < (sk.length : Int) := by omega
      go_upto_if 56 with fail
      go_cut [12] (fun v wx => ∃ nn, v = .int .i64 nn ∧ wr = wx)
      case first =>
        by_cases hp : q < pk.length
        · obtain ⟨a1, rfl, hp1⟩ := Kd.at_int (Kd.C_below HP.out H1.out.bel) (q : Int) (by omega) (by omega)
          rw [Int.toNat_natCast] at hp1
          have j2 : (q : Int) < (pk.length : Int) := by omega
          go_wp2_with fail
          go_meet
          exact ⟨_, rfl, rfl⟩
        · go_wp2_with fail
          go_meet
          exact ⟨_, rfl, rfl⟩
      obtain ⟨nn, rfl, rfl⟩ := hcut
      obtain ⟨j, hj⟩ : ∃ j : Nat, (j : Int) = min (max nn 0) ((l.length : Int) - (x : Int)) := ⟨(min (max nn 0) ((l.length : Int) - (x : Int))).toNat, by omega⟩
      have HJ := Lib.hid hj
      clear hj
      obtain ⟨xs, hxs⟩ : ∃ xs, xs = (l.drop x).take j := ⟨_, rfl⟩
      have HXS := Lib.hid hxs
      clear hxs
      have hpk := fun h => (peek_in H1.out nn j h).mono fun e w' h' => conv_end h'
      have hrk := fun (W : World) (h : InTwo W b g2 l x B d) => (rpeek_in h (by omega) nn j HJ.out).mono fun e w' h' => conv_end h'
      rw [← HXS.out] at hpk
      rw [← HXS.out] at hrk
      have HPK := Lib.hid hpk
      have HRK := Lib.hid hrk
      clear hpk hrk
      go_wp2_with fail
      refine (HPK.out HJ.out).mono ?_
      rintro e w7 ⟨A7, c7, rfl, hcv7, HO7, HB7⟩
      have HCV : Hid (∀ W, Below w7.heap.size w7 W → (convert 31 9 (.slice A7 xs.length c7)).run Try.prog W = .ok (.string (strOfNums xs)) W) := Lib.hid fun W hW => own_string Try.underlying31 Try.underlying5 Try.underlying9 (pw_own_below HO7.out hW)
      have H2d : Hid (InTwo w7.drew b g2 l x B d) := Lib.hid (H2.out.below HB7.out).drew
      clear hcv7
      go_upto_region 17 with fail
      go_cut [70] (fun v wx => v = .bool false ∧ Hid (wx.ownsRow wr.heap.size 5 1 (.slice A7 xs.length c7) xs.length (nums .u8 xs)) ∧ Hid (Below wr.heap.size wr wx))
      case first =>
        have hd7 := HCV.out w7.drew (below_drew (Below.refl _ _))
        go_region_with (first
          | (go_at_call 22; refine (HRK.out _ H2d.out).mono ?_; rintro e w8 ⟨A8, c8, rfl, hcv8, HO8, HB8⟩; have hd8 := HCV.out w8 (on (below_drew (Below.refl _ _)) HB8.out))
          | fail)
        all_goals
          go_wp2_with fail
          go_meet
          exact ⟨rfl, Lib.hid (pw_own_below (show w7.drew.ownsRow _ _ _ _ _ _ from HO7.out) HB8.out), Lib.hid (on (below_drew HB7.out) HB8.out)⟩
      obtain ⟨rfl, HO9, HB9⟩ := hcut
      have hxs : xs.length ≤ l.length := by rw [HXS.out, List.length_take, List.length_drop]; omega
      clear HCV H2d HO7 HB7 HPK HRK HJ HXS hcs
      go_upto_block 4 with fail
      go_cut [14] (fun v wx => (∃ m : Nat, v = .int .i64 (m : Int)) ∧ Hid (InOne w wx b g1 l x) ∧ Hid (InTwo wx b g2 l x B d))
      case first =>
        obtain ⟨wp, rfl⟩ : ∃ wp : World, wp = wr := ⟨_, rfl⟩
        go_wp2_with fail
        go_loopw [14] (fun i wk => ∃ (j : Nat) (ys : List Int), j ≤ xs.length ∧ i = .int .i64 (j : Int) ∧ Hid (wk.ownsRow wp.heap.size 5 1 (.slice A7 xs.length c7) xs.length (nums .u8 ys)) ∧ Hid (Below wp.heap.size wp wk)) (fun i _ => xs.length - (intOf i).toNat)
        case atStart => exact ⟨0, xs, Nat.zero_le _, rfl, HO9, HB9⟩
        case round =>
          obtain ⟨j, ys, hj, rfl, HOj, HBj⟩ := hrel
          clear HO9 HB9
          by_cases hjn : j < xs.length
          · obtain ⟨g, cap, he, hgb, hgl⟩ := HOj.out.form (by omega)
            injection he with he1 _ he3
            subst he1
            clear he3 hgl
            have Hgb := Lib.hid hgb
            clear hgb
            obtain ⟨hcs, hfs⟩ := own_at HOj.out (j : Int) (by omega) (by omega)
            rw [Int.toNat_natCast] at hcs hfs
            obtain ⟨y, hy⟩ : ∃ y, y = rd ys (j : Int) := ⟨_, rfl⟩
            rw [← hy] at hcs
            clear hy
            have j0 : (0 : Int) ≤ (j : Int) := by omega
            have j1 : (j : Int) < (xs.length : Int) := by omega
            go_wp2_with fail
            go_roundw
            case rel =>
              have hst := (own_store HOj.out (j : Int) (IntKind.u8.wrap (y + 1))).1
              rw [Int.toNat_natCast] at hst
              exact ⟨j + 1, _, by omega, by go_num, Lib.hid hst, Lib.hid (HBj.out.setCell Hgb.out _)⟩
            case measure => simp [intOf]; omega
          · go_wp2_with fail
            go_meet
            exact ⟨⟨j, rfl⟩, Lib.hid (H1.out.below HBj.out), Lib.hid (H2.out.below HBj.out)⟩
      obtain ⟨⟨j, rfl⟩, K1, K2⟩ := hcut
      have hcq : wc.cell? (a2.add q) = some (.int .i64 n) := pw_cell_below K1.out.bel HS2.out
      clear H1 H2 HO9 HB9
      go_upto_region 23 with fail
      go_cut [114] (fun v wx => v = .bool false ∧ ∃ (x' : Nat) (B' : Option Addr) (d' : Nat), x' ≤ l.length ∧ Hid (InOne w wx b g1 l x') ∧ Hid (InTwo wx b g2 l x' B' d'))
      case first =>
        have KD1 := Lib.hid K1.out.drew
        have KD2 := Lib.hid K2.out.drew
        by_cases hno : n < 0 ∨ (l.length : Int) - (x : Int) < n
        · have HNO := Lib.hid hno
          obtain ⟨r, hr⟩ : ∃ r, r = l.length - x := ⟨_, rfl⟩
          have hc0 : wc.cell? ⟨g2, 0, none⟩ = some (.slice B r d) := by rw [hr]; exact K2.out.cells.1
          have hc1 : wc.cell? ⟨g2, 1, none⟩ = some (.int .i64 (x : Int)) := K2.out.cells.2.1
          have HN1 : Hid (∀ m, InOne w (wc.drewN m) b g1 l x) := Lib.hid fun m => K1.out.drewN m
          have HN2 : Hid (∀ m, InTwo (wc.drewN m) b g2 l x B d) := Lib.hid fun m => K2.out.drewN m
          have HLF : Hid (∀ W, InOne w W b g1 l x → Calls Try.prog 25 #[.pointer (some ⟨g1, 0, none⟩)] W fun e w' => e = .returned (.int .i64 (r : Int)) ∧ ∃ m, w' = W.drewN m) := Lib.hid fun W h => by rw [hr]; exact left_in h
          clear hno hr
          go_quiet (first
            | (go_at_call 23; exact Calls.quiet_of (skip_in_no (HN1.out _) n HNO.out))
            | (go_at_call 24; exact Calls.quiet_of (rskip_in_no (HN2.out _) n HNO.out))
            | (go_at_call 25; exact Calls.quiet_of (HLF.out _ (HN1.out _)))
            | (go_at_call 26; exact Calls.quiet_of (at_in (HN1.out _))))
          all_goals
            go_wp2_with fail
            go_meet
            exact ⟨rfl, x, B, d, hx, Lib.hid (HN1.out _), Lib.hid (HN2.out _)⟩
        · obtain ⟨kk, rfl⟩ : ∃ kk : Nat, n = (kk : Int) := ⟨n.toNat, by omega⟩
          obtain ⟨x1, hx1⟩ : ∃ x1, x1 = x + kk := ⟨_, rfl⟩
          have hxl : x1 ≤ l.length := by omega
          have HXL : Hid (x + kk ≤ l.length) := Lib.hid (by omega)
          obtain ⟨r, hr⟩ : ∃ r, r = l.length - x1 := ⟨_, rfl⟩
          have HSK : Hid (Calls Try.prog 23 #[.pointer (some ⟨g1, 0, none⟩), .int .i64 kk] wc.drew fun e w' => e = .returned (.bool true) ∧ InOne w w' b g1 l x1 ∧ InTwo w' b g2 l x B d) := Lib.hid (by rw [hx1]; exact skip_in KD1.out KD2.out kk HXL.out)
          have HRS : Hid (∀ W, InOne w W b g1 l x1 → InTwo W b g2 l x B d → Calls Try.prog 24 #[.pointer (some ⟨g2, 0, none⟩), .int .i64 kk] W fun e w' => ∃ B' d', e = .returned (.bool true) ∧ w'.cell? ⟨g2, 0, none⟩ = some (.slice B' r d') ∧ w'.cell? ⟨g2, 1, none⟩ = some (.int .i64 (x1 : Int)) ∧ InOne w w' b g1 l x1 ∧ InTwo w' b g2 l x1 B' d') := Lib.hid (fun W h h' => by
            refine (rskip_in h h' kk HXL.out).mono ?_
            rintro e w' ⟨B', d', he, k1, k2⟩
            rw [← hx1] at k2
            exact ⟨B', d', he, by rw [hr]; exact k2.cells.1, k2.cells.2.1, k1, k2⟩)
          have HLF : Hid (∀ W, InOne w W b g1 l x1 → Calls Try.prog 25 #[.pointer (some ⟨g1, 0, none⟩)] W fun e w' => e = .returned (.int .i64 (r : Int)) ∧ ∃ m, w' = W.drewN m) := Lib.hid fun W h => by rw [hr]; exact left_in h
          have HXL2 := Lib.hid hxl
          clear hno hr hx1 hxl KD1 KD2 K1 K2 HC HP HS hn
          refine gen_post fun K1 => ?_
          rename_i J9 K9 hJ9 hK9
          clear hq hx hq1 hq2 hxs HXL
          repeat (rename_i z; clear z)
          try rename_i q1
          repeat (rename_i z; clear z)
          try rename_i q2
          repeat (rename_i z; clear z)
          refine startL (S := fun w' => w'.cell? (a2.add q) = some (.int .i64 (kk : Int))) (by kernel_rfl) (hcq) (fun hHeld => ?_)
          refine takeL (i := 0) (v := ?_) rfl (by kernel_rfl) (by kernel_rfl) (by kernel_rfl) (fun _ _ _ h => h) (Or.inl ⟨by rfl, ?_⟩) (by assumption) ?_
          rotate_left
          · intro w hSw
            (try dsimp only at hSw)
            go_simp
            try with_reducible rfl
          simp only [Act.put, List.setIfInBounds_toArray, List.set_cons_zero, List.set_cons_succ]
          refine takeL (i := 1) (v := ?_) rfl (by kernel_rfl) (by kernel_rfl) (by kernel_rfl) (fun _ _ _ h => h) (Or.inl ⟨by rfl, ?_⟩) (by assumption) ?_
          rotate_left
          · intro w hSw
            (try dsimp only at hSw)
            go_simp
            try with_reducible rfl
          simp only [Act.put, List.setIfInBounds_toArray, List.set_cons_zero, List.set_cons_succ]
          refine takeL (i := 2) (v := ?_) rfl (by kernel_rfl) (by kernel_rfl) (by kernel_rfl) (fun _ _ _ h => h) (Or.inl ⟨by rfl, ?_⟩) (by assumption) ?_
          rotate_left
          · intro w hSw
            (try dsimp only at hSw)
            go_simp
            try with_reducible rfl
          simp only [Act.put, List.setIfInBounds_toArray, List.set_cons_zero, List.set_cons_succ]
          refine takeL (i := 3) (v := ?_) rfl (by kernel_rfl) (by kernel_rfl) (by kernel_rfl) (fun _ _ _ h => h) (Or.inl ⟨by rfl, ?_⟩) (by assumption) ?_
          rotate_left
          · intro w hSw
            (try dsimp only at hSw)
            go_simp
            try with_reducible rfl
          simp only [Act.put, List.setIfInBounds_toArray, List.set_cons_zero, List.set_cons_succ]
          refine takeL (i := 4) (v := ?_) rfl (by kernel_rfl) (by kernel_rfl) (by kernel_rfl) (fun _ _ _ h => h) (Or.inl ⟨by rfl, ?_⟩) (by assumption) ?_
          rotate_left
          · intro w hSw
            (try dsimp only at hSw)
            go_simp
            try with_reducible rfl
          simp only [Act.put, List.setIfInBounds_toArray, List.set_cons_zero, List.set_cons_succ]
          refine takeL (i := 6) (v := ?_) rfl (by kernel_rfl) (by kernel_rfl) (by kernel_rfl) (fun _ _ _ h => h) (Or.inl ⟨by rfl, ?_⟩) (by assumption) ?_
          rotate_left
          · intro w hSw
            (try dsimp only at hSw)
            go_simp
            try with_reducible rfl
          simp only [Act.put, List.setIfInBounds_toArray, List.set_cons_zero, List.set_cons_succ]
          refine takeL (i := 7) (v := ?_) rfl (by kernel_rfl) (by kernel_rfl) (by kernel_rfl) (fun _ _ _ h => h) (Or.inl ⟨by rfl, ?_⟩) (by assumption) ?_
          rotate_left
          · intro w hSw
            (try dsimp only at hSw)
            go_simp
            try with_reducible rfl
          simp only [Act.put, List.setIfInBounds_toArray, List.set_cons_zero, List.set_cons_succ]
          refine takeL (i := 8) (v := ?_) rfl (by kernel_rfl) (by kernel_rfl) (by kernel_rfl) (fun _ _ _ h => h) (Or.inl ⟨by rfl, ?_⟩) (by assumption) ?_
          rotate_left
          · intro w hSw
            (try dsimp only at hSw)
            go_simp
            try with_reducible rfl
          simp only [Act.put, List.setIfInBounds_toArray, List.set_cons_zero, List.set_cons_succ]
          refine takeL (i := 9) (v := ?_) rfl (by kernel_rfl) (by kernel_rfl) (by kernel_rfl) (fun _ _ _ h => h) (Or.inl ⟨by rfl, ?_⟩) (by assumption) ?_
          rotate_left
          · intro w hSw
            (try dsimp only at hSw)
            go_simp
            try with_reducible rfl
          simp only [Act.put, List.setIfInBounds_toArray, List.set_cons_zero, List.set_cons_succ]
          refine takeL (i := 10) (v := ?_) rfl (by kernel_rfl) (by kernel_rfl) (by kernel_rfl) (fun _ _ _ h => h) (Or.inl ⟨by rfl, ?_⟩) (by assumption) ?_
          rotate_left
          · intro w hSw
            (try dsimp only at hSw)
            go_simp
            try with_reducible rfl
          simp only [Act.put, List.setIfInBounds_toArray, List.set_cons_zero, List.set_cons_succ]
          refine goL (i := 5) rfl (by kernel_rfl) (fun K hK => ?_)
          go_simp
          with_reducible refine HSK.out.mono ?_
          rintro e wa ⟨rfl, k1, k2⟩
          have M1 := Lib.hid k1
          have M2 := Lib.hid k2
          clear k1 k2
          refine hK.out _ _ (pw_cell_below M1.out.bel HS2.out) (fun hHeld => ?_)
          clear hK K
          simp only [Act.put, List.setIfInBounds_toArray, List.set_cons_zero, List.set_cons_succ]
          refine goL (i := 11) rfl (by kernel_rfl) (fun K hK => ?_)
          go_simp
          with_reducible refine (HRS.out _ M1.out M2.out).mono ?_
          rintro e wb ⟨B', d', rfl, hc0, hc1, k1, k2⟩
          have N1 : Hid (∀ m, InOne w (wb.drewN m) b g1 l x1) := Lib.hid fun m => k1.drewN m
          have N2 : Hid (∀ m, InTwo (wb.drewN m) b g2 l x1 B' d') := Lib.hid fun m => k2.drewN m
          have N3 := Lib.hid k1
          clear k1 k2
          refine hK.out _ _ (pw_cell_below N3.out.bel HS2.out) (fun hHeld => ?_)
          clear hK K
          simp only [Act.put, List.setIfInBounds_toArray, List.set_cons_zero, List.set_cons_succ]
          have hHeld2 : wb.cell? (a2.add q) = some (.int .i64 (kk : Int)) ∧ wb.cell? ⟨g2, 0, none⟩ = some (.slice B' r d') ∧ wb.cell? ⟨g2, 1, none⟩ = some (.int .i64 (x1 : Int)) := ⟨hHeld, hc0, hc1⟩
          refine impL (S2 := fun w' => w'.cell? (a2.add q) = some (.int .i64 (kk : Int)) ∧ w'.cell? ⟨g2, 0, none⟩ = some (.slice B' r d') ∧ w'.cell? ⟨g2, 1, none⟩ = some (.int .i64 (x1 : Int))) (fun _ h => h.1) _ _ _ _ ?_
          clear hHeld
          refine takeL (i := 12) (v := ?_) rfl (by kernel_rfl) (by kernel_rfl) (by kernel_rfl) (fun _ _ _ h => h) (Or.inl ⟨by rfl, ?_⟩) (by assumption) ?_
          rotate_left
          · intro w hSw
            (try dsimp only at hSw)
            go_simp
            try with_reducible rfl
          simp only [Act.put, List.setIfInBounds_toArray, List.set_cons_zero, List.set_cons_succ]
          refine takeL (i := 13) (v := ?_) rfl (by kernel_rfl) (by kernel_rfl) (by kernel_rfl) (fun _ _ _ h => h) (Or.inl ⟨by rfl, ?_⟩) (by assumption) ?_
          rotate_left
          · intro w hSw
            (try dsimp only at hSw)
            go_simp
            try with_reducible rfl
          simp only [Act.put, List.setIfInBounds_toArray, List.set_cons_zero, List.set_cons_succ]
          refine takeL (i := 14) (v := ?_) rfl (by kernel_rfl) (by kernel_rfl) (by kernel_rfl) (fun _ _ _ h => h) (Or.inl ⟨by rfl, ?_⟩) (by assumption) ?_
          rotate_left
          · intro w hSw
            (try dsimp only at hSw)
            go_simp
            try with_reducible rfl
          simp only [Act.put, List.setIfInBounds_toArray, List.set_cons_zero, List.set_cons_succ]
          refine takeL (i := 16) (v := ?_) rfl (by kernel_rfl) (by kernel_rfl) (by kernel_rfl) (fun _ _ _ h => h) (Or.inl ⟨by rfl, ?_⟩) (by assumption) ?_
          rotate_left
          · intro w hSw
            (try dsimp only at hSw)
            go_simp
            try with_reducible rfl
          simp only [Act.put, List.setIfInBounds_toArray, List.set_cons_zero, List.set_cons_succ]
          refine takeL (i := 17) (v := ?_) rfl (by kernel_rfl) (by kernel_rfl) (by kernel_rfl) (fun _ _ _ h => h) (Or.inl ⟨by rfl, ?_⟩) (by assumption) ?_
          rotate_left
          · intro w hSw
            (try dsimp only at hSw)
            go_simp
            try with_reducible rfl
          simp only [Act.put, List.setIfInBounds_toArray, List.set_cons_zero, List.set_cons_succ]
          refine takeL (i := 18) (v := ?_) rfl (by kernel_rfl) (by kernel_rfl) (by kernel_rfl) (fun _ _ _ h => h) (Or.inl ⟨by rfl, ?_⟩) (by assumption) ?_
          rotate_left
          · intro w hSw
            (try dsimp only at hSw)
            go_simp
            try with_reducible rfl
          simp only [Act.put, List.setIfInBounds_toArray, List.set_cons_zero, List.set_cons_succ]
          refine takeL (i := 19) (v := ?_) rfl (by kernel_rfl) (by kernel_rfl) (by kernel_rfl) (fun _ _ _ h => h) (Or.inl ⟨by rfl, ?_⟩) (by assumption) ?_
          rotate_left
          · intro w hSw
            (try dsimp only at hSw)
            go_simp
            try with_reducible rfl
          simp only [Act.put, List.setIfInBounds_toArray, List.set_cons_zero, List.set_cons_succ]
          refine takeL (i := 20) (v := ?_) rfl (by kernel_rfl) (by kernel_rfl) (by kernel_rfl) (fun _ _ _ h => h) (Or.inl ⟨by rfl, ?_⟩) (by assumption) ?_
          rotate_left
          · intro w hSw
            (try dsimp only at hSw)
            go_simp
            try with_reducible rfl
          simp only [Act.put, List.setIfInBounds_toArray, List.set_cons_zero, List.set_cons_succ]
          refine goL (i := 15) rfl (by kernel_rfl) (fun K hK => ?_)
          go_simp
          with_reducible refine (HLF.out _ N3.out).mono ?_
          rintro e wa ⟨rfl, m, rfl⟩
          refine hK.out _ _ (hHeld2) (fun hHeld => ?_)
          clear hK K
          simp only [Act.put, List.setIfInBounds_toArray, List.set_cons_zero, List.set_cons_succ]
          refine takeL (i := 21) (v := ?_) rfl (by kernel_rfl) (by kernel_rfl) (by kernel_rfl) (fun _ _ _ h => h) (Or.inl ⟨by rfl, ?_⟩) (by assumption) ?_
          rotate_left
          · intro w hSw
            (try dsimp only at hSw)
            go_simp
            try with_reducible rfl
          simp only [Act.put, List.setIfInBounds_toArray, List.set_cons_zero, List.set_cons_succ]
          refine takeL (i := 22) (v := ?_) rfl (by kernel_rfl) (by kernel_rfl) (by kernel_rfl) (fun _ _ _ h => h) (Or.inl ⟨by rfl, ?_⟩) (by assumption) ?_
          rotate_left
          · intro w hSw
            (try dsimp only at hSw)
            go_simp
            try with_reducible rfl
          simp only [Act.put, List.setIfInBounds_toArray, List.set_cons_zero, List.set_cons_succ]
          refine takeL (i := 23) (v := ?_) rfl (by kernel_rfl) (by kernel_rfl) (by kernel_rfl) (fun _ _ _ h => h) (Or.inl ⟨by rfl, ?_⟩) (by assumption) ?_
          rotate_left
          · intro w hSw
            (try dsimp only at hSw)
            go_simp
            try with_reducible rfl
          simp only [Act.put, List.setIfInBounds_toArray, List.set_cons_zero, List.set_cons_succ]
          refine takeL (i := 24) (v := ?_) rfl (by kernel_rfl) (by kernel_rfl) (by kernel_rfl) (fun _ _ _ h => h) (Or.inl ⟨by rfl, ?_⟩) (by assumption) ?_
          rotate_left
          · intro w hSw
            (try dsimp only at hSw)
            go_simp
            try with_reducible rfl
          simp only [Act.put, List.setIfInBounds_toArray, List.set_cons_zero, List.set_cons_succ]
          refine takeL (i := 26) (v := ?_) rfl (by kernel_rfl) (by kernel_rfl) (by kernel_rfl) (fun _ _ _ h => h) (Or.inl ⟨by rfl, ?_⟩) (by assumption) ?_
          rotate_left
          · intro w hSw
            (try dsimp only at hSw)
            go_simp
            try with_reducible rfl
          simp only [Act.put, List.setIfInBounds_toArray, List.set_cons_zero, List.set_cons_succ]
          refine takeL (i := 27) (v := ?_) rfl (by kernel_rfl) (by kernel_rfl) (by kernel_rfl) (fun _ _ _ h => h) (Or.inl ⟨by rfl, ?_⟩) (by assumption) ?_
          rotate_left
          · intro w hSw
            (try dsimp only at hSw)
            go_simp
            try with_reducible rfl
          simp only [Act.put, List.setIfInBounds_toArray, List.set_cons_zero, List.set_cons_succ]
          refine takeL (i := 28) (v := ?_) rfl (by kernel_rfl) (by kernel_rfl) (by kernel_rfl) (fun _ _ _ h => h) (Or.inl ⟨by rfl, ?_⟩) (by assumption) ?_
          rotate_left
          · intro w hSw
            (try dsimp only at hSw)
            go_simp
            try with_reducible rfl
          simp only [Act.put, List.setIfInBounds_toArray, List.set_cons_zero, List.set_cons_succ]
          refine takeL (i := 29) (v := ?_) rfl (by kernel_rfl) (by kernel_rfl) (by kernel_rfl) (fun _ _ _ h => h) (Or.inl ⟨by rfl, ?_⟩) (by assumption) ?_
          rotate_left
          · intro w hSw
            (try dsimp only at hSw)
            go_simp
            try with_reducible rfl
          simp only [Act.put, List.setIfInBounds_toArray, List.set_cons_zero, List.set_cons_succ]
          refine goL (i := 25) rfl (by kernel_rfl) (fun K hK => ?_)
          go_simp
          with_reducible refine (at_in (N1.out _)).mono ?_
          rintro e wa ⟨rfl, m, rfl⟩
          refine hK.out _ _ (hHeld2) (fun hHeld => ?_)
          clear hK K
          simp only [Act.put, List.setIfInBounds_toArray, List.set_cons_zero, List.set_cons_succ]
          refine takeL (i := 30) (v := ?_) rfl (by kernel_rfl) (by kernel_rfl) (by kernel_rfl) (fun _ _ _ h => h) (Or.inl ⟨by rfl, ?_⟩) (by assumption) ?_
          rotate_left
          · intro w hSw
            (try dsimp only at hSw)
            go_simp
            try with_reducible rfl
          simp only [Act.put, List.setIfInBounds_toArray, List.set_cons_zero, List.set_cons_succ]
          refine takeL (i := 31) (v := ?_) rfl (by kernel_rfl) (by kernel_rfl) (by kernel_rfl) (fun _ _ _ h => h) (Or.inl ⟨by rfl, ?_⟩) (by assumption) ?_
          rotate_left
          · intro w hSw
            (try dsimp only at hSw)
            go_simp
            try with_reducible rfl
          simp only [Act.put, List.setIfInBounds_toArray, List.set_cons_zero, List.set_cons_succ]
          refine wpAnyH_done (by kernel_rfl) ?_ _

          go_wp2_with fail
          go_meet
          exact ⟨rfl, x1, B', d', HXL2.out, Lib.hid ((N1.out _).drewN _), Lib.hid ((N2.out _).drewN _)⟩
      obtain ⟨rfl, x', B', d', hx', K1', K2'⟩ := hcut
      clear K1 K2 hcq
      go_wp2_with fail
      go_roundw
      case rel => exact ⟨q + 1, x', B', d', by omega, by go_num, hx', K1', K2'⟩
      case measure => simp [intOf]; omega
    · go_upto_region 11 with fail
      go_cut [46] (fun v wx => v = .bool false ∧ wr = wx)
      case first =>
        by_cases hk1 : q < sk.length
        · have hk2 : 60 ≤ q := by omega
          go_wp2_with fail
          go_meet
          exact ⟨congrArg Value.bool (decide_eq_false (by omega)), rfl⟩
        · go_wp2_with fail
          go_meet
          exact ⟨rfl, rfl⟩
      obtain ⟨rfl, rfl⟩ := hcut
      go_wp2_with fail
      obtain ⟨hB0, hB1, hBC⟩ := H2.out.cells
      obtain ⟨r, hr⟩ : ∃ r, r = l.length - x := ⟨_, rfl⟩
      obtain ⟨xs, hxs⟩ : ∃ xs, xs = l.drop x := ⟨_, rfl⟩
      have hrl : xs.length = r := by rw [hxs, List.length_drop, hr]
      have HR : Hid (xs.length = r) := Lib.hid hrl
      rw [← hr] at hB0
      have hpk := (peek_in H1.out.drew (l.length : Int) r (by omega)).mono fun e w' h' => conv_end h'
      rw [← hxs, ← hrl, List.take_length] at hpk
      have HPK := Lib.hid hpk
      have HBC : Hid (∀ W, InTwo W b g2 l x B d → (convert 31 9 (.slice B r d)).run Try.prog W = .ok (.string (strOfNums xs)) W) := Lib.hid fun W hW => by
        have h := hW.cells.2.2
        rw [← hr, ← hxs] at h
        exact Kd.C_string Try.underlying31 Try.underlying5 Try.underlying9 h
      have hcd := HBC.out _ H2.out.drew
      clear hpk hrl hr hxs hB1 hBC
      go_region_with (first
        | (go_at_call 21; (with_reducible refine HPK.out.mono ?_); rintro e w8 ⟨A8, c8, rfl, hcv8, HO8, HB8⟩; have hb8 : w8.cell? ⟨g2, 0, none⟩ = some (.slice B r d) := pw_cell_below HB8.out hB0; have hcd8 := HBC.out _ (H2.out.drew.below HB8.out))
        | fail)
      all_goals
        go_wp2_with fail
        go_ret
        exact ⟨rfl, on (below_drew H1.out.bel) HB8.out⟩
end Go.Proofs.Ytadhfojgifhjcaa.Fl
