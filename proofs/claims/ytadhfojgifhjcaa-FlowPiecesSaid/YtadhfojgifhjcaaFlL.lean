/- FlowOut, walked. -/
import Derived.Test.YtadhfojgifhjcaaFlO
namespace Go.Proofs.Ytadhfojgifhjcaa.Fl
open Go.RowKit Go.Proofs.YtadhfojgifhjcaaW.PrintWords Go.Proofs.YtadhfojgifhjcaaW.PrintLast Go.Proofs.YtadhfojgifhjcaaW.PrintMore
attribute [local go_sem] max_two min_two
set_option linter.unusedVariables false
def tot (ss : List ByteArray) : Nat := (ss.map ByteArray.size).sum
theorem tot_take (ss : List ByteArray) (k : Nat) (hk : k < ss.length) : tot (ss.take (k + 1)) = tot (ss.take k) + (rdOf ByteArray.empty ss (k : Int)).size := by
  unfold tot rdOf
  rw [List.take_succ_eq_append_getElem hk]
  rw [List.map_append, List.sum_append]
  simp [List.getElem?_eq_getElem hk, List.getD_eq_getElem?_getD]
theorem tot_le (ss : List ByteArray) (k : Nat) : tot (ss.take k) ≤ tot ss := by
  unfold tot
  conv => rhs; rw [← List.take_append_drop k ss]
  rw [List.map_append, List.sum_append]
  omega
theorem put_two {w w1 : World} {g t g' t' base : Nat} {v v' : Value} {x x' y : Int} {l l' zs : List Int} {e : Ending} {r : Bool} (hA : Buf w g t base v x l) (hB : Buf w g' t' base v' x' l') (hg : g ≠ g') (hne : v.ownBlock = none ∨ v.ownBlock ≠ v'.ownBlock) (h5 : 5 ≠ t) (h5' : 5 ≠ t') (hP : PutEnd w g t base v y zs r e w1) :
    e = .returned (.bool r) ∧ ∃ v1, Buf w1 g t base v1 y zs ∧ Buf w1 g' t' base v' x' l' ∧ (v1.ownBlock = none ∨ v1.ownBlock ≠ v'.ownBlock) ∧ (v'.ownBlock = none ∨ v'.ownBlock ≠ v1.ownBlock) ∧ Below base w w1 := by
  obtain ⟨rfl, v1, h1, hk, hb, ho⟩ := hP
  have hne' : v'.ownBlock = none ∨ v'.ownBlock ≠ v.ownBlock := by
    rcases hne with h | h
    · rw [h]
      cases v'.ownBlock <;> simp
    · exact .inr (Ne.symm h)
  have hvg : v'.ownBlock ≠ some g := by
    intro he
    obtain ⟨cells, hc⟩ := own_typed hB.2 g he
    rw [hA.1] at hc
    injection hc with hc
    injection hc with _ hc
    exact h5 hc.symm
  have hg'v : some g' ≠ v.ownBlock := by
    intro he
    obtain ⟨cells, hc⟩ := own_typed hA.2 g' he.symm
    rw [hB.1] at hc
    injection hc with hc
    injection hc with _ hc
    exact h5' hc.symm
  have hfin : v1.ownBlock = none ∨ v1.ownBlock ≠ v'.ownBlock := by
    rcases ho with h | ⟨b, h, hz⟩
    · rw [h]; exact hne
    · refine .inr fun he => ?_
      have := own_lt hB.2 b (by rw [← he, h])
      omega
  refine ⟨rfl, v1, h1, ⟨hk.blk hB.1 (Ne.symm hg) hg'v, hk.own hB.2 hvg hne'⟩, hfin, ?_, hb⟩
  rcases hfin with h | h
  · rw [h]
    cases v'.ownBlock <;> simp
  · exact .inr (Ne.symm h)
/-- Both outputs, whose rows differ. -/
def OutRel (w wr : World) (g1 g2 : Nat) (R R2 : Int) (l l2 : List Int) : Prop :=
  ∃ v1 v2, Buf wr g1 66 w.heap.size v1 R l ∧ Buf wr g2 33 w.heap.size v2 R2 l2 ∧ (v1.ownBlock = none ∨ v1.ownBlock ≠ v2.ownBlock) ∧ (v2.ownBlock = none ∨ v2.ownBlock ≠ v1.ownBlock) ∧ g1 ≠ g2 ∧ w.heap.size ≤ g1 ∧ w.heap.size ≤ g2 ∧ Below w.heap.size w wr
theorem OutRel.drewN {w wr : World} {g1 g2 : Nat} {R R2 : Int} {l l2 : List Int} (h : OutRel w wr g1 g2 R R2 l l2) (m : Nat) : OutRel w (wr.drewN m) g1 g2 R R2 l l2 := by
  obtain ⟨v1, v2, h1, h2, h3, h4, h5, h6, h7, h8⟩ := h
  exact ⟨v1, v2, h1, h2, h3, h4, h5, h6, h7, pw_below_drewN h8 m⟩
theorem OutRel.drew {w wr : World} {g1 g2 : Nat} {R R2 : Int} {l l2 : List Int} (h : OutRel w wr g1 g2 R R2 l l2) : OutRel w wr.drew g1 g2 R R2 l l2 := by
  obtain ⟨v1, v2, h1, h2, h3, h4, h5, h6, h7, h8⟩ := h
  exact ⟨v1, v2, h1, h2, h3, h4, h5, h6, h7, below_drew h8⟩
theorem OutRel.below {w wr w' : World} {g1 g2 : Nat} {R R2 : Int} {l l2 : List Int} (h : OutRel w wr g1 g2 R R2 l l2) (hb : Below wr.heap.size wr w') : OutRel w w' g1 g2 R R2 l l2 := by
  obtain ⟨v1, v2, h1, h2, h3, h4, h5, h6, h7, h8⟩ := h
  exact ⟨v1, v2, h1.below hb, h2.below hb, h3, h4, h5, h6, h7, below_step h8 hb⟩
theorem OutRel.bel {w wr : World} {g1 g2 : Nat} {R R2 : Int} {l l2 : List Int} (h : OutRel w wr g1 g2 R R2 l l2) : Below w.heap.size w wr := by
  obtain ⟨v1, v2, h1, h2, h3, h4, h5, h6, h7, h8⟩ := h
  exact h8
theorem OutRel.num {w wr : World} {g1 g2 : Nat} {R R2 : Int} {l l2 : List Int} (h : OutRel w wr g1 g2 R R2 l l2) : wr.cell? ⟨g2, 1, none⟩ = some (.int .i64 R2) := by
  obtain ⟨v1, v2, h1, h2, h3, h4, h5, h6, h7, h8⟩ := h
  exact h2.cells.2.1
theorem put_pair {w wr : World} {g1 g2 : Nat} {R R2 : Int} {l l2 : List Int} (h : OutRel w wr g1 g2 R R2 l l2) (s : ByteArray) (zs : List Int) (hzs : zs = l ++ bytesOf s) (hR : R ≤ 9223372036854775807) (hl : l.length + s.size ≤ 140737488355328) (hyes : (s.size : Int) ≤ R - (l.length : Int)) :
    Calls Try.prog 16 #[.pointer (some ⟨g1, 0, none⟩), .string s] wr fun e w' => e = .returned (.bool true) ∧ OutRel w w' g1 g2 R R2 zs l2 := by
  obtain ⟨v1, v2, h1, h2, h3, h4, h5, h6, h7, h8⟩ := h
  refine (put_yes g1 w.heap.size v1 R l s zs hzs wr h1 h8.size h6 hR hl hyes).mono fun e w' hP => ?_
  obtain ⟨he, v1', k1, k2, k3, k4, k5⟩ := put_two h1 h2 h5 h3 (by decide) (by decide) hP
  exact ⟨he, v1', v2, k1, k2, k3, k4, h5, h6, h7, h8.trans k5⟩
theorem rput_pair {w wr : World} {g1 g2 : Nat} {R R2 : Int} {l l2 : List Int} (h : OutRel w wr g1 g2 R R2 l l2) (s : ByteArray) (zs : List Int) (hzs : zs = l2 ++ bytesOf s) (hR : R2 ≤ 9223372036854775807) (hl : l2.length + s.size ≤ 140737488355328) (hyes : (s.size : Int) ≤ R2) :
    Calls Try.prog 17 #[.pointer (some ⟨g2, 0, none⟩), .string s] wr fun e w' => e = .returned (.bool true) ∧ OutRel w w' g1 g2 R (R2 - (s.size : Int)) l zs := by
  obtain ⟨v1, v2, h1, h2, h3, h4, h5, h6, h7, h8⟩ := h
  refine (rput_yes g2 w.heap.size v2 R2 l2 s zs hzs wr h2 h8.size h7 hR hl hyes).mono fun e w' hP => ?_
  obtain ⟨he, v2', k1, k2, k3, k4, k5⟩ := put_two h2 h1 (Ne.symm h5) h4 (by decide) (by decide) hP
  exact ⟨he, v1, v2', k2, k1, k4, k3, h5, h6, h7, h8.trans k5⟩
theorem put_pair_no {w wr : World} {g1 g2 : Nat} {R R2 : Int} {l l2 : List Int} (h : OutRel w wr g1 g2 R R2 l l2) (s : ByteArray) (hR : R ≤ 9223372036854775807) (hlR : (l.length : Int) ≤ R) (hs : s.size ≤ 140737488355328) (hno : R - (l.length : Int) < (s.size : Int)) :
    Calls Try.prog 16 #[.pointer (some ⟨g1, 0, none⟩), .string s] wr fun e w' => e = .returned (.bool false) ∧ OutRel w w' g1 g2 R R2 l l2 := by
  have h0 := h
  obtain ⟨v1, v2, h1, h2, h3, h4, h5, h6, h7, h8⟩ := h
  refine (put_no g1 w.heap.size v1 R l s wr h1 hlR hR hs hno).mono ?_
  rintro e w' ⟨he, m, rfl⟩
  exact ⟨he, h0.drewN m⟩
theorem rput_pair_no {w wr : World} {g1 g2 : Nat} {R R2 : Int} {l l2 : List Int} (h : OutRel w wr g1 g2 R R2 l l2) (s : ByteArray) (hno : R2 < (s.size : Int)) :
    Calls Try.prog 17 #[.pointer (some ⟨g2, 0, none⟩), .string s] wr fun e w' => e = .returned (.bool false) ∧ OutRel w w' g1 g2 R R2 l l2 := by
  have h0 := h
  obtain ⟨v1, v2, h1, h2, h3, h4, h5, h6, h7, h8⟩ := h
  refine (rput_no g2 w.heap.size v2 R2 l2 s wr h2 hno).mono ?_
  rintro e w' ⟨he, m, rfl⟩
  exact ⟨he, h0.drewN m⟩
theorem room_pair {w wr : World} {g1 g2 : Nat} {R R2 : Int} {l l2 : List Int} (h : OutRel w wr g1 g2 R R2 l l2) (hR : R ≤ 9223372036854775807) (hlR : (l.length : Int) ≤ R) :
    Calls Try.prog 18 #[.pointer (some ⟨g1, 0, none⟩)] wr fun e w' => e = .returned (.int .i64 (R - (l.length : Int))) ∧ OutRel w w' g1 g2 R R2 l l2 := by
  have h0 := h
  obtain ⟨v1, v2, h1, h2, h3, h4, h5, h6, h7, h8⟩ := h
  obtain ⟨A, c, rfl⟩ := own_slice h1.2
  obtain ⟨c0, c1, _, _⟩ := h1.cells
  refine (roomC g1 A l.length c R wr c0 c1 hlR hR).mono ?_
  rintro e w' ⟨he, m, rfl⟩
  exact ⟨he, h0.drewN m⟩
theorem bytes_pair {w wr : World} {g1 g2 : Nat} {R R2 : Int} {l l2 : List Int} (h : OutRel w wr g1 g2 R R2 l l2) (hl : l.length ≤ 140737488355328) :
    Calls Try.prog 19 #[.pointer (some ⟨g1, 0, none⟩)] wr (BytesEnd wr l) := by
  obtain ⟨v1, v2, h1, h2, h3, h4, h5, h6, h7, h8⟩ := h
  exact bytesC g1 w.heap.size v1 R l wr h1 hl
theorem bytes_pair' {w wr : World} {g1 g2 : Nat} {R R2 : Int} {l l2 : List Int} (h : OutRel w wr g1 g2 R R2 l l2) (hl : l.length ≤ 140737488355328) :
    Calls Try.prog 19 #[.pointer (some ⟨g1, 0, none⟩)] wr fun e w' => ∃ A c wq, e = .returned (.slice A l.length c) ∧ Hid (w'.ownsRow wq.heap.size 5 1 (.slice A l.length c) l.length (nums .u8 l)) ∧ Hid (Below wq.heap.size wq w') ∧ Hid (OutRel w wq g1 g2 R R2 l l2) := by
  refine (bytes_pair h hl).mono ?_
  rintro e w' ⟨v, rfl, ho, hb⟩
  obtain ⟨A, c, rfl⟩ := own_slice ho
  exact ⟨A, c, wr, rfl, Lib.hid ho, Lib.hid hb, Lib.hid h⟩
def EndS (g2 : Nat) (A2 : Option Addr) (c2 : Nat) (R2 : Int) (l2 : List Int) (w' : World) : Prop :=
  w'.cell? ⟨g2, 0, none⟩ = some (.slice A2 l2.length c2) ∧ w'.cell? ⟨g2, 1, none⟩ = some (.int .i64 R2) ∧ (convert 31 9 (.slice A2 l2.length c2)).run Try.prog w' = .ok (.string (strOfNums l2)) w'
theorem ends_of {wr : World} {g2 base c2 : Nat} {A2 : Option Addr} {R2 : Int} {l2 : List Int} (k2 : Buf wr g2 33 base (.slice A2 l2.length c2) R2 l2) : EndS g2 A2 c2 R2 l2 wr :=
  ⟨k2.cells.1, k2.cells.2.1, own_string Try.underlying31 Try.underlying5 Try.underlying9 k2.2⟩
theorem bytes_end {w wr : World} {g1 g2 c2 : Nat} {A2 : Option Addr} {R R2 : Int} {l l2 : List Int} (h : OutRel w wr g1 g2 R R2 l l2) (hl : l.length ≤ 140737488355328) (k2 : Buf wr g2 33 w.heap.size (.slice A2 l2.length c2) R2 l2) :
    Calls Try.prog 19 #[.pointer (some ⟨g1, 0, none⟩)] wr fun e w' => ∃ A c, e = .returned (.slice A l.length c) ∧ Hid (EndS g2 A2 c2 R2 l2 w') ∧ (convert 31 9 (.slice A l.length c)).run Try.prog w' = .ok (.string (strOfNums l)) w' ∧ Hid (Below w.heap.size w w') := by
  refine (bytes_pair h hl).mono ?_
  rintro e w' ⟨v, rfl, ho, hb⟩
  obtain ⟨A, c, rfl⟩ := own_slice ho
  exact ⟨A, c, rfl, Lib.hid (ends_of (k2.below hb)), own_string Try.underlying31 Try.underlying5 Try.underlying9 ho, Lib.hid (below_step h.bel hb)⟩
theorem room_raw {w wr : World} {g1 g2 : Nat} {R R2 : Int} {l l2 : List Int} (h : OutRel w wr g1 g2 R R2 l l2) (hR : R ≤ 9223372036854775807) (hlR : (l.length : Int) ≤ R) :
    Calls Try.prog 18 #[.pointer (some ⟨g1, 0, none⟩)] wr fun e w' => e = .returned (.int .i64 (R - (l.length : Int))) ∧ ∃ m, w' = wr.drewN m := by
  obtain ⟨v1, v2, h1, h2, h3, h4, h5, h6, h7, h8⟩ := h
  obtain ⟨A, c, rfl⟩ := own_slice h1.2
  obtain ⟨c0, c1, _, _⟩ := h1.cells
  refine (roomC g1 A l.length c R wr c0 c1 hlR hR).mono ?_
  rintro e w' ⟨he, m, rfl⟩
  exact ⟨he, m, rfl⟩
set_option maxHeartbeats 4000000 in
set_option maxRecDepth 100000 in
theorem flowOutC (room : Int) (A : Option Addr) (c : Nat) (ss : List ByteArray) (w : World) (hC : Kd.string.C w A ss.length ss) (ht : tot ss ≤ 1048576) (hhi : room ≤ 9223372036854775807) :
    Calls Try.prog 4 #[.int .i64 room, .slice A ss.length c] w fun e w' => e = .returned (.bool true) ∧ Below w.heap.size w w' := by
  have HC := Lib.hid hC
  have HT := Lib.hid ht
  clear hC ht
  obtain ⟨R, hR⟩ : ∃ R, R = max room 0 := ⟨_, rfl⟩
  have hmax : Builtin.max2 (.int .i64 0) (.int .i64 room) = pure (.int .i64 R) := by
    rw [max2_int]
    congr 2
    rw [hR]
    omega
  have hR0 : 0 ≤ R := by omega
  have hR1 : R ≤ 9223372036854775807 := by omega
  have HR := Lib.hid hR
  clear hR
  go_enter Try.func4, Try.ntmps4
  go_wp2_with fail
  refine (newOutC room _).mono ?_
  rw [← HR.out]
  rintro e w1 ⟨rfl, rfl⟩
  go_wp2_with fail
  have hrel0 : OutRel w ((w.alloc (.cells #[.slice none 0 0, .int .i64 R] 66)).alloc (.cells #[.slice none 0 0, .int .i64 R] 33)) w.heap.size (w.heap.size + 1) R R [] [] :=
    ⟨_, _, ⟨(Below.heap_alloc _ _ _ (by simp)).trans (heap_alloc_new w _), own_nil _ _ _ _⟩, ⟨by have := heap_alloc_new (w.alloc (.cells #[.slice none 0 0, .int .i64 R] 66)) (.cells #[.slice none 0 0, .int .i64 R] 33); simpa using this, own_nil _ _ _ _⟩, .inl rfl, .inl rfl, by omega, Nat.le_refl _, by omega, below_alloc (below_alloc (Below.refl _ _) _) _⟩
  obtain ⟨W0, hW0⟩ : ∃ W, W = (w.alloc (.cells #[.slice none 0 0, .int .i64 R] 66)).alloc (.cells #[.slice none 0 0, .int .i64 R] 33) := ⟨_, rfl⟩
  rw [← hW0] at hrel0 ⊢
  obtain ⟨g2, hg2⟩ : ∃ g, g = w.heap.size + 1 := ⟨_, rfl⟩
  rw [← hg2] at hrel0 ⊢
  obtain ⟨g1, hg1⟩ : ∃ g, g = w.heap.size := ⟨_, rfl⟩
  have HREL0 := Lib.hid hrel0
  clear hrel0 hW0 hg2 hmax
  have HREL1 : Hid (OutRel w W0 g1 g2 R R [] []) := by rw [hg1]; exact HREL0
  rw [← hg1]
  clear HREL0
  have HG1 := Lib.hid hg1
  clear hg1
  have HB0 : ∀ {wr : World} {R R2 : Int} {l l2 : List Int}, OutRel w wr g1 g2 R R2 l l2 → Below w.heap.size w wr := fun h => h.bel
  clear HB0
  go_loopw [7] (fun i wr => ∃ (k : Nat) (l : List Int), k ≤ ss.length ∧ i = .int .i64 (k : Int) ∧ (l.length : Int) ≤ R ∧ l.length ≤ tot (ss.take k) ∧ Hid (OutRel w wr g1 g2 R (R - (l.length : Int)) l l)) (fun i _ => ss.length - (intOf i).toNat)
  case atStart => exact ⟨0, [], Nat.zero_le _, rfl, hR0, by simp, by simpa using HREL1⟩
  case round =>
    obtain ⟨k, l, hk, rfl, hlR, hlt, HREL⟩ := hrel
    have hl0 : l.length ≤ 1048576 := Nat.le_trans hlt (Nat.le_trans (tot_le ss k) HT.out)
    have HLT := Lib.hid hlt
    clear hlt HREL1
    by_cases hkk : k < ss.length ∧ k < 60
    · obtain ⟨hk1, hk2⟩ := hkk
      go_upto_region 6 with fail
      go_cut [25] (fun v wx => v = .bool true ∧ wr = wx)
      case first =>
        go_wp2_with fail
        go_meet
        exact ⟨congrArg Value.bool (decide_eq_true (by omega)), rfl⟩
      obtain ⟨rfl, rfl⟩ := hcut
      obtain ⟨ad, rfl, hcell⟩ := Kd.at_string HC.out (k : Int) (by omega) (by omega)
      have Htt := Lib.hid (tot_take ss k hk1)
      obtain ⟨s, hs⟩ : ∃ s, s = rdOf ByteArray.empty ss (k : Int) := ⟨_, rfl⟩
      rw [← hs] at hcell Htt
      rw [Int.toNat_natCast] at hcell
      have HCW := Lib.hid hcell
      clear hs hcell
      have hcell : wr.cell? (ad.add k) = some (.string s) := pw_cell_below HREL.out.bel HCW.out
      have hs1 : s.size ≤ 1048576 := by
        have h1 := Htt.out
        have h2 := tot_le ss (k + 1)
        have h3 := HT.out
        omega
      have i0 : (0 : Int) ≤ (k : Int) := by omega
      have i1 : (k : Int) < (ss.length : Int) := by omega
      have HRELd := Lib.hid HREL.out.drew
      go_wp2_with fail
      go_cut [49] (fun v wx => v = .bool false ∧ ∃ l' : List Int, (l'.length : Int) ≤ R ∧ l'.length ≤ 1048576 ∧ Hid (l'.length ≤ tot (ss.take (k + 1))) ∧ Hid (OutRel w wx g1 g2 R (R - (l'.length : Int)) l' l'))
      case first =>
        by_cases hfit : (s.size : Int) ≤ R - (l.length : Int)
        · obtain ⟨zs, hzs⟩ : ∃ zs, zs = l ++ bytesOf s := ⟨_, rfl⟩
          have hzl : (zs.length : Int) = (l.length : Int) + (s.size : Int) := by rw [hzs, List.length_append, bytesOf_length]; omega
          have HZS := Lib.hid hzs
          have HZL := Lib.hid hzl
          clear hzs hzl
          go_region_with (first
            | (go_at_call 16; refine (put_pair (w := w) (g2 := g2) HRELd.out s zs HZS.out hR1 (by omega) hfit).mono ?_; rintro e wa ⟨rfl, hm⟩; have HM1 := Lib.hid hm; have hs1 : wa.cell? (ad.add k) = some (.string s) := pw_cell_below hm.bel HCW.out; clear hm)
            | (go_at_call 17; refine (rput_pair (w := w) (g1 := g1) HM1.out s zs HZS.out (by omega) (by omega) (by omega)).mono ?_; rintro e wb ⟨rfl, hm⟩; have HM2 := Lib.hid hm; have hn2 : wb.cell? ⟨g2, 1, none⟩ = some (.int .i64 (R - (l.length : Int) - (s.size : Int))) := HM2.out.num; clear hm)
            | (go_at_call 18; refine (room_pair (w := w) (g2 := g2) HM2.out hR1 (by have := HZL.out; omega)).mono ?_; rw [show R - (zs.length : Int) = R - (l.length : Int) - (s.size : Int) by have := HZL.out; omega]; rintro e wc ⟨rfl, hm⟩; have HM3 := Lib.hid hm; have hn3 : wc.cell? ⟨g2, 1, none⟩ = some (.int .i64 (R - (l.length : Int) - (s.size : Int))) := HM3.out.num; clear hm)
            | fail)
          all_goals
            go_wp2_with fail
            go_meet
            have h3 := HM3.out
            rw [show R - (l.length : Int) - (s.size : Int) = R - (zs.length : Int) by have := HZL.out; omega] at h3
            exact ⟨rfl, zs, by have := HZL.out; omega, by have := HZL.out; have := Htt.out; have := HLT.out; have := HT.out; have := tot_le ss (k + 1); omega, Lib.hid (by have := HZL.out; have := Htt.out; have := HLT.out; omega), Lib.hid h3⟩
        · go_region_with (first
            | (go_at_call 16; refine (put_pair_no (w := w) (g2 := g2) HRELd.out s hR1 hlR (by omega) (by omega)).mono ?_; rintro e wa ⟨rfl, hm⟩; have HM1 := Lib.hid hm; have hs1 : wa.cell? (ad.add k) = some (.string s) := pw_cell_below hm.bel HCW.out; clear hm)
            | (go_at_call 17; refine (rput_pair_no (w := w) (g1 := g1) HM1.out s (by omega)).mono ?_; rintro e wb ⟨rfl, hm⟩; have HM2 := Lib.hid hm; have hn2 : wb.cell? ⟨g2, 1, none⟩ = some (.int .i64 (R - (l.length : Int))) := HM2.out.num; clear hm)
            | (go_at_call 18; refine (room_pair (w := w) (g2 := g2) HM2.out hR1 hlR).mono ?_; rintro e wc ⟨rfl, hm⟩; have HM3 := Lib.hid hm; have hn3 : wc.cell? ⟨g2, 1, none⟩ = some (.int .i64 (R - (l.length : Int))) := HM3.out.num; clear hm)
            | fail)
          all_goals
            go_wp2_with fail
            go_meet
            exact ⟨rfl, l, hlR, hl0, Lib.hid (by have := Htt.out; have := HLT.out; omega), HM3⟩
      case rest =>
        obtain ⟨rfl, l', hlR', hl1, HLT', HREL'⟩ := hcut
        clear hlR hl0 HLT hcell HRELd HREL
        go_wp2_with fail
        refine (bytes_pair' (w := w) (g2 := g2) HREL'.out (by omega)).mono ?_
        rintro e w4 ⟨A4, c4, wq, rfl, HO4, HB4, HRELq⟩
        have HREL4 := Lib.hid (HRELq.out.below HB4.out)
        clear HREL'
        obtain ⟨v1, v2, k1, k2, k3, k4, k5, k6, k7, k8⟩ := HREL4.out
        obtain ⟨A2, c2, rfl⟩ := own_slice k2.2
        obtain ⟨hd0, _, _, _⟩ := k2.cells
        have HCV : Hid (w4.drew.cell? ⟨g2, 0, none⟩ = some (.slice A2 l'.length c2) ∧ (convert 31 9 (.slice A4 l'.length c4)).run Try.prog w4.drew = .ok (.string (strOfNums l')) w4.drew ∧ (convert 31 9 (.slice A2 l'.length c2)).run Try.prog w4.drew = .ok (.string (strOfNums l')) w4.drew) :=
          Lib.hid ⟨hd0, own_string (w := w4.drew) Try.underlying31 Try.underlying5 Try.underlying9 HO4.out.drew, own_string (w := w4.drew) Try.underlying31 Try.underlying5 Try.underlying9 k2.2.drew⟩
        clear k1 k2 k3 k4 k5 k6 k7 k8 hd0
        go_wp2_with fail
        go_region_held3 (fun w' => w'.cell? ⟨g2, 0, none⟩ = some (.slice A2 l'.length c2) ∧ (convert 31 9 (.slice A4 l'.length c4)).run Try.prog w' = .ok (.string (strOfNums l')) w' ∧ (convert 31 9 (.slice A2 l'.length c2)).run Try.prog w' = .ok (.string (strOfNums l')) w') (exact HCV.out) (fail)
        clear HCV
        go_wp2_with fail
        have HO5 : Hid (w4.drew.ownsRow wq.heap.size 5 1 (.slice A4 l'.length c4) l'.length (nums .u8 l')) := Lib.hid HO4.out.drew
        have HB5 : Hid (Below wq.heap.size wq w4.drew) := Lib.hid (below_drew HB4.out)
        clear HO4 HB4 HREL4
        generalize w4.drew = w5 at *
        go_loopw [9] (fun i wk => ∃ (j : Nat) (ys : List Int), j ≤ l'.length ∧ i = .int .i64 (j : Int) ∧ Hid (wk.ownsRow wq.heap.size 5 1 (.slice A4 l'.length c4) l'.length (nums .u8 ys)) ∧ Hid (Below wq.heap.size wq wk)) (fun i _ => l'.length - (intOf i).toNat)
        case atStart => exact ⟨0, l', Nat.zero_le _, rfl, HO5, HB5⟩
        case round =>
          obtain ⟨j, ys, hj, rfl, HOj, HBj⟩ := hrel
          clear HO5 HB5
          by_cases hjn : j < l'.length
          · obtain ⟨g, cap, he, hgb, hgl⟩ := HOj.out.form (by omega)
            injection he with he1 _ he3
            subst he1
            clear he3 hgl
            have Hgb := Lib.hid hgb
            clear hgb
            obtain ⟨hcs, hfs⟩ := own_at HOj.out (j : Int) (by omega) (by omega)
            rw [Int.toNat_natCast] at hcs hfs
            obtain ⟨x, hx⟩ : ∃ x, x = rd ys (j : Int) := ⟨_, rfl⟩
            rw [← hx] at hcs
            clear hx
            have j0 : (0 : Int) ≤ (j : Int) := by omega
            have j1 : (j : Int) < (l'.length : Int) := by omega
            go_wp2_with fail
            go_roundw
            case rel =>
              have hst := (own_store HOj.out (j : Int) (IntKind.u8.wrap (x + 1))).1
              rw [Int.toNat_natCast] at hst
              exact ⟨j + 1, _, by omega, by go_num, Lib.hid hst, Lib.hid (HBj.out.setCell Hgb.out _)⟩
            case measure => simp [intOf]; omega
          · go_wp2_with fail
            go_roundw
            case rel => exact ⟨k + 1, l', by omega, by go_num, hlR', HLT'.out, Lib.hid (HRELq.out.below HBj.out)⟩
            case measure => simp [intOf]; omega
    · obtain ⟨v1, v2, k1, k2, k3, k4, k5, k6, k7, k8⟩ := HREL.out
      obtain ⟨A2, c2, rfl⟩ := own_slice k2.2
      have K2 := Lib.hid k2
      have HR0 := HREL
      clear k1 k2 k3 k4 k5 k6 k7 k8
      have HSN : Hid (∀ n, EndS g2 A2 c2 (R - (l.length : Int)) l (wr.drewN n)) := Lib.hid fun n => ends_of (show Buf (wr.drewN n) g2 33 w.heap.size (.slice A2 l.length c2) (R - (l.length : Int)) l from K2.out)
      have HSD : Hid (EndS g2 A2 c2 (R - (l.length : Int)) l wr.drew) := Lib.hid (ends_of (show Buf wr.drew g2 33 w.heap.size (.slice A2 l.length c2) (R - (l.length : Int)) l from K2.out))
      have HD := Lib.hid HREL.out.drew
      have HN : Hid (∀ n, OutRel w (wr.drewN n) g1 g2 R (R - (l.length : Int)) l l) := Lib.hid fun n => HREL.out.drewN n
      have hcn : ∀ n, (convert 31 9 (.slice A2 l.length c2)).run Try.prog (wr.drewN n) = .ok (.string (strOfNums l)) (wr.drewN n) := fun n => (HSN.out n).2.2
      have hcd : (convert 31 9 (.slice A2 l.length c2)).run Try.prog wr.drew = .ok (.string (strOfNums l)) wr.drew := HSD.out.2.2
      have hc0 : wr.cell? ⟨g2, 0, none⟩ = some (.slice A2 l.length c2) := K2.out.cells.1
      have hc1 : wr.cell? ⟨g2, 1, none⟩ = some (.int .i64 (R - (l.length : Int))) := K2.out.cells.2.1
      go_upto_region 6 with fail
      go_cut [25] (fun v wx => v = .bool false ∧ wr = wx)
      case first =>
        by_cases hk1 : k < ss.length
        · have hk2 : 60 ≤ k := by omega
          go_wp2_with fail
          go_meet
          exact ⟨congrArg Value.bool (decide_eq_false (by omega)), rfl⟩
        · go_wp2_with fail
          go_meet
          exact ⟨rfl, rfl⟩
      case rest =>
        obtain ⟨rfl, rfl⟩ := hcut
        clear hkk
        go_wp2_with fail
        go_region_with (first
          | (go_at_call 18; refine (room_raw (w := w) (g2 := g2) HD.out hR1 hlR).mono ?_; rintro e wa ⟨rfl, m, rfl⟩)
          | (go_at_call 19; refine (bytes_end (w := w) (HN.out _) (by omega) (show Buf (wr.drewN _) g2 33 w.heap.size (.slice A2 l.length c2) (R - (l.length : Int)) l from K2.out)).mono ?_; rintro e w4 ⟨A4, c4, rfl, HS4, hcv4, HB4⟩; have hc4 := HS4.out.1; have hcv5 := HS4.out.2.2)
          | fail)
        all_goals
          go_wp2_with fail
          go_ret
          exact ⟨rfl, HB4.out⟩
end Go.Proofs.Ytadhfojgifhjcaa.Fl
