/- flow.Out and the reference's Out, walked: NewOut, Room, Put, Bytes. -/
import Derived.Test.YtadhfojgifhjcaaFlA
import Derived.Deep.RegionHeld3
namespace Go.Proofs.Ytadhfojgifhjcaa.Fl
open Go.RowKit Go.Proofs.YtadhfojgifhjcaaW.PrintWords Go.Proofs.YtadhfojgifhjcaaW.PrintLast Go.Proofs.YtadhfojgifhjcaaW.PrintMore
attribute [local go_sem] max2_int min2_int max_two min_two
set_option linter.unusedVariables false
theorem info5 : (Try.prog.info? 5).map (fun i => (i.zero, i.size, i.bytes)) = some (some (.int .u8 0), 1, 1) := by kernel_rfl
/-- A block of two cells: a row of bytes of the call's own, and a number. -/
def Buf (w : World) (g t base : Nat) (v : Value) (x : Int) (l : List Int) : Prop := w.heap[g]? = some (.cells #[v, .int .i64 x] t (0, 0)) ∧ w.ownsRow base 5 1 v l.length (nums .u8 l)
def PutEnd (w : World) (g t base : Nat) (v : Value) (x : Int) (l : List Int) (r : Bool) (e : Ending) (w' : World) : Prop :=
  e = .returned (.bool r) ∧ ∃ v', Buf w' g t base v' x l ∧ KeepBut w w' g v.ownBlock ∧ Below base w w' ∧ (v'.ownBlock = v.ownBlock ∨ ∃ b, v'.ownBlock = some b ∧ w.heap.size ≤ b)
theorem Buf.ne {w : World} {g t base : Nat} {v : Value} {x : Int} {l : List Int} (h : Buf w g t base v x l) (ht : 5 ≠ t) : some g ≠ v.ownBlock := by
  obtain ⟨h1, h2⟩ := h
  intro he
  obtain ⟨cells, hc⟩ := own_typed h2 g he.symm
  rw [h1] at hc
  injection hc with hc
  injection hc with _ hc
  exact ht hc.symm
theorem own_capm {W : World} {base n c : Nat} {e : TypeId} {size : Nat} {A : Option Addr} {xs : List Value} (h : W.ownsRow base e size (.slice A n c) n xs) : c ≤ 9223372036854775807 := by
  rcases h.2 with ⟨h1, _⟩ | ⟨g, cap, cur, h1, _, _, _, h2, _⟩
  · injection h1 with _ _ h4
    omega
  · injection h1 with _ _ h4
    simp only [maxLen] at h2
    omega
theorem own_far {w : World} {g t base e n : Nat} {v : Value} {xs : List Value} {cs : Array Value} (h : w.ownsRow base e 1 v n xs) (hb : w.heap[g]? = some (.cells cs t (0, 0))) (ht : e ≠ t) (j : Nat) (u : Value) : (w.setCell ⟨g, j, none⟩ u).ownsRow base e 1 v n xs := by
  refine own_move h fun k hk => ?_
  refine Below.heap_setCell w ⟨g, j, none⟩ u k ?_
  rintro rfl
  obtain ⟨cells, hc⟩ := own_typed h _ hk
  rw [hb] at hc
  injection hc with hc
  injection hc with _ hc
  exact ht hc.symm
theorem Buf.cells {w : World} {g t base : Nat} {v : Value} {x : Int} {l : List Int} (h : Buf w g t base v x l) : w.cell? ⟨g, 0, none⟩ = some v ∧ w.cell? ⟨g, 1, none⟩ = some (.int .i64 x) ∧ w.frozen? ⟨g, 0, none⟩ = false ∧ w.frozen? ⟨g, 1, none⟩ = false :=
  ⟨blk_cell h.1 0, blk_cell h.1 1, blk_frozen h.1 0, blk_frozen h.1 1⟩
theorem Buf.below {w w' : World} {g t base : Nat} {v : Value} {x : Int} {l : List Int} (h : Buf w g t base v x l) (hb : Below w.heap.size w w') : Buf w' g t base v x l := ⟨blk_below h.1 hb, pw_own_below h.2 hb⟩
set_option maxRecDepth 100000 in
theorem newOutC (room : Int) (w : World) :
    Calls Try.prog 15 #[.int .i64 room] w fun e w' => e = .returned (.pointer (some ⟨w.heap.size, 0, none⟩)) ∧ w' = w.alloc (.cells #[.slice none 0 0, .int .i64 (max room 0)] 66) := by
  rcases Int.lt_or_le room 0 with h | h
  all_goals
    go_enter Try.func15, Try.ntmps15
    go_wp2_with fail
    go_ret
    refine ⟨rfl, ?_⟩
    first
    | rw [Int.max_eq_right (by omega)]
    | rw [Int.max_eq_left (by omega)]
set_option maxRecDepth 100000 in
theorem roomC (g : Nat) (A : Option Addr) (n c : Nat) (x : Int) (w : World) (h0 : w.cell? ⟨g, 0, none⟩ = some (.slice A n c)) (h1 : w.cell? ⟨g, 1, none⟩ = some (.int .i64 x)) (hx : (n : Int) ≤ x) (hx2 : x ≤ 9223372036854775807) :
    Calls Try.prog 18 #[.pointer (some ⟨g, 0, none⟩)] w fun e w' => e = .returned (.int .i64 (x - (n : Int))) ∧ Drawn0 w w' := by
  go_enter Try.func18, Try.ntmps18
  go_upto_region 1 with fail
  go_quiet (fail)
  go_wp2_with fail
  go_ret
  exact ⟨rfl, ⟨_, rfl⟩⟩
set_option maxHeartbeats 2000000 in
set_option maxRecDepth 100000 in
theorem put_no (g base : Nat) (v : Value) (x : Int) (l : List Int) (s : ByteArray) (w : World) (hB : Buf w g 66 base v x l) (hx : (l.length : Int) ≤ x) (hx2 : x ≤ 9223372036854775807) (hs : s.size ≤ 140737488355328) (hno : x - (l.length : Int) < (s.size : Int)) :
    Calls Try.prog 16 #[.pointer (some ⟨g, 0, none⟩), .string s] w fun e w' => e = .returned (.bool false) ∧ Drawn0 w w' := by
  obtain ⟨h0, h1, _, _⟩ := hB.cells
  obtain ⟨A, c, rfl⟩ := own_slice hB.2
  clear hB
  go_enter Try.func16, Try.ntmps16
  go_wp2_with fail
  refine (roomC g A l.length c x _ h0 h1 hx hx2).mono ?_
  rintro e w1 ⟨rfl, m, rfl⟩
  go_wp2_with fail
  go_ret
  exact ⟨rfl, _, rfl⟩
set_option maxHeartbeats 2000000 in
set_option maxRecDepth 100000 in
theorem put_yes (g base : Nat) (v : Value) (x : Int) (l : List Int) (s : ByteArray) (zs : List Int) (hzs : zs = l ++ bytesOf s) (w : World) (hB : Buf w g 66 base v x l) (hbase : base ≤ w.heap.size) (hg : base ≤ g) (hx2 : x ≤ 9223372036854775807) (hl : l.length + s.size ≤ 140737488355328) (hyes : (s.size : Int) ≤ x - (l.length : Int)) :
    Calls Try.prog 16 #[.pointer (some ⟨g, 0, none⟩), .string s] w (PutEnd w g 66 base v x zs true) := by
  obtain ⟨h0, h1, _, _⟩ := hB.cells
  obtain ⟨A, c, rfl⟩ := own_slice hB.2
  have HB := Lib.hid hB
  have HZS := Lib.hid hzs
  clear hzs
  have hd : decide (x - (l.length : Int) < (s.size : Int)) = false := decide_eq_false (by omega)
  clear hB
  go_enter Try.func16, Try.ntmps16
  go_wp2_with fail
  refine (roomC g A l.length c x _ h0 h1 (by omega) hx2).mono ?_
  rintro e w1 ⟨rfl, m, rfl⟩
  have h0' : (w.drewN m).cell? ⟨g, 0, none⟩ = some (.slice A l.length c) := h0
  have HBm : Hid (Buf (w.drewN m) g 66 base (.slice A l.length c) x l) := HB
  have HK : Hid (KeepBut w (w.drewN m) g (Value.slice A l.length c).ownBlock) := Lib.hid (keep_drewN (KeepBut.refl _ _ _) m)
  have HBl : Hid (Below base w (w.drewN m)) := Lib.hid (pw_below_drewN (Below.refl _ _) m)
  have Hz : Hid (base ≤ (w.drewN m).heap.size) := Lib.hid hbase
  have Hz2 : Hid (w.heap.size ≤ (w.drewN m).heap.size) := Lib.hid (Nat.le_refl _)
  generalize w.drewN m = W at *
  clear h0 h1
  go_wp2_with (at_builtin; refine put_append (P := Try.prog) base rfl (.tmp 15) (.tmp 16) 31 9 5 rfl Try.underlying31 Try.underlying9 info5 (.slice A l.length c) l s zs HZS.out rfl rfl HBm.out.2 hl Hz.out ?_; intro A1 c1 w1 hown1 hg1 hat1; have HO1 := Lib.hid hown1; have HG1 := Lib.hid hg1; have HA1 := Lib.hid hat1; have Hb1 : Hid (w1.heap[g]? = some (.cells #[.slice A l.length c, .int .i64 x] 66 (0, 0))) := Lib.hid (blk_grown HBm.out.1 HG1.out (HBm.out.ne (by decide))); have hc1 : w1.cell? ⟨g, 0, none⟩ = some (.slice A l.length c) := blk_cell Hb1.out 0; have hf1 : w1.frozen? ⟨g, 0, none⟩ = false := blk_frozen Hb1.out 0; clear hown1 hg1 hat1)
  go_ret
  refine ⟨rfl, _, ⟨blk_set Hb1.out 0 _, ?_⟩, ?_, ?_, ?_⟩
  · exact own_far HO1.out Hb1.out (by decide) 0 _
  · exact (HK.out.trans (KeepBut.of_grown HG1.out g) (.inl rfl)).set_ 0 _
  · exact (pw_below_grown HBl.out _ Hz.out HG1.out (own_base HBm.out.2)).setCell hg _
  · rcases HA1.out with h | h
    · exact .inl h
    · exact .inr ⟨_, h, Hz2.out⟩
set_option maxHeartbeats 2000000 in
set_option maxRecDepth 100000 in
theorem bytesC (g base : Nat) (v : Value) (x : Int) (l : List Int) (w : World) (hB : Buf w g 66 base v x l) (hl : l.length ≤ 140737488355328) :
    Calls Try.prog 19 #[.pointer (some ⟨g, 0, none⟩)] w (BytesEnd w l) := by
  obtain ⟨h0, h1, _, _⟩ := hB.cells
  obtain ⟨A, c, rfl⟩ := own_slice hB.2
  have HB := Lib.hid hB
  have Hc : Hid (l.length ≤ c) := Lib.hid (own_cap hB.2)
  have Hc2 : Hid (c ≤ 9223372036854775807) := Lib.hid (own_capm hB.2)
  clear hB h1
  go_enter Try.func19, Try.ntmps19
  go_upto_region 1 with fail
  go_region_held3 (fun w' => w'.cell? ⟨g, 0, none⟩ = some (.slice A l.length c)) (first | exact h0 | exact HS.out) (first | (go_at_call 40; refine (partC ⟨g, 0, none⟩ A c l 0 l.length _ (by exact h0) (Kd.C_drewN (Kd.C_of_reads (d := (0 : Int)) (own_reads' HB.out.2)) _) Hc.out Hc2.out (Nat.zero_le _) (Nat.le_refl _) hl).mono ?_; rintro e wb ⟨v, rfl, ho, hb⟩; have HO := Lib.hid ho; have HBb := Lib.hid hb; have HS : Hid (wb.cell? ⟨g, 0, none⟩ = some (.slice A l.length c)) := Lib.hid ((hb.cell (p := ⟨g, 0, none⟩) (World.block_lt_of_cell? _ _ h0)).trans h0); clear ho hb) | fail)
  all_goals
    go_wp2_with fail
    go_ret
    have hO := HO.out
    rw [List.take_length, List.drop_zero] at hO
    exact ⟨_, rfl, hO, below_step (pw_below_drewN (Below.refl _ _) _) HBb.out⟩
set_option maxHeartbeats 2000000 in
set_option maxRecDepth 100000 in
theorem rput_no (g base : Nat) (v : Value) (x : Int) (l : List Int) (s : ByteArray) (w : World) (hB : Buf w g 33 base v x l) (hno : x < (s.size : Int)) :
    Calls Try.prog 17 #[.pointer (some ⟨g, 0, none⟩), .string s] w fun e w' => e = .returned (.bool false) ∧ Drawn0 w w' := by
  obtain ⟨h0, h1, _, _⟩ := hB.cells
  clear hB
  go_enter Try.func17, Try.ntmps17
  go_wp2_with fail
  go_ret
  exact ⟨rfl, Drawn0.refl _⟩
set_option maxHeartbeats 2000000 in
set_option maxRecDepth 100000 in
theorem rput_yes (g base : Nat) (v : Value) (x : Int) (l : List Int) (s : ByteArray) (zs : List Int) (hzs : zs = l ++ bytesOf s) (w : World) (hB : Buf w g 33 base v x l) (hbase : base ≤ w.heap.size) (hg : base ≤ g) (hx2 : x ≤ 9223372036854775807) (hl : l.length + s.size ≤ 140737488355328) (hyes : (s.size : Int) ≤ x) :
    Calls Try.prog 17 #[.pointer (some ⟨g, 0, none⟩), .string s] w (PutEnd w g 33 base v (x - (s.size : Int)) zs true) := by
  obtain ⟨h0, h1, _, _⟩ := hB.cells
  obtain ⟨A, c, rfl⟩ := own_slice hB.2
  have HBm := Lib.hid hB
  have HZS := Lib.hid hzs
  have Hz := Lib.hid hbase
  clear hzs hB
  have hd : decide (x < (s.size : Int)) = false := decide_eq_false (by omega)
  go_enter Try.func17, Try.ntmps17
  go_wp2_with (at_builtin; refine put_append (P := Try.prog) base rfl (.tmp 16) (.tmp 17) 31 9 5 rfl Try.underlying31 Try.underlying9 info5 (.slice A l.length c) l s zs HZS.out rfl rfl HBm.out.2 hl Hz.out ?_; intro A1 c1 w1 hown1 hg1 hat1; have HO1 := Lib.hid hown1; have HG1 := Lib.hid hg1; have HA1 := Lib.hid hat1; have Hb1 : Hid (w1.heap[g]? = some (.cells #[.slice A l.length c, .int .i64 x] 33 (0, 0))) := Lib.hid (blk_grown HBm.out.1 HG1.out (HBm.out.ne (by decide))); have hc1 : w1.cell? ⟨g, 0, none⟩ = some (.slice A l.length c) := blk_cell Hb1.out 0; have hf1 : w1.frozen? ⟨g, 0, none⟩ = false := blk_frozen Hb1.out 0; have hc2 : w1.cell? ⟨g, 1, none⟩ = some (.int .i64 x) := blk_cell Hb1.out 1; have hf2 : w1.frozen? ⟨g, 1, none⟩ = false := blk_frozen Hb1.out 1; clear hown1 hg1 hat1)
  go_ret
  have h2 := blk_set (blk_set Hb1.out 0 (.slice A1 zs.length c1)) 1 (.int .i64 (x - (s.size : Int)))
  refine ⟨rfl, _, ⟨h2, ?_⟩, ?_, ?_, ?_⟩
  · exact own_far (own_far HO1.out Hb1.out (by decide) 0 _) (blk_set Hb1.out 0 _) (by decide) 1 _
  · exact ((KeepBut.of_grown HG1.out g).set_ 0 _).set_ 1 _
  · exact ((pw_below_grown (Below.refl _ _) _ Hz.out HG1.out (own_base HBm.out.2)).setCell hg _).setCell hg _
  · rcases HA1.out with h | h
    · exact .inl h
    · exact .inr ⟨_, h, Nat.le_refl _⟩
end Go.Proofs.Ytadhfojgifhjcaa.Fl
