/- The reference's Hex, walked: it writes the same digits. -/
import Derived.Test.YtadhfojgifhjcaaDgP
import Derived.Deep.RegionHeld3
namespace Go.Proofs.Ytadhfojgifhjcaa.Dg
open Go.RowKit Go.Proofs.YtadhfojgifhjcaaW.PrintWords Go.Proofs.YtadhfojgifhjcaaW.PrintLast Go.Proofs.YtadhfojgifhjcaaW.PrintMore
set_option linter.unusedVariables false
theorem lit_reads (W : World) (l : List Int) (hl : l.length ≤ 1000) : ReadsInt (W.alloc (.cells (nums .u8 l).toArray 5)) .u8 (some ⟨W.heap.size, 0, none⟩) l.length l := by
  obtain ⟨A, c, e, h⟩ := own_reads (own_lit W 0 5 .u8 l (Nat.zero_le _) (by omega))
  cases e
  exact h
section
variable {ops : Array Oper} {o : Oper} {a : Act} {Q : Exit → Act → World → Prop} {K : Act → World → Prop}
/-- append onto a row of the call's own, as a step of a region that draws its order. -/
theorem step_append_row {w0 W : World} (base : Nat) (hw : Region.wanted o (yielded ops a.tmps) = true) (s x : Operand)
    (ho : o.op = .call { callee := .builtin .append, args := #[s, x], argTypes := #[31, 31] })
    (v : Value) (xs ys : List Int) (ad : Addr) (m c : Nat) (hs : a.eval s = v) (hx : a.eval x = .slice (some ad) m c)
    (HO : W.ownsRow base 5 1 v xs.length (nums .u8 xs)) (HR : ReadsInt W .u8 (some ad) m ys) (HB : Below base w0 W) (hbase : base ≤ W.heap.size) (hl : xs.length + m ≤ 140737488355328)
    (h : ∀ v1 w1, w1.ownsRow base 5 1 v1 (xs ++ ys).length (nums .u8 (xs ++ ys)) → Below base w0 w1 → W.grownBy w1 v.ownBlock → K (a.put o.dst v1) w1) :
    if Region.wanted o (yielded ops a.tmps) = true then Oper.wp Try.prog o a W K Q else K (a.put o.dst undef) W := by
  obtain ⟨i0, hi, hzz⟩ := Option.map_eq_some_iff.1 info5
  simp only [Prod.mk.injEq] at hzz
  obtain ⟨hz0, hz1, hz2⟩ := hzz
  have hm : ys.length = m := HR.1
  have hnews : ∀ j u, (nums .u8 ys)[j]? = some u → W.cell? (ad.add j) = some u := by
    intro j u hu
    have hj : j < ys.length := by
      rcases Nat.lt_or_ge j ys.length with h | h
      · exact h
      · rw [List.getElem?_eq_none (by rw [nums_length]; exact h)] at hu
        cases hu
    obtain ⟨ad', h', hc⟩ := HR.2.2 (by omega)
    injection h' with h'
    subst h'
    rw [hc j (by omega), ← hu]
    simp [nums, List.getD_eq_getElem?_getD, List.getElem?_eq_getElem hj]
  have hone : ∀ u ∈ nums .u8 ys, u.oneCell' = true := by
    intro u hu
    simp only [nums, List.mem_map] at hu
    obtain ⟨q, _, rfl⟩ := hu
    rfl
  rw [if_pos hw]
  obtain ⟨v1, w1, hr, hown, hg, _, _⟩ := run_append_own_at (P := Try.prog) W base 31 o.type 5 i0 (.int .u8 0) 1 1 Try.underlying31 hi hz0 hz1 hz2 rfl (by decide) v xs.length (nums .u8 xs) HO ad m c (nums .u8 ys) (by rw [nums_length, hm, Nat.mul_one]) hnews hone (by simp only [maxLen]; omega) (by omega) hbase
  unfold Oper.wp execOp
  simp only [ho, resolve, invoke, builtin, Sem.run_bind, Sem.run_pure, Result.andThen_ok, List.map_toArray, List.map_cons, List.map_nil, hs, hx, hr]
  refine h v1 w1 ?_ (HB.grown hg hbase (own_base HO)) hg
  rw [← nums_append, ← hm, ← List.length_append] at hown
  exact hown
end
theorem tdiv16 (x : Int) (h0 : 0 ≤ x) : x.tdiv 16 = x / 16 := Int.tdiv_eq_ediv_of_nonneg h0
theorem tmod16 (x : Int) (h0 : 0 ≤ x) : x.tmod 16 = x % 16 := Int.tmod_eq_emod_of_nonneg h0
theorem ix_quo (x : Int) (h0 : 0 ≤ x) (h1 : x < 256) (W : World) : (Instr.index 9 (.string ⟨#[48, 49, 50, 51, 52, 53, 54, 55, 56, 57, 65, 66, 67, 68, 69, 70]⟩) (.int .u8 (IntKind.u8.wrap (x.tdiv 16)))).run Try.prog W = .ok (.int .u8 (hx (x / 16))) W := by
  rw [tdiv16 x h0, show IntKind.u8.wrap (x / 16) = x / 16 by rw [IntKind.wrap_u8]; omega]
  exact index_dgs _ W (by omega) (by omega)
theorem ix_rem (x : Int) (h0 : 0 ≤ x) (h1 : x < 256) (W : World) : (Instr.index 9 (.string ⟨#[48, 49, 50, 51, 52, 53, 54, 55, 56, 57, 65, 66, 67, 68, 69, 70]⟩) (.int .u8 (IntKind.u8.wrap (x.tmod 16)))).run Try.prog W = .ok (.int .u8 (hx (x % 16))) W := by
  rw [tmod16 x h0, show IntKind.u8.wrap (x % 16) = x % 16 by rw [IntKind.wrap_u8]; omega]
  exact index_dgs _ W (by omega) (by omega)
theorem ix_rem' (x : Int) (h0 : 0 ≤ x) (h1 : x < 256) (W : World) : (Instr.index 9 (.string ⟨#[48, 49, 50, 51, 52, 53, 54, 55, 56, 57, 65, 66, 67, 68, 69, 70]⟩) (.int .u8 (x.tmod 16))).run Try.prog W = .ok (.int .u8 (hx (x % 16))) W := by
  rw [tmod16 x h0]
  exact index_dgs _ W (by omega) (by omega)
set_option maxHeartbeats 2000000 in
set_option maxRecDepth 100000 in
theorem rhexC (A : Option Addr) (c : Nat) (l : List Int) (w : World) (hC : Kd.C (Kd.int .u8) w A l.length l) (hb : ∀ x ∈ l, 0 ≤ x ∧ x < 256) (hlen : l.length ≤ 8388608) :
    Calls Try.prog 37 #[.slice A l.length c] w fun e w' => e = .returned (.string (strOfNums (hexs l))) ∧ Below w.heap.size w w' := by
  have HC := Lib.hid hC
  have Hb := Lib.hid hb
  clear hC hb
  by_cases h0 : l.length = 0
  · obtain rfl : l = [] := List.eq_nil_of_length_eq_zero h0
    go_enter Try.func37, Try.ntmps37
    go_wp2_with fail
    go_ret
    exact ⟨rfl, Below.refl _ _⟩
  · have hpos : 0 < l.length := by omega
    have hne : l ≠ [] := fun h => h0 (by rw [h]; rfl)
    have HH : Hid (hexs l = hexl l) := Lib.hid (by unfold hexs; rw [if_neg hne])
    clear h0 hne
    go_enter Try.func37, Try.ntmps37
    go_wp2_with fail
    have hz : ((l.length : Int) == 0) = false := by
      rw [beq_eq_false_iff_ne]
      omega
    rw [hz]
    clear hz
    go_loopw [3, 4] (fun b i wr => ∃ k : Nat, k ≤ l.length ∧ i = .int .i64 (k : Int) ∧ wr.ownsRow w.heap.size 5 1 b (hexl (l.take k)).length (nums .u8 (hexl (l.take k))) ∧ Below w.heap.size w wr) (fun _ i _ => l.length - (intOf i).toNat)
    case atStart => exact ⟨0, Nat.zero_le _, rfl, own_nil _ _ _ _, Below.refl _ _⟩
    case round =>
      obtain ⟨k, hk, rfl, ho, hb⟩ := hrel
      obtain ⟨A3, c3, rfl, hr3⟩ := own_reads ho
      have HO := Lib.hid ho
      have HB := Lib.hid hb
      have HR := Lib.hid hr3
      clear ho hb hr3
      by_cases hlt : k < l.length
      · obtain ⟨ad, rfl, hcell⟩ := Kd.at_int (Kd.C_below HC.out HB.out) (k : Int) (by omega) (by omega)
        rw [Int.toNat_natCast] at hcell
        have HAD : Hid (∀ W, Below w.heap.size w W → W.cell? (ad.add k) = some (.int .u8 (rd l (k : Int)))) := Lib.hid (fun W hW => by
          obtain ⟨ad', e, h⟩ := Kd.at_int (Kd.C_below HC.out hW) (k : Int) (by omega) (by omega)
          rw [Int.toNat_natCast] at h
          cases e
          exact h)
        have HL : Hid ((hexl (l.take k)).length + 2 ≤ 140737488355328) := Lib.hid (by rw [hexl_len, List.length_take]; omega)
        have HT := Lib.hid (take_rd l k hlt)
        have HX : Hid (0 ≤ rd l (k : Int) ∧ rd l (k : Int) < 256) := Lib.hid (rd_bd Hb.out k hlt)
        generalize rd l (k : Int) = x at *
        obtain ⟨hx0, hx1⟩ := HX.out
        have hi1 := ix_rem x hx0 hx1
        have hi2 := ix_quo x hx0 hx1
        have hi3 := ix_rem' x hx0 hx1
        go_upto_region 7 with fail
        go_region_held3 (fun w' => w'.cell? (ad.add k) = some (.int .u8 x)) (exact HAD.out _ (by repeat (first | exact HB.out | apply below_drew1 | apply below_alloc))) (first | (refine step_append_row (w0 := w) w.heap.size (by simp [Region.wanted]) (.tmp 14) (.tmp 27) rfl (.slice A3 (hexl (l.take k)).length c3) (hexl (l.take k)) [hx (x / 16), hx (x % 16)] ⟨wr.heap.size, 0, none⟩ 2 2 (by simp [Act.eval]; try rfl) (by simp [Act.eval]; try rfl) (HO.out.alloc _) (lit_reads wr [hx (x / 16), hx (x % 16)] (by simp)) (by repeat (first | exact HB.out | apply below_drew1 | apply below_alloc)) (by have := HB.out.size; simp; omega) HL.out ?_; intro v1 w1 hown1 hb1 hg1; replace HO := Lib.hid hown1; replace HB := Lib.hid hb1; clear hown1 hb1 hg1) | fail)
        all_goals
          go_wp2_with fail
          go_roundw
          case rel => exact ⟨k + 1, by omega, by go_num, by rw [HT.out, hexl_snoc]; exact HO.out, HB.out⟩
          case measure => simp [intOf]; omega
      · obtain rfl : k = l.length := by omega
        rw [List.take_length] at HO HR ⊢
        have hcv := own_string (P := Try.prog) (dst := 9) Try.underlying31 Try.underlying5 Try.underlying9 HO.out
        go_wp2_with fail
        go_ret
        exact ⟨by rw [HH.out]; rfl, HB.out⟩
end Go.Proofs.Ytadhfojgifhjcaa.Dg
