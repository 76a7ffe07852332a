/- The reference's In: Peek, and Skip to the end of the capacity. -/
import Derived.Test.YtadhfojgifhjcaaFlR
import Derived.Deep.RegionHeld3
namespace Go.Proofs.Ytadhfojgifhjcaa.Fl
open Go.RowKit Go.Proofs.YtadhfojgifhjcaaW.PrintWords Go.Proofs.YtadhfojgifhjcaaW.PrintLast Go.Proofs.YtadhfojgifhjcaaW.PrintMore
attribute [local go_sem] max_two min_two
set_option linter.unusedVariables false
theorem info5b : (Try.prog.info? 5).map (fun i => (i.zero, i.size, i.bytes)) = some (some (.int .u8 0), 1, 1) := by kernel_rfl
theorem run_append_opt {W : World} (ty : TypeId) (base : Nat) (v : Value) (xs ys : List Int) (A : Option Addr) (m c : Nat)
    (HO : W.ownsRow base 5 1 v xs.length (nums .u8 xs)) (HR : ReadsInt W .u8 A m ys) (hbase : base ≤ W.heap.size) (hl : xs.length + m ≤ 140737488355328) :
    ∃ v1 w1, (Builtin.append_ #[31, 31] ty #[v, .slice A m c]).run Try.prog W = .ok v1 w1 ∧ w1.ownsRow base 5 1 v1 (xs ++ ys).length (nums .u8 (xs ++ ys)) ∧ W.grownBy w1 v.ownBlock ∧ (v1.ownBlock = v.ownBlock ∨ v1.ownBlock = some W.heap.size) := by
  obtain ⟨i0, hi, hzz⟩ := Option.map_eq_some_iff.1 info5b
  simp only [Prod.mk.injEq] at hzz
  obtain ⟨hz0, hz1, hz2⟩ := hzz
  have hm : ys.length = m := HR.1
  rcases A with _ | ad
  · have h0 : m = 0 := by
      rcases Nat.eq_zero_or_pos m with h0 | h0
      · exact h0
      · obtain ⟨ad, h, _⟩ := HR.2.2 h0
        cases h
    subst h0
    obtain rfl : ys = [] := List.eq_nil_of_length_eq_zero hm
    refine ⟨v, W, ?_, by simpa using HO, World.grownBy.refl W _, .inl rfl⟩
    rcases HO.2 with ⟨rfl, hn⟩ | ⟨g, cap, cur, rfl, _, _, hnc, _⟩
    · simp [Builtin.append_, run_underlying Try.underlying31, sizeOf, typeInfo, hi, Builtin.lenOf, Builtin.firstCells]
    · simp [Builtin.append_, run_underlying Try.underlying31, sizeOf, typeInfo, hi, Builtin.lenOf, Builtin.firstCells, hnc, storeCells]
  · have hnews : ∀ j u, (nums .u8 ys)[j]? = some u → W.cell? (ad.add j) = some u := by
      intro j u hu
      have hj : j < ys.length := by
        rcases Nat.lt_or_ge j ys.length with h | h
        · exact h
        · rw [List.getElem?_eq_none (by rw [nums_length]; exact h)] at hu
          cases hu
      obtain ⟨ad', h', hc⟩ := HR.2.2 (by omega)
      injection h' with h'
      subst h'
      rw [hc j (by omega), ← hu]
      simp [nums, List.getD_eq_getElem?_getD, List.getElem?_eq_getElem hj]
    have hone : ∀ u ∈ nums .u8 ys, u.oneCell' = true := by
      intro u hu
      simp only [nums, List.mem_map] at hu
      obtain ⟨q, _, rfl⟩ := hu
      rfl
    obtain ⟨v1, w1, hr, hown, hg, _, hat⟩ := run_append_own_at (P := Try.prog) W base 31 ty 5 i0 (.int .u8 0) 1 1 Try.underlying31 hi hz0 hz1 hz2 rfl (by decide) v xs.length (nums .u8 xs) HO ad m c (nums .u8 ys) (by rw [nums_length, hm, Nat.mul_one]) hnews hone (by simp only [maxLen]; omega) (by omega) hbase
    rw [← nums_append, ← hm, ← List.length_append] at hown
    exact ⟨v1, w1, by rw [hm] at *; exact hr, hown, hg, hat⟩
section
variable {ops : Array Oper} {o : Oper} {a : Act} {Q : Exit → Act → World → Prop} {K : Act → World → Prop}
theorem step_append_opt {w0 W : World} (base : Nat) (hw : Region.wanted o (yielded ops a.tmps) = true) (s x : Operand)
    (ho : o.op = .call { callee := .builtin .append, args := #[s, x], argTypes := #[31, 31] })
    (v : Value) (xs ys : List Int) (A : Option Addr) (m c : Nat) (hs : a.eval s = v) (hx : a.eval x = .slice A m c)
    (HO : W.ownsRow base 5 1 v xs.length (nums .u8 xs)) (HR : ReadsInt W .u8 A m ys) (HB : Below base w0 W) (hbase : base ≤ W.heap.size) (hl : xs.length + m ≤ 140737488355328)
    (h : ∀ v1 w1, w1.ownsRow base 5 1 v1 (xs ++ ys).length (nums .u8 (xs ++ ys)) → Below base w0 w1 → W.grownBy w1 v.ownBlock → K (a.put o.dst v1) w1) :
    if Region.wanted o (yielded ops a.tmps) = true then Oper.wp Try.prog o a W K Q else K (a.put o.dst undef) W := by
  rw [if_pos hw]
  obtain ⟨v1, w1, hr, hown, hg, _⟩ := run_append_opt (W := W) o.type base v xs ys A m c HO HR hbase hl
  unfold Oper.wp execOp
  simp only [ho, resolve, invoke, builtin, Sem.run_bind, Sem.run_pure, Result.andThen_ok, List.map_toArray, List.map_cons, List.map_nil, hs, hx, hr]
  exact h v1 w1 hown (HB.grown hg hbase (own_base HO)) hg
end
set_option maxHeartbeats 2000000 in
set_option maxRecDepth 100000 in
theorem rpeekC (g : Nat) (A : Option Addr) (c : Nat) (l : List Int) (j : Nat) (k : Int) (w : World) (h0 : w.cell? ⟨g, 0, none⟩ = some (.slice A l.length c)) (hC : Kd.C (Kd.int .u8) w A l.length l) (hc : l.length ≤ c) (hn : l.length ≤ 140737488355328) (hj : (j : Int) = max 0 (min k (l.length : Int))) :
    Calls Try.prog 22 #[.pointer (some ⟨g, 0, none⟩), .int .i64 k] w (BytesEnd w (l.take j)) := by
  obtain ⟨i0, hi, hzz⟩ := Option.map_eq_some_iff.1 info5b
  simp only [Prod.mk.injEq] at hzz
  obtain ⟨hz0, hz1, hz2⟩ := hzz
  have hjl : j ≤ l.length := by omega
  have hsl : ∀ W : World, (Instr.slice 31 (.slice A l.length c) none (some (.int .i64 (j : Int))) none).run Try.prog W = .ok (.slice A (l.take j).length c) W := by
    have h := (print_take_int (P := Try.prog) (k := .u8) 31 5 Try.underlying31 hi hz1 A c l (j : Int) (by omega) (by omega) hc).1
    rwa [Int.toNat_natCast] at h
  obtain ⟨m1, hm1⟩ : ∃ m, m = min k (l.length : Int) := ⟨_, rfl⟩
  have hmin : Builtin.min2 (.int .i64 k) (.int .i64 (l.length : Int)) = pure (.int .i64 m1) := by
    rw [min2_int]
    congr 2
    rw [hm1]
    split <;> omega
  have hmax : Builtin.max2 (.int .i64 0) (.int .i64 m1) = pure (.int .i64 (j : Int)) := by
    rw [max2_int]
    congr 2
    rw [hj, hm1]
    split <;> omega
  have HR : Hid (ReadsInt w .u8 A (l.take j).length (l.take j)) := Lib.hid (reads_take (Kd.reads_of_C (enc := Value.int .u8) (d := (0 : Int)) (h1 := fun _ => rfl) hC) j hjl)
  have HL : Hid ((l.take j).length ≤ 140737488355328) := Lib.hid (by rw [List.length_take]; omega)
  have HAD : Hid (∀ W, Below w.heap.size w W → W.cell? ⟨g, 0, none⟩ = some (.slice A l.length c)) := Lib.hid fun W hW => pw_cell_below hW h0
  clear hi hz0 hz1 hz2 hC hm1 hj hjl
  go_enter Try.func22, Try.ntmps22
  go_upto_region 1 with fail
  go_region_held3 (fun w' => w'.cell? ⟨g, 0, none⟩ = some (.slice A l.length c)) (first | exact h0 | exact HAD.out _ (by repeat (first | exact Below.refl _ _ | exact HB.out | apply below_drew1 | apply below_alloc)) | fail) (first | (refine step_append_opt (w0 := w) w.heap.size (by simp [Region.wanted]) (.tmp 5) (.tmp 18) rfl (.slice (some ⟨w.heap.size, 0, none⟩) 0 0) [] (l.take j) A (l.take j).length c (by simp [Act.eval]; try rfl) (by simp [Act.eval]; try rfl) (own_lit w.drew w.heap.size 5 .u8 [] (Nat.le_refl _) (by simp)) (HR.out.below (below_alloc (below_drew (Below.refl _ _)) _)) (below_alloc (below_drew (Below.refl _ _)) _) (by simp) (by have := HL.out; simp at this ⊢; omega) ?_; intro v1 w1 hown1 hb1 hg1; have HO := Lib.hid hown1; have HB := Lib.hid hb1; clear hown1 hb1 hg1) | fail)
  all_goals
    go_wp2_with fail
    go_ret
    exact ⟨_, rfl, HO.out, HB.out⟩
set_option maxHeartbeats 2000000 in
set_option maxRecDepth 100000 in
theorem rskip_end (g : Nat) (A : Option Addr) (n : Nat) (x : Nat) (w : World) (h0 : w.cell? ⟨g, 0, none⟩ = some (.slice A n n)) (h1 : w.cell? ⟨g, 1, none⟩ = some (.int .i64 x)) (hx : x ≤ 140737488355328) (hn : n ≤ 140737488355328) (hf : w.frozen? ⟨g, 1, none⟩ = false) (hf0 : w.frozen? ⟨g, 0, none⟩ = false) :
    Calls Try.prog 24 #[.pointer (some ⟨g, 0, none⟩), .int .i64 n] w fun e w' => e = .returned (.bool true) ∧ w' = (w.setCell ⟨g, 0, none⟩ (.slice A 0 0)).setCell ⟨g, 1, none⟩ (.int .i64 ((x : Int) + (n : Int))) := by
  go_enter Try.func24, Try.ntmps24
  go_wp2_with fail
  go_ret
  refine ⟨rfl, ?_⟩
  simp
end Go.Proofs.Ytadhfojgifhjcaa.Fl
