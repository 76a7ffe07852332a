/- Flow: append of a string to a row of bytes of the call's own, and where the new row lies. -/
import Derived.Test.YtadhfojgifhjcaaFlR
namespace Go.Proofs.Ytadhfojgifhjcaa.Fl
open Go.RowKit Go.Proofs.YtadhfojgifhjcaaW.PrintWords Go.Proofs.YtadhfojgifhjcaaW.PrintLast Go.Proofs.YtadhfojgifhjcaaW.PrintMore
set_option linter.unusedVariables false
theorem append_str_at {P : Program} {w : World} (base : Nat) (t u ty e : TypeId) (ht : P.underlying t = some (.slice e)) (hu : P.underlying u = some .string) (hinfo : (P.info? e).map (fun i => (i.zero, i.size, i.bytes)) = some (some (.int .u8 0), 1, 1))
    (v : Value) (xs : List Int) (HO : w.ownsRow base e 1 v xs.length (nums .u8 xs)) (y : ByteArray) (hl : xs.length + y.size ≤ 140737488355328) (hbase : base ≤ w.heap.size) :
    ∃ v1 w1, (Builtin.append_ #[t, u] ty #[v, .string y]).run P w = .ok v1 w1 ∧ w1.ownsRow base e 1 v1 (xs ++ bytesOf y).length (nums .u8 (xs ++ bytesOf y)) ∧ w.grownBy w1 v.ownBlock ∧ (v1.ownBlock = v.ownBlock ∨ v1.ownBlock = some w.heap.size) := by
  obtain ⟨i0, hi, hzz⟩ := Option.map_eq_some_iff.1 hinfo
  simp only [Prod.mk.injEq] at hzz
  obtain ⟨hz0, hz1, hz2⟩ := hzz
  obtain ⟨v1, w1, hr, h2, h3, h4⟩ := Lib.run_append_own_string (P := P) w base t u ty e i0 ht hu hi hz0 hz1 hz2 v xs.length (nums .u8 xs) HO y (by simp only [maxLen]; omega) hl hbase
  refine ⟨v1, w1, hr, ?_, h3, ?_⟩
  · have e1 : (xs ++ bytesOf y).length = xs.length + y.size := by rw [List.length_append, bytesOf_length]
    have e2 : nums .u8 (xs ++ bytesOf y) = nums .u8 xs ++ Lib.strCells y := by
      rw [nums_append]
      congr 1
      simp [nums, bytesOf, Lib.strCells]
    rw [e1, e2]
    exact h2
  · rcases HO.2 with ⟨rfl, _⟩ | ⟨g, cap, cur, rfl, hbg, hg, hnc, hcm, hcs, htake⟩
    · by_cases hm : y.size = 0
      · exact .inl (by rw [h4.2 ⟨rfl, hm⟩])
      · have hr' := run_append_nil_string (P := P) w t u ty e i0 (.int .u8 0) ht hu hi hz0 y (by omega) (by omega) (by rw [hz2]; omega)
        rw [hr'] at hr
        injection hr with hr _
        exact .inr (by rw [← hr]; rfl)
    · by_cases hroom : xs.length + y.size ≤ cap
      · have hr' := Lib.run_append_room_string (P := P) w t u ty e i0 ht hu hi hz1 g xs.length cap cur hg y hroom (by rw [show cur.size = cap by simpa using hcs]; exact hroom)
        rw [hr'] at hr
        injection hr with hr _
        exact .inl (by rw [← hr]; rfl)
      · have holds : ∀ j u, (nums .u8 xs)[j]? = some u → w.cell? ((⟨g, 0, none⟩ : Addr).add j) = some u := HO.cells (g := g) rfl
        have hr' := Lib.run_append_grow_string (P := P) w t u ty e i0 (.int .u8 0) ht hu hi hz0 ⟨g, 0, none⟩ xs.length cap (nums .u8 xs) (by rw [hz1, nums_length, Nat.mul_one]) holds y (by omega) (by omega) (by rw [hz2]; exact growslice_fits (by omega) (by omega))
        rw [hr'] at hr
        injection hr with hr _
        exact .inr (by rw [← hr]; rfl)
theorem put_append {P : Program} {ops : Array Oper} {rest : List Oper} {o : Oper} {a : Act} {Q : Exit → Act → World → Prop} {w : World} (base : Nat) (hgd : o.guard = none) (s x : Operand) (t u e : TypeId)
    (ho : o.op = .call { callee := .builtin .append, args := #[s, x], argTypes := #[t, u] })
    (ht : P.underlying t = some (.slice e)) (hu : P.underlying u = some .string) (hinfo : (P.info? e).map (fun i => (i.zero, i.size, i.bytes)) = some (some (.int .u8 0), 1, 1))
    (v : Value) (xs : List Int) (y : ByteArray) (zs : List Int) (hzs : zs = xs ++ bytesOf y) (hs : a.eval s = v) (hx : a.eval x = .string y) (HO : w.ownsRow base e 1 v xs.length (nums .u8 xs)) (hl : xs.length + y.size ≤ 140737488355328) (hbase : base ≤ w.heap.size)
    (h : ∀ A1 c1 w1, w1.ownsRow base e 1 (.slice A1 zs.length c1) zs.length (nums .u8 zs) → w.grownBy w1 v.ownBlock → ((Value.slice A1 zs.length c1).ownBlock = v.ownBlock ∨ (Value.slice A1 zs.length c1).ownBlock = some w.heap.size) → wpList P ops Q rest (a.put o.dst (.slice A1 zs.length c1)) w1) :
    wpList P ops Q (o :: rest) a w := by
  refine wpList_plain hgd fun K hK => ?_
  obtain ⟨v1, w1, hr, h2, h3, h4⟩ := append_str_at (P := P) base t u o.type e ht hu hinfo v xs HO y hl hbase
  subst hzs
  obtain ⟨A1, c1, rfl⟩ := own_slice h2
  unfold Oper.wp execOp
  simp only [ho, resolve, invoke, builtin, Sem.run_bind, Sem.run_pure, Result.andThen_ok, List.map_toArray, List.map_cons, List.map_nil, hs, hx, hr]
  exact hK _ _ (h A1 c1 w1 h2 h3 h4)
end Go.Proofs.Ytadhfojgifhjcaa.Fl
