/- append onto the bytes of a string just converted: what it comes to, plainly and as a step of a region that draws its order. -/
import Derived.Test.YtflmpdfcbdfabaaWWorks
import Derived.ArgAppend
import Derived.Lib.ConvBytes
namespace Go.Proofs.Ytflmpdfcbdfabaa.Wd
open Go.RowKit Go.Proofs.YtflmpdfcbdfabaaW.PrintWords Go.Proofs.YtflmpdfcbdfabaaW.PrintLast Go.Proofs.YtflmpdfcbdfabaaW.PrintMore
/-- Block g holds xs at its head, and room for cap in all that may be written. -/
structure OwnB (W : World) (g n cap : Nat) (xs : List Int) : Prop where
  len : xs.length = n
  le : n ≤ cap
  cap_le : cap ≤ 9223372036854775807
  cell : ∀ j u, (nums .u8 xs)[j]? = some u → W.cell? ⟨g, j, none⟩ = some u
  room : ∀ j, j < cap → (W.cell? ⟨g, j, none⟩).isSome = true ∧ W.frozen? ⟨g, j, none⟩ = false
theorem OwnB.below {W w1 : World} {g n cap : Nat} {xs : List Int} (h : OwnB W g n cap xs) (hb : Below W.heap.size W w1) (hg : g < W.heap.size) : OwnB w1 g n cap xs :=
  ⟨h.len, h.le, h.cap_le, fun j u hu => (hb.cell (p := ⟨g, j, none⟩) hg).trans (h.cell j u hu), fun j hj => by rw [hb.cell (p := ⟨g, j, none⟩) hg, hb.frozen (p := ⟨g, j, none⟩) hg]; exact h.room j hj⟩
theorem OwnB.conv (W : World) (s : ByteArray) (hs : s.size ≤ 140737488355328) : OwnB (Lib.bytesWorld W 5 s) W.heap.size s.size (grownCap W s.size 0 5) (bytesOf s) := by
  have hge := grownCap_ge W s.size 0 5
  have hcm : grownCap W s.size 0 5 ≤ maxLen := grownCap_le_maxLen W s.size 0 5 (by simp only [maxLen]; omega)
  have hsz : (Lib.bytesCells W 5 s).size = grownCap W s.size 0 5 := by
    have h1 : s.data.size = s.size := rfl
    simp [Lib.bytesCells, h1]
    omega
  have hblk := Lib.bytesWorld_at_new W 5 s
  refine ⟨bytesOf_length s, hge, by simpa [maxLen] using hcm, fun j u hu => ?_, fun j hj => ?_⟩
  · have hj : j < s.size := by
      rcases Nat.lt_or_ge j s.size with h | h
      · exact h
      · rw [List.getElem?_eq_none (by rw [nums_length, bytesOf_length]; exact h)] at hu
        cases hu
    rw [Lib.bytesWorld_cell W 5 s j hj, ← hu]
    have h' : j < s.data.toList.length := by rw [data_length]; exact hj
    simp [nums, bytesOf, List.getD_eq_getElem?_getD, List.getElem?_eq_getElem h']
  · constructor
    · simp only [World.cell?, hblk]
      simp [hsz, hj]
    · simp [World.frozen?, hblk, hsz]
      omega
theorem OwnB.reads {W : World} {g n cap : Nat} {xs : List Int} (h : OwnB W g n cap xs) : Kd.C (Kd.int .u8) W (some ⟨g, 0, none⟩) xs.length xs := by
  refine Kd.C_of_reads (d := (0 : Int)) ⟨rfl, by have := h.len; have := h.le; have := h.cap_le; omega, fun _ => ⟨_, rfl, fun j hj => ?_⟩⟩
  rw [add_plain]
  exact h.cell j _ (by simp [nums, List.getElem?_eq_getElem hj, List.getD_eq_getElem?_getD])
theorem below_cells {B g : Nat} {w0 : World} : ∀ {W : World} (_ : Below B w0 W) (_ : B ≤ g) (o : Nat) (vs : List Value), Below B w0 (W.setCells g o vs) := by
  intro W h hg o vs
  induction vs generalizing W o with
  | nil => exact h
  | cons v vs ih => exact ih (h.setCell (p := ⟨g, o, none⟩) hg v) (o + 1)
/-- What append(b, ys...) comes to, b such a row. -/
theorem append_run {w0 W : World} {base g n cap m c : Nat} {xs ys : List Int} {A : Option Addr} (ty : TypeId) (HO : OwnB W g n cap xs) (HC : Kd.C (Kd.int .u8) W A m ys) (HB : Below base w0 W) (hg : base ≤ g) (hbase : base ≤ W.heap.size) (hlen : xs.length + ys.length ≤ 140737488355328) :
    ∃ A1 c1 w1, (Builtin.append_ #[30, 30] ty #[.slice (some ⟨g, 0, none⟩) n cap, .slice A m c]).run Try.prog W = .ok (.slice A1 (xs ++ ys).length c1) w1 ∧ Kd.C (Kd.int .u8) w1 A1 (xs ++ ys).length (xs ++ ys) ∧ (xs ++ ys).length ≤ c1 ∧ Below base w0 w1 := by
  obtain ⟨i, hi, hz⟩ := Option.map_eq_some_iff.1 info5
  simp only [Prod.mk.injEq] at hz
  obtain ⟨hz0, hz1, hz2⟩ := hz
  have HR : ReadsInt W .u8 A m ys := Kd.reads_of_C (enc := Value.int .u8) (d := (0 : Int)) (h1 := fun _ => rfl) HC
  have hm : ys.length = m := HR.1
  have hn := HO.len
  have hle := HO.le
  rcases A with _ | ad
  · have h0 : m = 0 := by
      rcases Nat.eq_zero_or_pos m with h0 | h0
      · exact h0
      · obtain ⟨ad, h, _⟩ := HR.2.2 h0
        cases h
    subst h0
    obtain rfl : ys = [] := List.eq_nil_of_length_eq_zero hm
    refine ⟨some ⟨g, 0, none⟩, cap, W, ?_, ?_, by simp; omega, HB⟩
    · simp [Builtin.append_, run_underlying Try.underlying30, sizeOf, typeInfo, hi, Builtin.lenOf, Builtin.firstCells, hle, storeCells, hn]
    · rw [List.append_nil]
      exact HO.reads
  · have hnews : ∀ j u, (nums .u8 ys)[j]? = some u → W.cell? (ad.add j) = some u := by
      intro j u hu
      have hj : j < ys.length := by
        rcases Nat.lt_or_ge j ys.length with h | h
        · exact h
        · rw [List.getElem?_eq_none (by rw [nums_length]; exact h)] at hu
          cases hu
      obtain ⟨ad', h', hc⟩ := HR.2.2 (by omega)
      injection h' with h'
      subst h'
      rw [hc j (by omega), ← hu]
      simp [nums, List.getD_eq_getElem?_getD, List.getElem?_eq_getElem hj]
    have hone : ∀ u ∈ nums .u8 ys, u.oneCell' = true := by
      intro u hu
      simp only [nums, List.mem_map] at hu
      obtain ⟨q, _, rfl⟩ := hu
      rfl
    by_cases hroom : n + m ≤ cap
    · have hr := run_append_room_cells (P := Try.prog) W 30 ty 5 i Try.underlying30 hi g 0 n cap ad m c (nums .u8 ys) (by rw [nums_length, hm, hz1, Nat.mul_one]) hnews hone hroom
        (fun j hj => by rw [nums_length] at hj; rw [hz1, Nat.mul_one, Nat.zero_add]; exact (HO.room (n + j) (by omega)).1)
        (fun j hj => by rw [nums_length] at hj; rw [hz1, Nat.mul_one, Nat.zero_add]; exact (HO.room (n + j) (by omega)).2)
      rw [hz1, Nat.mul_one, Nat.zero_add] at hr
      refine ⟨some ⟨g, 0, none⟩, cap, W.setCells g n (nums .u8 ys), ?_, ?_, by rw [List.length_append]; omega, below_cells HB hg _ _⟩
      · rw [hr, List.length_append, hn, hm]
      · refine Kd.C_of_reads (d := (0 : Int)) ⟨rfl, by have := HO.cap_le; rw [List.length_append]; omega, fun _ => ⟨_, rfl, fun j hj => ?_⟩⟩
        rw [add_plain]
        rw [List.length_append] at hj
        by_cases hjn : j < n
        · rw [World.cell?_setCells_out g _ _ _ _ (fun _ _ => .inl hjn), HO.cell j (.int .u8 (xs.getD j 0)) (by simp [nums, List.getElem?_eq_getElem (show j < xs.length by omega), List.getD_eq_getElem?_getD])]
          simp [List.getD_eq_getElem?_getD, List.getElem?_append_left (show j < xs.length by omega)]
        · have hin := World.cell?_setCells_in g (nums .u8 ys) n W (fun j hj => (HO.room (n + j) (by rw [nums_length] at hj; omega)).1) (j - n) (by rw [nums_length]; omega)
          rw [show n + (j - n) = j by omega] at hin
          rw [hin]
          simp [nums, List.getD_eq_getElem?_getD, List.getElem?_append_right (show xs.length ≤ j by omega), hn, List.getElem?_eq_getElem (show j - n < ys.length by omega)]
    · obtain ⟨v1, w1, hr, ho, hgr⟩ := run_append_arg_grows (P := Try.prog) W 30 ty 5 i (.int .u8 0) 1 1 Try.underlying30 hi hz0 hz1 hz2 rfl (by omega) ⟨g, 0, none⟩ n cap (nums .u8 xs) (by rw [nums_length, hn, Nat.mul_one]) (fun j u hu => by rw [add_plain]; exact HO.cell j u hu) ad m c (nums .u8 ys) (by rw [nums_length, hm, Nat.mul_one]) hnews (by omega) (by simp only [maxLen]; omega) (by omega)
      rw [← nums_append] at ho
      have hl : n + m = (xs ++ ys).length := by rw [List.length_append, hn, hm]
      rw [hl] at ho
      obtain ⟨A1, c1, rfl, hrd⟩ := own_reads ho
      have hcc : (xs ++ ys).length ≤ c1 := by
        rcases ho.2 with ⟨h, h2⟩ | ⟨g', cap', cur, h, _, _, h2, _⟩
        · injection h with _ h3 h4
          omega
        · injection h with _ h3 h4
          omega
      refine ⟨A1, c1, w1, hr, Kd.C_of_reads (d := (0 : Int)) hrd, hcc, ?_⟩
      exact HB.grown hgr hbase (fun k hk => by cases hk)
section
variable {ops : Array Oper} {o : Oper} {a : Act} {Q : Exit → Act → World → Prop} {K : Act → World → Prop}
/-- The same as a step of a region that draws its order. -/
theorem append_step {w0 W : World} {base g n cap m c : Nat} {xs ys : List Int} {A : Option Addr} (hw : Region.wanted o (yielded ops a.tmps) = true) (s x : Operand)
    (ho : o.op = .call { callee := .builtin .append, args := #[s, x], argTypes := #[30, 30] }) (hs : a.eval s = .slice (some ⟨g, 0, none⟩) n cap) (hx : a.eval x = .slice A m c)
    (HO : OwnB W g n cap xs) (HC : Kd.C (Kd.int .u8) W A m ys) (HB : Below base w0 W) (hg : base ≤ g) (hbase : base ≤ W.heap.size) (hlen : xs.length + ys.length ≤ 140737488355328)
    (h : ∀ A1 c1 w1, Kd.C (Kd.int .u8) w1 A1 (xs ++ ys).length (xs ++ ys) → (xs ++ ys).length ≤ c1 → Below base w0 w1 → K (a.put o.dst (.slice A1 (xs ++ ys).length c1)) w1) :
    if Region.wanted o (yielded ops a.tmps) = true then Oper.wp Try.prog o a W K Q else K (a.put o.dst undef) W := by
  obtain ⟨A1, c1, w1, hr, h1, h2, h3⟩ := append_run o.type HO HC HB hg hbase hlen
  rw [if_pos hw]
  unfold Oper.wp execOp
  simp only [ho, resolve, invoke, builtin, Sem.run_bind, Sem.run_pure, Result.andThen_ok, List.map_toArray, List.map_cons, List.map_nil, hs, hx]
  erw [hr]
  exact h A1 c1 w1 h1 h2 h3
end
end Go.Proofs.Ytflmpdfcbdfabaa.Wd
