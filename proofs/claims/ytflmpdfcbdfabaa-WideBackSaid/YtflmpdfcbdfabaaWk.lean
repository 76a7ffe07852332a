/- wide.Get, walked, whatever the kind, the state and the bytes. -/
import Derived.Test.YtflmpdfcbdfabaaWj
import Derived.Test.YtflmpdfcbdfabaaPWideSetsx2
namespace Go.Proofs.Ytflmpdfcbdfabaa.Wd
open Go.RowKit Go.Proofs.YtflmpdfcbdfabaaW.PrintWords Go.Proofs.YtflmpdfcbdfabaaW.PrintLast Go.Proofs.YtflmpdfcbdfabaaW.PrintMore
theorem neb {e : Int} (h : e ≠ 1) : (e != 1) = true := by simp [h]
theorem nat_of {n : Int} (h : n = 2 ∨ n = 4) : ∃ m : Nat, n = (m : Int) := by
  rcases h with rfl | rfl
  · exact ⟨2, rfl⟩
  · exact ⟨4, rfl⟩
theorem fit0 {marks : Bool} {bits acc held : Int} (h : Fit marks 0 bits acc held) : bits = 0 ∧ acc = 0 ∧ held = 0 := ⟨h.1, h.2.1, h.2.2.1⟩
theorem getC {kind mode bits acc held e k s u m : Int} {A : Option Addr} {c : Nat} {l : List Int} (w : World) (hC : Kd.C (Kd.int .u8) w A l.length l) (hc : l.length ≤ c) (hb : ∀ x ∈ l, Byte x) (h : GW kind mode bits acc held l e k s u m) :
    Calls Try.prog 11 #[.int .i64 kind, stV mode bits acc held, .slice A l.length c] w fun en w' => en = .returned (gotV e k s u m) ∧ Below w.heap.size w w' := by
  cases h with
  | kind h => exact get_kind kind mode bits acc held A l.length c w h
  | state n pairs marks low h hf => exact get_state kind mode bits acc held n pairs marks low A l.length c w h hf
  | markB n pairs low h hf h0 hl hx =>
    subst h0
    obtain ⟨rfl, rfl, rfl⟩ := fit0 hf
    obtain ⟨j, rfl⟩ := nat_of (shp_ok h).1
    rw [Int.toNat_natCast] at hx
    exact get_markB kind j pairs low A c l w h hf hC hc hb (by omega) hx
  | markL n pairs low h hf h0 hl hx hy =>
    subst h0
    obtain ⟨rfl, rfl, rfl⟩ := fit0 hf
    obtain ⟨j, rfl⟩ := nat_of (shp_ok h).1
    rw [Int.toNat_natCast] at hx hy
    exact get_markL kind j pairs low A c l w h hf hC hc hb (by omega) hx hy
  | noMark n pairs low e k c u h hf h0 hl hx hy hg he =>
    subst h0
    obtain ⟨rfl, rfl, rfl⟩ := fit0 hf
    obtain ⟨j, rfl⟩ := nat_of (shp_ok h).1
    rw [Int.toNat_natCast] at hx hy
    exact get_noMark kind j pairs low _ _ _ _ A _ l w h hf hC hc hb (by omega) hx hy hg (neb he)
  | noMore n pairs low k c u h hf h0 hl hx hy hg =>
    subst h0
    obtain ⟨rfl, rfl, rfl⟩ := fit0 hf
    obtain ⟨j, rfl⟩ := nat_of (shp_ok h).1
    rw [Int.toNat_natCast] at hx hy
    exact get_noMore kind j pairs low _ _ _ A _ l w h hf hC hc hb (by omega) hx hy hg
  | few n pairs low h hf h0 hl =>
    subst h0
    obtain ⟨rfl, rfl, rfl⟩ := fit0 hf
    exact get_few kind n 0 0 0 pairs low A c l w h hf hl hC hc hb (.short hl)
  | plain n pairs marks low e k c u h hf hm hg he =>
    obtain ⟨rfl, rfl, rfl, _⟩ := hf
    cases marks
    · exact get_plain kind mode n _ _ _ _ pairs low A _ l w h ⟨rfl, rfl, rfl, ‹_›⟩ hC hc hb hg (neb he)
    · exact get_behind kind mode n _ _ _ _ pairs low A _ l w h ⟨rfl, rfl, rfl, ‹_›⟩ (beq_eq_false_iff_ne.2 fun h0 => hm ⟨rfl, h0⟩) hC hc hb hg (neb he)
  | plainMore n pairs marks low k c u h hf hm hg =>
    obtain ⟨rfl, rfl, rfl, _⟩ := hf
    cases marks
    · exact get_more kind mode n _ _ _ pairs low A _ l w h ⟨rfl, rfl, rfl, ‹_›⟩ hC hc hb hg
    · exact get_behind_more kind mode n _ _ _ pairs low A _ l w h ⟨rfl, rfl, rfl, ‹_›⟩ (beq_eq_false_iff_ne.2 fun h0 => hm ⟨rfl, h0⟩) hC hc hb hg
def putV (e : Int) (s : ByteArray) (m : Int) : Value := .agg #[.int .i64 e, .string s, .int .i64 m, .int .i64 0, .int .u32 0, .int .i32 0]
open Go.Proofs.Ytflmpdfcbdfabaa.PWideSets in
theorem split_no {u : Int} (h : u < 65536 ∨ 1114111 < u) : ucs_Split.f u = some (0, 0, false) := by
  unfold ucs_Split.f
  rcases h with h | h
  · rw [if_pos h]
  · rw [if_neg (by omega), if_pos h]
open Go.Proofs.Ytflmpdfcbdfabaa.PWideSets in
theorem split_yes {u : Int} (h0 : 65536 ≤ u) (h1 : u ≤ 1114111) : ucs_Split.f u = some (55296 + (u - 65536) / 1024, 56320 + (u - 65536) % 1024, true) := by
  unfold ucs_Split.f
  have e0 : wrap32 (u - 65536) = u - 65536 := by unfold wrap32; omega
  rw [if_neg (by omega), if_neg (by omega), e0]
  have e1 : bits .and .i32 (u - 65536) 1023 = (u - 65536) % 1024 := bits_mask .i32 31 (by decide) wraps_i32' 10 (by decide) (u - 65536) (by omega) (by omega)
  rw [e1]
  have e2 : wrap32 (55296 + (u - 65536) / 1024) = 55296 + (u - 65536) / 1024 := by unfold wrap32; omega
  have e3 : wrap32 (56320 + (u - 65536) % 1024) = 56320 + (u - 65536) % 1024 := by unfold wrap32; omega
  rw [e2, e3]
open Go.Proofs.Ytflmpdfcbdfabaa.PWideSets in
theorem splitC_no {u : Int} (w : World) (h : u < 65536 ∨ 1114111 < u) : Calls Try.prog 20 #[.int .i32 u] w fun e w' => e = .returned (.tuple #[.int .i32 0, .int .i32 0, .bool false]) ∧ Drawn0 w w' :=
  ucs_Split.calls u _ _ _ w (split_no h)
open Go.Proofs.Ytflmpdfcbdfabaa.PWideSets in
theorem splitC {u : Int} (w : World) (h0 : 65536 ≤ u) (h1 : u ≤ 1114111) : Calls Try.prog 20 #[.int .i32 u] w fun e w' => e = .returned (.tuple #[.int .i32 (55296 + (u - 65536) / 1024), .int .i32 (56320 + (u - 65536) % 1024), .bool true]) ∧ Drawn0 w w' :=
  ucs_Split.calls u _ _ _ w (split_yes h0 h1)
theorem bytesC (low : Bool) (n x : Int) (w : World) (hn : n = 2 ∨ n = 4) : Calls Try.prog (fb low) #[.int .u32 x, .int .i64 n] w (BytesEnd w (un low n x)) := by
  cases low
  · exact bigS n x w hn
  · exact littleS n x w hn
section
variable {ops : Array Oper} {o : Oper} {a : Act} {Q : Exit → Act → World → Prop} {K : Act → World → Prop}
/-- append onto a row of the call's own, as a step of a region that draws its order. -/
theorem step_append_row {w0 W : World} (base : Nat) (hw : Region.wanted o (yielded ops a.tmps) = true) (s x : Operand)
    (ho : o.op = .call { callee := .builtin .append, args := #[s, x], argTypes := #[30, 30] })
    (v : Value) (xs ys : List Int) (ad : Addr) (m c : Nat) (hs : a.eval s = v) (hx : a.eval x = .slice (some ad) m c)
    (HO : W.ownsRow base 5 1 v xs.length (nums .u8 xs)) (HR : ReadsInt W .u8 (some ad) m ys) (HB : Below base w0 W) (hbase : base ≤ W.heap.size) (hl : xs.length + m ≤ 140737488355328)
    (h : ∀ v1 w1, w1.ownsRow base 5 1 v1 (xs ++ ys).length (nums .u8 (xs ++ ys)) → Below base w0 w1 → W.grownBy w1 v.ownBlock → K (a.put o.dst v1) w1) :
    if Region.wanted o (yielded ops a.tmps) = true then Oper.wp Try.prog o a W K Q else K (a.put o.dst undef) W := by
  obtain ⟨i0, hi, hzz⟩ := Option.map_eq_some_iff.1 info5
  simp only [Prod.mk.injEq] at hzz
  obtain ⟨hz0, hz1, hz2⟩ := hzz
  have hm : ys.length = m := HR.1
  have hnews : ∀ j u, (nums .u8 ys)[j]? = some u → W.cell? (ad.add j) = some u := by
    intro j u hu
    have hj : j < ys.length := by
      rcases Nat.lt_or_ge j ys.length with h | h
      · exact h
      · rw [List.getElem?_eq_none (by rw [nums_length]; exact h)] at hu
        cases hu
    obtain ⟨ad', h', hc⟩ := HR.2.2 (by omega)
    injection h' with h'
    subst h'
    rw [hc j (by omega), ← hu]
    simp [nums, List.getD_eq_getElem?_getD, List.getElem?_eq_getElem hj]
  have hone : ∀ u ∈ nums .u8 ys, u.oneCell' = true := by
    intro u hu
    simp only [nums, List.mem_map] at hu
    obtain ⟨q, _, rfl⟩ := hu
    rfl
  rw [if_pos hw]
  obtain ⟨v1, w1, hr, hown, hg, _, _⟩ := run_append_own_at (P := Try.prog) W base 30 o.type 5 i0 (.int .u8 0) 1 1 Try.underlying30 hi hz0 hz1 hz2 rfl (by decide) v xs.length (nums .u8 xs) HO ad m c (nums .u8 ys) (by rw [nums_length, hm, Nat.mul_one]) hnews hone (by simp only [maxLen]; omega) (by omega) hbase
  unfold Oper.wp execOp
  simp only [ho, resolve, invoke, builtin, Sem.run_bind, Sem.run_pure, Result.andThen_ok, List.map_toArray, List.map_cons, List.map_nil, hs, hx, hr]
  refine h v1 w1 ?_ (HB.grown hg hbase (own_base HO)) hg
  rw [← nums_append, ← hm, ← List.length_append] at hown
  exact hown
end
end Go.Proofs.Ytflmpdfcbdfabaa.Wd
