/- dense.New, walked. -/
import Derived.Test.YtkbblppoalgkmaaDeS
import Derived.Deep.CutBlock
import Derived.Deep.DeepCutAuto
namespace Go.Proofs.Ytkbblppoalgkmaa.De
open Go.RowKit Go.Maps Go.Proofs.YtkbblppoalgkmaaW.PrintWords Go.Proofs.YtkbblppoalgkmaaW.PrintLast Go.Proofs.YtkbblppoalgkmaaW.PrintMore
set_option linter.unusedVariables false
set_option linter.unusedSimpArgs false
theorem on {w w1 w2 : World} (h : Below w.heap.size w w1) (k : Below w1.heap.size w1 w2) : Below w.heap.size w w2 := below_step h k
theorem err_field {first : Int} {s : ByteArray} (h0 : ¬ (first < 0 ∨ 255 < first)) (h1 : vb s = false) : errOf first s = 3 := by
  unfold errOf
  rw [if_neg h0, if_pos h1]
theorem err_long {first : Int} {s : ByteArray} (h0 : ¬ (first < 0 ∨ 255 < first)) (h1 : vb s = true) (h2 : 256 < first + ((runes s).length : Int)) : errOf first s = 8 := by
  unfold errOf
  rw [if_neg h0, if_neg (by rw [h1]; decide), if_pos h2]
theorem err_ok {first : Int} {s : ByteArray} (h0 : ¬ (first < 0 ∨ 255 < first)) (h1 : vb s = true) (h2 : ¬ 256 < first + ((runes s).length : Int)) : errOf first s = 0 := by
  unfold errOf
  rw [if_neg h0, if_neg (by rw [h1]; decide), if_neg h2]
theorem new_range (first : Int) (s : ByteArray) (w : World) (h0 : first < 0 ∨ 255 < first) : Calls Try.prog 7 #[.int .i64 first, .string s] w (NewEnd first s w) := by
  have he : errOf first s = 2 := if_pos h0
  have HE := Lib.hid he
  clear he
  go_enter Try.func7, Try.ntmps7
  by_cases h1 : first < 0
  · go_wp2_with fail
    go_ret2
    exact ⟨Below.refl _ _, .inl ⟨by rw [HE.out]; decide, by rw [HE.out]; rfl⟩⟩
  · have h2 : first > 255 := by omega
    go_wp2_with fail
    go_ret2
    exact ⟨Below.refl _ _, .inl ⟨by rw [HE.out]; decide, by rw [HE.out]; rfl⟩⟩
theorem own_far {w : World} {g t base e n : Nat} {v : Value} {xs : List Value} {cs : Array Value} (h : w.ownsRow base e 1 v n xs) (hb : w.heap[g]? = some (.cells cs t (0, 0))) (ht : e ≠ t) (j : Nat) (u : Value) : (w.setCell ⟨g, j, none⟩ u).ownsRow base e 1 v n xs := by
  refine own_move h fun q hq => Below.heap_setCell w ⟨g, j, none⟩ u q ?_
  obtain ⟨cells, hc⟩ := own_typed h q hq
  show q ≠ g
  rintro rfl
  rw [hc] at hb
  injection hb with hb
  injection hb with _ hb
  exact ht hb
/-- The table while it is being made, beside the text's iterator. -/
def Mid (w wr : World) (gi g mb : Nat) (first : Int) (s : ByteArray) (pos : Nat) (L : List Int) (v : Value) (D : DataW Unit) : Prop :=
  wr.heap[gi]? = some (.stringIter s pos) ∧ wr.heap[g]? = some (.cells #[.int .i64 first, .string s, v, .map (some mb)] 44 (0, 0)) ∧ wr.ownsRow w.heap.size 21 1 v L.length (nums .i32 L) ∧ wr.ownsMap Try.prog 21 (plainElem Try.prog 5) mb L.length D ∧ Spec first L D ∧ w.heap.size ≤ g ∧ w.heap.size ≤ mb ∧ w.heap.size ≤ gi ∧ Below w.heap.size w wr
section
variable {w wr : World} {gi g mb : Nat} {first : Int} {s : ByteArray} {pos : Nat} {L : List Int} {v : Value} {D : DataW Unit}
theorem Mid.iter (h : Mid w wr gi g mb first s pos L v D) (pos' : Nat) : Mid w (wr.iterAt gi s pos') gi g mb first s pos' L v D := by
  obtain ⟨h1, h2, h3, h4, h5, h6, h7, h8, h9⟩ := h
  have hg : g ≠ gi := by
    rintro rfl
    rw [h1] at h2
    cases h2
  have hm : mb ≠ gi := by
    obtain ⟨es, c, k1, r⟩ := h4
    rintro rfl
    rw [h1] at k1
    cases k1
  refine ⟨Lib.iterAt_heap wr gi s pos pos' h1, (Lib.iterAt_other wr gi g s pos' hg).trans h2, own_move h3 fun q hq => Lib.iterAt_other wr gi q s pos' ?_, map_keep h4 (Lib.iterAt_other wr gi mb s pos' hm), h5, h6, h7, h8, Lib.below_iterAt h9 h8 s pos'⟩
  obtain ⟨cells, hc⟩ := own_typed h3 q hq
  rintro rfl
  rw [h1] at hc
  cases hc
/-- A scalar behind the others, in its row and in the table's cell. -/
theorem Mid.app (h : Mid w wr gi g mb first s pos L v D) {w7 : World} {v7 : Value} {u : Int} (ho : w7.ownsRow w.heap.size 21 1 v7 (L ++ [u]).length (nums .i32 (L ++ [u]))) (hb7 : Below w.heap.size w w7) (hg7 : wr.grownBy w7 v.ownBlock) :
    w7.heap[g]? = some (.cells #[.int .i64 first, .string s, v, .map (some mb)] 44 (0, 0)) ∧ (w7.setCell ⟨g, 2, none⟩ v7).heap[gi]? = some (.stringIter s pos) ∧ (w7.setCell ⟨g, 2, none⟩ v7).heap[g]? = some (.cells #[.int .i64 first, .string s, v7, .map (some mb)] 44 (0, 0)) ∧ (w7.setCell ⟨g, 2, none⟩ v7).ownsRow w.heap.size 21 1 v7 (L ++ [u]).length (nums .i32 (L ++ [u])) ∧ (w7.setCell ⟨g, 2, none⟩ v7).ownsMap Try.prog 21 (plainElem Try.prog 5) mb L.length D ∧ Below w.heap.size w (w7.setCell ⟨g, 2, none⟩ v7) := by
  obtain ⟨h1, h2, h3, h4, h5, h6, h7, h8, h9⟩ := h
  have hgv : some g ≠ v.ownBlock := by
    intro he
    obtain ⟨cells, hc⟩ := own_typed h3 g he.symm
    rw [h2] at hc
    injection hc with hc
    injection hc with _ hc
    exact absurd hc (by decide)
  have hiv : some gi ≠ v.ownBlock := by
    intro he
    obtain ⟨cells, hc⟩ := own_typed h3 gi he.symm
    rw [h1] at hc
    cases hc
  have hmv : some mb ≠ v.ownBlock := by
    intro he
    obtain ⟨cells, hc⟩ := own_typed h3 mb he.symm
    exact map_ne h4 hc rfl
  have hgi : gi ≠ g := by
    rintro rfl
    rw [h1] at h2
    cases h2
  have hmg : mb ≠ g := map_ne h4 h2
  have k2 : w7.heap[g]? = some (.cells #[.int .i64 first, .string s, v, .map (some mb)] 44 (0, 0)) := blk_grown h2 hg7 hgv
  have k1 : w7.heap[gi]? = some (.stringIter s pos) := (hg7.block gi (Array.getElem?_eq_some_iff.1 h1).1 hiv).trans h1
  have k4 := map_keep h4 (hg7.block mb (map_lt h4) hmv)
  exact ⟨k2, (Below.heap_setCell w7 ⟨g, 2, none⟩ v7 gi hgi).trans k1, blk_set k2 2 v7, own_far ho k2 (by decide) 2 v7, map_keep k4 (Below.heap_setCell w7 ⟨g, 2, none⟩ v7 mb hmg), hb7.setCell h6 _⟩
/-- A new scalar in the map. -/
theorem mid_put {w8 w9 : World} {L' : List Int} {v7 : Value} {n : Nat} {D' : DataW Unit} (h1 : w8.heap[gi]? = some (.stringIter s pos)) (h2 : w8.heap[g]? = some (.cells #[.int .i64 first, .string s, v7, .map (some mb)] 44 (0, 0))) (h3 : w8.ownsRow w.heap.size 21 1 v7 L'.length (nums .i32 L')) (h0 : w8.ownsMap Try.prog 21 (plainElem (H := Unit) Try.prog 5) mb n D) (hb : Below w.heap.size w w8)
    (h4 : w9.ownsMap Try.prog 21 (plainElem Try.prog 5) mb L'.length D') (hg : w8.grownBy w9 (some mb)) (h5 : Spec first L' D') (h6 : w.heap.size ≤ g) (h7 : w.heap.size ≤ mb) (h8 : w.heap.size ≤ gi) : Mid w w9 gi g mb first s pos L' v7 D' := by
  have hmg : mb ≠ g := map_ne h0 h2
  have hmi : mb ≠ gi := by
    obtain ⟨es, c, k1, r⟩ := h0
    rintro rfl
    rw [h1] at k1
    cases k1
  refine ⟨(hg.block gi (Array.getElem?_eq_some_iff.1 h1).1 (by simpa using Ne.symm hmi)).trans h1, (hg.block g (Array.getElem?_eq_some_iff.1 h2).1 (by simpa using Ne.symm hmg)).trans h2, own_move h3 fun q hq => ?_, h4, h5, h6, h7, h8, hb.grown hg hb.size (fun j hj => by cases hj; exact h7)⟩
  obtain ⟨cells, hc⟩ := own_typed h3 q hq
  exact hg.block q (Array.getElem?_eq_some_iff.1 hc).1 (by
    have := map_ne h0 hc
    simpa using Ne.symm this)
end
set_option maxHeartbeats 8000000 in
set_option maxRecDepth 100000 in
theorem new_in (first : Int) (s : ByteArray) (w : World) (h0 : 0 ≤ first) (h1 : first ≤ 255) (hs : s.size ≤ 1000000) : Calls Try.prog 7 #[.int .i64 first, .string s] w (NewEnd first s w) := by
  have h2 : ¬ first < 0 := by omega
  have h3 : ¬ first > 255 := by omega
  have hr : ¬ (first < 0 ∨ 255 < first) := by omega
  have HR := Lib.hid hr
  have HS := Lib.hid hs
  clear hr
  have kconv : ∀ W : World, (convert 9 41 (.string s)).run Try.prog W = .ok (.slice (some ⟨W.heap.size, 0, none⟩) s.size (grownCap W s.size 0 5)) (Lib.bytesWorld W 5 s) := fun W => Lib.run_convert_string_bytes W 9 41 5 s Try.underlying9 Try.underlying41 Try.underlying5
  have hmm := @run_makeMap Try.prog
  obtain ⟨b, hb⟩ : ∃ b, b = vb s := ⟨_, rfl⟩
  have HV : Hid (Calls Try.prog 14 #[.slice (some ⟨w.heap.size, 0, none⟩) s.size (grownCap w s.size 0 5)] (Lib.bytesWorld w 5 s) fun e w' => ∃ n, e = .returned (.tuple #[.int .i64 n, .bool b]) ∧ Below (Lib.bytesWorld w 5 s).heap.size (Lib.bytesWorld w 5 s) w') := Lib.hid (by
    have h := U8.validC (some ⟨w.heap.size, 0, none⟩) (grownCap w s.size 0 5) (bytesOf s) (Lib.bytesWorld w 5 s) (bytes_C w s (by omega)) (by rw [bytesOf_length]; exact grownCap_ge _ _ _ _) (bytes_byte s) (by rw [bytesOf_length]; omega)
    rw [bytesOf_length] at h
    rw [hb, vb, bytesOf_length]
    exact h)
  have HB := Lib.hid hb
  clear hb
  go_enter Try.func7, Try.ntmps7
  go_wp2_with fail
  refine HV.out.mono ?_
  rintro e w1 ⟨n, rfl, hb1⟩
  have HB1 := Lib.hid (on (bytes_below w s) hb1)
  clear hb1 HV kconv
  cases b with
  | false =>
    go_wp2_with fail
    go_ret2
    exact ⟨HB1.out, .inl ⟨by rw [err_field HR.out HB.out.symm]; decide, by rw [err_field HR.out HB.out.symm]; rfl⟩⟩
  | true =>
    have HVB : Hid (vb s = true) := Lib.hid HB.out.symm
    clear HB
    go_wp2_with fail
    obtain ⟨gm, hgm⟩ : ∃ gm, gm = w1.heap.size := ⟨_, rfl⟩
    have HM0 : Hid (Mid w (((w1.alloc (Obj.map #[] 0)).alloc (Obj.cells #[Value.int IntKind.i64 first, Value.string s, Value.slice none 0 0, Value.map (some w1.heap.size)] 44)).iter s 0) (w1.heap.size + 1 + 1) (w1.heap.size + 1) w1.heap.size first s 0 [] (.slice none 0 0) (.map [])) := Lib.hid (by
      have hz := HB1.out.size
      have hba : Below w1.heap.size w1 (((w1.alloc (Obj.map #[] 0)).alloc (Obj.cells #[Value.int IntKind.i64 first, Value.string s, Value.slice none 0 0, Value.map (some w1.heap.size)] 44)).iter s 0) := below_alloc (below_alloc (below_alloc (Below.refl _ _) _) _) _
      refine ⟨?_, ?_, own_nil _ _ _ _, ?_, spec_nil first, by omega, by omega, by omega, on HB1.out hba⟩
      · have := World.iter_heap ((w1.alloc (Obj.map #[] 0)).alloc (Obj.cells #[Value.int IntKind.i64 first, Value.string s, Value.slice none 0 0, Value.map (some w1.heap.size)] 44)) s 0
        simpa using this
      · have h1 := heap_alloc_new (w1.alloc (Obj.map #[] 0)) (Obj.cells #[Value.int IntKind.i64 first, Value.string s, Value.slice none 0 0, Value.map (some w1.heap.size)] 44)
        have h2 : Below _ ((w1.alloc (Obj.map #[] 0)).alloc (Obj.cells #[Value.int IntKind.i64 first, Value.string s, Value.slice none 0 0, Value.map (some w1.heap.size)] 44)) _ := below_alloc (Below.refl _ _) (.stringIter s 0)
        have h3 := h2.block (w1.heap.size + 1) (by simp)
        refine h3.trans ?_
        simpa using h1
      · have h1 := World.ownsMap_made w1 Try.prog 21 (plainElem (H := Unit) Try.prog 5)
        have h2 : Below (w1.alloc (Obj.map #[] 0)).heap.size (w1.alloc (Obj.map #[] 0)) (((w1.alloc (Obj.map #[] 0)).alloc (Obj.cells #[Value.int IntKind.i64 first, Value.string s, Value.slice none 0 0, Value.map (some w1.heap.size)] 44)).iter s 0) := below_alloc (below_alloc (Below.refl _ _) _) _
        exact map_keep h1 (h2.block w1.heap.size (by simp)))
    clear hmm hgm
    generalize (((w1.alloc (Obj.map #[] 0)).alloc (Obj.cells #[Value.int IntKind.i64 first, Value.string s, Value.slice none 0 0, Value.map (some w1.heap.size)] 44)).iter s 0) = W0 at *
    obtain ⟨gi, hgi⟩ : ∃ gi, gi = w1.heap.size + 1 + 1 := ⟨_, rfl⟩
    rw [← hgi] at HM0 ⊢
    obtain ⟨g, hg⟩ : ∃ g, g = w1.heap.size + 1 := ⟨_, rfl⟩
    rw [← hg] at HM0 ⊢
    clear hgi hg
    generalize w1.heap.size = mb at *
    go_loopw [] (fun wr => ∃ (pos f : Nat) (L : List Int) (v : Value) (D : DataW Unit), s.size ≤ pos + f ∧ first + (L.length : Int) ≤ 256 ∧ Hid (L ++ runesF s f pos = runes s) ∧ Hid (Mid w wr gi g mb first s pos L v D)) (fun wr => s.size - wr.iterPos gi)
    case atStart => exact ⟨0, s.size, [], _, _, by omega, by simp; omega, Lib.hid (by rw [List.nil_append]; rfl), HM0⟩
    case round =>
      obtain ⟨pos, f, L, v, D, hpf, hlen, HL, HMM⟩ := hrel
      clear HM0
      by_cases hp : pos < s.size
      · obtain ⟨f, rfl⟩ : ∃ k, f = k + 1 := ⟨f - 1, by omega⟩
        obtain ⟨hd1, hd2⟩ := dec_pos s pos hp
        have hI := HMM.out.1
        obtain ⟨u, hu⟩ : ∃ u : Int, u = ((Utf8.decode s pos).1 : Int) := ⟨_, rfl⟩
        obtain ⟨d, hd⟩ : ∃ d : Nat, d = (Utf8.decode s pos).2 := ⟨_, rfl⟩
        have hnx : ∀ ty, (Instr.next (.pointer (some ⟨gi, 0, none⟩)) true ty).run Try.prog wr = .ok (.tuple #[.bool true, .int .i64 pos, .int .i32 u]) (wr.iterAt gi s (pos + d)) := fun ty => by
          rw [Lib.run_next_any_at wr gi s pos ty hI hp, hu, hd]
        have HL2 : Hid ((L ++ [u]) ++ runesF s f (pos + d) = runes s) := Lib.hid (by
          have := HL.out
          rw [runesF, if_pos hp, ← hu, ← hd] at this
          rw [List.append_assoc]
          exact this)
        have hu0 : 0 ≤ u ∧ u ≤ 2147483647 := by omega
        have hwf : (Lit.int .i32 u).wf = true := by simp [Lit.wf, IntKind.min, IntKind.max, IntKind.signed, IntKind.bits]; omega
        have HI := Lib.hid hI
        have HW := Lib.hid hwf
        have HD1 : Hid (1 ≤ d) := Lib.hid (by rw [hd]; exact hd1)
        have HP := Lib.hid hp
        have HM3 := Lib.hid (HMM.out.iter (pos + d))
        obtain ⟨A, c, rfl⟩ := own_slice HM3.out.2.2.1
        have c2 := blk_cell HM3.out.2.1 2
        have c3 := blk_cell HM3.out.2.1 3
        clear hu hd hd1 hd2 hI hwf HL HMM hp
        have hwl : wrap64 (first + (L.length : Int)) = first + (L.length : Int) := by unfold wrap64; omega
        obtain ⟨W3, hW3⟩ : ∃ W, W = wr.iterAt gi s (pos + d) := ⟨_, rfl⟩
        rw [← hW3] at hnx HM3 c2 c3
        clear hW3
        by_cases hlong : first + (L.length : Int) > 255
        · have HE : Hid (errOf first s = 8) := Lib.hid (err_long HR.out HVB.out (by
            have := congrArg List.length HL2.out
            simp only [List.length_append, List.length_singleton] at this
            omega))
          go_wp2_with fail
          go_ret2
          exact ⟨HM3.out.2.2.2.2.2.2.2.2, .inl ⟨by rw [HE.out]; decide, by rw [HE.out]; rfl⟩⟩
        · have HK : Hid (keyOf Try.prog 21 (.int .i32 u) = some (.int .i32 u)) := Lib.hid (keyOf_int_mk Try.underlying21 HW.out)
          have hSp := HM3.out.2.2.2.2.1
          have HSp := Lib.hid hSp
          have hlen1 : (L ++ [u]).length = L.length + 1 := by simp
          have HLEN := Lib.hid hlen1
          clear hSp hlen1
          by_cases hin : u = 65533 ∨ u ∈ L
          · have HIN := Lib.hid hin
            have hfin : ∀ (w7 : World) (A7 : Option Addr) (c7 : Nat), (w7.heap[g]? = some (.cells #[.int .i64 first, .string s, .slice A L.length c, .map (some mb)] 44 (0, 0)) ∧ (w7.setCell ⟨g, 2, none⟩ (.slice A7 (L.length + 1) c7)).heap[gi]? = some (.stringIter s (pos + d)) ∧ (w7.setCell ⟨g, 2, none⟩ (.slice A7 (L.length + 1) c7)).heap[g]? = some (.cells #[.int .i64 first, .string s, .slice A7 (L.length + 1) c7, .map (some mb)] 44 (0, 0)) ∧ (w7.setCell ⟨g, 2, none⟩ (.slice A7 (L.length + 1) c7)).ownsRow w.heap.size 21 1 (.slice A7 (L.length + 1) c7) (L ++ [u]).length (nums .i32 (L ++ [u])) ∧ (w7.setCell ⟨g, 2, none⟩ (.slice A7 (L.length + 1) c7)).ownsMap Try.prog 21 (plainElem Try.prog 5) mb L.length D ∧ Below w.heap.size w (w7.setCell ⟨g, 2, none⟩ (.slice A7 (L.length + 1) c7))) → Mid w (w7.setCell ⟨g, 2, none⟩ (.slice A7 (L.length + 1) c7)) gi g mb first s (pos + d) (L ++ [u]) (.slice A7 (L.length + 1) c7) D := fun w7 A7 c7 h =>
              ⟨h.2.1, h.2.2.1, h.2.2.2.1, World.ownsMap.mono h.2.2.2.2.1 (by rw [HLEN.out]; omega), spec_keep HSp.out u HIN.out, HM3.out.2.2.2.2.2.1, HM3.out.2.2.2.2.2.2.1, HM3.out.2.2.2.2.2.2.2.1, h.2.2.2.2.2⟩
            have HFIN := Lib.hid hfin
            clear hfin
            by_cases h65 : u = 65533
            · have HHAS : Hid (Maps.has D (.int .i32 u) = false) := Lib.hid (by rw [(HSp.out.2 u).1]; unfold bOk; simp [h65])
              have e65 : (u == 65533) = true := by rw [h65]; rfl
              clear hin h65
              go_wp2_with (first
            | (at_builtin; refine print_append_num w.heap.size rfl (.tmp 51) (.tmp 53) 33 21 .i32 4 rfl Try.underlying33 info21 (by omega) (.slice A L.length c) L u rfl (by first | (go_simp; done) | (go_simp; rfl)) HM3.out.2.2.1 HM3.out.2.2.2.2.2.2.2.2 HM3.out.2.2.2.2.2.2.2.2.size (by omega) ?_; intro v7 w7 hown7 hb7 hg7 hat7; obtain ⟨A7, c7, hv7⟩ := own_slice hown7; rw [HLEN.out] at hv7; subst hv7; have HAP := Lib.hid (HM3.out.app hown7 hb7 hg7); have hc7 := blk_cell HAP.out.1 2; have hf7 := blk_frozen HAP.out.1 2; have hc83 := blk_cell HAP.out.2.2.1 3; clear hown7 hb7 hg7 hat7)
            | (at_lookup; refine wpList_lookup_own_ok_int _ rfl _ _ 42 rfl 21 5 .u8 law21 Try.underlying42 Try.underlying5 (zero5 _) mb L.length D rfl HAP.out.2.2.2.2.1 _ _ rfl HK.out ?_; intro cc hat hwc; rw [HHAS.out])
            | (at_mapUpdate; refine wpList_mapUpdate_own _ rfl _ _ _ 42 rfl 21 5 law21 Try.underlying42 _ mb L.length D rfl HAP.out.2.2.2.2.1 (by unfold maxLen; omega) _ _ _ rfl rfl HK.out _ [] (plainElem_int Try.underlying5 HWB.out) ?_; intro w9 hown9 hgrow9; have HO9 := Lib.hid hown9; have HG9 := Lib.hid hgrow9; clear hown9 hgrow9)
            | fail)
              go_roundw
              case rel => exact ⟨pos + d, f, L ++ [u], _, D, by have := HD1.out; omega, by rw [HLEN.out]; omega, HL2, Lib.hid (HFIN.out _ _ _ HAP.out)⟩
              case measure =>
                have := HP.out
                have := HD1.out
                simp only [World.iterPos, HAP.out.2.1, HI.out]
                omega
            · have hm : u ∈ L := by
                rcases hin with h | h
                · exact absurd h h65
                · exact h
              have HHAS : Hid (Maps.has D (.int .i32 u) = true) := Lib.hid (by rw [(HSp.out.2 u).1]; unfold bOk; simp [h65, hm])
              clear hin hm
              go_wp2_with (first
            | (at_builtin; refine print_append_num w.heap.size rfl (.tmp 51) (.tmp 53) 33 21 .i32 4 rfl Try.underlying33 info21 (by omega) (.slice A L.length c) L u rfl (by first | (go_simp; done) | (go_simp; rfl)) HM3.out.2.2.1 HM3.out.2.2.2.2.2.2.2.2 HM3.out.2.2.2.2.2.2.2.2.size (by omega) ?_; intro v7 w7 hown7 hb7 hg7 hat7; obtain ⟨A7, c7, hv7⟩ := own_slice hown7; rw [HLEN.out] at hv7; subst hv7; have HAP := Lib.hid (HM3.out.app hown7 hb7 hg7); have hc7 := blk_cell HAP.out.1 2; have hf7 := blk_frozen HAP.out.1 2; have hc83 := blk_cell HAP.out.2.2.1 3; clear hown7 hb7 hg7 hat7)
            | (at_lookup; refine wpList_lookup_own_ok_int _ rfl _ _ 42 rfl 21 5 .u8 law21 Try.underlying42 Try.underlying5 (zero5 _) mb L.length D rfl HAP.out.2.2.2.2.1 _ _ rfl HK.out ?_; intro cc hat hwc; rw [HHAS.out])
            | (at_mapUpdate; refine wpList_mapUpdate_own _ rfl _ _ _ 42 rfl 21 5 law21 Try.underlying42 _ mb L.length D rfl HAP.out.2.2.2.2.1 (by unfold maxLen; omega) _ _ _ rfl rfl HK.out _ [] (plainElem_int Try.underlying5 HWB.out) ?_; intro w9 hown9 hgrow9; have HO9 := Lib.hid hown9; have HG9 := Lib.hid hgrow9; clear hown9 hgrow9)
            | fail)
              go_roundw
              case rel => exact ⟨pos + d, f, L ++ [u], _, D, by have := HD1.out; omega, by rw [HLEN.out]; omega, HL2, Lib.hid (HFIN.out _ _ _ HAP.out)⟩
              case measure =>
                have := HP.out
                have := HD1.out
                simp only [World.iterPos, HAP.out.2.1, HI.out]
                omega
          · have h65 : ¬ u = 65533 := fun h => hin (Or.inl h)
            have hm : u ∉ L := fun h => hin (Or.inr h)
            have HHAS : Hid (Maps.has D (.int .i32 u) = false) := Lib.hid (by rw [(HSp.out.2 u).1]; unfold bOk; simp [hm])
            have e65 : (u == 65533) = false := by rw [beq_eq_false_iff_ne]; exact h65
            have hwr : IntKind.u8.wrap (first + (L.length : Int)) = first + (L.length : Int) := by rw [IntKind.wrap_u8]; omega
            have HWB : Hid ((Lit.int .u8 (first + (L.length : Int))).wf = true) := Lib.hid (by simp [Lit.wf, IntKind.min, IntKind.max, IntKind.signed, IntKind.bits]; omega)
            have HSP2 := Lib.hid (spec_put HSp.out u HW.out h65 hm)
            clear hin hm h65
            go_wp2_with (first
            | (at_builtin; refine print_append_num w.heap.size rfl (.tmp 51) (.tmp 53) 33 21 .i32 4 rfl Try.underlying33 info21 (by omega) (.slice A L.length c) L u rfl (by first | (go_simp; done) | (go_simp; rfl)) HM3.out.2.2.1 HM3.out.2.2.2.2.2.2.2.2 HM3.out.2.2.2.2.2.2.2.2.size (by omega) ?_; intro v7 w7 hown7 hb7 hg7 hat7; obtain ⟨A7, c7, hv7⟩ := own_slice hown7; rw [HLEN.out] at hv7; subst hv7; have HAP := Lib.hid (HM3.out.app hown7 hb7 hg7); have hc7 := blk_cell HAP.out.1 2; have hf7 := blk_frozen HAP.out.1 2; have hc83 := blk_cell HAP.out.2.2.1 3; clear hown7 hb7 hg7 hat7)
            | (at_lookup; refine wpList_lookup_own_ok_int _ rfl _ _ 42 rfl 21 5 .u8 law21 Try.underlying42 Try.underlying5 (zero5 _) mb L.length D rfl HAP.out.2.2.2.2.1 _ _ rfl HK.out ?_; intro cc hat hwc; rw [HHAS.out])
            | (at_mapUpdate; refine wpList_mapUpdate_own _ rfl _ _ _ 42 rfl 21 5 law21 Try.underlying42 _ mb L.length D rfl HAP.out.2.2.2.2.1 (by unfold maxLen; omega) _ _ _ rfl rfl HK.out _ [] (plainElem_int Try.underlying5 HWB.out) ?_; intro w9 hown9 hgrow9; have HO9 := Lib.hid hown9; have HG9 := Lib.hid hgrow9; clear hown9 hgrow9)
            | fail)
            have HMID : Hid (Mid w w9 gi g mb first s (pos + d) (L ++ [u]) (.slice A7 (L.length + 1) c7) (D.put (.int .i32 u) (.lit (.int .u8 (first + (L.length : Int)))))) := Lib.hid (mid_put HAP.out.2.1 HAP.out.2.2.1 HAP.out.2.2.2.1 HAP.out.2.2.2.2.1 HAP.out.2.2.2.2.2 (World.ownsMap.mono HO9.out (by rw [HLEN.out]; omega)) HG9.out HSP2.out HM3.out.2.2.2.2.2.1 HM3.out.2.2.2.2.2.2.1 HM3.out.2.2.2.2.2.2.2.1)
            go_roundw
            case rel => exact ⟨pos + d, f, by have := HD1.out; omega, L ++ [u], by rw [HLEN.out]; omega, HL2, _, _, HMID⟩
            case measure =>
              have := HP.out
              have := HD1.out
              simp only [World.iterPos, HMID.out.1, HI.out]
              omega
      · have hI := HMM.out.1
        have hnx : ∀ ty, (Instr.next (.pointer (some ⟨gi, 0, none⟩)) true ty).run Try.prog wr = .ok (.tuple #[.bool false]) wr := fun ty => Lib.run_next_end_at wr gi s pos ty hI hp
        have HLE : Hid (L = runes s) := Lib.hid (by
          have := HL.out
          rwa [runesF_end s f pos hp, List.append_nil] at this)
        clear HL
        have HE : Hid (errOf first s = 0) := Lib.hid (err_ok HR.out HVB.out (by
          rw [← HLE.out]
          omega))
        go_wp2_with fail
        go_ret2
        obtain ⟨k1, k2, k3, k4, k5, k6, k7, k8, k9⟩ := HMM.out
        exact ⟨k9, .inr ⟨HE.out, g, rfl, v, mb, D, k2, by rw [← HLE.out]; exact k3, by rw [← HLE.out]; exact k4, by rw [← HLE.out]; exact k5, k6, k7⟩⟩
end Go.Proofs.Ytkbblppoalgkmaa.De
