/- ucs.Parse, walked. -/
import Derived.Test.YtegogeglofikhaaDoorUcI
namespace Go.Proofs.YtegogeglofikhaaDoor.Uc
open Go.RowKit Go.Proofs.YtegogeglofikhaaDoorW.PrintWords Go.Proofs.YtegogeglofikhaaDoorW.PrintLast Go.Proofs.YtegogeglofikhaaDoorW.PrintMore
set_option linter.unusedVariables false
set_option linter.unusedSimpArgs false
/-- The number that digits write, six at most. -/
def digs : List UInt8 → Nat → Int → Option Int
  | [], _, n => some n
  | b :: t, i, n => if hv (b.toNat : Int) < 0 ∨ 5 < i then none else digs t (i + 1) (n * 16 + hv (b.toNat : Int))
/-- What is read behind the two signs. -/
def parseD (D s : ByteArray) : Int × Bool := match digs D.data.toList 0 0 with
  | some n => if hexAll n = s then (n, true) else (0, false)
  | none => (0, false)
def parseF (s : ByteArray) : Int × Bool :=
  if Lib.hasPrefix s.data.toList [85, 43] = true then parseD ⟨(Lib.trimPrefix s.data.toList [85, 43]).toArray⟩ s else (0, false)
theorem or16 (n v : Int) (h0 : 0 ≤ n) (h1 : n < 16777216) (h2 : 0 ≤ v) (h3 : v < 16) : bits .or .i32 (n * 16) v = n * 16 + v :=
  bits_join .i32 31 (by decide) wraps32 4 (n * 16) v (by omega) (by omega) (by omega) h2 (by omega) (by omega)
theorem hv_bd (c : Int) : -1 ≤ hv c ∧ hv c < 16 := by
  unfold hv
  split
  · omega
  · split <;> omega
theorem hv_big (c : Int) (h : 128 ≤ c) : hv c = -1 := by
  unfold hv
  rw [if_neg (by omega), if_neg (by omega)]
theorem digs_some (D : List UInt8) (pos : Nat) (h : pos < D.length) (n : Int) (hv0 : ¬ (hv ((D[pos]'h).toNat : Int) < 0 ∨ 5 < pos)) : digs (D.drop pos) pos n = digs (D.drop (pos + 1)) (pos + 1) (n * 16 + hv ((D[pos]'h).toNat : Int)) := by
  rw [List.drop_eq_getElem_cons h, digs, if_neg hv0]
theorem digs_none (D : List UInt8) (pos : Nat) (h : pos < D.length) (n : Int) (hv0 : hv ((D[pos]'h).toNat : Int) < 0 ∨ 5 < pos) : digs (D.drop pos) pos n = none := by
  rw [List.drop_eq_getElem_cons h, digs, if_pos hv0]
/-- One step of the iterator: the rune is the byte, or none of the digits, as the byte is none. -/
theorem next_step (D : ByteArray) (pos : Nat) (h : pos < D.size) : ∃ (c : Int) (d : Nat), ((Utf8.decode D pos).1 : Int) = c ∧ (Utf8.decode D pos).2 = d ∧ 0 ≤ c ∧ c ≤ 2147483647 ∧ 1 ≤ d ∧ hv c = hv ((D.data.toList[pos]'(by simpa using h)).toNat : Int) ∧ (0 ≤ hv c → d = 1) := by
  have hat : (D.data.toList[pos]'(by simpa using h)) = D[pos]'h := rfl
  by_cases ha : (D[pos]'h).toNat < 128
  · refine ⟨_, _, rfl, rfl, ?_⟩
    rw [decode_ascii D pos h ha]
    exact ⟨by omega, by omega, by omega, rfl, fun _ => rfl⟩
  · have hh := decode_high D pos h (by omega)
    have hle := decode_le D pos
    have e1 := hv_big ((Utf8.decode D pos).1 : Int) (by omega)
    refine ⟨_, _, rfl, rfl, by omega, by omega, hh.2, ?_, ?_⟩
    · rw [e1, hat, hv_big _ (by omega)]
    · rw [e1]
      omega
set_option maxHeartbeats 4000000 in
set_option maxRecDepth 100000 in
theorem parseC (s : ByteArray) (w : World) (hT : Tab w) : Calls Tryd.prog 12 #[.string s] w fun e w' => e = .returned (.tuple #[.int .i32 (parseF s).1, .bool (parseF s).2]) ∧ Below w.heap.size w w' := by
  have HT := Lib.hid hT
  clear hT
  obtain ⟨D, hD⟩ : ∃ D : ByteArray, D = ⟨(Lib.trimPrefix s.data.toList [85, 43]).toArray⟩ := ⟨_, rfl⟩
  obtain ⟨b, hb⟩ : ∃ b, b = Lib.hasPrefix s.data.toList [85, 43] := ⟨_, rfl⟩
  obtain ⟨⟨p1, p2⟩, hp⟩ : ∃ p, p = parseF s := ⟨_, rfl⟩
  rw [← hp]
  have HP : Hid ((p1, p2) = if b = true then parseD D s else (0, false)) := Lib.hid (by rw [hp, hD, hb, parseF])
  have HC : Hid (∀ W, Calls Tryd.prog 25 #[.string s, .string ⟨#[85, 43]⟩] W fun e w' => e = .returned (.tuple #[.string D, .bool b]) ∧ w' = W) := Lib.hid fun W => by
    rw [hD, hb]
    exact Tryd.strings_CutPrefix s _ W
  clear hD hb hp
  go_enter Tryd.func12, Tryd.ntmps12
  go_wp2_with fail
  refine (HC.out _).mono ?_
  rintro e w1 ⟨rfl, rfl⟩
  clear HC
  cases b with
  | false =>
    have hp := HP.out
    rw [if_neg (by decide)] at hp
    obtain ⟨rfl, rfl⟩ := Prod.mk.inj hp
    clear hp
    go_wp2_with fail
    go_ret2
    exact ⟨rfl, Below.refl _ _⟩
  | true =>
    have hp : (p1, p2) = parseD D s := HP.out
    replace HP := Lib.hid hp
    clear hp
    go_wp2_with fail
    obtain ⟨g, hg⟩ : ∃ g, g = w1.heap.size := ⟨_, rfl⟩
    have HI : Hid ((w1.iter D 0).heap[g]? = some (.stringIter D 0)) := Lib.hid (by rw [hg]; exact World.iter_heap w1 D 0)
    have HB : Hid (Below w1.heap.size w1 (w1.iter D 0)) := Lib.hid (below_alloc (Below.refl _ _) _)
    rw [← hg]
    have HG := Lib.hid hg
    clear hg
    generalize w1.iter D 0 = w2 at *
    go_loopw [6] (fun v wr => ∃ (pos : Nat) (n : Int), v = .int .i32 n ∧ Hid (wr.heap[g]? = some (.stringIter D pos)) ∧ Hid (Below w1.heap.size w1 wr) ∧ Hid (digs (D.data.toList.drop pos) pos n = digs D.data.toList 0 0) ∧ Hid (0 ≤ n ∧ n < 16 ^ pos ∧ pos ≤ 6)) (fun _ wr => D.size - wr.iterPos g)
    case atStart => exact ⟨0, 0, rfl, HI, HB, Lib.hid rfl, Lib.hid ⟨by omega, by omega, by omega⟩⟩
    case round =>
      obtain ⟨pos, n, rfl, HI2, HB2, HD, HN⟩ := hrel
      clear HI HB
      by_cases hp : pos < D.size
      · obtain ⟨c, d, hc, hd, c0, c1, d1, hvc, hd2⟩ := next_step D pos hp
        have hnx : ∀ ty, (Instr.next (.pointer (some ⟨g, 0, none⟩)) true ty).run Tryd.prog wr = .ok (.tuple #[.bool true, .int .i64 pos, .int .i32 c]) (wr.iterAt g D (pos + d)) := fun ty => by
          rw [Lib.run_next_any_at wr g D pos ty HI2.out hp, hc, hd]
        have HI3 : Hid ((wr.iterAt g D (pos + d)).heap[g]? = some (.stringIter D (pos + d))) := Lib.hid (Lib.iterAt_heap wr g D pos _ HI2.out)
        have HB3 : Hid (Below w1.heap.size w1 (wr.iterAt g D (pos + d))) := Lib.hid (Lib.below_iterAt HB2.out (by rw [HG.out]; exact Nat.le_refl _) D _)
        obtain ⟨v, hv'⟩ : ∃ v, v = hv c := ⟨_, rfl⟩
        have HIR : Hid (∀ W, Calls Tryd.prog 26 #[.string HX, .int .i32 c] W fun e w' => e = .returned (.int .i64 v) ∧ Below W.heap.size W w') := Lib.hid fun W => by rw [hv']; exact irC c c0 c1 W
        have hvb := hv_bd c
        rw [← hv'] at hvb hvc hd2
        have HDN : Hid (v < 0 ∨ 5 < pos → digs D.data.toList 0 0 = none) := Lib.hid fun h => by
          rw [← HD.out, digs_none D.data.toList pos (by simpa using hp) n (by rw [← hvc]; exact h)]
        have HDS : Hid (¬ (v < 0 ∨ 5 < pos) → digs (D.data.toList.drop (pos + 1)) (pos + 1) (n * 16 + v) = digs D.data.toList 0 0) := Lib.hid fun h => by
          rw [← HD.out, digs_some D.data.toList pos (by simpa using hp) n (by rw [← hvc]; exact h), hvc]
        have HD2 := Lib.hid hd2
        have HP1 := Lib.hid hp
        have Hd1 := Lib.hid d1
        obtain ⟨n0, n1, n2⟩ := HN.out
        obtain ⟨W3, hW3⟩ : ∃ W, W = wr.iterAt g D (pos + d) := ⟨_, rfl⟩
        rw [← hW3] at hnx HI3 HB3
        clear hW3 hc hd c0 c1 d1 hvc hd2 hv' HD
        go_wp2_with fail
        clear hnx
        refine (HIR.out _).mono ?_
        rintro e w4 ⟨rfl, hb⟩
        have HB4 := Lib.hid (pw_bt HB3.out hb)
        have HI4 : Hid (w4.heap[g]? = some (.stringIter D (pos + d))) := Lib.hid ((hb.block g (Array.getElem?_eq_some_iff.1 HI3.out).1).trans HI3.out)
        clear hb HB2 HI3 HB3 HIR hp
        by_cases hv0 : v < 0
        · have hq : digs D.data.toList 0 0 = none := HDN.out (Or.inl hv0)
          have hpp := HP.out
          rw [parseD, hq] at hpp
          obtain ⟨rfl, rfl⟩ := Prod.mk.inj hpp
          clear hpp hq
          go_wp2_with fail
          go_ret2
          exact ⟨rfl, HB4.out⟩
        · by_cases h5 : 5 < pos
          · have hq : digs D.data.toList 0 0 = none := HDN.out (Or.inr h5)
            have hpp := HP.out
            rw [parseD, hq] at hpp
            obtain ⟨rfl, rfl⟩ := Prod.mk.inj hpp
            clear hpp hq
            have h5' : (pos : Int) > 5 := by omega
            go_wp2_with fail
            go_ret2
            exact ⟨rfl, HB4.out⟩
          · have hd1 : d = 1 := HD2.out (by omega)
            have HS := Lib.hid (HDS.out (by omega))
            have hn6 : n < 1048576 := by
              have : (16 : Int) ^ pos ≤ 16 ^ 5 := by
                have := Nat.pow_le_pow_right (show 0 < 16 by decide) (show pos ≤ 5 by omega)
                exact_mod_cast this
              omega
            have HN2 : Hid (n * 16 + v < 16 ^ (pos + 1)) := Lib.hid (by rw [Int.pow_succ]; omega)
            have e1 : wrap32 (n * 16) = n * 16 := by unfold wrap32; omega
            have e2 : wrap32 v = v := by unfold wrap32; omega
            have e3 := or16 n v n0 (by omega) (by omega) (by omega)
            have h5' : ¬ (pos : Int) > 5 := by omega
            subst hd1
            clear HDN HDS HD2
            go_wp2_with fail
            go_roundw
            case rel => exact ⟨pos + 1, n * 16 + v, by go_num, HI4, HB4, HS, Lib.hid ⟨by omega, HN2.out, by omega⟩⟩
            case measure =>
              have := HP1.out
              simp only [World.iterPos, HI4.out, HI2.out]
              omega
      · have hnx : ∀ ty, (Instr.next (.pointer (some ⟨g, 0, none⟩)) true ty).run Tryd.prog wr = .ok (.tuple #[.bool false]) wr := fun ty => Lib.run_next_end_at wr g D pos ty HI2.out hp
        obtain ⟨n0, n1, n2⟩ := HN.out
        have hq : digs D.data.toList 0 0 = some n := by
          rw [← HD.out, List.drop_eq_nil_of_le (by simpa using hp), digs]
        have hpp := HP.out
        rw [parseD, hq] at hpp
        clear hq HD
        have HT2 := Lib.hid (HT.out.below HB2.out)
        go_wp2_with fail
        refine (hexAll_c n _ HT2.out).mono ?_
        rintro e w5 ⟨rfl, hb⟩
        have HB5 := Lib.hid (pw_bt HB2.out hb)
        clear hb
        by_cases hs : hexAll n = s
        · rw [if_pos hs] at hpp
          obtain ⟨rfl, rfl⟩ := Prod.mk.inj hpp
          clear hpp
          rw [hs]
          go_wp2_with fail
          go_ret2
          exact ⟨rfl, HB5.out⟩
        · rw [if_neg hs] at hpp
          obtain ⟨rfl, rfl⟩ := Prod.mk.inj hpp
          clear hpp
          have hs' : ((hexAll n).toList == s.toList) = false := by
            rw [beq_eq_false_iff_ne]
            intro h
            rw [Lib.toList_data, Lib.toList_data] at h
            exact hs (ByteArray.ext (Array.ext' h))
          go_wp2_with fail
          go_ret2
          exact ⟨rfl, HB5.out⟩
end Go.Proofs.YtegogeglofikhaaDoor.Uc
