/- A slice of bytes, as a parameter and as a row of the call's own; what Get answers, at any place. No condition. -/
import Derived.Test.YtflmpdfcbdfabaaWWorks
namespace Go.Proofs.Ytflmpdfcbdfabaa.Wd
set_option linter.unusedVariables false
open Go.RowKit Go.Proofs.YtflmpdfcbdfabaaW.PrintWords Go.Proofs.YtflmpdfcbdfabaaW.PrintLast Go.Proofs.YtflmpdfcbdfabaaW.PrintMore
theorem open_row {w : World} {a : Option Addr} {len cap : Nat} {zs : List Int} (h : (a = none ∧ len = 0 ∧ cap = 0 ∧ zs = []) ∨ ∃ x, a = some x ∧ len ≤ cap ∧ cap ≤ maxLen ∧ zs.length = cap ∧ (∀ i, i < zs.length → w.cell? (x.add i) = some (.int .u8 (zs.getD i 0))) ∧ ∀ n ∈ zs, (Lit.int .u8 n).wf = true) :
    ∃ l : List Int, len = l.length ∧ Kd.C (Kd.int .u8) w a l.length l ∧ l.length ≤ cap ∧ ∀ x ∈ l, Byte x := by
  obtain ⟨l, h1, h2, _, h4, h5⟩ := ReadsInt.ofRowC h
  refine ⟨l, h1, Kd.C_of_reads (d := (0 : Int)) h2, h5, fun x hx => ?_⟩
  have := bounds_u8 (h4 x hx)
  unfold Byte
  omega
theorem own_row {W : World} {B : Nat} {v : Value} {l : List Int} (h : W.ownsRow B 5 1 v l.length (nums .u8 l)) : ∃ A c, v = .slice A l.length c ∧ Kd.C (Kd.int .u8) W A l.length l ∧ l.length ≤ c := by
  obtain ⟨A, c, rfl, hr⟩ := own_reads h
  exact ⟨A, c, rfl, Kd.C_of_reads (d := (0 : Int)) hr, own_le h⟩
theorem got_at {kind mode bits acc held e k s u m : Int} {l : List Int} (hb : ∀ x ∈ l, Byte x) (h : GW kind mode bits acc held l e k s u m) : Hid (∀ W A c, Kd.C (Kd.int .u8) W A l.length l → l.length ≤ c → Calls Try.prog 11 #[.int .i64 kind, .agg #[.int .i64 mode, .int .i64 bits, .int .u32 acc, .int .i32 held], .slice A l.length c] W fun en w' => en = .returned (.agg #[.int .i64 e, .int .i64 k, .int .i64 s, .int .i32 u, .int .i32 0, .int .i64 m, .int .i64 0, .int .u32 0, .int .i32 0]) ∧ Below W.heap.size W w') :=
  Lib.hid (fun W A c hC hc => getC W hC hc hb h)
end Go.Proofs.Ytflmpdfcbdfabaa.Wd
