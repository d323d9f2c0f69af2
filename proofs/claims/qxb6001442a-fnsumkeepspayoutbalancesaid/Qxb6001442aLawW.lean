import Derived.Test.Qxb6001442aLaw
import Derived.Test.Qxb6001442aLawM
namespace Go.Proofs.Qxb6001442a.fnSumKeepsPayoutBalance
open Go.RowKit

theorem walk (a0 : Option Addr) (len0 cap0 : Nat) (zs : List Int) (hp : Bool) (P0 P1 P2 P3 P4 : Int) (w : World) (w0 : IsRow .i64 w a0 len0 cap0 zs) :
    Calls Try.prog 4 #[.slice a0 len0 cap0, .bool hp, .agg #[.int .i64 P0, .int .i64 P1, .int .i64 P2, .int .i64 P3, .int .i64 P4]] w fun e w' => e = .returned (.bool true) ∧ Below w.heap.size w w' := by
  rcases Nat.lt_or_ge 131072 len0 with h | h
  · exact law_long a0 len0 cap0 hp P0 P1 P2 P3 P4 w h
  by_cases h5 : len0 < 5
  · cases hp with
    | false => exact small_none a0 len0 cap0 zs P0 P1 P2 P3 P4 w h5 w0
    | true =>
      by_cases hb : Bal P1 P2 P3 P4
      · exact small_some a0 len0 cap0 zs P0 P1 P2 P3 P4 w h5 w0 hb
      · exact small_bad a0 len0 cap0 P0 P1 P2 P3 P4 w h5 hb
  · rcases w0 with ⟨_, rfl, _⟩ | ⟨x, rfl, hl, hm, hz, hcell, hwf⟩
    · omega
    obtain ⟨b, off, rfl, hc⟩ := ints_at hcell (by omega)
    have hbw : b < w.heap.size := World.block_lt_of_cell? w _ (hc 0 (by omega))
    have hc' : ∀ i, i < len0 → w.cell? ⟨b, off + i, none⟩ = some (.int .i64 (zs.getD i 0)) := fun i hi => hc i (by omega)
    cases hp with
    | false => exact main_none b off len0 cap0 (len0 / 5) zs P0 P1 P2 P3 P4 w (by omega) (by omega) (by omega) h hbw hc'
    | true =>
      by_cases hb : Bal P1 P2 P3 P4
      · exact main_some b off len0 cap0 (len0 / 5) zs P0 P1 P2 P3 P4 w (by omega) (by omega) (by omega) h hbw hc' hb
      · exact main_bad b off len0 cap0 (len0 / 5) zs P0 P1 P2 P3 P4 w (by omega) (by omega) (by omega) h hbw hc' hb
end Go.Proofs.Qxb6001442a.fnSumKeepsPayoutBalance
