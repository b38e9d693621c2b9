import Derived.Test.Qxb6603732aTwoBytes
import Derived.Test.Qxb6603732aTwoEdge
namespace Go.Proofs.Qxb6603732a
open Go.RowKit

/-- At least one byte, both short enough. -/
theorem two_row (x : Addr) (len cap : Nat) (zs : List Int) (ao : Option Addr) (m c : Nat) (ts : List Int) (w : World) (h1 : 1 ≤ len) (hl : len ≤ 65536) (hlc : len ≤ zs.length) (hm : m ≤ 65536)
    (hcell : ∀ i, i < zs.length → w.cell? (x.add i) = some (.int .u8 (zs.getD i 0))) (hwz : ∀ n ∈ zs, (Lit.int .u8 n).wf = true)
    (hnone : ao = none → m = 0 ∧ c = 0) (hts : m ≤ ts.length) (htc : ∀ ad, ao = some ad → ∀ j, j < m → w.cell? (ad.add j) = some (.int .u8 (ts.getD j 0))) (hwt : ∀ n ∈ ts, (Lit.int .u8 n).wf = true) :
    Calls Try.prog 4 #[.slice (some x) len cap, .slice ao m c] w fun e w' => e = .returned (.bool true) ∧ Below w.heap.size w w' := by
  have b1 := byte_bd hwz 1
  have t0 := byte_bd hwt 0
  by_cases h3 : 3 ≤ len
  · refine two_large x len cap zs ao m c ts w h1 hl h3 hlc hm hcell hwz hnone hts htc _ _ (zs.getD 1 0) rfl b1.1 b1.2 (fun _ => ?_) rfl ⟨mlen_pos len _ _ (by omega), mlen_two _ _ _ _ (by omega) (by omega)⟩
    rw [List.getElem?_append_left (by rw [length_bytesOf zs 2 (by omega)]; omega), bytesOf_at zs 2 1 (by omega) (by omega)]
  · by_cases h2 : len = 2
    · refine two_small x len cap zs ao m c ts w h1 hl (by omega) hlc hm hcell hwz hnone hts htc _ _ (zs.getD 1 0) rfl b1.1 b1.2 (fun _ => ?_) rfl (.inl ⟨mlen_pos len _ _ (by omega), mlen_two _ _ _ _ (by omega) (by omega)⟩)
      rw [List.getElem?_append_left (by rw [length_bytesOf zs len hlc]; omega), bytesOf_at zs len 1 hlc (by omega)]
    · obtain rfl : len = 1 := by omega
      refine two_small x 1 cap zs ao m c ts w h1 hl (by omega) hlc hm hcell hwz hnone hts htc _ _ (ts.getD 0 0) rfl t0.1 t0.2 (fun h => ?_) rfl ?_
      · rw [List.getElem?_append_right (by rw [length_bytesOf zs 1 hlc]; omega), length_bytesOf zs 1 hlc]
        exact bytesOf_at ts m 0 hts (by omega)
      · rcases mlen_one (zs.getD 0 0) with hv | hv
        · left
          have e1 := hv 1 (zs.getD 1 0) (by omega)
          have e2 := hv (1 + m) (ts.getD 0 0) (by omega)
          omega
        · right
          have e1 := hv (zs.getD 1 0)
          by_cases hm0 : m = 0
          · left
            subst hm0
            exact ⟨e1, by omega, by omega, hv _⟩
          · right
            exact ⟨e1, by omega, by omega, mlen_pos _ _ _ (by omega)⟩
end Go.Proofs.Qxb6603732a
