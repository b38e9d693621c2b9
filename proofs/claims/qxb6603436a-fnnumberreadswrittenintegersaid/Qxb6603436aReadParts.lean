import Derived.Test.Qxb6603436aWrite
import Derived.Test.Qxb6603436aZnumber
import Derived.Laws.BytesArg
namespace Go.Proofs.Qxb6603436a
open Go.RowKit
open Plain

/-- The string of a row of bytes. -/
def strOf (T : List UInt8) : ByteArray := ⟨T.toArray⟩
theorem strOf_data (T : List UInt8) : (strOf T).data.toList = T := by simp [strOf]
theorem strOf_size (T : List UInt8) : (strOf T).size = T.length := by simp [strOf, ByteArray.size]

theorem conv_row {W : World} {base g C n : Nat} {T : List UInt8} (hn : T.length = n) (h : W.ownsRow base 5 1 (.slice (some ⟨g, 0, none⟩) n C) n (cellsOf T)) :
    (convert 26 9 (.slice (some ⟨g, 0, none⟩) n C)).run Try.prog W = .ok (.string (strOf T)) W := by
  subst hn
  have hc : ∀ i, i < T.length → W.cell? ⟨g, 0 + i, none⟩ = some (.int .u8 ((T.map fun c => (c.toNat : Int)).getD i 0)) := by
    intro i hi
    rw [Nat.zero_add, h.cellAt i (by omega), cellsOf_at T i hi]
    simp [List.getD, List.getElem?_eq_getElem hi]
  have hr := run_convert_bytes_arg (P := Try.prog) W 26 5 Try.underlying26 Try.underlying5 g 0 T.length C (T.map fun c => (c.toNat : Int)) (by simp) hc 9 Try.underlying9
  have e : strOfNums (T.map fun c => (c.toNat : Int)) = strOf T := by
    unfold strOfNums strOf
    congr 2
    rw [List.map_map]
    have : ((fun n : Int => UInt8.ofNat n.toNat) ∘ fun c : UInt8 => (c.toNat : Int)) = id := by
      funext c
      simp
    rw [this, List.map_id]
  rw [e] at hr
  exact hr

theorem zznumber_val (T : List UInt8) (N : Int) (ok : Bool) (w : World) (hs : T.length ≤ maxLen) (h1 : numN T = N) (h2 : numOk T = ok) :
    Calls Try.prog 10 #[.string (strOf T)] w fun e w' => e = .returned (.tuple #[.int .i64 N, .bool ok]) ∧ w' = w := by
  have h := zznumber_any (strOf T) w (by rw [strOf_size]; exact hs)
  rw [strOf_data, h1, h2] at h
  exact h

theorem rep_succ (k : Nat) : List.replicate (k + 1) (48 : UInt8) = List.replicate k 48 ++ [48] := List.replicate_succ'
end Go.Proofs.Qxb6603436a
