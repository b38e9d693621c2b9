import Derived.Test.Qxb6603436aDecimal
import Derived.WalkKit
namespace Go.Proofs.Qxb6603436a
open Go.RowKit
open Plain

/-- The bytes of a row as cells. -/
def cellsOf (D : List UInt8) : List Value := D.map fun c => Value.int .u8 c.toNat
theorem length_cellsOf (D : List UInt8) : (cellsOf D).length = D.length := by simp [cellsOf]
theorem cellsOf_append (D E : List UInt8) : cellsOf (D ++ E) = cellsOf D ++ cellsOf E := by simp [cellsOf]
theorem cellsOf_one (D : List UInt8) : ∀ v ∈ cellsOf D, v.oneCell' = true := by
  intro v hv
  simp only [cellsOf, List.mem_map] at hv
  obtain ⟨z, _, rfl⟩ := hv
  rfl
theorem cellsOf_at (D : List UInt8) (j : Nat) (h : j < D.length) : (cellsOf D)[j]? = some (.int .u8 (D.getD j 0).toNat) := by
  unfold cellsOf
  rw [List.getElem?_map, List.getElem?_eq_getElem h]
  simp [List.getD, List.getElem?_eq_getElem h]

/-- What is known of writeDecimal's buffer: block b holds the bytes L. -/
def Buf (wr : World) (b : Nat) (L : List UInt8) : Prop :=
  L.length = 20 ∧ (∀ j, j < 20 → wr.cell? ⟨b, j, none⟩ = some (.int .u8 (L.getD j 0).toNat)) ∧ ∀ j, j < 20 → wr.frozen? ⟨b, j, none⟩ = false

theorem getD_zeros (n j : Nat) : (List.replicate n (0 : UInt8)).getD j 0 = 0 := by
  simp only [List.getD, List.getElem?_replicate]
  split <;> rfl

theorem buf_start (w : World) : Buf (w.alloc (.cells (List.replicate 20 (Value.int .u8 0)).toArray 36)) w.heap.size (List.replicate 20 0) := by
  refine ⟨by simp, fun j hj => ?_, fun j hj => ?_⟩
  · have hg : (w.alloc (.cells (List.replicate 20 (Value.int .u8 0)).toArray 36)).heap[w.heap.size]? = some (.cells (List.replicate 20 (Value.int .u8 0)).toArray 36 (0, 0)) := heap_alloc_new w _
    have e : (w.alloc (.cells (List.replicate 20 (Value.int .u8 0)).toArray 36)).cell? ⟨w.heap.size, j, none⟩ = (List.replicate 20 (Value.int .u8 0))[j]? := by
      rw [cell_of_row _ w.heap.size j _ 36 (0, 0) hg]; simp
    rw [e, List.getElem?_replicate, if_pos hj]
    rw [getD_zeros]; rfl
  · go_simp

theorem buf_step {wr : World} {b n v : Nat} {L : List UInt8} {x : Int} (hn : n < 20) (h : Buf wr b L) (hx : x = 48 + (v : Int) % 10) :
    Buf (wr.setCell ⟨b, n, none⟩ (.int .u8 x)) b (L.set n (digByte v)) := by
  obtain ⟨hL, hc, hf⟩ := h
  refine ⟨by simpa using hL, fun j hj => ?_, fun j hj => ?_⟩
  · by_cases e : j = n
    · subst e
      rw [World.cell?_setCell_same _ _ _ (hc j hj)]
      have e2 : (L.set j (digByte v)).getD j 0 = digByte v := by simp [List.getD, hL, hj]
      rw [e2, digByte_toNat, hx]
      congr 2
    · rw [World.cell?_setCell_other _ _ _ _ (by intro h; injection h with _ h2; exact e h2.symm), hc j hj]
      have e2 : (L.set n (digByte v)).getD j 0 = L.getD j 0 := by
        simp [List.getD, Ne.symm e]
      rw [e2]
  · rw [World.frozen?_setCell]
    exact hf j hj

theorem drop_set {L : List UInt8} {n : Nat} (c : UInt8) (h : n < L.length) : (L.set n c).drop n = c :: L.drop (n + 1) := by
  rw [List.drop_eq_getElem_cons (by simpa using h), List.drop_set_of_lt (by omega)]
  simp

theorem wrote_round {u v n : Nat} {L : List UInt8} (hL : L.length = 20) (hn : n < 20) (h : Wrote u v (L.drop (n + 1))) : Wrote u (v / 10) ((L.set n (digByte v)).drop n) := by
  rw [drop_set _ (by omega)]
  exact wrote_step h

theorem buf_kept {W W' : World} {row : Option Nat} {b : Nat} {L : List UInt8} (h : Buf W b L) (hg : W.grownBy W' row) (hne : some b ≠ row) : Buf W' b L := by
  refine ⟨h.1, fun j hj => hg.cell (h.2.1 j hj) hne, fun j hj => ?_⟩
  have hlt := World.block_lt_of_cell? W ⟨b, j, none⟩ (h.2.1 j hj)
  rw [World.frozen?_of_block (hg.block b hlt hne)]
  exact h.2.2 j hj

theorem take_drop_succ {L : List UInt8} {n m : Nat} (h : n + m < L.length) : (L.drop n).take (m + 1) = (L.drop n).take m ++ [L.getD (n + m) 0] := by
  rw [List.take_succ_eq_append_getElem (by simp; omega)]
  simp [List.getD, List.getElem?_eq_getElem h]

theorem grownBy_trans {a b c : World} {row : Option Nat} (h1 : a.grownBy b row) (h2 : b.grownBy c row) : a.grownBy c row :=
  ⟨h2.os.trans h1.os, h2.tape.trans h1.tape, h2.output.trans h1.output, Nat.le_trans h1.size h2.size, fun k hk hne => (h2.block k (Nat.lt_of_lt_of_le hk h1.size) hne).trans (h1.block k hk hne)⟩

theorem ret_slice {g a b c : Nat} (h1 : a = c) (h2 : b = c) : Ending.returned (.slice (some ⟨g, 0, none⟩) a b) = .returned (.slice (some ⟨g, 0, none⟩) c c) := by rw [h1, h2]
end Go.Proofs.Qxb6603436a
