import Derived.Test.Qxb6603732aModrm
import Derived.Laws.CopyOwn
namespace Go.Proofs.Qxb6603732a
open Go.RowKit

theorem modrm_none (a : Option Addr) (cap : Nat) (w : World) :
    Calls Try.prog 12 #[.slice a 0 cap] w fun e w' => e = .returned (.int .i64 0) ∧ w' = w := by
  go_enter Try.func12, Try.ntmps12
  go_wp2
  go_ret
  exact ⟨rfl, rfl⟩

theorem zzmodrm_none (a : Option Addr) (cap : Nat) (w : World) :
    Calls Try.prog 7 #[.slice a 0 cap] w fun e w' => e = .returned (.int .i64 0) ∧ w' = w := by
  go_enter Try.func7, Try.ntmps7
  go_wp2_with (go_at_call 12; refine (modrm_none _ _ _).mono ?_; rintro e w' ⟨rfl, rfl⟩)
  go_ret
  exact ⟨rfl, rfl⟩

theorem zzmodrm_any (b off len cap : Nat) (x y : Int) (hx0 : 0 ≤ x) (hx1 : x ≤ 255) (hy0 : 0 ≤ y) (hy1 : y ≤ 255) (w : World) (hlen : 0 < len) (hlen2 : len ≤ 1048576)
    (c0 : w.cell? ⟨b, off, none⟩ = some (.int .u8 x)) (c1 : 1 < len → w.cell? ⟨b, off + 1, none⟩ = some (.int .u8 y)) :
    Calls Try.prog 7 #[.slice (some ⟨b, off, none⟩) len cap] w fun e w' => e = .returned (.int .i64 (mlen len x y)) ∧ w' = w.drew := by
  go_enter Try.func7, Try.ntmps7
  go_wp2_with (go_at_call 12; refine (modrm_any b off len cap x y hx0 hx1 hy0 hy1 _ hlen hlen2 c0 c1).mono ?_; rintro e w' ⟨rfl, rfl⟩)
  go_ret
  exact ⟨rfl, rfl⟩

/-- The element type byte's row of the table. -/
theorem info5 : (Try.prog.info? 5).map (fun i => (i.zero, i.size, i.bytes)) = some (some (.int .u8 0), 1, 1) := by kernel_rfl
theorem size5 : (Try.prog.info? 5).map (·.size) = some 1 := by kernel_rfl

/-- n noughts. -/
def zeros (n : Nat) : Array Value := (List.replicate n (Value.int .u8 0)).toArray

theorem mk_run (n : Nat) (hn : n ≤ 1048576) (w : World) :
    (Instr.makeSlice 22 (.int .i64 n) (.int .i64 n)).run Try.prog w = .ok (.slice (some ⟨w.heap.size, 0, none⟩) n n) (w.alloc (.cells (zeros n) 5)) := by
  obtain ⟨i0, hi, hz0, hz1, hz2⟩ := info_parts info5
  have h := run_make (P := Try.prog) w 22 5 i0 (.int .u8 0) Try.underlying22 hi hz0 .i64 .i64 n n (by omega) (by omega) (by rw [hz2]; omega) (by omega)
  rw [h, hz1]
  have e : madeCells (Value.int .u8 0).cells ((n : Int).toNat * 1) = zeros n := by
    apply Array.toList_inj.1
    rw [show (Value.int .u8 0).cells = #[.int .u8 0] from rfl, toList_madeCells_one]
    simp [zeros]
  rw [e]
  simp

theorem neq_nil (a : Option Addr) (n c : Nat) (w : World) : (binOp .neq 22 (.slice a n c) (.slice none 0 0)).run Try.prog w = .ok (.bool (!a.isNone)) w :=
  run_neq_slice_nil_any w 22 5 a n c 0 0 Try.underlying22

/-- The bytes of a row of numbers. -/
def bytesOf (zs : List Int) (n : Nat) : List Value := (zs.take n).map (Value.int .u8)
theorem length_bytesOf (zs : List Int) (n : Nat) (h : n ≤ zs.length) : (bytesOf zs n).length = n := by simp [bytesOf]; omega
theorem bytesOf_at (zs : List Int) (n j : Nat) (h : n ≤ zs.length) (hj : j < n) : (bytesOf zs n)[j]? = some (.int .u8 (zs.getD j 0)) := by
  unfold bytesOf
  rw [List.getElem?_map, List.getElem?_take_of_lt hj, List.getElem?_eq_getElem (by omega)]
  simp [List.getD, List.getElem?_eq_getElem (show j < zs.length by omega)]
theorem bytesOf_one (zs : List Int) (n : Nat) : ∀ v ∈ bytesOf zs n, v.oneCell' = true := by
  intro v hv
  simp only [bytesOf, List.mem_map] at hv
  obtain ⟨z, _, rfl⟩ := hv
  rfl
theorem cell_of_heap {W : World} {g j : Nat} {cs : Array Value} {t : TypeId} (h : W.heap[g]? = some (.cells cs t (0, 0))) : W.cell? ⟨g, j, none⟩ = cs[j]? := by
  simp [World.cell?, h]

/-- 'zzc := make([]byte, len(code)); copy(zzc, code)': behind it the new row's cells are the argument's elements; nothing old has turned. -/
theorem copy_run (x : Addr) (len cap : Nat) (zs : List Int) (w : World) (hlc : len ≤ zs.length) (hcell : ∀ i, i < zs.length → w.cell? (x.add i) = some (.int .u8 (zs.getD i 0))) :
    ∃ w2, (Builtin.copy_ #[22, 22] 3 #[.slice (some ⟨w.heap.size, 0, none⟩) len len, .slice (some x) len cap]).run Try.prog (w.alloc (.cells (zeros len) 5)) = .ok (.int .i64 len) w2 ∧
      (∀ j, j < len → w2.cell? ⟨w.heap.size, j, none⟩ = some (.int .u8 (zs.getD j 0))) ∧ Below w.heap.size w w2 ∧ w2.heap.size = w.heap.size + 1 := by
  have hg : (w.alloc (.cells (zeros len) 5)).heap[w.heap.size]? = some (.cells (zeros len) 5 (0, 0)) := heap_alloc_new w _
  have hb : Below w.heap.size w (w.alloc (.cells (zeros len) 5)) := (Below.refl _ _).alloc (Nat.le_refl _) _
  have hL := length_bytesOf zs len hlc
  have h := run_copy_row (P := Try.prog) (w.alloc (.cells (zeros len) 5)) 22 22 3 5 w.heap.size 0 len len x len cap (zeros len) 5 (bytesOf zs len) Try.underlying22 size5 hg (by rw [hL]; simp) (fun j v hj => by
    have hjl : j < len := by
      have := (List.getElem?_eq_some_iff.1 hj).1
      rw [hL] at this; exact this
    rw [bytesOf_at zs len j hlc hjl] at hj
    injection hj with hj
    subst hj
    exact cell_later hb (hcell j (by omega))) (by rw [hL]; simp [zeros]) (bytesOf_one zs len)
  have e : ((zeros len).toList.take 0 ++ bytesOf zs len ++ (zeros len).toList.drop (0 + (bytesOf zs len).length)).toArray = (bytesOf zs len).toArray := by
    rw [hL]; simp [zeros]
  rw [e, hL] at h
  refine ⟨_, h, fun j hj => ?_, below_setRow hb (Nat.le_refl _) _, by simp⟩
  have hg2 := setRow_heap (w.alloc (.cells (zeros len) 5)) w.heap.size (zeros len) (bytesOf zs len).toArray 5 (0, 0) hg
  have e2 : ((w.alloc (.cells (zeros len) 5)).setRow w.heap.size (bytesOf zs len).toArray).cell? ⟨w.heap.size, j, none⟩ = (bytesOf zs len)[j]? := by rw [cell_of_heap hg2]; simp
  rw [e2, bytesOf_at zs len j hlc hj]

theorem byte_bd {zs : List Int} (h : ∀ n ∈ zs, (Lit.int .u8 n).wf = true) (j : Nat) : 0 ≤ zs.getD j 0 ∧ zs.getD j 0 ≤ 255 := by
  by_cases hj : j < zs.length
  · have e : zs.getD j 0 = zs[j] := by simp [List.getD, List.getElem?_eq_getElem hj]
    have := h _ (List.getElem_mem hj)
    simp [Lit.wf, IntKind.min, IntKind.max, IntKind.signed, IntKind.bits] at this
    rw [e]
    omega
  · have e : zs.getD j 0 = 0 := by simp [List.getD, List.getElem?_eq_none (show zs.length ≤ j by omega)]
    rw [e]
    omega
end Go.Proofs.Qxb6603732a
