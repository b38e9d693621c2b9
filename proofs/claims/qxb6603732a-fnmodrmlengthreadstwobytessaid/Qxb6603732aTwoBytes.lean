import Derived.Test.Qxb6603732aShared
namespace Go.Proofs.Qxb6603732a
open Go.RowKit

/-! ### The plain law -/
theorem mlen_two (l m : Nat) (x y : Int) (hl : 2 ≤ l) (hm : 2 ≤ m) : mlen l x y = mlen m x y := by
  unfold mlen
  rw [if_neg (show ¬ l < 2 by omega), if_neg (show ¬ m < 2 by omega)]
theorem mlen_pos (l : Nat) (x y : Int) (hl : 2 ≤ l) : 1 ≤ mlen l x y := by
  unfold mlen
  rw [if_neg (show ¬ l < 2 by omega)]
  split
  · split <;> split <;> (try split) <;> omega
  · split
    · omega
    · split
      · omega
      · split <;> omega
/-- One byte: either the answer hangs on it alone, or it calls for a second. -/
theorem mlen_one (x : Int) : (∀ l y, 1 ≤ l → 1 ≤ mlen 1 x 0 ∧ mlen l x y = mlen 1 x 0) ∨ (∀ y, mlen 1 x y = 0) := by
  by_cases h : x / 64 ≠ 3 ∧ x % 8 = 4
  · right
    intro y
    unfold mlen
    rw [if_pos h, if_pos (by omega)]
  · left
    intro l y _
    have e : ∀ (k : Nat) (z : Int), mlen k x z = 1 + (if x / 64 = 0 ∧ x % 8 = 5 then 4 else if x / 64 = 1 then 1 else if x / 64 = 2 then 4 else 0) := fun k z => by
      unfold mlen; rw [if_neg h]
    refine ⟨?_, by rw [e, e]⟩
    rw [e]
    split
    · omega
    · split
      · omega
      · split <;> omega

theorem zzmodrm_val (R : Int) (b off len cap : Nat) (x y : Int) (hx0 : 0 ≤ x) (hx1 : x ≤ 255) (hy0 : 0 ≤ y) (hy1 : y ≤ 255) (w : World) (hlen : 0 < len) (hlen2 : len ≤ 1048576)
    (c0 : w.cell? ⟨b, off, none⟩ = some (.int .u8 x)) (c1 : 1 < len → w.cell? ⟨b, off + 1, none⟩ = some (.int .u8 y)) (hR : mlen len x y = R) :
    Calls Try.prog 7 #[.slice (some ⟨b, off, none⟩) len cap] w fun e w' => e = .returned (.int .i64 R) ∧ w' = w.drew := by
  subst hR
  exact zzmodrm_any b off len cap x y hx0 hx1 hy0 hy1 w hlen hlen2 c0 c1

theorem row_cells {W : World} {g n : Nat} {zs : List Int} (hn : n ≤ zs.length) (hC : ∀ j, j < n → W.cell? ⟨g, j, none⟩ = some (.int .u8 (zs.getD j 0))) :
    ∀ j u, (bytesOf zs n)[j]? = some u → W.cell? ((⟨g, 0, none⟩ : Addr).add j) = some u := by
  intro j u hj
  have hjl : j < n := by
    have := (List.getElem?_eq_some_iff.1 hj).1
    rw [length_bytesOf zs n hn] at this; exact this
  rw [bytesOf_at zs n j hn hjl] at hj
  injection hj with hj
  subst hj
  have e : ((⟨g, 0, none⟩ : Addr).add j) = ⟨g, j, none⟩ := by
    simp only [Addr.add, Nat.zero_add]
    split
    · rename_i h; rw [h]
    · rfl
  rw [e]
  exact hC j hjl

theorem arg_cells {W : World} {ad : Addr} {n : Nat} {zs : List Int} (hn : n ≤ zs.length) (hC : ∀ j, j < n → W.cell? (ad.add j) = some (.int .u8 (zs.getD j 0))) :
    ∀ j u, (bytesOf zs n)[j]? = some u → W.cell? (ad.add j) = some u := by
  intro j u hj
  have hjl : j < n := by
    have := (List.getElem?_eq_some_iff.1 hj).1
    rw [length_bytesOf zs n hn] at this; exact this
  rw [bytesOf_at zs n j hn hjl] at hj
  injection hj with hj
  subst hj
  exact hC j hjl

theorem own_cell {W : World} {base g n cap : Nat} {xs : List Value} {v : Value} (h : W.ownsRow base 5 1 (.slice (some ⟨g, 0, none⟩) n cap) n xs) (j : Nat) (hj : j < n) (hv : xs[j]? = some v) : W.cell? ⟨g, j, none⟩ = some v := by
  rw [h.cellAt j (by omega), hv]

theorem ret_true {a : Bool} (h : a = true) : Ending.returned (.bool a) = .returned (.bool true) := by rw [h]

/-! ### The walk -/
set_option maxHeartbeats 1000000 in
theorem two_small (x : Addr) (len cap : Nat) (zs : List Int) (ao : Option Addr) (m c : Nat) (ts : List Int) (w : World) (h1 : 1 ≤ len) (hl : len ≤ 65536) (h3 : len ≤ 2) (hlc : len ≤ zs.length) (hm : m ≤ 65536)
    (hcell : ∀ i, i < zs.length → w.cell? (x.add i) = some (.int .u8 (zs.getD i 0))) (hwz : ∀ n ∈ zs, (Lit.int .u8 n).wf = true)
    (hnone : ao = none → m = 0 ∧ c = 0) (hts : m ≤ ts.length) (htc : ∀ ad, ao = some ad → ∀ j, j < m → w.cell? (ad.add j) = some (.int .u8 (ts.getD j 0)))
    (A B Y : Int) (hA : mlen len (zs.getD 0 0) (zs.getD 1 0) = A) (hY0 : 0 ≤ Y) (hY1 : Y ≤ 255) (hY : 1 < len + m → (bytesOf zs len ++ bytesOf ts m)[1]? = some (.int .u8 Y)) (hB : mlen (len + m) (zs.getD 0 0) Y = B)
    (hfin : (1 ≤ A ∧ B = A) ∨ (A = 0 ∧ len ≤ 1 ∧ m ≤ 0 ∧ B = 0) ∨ (A = 0 ∧ len ≤ 1 ∧ 1 ≤ m ∧ 1 ≤ B)) :
    Calls Try.prog 4 #[.slice (some x) len cap, .slice ao m c] w fun e w' => e = .returned (.bool true) ∧ Below w.heap.size w w' := by
  have hn := neq_nil (some x) len cap
  have hmk := mk_run len (by omega)
  have b0 := byte_bd hwz 0
  have b1 := byte_bd hwz 1
  obtain ⟨x0, hx0⟩ : ∃ x0, x0 = zs.getD 0 0 := ⟨_, rfl⟩
  obtain ⟨y0, hy0⟩ : ∃ y0, y0 = zs.getD 1 0 := ⟨_, rfl⟩
  obtain ⟨w2, hcp, hc2, hB2, hz2⟩ := copy_run x len cap zs w hlc hcell
  have HZ : Hid (w2.heap.size = w.heap.size + 1) := hz2
  have HC : Hid (∀ j, j < len → w2.cell? ⟨w.heap.size, j, none⟩ = some (.int .u8 (zs.getD j 0))) := hc2
  have HB2 : Hid (Below w.heap.size w w2) := hB2
  have HT : Hid (∀ ad, ao = some ad → ∀ j, j < m → w.cell? (ad.add j) = some (.int .u8 (ts.getD j 0))) := htc
  have HN : Hid (ao = none → m = 0 ∧ c = 0) := hnone
  clear hcell hwz hc2 hB2 hz2 htc hnone
  rw [← hx0, ← hy0] at hA
  rw [← hx0] at hB
  rw [← hx0] at b0
  rw [← hy0] at b1
  have HA : Hid (mlen len x0 y0 = A) := hA
  have HBv : Hid (mlen (len + m) x0 Y = B) := hB
  clear hA hB
  have c0 : Hid (w2.cell? ⟨w.heap.size, 0, none⟩ = some (.int .u8 x0)) := by show _ = _; rw [hx0]; exact HC.out 0 (by omega)
  have c1 : Hid (1 < len → w2.cell? ⟨w.heap.size, 0 + 1, none⟩ = some (.int .u8 y0)) := fun h => by rw [hy0]; exact HC.out 1 h
  have hh1 : 1 ≤ len := by omega
  have hh2 : len ≤ zs.length := by omega
  have HX : Hid ((bytesOf zs len ++ bytesOf ts m)[0]? = some (.int .u8 x0)) := by
    show _ = _
    rw [List.getElem?_append_left (by rw [length_bytesOf zs len hh2]; omega), bytesOf_at zs len 0 hh2 (by omega), hx0]
  have HY : Hid (1 < len + m → (bytesOf zs len ++ bytesOf ts m)[1]? = some (.int .u8 Y)) := hY
  clear hx0 hy0 hY
  obtain ⟨i0, hi, hz0, hz1, hz2⟩ := info_parts info5
  have hby : i0.bytes * (len + m) ≤ 281474976710656 := by rw [hz2]; omega
  have hmax : len + m ≤ maxLen := by unfold maxLen; omega
  have hbase : w.heap.size + 1 ≤ w2.drew.heap.size := by rw [← HZ.out]; exact Nat.le_refl _
  have HBY : Hid (i0.bytes * (len + m) ≤ 281474976710656 ∧ len + m ≤ maxLen ∧ w.heap.size + 1 ≤ w2.drew.heap.size) := ⟨hby, hmax, hbase⟩
  clear hby hmax hbase
  have HL1 : Hid ((bytesOf zs len).length = len * 1) := (length_bytesOf zs len hh2).trans (Nat.mul_one _).symm
  have HL2 : Hid ((bytesOf ts m).length = m * 1) := (length_bytesOf ts m hts).trans (Nat.mul_one _).symm
  have R1 : Hid (∀ w3, w2.drew.grownBy w3 none → ∀ j u, (bytesOf zs len)[j]? = some u → w3.cell? ((⟨w.heap.size, 0, none⟩ : Addr).add j) = some u) := by
    intro w3 hg
    refine row_cells hh2 (fun j hj => ?_)
    exact hg.cell (by exact HC.out j (by omega)) (by simp)
  have R2 : Hid (∀ w3 w4, w2.drew.grownBy w3 none → w3.grownBy w4 (some w2.heap.size) → ∀ ad, ao = some ad → ∀ j u, (bytesOf ts m)[j]? = some u → w4.cell? (ad.add j) = some u) := by
    intro w3 w4 hg hg4 ad had
    refine arg_cells hts (fun j hj => ?_)
    have q0 := HT.out ad had j hj
    have hlt := World.block_lt_of_cell? w (ad.add j) q0
    have q1 : w2.drew.cell? (ad.add j) = some (.int .u8 (ts.getD j 0)) := cell_later HB2.out.drew q0
    refine hg4.cell (hg.cell q1 (by simp)) ?_
    intro e
    injection e with e
    rw [HZ.out] at e
    omega
  have R3 : Hid (∀ w3 w4 w5, w2.drew.grownBy w3 none → w3.grownBy w4 (some w2.heap.size) → w4.grownBy w5 (some w2.heap.size) → Below w.heap.size w w5) := by
    intro w3 w4 w5 g3 g4 g5
    have hz : w2.drew.heap.size = w.heap.size + 1 := HZ.out
    have s3 := g3.size
    have s4 := g4.size
    refine ((HB2.out.drew.grown g3 (by omega) (by simp)).grown g4 (by omega) ?_).grown g5 (by omega) ?_
    · intro k hk; injection hk with hk; have := HZ.out; omega
    · intro k hk; injection hk with hk; have := HZ.out; omega
  rcases hfin with ⟨f1, rfl⟩ | ⟨rfl, f1, f2, rfl⟩ | ⟨rfl, f1, f2, f3⟩
  all_goals
    have tok1 : True := trivial
    go_enter Try.func4, Try.ntmps4
    go_wp2_with (first | (go_at_call 7; have _t := tok1; refine (zzmodrm_val _ w.heap.size 0 len len x0 y0 b0.1 b0.2 b1.1 b1.2 w2 (by omega) (by omega) c0.out c1.out HA.out).mono ?_; rintro e w' ⟨rfl, rfl⟩; clear tok1) | (at_make; refine wpList_make_own _ rfl (.const (.int .i64 0)) (.tmp 43) 22 rfl (w.heap.size + 1) 5 i0 (.int .u8 0) 1 Try.underlying22 hi hz0 hz1 .i64 .i64 _ (len + m) rfl rfl (by omega) HBY.out.1 HBY.out.2.1 HBY.out.2.2 ?_; intro w3 hown3 hgrow3) | (at_builtin; refine wpList_append_fits _ rfl (.tmp 45) (.tmp 48) 22 rfl (w.heap.size + 1) 5 i0 1 Try.underlying22 hi hz1 w2.heap.size 0 (len + m) [] rfl hown3 ⟨w.heap.size, 0, none⟩ len len (bytesOf zs len) rfl HL1.out (R1.out _ hgrow3) (bytesOf_one zs len) (by omega) ?_; intro w4 hown4 hgrow4; simp only [Nat.zero_add, List.nil_append] at hown4) | (at_builtin; refine wpList_append_fits_any _ rfl (.tmp 50) (.tmp 51) 22 rfl (w.heap.size + 1) 5 i0 1 Try.underlying22 hi hz1 w2.heap.size len (len + m) (bytesOf zs len) rfl hown4 ao m c (bytesOf ts m) rfl HL2.out HN.out (R2.out _ _ hgrow3 hgrow4) (bytesOf_one ts m) (by omega) ?_; intro w5 hown5 hgrow5) | (go_at_call 7; refine (zzmodrm_val _ w2.heap.size 0 (len + m) (len + m) x0 Y b0.1 b0.2 hY0 hY1 _ (by omega) (by omega) (own_cell hown5 0 (by omega) HX.out) (fun h => own_cell hown5 1 h (HY.out h)) HBv.out).mono ?_; rintro e w' ⟨rfl, rfl⟩) | (go_at_call 9; go_in))
    go_ret
    exact ⟨ret_true (by first | rfl | (simp; omega)), (R3.out _ _ _ hgrow3 hgrow4 hgrow5).drew⟩

set_option maxHeartbeats 1000000 in
theorem two_large (x : Addr) (len cap : Nat) (zs : List Int) (ao : Option Addr) (m c : Nat) (ts : List Int) (w : World) (h1 : 1 ≤ len) (hl : len ≤ 65536) (h3 : 3 ≤ len) (hlc : len ≤ zs.length) (hm : m ≤ 65536)
    (hcell : ∀ i, i < zs.length → w.cell? (x.add i) = some (.int .u8 (zs.getD i 0))) (hwz : ∀ n ∈ zs, (Lit.int .u8 n).wf = true)
    (hnone : ao = none → m = 0 ∧ c = 0) (hts : m ≤ ts.length) (htc : ∀ ad, ao = some ad → ∀ j, j < m → w.cell? (ad.add j) = some (.int .u8 (ts.getD j 0)))
    (A B Y : Int) (hA : mlen len (zs.getD 0 0) (zs.getD 1 0) = A) (hY0 : 0 ≤ Y) (hY1 : Y ≤ 255) (hY : 1 < 2 + m → (bytesOf zs 2 ++ bytesOf ts m)[1]? = some (.int .u8 Y)) (hB : mlen (2 + m) (zs.getD 0 0) Y = B)
    (hfin : 1 ≤ A ∧ B = A) :
    Calls Try.prog 4 #[.slice (some x) len cap, .slice ao m c] w fun e w' => e = .returned (.bool true) ∧ Below w.heap.size w w' := by
  have hn := neq_nil (some x) len cap
  have hmk := mk_run len (by omega)
  have b0 := byte_bd hwz 0
  have b1 := byte_bd hwz 1
  obtain ⟨x0, hx0⟩ : ∃ x0, x0 = zs.getD 0 0 := ⟨_, rfl⟩
  obtain ⟨y0, hy0⟩ : ∃ y0, y0 = zs.getD 1 0 := ⟨_, rfl⟩
  obtain ⟨w2, hcp, hc2, hB2, hz2⟩ := copy_run x len cap zs w hlc hcell
  have HZ : Hid (w2.heap.size = w.heap.size + 1) := hz2
  have HC : Hid (∀ j, j < len → w2.cell? ⟨w.heap.size, j, none⟩ = some (.int .u8 (zs.getD j 0))) := hc2
  have HB2 : Hid (Below w.heap.size w w2) := hB2
  have HT : Hid (∀ ad, ao = some ad → ∀ j, j < m → w.cell? (ad.add j) = some (.int .u8 (ts.getD j 0))) := htc
  have HN : Hid (ao = none → m = 0 ∧ c = 0) := hnone
  clear hcell hwz hc2 hB2 hz2 htc hnone
  rw [← hx0, ← hy0] at hA
  rw [← hx0] at hB
  rw [← hx0] at b0
  rw [← hy0] at b1
  have HA : Hid (mlen len x0 y0 = A) := hA
  have HBv : Hid (mlen (2 + m) x0 Y = B) := hB
  clear hA hB
  have c0 : Hid (w2.cell? ⟨w.heap.size, 0, none⟩ = some (.int .u8 x0)) := by show _ = _; rw [hx0]; exact HC.out 0 (by omega)
  have c1 : Hid (1 < len → w2.cell? ⟨w.heap.size, 0 + 1, none⟩ = some (.int .u8 y0)) := fun h => by rw [hy0]; exact HC.out 1 h
  have hh1 : 1 ≤ 2 := by omega
  have hh2 : 2 ≤ zs.length := by omega
  have HX : Hid ((bytesOf zs 2 ++ bytesOf ts m)[0]? = some (.int .u8 x0)) := by
    show _ = _
    rw [List.getElem?_append_left (by rw [length_bytesOf zs 2 hh2]; omega), bytesOf_at zs 2 0 hh2 (by omega), hx0]
  have HY : Hid (1 < 2 + m → (bytesOf zs 2 ++ bytesOf ts m)[1]? = some (.int .u8 Y)) := hY
  clear hx0 hy0 hY
  obtain ⟨i0, hi, hz0, hz1, hz2⟩ := info_parts info5
  have hby : i0.bytes * (2 + m) ≤ 281474976710656 := by rw [hz2]; omega
  have hmax : 2 + m ≤ maxLen := by unfold maxLen; omega
  have hbase : w.heap.size + 1 ≤ w2.drew.heap.size := by rw [← HZ.out]; exact Nat.le_refl _
  have HBY : Hid (i0.bytes * (2 + m) ≤ 281474976710656 ∧ 2 + m ≤ maxLen ∧ w.heap.size + 1 ≤ w2.drew.heap.size) := ⟨hby, hmax, hbase⟩
  clear hby hmax hbase
  have HL1 : Hid ((bytesOf zs 2).length = 2 * 1) := (length_bytesOf zs 2 hh2).trans (Nat.mul_one _).symm
  have HL2 : Hid ((bytesOf ts m).length = m * 1) := (length_bytesOf ts m hts).trans (Nat.mul_one _).symm
  have R1 : Hid (∀ w3, w2.drew.grownBy w3 none → ∀ j u, (bytesOf zs 2)[j]? = some u → w3.cell? ((⟨w.heap.size, 0, none⟩ : Addr).add j) = some u) := by
    intro w3 hg
    refine row_cells hh2 (fun j hj => ?_)
    exact hg.cell (by exact HC.out j (by omega)) (by simp)
  have R2 : Hid (∀ w3 w4, w2.drew.grownBy w3 none → w3.grownBy w4 (some w2.heap.size) → ∀ ad, ao = some ad → ∀ j u, (bytesOf ts m)[j]? = some u → w4.cell? (ad.add j) = some u) := by
    intro w3 w4 hg hg4 ad had
    refine arg_cells hts (fun j hj => ?_)
    have q0 := HT.out ad had j hj
    have hlt := World.block_lt_of_cell? w (ad.add j) q0
    have q1 : w2.drew.cell? (ad.add j) = some (.int .u8 (ts.getD j 0)) := cell_later HB2.out.drew q0
    refine hg4.cell (hg.cell q1 (by simp)) ?_
    intro e
    injection e with e
    rw [HZ.out] at e
    omega
  have R3 : Hid (∀ w3 w4 w5, w2.drew.grownBy w3 none → w3.grownBy w4 (some w2.heap.size) → w4.grownBy w5 (some w2.heap.size) → Below w.heap.size w w5) := by
    intro w3 w4 w5 g3 g4 g5
    have hz : w2.drew.heap.size = w.heap.size + 1 := HZ.out
    have s3 := g3.size
    have s4 := g4.size
    refine ((HB2.out.drew.grown g3 (by omega) (by simp)).grown g4 (by omega) ?_).grown g5 (by omega) ?_
    · intro k hk; injection hk with hk; have := HZ.out; omega
    · intro k hk; injection hk with hk; have := HZ.out; omega
  obtain ⟨f1, rfl⟩ := hfin
  all_goals
    have tok1 : True := trivial
    go_enter Try.func4, Try.ntmps4
    go_wp2_with (first | (go_at_call 7; have _t := tok1; refine (zzmodrm_val _ w.heap.size 0 len len x0 y0 b0.1 b0.2 b1.1 b1.2 w2 (by omega) (by omega) c0.out c1.out HA.out).mono ?_; rintro e w' ⟨rfl, rfl⟩; clear tok1) | (at_make; refine wpList_make_own _ rfl (.const (.int .i64 0)) (.tmp 43) 22 rfl (w.heap.size + 1) 5 i0 (.int .u8 0) 1 Try.underlying22 hi hz0 hz1 .i64 .i64 _ (2 + m) rfl rfl (by omega) HBY.out.1 HBY.out.2.1 HBY.out.2.2 ?_; intro w3 hown3 hgrow3) | (at_builtin; refine wpList_append_fits _ rfl (.tmp 45) (.tmp 48) 22 rfl (w.heap.size + 1) 5 i0 1 Try.underlying22 hi hz1 w2.heap.size 0 (2 + m) [] rfl hown3 ⟨w.heap.size, 0, none⟩ 2 len (bytesOf zs 2) rfl HL1.out (R1.out _ hgrow3) (bytesOf_one zs 2) (by omega) ?_; intro w4 hown4 hgrow4; simp only [Nat.zero_add, List.nil_append] at hown4) | (at_builtin; refine wpList_append_fits_any _ rfl (.tmp 50) (.tmp 51) 22 rfl (w.heap.size + 1) 5 i0 1 Try.underlying22 hi hz1 w2.heap.size 2 (2 + m) (bytesOf zs 2) rfl hown4 ao m c (bytesOf ts m) rfl HL2.out HN.out (R2.out _ _ hgrow3 hgrow4) (bytesOf_one ts m) (by omega) ?_; intro w5 hown5 hgrow5) | (go_at_call 7; refine (zzmodrm_val _ w2.heap.size 0 (2 + m) (2 + m) x0 Y b0.1 b0.2 hY0 hY1 _ (by omega) (by omega) (own_cell hown5 0 (by omega) HX.out) (fun h => own_cell hown5 1 h (HY.out h)) HBv.out).mono ?_; rintro e w' ⟨rfl, rfl⟩) | (go_at_call 9; go_in))
    go_ret
    exact ⟨ret_true (by first | rfl | (simp; omega)), (R3.out _ _ _ hgrow3 hgrow4 hgrow5).drew⟩
end Go.Proofs.Qxb6603732a
