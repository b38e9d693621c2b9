import Derived.Test.Qxb6603436aRows
import Derived.WalkKit
import Derived.WalkSpells
import Derived.WalkLawsBesides
import Derived.Lib.Strings
namespace Go.Proofs.Qxb6603436a
open Go.RowKit

theorem take_one (l : List UInt8) (h : 0 < l.length) : l.take 1 = [l[0]] := by
  cases l with
  | nil => simp at h
  | cons a b => simp
theorem just_one (l : List UInt8) (h : l.length = 1) : l = [l[0]] := by
  have e := take_one l (by omega)
  rw [List.take_of_length_le (by omega)] at e
  exact e
/-- The first byte alone. -/
theorem first_byte (s : ByteArray) (h : 0 < s.size) : (s.extract 0 1).toList = [s[0]] := by
  rw [Lib.extract_toList]
  exact take_one s.data.toList (by simpa using h)

theorem beq_ne {l m : List UInt8} (h : l.length ≠ m.length) : (l == m) = false := by
  rw [beq_eq_false_iff_ne]; intro e; exact h (by rw [e])
theorem length_bytes (s : ByteArray) : s.toList.length = s.size := by rw [ByteArray.toList_eq]; simp

theorem one_byte (s : ByteArray) (h : s.size = 1) : s.toList = [s[0]] := by
  rw [ByteArray.toList_eq]
  exact just_one s.data.toList (by simpa using h)

theorem byte_beq (c : UInt8) (k : UInt8) : ([c] == [k]) = ((c.toNat : Int) == (k.toNat : Int)) := by
  rw [Bool.eq_iff_iff]
  simp only [beq_iff_eq, List.cons.injEq, and_true]
  rw [← UInt8.toNat_inj]
  omega

set_option maxHeartbeats 400000 in
theorem restricts_big (s : ByteArray) (w : World) (hs : s.size ≤ maxLen) (hm : 1048576 < s.size) :
    Calls Try.prog 8 #[.string s] w fun e w' => e = .returned (.bool true) ∧ w' = w := by
  unfold maxLen at hs
  go_enter Try.func8, Try.ntmps8
  go_wp2
  go_ret
  exact ⟨rfl, rfl⟩

set_option maxHeartbeats 400000 in
theorem restricts_empty (s : ByteArray) (w : World) (h0 : s.size ≤ 0) (hq : (s.toList == [63]) = false) (hst : (s.toList == [42]) = false) :
    Calls Try.prog 8 #[.string s] w fun e w' => e = .returned (.bool true) ∧ w' = w := by
  go_enter Try.func8, Try.ntmps8
  go_wp2
  go_ret
  exact ⟨rfl, rfl⟩

set_option maxHeartbeats 400000 in
theorem restricts_mark (s : ByteArray) (w : World) (h1 : 1 ≤ s.size) (h2 : s.size ≤ 1) (hq : (s.toList == [63]) = true) :
    Calls Try.prog 8 #[.string s] w fun e w' => e = .returned (.bool true) ∧ w' = w := by
  go_enter Try.func8, Try.ntmps8
  go_wp2
  go_ret
  exact ⟨rfl, rfl⟩

set_option maxHeartbeats 400000 in
theorem restricts_one_star (s : ByteArray) (w : World) (h1 : 1 ≤ s.size) (h2 : s.size ≤ 1) (hq : (s.toList == [63]) = false) (hst : (s.toList == [42]) = true) (hpre : ((s.extract 0 1).toList == [42]) = true) :
    Calls Try.prog 8 #[.string s] w fun e w' => e = .returned (.bool true) ∧ w' = w := by
  go_enter Try.func8, Try.ntmps8
  go_wp2
  go_ret
  exact ⟨rfl, rfl⟩

set_option maxHeartbeats 400000 in
theorem restricts_one_other (s : ByteArray) (w : World) (h1 : 1 ≤ s.size) (h2 : s.size ≤ 1) (hq : (s.toList == [63]) = false) (hst : (s.toList == [42]) = false) (hpre : ((s.extract 0 1).toList == [42]) = false) :
    Calls Try.prog 8 #[.string s] w fun e w' => e = .returned (.bool true) ∧ w' = w := by
  go_enter Try.func8, Try.ntmps8
  go_wp2
  go_ret
  exact ⟨rfl, rfl⟩

set_option maxHeartbeats 400000 in
theorem restricts_star (s : ByteArray) (w : World) (h2 : 2 ≤ s.size) (hm : s.size ≤ 1048576) (hq : (s.toList == [63]) = false) (hst : (s.toList == [42]) = false) (hpre : ((s.extract 0 1).toList == [42]) = true) (hb : ((s[0].toNat : Int) == 42) = true) :
    Calls Try.prog 8 #[.string s] w fun e w' => e = .returned (.bool true) ∧ w' = w := by
  go_enter Try.func8, Try.ntmps8
  go_wp2
  go_ret
  exact ⟨rfl, rfl⟩

set_option maxHeartbeats 400000 in
theorem restricts_other (s : ByteArray) (w : World) (h2 : 2 ≤ s.size) (hm : s.size ≤ 1048576) (hq : (s.toList == [63]) = false) (hst : (s.toList == [42]) = false) (hpre : ((s.extract 0 1).toList == [42]) = false) (hb : ((s[0].toNat : Int) == 42) = false) :
    Calls Try.prog 8 #[.string s] w fun e w' => e = .returned (.bool true) ∧ w' = w := by
  go_enter Try.func8, Try.ntmps8
  go_wp2
  go_ret
  exact ⟨rfl, rfl⟩

theorem restricts_law (s : ByteArray) (w : World) (hs : s.size ≤ maxLen) :
    Calls Try.prog 8 #[.string s] w fun e w' => e = .returned (.bool true) ∧ w' = w := by
  have hlen := length_bytes s
  by_cases hm : 1048576 < s.size
  · exact restricts_big s w hs hm
  by_cases h0 : s.size = 0
  · exact restricts_empty s w (by omega) (beq_ne (by simp; omega)) (beq_ne (by simp; omega))
  have hpre : ((s.extract 0 1).toList == [42]) = ((s[0].toNat : Int) == 42) := by rw [first_byte s (by omega)]; exact byte_beq _ 42
  by_cases h1 : s.size = 1
  · have hst : (s.toList == [42]) = ((s[0].toNat : Int) == 42) := by rw [one_byte s h1]; exact byte_beq _ 42
    cases hq : s.toList == [63] with
    | true => exact restricts_mark s w (by omega) (by omega) hq
    | false =>
      cases hb : ((s[0].toNat : Int) == 42) with
      | true => exact restricts_one_star s w (by omega) (by omega) hq (hst.trans hb) (hpre.trans hb)
      | false => exact restricts_one_other s w (by omega) (by omega) hq (hst.trans hb) (hpre.trans hb)
  · have hq : (s.toList == [63]) = false := beq_ne (by simp; omega)
    have hst : (s.toList == [42]) = false := beq_ne (by simp; omega)
    cases hb : ((s[0].toNat : Int) == 42) with
    | true => exact restricts_star s w (by omega) (by omega) hq hst (hpre.trans hb) hb
    | false => exact restricts_other s w (by omega) (by omega) hq hst (hpre.trans hb) hb
end Go.Proofs.Qxb6603436a
