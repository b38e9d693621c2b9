import Derived.Test.Qxb6603436aRows
import Derived.Test.Qxb6603436aDigits
import Derived.WalkKit
import Derived.WalkSpells
import Derived.WalkLawsBesides
namespace Go.Proofs.Qxb6603436a
open Go.RowKit
open Plain

theorem take_snoc (s : ByteArray) (k : Nat) (h : k < s.size) : s.data.toList.take (k + 1) = s.data.toList.take k ++ [s[k]] := by
  rw [List.take_succ_eq_append_getElem (by simpa using h)]; rfl
theorem mem_byte (s : ByteArray) (k : Nat) (h : k < s.size) : s[k] ∈ s.data.toList := by
  have : s[k] = s.data.toList[k]'(by simpa using h) := rfl
  rw [this]; exact List.getElem_mem _
theorem size_of_nil (s : ByteArray) (h : s.data.toList = []) : s.size = 0 := by
  have h1 : s.size = s.data.toList.length := by simp
  rw [h1, h]; rfl
theorem ret_two {k : IntKind} {a b : Int} {p q : Bool} (h : a = b) (h2 : p = q) : Ending.returned (.tuple #[.int k a, .bool p]) = .returned (.tuple #[.int k b, .bool q]) := by rw [h, h2]

set_option maxHeartbeats 400000 in
theorem number_any (s : ByteArray) (w : World) (hs : s.size ≤ maxLen) :
    Calls Try.prog 16 #[.string s] w fun e w' => e = .returned (.tuple #[.int .i64 (numN s.data.toList), .bool (numOk s.data.toList)]) ∧ w' = w := by
  unfold maxLen at hs
  by_cases h0 : s.size = 0
  · have hl : s.data.toList = [] := List.eq_nil_of_length_eq_zero (by simpa using h0)
    have hne : s.toList.isEmpty = true := by rw [ByteArray.toList_eq, hl]; rfl
    have HL : Hid (s.data.toList = []) := hl
    clear hl h0
    go_enter Try.func16, Try.ntmps16
    go_wp2
    go_ret2
    exact ⟨ret_two (by rw [HL.out]; rfl) (by rw [HL.out]; rfl), rfl⟩
  · have hne : s.toList.isEmpty = false := by
      rw [ByteArray.toList_eq]
      cases hl : s.data.toList with
      | nil => exact absurd (size_of_nil s hl) h0
      | cons a b => rfl
    have HN : Hid (s.data.toList ≠ []) := by
      intro hl; exact h0 (size_of_nil s hl)
    go_enter Try.func16, Try.ntmps16
    go_wp2
    go_loop [2, 10] (fun n i => ∃ k : Nat, k ≤ s.size ∧ i = .int .i64 k ∧ (∀ c ∈ s.data.toList.take k, isDig c = true) ∧ n = .int .i64 (capVal (s.data.toList.take k))) (fun _ i => s.size - (intOf i).toNat)
    case atStart => exact ⟨0, Nat.zero_le _, rfl, by simp, rfl⟩
    case round =>
      obtain ⟨k, hk, rfl, hd, rfl⟩ := hrel
      have hb := capVal_bd _ hd
      have HD : Hid (∀ c ∈ s.data.toList.take k, isDig c = true) := hd
      clear hd
      by_cases hlt : k < s.size
      · by_cases h1 : (s[k].toNat : Int) < 48
        · have HO : Hid (numOk s.data.toList = false) := numOk_not _ _ (mem_byte s k hlt) (by omega)
          go_wp2
          go_ret2
          exact ⟨ret_two (numN_not _ HO.out).symm HO.out.symm, rfl⟩
        · by_cases h2 : (57 : Int) < (s[k].toNat : Int)
          · have HO : Hid (numOk s.data.toList = false) := numOk_not _ _ (mem_byte s k hlt) (by omega)
            go_wp2
            go_ret2
            exact ⟨ret_two (numN_not _ HO.out).symm HO.out.symm, rfl⟩
          · have HS : Hid (capVal (s.data.toList.take (k + 1)) = if 65536 < capVal (s.data.toList.take k) * 10 + ((s[k].toNat : Int) - 48) then 65536 else capVal (s.data.toList.take k) * 10 + ((s[k].toNat : Int) - 48)) := by
              show _ = _
              rw [take_snoc s k hlt, capVal_snoc]
              split <;> omega
            have HD2 : Hid (∀ c ∈ s.data.toList.take (k + 1), isDig c = true) := by
              intro c hc
              rw [take_snoc s k hlt] at hc
              rcases List.mem_append.1 hc with hc | hc
              · exact HD.out c hc
              · simp at hc; subst hc; exact (isDig_iff _).2 (by omega)
            go_wp2
            go_round
            case rel => exact ⟨k + 1, by omega, by go_num, HD2.out, by rw [HS.out]⟩
            case measure => simp [intOf]; omega
      · have hk2 : s.data.toList.take k = s.data.toList := List.take_of_length_le (by simp; omega)
        have HO : Hid (numOk s.data.toList = true) := numOk_of _ HN.out (by have h := HD.out; rw [hk2] at h; exact h)
        have HV : Hid (capVal (s.data.toList.take k) = numN s.data.toList) := by show _ = _; rw [hk2, numN_ok _ HO.out]
        clear hk2
        go_wp2
        go_ret2
        exact ⟨ret_two HV.out HO.out.symm, rfl⟩
end Go.Proofs.Qxb6603436a
