import Derived.Test.Qxb6603436aNumber
namespace Go.Proofs.Qxb6603436a
open Go.RowKit
open Plain

theorem numN_min (l : List UInt8) (h0 : l ≠ []) (h : ∀ c ∈ l, isDig c = true) : numN l = min (plainVal l) 65536 := by
  rw [numN_ok _ (numOk_of l h0 h), capVal_eq l h]

theorem byte_at (s : ByteArray) (k : Nat) (h : k < s.size) : s.data.toList[k]'(by simpa using h) = s[k] := rfl

set_option maxHeartbeats 1000000 in
theorem model_any (s : ByteArray) (w : World) (hs : s.size ≤ maxLen) :
    Calls Try.prog 11 #[.string s] w fun e w' => e = .returned (.tuple #[.int .i64 (numN s.data.toList), .bool (numOk s.data.toList)]) ∧ w' = w := by
  unfold maxLen at hs
  by_cases h0 : s.size = 0
  · have hl : s.data.toList = [] := List.eq_nil_of_length_eq_zero (by simpa using h0)
    have HL : Hid (s.data.toList = []) := hl
    clear hl
    go_enter Try.func11, Try.ntmps11
    go_wp2
    go_ret2
    exact ⟨ret_two (by rw [HL.out]; rfl) (by rw [HL.out]; rfl), rfl⟩
  · have HN : Hid (s.data.toList ≠ []) := by
      intro hl; exact h0 (size_of_nil s hl)
    have hlen : Hid (s.data.toList.length = s.size) := by show _ = _; simp
    have hpos : 0 < s.size := by omega
    clear h0
    go_enter Try.func11, Try.ntmps11
    go_wp2
    go_loop [4] (fun i => ∃ k : Nat, k ≤ s.size ∧ i = .int .i64 k ∧ (∀ c ∈ s.data.toList.take k, isDig c = true)) (fun i => s.size - (intOf i).toNat)
    case atStart => exact ⟨0, Nat.zero_le _, rfl, by simp⟩
    case round =>
      obtain ⟨k, hk, rfl, hd⟩ := hrel
      have HD : Hid (∀ c ∈ s.data.toList.take k, isDig c = true) := hd
      clear hd
      by_cases hlt : k < s.size
      · by_cases h1 : (s[k].toNat : Int) < 48
        · have HO : Hid (numOk s.data.toList = false) := numOk_not _ _ (mem_byte s k hlt) (by omega)
          go_wp2
          go_ret2
          exact ⟨ret_two (numN_not _ HO.out).symm HO.out.symm, rfl⟩
        · by_cases h2 : (57 : Int) < (s[k].toNat : Int)
          · have HO : Hid (numOk s.data.toList = false) := numOk_not _ _ (mem_byte s k hlt) (by omega)
            go_wp2
            go_ret2
            exact ⟨ret_two (numN_not _ HO.out).symm HO.out.symm, rfl⟩
          · have HD2 : Hid (∀ c ∈ s.data.toList.take (k + 1), isDig c = true) := by
              intro c hc
              rw [take_snoc s k hlt] at hc
              rcases List.mem_append.1 hc with hc | hc
              · exact HD.out c hc
              · simp at hc; subst hc; exact (isDig_iff _).2 (by omega)
            go_wp2
            go_round
            case rel => exact ⟨k + 1, by omega, by go_num, HD2.out⟩
            case measure => simp [intOf]; omega
      · have hk2 : s.data.toList.take k = s.data.toList := List.take_of_length_le (by simp; omega)
        have HA : Hid (∀ c ∈ s.data.toList, isDig c = true) := by have h := HD.out; rw [hk2] at h; exact h
        have HO : Hid (numOk s.data.toList = true) := numOk_of _ HN.out HA.out
        have HV : Hid (numN s.data.toList = min (plainVal s.data.toList) 65536) := numN_min _ HN.out HA.out
        clear hk2 HD
        go_wp2
        go_loop [5] (fun i => ∃ st : Nat, st ≤ s.size ∧ i = .int .i64 st ∧ (∀ c ∈ s.data.toList.take st, c = 48)) (fun i => s.size - (intOf i).toNat)
        case atStart => exact ⟨0, Nat.zero_le _, rfl, by simp⟩
        case round =>
          obtain ⟨st, hst, rfl, hz⟩ := hrel
          have HZ : Hid (∀ c ∈ s.data.toList.take st, c = 48) := hz
          clear hz
          have hcase : (∃ _ : st < s.size, 48 ≤ (s[st].toNat : Int) ∧ (s[st].toNat : Int) ≤ 48) ∨ (∃ _ : st < s.size, 48 < (s[st].toNat : Int) ∧ 5 < s.size - st) ∨ (∃ _ : st < s.size, 48 < (s[st].toNat : Int) ∧ s.size - st ≤ 5) ∨ s.size ≤ st := by
            by_cases h : st < s.size
            · have hg := (isDig_iff _).1 (HA.out _ (mem_byte s st h))
              by_cases h2 : (s[st].toNat : Int) ≤ 48
              · exact .inl ⟨h, by omega, h2⟩
              · by_cases h5 : 5 < s.size - st
                · exact .inr (.inl ⟨h, by omega, h5⟩)
                · exact .inr (.inr (.inl ⟨h, by omega, by omega⟩))
            · exact .inr (.inr (.inr (by omega)))
          rcases hcase with ⟨hlt2, hz1, hz2⟩ | ⟨hlt2, hz1, h5⟩ | ⟨hlt2, hz1, h5⟩ | hge
          · have HZ2 : Hid (∀ c ∈ s.data.toList.take (st + 1), c = 48) := by
              intro c hc
              rw [take_snoc s st hlt2] at hc
              rcases List.mem_append.1 hc with hc | hc
              · exact HZ.out c hc
              · simp at hc; subst hc; exact UInt8.toNat_inj.1 (by show _ = 48; omega)
            go_wp2
            go_round
            case rel => exact ⟨st + 1, by omega, by go_num, HZ2.out⟩
            case measure => simp [intOf]; omega
          · have HB : Hid (65536 = numN s.data.toList) := by
              show _ = _
              have hb := pv_big s.data.toList HA.out st HZ.out (by rw [hlen.out]; exact hlt2) (by rw [byte_at s st hlt2]; intro e; rw [e] at hz1; simp at hz1) (by rw [hlen.out]; exact h5)
              rw [HV.out]; omega
            go_wp2
            go_ret2
            exact ⟨ret_two HB.out HO.out.symm, rfl⟩
          all_goals
            have hz5 : s.size - st ≤ 5 := by omega
            have HZV : Hid (plainVal (s.data.toList.take st) = 0) := plainVal_zeros _ HZ.out
            go_wp2
            go_loop [6, 7] (fun v i => ∃ j : Nat, st ≤ j ∧ j ≤ s.size ∧ i = .int .i64 j ∧ v = .int .i64 (plainVal (s.data.toList.take j))) (fun _ i => s.size - (intOf i).toNat)
            case atStart => exact ⟨st, Nat.le_refl _, hst, rfl, by rw [HZV.out]⟩
            case round =>
              obtain ⟨j, hj1, hj2, rfl, rfl⟩ := hrel
              have hb := pv_bound s.data.toList HA.out st j HZ.out hj1 (by rw [hlen.out]; exact hj2) (by rw [hlen.out]; exact hz5)
              by_cases hjl : j < s.size
              · have hg := (isDig_iff _).1 (HA.out _ (mem_byte s j hjl))
                have hg1 : (48 : Int) ≤ (s[j].toNat : Int) := by omega
                have hg2 : (s[j].toNat : Int) ≤ 57 := by omega
                clear hg
                have HS : Hid (plainVal (s.data.toList.take (j + 1)) = plainVal (s.data.toList.take j) * 10 + ((s[j].toNat : Int) - 48)) := by
                  show _ = _
                  rw [take_snoc s j hjl, plainVal_snoc]
                go_wp2
                go_round
                case rel => exact ⟨j + 1, by omega, by omega, by go_num, by rw [HS.out]⟩
                case measure => simp [intOf]; omega
              · have hk3 : s.data.toList.take j = s.data.toList := List.take_of_length_le (by simp; omega)
                by_cases hcap : 65536 < plainVal (s.data.toList.take j)
                · have HB : Hid (65536 = numN s.data.toList) := by show _ = _; rw [HV.out]; rw [hk3] at hcap; omega
                  clear hk3
                  go_wp2
                  go_ret2
                  exact ⟨ret_two HB.out HO.out.symm, rfl⟩
                · have HB : Hid (plainVal (s.data.toList.take j) = numN s.data.toList) := by show _ = _; rw [HV.out, hk3]; rw [hk3] at hcap; omega
                  clear hk3
                  go_wp2
                  go_ret2
                  exact ⟨ret_two HB.out HO.out.symm, rfl⟩
end Go.Proofs.Qxb6603436a
