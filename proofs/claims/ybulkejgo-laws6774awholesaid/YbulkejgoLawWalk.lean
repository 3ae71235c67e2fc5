/-
  THE WALK OF THE LAW (function 3).
-/
import Derived.Test.YbulkejgoWalks
import Derived.Deep.OwnRows
import Derived.LoopN
namespace Go.Proofs.Ybulkejgo
open Go.RowKit
open Plain

/-- A text longer than 1<<20 bytes: true at once. -/
theorem law_long (s : ByteArray) (least most : Int) (dig : Bool) (w : World) (h : (1048576 : Int) < (s.size : Int)) :
    Calls Yba.prog 3 #[.string s, .int .i64 least, .int .i64 most, .bool dig] w fun e w' => e = .returned (.bool true) ∧ Grown w w' := by
  go_enter Yba.func3, Yba.ntmps3
  go_wp2
  go_ret
  exact ⟨rfl, Grown.refl _⟩

theorem digits_no (s : ByteArray) (least most : Int) (w : World) (hs : s.size ≤ maxLen) (h1 : least ≤ (s.size : Int)) (h2 : (s.size : Int) ≤ most) (hd : digs s.data.toList = false) :
    Calls Yba.prog 4 #[.string s, .int .i64 least, .int .i64 most] w fun e w' => e = .returned (.tuple #[.int .i64 0, .bool false]) ∧ w' = w :=
  (digits_in s least most w hs h1 h2).mono fun _ _ ⟨he, hw⟩ => ⟨he.trans (ret_two (num_no hd) hd), hw⟩

theorem digits_yes (s : ByteArray) (least most : Int) (w : World) (hs : s.size ≤ maxLen) (h1 : least ≤ (s.size : Int)) (h2 : (s.size : Int) ≤ most) (hd : digs s.data.toList = true) :
    Calls Yba.prog 4 #[.string s, .int .i64 least, .int .i64 most] w fun e w' => e = .returned (.tuple #[.int .i64 (wv s.data.toList), .bool true]) ∧ w' = w :=
  (digits_in s least most w hs h1 h2).mono fun _ _ ⟨he, hw⟩ => ⟨he.trans (ret_two (num_yes hd) hd), hw⟩

theorem digs_at (s : ByteArray) (k : Nat) (h : k < s.size) (hd : digs s.data.toList = true) : isD s[k] = true := by
  cases e : isD s[k] with
  | true => rfl
  | false => rw [digs_stop s k h e] at hd; exact hd

theorem drop_cons (s : ByteArray) (k : Nat) (h : k < s.size) : s.data.toList.drop k = s[k] :: s.data.toList.drop (k + 1) := by
  rw [List.drop_eq_getElem_cons (by simpa using h)]; rfl

/-- One round of the law's last loop. -/
theorem want_step (s : ByteArray) (j : Nat) (h : j < s.size) : wrap64 (wv (s.data.toList.drop (j + 1)) + wrap64 (((s[j].toNat : Int) - 48) * pw (s.size - (j + 1)))) = wv (s.data.toList.drop j) := by
  have e : (s.data.toList.drop (j + 1)).length = s.size - (j + 1) := by simp
  rw [drop_cons s j h, ← wv_cons, e]; rfl

theorem pow_step (n j : Nat) (h : j < n) : wrap64 (pw (n - (j + 1)) * 10) = pw (n - j) := by
  rw [pw_succ, show n - (j + 1) + 1 = n - j by omega]

set_option maxHeartbeats 1000000 in
/-- 'dig' false: the text as it stands. -/
theorem law_plain (s : ByteArray) (least most : Int) (w : World) (hs : s.size ≤ 1048576) :
    Calls Yba.prog 3 #[.string s, .int .i64 least, .int .i64 most, .bool false] w fun e w' => e = .returned (.bool true) ∧ Grown w w' := by
  have hm : s.size ≤ maxLen := by unfold maxLen; omega
  have HM : Hid (s.size ≤ maxLen) := hm
  clear hm
  by_cases hl : least ≤ (s.size : Int)
  · by_cases hu : (s.size : Int) ≤ most
    · cases hd : digs s.data.toList with
      | true =>
        have HD : Hid (digs s.data.toList = true) := hd
        clear hd
        go_enter Yba.func3, Yba.ntmps3
        go_wp2_with fail
        refine (digits_yes s least most _ HM.out hl hu HD.out).mono ?_
        rintro e w' ⟨rfl, rfl⟩
        go_wp2_with fail
        go_loop [14, 15] (fun b i => ∃ (k : Nat), k ≤ s.size ∧ i = .int .i64 k ∧ b = .bool true) (fun _ i => s.size - (intOf i).toNat)
        case atStart => exact ⟨0, Nat.zero_le _, rfl, rfl⟩
        case round =>
          obtain ⟨k, hk, rfl, rfl⟩ := hrel
          by_cases hlt : k < s.size
          · obtain ⟨hy1, hy2⟩ := isD_yes (digs_at s k hlt HD.out)
            go_wp2
            go_round
            case rel => exact ⟨k + 1, by omega, by go_num, rfl⟩
            case measure => simp [intOf]; omega
          · go_wp2
            go_loop [16, 17, 18] (fun a p i => ∃ (m : Nat), m ≤ s.size ∧ i = .int .i64 ((m : Int) - 1) ∧ a = .int .i64 (wv (s.data.toList.drop m)) ∧ p = .int .i64 (pw (s.size - m))) (fun _ _ i => (intOf i + 1).toNat)
            case atStart => exact ⟨s.size, Nat.le_refl _, rfl, by rw [List.drop_of_length_le (by simp), wv_nil], by rw [Nat.sub_self, pw_zero]⟩
            case round =>
              obtain ⟨m, hm, rfl, rfl, rfl⟩ := hrel
              cases m with
              | zero =>
                have he : (wv s.data.toList == wv (s.data.toList.drop 0)) = true := by simp
                go_wp2
                go_ret
                exact ⟨rfl, Grown.refl _⟩
              | succ j =>
                have hj : j < s.size := by omega
                obtain ⟨hy1, hy2⟩ := isD_yes (digs_at s j hj HD.out)
                have ej : ((j + 1 : Nat) : Int) - 1 = (j : Int) := by omega
                rw [ej]
                clear ej
                go_wp2
                go_round
                case rel => exact ⟨j, by omega, rfl, by rw [want_step s j hj], by rw [pow_step _ j hj]⟩
                case measure => simp [intOf]
      | false =>
        have HD : Hid (digs s.data.toList = false) := hd
        clear hd
        go_enter Yba.func3, Yba.ntmps3
        go_wp2_with fail
        refine (digits_no s least most _ HM.out hl hu HD.out).mono ?_
        rintro e w' ⟨rfl, rfl⟩
        go_wp2_with fail
        go_loop [14, 15] (fun b i => ∃ (k : Nat) (q : Bool), k ≤ s.size ∧ i = .int .i64 k ∧ Hid (digs (s.data.toList.take k) = q) ∧ b = .bool q) (fun _ i => s.size + 1 - (intOf i).toNat)
        case atStart => exact ⟨0, true, Nat.zero_le _, rfl, rfl, rfl⟩
        case round =>
          obtain ⟨k, q, hk, rfl, HQ, rfl⟩ := hrel
          cases q with
          | false =>
            go_wp2
            go_ret
            exact ⟨rfl, Grown.refl _⟩
          | true =>
            have hlt : k < s.size := by
              apply Nat.lt_of_not_le
              intro hge
              have h := HQ.out
              rw [List.take_of_length_le (by simpa using hge), HD.out] at h
              cases h
            have HN : Hid (digs (s.data.toList.take (k + 1)) = isD s[k]) := by
              show digs _ = _
              rw [take_snoc s k hlt, digs_snoc, HQ.out]; rfl
            cases hc : isD s[k] with
            | true =>
              obtain ⟨hy1, hy2⟩ := isD_yes hc
              have HC : Hid (isD s[k] = true) := hc
              clear hc
              go_wp2
              go_round
              case rel => exact ⟨k + 1, true, by omega, by go_num, HN.out.trans HC.out, rfl⟩
              case measure => simp [intOf]; omega
            | false =>
              have HC : Hid (isD s[k] = false) := hc
              rcases isD_no hc with hy | hy
              · clear hc
                go_wp2
                go_round
                case rel => exact ⟨k + 1, false, by omega, by go_num, HN.out.trans HC.out, rfl⟩
                case measure => simp [intOf]; omega
              · clear hc
                have hy2 : ¬ (s[k].toNat : Int) < 48 := by omega
                go_wp2
                go_round
                case rel => exact ⟨k + 1, false, by omega, by go_num, HN.out.trans HC.out, rfl⟩
                case measure => simp [intOf]; omega
    · have hu' : decide ((s.size : Int) ≤ most) = false := by simp; omega
      go_enter Yba.func3, Yba.ntmps3
      go_wp2_with fail
      refine (digits_out s least most _ (by omega)).mono ?_
      rintro e w' ⟨rfl, rfl⟩
      go_wp2_with fail
      refine wp_loop_rounds 1 ?_
      rw [rounds_succ]
      go_wp2
      go_ret
      exact ⟨rfl, Grown.refl _⟩
  · have hl' : decide (least ≤ (s.size : Int)) = false := by simp; omega
    go_enter Yba.func3, Yba.ntmps3
    go_wp2_with fail
    refine (digits_out s least most _ (by omega)).mono ?_
    rintro e w' ⟨rfl, rfl⟩
    go_wp2_with fail
    refine wp_loop_rounds 1 ?_
    rw [rounds_succ]
    go_wp2
    go_ret
    exact ⟨rfl, Grown.refl _⟩

end Go.Proofs.Ybulkejgo
