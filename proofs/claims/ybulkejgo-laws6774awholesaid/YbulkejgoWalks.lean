/-
  THE WALKS OF THE CALLEES: 'isDigit' (function 5) and 'digits' (function 4): each returns what a plain function of YbulkejgoPlain says; the world stays.
-/
import Derived.Test.YbulkejgoRows
import Derived.Test.YbulkejgoPlain
import Derived.WalkKit
namespace Go.Proofs.Ybulkejgo
open Go.RowKit
open Plain

theorem isD_yes {c : UInt8} (h : isD c = true) : (48 : Int) ≤ (c.toNat : Int) ∧ (c.toNat : Int) ≤ 57 := by
  simp [isD] at h; omega
theorem isD_no {c : UInt8} (h : isD c = false) : (c.toNat : Int) < 48 ∨ 57 < (c.toNat : Int) := by
  simp [isD] at h; omega

theorem isDigit_any (c : UInt8) (w : World) :
    Calls Yba.prog 5 #[.int .u8 c.toNat] w fun e w' => e = .returned (.bool (isD c)) ∧ w' = w := by
  have hb : (c.toNat : Int) < 256 := by have := c.toNat_lt; omega
  cases h : isD c with
  | true =>
    obtain ⟨h1, h2⟩ := isD_yes h
    clear h
    go_enter Yba.func5, Yba.ntmps5
    go_wp2
    go_ret
    exact ⟨rfl, rfl⟩
  | false =>
    rcases isD_no h with h1 | h1
    · clear h
      have h2 : decide ((48 : Int) ≤ (c.toNat : Int)) = false := by simp; omega
      go_enter Yba.func5, Yba.ntmps5
      go_wp2
      go_ret
      exact ⟨rfl, rfl⟩
    · clear h
      have h2 : decide ((c.toNat : Int) ≤ 57) = false := by simp; omega
      have h3 : (48 : Int) ≤ (c.toNat : Int) := by omega
      go_enter Yba.func5, Yba.ntmps5
      go_wp2
      go_ret
      exact ⟨rfl, rfl⟩


theorem ret_two {a b : Int} {x y : Bool} (h : a = b) (k : x = y) : Ending.returned (.tuple #[.int .i64 a, .bool x]) = .returned (.tuple #[.int .i64 b, .bool y]) := by rw [h, k]

theorem take_snoc (s : ByteArray) (k : Nat) (h : k < s.size) : s.data.toList.take (k + 1) = s.data.toList.take k ++ [s[k]] := by
  rw [List.take_succ_eq_append_getElem (by simpa using h)]; rfl

/-- A byte that is no digit among the first k + 1: the whole is no number. -/
theorem digs_stop (s : ByteArray) (k : Nat) (h : k < s.size) (hd : isD s[k] = false) : digs s.data.toList = false := by
  have e : s.data.toList = s.data.toList.take (k + 1) ++ s.data.toList.drop (k + 1) := (List.take_append_drop _ _).symm
  rw [e, take_snoc s k h]
  simp [digs, hd]

/-- 'digits' where the length lies outside: (0, false). -/
theorem digits_out (s : ByteArray) (least most : Int) (w : World) (h : (s.size : Int) < least ∨ most < (s.size : Int)) :
    Calls Yba.prog 4 #[.string s, .int .i64 least, .int .i64 most] w fun e w' => e = .returned (.tuple #[.int .i64 0, .bool false]) ∧ w' = w := by
  by_cases h1 : (s.size : Int) < least
  · clear h
    go_enter Yba.func4, Yba.ntmps4
    go_wp2
    go_ret2
    exact ⟨rfl, rfl⟩
  · have h2 : most < (s.size : Int) := by omega
    clear h
    go_enter Yba.func4, Yba.ntmps4
    go_wp2
    go_ret2
    exact ⟨rfl, rfl⟩

set_option maxHeartbeats 400000 in
/-- 'digits' where the length lies inside: the value and true, or (0, false). -/
theorem digits_in (s : ByteArray) (least most : Int) (w : World) (hs : s.size ≤ maxLen) (h1 : least ≤ (s.size : Int)) (h2 : (s.size : Int) ≤ most) :
    Calls Yba.prog 4 #[.string s, .int .i64 least, .int .i64 most] w fun e w' =>
      e = .returned (.tuple #[.int .i64 (num s.data.toList), .bool (digs s.data.toList)]) ∧ w' = w := by
  unfold maxLen at hs
  go_enter Yba.func4, Yba.ntmps4
  go_wp2
  go_loop [8, 22] (fun n i => ∃ k : Nat, k ≤ s.size ∧ i = .int .i64 k ∧ digs (s.data.toList.take k) = true ∧ n = .int .i64 (wrap64 (val (s.data.toList.take k)))) (fun _ i => s.size - (intOf i).toNat)
  case atStart => exact ⟨0, Nat.zero_le _, rfl, rfl, by simp [val, wrap64]⟩
  case round =>
    obtain ⟨k, hk, rfl, hdk, rfl⟩ := hrel
    have HD : Hid (digs (s.data.toList.take k) = true) := hdk
    clear hdk
    by_cases hlt : k < s.size
    · cases hd : isD s[k] with
      | true =>
        have HS : Hid (wrap64 (wrap64 (wrap64 (val (s.data.toList.take k)) * 10) + ((s[k].toNat : Int) - 48)) = wrap64 (val (s.data.toList.take (k + 1)))) := by
          rw [take_snoc s k hlt]; exact horner _ _
        have HT : Hid (digs (s.data.toList.take (k + 1)) = true) := by
          show digs _ = true
          rw [take_snoc s k hlt, digs_snoc, HD.out, hd]; rfl
        obtain ⟨hy1, hy2⟩ := isD_yes hd
        go_wp2_with (go_at_call 5; refine (isDigit_any _ _).mono ?_; rintro e w' ⟨rfl, rfl⟩)
        go_round
        case rel => exact ⟨k + 1, by omega, by go_num, HT.out, by rw [← HS.out]⟩
        case measure => simp [intOf]; omega
      | false =>
        have hst := digs_stop s k hlt hd
        have HS : Hid (digs s.data.toList = false) := hst
        clear hst
        go_wp2_with (go_at_call 5; refine (isDigit_any _ _).mono ?_; rintro e w' ⟨rfl, rfl⟩)
        go_ret2
        exact ⟨ret_two (num_no HS.out).symm HS.out.symm, rfl⟩
    · have hT : s.data.toList.take k = s.data.toList := List.take_of_length_le (by simp; omega)
      have HT : Hid (s.data.toList.take k = s.data.toList) := hT
      have HA : Hid (digs s.data.toList = true) := by rw [← hT]; exact HD.out
      clear hT
      go_wp2
      go_ret2
      exact ⟨ret_two (by rw [num_yes HA.out, HT.out]) HA.out.symm, rfl⟩

end Go.Proofs.Ybulkejgo
