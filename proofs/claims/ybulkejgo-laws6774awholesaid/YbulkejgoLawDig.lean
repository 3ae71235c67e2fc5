/-
  THE WALK OF THE LAW (function 3) WHERE 'dig' IS TRUE: the text is first mapped byte by byte onto digits, in a new slice of the call's own.
-/
import Derived.Test.YbulkejgoLawWalk
import Derived.Laws.IdiomStrings
namespace Go.Proofs.Ybulkejgo
open Go.RowKit
open Plain

theorem Yba.info5 : (Yba.prog.info? 5).map (fun i => (i.zero, i.size, i.bytes)) = some (some (.int .u8 0), 1, 1) := by kernel_rfl

/-- The mapped bytes. -/
def mp (l : List UInt8) : List UInt8 := l.map fun c => UInt8.ofNat (48 + c.toNat % 10)

theorem toNat_mp (c : UInt8) : (UInt8.ofNat (48 + c.toNat % 10)).toNat = 48 + c.toNat % 10 := by
  rw [UInt8.toNat_ofNat']; omega

theorem digs_mp (l : List UInt8) : digs (mp l) = true := by
  simp only [digs, mp, List.all_map, List.all_eq_true]
  intro c _
  simp only [Function.comp, isD, toNat_mp, Bool.and_eq_true, decide_eq_true_eq]
  omega

/-- The slice's cells behind k rounds. -/
def mix (l : List UInt8) (k : Nat) : List Value := (l.take k).map (fun c => Value.int .u8 (48 + (c.toNat : Int) % 10)) ++ List.replicate (l.length - k) (.int .u8 0)

theorem mix_zero (l : List UInt8) : mix l 0 = List.replicate l.length (.int .u8 0) := by simp [mix]

theorem mix_at (l : List UInt8) (k : Nat) (h : k < l.length) : (mix l k)[k]? = some (.int .u8 0) := by
  unfold mix
  have e : ((l.take k).map fun c => Value.int .u8 (48 + (c.toNat : Int) % 10)).length = k := by simp; omega
  rw [List.getElem?_append_right (by omega), List.getElem?_replicate, if_pos (by omega)]

theorem mix_step (s : ByteArray) (k : Nat) (h : k < s.size) : (mix s.data.toList k).set k (.int .u8 (48 + (s[k].toNat : Int) % 10)) = mix s.data.toList (k + 1) := by
  have hl : s.data.toList.length = s.size := by simp
  have e1 : s.data.toList.length - k = (s.data.toList.length - (k + 1)) + 1 := by omega
  unfold mix
  rw [take_snoc s k h, List.set_append_right _ _ (by simp; omega), e1, List.replicate_succ, List.map_append]
  simp
  rw [show k - min k s.size = 0 by omega]
  rfl

/-- 'string(b)' behind the loop. -/
theorem made (s : ByteArray) : ∃ t : ByteArray, t.size = s.size ∧ digs t.data.toList = true ∧ ∀ (wr : World) (B : Nat), wr.ownsRow B 5 1 (.slice (some ⟨B, 0, none⟩) s.size s.size) s.size (mix s.data.toList s.size) →
    (convert 22 9 (.slice (some ⟨B, 0, none⟩) s.size s.size)).run Yba.prog wr = .ok (.string t) wr := by
  have hl : (mp s.data.toList).length = s.size := by simp [mp]
  refine ⟨⟨(mp s.data.toList).toArray⟩, ?_, digs_mp _, ?_⟩
  · show (mp s.data.toList).toArray.size = _
    rw [List.size_toArray, hl]
  · intro wr B hown
    have h := run_convert_bytes_back (P := Yba.prog) wr 22 9 5 ⟨B, 0, none⟩ s.size (mp s.data.toList) Yba.underlying22 Yba.underlying5 Yba.underlying9 ?_
    · rw [hl] at h; exact h
    · intro j hj
      rw [Addr.add_lit, Nat.zero_add, hown.cellAt j (by omega)]
      have hj' : j < s.data.toList.length := by simpa [mp] using hj
      have ev : ((48 : Int) + (s.data.toList[j].toNat : Int) % 10) = ((mp s.data.toList)[j].toNat : Int) := by
        simp only [mp, List.getElem_map, toNat_mp]; omega
      have em : mix s.data.toList s.size = s.data.toList.map fun c => Value.int .u8 (48 + (c.toNat : Int) % 10) := by
        simp [mix, List.take_of_length_le]
      rw [em, List.getElem?_map, List.getElem?_eq_getElem hj', Option.map_some, ev]

set_option maxHeartbeats 1000000 in
theorem law_dig (s : ByteArray) (least most : Int) (w : World) (hs : s.size ≤ 1048576) :
    Calls Yba.prog 3 #[.string s, .int .i64 least, .int .i64 most, .bool true] w fun e w' => e = .returned (.bool true) ∧ Grown w w' := by
  obtain ⟨t, ht, hd, hconv⟩ := made s
  have htm : t.size ≤ maxLen := by unfold maxLen; omega
  have hts : t.size ≤ 1048576 := by omega
  have HM : Hid (t.size ≤ maxLen) := htm
  have HD : Hid (digs t.data.toList = true) := hd
  have HC : Hid (∀ (wr : World) (B : Nat), wr.ownsRow B 5 1 (.slice (some ⟨B, 0, none⟩) s.size s.size) s.size (mix s.data.toList s.size) →
    (convert 22 9 (.slice (some ⟨B, 0, none⟩) s.size s.size)).run Yba.prog wr = .ok (.string t) wr) := hconv
  clear htm hd hconv ht
  have hmk := run_make_row' (P := Yba.prog) 22 5 (.int .u8 0) 1 Yba.underlying22 Yba.info5 rfl .i64 .i64 s.size (by omega) (by omega)
  have HO : Hid ((w.alloc (.cells (madeCells #[.int .u8 0] s.size) 5)).ownsRow w.heap.size 5 1 (.slice (some ⟨w.heap.size, 0, none⟩) s.size s.size) s.size (mix s.data.toList 0)) := by
    have h := World.ownsRow_lit (base := w.heap.size) (e := 5) (size := 1) w (madeCells #[.int .u8 0] s.size) s.size (Nat.le_refl _) (by unfold maxLen; omega) (by rw [size_madeCells]; omega)
    rw [toList_madeCells_one] at h
    rw [mix_zero, show s.data.toList.length = s.size by simp]
    exact h
  go_enter Yba.func3, Yba.ntmps3
  go_wp2_with fail
  clear hmk
  go_loopw [11] (fun i wr => ∃ k : Nat, k ≤ s.size ∧ i = .int .i64 k ∧ Hid (wr.ownsRow w.heap.size 5 1 (.slice (some ⟨w.heap.size, 0, none⟩) s.size s.size) s.size (mix s.data.toList k)) ∧ Grown w wr) (fun i _ => s.size - (intOf i).toNat)
  case atStart => exact ⟨0, Nat.zero_le _, rfl, HO, (Grown.refl _).alloc _ _⟩
  case round =>
    obtain ⟨k, hk, rfl, HR, hg⟩ := hrel
    clear HO
    by_cases hlt : k < s.size
    · have hcell : wr.cell? ⟨w.heap.size, k, none⟩ = some (.int .u8 0) := by
        rw [HR.out.cellAt k (by omega), mix_at _ _ (by simpa using hlt)]
      have hfr : wr.frozen? ⟨w.heap.size, k, none⟩ = false := HR.out.frozenAt k
      have HN := (HR.out.stored k (.int .u8 (48 + (s[k].toNat : Int) % 10))).1
      rw [mix_step s k hlt] at HN
      have HN' : Hid _ := HN
      clear HN
      go_wp2
      go_roundw
      case rel => exact ⟨k + 1, by omega, by go_num, HN', hg.setCell (Nat.le_refl _) _⟩
      case measure => simp [intOf]; omega
    · obtain rfl : k = s.size := by omega
      have hconv := HC.out wr w.heap.size HR.out
      clear HC HR
      by_cases hl : least ≤ (t.size : Int)
      · by_cases hu : (t.size : Int) ≤ most
        · go_wp2_with fail
          refine (digits_yes t least most _ HM.out hl hu HD.out).mono ?_
          rintro e w' ⟨rfl, rfl⟩
          clear hconv
          go_wp2_with fail
          go_loop [14, 15] (fun b i => ∃ (k : Nat), k ≤ t.size ∧ i = .int .i64 k ∧ b = .bool true) (fun _ i => t.size - (intOf i).toNat)
          case atStart => exact ⟨0, Nat.zero_le _, rfl, rfl⟩
          case round =>
            obtain ⟨k, hk, rfl, rfl⟩ := hrel
            by_cases hlt : k < t.size
            · obtain ⟨hy1, hy2⟩ := isD_yes (digs_at t k hlt HD.out)
              go_wp2
              go_round
              case rel => exact ⟨k + 1, by omega, by go_num, rfl⟩
              case measure => simp [intOf]; omega
            · go_wp2
              go_loop [16, 17, 18] (fun a p i => ∃ (m : Nat), m ≤ t.size ∧ i = .int .i64 ((m : Int) - 1) ∧ a = .int .i64 (wv (t.data.toList.drop m)) ∧ p = .int .i64 (pw (t.size - m))) (fun _ _ i => (intOf i + 1).toNat)
              case atStart => exact ⟨t.size, Nat.le_refl _, rfl, by rw [List.drop_of_length_le (by simp), wv_nil], by rw [Nat.sub_self, pw_zero]⟩
              case round =>
                obtain ⟨m, hm, rfl, rfl, rfl⟩ := hrel
                cases m with
                | zero =>
                  have he : (wv t.data.toList == wv (t.data.toList.drop 0)) = true := by simp
                  go_wp2
                  go_ret
                  exact ⟨rfl, hg⟩
                | succ j =>
                  have hj : j < t.size := by omega
                  obtain ⟨hy1, hy2⟩ := isD_yes (digs_at t j hj HD.out)
                  have ej : ((j + 1 : Nat) : Int) - 1 = (j : Int) := by omega
                  rw [ej]
                  clear ej
                  go_wp2
                  go_round
                  case rel => exact ⟨j, by omega, rfl, by rw [want_step t j hj], by rw [pow_step _ j hj]⟩
                  case measure => simp [intOf]
        · have hu' : decide ((t.size : Int) ≤ most) = false := by simp; omega
          go_wp2_with fail
          refine (digits_out t least most _ (by omega)).mono ?_
          rintro e w' ⟨rfl, rfl⟩
          go_wp2_with fail
          refine wp_loop_rounds 1 ?_
          rw [rounds_succ]
          go_wp2
          go_ret
          exact ⟨rfl, hg⟩
      · have hl' : decide (least ≤ (t.size : Int)) = false := by simp; omega
        go_wp2_with fail
        refine (digits_out t least most _ (by omega)).mono ?_
        rintro e w' ⟨rfl, rfl⟩
        go_wp2_with fail
        refine wp_loop_rounds 1 ?_
        rw [rounds_succ]
        go_wp2
        go_ret
        exact ⟨rfl, hg⟩

end Go.Proofs.Ybulkejgo
