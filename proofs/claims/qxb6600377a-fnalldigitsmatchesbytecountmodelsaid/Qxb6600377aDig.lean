/-
  allDigits (function 10), ZZallDigits (7), zzBytes (6).
-/
import Derived.Test.Qxb6600377aProg
import Derived.WalkKit
import Derived.WalkSpells
import Derived.WalkLawsBesides
import Derived.Outline
namespace Go.Proofs.Qxb6600377a
open Go.RowKit
set_option linter.unusedVariables false

theorem hid {p : Prop} (h : p) : Hid p := h

/-- One of the ten digits. -/
def isD (c : UInt8) : Bool := decide (48 ≤ (c.toNat : Int) ∧ (c.toNat : Int) ≤ 57)
/-- allDigits, in plain words. -/
def adg (s : ByteArray) : Bool := decide (0 < s.size) && s.data.toList.all isD
/-- How many digits. -/
def dig (l : List UInt8) : Nat := (l.filter isD).length

theorem take_snoc (s : ByteArray) (k : Nat) (h : k < s.size) : s.data.toList.take (k + 1) = s.data.toList.take k ++ [s[k]] := by
  rw [List.take_succ_eq_append_getElem (by simpa using h)]; rfl
theorem all_snoc (s : ByteArray) (k : Nat) (h : k < s.size) : (s.data.toList.take (k + 1)).all isD = ((s.data.toList.take k).all isD && isD s[k]) := by
  rw [take_snoc s k h, List.all_append]; simp
theorem dig_snoc (s : ByteArray) (k : Nat) (h : k < s.size) : dig (s.data.toList.take (k + 1)) = dig (s.data.toList.take k) + if isD s[k] then 1 else 0 := by
  rw [take_snoc s k h]
  unfold dig
  rw [List.filter_append, List.length_append]
  by_cases e : isD s[k] = true <;> simp [e]
theorem dig_le (s : ByteArray) (k : Nat) : dig (s.data.toList.take k) ≤ k :=
  Nat.le_trans (List.length_filter_le _ _) (List.length_take_le _ _)
theorem take_all (s : ByteArray) : s.data.toList.take s.size = s.data.toList := List.take_of_length_le (by simp)
theorem dig_all (s : ByteArray) : (dig s.data.toList = s.size) ↔ s.data.toList.all isD = true := by
  unfold dig
  have hl : s.data.toList.length = s.size := by simp
  rw [← hl, List.length_filter_eq_length_iff, List.all_eq_true]
theorem not_all_of {s : ByteArray} {k : Nat} (h : k < s.size) (hd : isD s[k] = false) : s.data.toList.all isD = false := by
  rw [Bool.eq_false_iff]
  intro h1
  rw [List.all_eq_true] at h1
  have := h1 s[k] (by
    have : s[k] = s.data.toList[k]'(by simpa using h) := rfl
    rw [this]
    exact List.getElem_mem _)
  rw [hd] at this
  cases this

theorem empty_iff (s : ByteArray) : s.toList.isEmpty = decide (s.size = 0) := by
  rw [ByteArray.toList_eq]
  have hl : s.data.toList.length = s.size := by simp
  rw [← hl]
  cases s.data.toList <;> simp

set_option maxHeartbeats 400000 in
theorem allDigits_any (s : ByteArray) (w : World) (hs : s.size ≤ 1048576) :
    Calls Try.prog 10 #[.string s] w fun e w' => e = .returned (.bool (adg s)) ∧ Below w.heap.size w w' := by
  have hs' : (s.size : Int) ≤ 1048576 := by omega
  have hconv := fun w => run_bytes_of_string (P := Try.prog) w 9 25 5 s Try.underlying9 Try.underlying25 Try.underlying5
  by_cases h0 : s.size = 0
  · have he : s.toList.isEmpty = true := by rw [empty_iff]; simpa using h0
    have ha : adg s = false := by unfold adg; simp [h0]
    have HA := hid ha
    clear ha h0
    go_enter Try.func10, Try.ntmps10
    go_wp2
    go_ret
    exact ⟨by rw [HA.out]; rfl, Below.refl _ _⟩
  · have he : s.toList.isEmpty = false := by rw [empty_iff]; simpa using h0
    have hp : 0 < s.size := by omega
    clear h0
    go_enter Try.func10, Try.ntmps10
    go_wp2
    generalize hw1 : (w.alloc (Obj.cells (bytesRow s (grownCap w s.size 0 5)) 5 ((bytesRow s (grownCap w s.size 0 5)).size, (bytesRow s (grownCap w s.size 0 5)).size + 1))).drew = w1
    have hb1 : Below w.heap.size w w1 := by subst hw1; exact ((Below.refl _ _).alloc (Nat.le_refl _) _).drew
    have hc1 : ∀ k, (h : k < s.size) → w1.cell? ⟨w.heap.size, k, none⟩ = some (.int .u8 ((s[k].toNat : Nat) : Int)) := by
      subst hw1
      intro k h
      show (w.alloc _).cell? ⟨w.heap.size, k, none⟩ = _
      rw [World.cell?_alloc_mark]
      exact bytesRow_at s _ k (by simpa using h)
    generalize grownCap w s.size 0 5 = cap
    have HC := hid hc1
    have HB := hid hb1
    clear hw1 hc1 hb1 hconv
    go_loop [10] (fun i => ∃ k : Nat, k ≤ s.size ∧ i = .int .i64 k ∧ Hid ((s.data.toList.take k).all isD = true)) (fun i => s.size - (intOf i).toNat)
    case atStart => exact ⟨0, Nat.zero_le _, rfl, rfl⟩
    case round =>
      obtain ⟨k, hk, rfl, HK⟩ := hrel
      by_cases hlt : k < s.size
      · have hlt' : (k : Int) < (s.size : Int) := by omega
        have hcx := HC.out k hlt
        have hsn := hid (all_snoc s k hlt)
        obtain ⟨c, hc⟩ : ∃ c, c = s[k] := ⟨_, rfl⟩
        rw [← hc] at hcx
        have HCC := hid hc
        have hc255 : ((c.toNat : Nat) : Int) ≤ 255 := by have := c.toNat_lt; omega
        by_cases hd : 48 ≤ (c.toNat : Int) ∧ (c.toNat : Int) ≤ 57
        · have hD : isD s[k] = true := by rw [← hc]; unfold isD; simpa using hd
          have HD := hid hD
          obtain ⟨d1, d2⟩ := hd
          clear hD hc
          go_wp2
          go_round
          case rel => exact ⟨k + 1, by omega, by go_num, by show _ = true; rw [hsn.out, HK.out, HD.out]; rfl⟩
          case measure => simp [intOf]; omega
        · have hD : isD s[k] = false := by rw [← hc]; unfold isD; simpa using hd
          have HD := hid (not_all_of hlt hD)
          clear hD hc
          by_cases d1 : (c.toNat : Int) < 48
          · clear hd
            go_wp2
            go_ret
            exact ⟨by unfold adg; rw [HD.out]; simp, HB.out⟩
          · have d2 : (48 : Int) ≤ (c.toNat : Int) := by omega
            have d3 : (57 : Int) < (c.toNat : Int) := by omega
            clear hd d1
            go_wp2
            go_ret
            exact ⟨by unfold adg; rw [HD.out]; simp, HB.out⟩
      · have hlt' : ¬ (k : Int) < (s.size : Int) := by omega
        obtain rfl : k = s.size := by omega
        have ha : adg s = true := by
          have := HK.out
          rw [take_all] at this
          unfold adg
          rw [this]
          simpa using hp
        have HA := hid ha
        clear ha
        go_wp2
        go_ret
        exact ⟨by rw [HA.out]; rfl, HB.out⟩

set_option maxHeartbeats 400000 in
theorem zzAllDigits_any (s : ByteArray) (w : World) (hs : s.size ≤ 1048576) :
    Calls Try.prog 7 #[.string s] w fun e w' => e = .returned (.bool (adg s)) ∧ Below w.heap.size w w' := by
  have HC := hid (allDigits_any s w hs)
  go_enter Try.func7, Try.ntmps7
  go_wp2_with fail
  refine HC.out.mono ?_
  rintro e w1 ⟨rfl, hb⟩
  go_wp2
  go_ret
  exact ⟨rfl, hb⟩

set_option maxHeartbeats 400000 in
theorem zz_yes (s : ByteArray) (w : World) (h : s.size ≤ 1048576) : Calls Try.prog 6 #[.string s] w fun e w' => e = .returned (.bool true) ∧ w = w' := by
  have h1 : (s.size : Int) ≤ 1048576 := by omega
  go_enter Try.func6, Try.ntmps6
  go_wp2
  go_ret
  exact ⟨rfl, rfl⟩
set_option maxHeartbeats 400000 in
theorem zz_no (s : ByteArray) (w : World) (h : 1048576 < s.size) (hm : s.size ≤ 9223372036854775807) : Calls Try.prog 6 #[.string s] w fun e w' => e = .returned (.bool false) ∧ w = w' := by
  have h1 : (1048576 : Int) < (s.size : Int) := by omega
  go_enter Try.func6, Try.ntmps6
  go_wp2
  go_ret
  exact ⟨rfl, rfl⟩

set_option maxHeartbeats 800000 in
theorem main (s : ByteArray) (w : World) (hs : s.size ≤ 1048576) :
    Calls Try.prog 3 #[.string s] w fun e w' => e = .returned (.bool true) ∧ Below w.heap.size w w' := by
  have hs' : (s.size : Int) ≤ 1048576 := by omega
  have HC := hid (zzAllDigits_any s w hs)
  go_enter Try.func3, Try.ntmps3
  go_wp2_with (go_at_call 6; refine (zz_yes s _ hs).mono ?_; rintro e w' ⟨rfl, rfl⟩)
  go_loop [3, 4] (fun n i => ∃ k d : Nat, k ≤ s.size ∧ d ≤ k ∧ i = .int .i64 k ∧ n = .int .i64 d ∧ Hid (d = dig (s.data.toList.take k))) (fun _ i => s.size - (intOf i).toNat)
  case atStart => exact ⟨0, 0, Nat.zero_le _, Nat.zero_le _, rfl, rfl, rfl⟩
  case round =>
    obtain ⟨k, d, hk, hdk, rfl, rfl, HK⟩ := hrel
    by_cases hlt : k < s.size
    · have hlt' : (k : Int) < (s.size : Int) := by omega
      have hsn := hid (dig_snoc s k hlt)
      have hc255 : ((s[k].toNat : Nat) : Int) ≤ 255 := by have := s[k].toNat_lt; omega
      by_cases hd : 48 ≤ (s[k].toNat : Int) ∧ (s[k].toNat : Int) ≤ 57
      · have hD : isD s[k] = true := by unfold isD; simpa using hd
        have HD := hid hD
        have ht : ((s[k].toNat : Int) - 48) % 256 < 10 := by omega
        clear hD hd
        go_wp2
        go_round
        case rel => exact ⟨k + 1, d + 1, by omega, by omega, by go_num, by go_num, by show _ = _; rw [hsn.out, HD.out, HK.out]; rfl⟩
        case measure => simp [intOf]; omega
      · have hD : isD s[k] = false := by unfold isD; simpa using hd
        have HD := hid hD
        have ht : ¬ ((s[k].toNat : Int) - 48) % 256 < 10 := by omega
        clear hD hd
        go_wp2
        go_round
        case rel => exact ⟨k + 1, d, by omega, by omega, by go_num, by go_num, by show _ = _; rw [hsn.out, HD.out, HK.out]; rfl⟩
        case measure => simp [intOf]; omega
    · have hlt' : ¬ (k : Int) < (s.size : Int) := by omega
      obtain rfl : k = s.size := by omega
      have hall := dig_all s
      have hk2 := HK.out
      rw [take_all] at hk2
      rw [← hk2] at hall
      by_cases hz : s.size = 0
      · have hA := hid (show adg s = false by unfold adg; simp [hz])
        have hz' : ¬ (0 : Int) < (s.size : Int) := by omega
        clear hall hk2 hz
        go_wp2_with fail
        refine HC.out.mono ?_
        rintro e w1 ⟨rfl, hb⟩
        rw [hA.out]
        go_wp2
        go_ret
        exact ⟨rfl, hb⟩
      · have hz' : (0 : Int) < (s.size : Int) := by omega
        have hz2 : 0 < s.size := by omega
        by_cases hd : d = s.size
        · have hA := hid (show adg s = true by unfold adg; rw [hall.1 hd]; simpa using hz2)
          have hdd : ((d : Int) == (s.size : Int)) = true := by simp [hd]
          clear hall hk2 hd hz
          go_wp2_with fail
          refine HC.out.mono ?_
          rintro e w1 ⟨rfl, hb⟩
          rw [hA.out]
          go_wp2
          go_ret
          exact ⟨rfl, hb⟩
        · have hA := hid (show adg s = false by unfold adg; rw [show s.data.toList.all isD = false by rw [Bool.eq_false_iff]; exact fun h => hd (hall.2 h)]; simp)
          have hdd : ((d : Int) == (s.size : Int)) = false := by simp; omega
          clear hall hk2 hd hz
          go_wp2_with fail
          refine HC.out.mono ?_
          rintro e w1 ⟨rfl, hb⟩
          rw [hA.out]
          go_wp2
          go_ret
          exact ⟨rfl, hb⟩
end Go.Proofs.Qxb6600377a
