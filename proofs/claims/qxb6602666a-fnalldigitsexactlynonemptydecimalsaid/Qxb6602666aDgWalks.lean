import Derived.Test.Qxb6602666aRows
import Derived.WalkKit
import Derived.ProofKit
import Derived.OpenShut
import Derived.WalkLawsBesides
import Derived.WalkSpells
namespace Go.Proofs.Qxb6602666a.Dg
open Go.RowKit

/-! ### plain -/
def isD (c : UInt8) : Bool := decide (48 ≤ c.toNat) && decide (c.toNat ≤ 57)
def bytes (s : ByteArray) : List UInt8 := s.data.toList
/-- not empty, digits alone -/
def allD (s : ByteArray) : Bool := decide (0 < s.size) && (bytes s).all isD
def cntD (l : List UInt8) : Nat := l.countP isD

theorem bytes_length (s : ByteArray) : (bytes s).length = s.size := by simp [bytes]
theorem take_snoc (s : ByteArray) (k : Nat) (h : k < s.size) : (bytes s).take (k + 1) = (bytes s).take k ++ [s[k]] := by
  unfold bytes
  rw [List.take_succ_eq_append_getElem (by simpa using h)]; rfl
theorem mem_byte (s : ByteArray) (k : Nat) (h : k < s.size) : s[k] ∈ bytes s := by
  have : s[k] ∈ (bytes s).take (k + 1) := by rw [take_snoc s k h]; simp
  exact List.mem_of_mem_take this

theorem all_step (s : ByteArray) (k : Nat) (h : k < s.size) (ha : ((bytes s).take k).all isD = true) (hd : isD s[k] = true) : ((bytes s).take (k + 1)).all isD = true := by
  rw [take_snoc s k h, List.all_append, ha]
  simp [hd]
theorem all_no (s : ByteArray) (k : Nat) (h : k < s.size) (hd : isD s[k] = false) : allD s = false := by
  unfold allD
  have : (bytes s).all isD = false := by
    cases e : (bytes s).all isD
    · rfl
    · have := List.all_eq_true.1 e _ (mem_byte s k h)
      rw [hd] at this; cases this
  rw [this, Bool.and_false]
theorem all_yes (s : ByteArray) (h0 : 0 < s.size) (k : Nat) (hk : s.size ≤ k) (ha : ((bytes s).take k).all isD = true) : allD s = true := by
  rw [List.take_of_length_le (by rw [bytes_length]; exact hk)] at ha
  unfold allD
  rw [ha]; simp [h0]

theorem cnt_step (s : ByteArray) (k : Nat) (h : k < s.size) : cntD ((bytes s).take (k + 1)) = cntD ((bytes s).take k) + if isD s[k] = true then 1 else 0 := by
  rw [take_snoc s k h]
  unfold cntD
  rw [List.countP_append]
  simp [List.countP_cons]
theorem cnt_le (s : ByteArray) (k : Nat) : cntD ((bytes s).take k) ≤ k := Nat.le_trans List.countP_le_length (List.length_take_le _ _)

/-- the two roads meet -/
theorem meet (s : ByteArray) (n : Nat) (hn : cntD (bytes s) = n) : allD s = (decide (0 < s.size) && decide (n = s.size)) := by
  subst hn
  unfold allD cntD
  congr 1
  rw [Bool.eq_iff_iff, List.all_eq_true, decide_eq_true_iff, ← bytes_length, List.countP_eq_length]

theorem bytes_any (s : ByteArray) (w : World) (hs : s.size ≤ maxLen) : Calls Try.prog 5 #[.string s] w fun e w' => ∃ r : Bool, e = .returned (.bool r) ∧ w' = w := by
  unfold maxLen at hs
  go_enter Try.func5, Try.ntmps5
  go_wp2
  all_goals (go_ret; exact ⟨_, rfl, rfl⟩)

theorem digits_any (s : ByteArray) (w : World) (hs : s.size ≤ maxLen) : Calls Try.prog 8 #[.string s] w fun e w' => e = .returned (.bool (allD s)) ∧ w' = w := by
  unfold maxLen at hs
  by_cases h0 : s.size = 0
  · obtain rfl : s = ByteArray.empty := by
      cases s with
      | mk d => simp [ByteArray.size] at h0; subst h0; rfl
    have he : allD ByteArray.empty = false := by decide
    rw [he]
    go_enter Try.func8, Try.ntmps8
    go_wp2
    go_ret
    exact ⟨rfl, rfl⟩
  · have hne : s.toList.isEmpty = false := by
      rw [ByteArray.toList_eq]
      cases e : s.data.toList with
      | nil =>
        have h1 := bytes_length s
        unfold bytes at h1
        rw [e] at h1
        exact absurd h1.symm h0
      | cons a b => rfl
    go_enter Try.func8, Try.ntmps8
    go_wp2
    go_loop [3] (fun iv => ∃ k : Nat, k ≤ s.size ∧ iv = .int .i64 k ∧ ((bytes s).take k).all isD = true) (fun iv => s.size - (intOf iv).toNat)
    case atStart => exact ⟨0, Nat.zero_le _, rfl, rfl⟩
    case round =>
      obtain ⟨k, hk, rfl, ha⟩ := hrel
      have HA : Hid (((bytes s).take k).all isD = true) := ha
      clear ha
      by_cases hlt : k < s.size
      · have hb : Hid (isD s[k] = (decide ((48 : Int) ≤ (s[k].toNat : Int)) && decide ((s[k].toNat : Int) ≤ 57))) := by
          show isD s[k] = _
          unfold isD
          congr 1 <;> (rw [decide_eq_decide]; omega)
        by_cases c1 : (s[k].toNat : Int) < 48
        · go_wp2
          go_ret
          rw [all_no s k hlt (by rw [hb.out, decide_eq_false (by omega)]; rfl)]
          exact ⟨rfl, rfl⟩
        by_cases c2 : (57 : Int) < (s[k].toNat : Int)
        · go_wp2
          go_ret
          rw [all_no s k hlt (by rw [hb.out, decide_eq_false (p := (s[k].toNat : Int) ≤ 57) (by omega), Bool.and_false])]
          exact ⟨rfl, rfl⟩
        go_wp2
        go_round
        case rel => exact ⟨k + 1, by omega, by go_num, all_step s k hlt HA.out (by rw [hb.out, decide_eq_true (by omega), decide_eq_true (by omega)]; rfl)⟩
        case measure => simp [intOf]; omega
      · go_wp2
        go_ret
        rw [all_yes s (by omega) k (by omega) HA.out]
        exact ⟨rfl, rfl⟩

theorem zzdigits (s : ByteArray) (w : World) (hs : s.size ≤ maxLen) : Calls Try.prog 6 #[.string s] w fun e w' => e = .returned (.bool (allD s)) ∧ w' = w := by
  have D := digits_any s w hs
  go_enter Try.func6, Try.ntmps6
  go_wp2_with fail
  refine D.mono ?_
  rintro e w ⟨rfl, rfl⟩
  go_wp2_with fail
  go_ret
  exact ⟨rfl, rfl⟩

set_option maxHeartbeats 400000 in
theorem law (s : ByteArray) (w : World) (hs : s.size ≤ maxLen) : Calls Try.prog 3 #[.string s] w fun e w' => e = .returned (.bool true) ∧ w' = w := by
  have hs2 := hs
  unfold maxLen at hs2
  go_enter Try.func3, Try.ntmps3
  go_wp2_with fail
  refine (bytes_any s w hs).mono ?_
  rintro e w ⟨r, rfl, rfl⟩
  cases r with
  | false =>
    go_wp2_with fail
    go_ret
    exact ⟨rfl, rfl⟩
  | true =>
    by_cases hbig : 1048576 < s.size
    · go_wp2_with fail
      go_ret
      exact ⟨rfl, rfl⟩
    obtain ⟨r, hr⟩ : ∃ r, allD s = r := ⟨_, rfl⟩
    have D := zzdigits s w hs
    rw [hr] at D
    have HR : Hid (allD s = r) := hr
    clear hr
    go_wp2_with fail
    refine D.mono ?_
    rintro e w ⟨rfl, rfl⟩
    clear D
    go_wp2_with fail
    go_loop [4, 5] (fun nv iv => ∃ k : Nat, k ≤ s.size ∧ iv = .int .i64 k ∧ nv = .int .i64 (cntD ((bytes s).take k))) (fun _ iv => s.size - (intOf iv).toNat)
    case atStart => exact ⟨0, Nat.zero_le _, rfl, rfl⟩
    case round =>
      obtain ⟨k, hk, rfl, rfl⟩ := hrel
      have hcl := cnt_le s k
      by_cases hlt : k < s.size
      · have HS : Hid (cntD ((bytes s).take (k + 1)) = cntD ((bytes s).take k) + if isD s[k] = true then 1 else 0) := cnt_step s k hlt
        obtain ⟨n, hn⟩ : ∃ n, cntD ((bytes s).take k) = n := ⟨_, rfl⟩
        rw [hn] at hcl ⊢
        have HN : Hid (cntD ((bytes s).take k) = n) := hn
        clear hn
        have h256 : Hid (s[k].toNat < 256) := UInt8.toNat_lt s[k]
        have hb : Hid (isD s[k] = (decide ((48 : Int) ≤ (s[k].toNat : Int)) && decide ((s[k].toNat : Int) ≤ 57))) := by
          show isD s[k] = _
          unfold isD
          congr 1 <;> (rw [decide_eq_decide]; omega)
        by_cases hd : ((s[k].toNat : Int) - 48) % 256 < 10
        · have hy : Hid (isD s[k] = true) := by
            have := h256.out
            show isD s[k] = true
            rw [hb.out, decide_eq_true (by omega), decide_eq_true (by omega)]; rfl
          go_wp2
          go_round
          case rel => exact ⟨k + 1, by omega, by go_num, by rw [HS.out, hy.out, HN.out]; go_num⟩
          case measure => simp [intOf]; omega
        · have hy : Hid (isD s[k] = false) := by
            have := h256.out
            show isD s[k] = false
            rw [hb.out]
            by_cases q : (48 : Int) ≤ (s[k].toNat : Int)
            · rw [decide_eq_false (p := (s[k].toNat : Int) ≤ 57) (by omega), Bool.and_false]
            · rw [decide_eq_false q]; rfl
          go_wp2
          go_round
          case rel => exact ⟨k + 1, by omega, by go_num, by rw [HS.out, hy.out, HN.out]; go_num⟩
          case measure => simp [intOf]; omega
      · obtain rfl : k = s.size := by omega
        rw [List.take_of_length_le (by rw [bytes_length]; exact Nat.le_refl _)] at hcl ⊢
        obtain ⟨n, hn⟩ : ∃ n, cntD (bytes s) = n := ⟨_, rfl⟩
        rw [hn] at hcl ⊢
        have hm := meet s n hn
        rw [HR.out] at hm
        clear hn
        by_cases hp : 0 < s.size
        · have hpi : (0 : Int) < (s.size : Int) := by omega
          by_cases hns : n = s.size
          · have hr : r = true := by rw [hm, decide_eq_true hp, decide_eq_true hns]; rfl
            subst hr
            subst hns
            clear hm
            go_wp2
            go_ret
            exact ⟨rfl, rfl⟩
          · have hr : r = false := by rw [hm, decide_eq_false hns, Bool.and_false]
            subst hr
            have hne : ((n : Int) == (s.size : Int)) = false := by simp; omega
            clear hm
            go_wp2
            go_ret
            exact ⟨rfl, rfl⟩
        · have hr : r = false := by rw [hm, decide_eq_false hp]; rfl
          subst hr
          clear hm
          go_wp2
          go_ret
          exact ⟨rfl, rfl⟩
end Go.Proofs.Qxb6602666a.Dg
