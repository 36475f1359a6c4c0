/-
  zzHasPrefix, zzHasSuffix, zzIndex: their walks.
-/
import Derived.Test.Qxb6001317aRows
import Derived.WalkKit
import Derived.WalkSpells
import Derived.WalkLawsBesides
import Derived.Deep.QuietTactic
import Derived.BigQuiet
namespace Go.Proofs.Qxb6001317a
open Go.RowKit

theorem len_eq (s : ByteArray) : s.data.toList.length = s.size := by rw [Array.length_toList]; rfl
theorem get_eq (s : ByteArray) (k : Nat) (h : k < s.size) : s.data.toList[k]? = some s[k] := by
  rw [List.getElem?_eq_getElem (by rw [len_eq]; exact h)]
  rfl

/-- Does p stand at place o of s? -/
def atB (s p : ByteArray) (o : Nat) : Bool := decide ((s.data.toList.drop o).take p.size = p.data.toList)

/-- The first k bytes of p stand at place o of s. -/
def Upto (s p : ByteArray) (o k : Nat) : Prop := (s.data.toList.drop o).take k = p.data.toList.take k

theorem Upto.zero (s p : ByteArray) (o : Nat) : Upto s p o 0 := by simp [Upto]
theorem Upto.step {s p : ByteArray} {o k j : Nat} (h : Upto s p o k) (hj : j = o + k) (h1 : j < s.size) (h2 : k < p.size) (he : ((s[j].toNat : Int) != (p[k].toNat : Int)) = false) : Upto s p o (k + 1) := by
  subst hj
  unfold Upto at h ⊢
  have e : s[o + k] = p[k] := by
    have h3 : (s[o + k].toNat : Int) = (p[k].toNat : Int) := by simpa using he
    exact UInt8.toNat_inj.1 (by omega)
  rw [List.take_add_one, List.take_add_one, h, List.getElem?_drop, get_eq s _ h1, get_eq p _ h2, e]
theorem Upto.yes {s p : ByteArray} {o : Nat} (h : Upto s p o p.size) : atB s p o = true := by
  unfold Upto at h
  unfold atB
  rw [decide_eq_true_eq, h, List.take_of_length_le (by rw [len_eq]; exact Nat.le_refl _)]
theorem Upto.no {s p : ByteArray} {o k j : Nat} (hj : j = o + k) (h1 : j < s.size) (h2 : k < p.size) (he : ((s[j].toNat : Int) != (p[k].toNat : Int)) = true) : atB s p o = false := by
  subst hj
  unfold atB
  rw [decide_eq_false_iff_not]
  intro h
  have h3 : ((s.data.toList.drop o).take p.size)[k]? = some s[o + k] := by rw [List.getElem?_take, if_pos h2, List.getElem?_drop, get_eq s _ h1]
  rw [h, get_eq p _ h2] at h3
  have h4 : p[k] = s[o + k] := Option.some.inj h3
  rw [h4] at he
  simp at he
theorem atB_long {s p : ByteArray} {o : Nat} (h : s.size < o + p.size) (_hp : 0 < p.size) : atB s p o = false := by
  unfold atB
  rw [decide_eq_false_iff_not]
  intro e
  have := congrArg List.length e
  rw [List.length_take, List.length_drop, len_eq, len_eq] at this
  omega

theorem ret_b {a b : Bool} (h : a = b) : Ending.returned (.bool a) = .returned (.bool b) := by rw [h]

set_option maxHeartbeats 400000 in
theorem prefix_any (s p : ByteArray) (w : World) (hs : s.size ≤ 4194304) (hp : 0 < p.size) (hp2 : p.size ≤ 100) :
    Calls Try.prog 18 #[.string s, .string p] w fun e w' => e = .returned (.bool (atB s p 0)) ∧ ∃ n, w' = w.drewN n := by
  by_cases hl : p.size ≤ s.size
  · go_enter Try.func18, Try.ntmps18
    go_wp2
    go_loopw [5] (fun i wr => ∃ k n : Nat, k ≤ p.size ∧ i = .int .i64 k ∧ Upto s p 0 k ∧ wr = w.drewN n) (fun i _ => p.size - (intOf i).toNat)
    case atStart => exact ⟨0, 0, by omega, rfl, Upto.zero _ _ _, rfl⟩
    case round =>
      obtain ⟨k, n, hk, rfl, hu, rfl⟩ := hrel
      by_cases hlt : k < p.size
      · have i1 : (k : Int) < (p.size : Int) := by omega
        have i2 : (k : Int) < (s.size : Int) := by omega
        go_wp2
        go_quiet (fail)
        go_wp2
        · have h3 : ((s[k].toNat : Int) != (p[k].toNat : Int)) = true := by assumption
          go_ret
          exact ⟨ret_b (Upto.no (by omega) (by omega) hlt h3).symm, _, World.drewN_drewN _ _ _⟩
        · have h3 : ((s[k].toNat : Int) != (p[k].toNat : Int)) = false := by assumption
          go_roundw
          case rel => exact ⟨k + 1, _, by omega, by go_num, hu.step (by omega) (by omega) hlt h3, rfl⟩
          case measure => simp [intOf]; omega
      · have hkp : k = p.size := by omega
        have hu2 : Upto s p 0 p.size := by rw [hkp] at hu; exact hu
        clear hkp
        go_wp2
        go_ret
        exact ⟨ret_b hu2.yes.symm, _, rfl⟩
  · go_enter Try.func18, Try.ntmps18
    go_wp2
    go_ret
    exact ⟨ret_b (atB_long (by omega) hp).symm, 0, rfl⟩

set_option maxHeartbeats 400000 in
theorem suffix_any (s p : ByteArray) (w : World) (hs : s.size ≤ 4194304) (hp : 0 < p.size) (hp2 : p.size ≤ 100) :
    Calls Try.prog 8 #[.string s, .string p] w fun e w' => e = .returned (.bool (atB s p (s.size - p.size))) ∧ ∃ n, w' = w.drewN n := by
  by_cases hl : p.size ≤ s.size
  · obtain ⟨o, ho⟩ : ∃ o, s.size = o + p.size := ⟨s.size - p.size, by omega⟩
    have e0 : (s.size : Int) - (p.size : Int) = (o : Int) := by omega
    have e1 : s.size - p.size = o := by omega
    rw [e1]
    have HO : Hid (s.size = o + p.size) := ho
    clear ho e1
    have ho2 : (o : Int) + (p.size : Int) ≤ (s.size : Int) := by have := HO.out; omega
    go_enter Try.func8, Try.ntmps8
    go_wp2
    go_loopw [6] (fun i wr => ∃ k n : Nat, k ≤ p.size ∧ i = .int .i64 k ∧ Upto s p o k ∧ wr = w.drewN n) (fun i _ => p.size - (intOf i).toNat)
    case atStart => exact ⟨0, 0, by omega, rfl, Upto.zero _ _ _, rfl⟩
    case round =>
      obtain ⟨k, n, hk, rfl, hu, rfl⟩ := hrel
      by_cases hlt : k < p.size
      · have i1 : (k : Int) < (p.size : Int) := by omega
        have i2 : (o : Int) + (k : Int) < (s.size : Int) := by omega
        have i3 : (0 : Int) ≤ (o : Int) + (k : Int) := by omega
        have i4 : o + k < s.size := by omega
        go_wp2
        go_quiet (fail)
        go_wp2
        · have h3 : ((s[o + k].toNat : Int) != (p[k].toNat : Int)) = true := by assumption
          go_ret
          exact ⟨ret_b (Upto.no rfl i4 hlt h3).symm, _, World.drewN_drewN _ _ _⟩
        · have h3 : ((s[o + k].toNat : Int) != (p[k].toNat : Int)) = false := by assumption
          go_roundw
          case rel => exact ⟨k + 1, _, by omega, by go_num, hu.step rfl i4 hlt h3, rfl⟩
          case measure => simp [intOf]; omega
      · have hkp : k = p.size := by omega
        have hu2 : Upto s p o p.size := by rw [hkp] at hu; exact hu
        clear hkp
        go_wp2
        go_ret
        exact ⟨ret_b hu2.yes.symm, _, rfl⟩
  · have e1 : s.size - p.size = 0 := by omega
    rw [e1]
    clear e1
    go_enter Try.func8, Try.ntmps8
    go_wp2
    go_ret
    exact ⟨ret_b (atB_long (by omega) hp).symm, 0, rfl⟩
/-- What stands at the head of a cut stands at the cut's place. -/
theorem atB_cut (s p : ByteArray) (m : Nat) : atB (s.extract m s.size) p 0 = atB s p m := by
  unfold atB
  have e : (s.extract m s.size).data.toList = s.data.toList.drop m := by
    rw [ByteArray.data_extract, Array.toList_extract, List.extract_eq_take_drop, List.take_of_length_le]
    rw [List.length_drop, Array.length_toList]
    exact Nat.le_refl _
  rw [e, List.drop_zero]

set_option maxHeartbeats 400000 in
theorem index_any (s p : ByteArray) (m : Nat) (w : World) (hs : s.size ≤ 4194304) (hp : 0 < p.size) (hp2 : p.size ≤ 100) (hm : m + p.size ≤ s.size) (hyes : atB s p m = true) (hno : ∀ i, i < m → atB s p i = false) :
    Calls Try.prog 15 #[.string s, .string p] w fun e w' => e = .returned (.int .i64 m) ∧ ∃ n, w' = w.drewN n := by
  go_enter Try.func15, Try.ntmps15
  go_wp2
  go_loopw [5] (fun i wr => ∃ k n : Nat, k ≤ m ∧ i = .int .i64 k ∧ wr = w.drewN n) (fun i _ => m - (intOf i).toNat)
  case atStart => exact ⟨0, 0, by omega, rfl, rfl⟩
  case round =>
    obtain ⟨k, n, hk, rfl, rfl⟩ := hrel
    have hz : (s.extract k s.size).size ≤ 4194304 := by rw [ByteArray.size_extract]; omega
    have hc := fun W => prefix_any (s.extract k s.size) p W hz hp hp2
    rw [atB_cut] at hc
    have i1 : (k : Int) + (p.size : Int) ≤ (s.size : Int) := by omega
    have i2 : (k : Int) ≤ (s.size : Int) := by omega
    clear hz
    by_cases hlt : k < m
    · rw [hno k hlt] at hc
      clear hyes hno
      go_wp2_with (go_at_call 18; refine (hc _).mono ?_; rintro e w' ⟨rfl, nq, rfl⟩)
      go_roundw
      case rel => exact ⟨k + 1, _, by omega, by go_num, rfl⟩
      case measure => simp [intOf]; omega
    · have hkm : k = m := by omega
      subst hkm
      rw [hyes] at hc
      clear hyes hno
      go_wp2_with (go_at_call 18; refine (hc _).mono ?_; rintro e w' ⟨rfl, nq, rfl⟩)
      go_ret
      exact ⟨rfl, _, rfl⟩
end Go.Proofs.Qxb6001317a
