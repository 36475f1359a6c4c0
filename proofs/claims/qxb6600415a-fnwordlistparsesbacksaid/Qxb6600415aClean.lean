/-
  zzClean, zzSameWords: their walks.
-/
import Derived.Test.Qxb6600415aBase
import Derived.Deep.QuietTactic
import Derived.BigQuiet
namespace Go.Proofs.Qxb6600415a
open Go.RowKit

/-- A word that is not empty and holds neither a blank nor a comma. -/
def Clean (l : List UInt8) : Prop := l ≠ [] ∧ ∀ c ∈ l, c ≠ 32 ∧ c ≠ 44

theorem clean_step {s : ByteArray} {k : Nat} (hk : k < s.size) (h : ∀ c ∈ s.data.toList.take k, c ≠ 32 ∧ c ≠ 44) (h1 : ((s[k].toNat : Int) == 32) = false) (h2 : ((s[k].toNat : Int) == 44) = false) :
    ∀ c ∈ s.data.toList.take (k + 1), c ≠ 32 ∧ c ≠ 44 := by
  have e : s.data.toList.take (k + 1) = s.data.toList.take k ++ [s[k]] := by
    rw [List.take_succ_eq_append_getElem (by simpa using hk)]
    rfl
  intro c hc
  rw [e] at hc
  rcases List.mem_append.1 hc with hc | hc
  · exact h c hc
  · simp only [List.mem_singleton] at hc
    subst hc
    refine ⟨fun h3 => ?_, fun h3 => ?_⟩
    · rw [h3] at h1
      simp at h1
    · rw [h3] at h2
      simp at h2

set_option maxHeartbeats 400000 in
theorem clean_any (s : ByteArray) (w : World) (hs : s.size ≤ 1048576) :
    Calls Try.prog 14 #[.string s] w fun e w' => Says (Clean s.data.toList) e ∧ w' = w := by
  by_cases h0 : s.size = 0
  · have hz : ((s.size : Int) == 0) = true := by simp [h0]
    clear h0
    go_enter Try.func14, Try.ntmps14
    go_wp2
    go_ret
    exact ⟨Says.no, rfl⟩
  · have hz : ((s.size : Int) == 0) = false := by simpa using h0
    go_enter Try.func14, Try.ntmps14
    go_wp2
    go_loop [3] (fun i => ∃ k : Nat, k ≤ s.size ∧ i = .int .i64 k ∧ ∀ c ∈ s.data.toList.take k, c ≠ 32 ∧ c ≠ 44) (fun i => s.size - (intOf i).toNat)
    case atStart => exact ⟨0, by omega, rfl, by simp⟩
    case round =>
      obtain ⟨k, hk, rfl, hc⟩ := hrel
      have HC : Hid (∀ c ∈ s.data.toList.take k, c ≠ 32 ∧ c ≠ 44) := hc
      clear hc
      by_cases hlt : k < s.size
      · go_wp2
        · go_ret
          exact ⟨Says.no, rfl⟩
        · go_ret
          exact ⟨Says.no, rfl⟩
        · have h3 : ((s[k].toNat : Int) == 32) = false ∧ ((s[k].toNat : Int) == 44) = false := by assumption
          go_round
          case rel => exact ⟨k + 1, by omega, by go_num, clean_step hlt HC.out h3.1 h3.2⟩
          case measure => simp [intOf]; omega
      · go_wp2
        go_ret
        have e : s.data.toList.length = s.size := by rw [Array.length_toList]; rfl
        refine ⟨Says.yes ⟨?_, ?_⟩, rfl⟩
        · intro hn
          rw [hn] at e
          simp only [List.length_nil] at e
          omega
        · have := HC.out
          rwa [List.take_of_length_le (by omega)] at this

theorem same_bytes (s : ByteArray) : (s.toList == s.toList) = true := by simp

set_option maxHeartbeats 400000 in
theorem same_any (a a' : Option Addr) (len cap cap' : Nat) (ss : List ByteArray) (w : World) (h : IsStrs w a len cap ss) (h' : IsStrs w a' len cap' ss) :
    Calls Try.prog 16 #[.slice a len cap, .slice a' len cap'] w fun e w' => e = .returned (.bool true) ∧ Below w.heap.size w w' := by
  have h3 : cap ≤ maxLen := h.2.2.1
  have h2 : len ≤ cap := h.2.1
  unfold maxLen at h3
  go_enter Try.func16, Try.ntmps16
  go_wp2
  go_loopw [5] (fun i wr => ∃ k : Nat, k ≤ len ∧ i = .int .i64 k ∧ Below w.heap.size w wr) (fun i _ => len - (intOf i).toNat)
  case atStart => exact ⟨0, by omega, rfl, Below.refl _ _⟩
  case round =>
    obtain ⟨k, hk, rfl, hbl⟩ := hrel
    by_cases hlt : k < len
    · obtain ⟨b, o, s, rfl, _, hg, hc, hbb⟩ := h.at k hlt
      obtain ⟨b', o', s', rfl, _, hg', hc', hbb'⟩ := h'.at k hlt
      obtain rfl : s = s' := by rw [hg] at hg'; exact Option.some.inj hg'
      have hd := (hbl.cell (p := ⟨b, o + k, none⟩) hbb).trans hc
      have hd' := (hbl.cell (p := ⟨b', o' + k, none⟩) hbb').trans hc'
      have hlt2 : (k : Int) < (len : Int) := by omega
      clear hg hg' hc hc'
      go_wp2
      go_quiet (fail)
      go_wp2
      go_roundw
      case rel => exact ⟨k + 1, by omega, by go_num, below_drewN hbl _⟩
      case measure => simp [intOf]; omega
    · go_wp2
      go_ret
      exact ⟨rfl, hbl⟩
end Go.Proofs.Qxb6600415a
