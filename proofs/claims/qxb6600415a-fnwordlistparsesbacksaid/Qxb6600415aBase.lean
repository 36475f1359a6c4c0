/-
  THE BASE of the seat's walks: what is told of a slice of strings; the two bounds' functions; the copy of a list.
-/
import Derived.Test.Qxb6600415aRows
import Derived.WalkKit
import Derived.WalkSpells
import Derived.WalkLawsBesides
namespace Go.Proofs.Qxb6600415a
open Go.RowKit

/-- A slice of strings in memory: as many strings as its length; where there is one, a row of cells that holds them. -/
def IsStrs (w : World) (a : Option Addr) (len cap : Nat) (ss : List ByteArray) : Prop :=
  ss.length = len ∧ len ≤ cap ∧ cap ≤ maxLen ∧ (∀ s ∈ ss, s.size ≤ maxLen) ∧
  (len = 0 ∨ ∃ b o, a = some ⟨b, o, none⟩ ∧ b < w.heap.size ∧ ∀ j x, ss[j]? = some x → w.cell? ⟨b, o + j, none⟩ = some (.string x))

theorem IsStrs.at {w : World} {a : Option Addr} {len cap : Nat} {ss : List ByteArray} (h : IsStrs w a len cap ss) (k : Nat) (hk : k < len) :
    ∃ b o s, a = some ⟨b, o, none⟩ ∧ s.size ≤ maxLen ∧ ss[k]? = some s ∧ w.cell? ⟨b, o + k, none⟩ = some (.string s) ∧ b < w.heap.size := by
  obtain ⟨h1, h2, h3, h4, h5⟩ := h
  rcases h5 with h5 | ⟨b, o, rfl, hb, h5⟩
  · omega
  · have e : ss[k]? = some ss[k] := List.getElem?_eq_getElem (by omega)
    exact ⟨b, o, ss[k], rfl, h4 _ (List.getElem_mem _), e, h5 k _ e, hb⟩

/-- It stays one behind whatever leaves the old memory alone. -/
theorem IsStrs.later {w w' : World} {a : Option Addr} {len cap : Nat} {ss : List ByteArray} (h : IsStrs w a len cap ss) (hb : Below w.heap.size w w') : IsStrs w' a len cap ss := by
  obtain ⟨h1, h2, h3, h4, h5⟩ := h
  refine ⟨h1, h2, h3, h4, ?_⟩
  rcases h5 with h5 | ⟨b, o, rfl, hbb, h5⟩
  · exact .inl h5
  · exact .inr ⟨b, o, rfl, Nat.lt_of_lt_of_le hbb hb.size, fun j x hj => (hb.cell (p := ⟨b, o + j, none⟩) hbb).trans (h5 j x hj)⟩

/-- It answers a bool; where that is true, 'p' holds. -/
def Says (p : Prop) (e : Ending) : Prop := ∃ r : Bool, e = .returned (.bool r) ∧ (r = true → p)
theorem Says.no {p : Prop} : Says p (.returned (.bool false)) := ⟨false, rfl, fun h => by cases h⟩
theorem Says.yes {p : Prop} (h : p) : Says p (.returned (.bool true)) := ⟨true, rfl, fun _ => h⟩

/-- The strings' lengths, summed. -/
def total (ss : List ByteArray) : Nat := (ss.map (·.size)).sum
theorem total_snoc {ss : List ByteArray} {k : Nat} {s : ByteArray} (h : ss[k]? = some s) : total (ss.take (k + 1)) = total (ss.take k) + s.size := by
  unfold total
  rw [List.take_add_one, h]
  simp
theorem total_all {ss : List ByteArray} {k : Nat} (h : ss.length ≤ k) : total (ss.take k) = total ss := by rw [List.take_of_length_le h]
theorem le_total {ss : List ByteArray} {s : ByteArray} (h : s ∈ ss) : s.size ≤ total ss := by
  unfold total
  induction ss with
  | nil => cases h
  | cons x l ih =>
    simp only [List.map_cons, List.sum_cons]
    rcases List.mem_cons.1 h with rfl | h
    · omega
    · have := ih h
      omega

set_option maxHeartbeats 400000 in
theorem bytes12_any (a : Option Addr) (len cap : Nat) (ss : List ByteArray) (conj : ByteArray) (w : World) (h : IsStrs w a len cap ss) (hs : conj.size ≤ maxLen) :
    Calls Try.prog 12 #[.slice a len cap, .string conj] w fun e w' => Says (len + total ss + conj.size ≤ 1048576) e ∧ w' = w := by
  have h3 : cap ≤ maxLen := h.2.2.1
  have h2 : len ≤ cap := h.2.1
  have h1 : ss.length ≤ len := by have := h.1; omega
  unfold maxLen at h3 hs
  by_cases hL : (len : Int) ≤ 1048576
  · go_enter Try.func12, Try.ntmps12
    go_wp2
    go_loop [5, 6] (fun n i => ∃ k t : Nat, k ≤ len ∧ i = .int .i64 k ∧ n = .int .i64 t ∧ t ≤ 1048576 ∧ len + total (ss.take k) = t) (fun _ i => len - (intOf i).toNat)
    case atStart => exact ⟨0, len, by omega, rfl, rfl, by omega, by simp [total]⟩
    case round =>
      obtain ⟨k, t, hk, rfl, rfl, ht, he⟩ := hrel
      have HE : Hid (len + total (ss.take k) = t) := he
      clear he
      by_cases hlt : k < len
      · obtain ⟨b, o, s, rfl, hsz, hg, hc, _⟩ := h.at k hlt
        have HG : Hid (ss[k]? = some s) := hg
        clear hg
        unfold maxLen at hsz
        go_wp2
        · go_ret
          exact ⟨Says.no, rfl⟩
        · go_ret
          exact ⟨Says.no, rfl⟩
        · go_round
          case rel => exact ⟨k + 1, t + s.size, by omega, by go_num, by go_num, by omega, by have := total_snoc HG.out; have := HE.out; omega⟩
          case measure => simp [intOf]; omega
      · have ht2 := total_all (Nat.le_trans h1 (Nat.le_of_not_lt hlt))
        have HT : Hid (total (ss.take k) = total ss) := ht2
        clear ht2
        go_wp2
        · go_ret
          exact ⟨Says.no, rfl⟩
        · go_ret
          exact ⟨Says.no, rfl⟩
        · go_ret
          exact ⟨Says.yes (by have := HT.out; have := HE.out; omega), rfl⟩
  · go_enter Try.func12, Try.ntmps12
    go_wp2
    go_ret
    exact ⟨Says.no, rfl⟩

set_option maxHeartbeats 400000 in
theorem bytes7_any (a : Option Addr) (len cap : Nat) (ss : List ByteArray) (conj : ByteArray) (w : World) (h : IsStrs w a len cap ss) (hs : conj.size ≤ maxLen) :
    Calls Try.prog 7 #[.slice a len cap, .string conj] w fun e w' => Says (len + total ss + conj.size ≤ 1048576) e ∧ w' = w := by
  have h3 : cap ≤ maxLen := h.2.2.1
  have h2 : len ≤ cap := h.2.1
  have h1 : ss.length ≤ len := by have := h.1; omega
  unfold maxLen at h3 hs
  by_cases hL : (len : Int) ≤ 1048576
  · go_enter Try.func7, Try.ntmps7
    go_wp2
    go_loop [5, 6] (fun n i => ∃ k t : Nat, k ≤ len ∧ i = .int .i64 k ∧ n = .int .i64 t ∧ t ≤ 1048576 ∧ len + total (ss.take k) = t) (fun _ i => len - (intOf i).toNat)
    case atStart => exact ⟨0, len, by omega, rfl, rfl, by omega, by simp [total]⟩
    case round =>
      obtain ⟨k, t, hk, rfl, rfl, ht, he⟩ := hrel
      have HE : Hid (len + total (ss.take k) = t) := he
      clear he
      by_cases hlt : k < len
      · obtain ⟨b, o, s, rfl, hsz, hg, hc, _⟩ := h.at k hlt
        have HG : Hid (ss[k]? = some s) := hg
        clear hg
        unfold maxLen at hsz
        go_wp2
        · go_ret
          exact ⟨Says.no, rfl⟩
        · go_ret
          exact ⟨Says.no, rfl⟩
        · go_round
          case rel => exact ⟨k + 1, t + s.size, by omega, by go_num, by go_num, by omega, by have := total_snoc HG.out; have := HE.out; omega⟩
          case measure => simp [intOf]; omega
      · have ht2 := total_all (Nat.le_trans h1 (Nat.le_of_not_lt hlt))
        have HT : Hid (total (ss.take k) = total ss) := ht2
        clear ht2
        go_wp2
        · go_ret
          exact ⟨Says.no, rfl⟩
        · go_ret
          exact ⟨Says.no, rfl⟩
        · go_ret
          exact ⟨Says.yes (by have := HT.out; have := HE.out; omega), rfl⟩
  · go_enter Try.func7, Try.ntmps7
    go_wp2
    go_ret
    exact ⟨Says.no, rfl⟩

set_option maxHeartbeats 400000 in
theorem bytes13_any (a : Option Addr) (len cap : Nat) (ss : List ByteArray) (conj : ByteArray) (w : World) (h : IsStrs w a len cap ss) (hs : conj.size ≤ maxLen) :
    Calls Try.prog 13 #[.slice a len cap, .string conj] w fun e w' => Says (len + total ss + conj.size ≤ 1048576) e ∧ w' = w := by
  have h3 : cap ≤ maxLen := h.2.2.1
  have h2 : len ≤ cap := h.2.1
  have h1 : ss.length ≤ len := by have := h.1; omega
  unfold maxLen at h3 hs
  by_cases hL : (len : Int) ≤ 1048576
  · go_enter Try.func13, Try.ntmps13
    go_wp2
    go_loop [5, 6] (fun n i => ∃ k t : Nat, k ≤ len ∧ i = .int .i64 k ∧ n = .int .i64 t ∧ t ≤ 1048576 ∧ len + total (ss.take k) = t) (fun _ i => len - (intOf i).toNat)
    case atStart => exact ⟨0, len, by omega, rfl, rfl, by omega, by simp [total]⟩
    case round =>
      obtain ⟨k, t, hk, rfl, rfl, ht, he⟩ := hrel
      have HE : Hid (len + total (ss.take k) = t) := he
      clear he
      by_cases hlt : k < len
      · obtain ⟨b, o, s, rfl, hsz, hg, hc, _⟩ := h.at k hlt
        have HG : Hid (ss[k]? = some s) := hg
        clear hg
        unfold maxLen at hsz
        go_wp2
        · go_ret
          exact ⟨Says.no, rfl⟩
        · go_ret
          exact ⟨Says.no, rfl⟩
        · go_round
          case rel => exact ⟨k + 1, t + s.size, by omega, by go_num, by go_num, by omega, by have := total_snoc HG.out; have := HE.out; omega⟩
          case measure => simp [intOf]; omega
      · have ht2 := total_all (Nat.le_trans h1 (Nat.le_of_not_lt hlt))
        have HT : Hid (total (ss.take k) = total ss) := ht2
        clear ht2
        go_wp2
        · go_ret
          exact ⟨Says.no, rfl⟩
        · go_ret
          exact ⟨Says.no, rfl⟩
        · go_ret
          exact ⟨Says.yes (by have := HT.out; have := HE.out; omega), rfl⟩
  · go_enter Try.func13, Try.ntmps13
    go_wp2
    go_ret
    exact ⟨Says.no, rfl⟩

set_option maxHeartbeats 400000 in
theorem bytesOK_any (a : Option Addr) (len cap : Nat) (ss : List ByteArray) (x : Nat) (w : World) (h : IsStrs w a len cap ss) (hs : x ≤ maxLen) (hbig : ∀ s ∈ ss, s.size ≤ 1048576) :
    Calls Try.prog 8 #[.slice a len cap, .int .i64 x] w fun e w' => Says (len ≤ 65536 ∧ 16 * len + x + total ss ≤ 1048576) e ∧ w' = w := by
  have h3 : cap ≤ maxLen := h.2.2.1
  have h2 : len ≤ cap := h.2.1
  have h1 : ss.length ≤ len := by have := h.1; omega
  unfold maxLen at h3 hs
  by_cases hL : (len : Int) ≤ 65536
  · by_cases hx : (x : Int) ≤ 1048576
    · have hx0 : (0 : Int) ≤ x := by omega
      by_cases hm : 16 * (len : Int) + x ≤ 1048576
      · go_enter Try.func8, Try.ntmps8
        go_wp2
        go_loop [5, 6] (fun n i => ∃ k t : Nat, k ≤ len ∧ i = .int .i64 k ∧ n = .int .i64 t ∧ t ≤ 1048576 ∧ 16 * len + x + total (ss.take k) = t) (fun _ i => len - (intOf i).toNat)
        case atStart => exact ⟨0, 16 * len + x, by omega, rfl, by go_num, by omega, by simp [total]⟩
        case round =>
          obtain ⟨k, t, hk, rfl, rfl, ht, he⟩ := hrel
          have HE : Hid (16 * len + x + total (ss.take k) = t) := he
          clear he
          by_cases hlt : k < len
          · obtain ⟨b, o, s, rfl, _, hg, hc, _⟩ := h.at k hlt
            have hsz := hbig s (List.mem_of_getElem? hg)
            have HG : Hid (ss[k]? = some s) := hg
            clear hg
            go_wp2
            · go_ret
              exact ⟨Says.no, rfl⟩
            · go_round
              case rel => exact ⟨k + 1, t + s.size, by omega, by go_num, by go_num, by omega, by have := total_snoc HG.out; have := HE.out; omega⟩
              case measure => simp [intOf]; omega
          · go_wp2
            go_ret
            exact ⟨Says.yes ⟨by omega, by have := total_all (Nat.le_trans h1 (Nat.le_of_not_lt hlt)); have := HE.out; omega⟩, rfl⟩
      · go_enter Try.func8, Try.ntmps8
        go_wp2
        go_ret
        exact ⟨Says.no, rfl⟩
    · go_enter Try.func8, Try.ntmps8
      go_wp2
      go_ret
      exact ⟨Says.no, rfl⟩
  · go_enter Try.func8, Try.ntmps8
    go_wp2
    go_ret
    exact ⟨Says.no, rfl⟩
end Go.Proofs.Qxb6600415a
