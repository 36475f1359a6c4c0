/-
  THE LIST OF WORDS: what wordList computes, as a plain function on lists of bytes; its walk.
-/
import Derived.Test.Qxb6600415aBase
import Derived.Test.Qxb6600415aShelf
import Derived.Deep.RegionHeld3
namespace Go.Proofs.Qxb6600415a
open Go.RowKit

/-- The words as lists of bytes. -/
def raw (ss : List ByteArray) : List (List UInt8) := ss.map (·.data.toList)

theorem size_eq (s : ByteArray) : s.data.toList.length = s.size := by rw [Array.length_toList]; rfl

/-- wordList on bytes. -/
def wl (ws : List (List UInt8)) (conj : List UInt8) : List UInt8 :=
  if ws.length < 2 then ws.flatten else (([44, 32] : List UInt8).intercalate (ws.take (ws.length - 1)) ++ [32] ++ conj ++ [32]) ++ ws.getD (ws.length - 1) []

/-- It answers the string of these bytes. -/
def Gives (l : List UInt8) (e : Ending) : Prop := e = .returned (.string ⟨l.toArray⟩)

theorem Gives.opened {l : List UInt8} {e : Ending} (h : Gives l e) : ∃ j : ByteArray, e = .returned (.string j) ∧ j.size ≤ l.length ∧ Hid (j.data.toList = l) :=
  ⟨⟨l.toArray⟩, h, Nat.le_refl _, by simp [Hid]⟩
theorem Gives.of {l : List UInt8} {j : ByteArray} (h : j.data.toList = l) : Gives l (.returned (.string j)) := by
  subst h
  simp [Gives]

theorem joinTail_len (sep : List UInt8) (ws : List (List UInt8)) : (Lib.joinTail sep ws).length = (ws.map List.length).sum + ws.length * sep.length := by
  unfold Lib.joinTail
  induction ws with
  | nil => simp
  | cons x l ih =>
    simp only [List.map_cons, List.flatten_cons, List.length_append, List.sum_cons, List.length_cons]
    rw [ih, Nat.add_mul]
    omega
theorem join_len (sep : List UInt8) (ws : List (List UInt8)) : (Lib.join ws sep).length ≤ (ws.map List.length).sum + ws.length * sep.length := by
  cases ws with
  | nil => simp [Lib.join_nil]
  | cons x l =>
    rw [Lib.join_cons, List.length_append, joinTail_len]
    simp only [List.map_cons, List.sum_cons, List.length_cons, Nat.add_mul]
    omega
theorem raw_sum (ss : List ByteArray) : ((raw ss).map List.length).sum = total ss := by
  unfold raw total
  rw [List.map_map]
  congr 1

theorem join_bound (ss : List ByteArray) (sep : List UInt8) (hb : ss.length ≤ 65536) (ht : total ss ≤ 1048576) (hs : sep.length ≤ 2) : (Lib.join (raw ss) sep).length ≤ 1179648 := by
  have h6 := join_len sep (raw ss)
  rw [raw_sum] at h6
  have h7 : (raw ss).length = ss.length := by simp [raw]
  have h8 : (raw ss).length * sep.length ≤ 65536 * 2 := Nat.mul_le_mul (by omega) hs
  omega

theorem join_any (a : Option Addr) (len cap : Nat) (ss : List ByteArray) (sep : ByteArray) (w : World) (h : IsStrs w a len cap ss) (hb : len ≤ 65536) (ht : total ss ≤ 1048576) (hs : sep.size ≤ 2) :
    Calls Try.prog 22 #[.slice a len cap, .string sep] w fun e w' => Gives (Lib.join (raw ss) sep.data.toList) e ∧ Below w.heap.size w w' := by
  obtain ⟨rfl, h2, h3, h4, h5⟩ := h
  have hlen : (Lib.join (raw ss) sep.data.toList).length ≤ 140737488355328 := by
    have := join_bound ss sep.data.toList hb ht (by rw [size_eq]; exact hs)
    omega
  by_cases h0 : ss.length = 0
  · have e : ss = [] := List.length_eq_zero_iff.1 h0
    subst e
    refine (Try.strings_Join_none a cap sep w).mono fun e w' hh => ?_
    obtain ⟨rfl, rfl⟩ := hh
    exact ⟨rfl, Below.refl _ _⟩
  · rcases h5 with h5 | ⟨b, o, rfl, hbb, h5⟩
    · exact absurd h5 h0
    · exact (Try.strings_Join b o cap ss sep w h5 hbb (by omega) h2 hlen).mono fun e w' hh => hh

theorem IsStrs.taken {w : World} {a : Option Addr} {len cap : Nat} {ss : List ByteArray} (h : IsStrs w a len cap ss) (k : Nat) (hk : k ≤ len) : IsStrs w a k cap (ss.take k) := by
  obtain ⟨h1, h2, h3, h4, h5⟩ := h
  refine ⟨by simp; omega, by omega, h3, fun s hs => h4 s (List.mem_of_mem_take hs), ?_⟩
  rcases h5 with h5 | ⟨b, o, rfl, hbb, h5⟩
  · exact .inl (by omega)
  · refine .inr ⟨b, o, rfl, hbb, fun j x hj => h5 j x ?_⟩
    rw [List.getElem?_take] at hj
    split at hj
    · exact hj
    · cases hj

set_option maxHeartbeats 400000 in
theorem word_small (a : Option Addr) (len cap : Nat) (ss : List ByteArray) (conj : ByteArray) (w : World) (h : IsStrs w a len cap ss) (hb : (len : Int) < 2) (ht : total ss ≤ 1048576) :
    Calls Try.prog 19 #[.slice a len cap, .string conj] w fun e w' => Gives (wl (raw ss) conj.data.toList) e ∧ Below w.heap.size w w' := by
  have hc := join_any a len cap ss ⟨#[]⟩ w h (by omega) ht (by decide)
  have e : Lib.join (raw ss) (⟨#[]⟩ : ByteArray).data.toList = wl (raw ss) conj.data.toList := by
    have h1 := h.1
    have h2 : (raw ss).length < 2 := by simp [raw]; omega
    rw [wl, if_pos h2]
    match hr : raw ss, h2 with
    | [], _ => rfl
    | [x], _ => simp [Lib.join_one]
  rw [e] at hc
  clear e
  go_enter Try.func19, Try.ntmps19
  go_wp2_with (go_at_call 22; refine hc.mono ?_; rintro e w' ⟨he, hw⟩; obtain ⟨j, rfl, hj, HJ⟩ := he.opened)
  go_ret
  exact ⟨Gives.of HJ.out, hw⟩

theorem add_bytes (a b : ByteArray) : (a ++ b).data.toList = a.data.toList ++ b.data.toList := by simp
theorem word_eq {n : Nat} {ss : List ByteArray} {s j conj : ByteArray} (h1 : ss.length = n + 1) (hb : 1 ≤ n) (hg : ss[n]? = some s) (hj : j.data.toList = Lib.join (raw (ss.take n)) [44, 32]) :
    (j ++ ⟨#[32]⟩ ++ conj ++ ⟨#[32]⟩ ++ s).data.toList = wl (raw ss) conj.data.toList := by
  have e1 : (raw ss).length = n + 1 := by simp [raw, h1]
  have e2 : (raw ss).getD n [] = s.data.toList := by simp [raw, hg]
  have e3 : (raw ss).take n = raw (ss.take n) := by simp [raw, List.map_take]
  rw [wl, if_neg (by omega), e1, Nat.add_sub_cancel, e2, e3, add_bytes, add_bytes, add_bytes, add_bytes, hj]
  rfl

set_option maxHeartbeats 400000 in
theorem word_big (a : Option Addr) (n cap : Nat) (ss : List ByteArray) (conj : ByteArray) (w : World) (h : IsStrs w a (n + 1) cap ss) (hb : 1 ≤ n) (hb2 : n < 65536) (ht : total ss ≤ 1048576) (hcj : conj.size ≤ 1048576) :
    Calls Try.prog 19 #[.slice a (n + 1 : Nat) cap, .string conj] w fun e w' => Gives (wl (raw ss) conj.data.toList) e ∧ Below w.heap.size w w' := by
  have hcap : n + 1 ≤ cap := h.2.1
  have hcap2 : cap ≤ 9223372036854775807 := h.2.2.1
  obtain ⟨b, o, s, rfl, hsz, hg, hc, hbb⟩ := h.at n (by omega)
  have hss : s.size ≤ 1048576 := Nat.le_trans (le_total (List.mem_of_getElem? hg)) ht
  have HG : Hid (ss[n]? = some s) := hg
  clear hg hsz
  have htt : total (ss.take n) ≤ 1048576 := by
    have := total_snoc HG.out
    have h1 := h.1
    rw [total_all (by omega)] at this
    omega
  have hj : ∀ W, Below w.heap.size w W → Calls Try.prog 22 #[.slice (some ⟨b, o, none⟩) n cap, .string ⟨#[44, 32]⟩] W fun e w' => Gives (Lib.join (raw (ss.take n)) [44, 32]) e ∧ Below W.heap.size W w' := fun W hW =>
    join_any _ n cap (ss.take n) ⟨#[44, 32]⟩ W ((h.taken n (by omega)).later hW) (by omega) htt (by decide)
  have hjl : (Lib.join (raw (ss.take n)) [44, 32]).length ≤ 1179648 := join_bound _ _ (by have := h.1; simp; omega) htt (by decide)
  have i1 : (0 : Int) ≤ (n : Int) := by omega
  have i2 : (n : Int) ≤ (cap : Int) := by omega
  have i3 : (n : Int) < (n : Int) + 1 := by omega
  have i4 : ¬ ((n : Int) + 1 < 2) := by omega
  go_enter Try.func19, Try.ntmps19
  go_wp2_with fail
  go_region_held3 (fun w' => w'.cell? ⟨b, o + n, none⟩ = some (.string s)) (go_keep) ((go_at_call 22; refine (hj _ ?_).mono ?_; exact (Below.refl _ _).drew; rintro e w' ⟨he, hw⟩; obtain ⟨j, rfl, hjs, HJ⟩ := he.opened; replace hjs := Nat.le_trans hjs hjl; have hc2 := (hw.cell (p := ⟨b, o + n, none⟩) hbb).trans hc; have k1 : ¬ 9223372036854775807 < j.size + 1 := (by omega); have k2 : ¬ 9223372036854775807 < j.size + 1 + conj.size := (by omega); have k3 : ¬ 9223372036854775807 < j.size + 1 + conj.size + 1 := (by omega); have k4 : ¬ 9223372036854775807 < j.size + 1 + conj.size + 1 + s.size := (by omega)))
  go_wp2
  go_ret
  exact ⟨Gives.of (word_eq h.1 hb HG.out HJ.out), (Below.refl _ _).drew.trans hw⟩

theorem word_any (a : Option Addr) (len cap : Nat) (ss : List ByteArray) (conj : ByteArray) (w : World) (h : IsStrs w a len cap ss) (hb : len ≤ 65536) (ht : total ss ≤ 1048576) (hcj : conj.size ≤ 1048576) :
    Calls Try.prog 19 #[.slice a len cap, .string conj] w fun e w' => Gives (wl (raw ss) conj.data.toList) e ∧ Below w.heap.size w w' := by
  by_cases h2 : len < 2
  · exact word_small a len cap ss conj w h (by omega) ht
  · obtain ⟨n, rfl⟩ : ∃ n, len = n + 1 := ⟨len - 1, by omega⟩
    exact word_big a n cap ss conj w h (by omega) (by omega) ht hcj

theorem wl_bound (ss : List ByteArray) (conj : List UInt8) (hb : ss.length ≤ 65536) (ht : total ss ≤ 1048576) (hcj : conj.length ≤ 1048576) : (wl (raw ss) conj).length ≤ 4194304 := by
  have hr : (raw ss).length = ss.length := by simp [raw]
  by_cases h2 : (raw ss).length < 2
  · rw [wl, if_pos h2]
    have : (raw ss).flatten.length = total ss := by rw [List.length_flatten, raw_sum]
    omega
  · have e1 := join_bound (ss.take ((raw ss).length - 1)) [44, 32] (by simp; omega) (by
      have : ∀ (l : List ByteArray) (k : Nat), total (l.take k) ≤ total l := by
        intro l
        induction l with
        | nil => intro k; simp
        | cons x l ih =>
          intro k
          cases k with
          | zero => simp [total]
          | succ k => have := ih k; simp only [total, List.take_succ_cons, List.map_cons, List.sum_cons] at this ⊢; omega
      exact Nat.le_trans (this _ _) ht) (by decide)
    have e2 : ((raw ss).getD ((raw ss).length - 1) []).length ≤ 1048576 := by
      have h3 : (raw ss).length - 1 < ss.length := by omega
      have h4 := le_total (List.getElem_mem h3)
      rw [raw, List.getD, List.getElem?_map, ← raw, List.getElem?_eq_getElem h3]
      simp only [Option.map_some, Option.getD_some, size_eq]
      omega
    rw [wl, if_neg h2]
    have e3 : (raw ss).take ((raw ss).length - 1) = raw (ss.take ((raw ss).length - 1)) := by simp [raw, List.map_take]
    rw [e3]
    have e4 : (([44, 32] : List UInt8).intercalate (raw (ss.take ((raw ss).length - 1)))).length ≤ 1179648 := e1
    simp only [List.length_append, List.length_cons, List.length_nil]
    omega

set_option maxHeartbeats 400000 in
theorem zzword_any (a : Option Addr) (len cap : Nat) (ss : List ByteArray) (conj : ByteArray) (w : World) (h : IsStrs w a len cap ss) (hb : len ≤ 65536) (ht : total ss ≤ 1048576) (hcj : conj.size ≤ 1048576) :
    Calls Try.prog 10 #[.slice a len cap, .string conj] w fun e w' => Gives (wl (raw ss) conj.data.toList) e ∧ Below w.heap.size w w' := by
  have hc := word_any a len cap ss conj w h hb ht hcj
  go_enter Try.func10, Try.ntmps10
  go_wp2_with (go_at_call 19; refine hc.mono ?_; rintro e w' ⟨he, hw⟩; obtain ⟨j, rfl, hj, HJ⟩ := he.opened)
  go_ret
  exact ⟨Gives.of HJ.out, hw⟩
end Go.Proofs.Qxb6600415a
