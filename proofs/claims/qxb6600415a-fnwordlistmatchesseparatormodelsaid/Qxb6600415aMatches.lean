/-
  THE SECOND LAW: the list is the model; its walk.
-/
import Derived.Test.Qxb6600415aClone
import Derived.Test.Qxb6600415aModel
namespace Go.Proofs.Qxb6600415a
open Go.RowKit

/-! ### The plain law -/
theorem join_snoc (l : List (List UInt8)) (x sep : List UInt8) (h : l ≠ []) : Lib.join (l ++ [x]) sep = Lib.join l sep ++ sep ++ x := by
  cases l with
  | nil => exact absurd rfl h
  | cons y r =>
    rw [List.cons_append, Lib.join_cons, Lib.join_cons]
    simp [Lib.joinTail]

theorem lm_join (n : Nat) (conj : List UInt8) (ws : List (List UInt8)) (hn : ws.length = n) : ∀ k, k + 1 < n → lm n conj ws (k + 1) = Lib.join (ws.take (k + 1)) [44, 32]
  | 0, h => by
    match ws, hn with
    | [], hn => simp at hn; omega
    | x :: r, _ => simp [lm, sepOf, Lib.join_one]
  | k + 1, h => by
    have ih := lm_join n conj ws hn k (by omega)
    have hk : k + 1 < ws.length := by omega
    have e1 : ws.getD (k + 1) [] = ws[k + 1] := by simp [List.getD, hk]
    have e2 : ws.take (k + 1 + 1) = ws.take (k + 1) ++ [ws[k + 1]] := List.take_succ_eq_append_getElem hk
    have e3 : ws.take (k + 1) ≠ [] := by
      intro h0
      have := congrArg List.length h0
      rw [List.length_take] at this
      simp only [List.length_nil] at this
      omega
    rw [lm, ih, e1, e2, join_snoc _ _ _ e3, sepOf, if_neg (by omega), if_neg (by omega)]

theorem wl_lm (ws : List (List UInt8)) (conj : List UInt8) : wl ws conj = lm ws.length conj ws ws.length := by
  match ws with
  | [] => rfl
  | [x] => simp [wl, lm, sepOf]
  | x :: y :: r =>
    have h2 : ¬ (x :: y :: r).length < 2 := by simp
    have e := lm_join (x :: y :: r).length conj (x :: y :: r) rfl r.length (by simp)
    rw [wl, if_neg h2]
    show _ = lm (x :: y :: r).length conj (x :: y :: r) (r.length + 1 + 1)
    rw [lm, e, sepOf, if_neg (by omega), if_pos (by simp)]
    simp [Lib.join]

theorem says_model {ss : List ByteArray} {len : Nat} {g t conj : ByteArray} (h1 : ss.length = len) (hg : g.data.toList = wl (raw ss) conj.data.toList) (ht : t.data.toList = lm len conj.data.toList (raw ss) len) : (g.toList == t.toList) = true := by
  have e : (raw ss).length = len := by simp [raw, h1]
  rw [ByteArray.toList_eq, ByteArray.toList_eq, hg, ht, wl_lm, e]
  simp

theorem ret_bool' {a b : Bool} (h : a = b) : Ending.returned (.bool a) = .returned (.bool b) := by rw [h]

set_option maxHeartbeats 1000000 in
theorem matches_any (a : Option Addr) (len cap : Nat) (ss : List ByteArray) (conj : ByteArray) (w : World) (h : IsStrs w a len cap ss) (hs : conj.size ≤ maxLen) :
    Calls Try.prog 3 #[.slice a len cap, .string conj] w fun e w' => e = .returned (.bool true) ∧ Below w.heap.size w w' := by
  have hcap : len ≤ cap := h.2.1
  have hcap2 : cap ≤ 9223372036854775807 := h.2.2.1
  have hs2 : conj.size ≤ 9223372036854775807 := hs
  go_enter Try.func3, Try.ntmps3
  go_wp2_with fail
  refine (bytes7_any a len cap ss conj w h hs).mono ?_
  rintro e w' ⟨⟨r, rfl, hr⟩, rfl⟩
  cases r with
  | false =>
    go_wp2
    go_ret
    exact ⟨rfl, Below.refl _ _⟩
  | true =>
    replace hr := hr rfl
    have hbig : ∀ s ∈ ss, s.size ≤ 1048576 := fun s hm => by have := le_total hm; omega
    have hcj : conj.size ≤ 1048576 := by omega
    by_cases hl : len ≤ 65536
    · go_wp2_with fail
      refine (bytesOK_any a len cap ss conj.size _ h hs hbig).mono ?_
      rintro e w' ⟨⟨r, rfl, hr2⟩, rfl⟩
      cases r with
      | false =>
        go_wp2
        go_ret
        exact ⟨rfl, Below.refl _ _⟩
      | true =>
        replace hr2 := hr2 rfl
        go_wp2_with fail
        refine (clone_any a len cap ss _ h hl).mono ?_
        rintro e w1 ⟨a', rfl, h1, hb1⟩
        go_wp2_with fail
        refine (zzword_any a' len len ss conj _ h1 hl (by omega) hcj).mono ?_
        rintro e w2 ⟨he, hb2⟩
        obtain ⟨g, rfl, hgs, HG⟩ := he.opened
        go_wp2_with fail
        refine (model_any a' len len ss conj _ (h1.later hb2) hl (by omega) hcj).mono ?_
        rintro e w3 ⟨he, hb3⟩
        obtain ⟨t, rfl, hts, HT⟩ := he.opened
        go_wp2
        go_ret
        exact ⟨ret_bool' (says_model h.1 HG.out HT.out), (hb1.trans (hb2.mono hb1.size)).trans (hb3.mono (Nat.le_trans hb1.size hb2.size))⟩
    · go_wp2
      go_ret
      exact ⟨rfl, Below.refl _ _⟩
end Go.Proofs.Qxb6600415a
