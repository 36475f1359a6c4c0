/-
  THE FIRST LAW's WALK.
-/
import Derived.Test.Qxb6600415aClone
import Derived.Test.Qxb6600415aWord
import Derived.Deep.QuietTactic
import Derived.BigQuiet
namespace Go.Proofs.Qxb6600415a
open Go.RowKit

/-! ### The plain law -/
theorem wl_peel (x y z : List UInt8) (r : List (List UInt8)) (conj : List UInt8) : wl (x :: y :: z :: r) conj = x ++ [44, 32] ++ wl (y :: z :: r) conj := by
  have e1 : ¬ (x :: y :: z :: r).length < 2 := by simp
  have e2 : ¬ (y :: z :: r).length < 2 := by simp
  rw [wl, wl, if_neg e1, if_neg e2]
  have e3 : (x :: y :: z :: r).take ((x :: y :: z :: r).length - 1) = x :: y :: (z :: r).take ((z :: r).length - 1) := by simp
  have e4 : (y :: z :: r).take ((y :: z :: r).length - 1) = y :: (z :: r).take ((z :: r).length - 1) := by simp
  have e5 : (x :: y :: z :: r).getD ((x :: y :: z :: r).length - 1) [] = (y :: z :: r).getD ((y :: z :: r).length - 1) [] := by simp
  rw [e3, e4, e5]
  show (Lib.join (x :: y :: _) [44, 32] ++ _ ++ _ ++ _) ++ _ = _ ++ ((Lib.join (y :: _) [44, 32] ++ _ ++ _ ++ _) ++ _)
  rw [Lib.join_cons, Lib.join_cons]
  simp [Lib.joinTail]

theorem says_peel {ss : List ByteArray} {s g t conj : ByteArray} (h3 : 3 ≤ ss.length) (h0 : ss[0]? = some s) (hg : g.data.toList = wl (raw ss) conj.data.toList) (ht : t.data.toList = wl (raw (ss.drop 1)) conj.data.toList) :
    (g.toList == (s ++ ⟨#[44, 32]⟩ ++ t).toList) = true := by
  rw [ByteArray.toList_eq, ByteArray.toList_eq, add_bytes, add_bytes, hg, ht]
  match ss, h3, h0 with
  | x :: y :: z :: r, _, h0 =>
    simp only [List.getElem?_cons_zero, Option.some.injEq] at h0
    subst h0
    have := wl_peel x.data.toList y.data.toList z.data.toList (raw r) conj.data.toList
    simp only [raw, List.map_cons, List.drop_succ_cons, List.drop_zero] at this ⊢
    rw [this]
    simp
theorem says_none {ss : List ByteArray} {g conj : ByteArray} (h0 : ss.length = 0) (hg : g.data.toList = wl (raw ss) conj.data.toList) : g.toList.isEmpty = true := by
  have e : ss = [] := List.length_eq_zero_iff.1 h0
  subst e
  rw [ByteArray.toList_eq, hg]
  rfl
theorem says_one {ss : List ByteArray} {s g conj : ByteArray} (h1 : ss.length = 1) (h0 : ss[0]? = some s) (hg : g.data.toList = wl (raw ss) conj.data.toList) : (g.toList == s.toList) = true := by
  match ss, h1, h0 with
  | [x], _, h0 =>
    simp only [List.getElem?_cons_zero, Option.some.injEq] at h0
    subst h0
    rw [ByteArray.toList_eq, ByteArray.toList_eq, hg]
    simp [wl, raw]
theorem says_two {ss : List ByteArray} {s s' g conj : ByteArray} (h1 : ss.length = 2) (h0 : ss[0]? = some s) (h2 : ss[1]? = some s') (hg : g.data.toList = wl (raw ss) conj.data.toList) :
    (g.toList == (s ++ ⟨#[32]⟩ ++ conj ++ ⟨#[32]⟩ ++ s').toList) = true := by
  match ss, h1, h0, h2 with
  | [x, y], _, h0, h2 =>
    simp only [List.getElem?_cons_zero, List.getElem?_cons_succ, Option.some.injEq] at h0 h2
    subst h0 h2
    rw [ByteArray.toList_eq, ByteArray.toList_eq, hg, add_bytes, add_bytes, add_bytes, add_bytes]
    simp [wl, raw, List.intercalate]

theorem IsStrs.dropped {w : World} {b o len cap : Nat} {ss : List ByteArray} (h : IsStrs w (some ⟨b, o, none⟩) len cap ss) (_hn : 1 < len) : IsStrs w (some ⟨b, o + 1, none⟩) (len - 1) (cap - 1) (ss.drop 1) := by
  obtain ⟨h1, h2, h3, h4, h5⟩ := h
  refine ⟨by simp; omega, by omega, by omega, fun s hs => h4 s (List.mem_of_mem_drop hs), ?_⟩
  rcases h5 with h5 | ⟨b', o', he, hbb, h5⟩
  · omega
  · cases he
    refine .inr ⟨b, o + 1, rfl, hbb, fun j x hj => ?_⟩
    rw [List.getElem?_drop] at hj
    have := h5 (1 + j) x hj
    rwa [show o + 1 + j = o + (1 + j) by omega]
theorem total_drop (ss : List ByteArray) : total (ss.drop 1) ≤ total ss := by
  cases ss with
  | nil => simp
  | cons x l => simp only [total, List.drop_succ_cons, List.drop_zero, List.map_cons, List.sum_cons]; omega

/-! ### The walk -/
theorem ret_bool {a b : Bool} (h : a = b) : Ending.returned (.bool a) = .returned (.bool b) := by rw [h]

set_option maxHeartbeats 1000000 in
theorem peels_any (a : Option Addr) (len cap : Nat) (ss : List ByteArray) (conj : ByteArray) (w : World) (h : IsStrs w a len cap ss) (hs : conj.size ≤ maxLen) :
    Calls Try.prog 4 #[.slice a len cap, .string conj] w fun e w' => e = .returned (.bool true) ∧ Below w.heap.size w w' := by
  have hcap : len ≤ cap := h.2.1
  have hcap2 : cap ≤ 9223372036854775807 := h.2.2.1
  have hs2 : conj.size ≤ 9223372036854775807 := hs
  go_enter Try.func4, Try.ntmps4
  go_wp2_with fail
  refine (bytes12_any a len cap ss conj w h hs).mono ?_
  rintro e w' ⟨⟨r, rfl, hr⟩, rfl⟩
  cases r with
  | false =>
    go_wp2
    go_ret
    exact ⟨rfl, Below.refl _ _⟩
  | true =>
    replace hr := hr rfl
    have hbig : ∀ s ∈ ss, s.size ≤ 1048576 := fun s hm => by have := le_total hm; omega
    have hcj : conj.size ≤ 1048576 := by omega
    by_cases hl : len ≤ 65536
    · go_wp2_with fail
      refine (bytesOK_any a len cap ss conj.size _ h hs hbig).mono ?_
      rintro e w' ⟨⟨r, rfl, hr2⟩, rfl⟩
      cases r with
      | false =>
        go_wp2
        go_ret
        exact ⟨rfl, Below.refl _ _⟩
      | true =>
        replace hr2 := hr2 rfl
        go_wp2_with fail
        refine (clone_any a len cap ss _ h hl).mono ?_
        rintro e w1 ⟨a', rfl, h1, hb1⟩
        go_wp2_with fail
        refine (zzword_any a' len len ss conj _ h1 hl (by omega) hcj).mono ?_
        rintro e w2 ⟨he, hb2⟩
        obtain ⟨g, rfl, hgs, HG⟩ := he.opened
        by_cases l0 : len = 0
        · subst l0
          go_wp2
          go_ret
          exact ⟨ret_bool (says_none h.1 HG.out), hb1.trans (hb2.mono hb1.size)⟩
        · by_cases l1 : len = 1
          · subst l1
            obtain ⟨b', o', s0, rfl, hz0, hg0, hc0, hb0⟩ := h1.at 0 (by omega)
            have hd0 := (hb2.cell (p := ⟨b', o' + 0, none⟩) hb0).trans hc0
            simp only [Nat.add_zero] at hd0
            have H0 : Hid (ss[0]? = some s0) := hg0
            clear hg0
            go_wp2
            go_ret
            exact ⟨ret_bool (says_one h.1 H0.out HG.out), hb1.trans (hb2.mono hb1.size)⟩
          · by_cases l2 : len = 2
            · subst l2
              obtain ⟨b', o', s0, rfl, hz0, hg0, hc0, hb0⟩ := h1.at 0 (by omega)
              obtain ⟨b'', o'', s1, he, hz1, hg1, hc1, _⟩ := h1.at 1 (by omega)
              cases he
              have hd0 := (hb2.cell (p := ⟨b', o' + 0, none⟩) hb0).trans hc0
              simp only [Nat.add_zero] at hd0
              have hd1 := (hb2.cell (p := ⟨b', o' + 1, none⟩) hb0).trans hc1
              have hs0 := hbig s0 (List.mem_of_getElem? hg0)
              have hs1 := hbig s1 (List.mem_of_getElem? hg1)
              have H0 : Hid (ss[0]? = some s0) := hg0
              have H1 : Hid (ss[1]? = some s1) := hg1
              clear hg0 hg1 hc0 hc1
              have k1 : ¬ 9223372036854775807 < s0.size + 1 := by omega
              have k2 : ¬ 9223372036854775807 < s0.size + 1 + conj.size := by omega
              have k3 : ¬ 9223372036854775807 < s0.size + 1 + conj.size + 1 := by omega
              have k4 : ¬ 9223372036854775807 < s0.size + 1 + conj.size + 1 + s1.size := by omega
              go_wp2
              go_quiet (fail)
              go_wp2
              go_ret
              exact ⟨ret_bool (says_two h.1 H0.out H1.out HG.out), below_drewN (hb1.trans (hb2.mono hb1.size)) _⟩
            · obtain ⟨b', o', s0, rfl, hz0, hg0, hc0, hb0⟩ := h1.at 0 (by omega)
              have hd0 := (hb2.cell (p := ⟨b', o' + 0, none⟩) hb0).trans hc0
              simp only [Nat.add_zero] at hd0
              have hs0 := hbig s0 (List.mem_of_getElem? hg0)
              have H0 : Hid (ss[0]? = some s0) := hg0
              clear hg0 hc0
              have H1 : Hid (ss.length = len) := h.1
              have hds := h1.dropped (by omega)
              have hj : ∀ W, Below w2.heap.size w2 W → Calls Try.prog 10 #[.slice (some ⟨b', o' + 1, none⟩) (len - 1) (len - 1), .string conj] W fun e w' => Gives (wl (raw (ss.drop 1)) conj.data.toList) e ∧ Below W.heap.size W w' := fun W hW =>
                zzword_any _ (len - 1) (len - 1) (ss.drop 1) conj W ((hds.later hb2).later hW) (by omega) (by have := total_drop ss; omega) hcj
              have hjl : (wl (raw (ss.drop 1)) conj.data.toList).length ≤ 4194304 := wl_bound _ _ (by have := H1.out; simp; omega) (by have := total_drop ss; omega) (by rw [size_eq]; exact hcj)
              have i1 : (3 : Int) ≤ (len : Int) := by omega
              have i2 : (1 : Int) ≤ (len : Int) := by omega
              have i3 : (0 : Int) < (len : Int) := by omega
              have i4 : 0 < len := by omega
              clear h1 hds l0 l2
              go_wp2
              have k1 : ¬ 9223372036854775807 < s0.size + 2 := by omega
              go_region_held3 (fun w' => w'.cell? ⟨b', o', none⟩ = some (.string s0)) (go_keep) ((go_at_call 10; refine (hj _ ?_).mono ?_; exact (Below.refl _ _).drew; rintro e w3 ⟨he, hw⟩; obtain ⟨j, rfl, hjs, HJ⟩ := he.opened; replace hjs := Nat.le_trans hjs hjl; have hc2 := (hw.cell (p := ⟨b', o', none⟩) (Nat.lt_of_lt_of_le hb0 hb2.size)).trans hd0; have k2 : ¬ 9223372036854775807 < s0.size + 2 + j.size := (by omega)))
              go_wp2
              go_ret
              exact ⟨ret_bool (says_peel (by rw [H1.out]; omega) H0.out HG.out HJ.out), (hb1.trans (hb2.mono hb1.size)).drew.trans (hw.mono (Nat.le_trans hb1.size hb2.size))⟩
    · go_wp2
      go_ret
      exact ⟨rfl, Below.refl _ _⟩
end Go.Proofs.Qxb6600415a
