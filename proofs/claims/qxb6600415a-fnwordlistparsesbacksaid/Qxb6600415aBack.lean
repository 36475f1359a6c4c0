/-
  THE THIRD LAW: a list of clean words is read back; its walk.
-/
import Derived.Test.Qxb6600415aClone
import Derived.Test.Qxb6600415aParse
namespace Go.Proofs.Qxb6600415a
open Go.RowKit

theorem wl_ne {ws : List (List UInt8)} {conj : List UInt8} (h : ws ≠ []) (hc : ∀ x ∈ ws, Clean x) : wl ws conj ≠ [] := by
  match ws, h with
  | [x], _ =>
    have := (hc x (by simp)).1
    simpa [wl] using this
  | x :: y :: r, _ =>
    intro e
    have h2 : ¬ (x :: y :: r).length < 2 := by simp
    rw [wl, if_neg h2] at e
    simp at e

theorem parse_any (s conj : ByteArray) (ss : List ByteArray) (w : World) (hz : s.size ≤ 4194304) (hl : ss.length ≤ 65536) (hws : ∀ x ∈ ss, x.size ≤ maxLen)
    (hs : s.data.toList = wl (raw ss) conj.data.toList) (hcl : ∀ x ∈ ss, Clean x.data.toList) (hcj : Clean conj.data.toList) : Calls Try.prog 15 #[.string s, .string conj] w fun e w' => Parsed w w' ss e := by
  have hcl' : ∀ x ∈ raw ss, Clean x := by
    intro x hx
    obtain ⟨y, hy, rfl⟩ := List.mem_map.1 hx
    exact hcl y hy
  match ss, hl, hws, hs, hcl, hcl' with
  | [], _, _, hs, _, _ =>
    exact parse_none s conj w (by rw [ByteArray.toList_eq, hs]; rfl)
  | [x], _, _, hs, hcl, _ =>
    have e : s.data.toList = x.data.toList := by rw [hs]; simp [wl, raw]
    have hx := hcl x (by simp)
    refine parse_one s conj x w ?_ hz ?_
    · rw [ByteArray.toList_eq, e]
      cases h : x.data.toList with
      | nil => exact absurd h hx.1
      | cons _ _ => rfl
    · rw [e, spl_free _ _ hx.free]
      simp
  | x :: y :: r, hl, hws, hs, hcl, hcl' =>
    refine parse_many s conj (x :: y :: r) r.length w ?_ hz rfl (by simp at hl; omega) hws ?_
    · rw [ByteArray.toList_eq, hs]
      have := wl_ne (conj := conj.data.toList) (show raw (x :: y :: r) ≠ [] by simp [raw]) hcl'
      cases h : wl (raw (x :: y :: r)) conj.data.toList with
      | nil => exact absurd h this
      | cons _ _ => rfl
    · rw [hs]
      exact spl_wl _ _ r.length (by simp [raw]) (fun z hz => (hcl' z hz).free) hcj.free

set_option maxHeartbeats 1000000 in
theorem back_any (a : Option Addr) (len cap : Nat) (ss : List ByteArray) (conj : ByteArray) (w : World) (h : IsStrs w a len cap ss) (hs : conj.size ≤ maxLen) :
    Calls Try.prog 5 #[.slice a len cap, .string conj] w fun e w' => e = .returned (.bool true) ∧ Below w.heap.size w w' := by
  have hcap : len ≤ cap := h.2.1
  have hcap2 : cap ≤ 9223372036854775807 := h.2.2.1
  have hs2 : conj.size ≤ 9223372036854775807 := hs
  go_enter Try.func5, Try.ntmps5
  go_wp2_with fail
  refine (bytes13_any a len cap ss conj w h hs).mono ?_
  rintro e w' ⟨⟨r, rfl, hr⟩, rfl⟩
  cases r with
  | false =>
    go_wp2
    go_ret
    exact ⟨rfl, Below.refl _ _⟩
  | true =>
    replace hr := hr rfl
    have hbig : ∀ s ∈ ss, s.size ≤ 1048576 := fun s hm => by have := le_total hm; omega
    have hcj : conj.size ≤ 1048576 := by omega
    by_cases hl : len ≤ 65536
    · go_wp2_with fail
      refine (bytesOK_any a len cap ss conj.size _ h hs hbig).mono ?_
      rintro e w' ⟨⟨r, rfl, hr2⟩, rfl⟩
      cases r with
      | false =>
        go_wp2
        go_ret
        exact ⟨rfl, Below.refl _ _⟩
      | true =>
        replace hr2 := hr2 rfl
        go_wp2_with fail
        refine (clean_any conj _ hcj).mono ?_
        rintro e w' ⟨⟨r, rfl, hr3⟩, rfl⟩
        cases r with
        | false =>
          go_wp2
          go_ret
          exact ⟨rfl, Below.refl _ _⟩
        | true =>
          replace hr3 := hr3 rfl
          have HC : Hid (Clean conj.data.toList) := hr3
          clear hr3
          go_wp2
          go_loop [5] (fun i => ∃ k : Nat, k ≤ len ∧ i = .int .i64 k ∧ ∀ x ∈ ss.take k, Clean x.data.toList) (fun i => len - (intOf i).toNat)
          case atStart => exact ⟨0, by omega, rfl, fun x hx => by simp at hx⟩
          case round =>
            obtain ⟨k, hk, rfl, hcl⟩ := hrel
            have HK : Hid (∀ x ∈ ss.take k, Clean x.data.toList) := hcl
            clear hcl
            by_cases hlt : k < len
            · obtain ⟨b, o, s, rfl, _, hg, hc, hbb⟩ := h.at k hlt
              have hss := hbig s (List.mem_of_getElem? hg)
              have HG : Hid (ss[k]? = some s) := hg
              clear hg
              go_wp2_with fail
              refine (clean_any s _ hss).mono ?_
              rintro e w' ⟨⟨r, rfl, hr4⟩, rfl⟩
              cases r with
              | false =>
                go_wp2
                go_ret
                exact ⟨rfl, Below.refl _ _⟩
              | true =>
                replace hr4 := hr4 rfl
                have HR : Hid (Clean s.data.toList) := hr4
                clear hr4
                go_wp2
                go_round
                case rel => exact ⟨k + 1, by omega, by go_num, fun x hx => by
                    rw [List.take_add_one, HG.out] at hx
                    rcases List.mem_append.1 hx with hx | hx
                    · exact HK.out x hx
                    · simp at hx; subst hx; exact HR.out⟩
                case measure => simp [intOf]; omega
            · have hcl : ∀ x ∈ ss, Clean x.data.toList := by
                have := HK.out
                rwa [List.take_of_length_le (by have := h.1; omega)] at this
              have HCL : Hid (∀ x ∈ ss, Clean x.data.toList) := hcl
              clear hcl
              go_wp2_with fail
              refine (clone_any a len cap ss _ h hl).mono ?_
              rintro e w1 ⟨a', rfl, h1, hb1⟩
              go_wp2_with fail
              refine (zzword_any a' len len ss conj _ h1 hl (by omega) hcj).mono ?_
              rintro e w2 ⟨he, hb2⟩
              obtain ⟨g, rfl, hgs, HG⟩ := he.opened
              have hgz : g.size ≤ 4194304 := Nat.le_trans hgs (wl_bound ss _ (by have := h.1; omega) (by omega) (by rw [size_eq]; exact hcj))
              go_wp2_with fail
              refine (parse_any g conj ss _ hgz (by have := h.1; omega) h.2.2.2.1 HG.out HCL.out HC.out).mono ?_
              rintro e w3 ⟨a'', cp, rfl, h3, hb3⟩
              go_wp2_with fail
              have hlen : ss.length = len := h.1
              rw [hlen] at h3 ⊢
              refine (same_any a'' a' len cp len ss _ h3 ((h1.later hb2).later hb3)).mono ?_
              rintro e w4 ⟨rfl, hb4⟩
              go_wp2
              go_ret
              exact ⟨rfl, ((hb1.trans (hb2.mono hb1.size)).trans (hb3.mono (Nat.le_trans hb1.size hb2.size))).trans (hb4.mono (Nat.le_trans (Nat.le_trans hb1.size hb2.size) hb3.size))⟩
    · go_wp2
      go_ret
      exact ⟨rfl, Below.refl _ _⟩
end Go.Proofs.Qxb6600415a
