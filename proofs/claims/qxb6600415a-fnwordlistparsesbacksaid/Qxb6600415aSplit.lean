/-
  THE CUT AT EVERY BLANK: the plain function; the walk of zzSplitSpaces.
-/
import Derived.Test.Qxb6600415aWord
namespace Go.Proofs.Qxb6600415a
open Go.RowKit

/-- The tokens of what is left, 'cur' being the token under way. -/
def spl (cur : List UInt8) : List UInt8 → List (List UInt8)
  | [] => [cur]
  | c :: r => if c = 32 then cur :: spl [] r else spl (cur ++ [c]) r

theorem Try.info9' : (Try.prog.info? 9).map (fun i => (i.zero, i.size, i.bytes)) = some (some (.string ByteArray.empty), 1, 16) := by kernel_rfl

/-- The strings gathered so far, owned by v. -/
def HasS (B : Nat) (w : World) (v : Value) (T : List ByteArray) : Prop := w.ownsRow B 9 1 v T.length (T.map Value.string)

theorem hasS_of {B n : Nat} {w : World} {v : Value} {xs : List Value} {T : List ByteArray} (h : w.ownsRow B 9 1 v n xs) (hx : xs = T.map Value.string) : HasS B w v T := by
  have h1 : xs.length = n * 1 := h.1
  have e : T.length = n := by rw [hx] at h1; simpa using h1
  subst hx
  rw [← e] at h
  exact h

theorem HasS.strs {B : Nat} {w : World} {v : Value} {T : List ByteArray} (h : HasS B w v T) (hz : ∀ s ∈ T, s.size ≤ maxLen) : ∃ a cap, v = .slice a T.length cap ∧ IsStrs w a T.length cap T := by
  rcases h with ⟨hlen, ⟨rfl, h0⟩ | ⟨g, cap, cur, rfl, hb, hg, hn, hm, hcs, htk⟩⟩
  · exact ⟨none, 0, by rw [h0], rfl, by omega, Nat.zero_le _, hz, .inl h0⟩
  · have hown : w.ownsRow B 9 1 (.slice (some ⟨g, 0, none⟩) T.length cap) T.length (T.map Value.string) := ⟨hlen, .inr ⟨g, cap, cur, rfl, hb, hg, hn, hm, hcs, htk⟩⟩
    refine ⟨some ⟨g, 0, none⟩, cap, rfl, rfl, hn, hm, hz, .inr ⟨g, 0, rfl, (hown.lt g rfl).2, fun j x hj => ?_⟩⟩
    have h1 := hown.cells (g := g) rfl j (.string x) (by simp [hj])
    have h2 : (⟨g, 0, none⟩ : Addr).add j = ⟨g, 0 + j, none⟩ := by unfold Addr.add; split <;> simp_all
    rwa [h2] at h1

/-- The loop's state: k bytes are read, the token under way begins at 'st', T are the tokens before it. -/
structure Cut (s : ByteArray) (k st : Nat) (T : List ByteArray) : Prop where
  k_le : k ≤ s.size
  st_le : st ≤ k
  few : T.length ≤ st
  small : ∀ x ∈ T, x.size ≤ s.size
  rest : raw T ++ spl ((s.data.toList.take k).drop st) (s.data.toList.drop k) = spl [] s.data.toList

theorem extract_list (s : ByteArray) (i j : Nat) : (s.extract i j).data.toList = (s.data.toList.take j).drop i := by
  rw [ByteArray.data_extract]
  simp [List.drop_take]

theorem drop_cons (s : ByteArray) (k : Nat) (hk : k < s.size) : s.data.toList.drop k = s[k] :: s.data.toList.drop (k + 1) := by
  rw [List.drop_eq_getElem_cons (by simpa using hk)]
  rfl
theorem take_snoc (s : ByteArray) (k : Nat) (h : k < s.size) : s.data.toList.take (k + 1) = s.data.toList.take k ++ [s[k]] := by
  rw [List.take_succ_eq_append_getElem (by simpa using h)]
  rfl

theorem Cut.start (s : ByteArray) : Cut s 0 0 [] := ⟨Nat.zero_le _, Nat.le_refl _, Nat.le_refl _, fun x hx => absurd hx List.not_mem_nil, by simp [raw]⟩

theorem Cut.skip {s : ByteArray} {k st : Nat} {T : List ByteArray} (h : Cut s k st T) (hk : k < s.size) (hc : ((s[k].toNat : Int) == 32) = false) : Cut s (k + 1) st T := by
  refine ⟨by omega, by have := h.st_le; omega, h.few, h.small, ?_⟩
  have hr := h.rest
  have hne : s[k] ≠ 32 := by intro e; rw [e] at hc; simp at hc
  rw [drop_cons s k hk, spl, if_neg hne] at hr
  rw [← hr, take_snoc s k hk, List.drop_append_of_le_length (by have := h.st_le; have : (s.data.toList.take k).length = k := by simp; omega
                                                                omega)]
theorem Cut.cut {s : ByteArray} {k st : Nat} {T : List ByteArray} (h : Cut s k st T) (hk : k < s.size) (hc : ((s[k].toNat : Int) == 32) = true) : Cut s (k + 1) (k + 1) (T ++ [s.extract st k]) := by
  have h1 := h.st_le
  refine ⟨by omega, Nat.le_refl _, by have := h.few; simp; omega, ?_, ?_⟩
  · intro x hx
    rcases List.mem_append.1 hx with hx | hx
    · exact h.small x hx
    · simp only [List.mem_singleton] at hx
      subst hx
      rw [ByteArray.size_extract]
      omega
  · have hr := h.rest
    have he : s[k] = 32 := by
      have h2 : (s[k].toNat : Int) = 32 := by simpa using hc
      apply UInt8.toNat_inj.1
      simp
      omega
    rw [drop_cons s k hk, spl, if_pos he] at hr
    rw [← hr]
    have e : (s.data.toList.take (k + 1)).drop (k + 1) = [] := by simp
    rw [e]
    simp only [raw, List.map_append, List.map_cons, List.map_nil, extract_list, List.append_assoc, List.cons_append, List.nil_append]
theorem Cut.done {s : ByteArray} {st : Nat} {T : List ByteArray} (h : Cut s s.size st T) : raw (T ++ [s.extract st s.size]) = spl [] s.data.toList := by
  have hr := h.rest
  have e : s.data.toList.drop s.size = [] := by rw [List.drop_eq_nil_iff, size_eq]; exact Nat.le_refl _
  rw [e, spl] at hr
  rw [← hr]
  simp only [raw, List.map_append, List.map_cons, List.map_nil, extract_list]

/-! ### The walk -/
theorem one_string (w : World) (x : Value) (t : TypeId) : ∀ (j : Nat) u, ([x] : List Value)[j]? = some u → (w.alloc (.cells #[x] t)).cell? ((⟨w.heap.size, 0, none⟩ : Addr).add j) = some u := cell_one_new _ _ _

set_option maxHeartbeats 1000000 in
theorem split_any (s : ByteArray) (w : World) (hs : s.size ≤ 4194304) :
    Calls Try.prog 20 #[.string s] w fun e w' => ∃ a n cap T, e = .returned (.slice a n cap) ∧ IsStrs w' a n cap T ∧ raw T = spl [] s.data.toList ∧ (∀ x ∈ T, x.size ≤ 4194304) ∧ n ≤ 4194305 ∧ Below w.heap.size w w' := by
  obtain ⟨i0, hi, hz0, hz1, hz2⟩ := info_parts Try.info9'
  go_enter Try.func20, Try.ntmps20
  go_wp2
  go_loopw [3, 4, 5] (fun v q i wr => ∃ (k st : Nat) (T : List ByteArray), k ≤ s.size ∧ st ≤ k ∧ i = .int .i64 k ∧ q = .int .i64 st ∧ Cut s k st T ∧ HasS w.heap.size wr v T ∧ Below w.heap.size w wr) (fun _ _ i _ => s.size - (intOf i).toNat)
  case atStart => exact ⟨0, 0, [], by omega, by omega, rfl, rfl, Cut.start s, World.ownsRow_nil _ _ _ _, Below.refl _ _⟩
  case round =>
    obtain ⟨k, st, T, hk, hst, rfl, rfl, hcut, hown, hbl⟩ := hrel
    have hsz := hbl.size
    have hfew := hcut.few
    unfold HasS at hown
    by_cases hlt : k < s.size
    · by_cases hc : ((s[k].toNat : Int) == 32) = true
      · go_wp2_with (at_builtin; refine wpList_append_own _ rfl (.tmp 16) (.tmp 21) 22 rfl w.heap.size 9 i0 (.string ByteArray.empty) 1 16 Try.underlying22 hi hz0 hz1 hz2 rfl (by decide) _ _ _ rfl (hown.alloc _) ⟨wr.heap.size, 0, none⟩ 1 1 [.string (s.extract st k)] rfl rfl (one_string _ _ _) (by simp [Value.oneCell']) (by unfold maxLen; omega) (by omega) (by simp; omega) ?_; intro v' w1 hown1 hgrow1 _)
        go_roundw
        case rel => exact ⟨k + 1, k + 1, T ++ [s.extract st k], by omega, by omega, by go_num, by go_num, hcut.cut hlt hc, hasS_of hown1 (by simp), (hbl.alloc hsz _).grown hgrow1 (by simp; omega) (fun g hg => (hown.lt g hg).1)⟩
        case measure => simp [intOf]; omega
      · have hc' : ((s[k].toNat : Int) == 32) = false := by simpa using hc
        clear hc
        go_wp2
        go_roundw
        case rel => exact ⟨k + 1, st, T, by omega, by omega, by go_num, by go_num, hcut.skip hlt hc', hown, hbl⟩
        case measure => simp [intOf]; omega
    · have hkl : k = s.size := by omega
      have hcut' : Cut s s.size st T := by rw [hkl] at hcut; exact hcut
      clear hcut
      subst hkl
      go_wp2_with (at_builtin; refine wpList_append_own _ rfl (.tmp 25) (.tmp 29) 22 rfl w.heap.size 9 i0 (.string ByteArray.empty) 1 16 Try.underlying22 hi hz0 hz1 hz2 rfl (by decide) _ _ _ rfl (hown.alloc _) ⟨wr.heap.size, 0, none⟩ 1 1 [.string (s.extract st s.size)] rfl rfl (one_string _ _ _) (by simp [Value.oneCell']) (by unfold maxLen; omega) (by omega) (by simp; omega) ?_; intro v' w1 hown1 hgrow1 _)
      have hb1 := (hbl.alloc hsz _).grown hgrow1 (by simp; omega) (fun g hg => (hown.lt g hg).1)
      have hsm : ∀ x ∈ T ++ [s.extract st s.size], x.size ≤ 4194304 := by
        intro x hx
        rcases List.mem_append.1 hx with hx | hx
        · exact Nat.le_trans (hcut'.small x hx) hs
        · simp only [List.mem_singleton] at hx
          subst hx
          rw [ByteArray.size_extract]
          omega
      obtain ⟨a, cap, rfl, hS⟩ := (hasS_of (T := T ++ [s.extract st s.size]) hown1 (by simp)).strs (fun x hx => Nat.le_trans (hsm x hx) (by unfold maxLen; omega))
      go_ret
      exact ⟨a, _, cap, _, rfl, hS, hcut'.done, hsm, by simp; omega, hb1⟩
end Go.Proofs.Qxb6600415a
