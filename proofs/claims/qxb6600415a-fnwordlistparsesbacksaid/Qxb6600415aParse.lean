/-
  zzParseList AT A LIST OF CLEAN WORDS: its walk.
-/
import Derived.Test.Qxb6600415aToks
namespace Go.Proofs.Qxb6600415a
open Go.RowKit

theorem raw_inj : ∀ {a b : List ByteArray}, raw a = raw b → a = b
  | [], [], _ => rfl
  | [], _ :: _, h => by simp [raw] at h
  | _ :: _, [], h => by simp [raw] at h
  | x :: a, y :: b, h => by
    simp only [raw, List.map_cons, List.cons.injEq] at h
    have e1 : x = y := by
      cases x; cases y
      simp only [ByteArray.mk.injEq]
      exact Array.toList_inj.1 h.1
    have e2 : a = b := raw_inj h.2
    rw [e1, e2]

theorem comma_size {x sk : ByteArray} (h : x.data.toList = sk.data.toList ++ [44]) : x.size = sk.size + 1 := by
  have := congrArg List.length h
  rw [List.length_append, size_eq, size_eq] at this
  simpa using this
theorem comma_last {x sk : ByteArray} (h : x.data.toList = sk.data.toList ++ [44]) (hp : x.size - 1 < x.size) : ((x[x.size - 1].toNat : Int) != 44) = false := by
  have e : x[x.size - 1] = 44 := by
    have h1 : x.data.toList[x.size - 1]? = some 44 := by
      rw [h, comma_size h, Nat.add_sub_cancel, ← size_eq sk]
      simp
    have h2 : x.data.toList[x.size - 1]? = some x[x.size - 1] := by
      rw [List.getElem?_eq_getElem (by rw [size_eq]; exact hp)]
      rfl
    rw [h2] at h1
    exact Option.some.inj h1
  rw [e]
  rfl
theorem comma_cut {x sk : ByteArray} (h : x.data.toList = sk.data.toList ++ [44]) : x.extract 0 (x.size - 1) = sk := by
  have e : (x.extract 0 (x.size - 1)).data.toList = sk.data.toList := by
    rw [extract_list, h, comma_size h, Nat.add_sub_cancel, ← size_eq sk]
    simp
  generalize x.extract 0 (x.size - 1) = y at e
  cases y
  cases sk
  simp only [ByteArray.mk.injEq]
  exact Array.toList_inj.1 e
theorem take_string {ss : List ByteArray} {k : Nat} {sk : ByteArray} (h : ss[k]? = some sk) : (ss.take (k + 1)).map Value.string = (ss.take k).map Value.string ++ [Value.string sk] := by
  rw [List.take_add_one, h]
  simp

/-- It hands back the words, and true. -/
def Parsed (w w' : World) (ss : List ByteArray) (e : Ending) : Prop := ∃ a cap, e = .returned (.tuple #[.slice a ss.length cap, .bool true]) ∧ IsStrs w' a ss.length cap ss ∧ Below w.heap.size w w'

set_option maxHeartbeats 400000 in
theorem parse_none (s conj : ByteArray) (w : World) (hs : s.toList.isEmpty = true) : Calls Try.prog 15 #[.string s, .string conj] w fun e w' => Parsed w w' [] e := by
  go_enter Try.func15, Try.ntmps15
  go_wp2
  go_ret2
  exact ⟨_, _, rfl, ⟨rfl, Nat.le_refl _, Nat.zero_le _, (fun s hs => absurd hs List.not_mem_nil), Or.inl rfl⟩, (Below.refl _ _).alloc (Nat.le_refl _) _⟩

set_option maxHeartbeats 400000 in
theorem parse_one (s conj x : ByteArray) (w : World) (hs : s.toList.isEmpty = false) (hz : s.size ≤ 4194304) (hx : spl [] s.data.toList = [x.data.toList]) : Calls Try.prog 15 #[.string s, .string conj] w fun e w' => Parsed w w' [x] e := by
  go_enter Try.func15, Try.ntmps15
  go_wp2_with fail
  refine (split_any s w hz).mono ?_
  rintro e w1 ⟨a, n, cap, T, rfl, hS, hT, hsm, hn, hb⟩
  obtain rfl : T = [x] := raw_inj (by rw [hT, hx]; rfl)
  obtain rfl : n = 1 := hS.1.symm
  clear hT hx
  go_wp2
  go_ret2
  exact ⟨_, _, rfl, hS, hb⟩

set_option maxHeartbeats 1000000 in
theorem parse_many (s conj : ByteArray) (ss : List ByteArray) (m : Nat) (w : World) (hs : s.toList.isEmpty = false) (hz : s.size ≤ 4194304) (hm : ss.length = m + 2) (hb : m ≤ 65536) (hws : ∀ x ∈ ss, x.size ≤ maxLen)
    (hx : spl [] s.data.toList = commas ((raw ss).take (m + 1)) ++ [conj.data.toList, (raw ss).getD (m + 1) []]) : Calls Try.prog 15 #[.string s, .string conj] w fun e w' => Parsed w w' ss e := by
  obtain ⟨i0, hi, hz0, hz1, hz2⟩ := info_parts Try.info9'
  have HM : Hid (ss.length = m + 2) := hm
  clear hm
  go_enter Try.func15, Try.ntmps15
  go_wp2_with fail
  refine (split_any s w hz).mono ?_
  rintro e w1 ⟨a, n, cap, T, rfl, hS, hT, hsm, hn, hbl1⟩
  obtain ⟨t0, t1, t2, t3, t4⟩ := toks_at HM.out (hT.trans hx)
  obtain rfl : n = m + 3 := by rw [← hS.1, t0]
  clear hT hx
  have hcap : m + 3 ≤ cap := hS.2.1
  have hcap2 : cap ≤ 9223372036854775807 := hS.2.2.1
  obtain ⟨b, o, xc, rfl, _, hg, hc1, hbb⟩ := hS.at (m + 1) (by omega)
  obtain rfl : conj = xc := by rw [t3] at hg; exact Option.some.inj hg
  obtain ⟨b', o', xm, he, _, hgm, hc0, _⟩ := hS.at m (by omega)
  cases he
  obtain ⟨b', o', xl, he, _, hgl, hc2, _⟩ := hS.at (m + 2) (by omega)
  cases he
  clear t3 hg
  have HS : Hid (IsStrs w1 (some ⟨b, o, none⟩) (m + 3) cap T) := hS
  have HT1 : Hid (∀ i s x, i < m → ss[i]? = some s → T[i]? = some x → x.data.toList = s.data.toList ++ [44]) := t1
  have HTM : Hid (ss[m]? = some xm) := by rw [← t2]; exact hgm
  have HTL : Hid (ss[m + 1]? = some xl) := by rw [← t4]; exact hgl
  clear hS t0 t1 t2 t4 hgm hgl
  go_wp2_with (at_make; refine wpList_make_own _ rfl _ _ 22 rfl w1.heap.size 9 i0 (.string ByteArray.empty) 1 Try.underlying22 hi hz0 hz1 .i64 .i64 _ (m + 2) rfl rfl (by omega) (by rw [hz2]; omega) (by unfold maxLen; omega) (Nat.le_refl _) ?_; intro w2 hown2 hgrow2)
  have hbl2 : Below w1.heap.size w1 w2 := (Below.refl _ _).grown hgrow2 (Nat.le_refl _) (fun g hg => by cases hg)
  go_loopw [7, 8] (fun v i wr => ∃ k : Nat, k ≤ m ∧ i = .int .i64 k ∧ HasS w1.heap.size wr v (ss.take k) ∧ Below w1.heap.size w1 wr) (fun _ i _ => m - (intOf i).toNat)
  case atStart => exact ⟨0, by omega, rfl, hasS_of hown2 (by simp), hbl2⟩
  case round =>
    obtain ⟨k, hk, rfl, hown, hbl⟩ := hrel
    have hsz := hbl.size
    unfold HasS at hown
    by_cases hlt : k < m
    · obtain ⟨b', o', x, he, _, hg, hc, _⟩ := HS.out.at k (by omega)
      cases he
      have hx1 := hsm x (List.mem_of_getElem? hg)
      obtain ⟨sk, hgs⟩ : ∃ sk, ss[k]? = some sk := ⟨_, List.getElem?_eq_getElem (by have := HM.out; omega)⟩
      have hxe := HT1.out k _ x hlt hgs hg
      have HK : Hid (ss[k]? = some sk) := hgs
      have hd := (hbl.cell (p := ⟨b, o + k, none⟩) hbb).trans hc
      clear hgs hg hc
      have HX : Hid (x.data.toList = sk.data.toList ++ [44]) := hxe
      clear hxe
      have hx2 : (1 : Int) ≤ (x.size : Int) := by have := comma_size HX.out; omega
      have hx3 : ¬ x = ByteArray.empty := by intro e; rw [e] at hx2; simp at hx2
      have hx4 : ((x.size : Int) == 0) = false := by simp; omega
      have hp : x.size - 1 < x.size := by omega
      have hx5 := comma_last HX.out hp
      have hln : (ss.take k).length ≤ 65536 := by rw [List.length_take]; omega
      go_wp2_with (at_builtin; refine wpList_append_own _ rfl (.tmp 58) (.tmp 64) 22 rfl w1.heap.size 9 i0 (.string ByteArray.empty) 1 16 Try.underlying22 hi hz0 hz1 hz2 rfl (by decide) _ _ _ rfl (hown.alloc _) ⟨wr.heap.size, 0, none⟩ 1 1 [.string (x.extract 0 (x.size - 1))] rfl rfl (one_string _ _ _) (by simp [Value.oneCell']) (by unfold maxLen; omega) (by omega) (by simp; omega) ?_; intro v' w3 hown3 hgrow3 _)
      go_roundw
      case rel => exact ⟨k + 1, by omega, by go_num, hasS_of hown3 (by rw [comma_cut HX.out, take_string HK.out]), (hbl.alloc hsz _).grown hgrow3 (by simp; omega) (fun g hg => (hown.lt g hg).1)⟩
      case measure => simp [intOf]; omega
    · have hkm : k = m := by omega
      subst hkm
      have hd0 := (hbl.cell (p := ⟨b, o + k, none⟩) hbb).trans hc0
      have hln : (ss.take k).length ≤ 65536 := by rw [List.length_take]; omega
      go_wp2_with (first | (at_builtin; refine wpList_append_own _ rfl (.tmp 66) (.tmp 73) 22 rfl w1.heap.size 9 i0 (.string ByteArray.empty) 1 16 Try.underlying22 hi hz0 hz1 hz2 rfl (by decide) _ _ _ rfl (hown.alloc _) ⟨wr.heap.size, 0, none⟩ 1 1 [.string xm] rfl rfl (one_string _ _ _) (by simp [Value.oneCell']) (by unfold maxLen; omega) (by omega) (by simp; omega) ?_; intro v3 w3 hown3 hgrow3 _; have hbl3 := (hbl.alloc hsz _).grown hgrow3 (by simp; omega) (fun g hg => (hown.lt g hg).1); have hsz3 := hbl3.size; have hd2 := (hbl3.cell (p := ⟨b, o + (k + 2), none⟩) hbb).trans hc2) | (at_builtin; refine wpList_append_own _ rfl (.tmp 75) (.tmp 82) 22 rfl w1.heap.size 9 i0 (.string ByteArray.empty) 1 16 Try.underlying22 hi hz0 hz1 hz2 rfl (by decide) _ _ _ rfl (hown3.alloc _) ⟨w3.heap.size, 0, none⟩ 1 1 [.string xl] rfl rfl (one_string _ _ _) (by simp [Value.oneCell']) (by unfold maxLen; omega) (by omega) (by simp; omega) ?_; intro v4 w4 hown4 hgrow4 _; have hbl4 := (hbl3.alloc hsz3 _).grown hgrow4 (by simp; omega) (fun g hg => (hown3.lt g hg).1)))
      have hall : (ss.take k).map Value.string ++ [Value.string xm] ++ [Value.string xl] = ss.map Value.string := by
        rw [← take_string HTM.out, ← take_string HTL.out, List.take_of_length_le (by have := HM.out; omega)]
      obtain ⟨a, cp, rfl, hS4⟩ := (hasS_of (T := ss) hown4 hall).strs hws
      go_ret2
      exact ⟨a, cp, rfl, hS4, hbl1.trans (hbl4.mono hbl1.size)⟩
end Go.Proofs.Qxb6600415a
