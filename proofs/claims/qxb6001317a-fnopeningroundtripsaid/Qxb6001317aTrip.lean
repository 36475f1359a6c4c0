/-
  'the opening is read back': the walk.
-/
import Derived.Test.Qxb6001317aFix
namespace Go.Proofs.Qxb6001317a
open Go.RowKit

theorem add_list_t (a b : ByteArray) : (a ++ b).data.toList = a.data.toList ++ b.data.toList := by simp
theorem cut_list_t (s : ByteArray) (i j : Nat) : (s.extract i j).data.toList = (s.data.toList.drop i).take (j - i) := by
  rw [ByteArray.data_extract, Array.toList_extract, List.extract_eq_take_drop]
theorem beq_of_t {a b : ByteArray} (h : a.data.toList = b.data.toList) : (a.toList == b.toList) = true := by
  rw [ByteArray.toList_eq, ByteArray.toList_eq, h]
  simp
theorem list_size {s : ByteArray} {l : List UInt8} (h : s.data.toList = l) : s.size = l.length := by rw [← h, len_eq]
theorem list_ext {a b : ByteArray} (h : a.data.toList = b.data.toList) : a = b := by
  cases a; cases b
  simp only [ByteArray.mk.injEq]
  exact Array.toList_inj.1 h

/-- The three texts. -/
def beg : List UInt8 := [66, 69, 71, 73, 78]
def ro : List UInt8 := [32, 82, 69, 65, 68, 32, 79, 78, 76, 89]
def rwt : List UInt8 := [32, 82, 69, 65, 68, 32, 87, 82, 73, 84, 69]

/-- What ends in q has q for its suffix. -/
theorem ends_yes {s p : ByteArray} {l : List UInt8} (h : s.data.toList = l ++ p.data.toList) : atB s p (s.size - p.size) = true := by
  unfold atB
  have h1 := list_size h
  rw [List.length_append, len_eq] at h1
  rw [decide_eq_true_eq, h, h1, Nat.add_sub_cancel, List.drop_left, List.take_of_length_le (by rw [len_eq]; exact Nat.le_refl _)]
/-- The suffixes of equal texts. -/
theorem ends_congr {s s' p : ByteArray} (h : s.data.toList = s'.data.toList) : atB s p (s.size - p.size) = atB s' p (s'.size - p.size) := by rw [list_ext h]
/-- What ends in another byte has not p for its suffix. -/
theorem ends_no {s p : ByteArray} {l : List UInt8} {x y : UInt8} {r : List UInt8} (h : s.data.toList = l ++ [x]) (hp : p.data.toList = r ++ [y]) (hxy : x ≠ y) : atB s p (s.size - p.size) = false := by
  unfold atB
  rw [decide_eq_false_iff_not]
  intro e
  have e2 := congrArg List.getLast? e
  rw [hp] at e2
  have h1 := list_size h
  have h2 := list_size hp
  rw [List.length_append, List.length_singleton] at h1 h2
  have h3 : (List.take p.size (List.drop (s.size - p.size) s.data.toList)).getLast? = some x := by
    rw [List.take_of_length_le (by rw [List.length_drop, len_eq]; omega), h, List.drop_append_of_le_length (by omega)]
    simp
  rw [h3] at e2
  simp at e2
  exact hxy e2
theorem begins_yes {s p : ByteArray} {l : List UInt8} (h : s.data.toList = p.data.toList ++ l) : atB s p 0 = true := by
  unfold atB
  rw [decide_eq_true_eq, h, List.drop_zero, ← len_eq p, List.take_left]
theorem rest_of {s : ByteArray} {l : List UInt8} (h : s.data.toList = beg ++ l) : (s.extract 5 s.size).data.toList = l := by
  have h1 := list_size h
  have h2 : beg.length = 5 := rfl
  rw [List.length_append] at h1
  rw [cut_list_t, h, ← h2, List.drop_left, List.take_of_length_le (by omega)]

/-- It hands back g, the mode, and true. -/
def Read (w w' : World) (iso : ByteArray) (md : Int) (e : Ending) : Prop := ∃ g : ByteArray, e = .returned (.tuple #[.string g, .int .i64 md, .bool true]) ∧ Hid (g.data.toList = iso.data.toList) ∧ ∃ n, w' = w.drewN n

theorem ro_size : (⟨#[32, 82, 69, 65, 68, 32, 79, 78, 76, 89]⟩ : ByteArray).size = 10 := rfl
theorem rw_size : (⟨#[32, 82, 69, 65, 68, 32, 87, 82, 73, 84, 69]⟩ : ByteArray).size = 11 := rfl

/-- The head of a text that ends in q. -/
theorem cut_end {R iso : ByteArray} {q : List UInt8} {c : Nat} (h : R.data.toList = iso.data.toList ++ q) (hq : q.length = c) : (R.extract 0 (R.size - c)).data.toList = iso.data.toList := by
  have h1 := list_size h
  rw [List.length_append, hq] at h1
  rw [cut_list_t, h, h1, Nat.add_sub_cancel, List.drop_zero, Nat.sub_zero, List.take_left]

set_option maxHeartbeats 400000 in
theorem parse_ro (s iso : ByteArray) (w : World) (hz : s.size ≤ 4194304) (h : s.data.toList = beg ++ (iso.data.toList ++ ro)) : Calls Try.prog 10 #[.string s] w fun e w' => Read w w' iso 1 e := by
  have hs := list_size h
  have hr := rest_of h
  have hb : atB s ⟨#[66, 69, 71, 73, 78]⟩ 0 = true := begins_yes h
  have h5 : (5 : Int) ≤ (s.size : Int) := by rw [hs, List.length_append]; have : beg.length = 5 := rfl; omega
  have HR : Hid ((s.extract 5 s.size).data.toList = iso.data.toList ++ ro) := hr
  have hRz : (s.extract 5 s.size).size ≤ 4194304 := by rw [ByteArray.size_extract]; omega
  clear hs hr h
  have hP := fun W => prefix_any s ⟨#[66, 69, 71, 73, 78]⟩ W hz (by decide) (by decide)
  rw [hb] at hP
  clear hb
  go_enter Try.func10, Try.ntmps10
  go_wp2_with fail
  refine (hP _).mono ?_
  rintro e w' ⟨rfl, n, rfl⟩
  clear hP
  go_wp2_with fail
  generalize s.extract 5 s.size = R at HR hRz ⊢
  refine (suffix_any R _ _ hRz (by decide) (by decide)).mono ?_
  rintro e w' ⟨rfl, n', rfl⟩
  rw [ends_yes (p := ⟨#[32, 82, 69, 65, 68, 32, 79, 78, 76, 89]⟩) HR.out]
  have h10 : (10 : Int) ≤ (R.size : Int) := by have := list_size HR.out; rw [List.length_append] at this; have : ro.length = 10 := rfl; omega
  go_wp2
  go_ret3
  exact ⟨_, rfl, cut_end HR.out rfl, _, rfl⟩

set_option maxHeartbeats 400000 in
theorem parse_rw (s iso : ByteArray) (w : World) (hz : s.size ≤ 4194304) (h : s.data.toList = beg ++ (iso.data.toList ++ rwt)) : Calls Try.prog 10 #[.string s] w fun e w' => Read w w' iso 2 e := by
  have hs := list_size h
  have hr := rest_of h
  have hb : atB s ⟨#[66, 69, 71, 73, 78]⟩ 0 = true := begins_yes h
  have h5 : (5 : Int) ≤ (s.size : Int) := by rw [hs, List.length_append]; have : beg.length = 5 := rfl; omega
  have HR : Hid ((s.extract 5 s.size).data.toList = iso.data.toList ++ rwt) := hr
  have hRz : (s.extract 5 s.size).size ≤ 4194304 := by rw [ByteArray.size_extract]; omega
  clear hs hr h
  have hP := fun W => prefix_any s ⟨#[66, 69, 71, 73, 78]⟩ W hz (by decide) (by decide)
  rw [hb] at hP
  clear hb
  go_enter Try.func10, Try.ntmps10
  go_wp2_with fail
  refine (hP _).mono ?_
  rintro e w' ⟨rfl, n, rfl⟩
  clear hP
  go_wp2_with fail
  generalize s.extract 5 s.size = R at HR hRz ⊢
  refine (suffix_any R _ _ hRz (by decide) (by decide)).mono ?_
  rintro e w' ⟨rfl, n', rfl⟩
  have hR2 : R.data.toList = (iso.data.toList ++ [32, 82, 69, 65, 68, 32, 87, 82, 73, 84]) ++ [69] := by rw [HR.out, rwt]; simp
  rw [ends_no (p := ⟨#[32, 82, 69, 65, 68, 32, 79, 78, 76, 89]⟩) (r := [32, 82, 69, 65, 68, 32, 79, 78, 76]) (y := 89) hR2 rfl (by decide)]
  clear hR2
  have h11 : (11 : Int) ≤ (R.size : Int) := by have := list_size HR.out; rw [List.length_append] at this; have : rwt.length = 11 := rfl; omega
  go_wp2_with fail
  refine (suffix_any R _ _ hRz (by decide) (by decide)).mono ?_
  rintro e w' ⟨rfl, n'', rfl⟩
  rw [ends_yes (p := ⟨#[32, 82, 69, 65, 68, 32, 87, 82, 73, 84, 69]⟩) HR.out]
  go_wp2
  go_ret3
  exact ⟨_, rfl, cut_end HR.out rfl, _, rfl⟩

set_option maxHeartbeats 400000 in
theorem parse_no (s iso : ByteArray) (w : World) (hz : s.size ≤ 4194304) (h : s.data.toList = beg ++ iso.data.toList)
    (h1 : atB iso ⟨#[32, 82, 69, 65, 68, 32, 79, 78, 76, 89]⟩ (iso.size - 10) = false) (h2 : atB iso ⟨#[32, 82, 69, 65, 68, 32, 87, 82, 73, 84, 69]⟩ (iso.size - 11) = false) : Calls Try.prog 10 #[.string s] w fun e w' => Read w w' iso 0 e := by
  have hs := list_size h
  have hr := rest_of h
  have hb : atB s ⟨#[66, 69, 71, 73, 78]⟩ 0 = true := begins_yes h
  have h5 : (5 : Int) ≤ (s.size : Int) := by rw [hs, List.length_append]; have : beg.length = 5 := rfl; omega
  have HR : Hid ((s.extract 5 s.size).data.toList = iso.data.toList) := hr
  have hRz : (s.extract 5 s.size).size ≤ 4194304 := by rw [ByteArray.size_extract]; omega
  clear hs hr h
  have hP := fun W => prefix_any s ⟨#[66, 69, 71, 73, 78]⟩ W hz (by decide) (by decide)
  rw [hb] at hP
  have H1 : Hid (atB iso ⟨#[32, 82, 69, 65, 68, 32, 79, 78, 76, 89]⟩ (iso.size - 10) = false) := h1
  have H2 : Hid (atB iso ⟨#[32, 82, 69, 65, 68, 32, 87, 82, 73, 84, 69]⟩ (iso.size - 11) = false) := h2
  clear hb h1 h2
  go_enter Try.func10, Try.ntmps10
  go_wp2_with fail
  refine (hP _).mono ?_
  rintro e w' ⟨rfl, n, rfl⟩
  clear hP
  go_wp2_with fail
  generalize s.extract 5 s.size = R at HR hRz ⊢
  refine (suffix_any R _ _ hRz (by decide) (by decide)).mono ?_
  rintro e w' ⟨rfl, n', rfl⟩
  rw [(ends_congr HR.out).trans H1.out]
  go_wp2_with fail
  refine (suffix_any R _ _ hRz (by decide) (by decide)).mono ?_
  rintro e w' ⟨rfl, n'', rfl⟩
  rw [(ends_congr HR.out).trans H2.out]
  go_wp2
  go_ret3
  exact ⟨_, rfl, HR.out, _, rfl⟩
set_option maxHeartbeats 400000 in
theorem bytes7 (t : ByteArray) (x y : Bool) (w : World) (ht : t.size ≤ 1048576) : Calls Try.prog 7 #[.string t, .bool x, .bool y] w fun e w' => e = .returned (.bool true) ∧ w' = w := by
  go_enter Try.func7, Try.ntmps7
  go_wp2
  go_ret
  exact ⟨rfl, rfl⟩

/-- The opening's bytes. -/
def opn (iso : List UInt8) (x y : Bool) : List UInt8 := if x then beg ++ (iso ++ ro) else if y then beg ++ (iso ++ rwt) else beg ++ iso

/-- It answers the opening's text. -/
def Opens (t : ByteArray) (x y : Bool) (e : Ending) : Prop := ∃ s : ByteArray, e = .returned (.string s) ∧ s.size ≤ 4194304 ∧ Hid (s.data.toList = opn t.data.toList x y)

theorem Opens.of {t s : ByteArray} {x y : Bool} (ht : t.size ≤ 1048576) (h : s.data.toList = opn t.data.toList x y) : Opens t x y (.returned (.string s)) := by
  refine ⟨s, rfl, ?_, h⟩
  rw [list_size h]
  have b1 : beg.length = 5 := rfl
  have b2 : ro.length = 10 := rfl
  have b3 : rwt.length = 11 := rfl
  unfold opn
  cases x <;> cases y <;> simp only [if_true, Bool.false_eq_true, if_false, List.length_append, len_eq, b1, b2, b3] <;> omega

set_option maxHeartbeats 400000 in
theorem open17 (t : ByteArray) (x y : Bool) (w : World) (ht : t.size ≤ 1048576) : Calls Try.prog 17 #[.string t, .bool x, .bool y] w fun e w' => Opens t x y e ∧ w' = w := by
  cases x
  · cases y
    · go_enter Try.func17, Try.ntmps17
      go_wp2
      go_ret
      exact ⟨Opens.of ht (by rw [add_list_t]; rfl), rfl⟩
    · go_enter Try.func17, Try.ntmps17
      go_wp2
      go_ret
      exact ⟨Opens.of ht (by rw [add_list_t, add_list_t, List.append_assoc]; rfl), rfl⟩
  · go_enter Try.func17, Try.ntmps17
    go_wp2
    go_ret
    exact ⟨Opens.of ht (by rw [add_list_t, add_list_t, List.append_assoc]; rfl), rfl⟩

set_option maxHeartbeats 400000 in
theorem open_any (t : ByteArray) (x y : Bool) (w : World) (ht : t.size ≤ 1048576) : Calls Try.prog 9 #[.string t, .bool x, .bool y] w fun e w' => Opens t x y e ∧ w' = w := by
  go_enter Try.func9, Try.ntmps9
  go_wp2_with (go_at_call 17; refine (open17 t x y _ ht).mono ?_; rintro e w' ⟨⟨s, rfl, hs, HS⟩, rfl⟩)
  go_ret
  exact ⟨⟨s, rfl, hs, HS⟩, rfl⟩

/-- The mode that was asked for. -/
def modeOf (x y : Bool) : Int := if x then 1 else if y then 2 else 0

theorem read_any (s iso : ByteArray) (x y : Bool) (w : World) (hz : s.size ≤ 4194304) (h : s.data.toList = opn iso.data.toList x y)
    (h1 : atB iso ⟨#[32, 82, 69, 65, 68, 32, 79, 78, 76, 89]⟩ (iso.size - 10) = false) (h2 : atB iso ⟨#[32, 82, 69, 65, 68, 32, 87, 82, 73, 84, 69]⟩ (iso.size - 11) = false) : Calls Try.prog 10 #[.string s] w fun e w' => Read w w' iso (modeOf x y) e := by
  cases x
  · cases y
    · exact parse_no s iso w hz h h1 h2
    · exact parse_rw s iso w hz h
  · exact parse_ro s iso w hz h

set_option maxHeartbeats 400000 in
theorem mode_any (x y : Bool) (w : World) : Calls Try.prog 11 #[.bool x, .bool y] w fun e w' => e = .returned (.int .i64 (modeOf x y)) ∧ w' = w := by
  cases x
  · cases y
    · go_enter Try.func11, Try.ntmps11
      go_wp2
      go_ret
      exact ⟨rfl, rfl⟩
    · go_enter Try.func11, Try.ntmps11
      go_wp2
      go_ret
      exact ⟨rfl, rfl⟩
  · go_enter Try.func11, Try.ntmps11
    go_wp2
    go_ret
    exact ⟨rfl, rfl⟩

theorem grown_drewN_t {W w' : World} (h : Grown W w') (n : Nat) : Grown W (w'.drewN n) := h

set_option maxHeartbeats 1000000 in
theorem trip_walk (iso : ByteArray) (x y : Bool) (w0 : iso.size ≤ maxLen) (w : World) :
    Calls Try.prog 3 #[.string iso, .bool x, .bool y] w fun e w' => e = .returned (.bool true) ∧ Grown w w' := by
  unfold maxLen at w0
  by_cases ht : iso.size ≤ 1048576
  · have hz : iso.size ≤ 4194304 := by omega
    go_enter Try.func3, Try.ntmps3
    go_wp2_with fail
    refine (bytes7 iso x y w ht).mono ?_
    rintro e w' ⟨rfl, rfl⟩
    go_wp2_with fail
    refine (suffix_any iso _ _ hz (by decide) (by decide)).mono ?_
    rintro e w' ⟨rfl, n, rfl⟩
    cases h1 : atB iso ⟨#[32, 82, 69, 65, 68, 32, 79, 78, 76, 89]⟩ (iso.size - 10) with
    | true =>
      rw [ro_size, h1]
      clear h1
      go_wp2
      go_ret
      exact ⟨rfl, grown_drewN_t (Grown.refl _) _⟩
    | false =>
      rw [ro_size, h1]
      have H1 : Hid (atB iso ⟨#[32, 82, 69, 65, 68, 32, 79, 78, 76, 89]⟩ (iso.size - 10) = false) := h1
      clear h1
      go_wp2_with fail
      refine (suffix_any iso _ _ hz (by decide) (by decide)).mono ?_
      rintro e w' ⟨rfl, n', rfl⟩
      cases h2 : atB iso ⟨#[32, 82, 69, 65, 68, 32, 87, 82, 73, 84, 69]⟩ (iso.size - 11) with
      | true =>
        rw [rw_size, h2]
        clear h2
        go_wp2
        go_ret
        exact ⟨rfl, grown_drewN_t (Grown.refl _) _⟩
      | false =>
        rw [rw_size, h2]
        have H2 : Hid (atB iso ⟨#[32, 82, 69, 65, 68, 32, 87, 82, 73, 84, 69]⟩ (iso.size - 11) = false) := h2
        clear h2
        go_wp2_with fail
        refine (open_any iso x y _ ht).mono ?_
        rintro e w' ⟨⟨s, rfl, hs, HS⟩, rfl⟩
        go_wp2_with fail
        refine (read_any s iso x y _ hs HS.out H1.out H2.out).mono ?_
        rintro e w' ⟨g, rfl, HG, n'', rfl⟩
        have hg := beq_of_t HG.out
        generalize hM : modeOf x y = M
        have HM : Hid (modeOf x y = M) := hM
        clear hM
        have hm := fun W => mode_any x y W
        rw [HM.out] at hm
        go_wp2_with fail
        refine (hm _).mono ?_
        rintro e w' ⟨rfl, rfl⟩
        go_wp2
        go_ret
        exact ⟨rfl, grown_drewN_t (Grown.refl _) _⟩
  · go_enter Try.func3, Try.ntmps3
    go_wp2
    go_ret
    exact ⟨rfl, Grown.refl _⟩
end Go.Proofs.Qxb6001317a
