/-
  THE MODEL OF THE LIST: what zzListModel computes, and its walk.
-/
import Derived.Test.Qxb6600415aWord
import Derived.Lib.AppendStr
import Derived.Laws.IdiomStrings
namespace Go.Proofs.Qxb6600415a
open Go.RowKit

/-- What goes ahead of word k of n. -/
def sepOf (n k : Nat) (conj : List UInt8) : List UInt8 := if k = 0 then [] else if k + 1 = n then [32] ++ conj ++ [32] else [44, 32]
/-- The model's bytes behind k rounds. -/
def lm (n : Nat) (conj : List UInt8) (ws : List (List UInt8)) : Nat → List UInt8
  | 0 => []
  | k + 1 => lm n conj ws k ++ sepOf n k conj ++ ws.getD k []

theorem sepOf_len (n k : Nat) (conj : List UInt8) : (sepOf n k conj).length ≤ conj.length + 2 := by
  unfold sepOf
  split
  · simp
  · split
    · simp
    · simp

theorem lm_len (n : Nat) (conj : List UInt8) (ss : List ByteArray) : ∀ k, k ≤ ss.length → (lm n conj (raw ss) k).length ≤ k * (conj.length + 2) + total (ss.take k)
  | 0, _ => by simp [lm]
  | k + 1, h => by
    have ih := lm_len n conj ss k (by omega)
    have hs := sepOf_len n k conj
    have hg : ss[k]? = some ss[k] := List.getElem?_eq_getElem (by omega)
    have ht := total_snoc hg
    have e : (raw ss).getD k [] = ss[k].data.toList := by simp [raw, hg]
    rw [lm, List.length_append, List.length_append, e, size_eq, ht, Nat.add_mul]
    omega
theorem lm_small (n : Nat) (conj : List UInt8) (ss : List ByteArray) (k : Nat) (hk : k ≤ ss.length) (hb : ss.length ≤ 65536) (ht : total ss ≤ 1048576) (hc : conj.length ≤ 1048576) : (lm n conj (raw ss) k).length ≤ 70000000000 := by
  have h1 := lm_len n conj ss k hk
  have h2 : k * (conj.length + 2) ≤ 65536 * 1048578 := Nat.mul_le_mul (by omega) (by omega)
  have h3 : total (ss.take k) ≤ total ss := by
    have : ∀ (l : List ByteArray) (k : Nat), total (l.take k) ≤ total l := by
      intro l
      induction l with
      | nil => intro k; simp
      | cons x l ih =>
        intro k
        cases k with
        | zero => simp [total]
        | succ k => have := ih k; simp only [total, List.take_succ_cons, List.map_cons, List.sum_cons] at this ⊢; omega
    exact this _ _
  omega

/-- Bytes as cells. -/
def byteCells (l : List UInt8) : List Value := l.map fun b => Value.int .u8 b.toNat
theorem byteCells_app (a b : List UInt8) : byteCells (a ++ b) = byteCells a ++ byteCells b := by simp [byteCells]

theorem Try.info5 : (Try.prog.info? 5).map (fun i => (i.zero, i.size, i.bytes)) = some (some (.int .u8 0), 1, 1) := by kernel_rfl

/-- The bytes gathered so far, owned by v. -/
def Has (B : Nat) (w : World) (v : Value) (l : List UInt8) : Prop := w.ownsRow B 5 1 v l.length (byteCells l)

theorem has_of {B n : Nat} {w : World} {v : Value} {xs : List Value} {l : List UInt8} (h : w.ownsRow B 5 1 v n xs) (hx : xs = byteCells l) : Has B w v l := by
  have h1 : xs.length = n * 1 := h.1
  have e : l.length = n := by rw [hx] at h1; simpa [byteCells] using h1
  subst hx
  rw [← e] at h
  exact h
theorem strCells_eq (s : ByteArray) : Lib.strCells s = byteCells s.data.toList := rfl

theorem lm_step {len k : Nat} {conj L : List UInt8} {ss : List ByteArray} {s : ByteArray} (hL : lm len conj (raw ss) k = L) (hg : ss[k]? = some s) : lm len conj (raw ss) (k + 1) = L ++ sepOf len k conj ++ s.data.toList := by
  have e : (raw ss).getD k [] = s.data.toList := by simp [raw, hg]
  rw [lm, hL, e]

theorem lit_cells1 (w : World) (x : Value) (t : TypeId) : ∀ (j : Nat) u, ([x] : List Value)[j]? = some u → (w.alloc (.cells #[x] t)).cell? ((⟨w.heap.size, 0, none⟩ : Addr).add j) = some u := cell_one_new _ _ _
theorem lit_cells2 (w : World) (x y : Value) (t : TypeId) : ∀ (j : Nat) u, ([x, y] : List Value)[j]? = some u → (w.alloc (.cells #[x, y] t)).cell? ((⟨w.heap.size, 0, none⟩ : Addr).add j) = some u := by
  intro j u hj
  match j, hj with
  | 0, hj => simp at hj; subst hj; simp [Addr.add]
  | 1, hj => simp at hj; subst hj; simp [Addr.add]

theorem conv_of_has {B : Nat} {w : World} {v : Value} {l : List UInt8} (h : Has B w v l) : (convert 33 9 v).run Try.prog w = .ok (.string ⟨l.toArray⟩) w := by
  rcases h with ⟨hlen, ⟨rfl, h0⟩ | ⟨g, cap, cur, rfl, hb, hg, hn, hm, hcs, htk⟩⟩
  · have e : l = [] := List.length_eq_zero_iff.1 h0
    subst e
    rw [run_convert_bytes_string w 33 9 5 none 0 0 Try.underlying33 Try.underlying5 Try.underlying9]
    simp [Conv.bytesToString]
    rfl
  · refine run_convert_bytes_back w 33 9 5 ⟨g, 0, none⟩ cap l Try.underlying33 Try.underlying5 Try.underlying9 fun j hj => ?_
    have hown : w.ownsRow B 5 1 (.slice (some ⟨g, 0, none⟩) l.length cap) l.length (byteCells l) := ⟨hlen, .inr ⟨g, cap, cur, rfl, hb, hg, hn, hm, hcs, htk⟩⟩
    exact hown.cells (g := g) rfl j _ (by simp [byteCells, hj])

set_option maxHeartbeats 1000000 in
theorem model_any (a : Option Addr) (len cap : Nat) (ss : List ByteArray) (conj : ByteArray) (w : World) (h : IsStrs w a len cap ss) (hb : len ≤ 65536) (ht : total ss ≤ 1048576) (hcj : conj.size ≤ 1048576) :
    Calls Try.prog 11 #[.slice a len cap, .string conj] w fun e w' => Gives (lm len conj.data.toList (raw ss) len) e ∧ Below w.heap.size w w' := by
  obtain ⟨i0, hi, hz0, hz1, hz2⟩ := info_parts Try.info5
  have hsm := fun k hk => lm_small len conj.data.toList ss k hk (by have := h.1; omega) ht (by rw [size_eq]; exact hcj)
  go_enter Try.func11, Try.ntmps11
  go_wp2
  go_loopw [5, 7] (fun v i wr => ∃ k : Nat, k ≤ len ∧ i = .int .i64 k ∧ Has w.heap.size wr v (lm len conj.data.toList (raw ss) k) ∧ Below w.heap.size w wr) (fun _ i _ => len - (intOf i).toNat)
  case atStart => exact ⟨0, by omega, rfl, World.ownsRow_nil _ _ _ _, Below.refl _ _⟩
  case round =>
    obtain ⟨k, hk, rfl, hown, hbl⟩ := hrel
    by_cases hlt : k < len
    · obtain ⟨b, o, s, rfl, _, hg, hc, hbb⟩ := h.at k hlt
      have hc2 := (hbl.cell (p := ⟨b, o + k, none⟩) hbb).trans hc
      have hss : s.size ≤ 1048576 := Nat.le_trans (le_total (List.mem_of_getElem? hg)) ht
      have HG : Hid (ss[k]? = some s) := hg
      clear hg
      have hl := hsm k (by have := h.1; omega)
      generalize hL : lm len conj.data.toList (raw ss) k = L at hown hl
      have HL : Hid (lm len conj.data.toList (raw ss) k = L) := hL
      clear hL hsm
      have hsz := hbl.size
      unfold Has at hown
      by_cases k0 : (k : Int) ≤ 0
      · go_wp2_with (at_builtin; refine Lib.wpList_append_own_string _ rfl (.tmp 33) (.tmp 37) 33 9 rfl w.heap.size 5 i0 Try.underlying33 Try.underlying9 hi hz0 hz1 hz2 _ _ _ rfl hown s rfl (by unfold maxLen; omega) (by omega) hsz ?_; intro v' w1 hown1 hgrow1 _)
        go_roundw
        case rel => exact ⟨k + 1, by omega, by go_num, has_of hown1 (by rw [lm_step HL.out HG.out, byteCells_app, byteCells_app, strCells_eq, sepOf, if_pos (by omega)]; simp [byteCells]), hbl.grown hgrow1 hsz (fun g hg => (hown.lt g hg).1)⟩
        case measure => simp [intOf]; omega
      · by_cases k1 : (k : Int) = (len : Int) - 1
        · have k2 : Hid ((k : Int) = (len : Int) - 1) := k1
          have k3 : ((k : Int) == (len : Int) - 1) = true := by simpa using k1
          clear k1
          go_wp2_with (first | (at_builtin; refine wpList_append_own _ rfl (.tmp 21) (.tmp 22) 33 rfl w.heap.size 5 i0 (.int .u8 0) 1 1 Try.underlying33 hi hz0 hz1 hz2 rfl (by decide) _ _ _ rfl (hown.alloc _) ⟨wr.heap.size, 0, none⟩ 1 1 [.int .u8 32] rfl rfl (lit_cells1 _ _ _) (by simp [Value.oneCell']) (by unfold maxLen; omega) (by omega) (by simp; omega) ?_; intro v1 w1 hown1 hgrow1 _; have hbl1 := (hbl.alloc hsz _).grown hgrow1 (by simp; omega) (fun g hg => (hown.lt g hg).1); have hsz1 := hbl1.size) | (at_builtin; refine Lib.wpList_append_own_string _ rfl (.tmp 24) (.tmp 25) 33 9 rfl w.heap.size 5 i0 Try.underlying33 Try.underlying9 hi hz0 hz1 hz2 _ _ _ rfl hown1 conj rfl (by unfold maxLen; omega) (by omega) hsz1 ?_; intro v2 w2 hown2 hgrow2 _; have hbl2 := hbl1.grown hgrow2 hsz1 (fun g hg => (hown1.lt g hg).1); have hsz2 := hbl2.size) | (at_builtin; refine wpList_append_own _ rfl (.tmp 27) (.tmp 28) 33 rfl w.heap.size 5 i0 (.int .u8 0) 1 1 Try.underlying33 hi hz0 hz1 hz2 rfl (by decide) _ _ _ rfl (hown2.alloc _) ⟨w2.heap.size, 0, none⟩ 1 1 [.int .u8 32] rfl rfl (lit_cells1 _ _ _) (by simp [Value.oneCell']) (by unfold maxLen; omega) (by omega) (by simp; omega) ?_; intro v3 w3 hown3 hgrow3 _; have hbl3 := (hbl2.alloc hsz2 _).grown hgrow3 (by simp; omega) (fun g hg => (hown2.lt g hg).1); have hsz3 := hbl3.size; have hc3 := (hbl3.cell (p := ⟨b, o + k, none⟩) hbb).trans hc) | (at_builtin; refine Lib.wpList_append_own_string _ rfl (.tmp 33) (.tmp 37) 33 9 rfl w.heap.size 5 i0 Try.underlying33 Try.underlying9 hi hz0 hz1 hz2 _ _ _ rfl hown3 s rfl (by unfold maxLen; omega) (by omega) hsz3 ?_; intro v4 w4 hown4 hgrow4 _; have hbl4 := hbl3.grown hgrow4 hsz3 (fun g hg => (hown3.lt g hg).1)))
          go_roundw
          case rel => exact ⟨k + 1, by omega, by go_num, has_of hown4 (by rw [lm_step HL.out HG.out, byteCells_app, byteCells_app, strCells_eq, strCells_eq, sepOf, if_neg (by omega), if_pos (by have := k2.out; omega)]; simp [byteCells]), hbl4⟩
          case measure => simp [intOf]; omega
        · have k3 : ((k : Int) == (len : Int) - 1) = false := by simpa using k1
          have k2 : Hid (¬ (k : Int) = (len : Int) - 1) := k1
          clear k1
          go_wp2_with (first | (at_builtin; refine wpList_append_own _ rfl (.tmp 30) (.tmp 31) 33 rfl w.heap.size 5 i0 (.int .u8 0) 1 1 Try.underlying33 hi hz0 hz1 hz2 rfl (by decide) _ _ _ rfl (hown.alloc _) ⟨wr.heap.size, 0, none⟩ 2 2 [.int .u8 44, .int .u8 32] rfl rfl (lit_cells2 _ _ _ _) (by simp [Value.oneCell']) (by unfold maxLen; omega) (by omega) (by simp; omega) ?_; intro v' w1 hown1 hgrow1 _; have hbl1 := (hbl.alloc hsz _).grown hgrow1 (by simp; omega) (fun g hg => (hown.lt g hg).1); have hsz1 := hbl1.size; have hc3 := (hbl1.cell (p := ⟨b, o + k, none⟩) hbb).trans hc) | (at_builtin; refine Lib.wpList_append_own_string _ rfl (.tmp 33) (.tmp 37) 33 9 rfl w.heap.size 5 i0 Try.underlying33 Try.underlying9 hi hz0 hz1 hz2 _ _ _ rfl hown1 s rfl (by unfold maxLen; omega) (by omega) hsz1 ?_; intro v2 w2 hown2 hgrow2 _; have hbl2 := hbl1.grown hgrow2 hsz1 (fun g hg => (hown1.lt g hg).1)))
          go_roundw
          case rel => exact ⟨k + 1, by omega, by go_num, has_of hown2 (by rw [lm_step HL.out HG.out, byteCells_app, byteCells_app, strCells_eq, sepOf, if_neg (by omega), if_neg (by have := k2.out; omega)]; simp [byteCells]), hbl2⟩
          case measure => simp [intOf]; omega
    · have hkl : len = k := by omega
      have hown' : Has w.heap.size wr u5 (lm len conj.data.toList (raw ss) len) := by rw [hkl] at hown ⊢; exact hown
      have hcv := conv_of_has hown'
      have hi2 : ¬ (k : Int) < (len : Int) := by omega
      clear hown hsm hkl
      go_wp2
      go_ret
      exact ⟨rfl, hbl⟩
end Go.Proofs.Qxb6600415a
