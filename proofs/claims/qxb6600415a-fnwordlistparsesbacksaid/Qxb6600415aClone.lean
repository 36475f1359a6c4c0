/-
  THE COPY OF A LIST OF STRINGS: a new row that holds the same strings.
-/
import Derived.Test.Qxb6600415aBase
import Derived.Deep.OwnRows
import Derived.Lib.SliceRun
namespace Go.Proofs.Qxb6600415a
open Go.RowKit

theorem Try.info9 : (Try.prog.info? 9).map (fun i => (i.zero, i.size, i.bytes)) = some (some (.string ByteArray.empty), 1, 16) := by kernel_rfl

/-- What the copy's row holds behind k rounds. -/
def copied (ss : List ByteArray) (k j : Nat) : Value := if j < k then .string (ss.getD j ByteArray.empty) else .string ByteArray.empty

theorem copied_step {wr : World} {b len k : Nat} {ss : List ByteArray} {s : ByteArray} (h : wr.rowIs b 9 len (copied ss k)) (hs : ss[k]? = some s) : (wr.setCell ⟨b, k, none⟩ (.string s)).rowIs b 9 len (copied ss (k + 1)) :=
  (h.set k (.string s)).congr fun i _ => by
    unfold copied
    by_cases e : i = k
    · subst e; simp [hs]
    · by_cases h2 : i < k
      · have h3 : i < k + 1 := by omega
        simp [e, h2, h3]
      · have h3 : ¬ i < k + 1 := by omega
        simp [e, h2, h3]

theorem copied_done {wr : World} {b len : Nat} {ss : List ByteArray} (h : wr.rowIs b 9 len (copied ss len)) (hl : ss.length = len) : ∀ j x, ss[j]? = some x → wr.cell? ⟨b, 0 + j, none⟩ = some (.string x) := by
  intro j x hj
  have hlt : j < len := by rw [← hl]; exact (List.getElem?_eq_some_iff.1 hj).1
  rw [Nat.zero_add, h.cell hlt]
  simp [copied, hlt, hj]

set_option maxHeartbeats 400000 in
theorem clone_any (a : Option Addr) (len cap : Nat) (ss : List ByteArray) (w : World) (h : IsStrs w a len cap ss) (hb : len ≤ 65536) :
    Calls Try.prog 9 #[.slice a len cap] w fun e w' => ∃ a', e = .returned (.slice a' len len) ∧ IsStrs w' a' len len ss ∧ Below w.heap.size w w' := by
  have h0 : IsStrs w a len cap ss := h
  obtain ⟨h1, h2, h3, h4, h5⟩ := h0
  have q22 : ∀ (w : World) (a : Option Addr) (n c n' c' : Nat), (binOp .eql 22 (.slice a n c) (.slice none n' c')).run Try.prog w = .ok (.bool a.isNone) w := fun w a n c n' c' => Lib.run_eql_slice_nil w _ _ a n c n' c' Try.underlying22
  cases a with
  | none =>
    have hz : len = 0 := by
      rcases h5 with h5 | ⟨b, o, h5, _⟩
      · exact h5
      · cases h5
    subst hz
    have H1 : Hid (ss.length = 0) := h1
    clear h1 h5
    go_enter Try.func9, Try.ntmps9
    go_wp2
    go_ret
    exact ⟨none, rfl, ⟨H1.out, Nat.le_refl _, Nat.zero_le _, h4, .inl rfl⟩, Below.refl _ _⟩
  | some x =>
    have H1 : Hid (ss.length = len) := h1
    clear h1 h5
    have hmk := fun w => run_make_row' (P := Try.prog) 22 9 (.string ByteArray.empty) 16 Try.underlying22 Try.info9 rfl .i64 .i64 len (by omega) (by omega) w
    go_enter Try.func9, Try.ntmps9
    go_wp2
    go_loopw [4] (fun i wr => ∃ k : Nat, k ≤ len ∧ i = .int .i64 k ∧ wr.rowIs w.heap.size 9 len (copied ss k) ∧ Below w.heap.size w wr) (fun i _ => len - (intOf i).toNat)
    case atStart => exact ⟨0, by omega, rfl, (World.rowIs_made w _ len 9).congr (fun i _ => by simp [copied]), (Below.refl _ _).alloc (Nat.le_refl _) _⟩
    case round =>
      obtain ⟨k, hk, rfl, hrow, hbl⟩ := hrel
      by_cases hlt : k < len
      · obtain ⟨b, o, s, hx, hsz, hg, hc, hbb⟩ := h.at k hlt
        have hc2 := (hbl.cell (p := ⟨b, o + k, none⟩) hbb).trans hc
        have hc3 := hrow.cell hlt
        have hc4 := hrow.frozen k
        cases hx
        have HG : Hid (ss[k]? = some s) := hg
        clear hg hc
        go_wp2
        go_roundw
        case rel => exact ⟨k + 1, by omega, by go_num, copied_step hrow HG.out, hbl.setCell (by simp) _⟩
        case measure => simp [intOf]; omega
      · have hkl : len = k := by omega
        subst hkl
        have hd := copied_done hrow H1.out
        go_wp2
        go_ret
        exact ⟨some ⟨w.heap.size, 0, none⟩, rfl, ⟨H1.out, Nat.le_refl _, by omega, h4, .inr ⟨_, _, rfl, hrow.lt, hd⟩⟩, hbl⟩
end Go.Proofs.Qxb6600415a
