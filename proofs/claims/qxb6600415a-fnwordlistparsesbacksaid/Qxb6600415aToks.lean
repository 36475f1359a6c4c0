/-
  THE TOKENS OF A LIST OF CLEAN WORDS: plain laws.
-/
import Derived.Test.Qxb6600415aSplit
import Derived.Test.Qxb6600415aClean
namespace Go.Proofs.Qxb6600415a
open Go.RowKit

/-- No blank in it. -/
def Free (l : List UInt8) : Prop := ∀ c ∈ l, c ≠ 32

theorem spl_free (a : List UInt8) : ∀ cur, Free a → spl cur a = [cur ++ a] := by
  induction a with
  | nil => intro cur _; simp [spl]
  | cons c r ih =>
    intro cur h
    rw [spl, if_neg (h c (by simp)), ih _ (fun x hx => h x (by simp [hx]))]
    simp
theorem spl_cut (a b : List UInt8) : ∀ cur, Free a → spl cur (a ++ 32 :: b) = (cur ++ a) :: spl [] b := by
  induction a with
  | nil => intro cur _; simp [spl]
  | cons c r ih =>
    intro cur h
    rw [List.cons_append, spl, if_neg (h c (by simp)), ih _ (fun x hx => h x (by simp [hx]))]
    simp

/-- A comma behind each but the last. -/
def commas : List (List UInt8) → List (List UInt8)
  | [] => []
  | [x] => [x]
  | x :: y :: r => (x ++ [44]) :: commas (y :: r)

theorem spl_join (b : List UInt8) : ∀ ws : List (List UInt8), ws ≠ [] → (∀ x ∈ ws, Free x) → spl [] (Lib.join ws [44, 32] ++ 32 :: b) = commas ws ++ spl [] b
  | [], h, _ => absurd rfl h
  | [x], _, hf => by rw [Lib.join_one, spl_cut _ _ _ (hf x (by simp))]; simp [commas]
  | x :: y :: r, _, hf => by
    have ih := spl_join b (y :: r) (by simp) (fun z hz => hf z (List.mem_cons_of_mem _ hz))
    have e : Lib.join (x :: y :: r) [44, 32] ++ 32 :: b = (x ++ [44]) ++ 32 :: (Lib.join (y :: r) [44, 32] ++ 32 :: b) := by
      rw [Lib.join_cons, Lib.join_cons]
      simp [Lib.joinTail]
    have hx : Free (x ++ [44]) := by
      intro c hc
      rcases List.mem_append.1 hc with hc | hc
      · exact hf x (by simp) c hc
      · simp only [List.mem_singleton] at hc
        subst hc
        decide
    rw [e, spl_cut _ _ _ hx, ih]
    simp [commas]

theorem commas_len : ∀ ws : List (List UInt8), (commas ws).length = ws.length
  | [] => rfl
  | [_] => rfl
  | x :: y :: r => by rw [commas, List.length_cons, commas_len (y :: r)]; simp
theorem commas_at : ∀ (ws : List (List UInt8)) (i : Nat) (x : List UInt8), ws[i]? = some x → i + 1 < ws.length → (commas ws)[i]? = some (x ++ [44])
  | [], _, _, h, _ => by simp at h
  | [_], i, _, _, h => by simp at h
  | y :: z :: r, 0, x, h, _ => by
    simp only [List.getElem?_cons_zero, Option.some.injEq] at h
    subst h
    simp [commas]
  | y :: z :: r, i + 1, x, h, h2 => by
    rw [commas, List.getElem?_cons_succ]
    exact commas_at (z :: r) i x (by simpa using h) (by simpa using h2)
theorem commas_last : ∀ (ws : List (List UInt8)) (i : Nat) (x : List UInt8), ws[i]? = some x → i + 1 = ws.length → (commas ws)[i]? = some x
  | [], _, _, h, _ => by simp at h
  | [y], 0, x, h, _ => by simpa [commas] using h
  | [y], i + 1, x, h, _ => by simp at h
  | y :: z :: r, 0, x, _, h2 => by simp at h2
  | y :: z :: r, i + 1, x, h, h2 => by
    rw [commas, List.getElem?_cons_succ]
    exact commas_last (z :: r) i x (by simpa using h) (by simpa using h2)

theorem Clean.free {l : List UInt8} (h : Clean l) : Free l := fun c hc => (h.2 c hc).1

theorem spl_wl (ws : List (List UInt8)) (conj : List UInt8) (m : Nat) (hm : ws.length = m + 2) (hw : ∀ x ∈ ws, Free x) (hc : Free conj) :
    spl [] (wl ws conj) = commas (ws.take (m + 1)) ++ [conj, ws.getD (m + 1) []] := by
  have e1 : ¬ ws.length < 2 := by omega
  rw [wl, if_neg e1, hm]
  have hl : (ws.getD (m + 1) []) ∈ ws := by
    have h3 : m + 1 < ws.length := by omega
    rw [List.getD, List.getElem?_eq_getElem h3]
    exact List.getElem_mem h3
  have e2 : (([44, 32] : List UInt8).intercalate (ws.take (m + 2 - 1)) ++ [32] ++ conj ++ [32]) ++ ws.getD (m + 2 - 1) [] = Lib.join (ws.take (m + 1)) [44, 32] ++ 32 :: (conj ++ 32 :: ws.getD (m + 1) []) := by
    show (Lib.join (ws.take (m + 1)) [44, 32] ++ [32] ++ conj ++ [32]) ++ ws.getD (m + 1) [] = _
    simp
  rw [e2, spl_join _ _ (by intro h; have := congrArg List.length h; rw [List.length_take] at this; simp only [List.length_nil] at this; omega) (fun x hx => hw x (List.mem_of_mem_take hx)), spl_cut _ _ _ hc, spl_free _ _ (hw _ hl)]
  simp

/-- The tokens, one by one. -/
theorem toks_at {ss T : List ByteArray} {conj : ByteArray} {m : Nat} (hm : ss.length = m + 2) (hT : raw T = commas ((raw ss).take (m + 1)) ++ [conj.data.toList, (raw ss).getD (m + 1) []]) :
    T.length = m + 3 ∧ (∀ i s x, i < m → ss[i]? = some s → T[i]? = some x → x.data.toList = s.data.toList ++ [44]) ∧ (T[m]? = ss[m]?) ∧ (T[m + 1]? = some conj) ∧ (T[m + 2]? = ss[m + 1]?) := by
  have hr : (raw ss).length = m + 2 := by simp [raw, hm]
  have hcl : (commas ((raw ss).take (m + 1))).length = m + 1 := by rw [commas_len, List.length_take]; omega
  have rawAt : ∀ (l : List ByteArray) (i : Nat), (raw l)[i]? = (l[i]?).map (fun z : ByteArray => z.data.toList) := fun l i => by simp [raw]
  have inj : ∀ a b : ByteArray, a.data.toList = b.data.toList → a = b := fun a b h => by
    cases a; cases b
    simp only [ByteArray.mk.injEq]
    exact Array.toList_inj.1 h
  have injO : ∀ a b : Option ByteArray, a.map (fun z : ByteArray => z.data.toList) = b.map (fun z : ByteArray => z.data.toList) → a = b := fun a b h => by
    cases a <;> cases b
    · rfl
    · simp at h
    · simp at h
    · simp only [Option.map_some, Option.some.injEq] at h
      rw [inj _ _ h]
  have hlen : T.length = m + 3 := by
    have h1 := congrArg List.length hT
    have h2 : (raw T).length = T.length := by simp [raw]
    rw [List.length_append, hcl] at h1
    simp only [List.length_cons, List.length_nil] at h1
    omega
  have tk : ∀ i, i < m + 1 → ((raw ss).take (m + 1))[i]? = (raw ss)[i]? := fun i hi => by rw [List.getElem?_take, if_pos hi]
  refine ⟨hlen, ?_, ?_, ?_, ?_⟩
  · intro i s x hi hs hx
    have h1 : (raw T)[i]? = some x.data.toList := by rw [rawAt, hx]; rfl
    have h2 : ((raw ss).take (m + 1))[i]? = some s.data.toList := by rw [tk i (by omega), rawAt, hs]; rfl
    rw [hT, List.getElem?_append_left (by omega), commas_at _ i _ h2 (by rw [List.length_take]; omega)] at h1
    exact (Option.some.inj h1).symm
  · have h3 : ss[m]? = some ss[m] := List.getElem?_eq_getElem (by omega)
    have h2 : ((raw ss).take (m + 1))[m]? = some ss[m].data.toList := by rw [tk m (by omega), rawAt, h3]; rfl
    apply injO
    rw [← rawAt, hT, List.getElem?_append_left (by omega), commas_last _ m _ h2 (by rw [List.length_take]; omega), h3]
    rfl
  · apply injO
    rw [← rawAt, hT, List.getElem?_append_right (by omega), hcl, Nat.sub_self]
    rfl
  · have h3 : ss[m + 1]? = some ss[m + 1] := List.getElem?_eq_getElem (by omega)
    apply injO
    rw [← rawAt, hT, List.getElem?_append_right (by omega), hcl, show m + 2 - (m + 1) = 1 by omega, h3]
    simp [raw, h3]
end Go.Proofs.Qxb6600415a
