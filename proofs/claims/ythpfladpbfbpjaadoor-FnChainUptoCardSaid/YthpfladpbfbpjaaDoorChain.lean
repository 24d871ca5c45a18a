/- Plain laws of a chain: its text, its rules, their sizes. -/
import Derived.Test.YthpfladpbfbpjaaDoorRulesL
namespace Go.Proofs.YthpfladpbfbpjaaDoor
open Go.RowKit

/-- names with commas between them, without blanks -/
def nmB (l : List Str) : Bs := joinB [44] (l.map bs)
theorem nmB_snoc (L : List Str) (x : Str) : nmB (L ++ [x]) = nmB L ++ ((if L = [] then [] else [44]) ++ bs x) := by
  unfold nmB
  rw [List.map_append, List.map_singleton]
  by_cases h : L = []
  · subst h; simp [joinB]
  · rw [joinB_snoc _ _ _ (by simpa using h), if_neg h]
theorem chainB_snoc (L : List (List Str)) (l : List Str) : chainB (L ++ [l]) = chainB L ++ ((if L = [] then [] else [32, 60, 32]) ++ nmB l) := by
  unfold chainB nmB
  rw [List.map_append, List.map_singleton]
  by_cases h : L = []
  · subst h; simp [joinB]
  · rw [joinB_snoc _ _ _ (by simpa using h), if_neg h]
theorem chainR_snoc : ∀ (L : List (List Str)) (y x : List Str), chainR (L ++ [y] ++ [x]) = chainR (L ++ [y]) ++ [(y, false, x)]
  | [], y, x => rfl
  | [a], y, x => rfl
  | a :: b :: r, y, x => by
    have := chainR_snoc (b :: r) y x
    simp only [List.cons_append, chainR] at this ⊢
    rw [this]
theorem chainR_take {Ls : List (List Str)} {p k : Nat} (hk : k < Ls.length) (hp : p + 1 = k) : chainR (Ls.take (k + 1)) = chainR (Ls.take k) ++ [(Ls[p]'(by omega), false, Ls[k])] := by
  subst hp
  rw [List.take_succ_eq_append_getElem hk, List.take_succ_eq_append_getElem (by omega : p < Ls.length)]
  exact chainR_snoc _ _ _
theorem chain_ok : ∀ (L : List (List Str)), 2 ≤ L.length → (∀ r ∈ chainR L, RlOK r) → ∀ l ∈ L, l ≠ [] ∧ ∀ n ∈ l, NameS n
  | [], h, _ => by simp at h
  | [_], h, _ => by simp at h
  | [x, y], _, h => by
    obtain ⟨h1, h2, h3, h4⟩ := h (x, false, y) (by simp [chainR])
    intro l hl
    simp at hl
    rcases hl with rfl | rfl
    · exact ⟨h1, h3⟩
    · exact ⟨h2, h4⟩
  | x :: y :: z :: r, _, h => by
    obtain ⟨h1, h2, h3, h4⟩ := h (x, false, y) (by simp [chainR])
    intro l hl
    rcases List.mem_cons.1 hl with rfl | hl
    · exact ⟨h1, h3⟩
    · exact chain_ok (y :: z :: r) (by simp) (fun r' hr => h r' (by rw [chainR]; exact List.mem_cons_of_mem _ hr)) l hl
theorem chain_text {Ls : List (List Str)} (h2 : 2 ≤ Ls.length) (h : OkR (chainR Ls)) {tx u : Str} (htx : bs tx = chainB Ls) (hs : tx.size < 400) (hu : bs u = bs tx ++ [59]) :
    ∃ ts, lex (bs u) = some ts ∧ u.size ≤ 400 ∧ ts.length ≤ 400 ∧ packP ts = graphP (chainR Ls) := by
  have hok := chain_ok Ls h2 h.2.1
  have hlx : lex (bs u) = some (chainT Ls ++ [tSemi]) := by
    rw [hu, htx]
    exact chain_lex Ls (fun e => by rw [e] at h2; simp at h2) hok
  have hsz : u.size ≤ 400 := by
    have := congrArg List.length hu
    rw [bs_len, List.length_append, bs_len] at this
    simp at this
    omega
  have := lex_len hlx
  exact ⟨_, hlx, hsz, by omega, by unfold packP; rw [pRules_chain Ls h2 hok]; rfl⟩
theorem OkR.small {R : List Rl} (h : OkR R) : Small R := ⟨by have := h.1.1; omega, fun r hr => ⟨by have := (h.1.2 r hr).1.1; omega, by have := (h.1.2 r hr).2.1; omega⟩⟩
theorem FitsL.rules {Ls : List (List Str)} (h : FitsL Ls) {R : List Rl} (hR : R.length ≤ 2147483647) (hm : ∀ r ∈ R, r.1 ∈ Ls ∧ r.2.2 ∈ Ls) : FitsR R :=
  ⟨hR, fun r hr => ⟨h.2 _ (hm r hr).1, h.2 _ (hm r hr).2⟩⟩

/-- letters and names of a list -/
def lenL (L : List Str) : Nat := (L.map fun x => x.size + 1).sum
def totL (Ls : List (List Str)) : Nat := (Ls.map fun L => lenL L + 1).sum
theorem lenL_snoc (L : List Str) (x : Str) : lenL (L ++ [x]) = lenL L + (x.size + 1) := by simp [lenL]
theorem totL_snoc (Ls : List (List Str)) (L : List Str) : totL (Ls ++ [L]) = totL Ls + (lenL L + 1) := by simp [totL]
theorem lenL_take (L : List Str) (k : Nat) : lenL (L.take k) ≤ lenL L := by
  have : lenL L = lenL (L.take k) + lenL (L.drop k) := by
    have h : L = L.take k ++ L.drop k := (List.take_append_drop k L).symm
    conv => lhs; rw [h]
    unfold lenL
    rw [List.map_append, List.sum_append]
  omega
theorem totL_take (Ls : List (List Str)) (k : Nat) : totL (Ls.take k) ≤ totL Ls := by
  have : totL Ls = totL (Ls.take k) + totL (Ls.drop k) := by
    have h : Ls = Ls.take k ++ Ls.drop k := (List.take_append_drop k Ls).symm
    conv => lhs; rw [h]
    unfold totL
    rw [List.map_append, List.sum_append]
  omega
theorem totL_len (Ls : List (List Str)) : Ls.length ≤ totL Ls := by
  induction Ls with
  | nil => simp
  | cons x r ih => simp only [totL, List.map_cons, List.sum_cons, List.length_cons] at ih ⊢; omega
end Go.Proofs.YthpfladpbfbpjaaDoor
