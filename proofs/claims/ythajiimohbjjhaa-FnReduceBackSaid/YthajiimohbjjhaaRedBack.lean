/- Plain laws on what is left of closed edges: it is closed to them again, and none of it can be left out. -/
import Derived.Test.YthajiimohbjjhaaReduced
import Derived.Test.YthajiimohbjjhaaGoodYes
namespace Go.Proofs.Ythajiimohbjjhaa
open Go.RowKit

theorem way_len {ns : List Str} {A : List Ed} (hnd : A.Nodup) (hin : ∀ e ∈ A, e.1 ∈ ns ∧ e.2 ∈ ns) (hway : Way ns A) (h10 : ns.length ≤ 10) : A.length ≤ 50 := by
  have hsw : (A.map fun e : Ed => (e.2, e.1)).Nodup := (List.pairwise_map).2 (List.Pairwise.imp (fun h e => h (by
    have h1 := congrArg Prod.fst e
    have h2 := congrArg Prod.snd e
    exact Prod.ext h2 h1)) hnd)
  have hno : ∀ e : Ed, e ∈ A → (e.2, e.1) ∈ A → False := fun e h1 h2 => by
    rcases hway with hw | hw
    · have a := hw _ h1; have b := hw _ h2; simp only at b; omega
    · have a := hw _ h1; have b := hw _ h2; simp only at b; omega
  have hall : (A ++ A.map fun e : Ed => (e.2, e.1)).Nodup := by
    rw [List.nodup_append]
    refine ⟨hnd, hsw, fun x hx y hy e => ?_⟩
    subst e
    obtain ⟨z, hz, e⟩ := List.mem_map.1 hy
    subst e
    exact hno z hz hx
  have h1 := nodup_subset_len (l2 := pairs ns) hall (fun x hx => by
    rw [mem_pairs]
    rcases List.mem_append.1 hx with hx | hx
    · exact hin x hx
    · obtain ⟨z, hz, e⟩ := List.mem_map.1 hx
      subst e
      exact (hin z hz).symm)
  have h2 := pairs_len ns
  have h3 : ns.length * ns.length ≤ 10 * 10 := Nat.mul_le_mul h10 h10
  rw [List.length_append, List.length_map] at h1
  omega

section
variable {ns : List Str} {A L : List Ed}
theorem back_closed (hA : ∀ e ∈ A, e.1 ∈ ns ∧ e.2 ∈ ns) (htr : ∀ a m b, (a, m) ∈ A → (m, b) ∈ A → (a, b) ∈ A) (hway : Way ns A) (hL : ∀ x, x ∈ L ↔ x ∈ covers ns A) (e : Ed) : clo ns L e.1 e.2 = true ↔ e ∈ A := by
  have hLA : ∀ x ∈ L, x ∈ A := fun x hx => (mem_covers.1 ((hL x).1 hx)).1
  constructor
  · intro h
    exact clo_least (T := fun a b => (a, b) ∈ A) (fun a b hab => hLA _ hab) htr h
  · have hinL : ∀ e ∈ L, e.1 ∈ ns ∧ e.2 ∈ ns := fun x hx => hA x (hLA x hx)
    have key : ∀ (μ : Str → Str → Nat), (∀ a m b, (a, m) ∈ A → (m, b) ∈ A → μ a m < μ a b ∧ μ m b < μ a b) → ∀ N a b, μ a b ≤ N → (a, b) ∈ A → clo ns L a b = true := by
      intro μ hμ N
      induction N with
      | zero =>
        intro a b hN hab
        by_cases hc : (a, b) ∈ covers ns A
        · exact clo_mono ((hL _).2 hc)
        · exfalso
          apply hc
          rw [mem_covers]
          refine ⟨hab, fun ⟨n, _, h1, h2⟩ => ?_⟩
          have := (hμ a n b h1 h2).1
          omega
      | succ N ih =>
        intro a b hN hab
        by_cases hc : ∃ n, (a, n) ∈ A ∧ (n, b) ∈ A
        · obtain ⟨n, h1, h2⟩ := hc
          have := hμ a n b h1 h2
          exact clo_trans hinL (ih a n (by omega) h1) (ih n b (by omega) h2)
        · refine clo_mono ((hL _).2 (mem_covers.2 ⟨hab, fun ⟨n, _, h1, h2⟩ => hc ⟨n, h1, h2⟩⟩))
    intro he
    rcases hway with hw | hw
    · exact key (fun a b => ns.idxOf a - ns.idxOf b) (fun a m b h1 h2 => by
        have := hw _ h1; have := hw _ h2; simp only at *; omega) _ _ _ (Nat.le_refl _) he
    · exact key (fun a b => ns.idxOf b - ns.idxOf a) (fun a m b h1 h2 => by
        have := hw _ h1; have := hw _ h2; simp only at *; omega) _ _ _ (Nat.le_refl _) he
theorem less_not (hA : ∀ e ∈ A, e.1 ∈ ns ∧ e.2 ∈ ns) (htr : ∀ a m b, (a, m) ∈ A → (m, b) ∈ A → (a, b) ∈ A) (hnd : L.Nodup) (hL : ∀ x, x ∈ L ↔ x ∈ covers ns A) (i : Nat) (hi : i < L.length) :
    L[i] ∉ closedL ns (L.take i ++ L.drop (i + 1)) := by
  intro h
  have hLA : ∀ x ∈ L, x ∈ A := fun x hx => (mem_covers.1 ((hL x).1 hx)).1
  have hsub : ∀ x ∈ L.take i ++ L.drop (i + 1), x ∈ L ∧ x ≠ L[i] := fun x hx => by
    have hspl : L = L.take i ++ L[i] :: L.drop (i + 1) := by rw [← List.drop_eq_getElem_cons hi, List.take_append_drop]
    have hnd2 := hnd
    rw [hspl] at hnd2
    have h1 := List.nodup_append.1 hnd2
    have h2 := List.nodup_cons.1 h1.2.1
    rcases List.mem_append.1 hx with hx | hx
    · exact ⟨List.mem_of_mem_take hx, fun e => h1.2.2 x hx x (by rw [e]; exact List.mem_cons_self) rfl⟩
    · exact ⟨List.mem_of_mem_drop hx, fun e => h2.1 (e ▸ hx)⟩
  have hcov := mem_covers.1 ((hL _).1 (List.getElem_mem hi))
  have hcl : clo ns (L.take i ++ L.drop (i + 1)) L[i].1 L[i].2 = true := (List.mem_filter.1 h).2
  have := clo_least (T := fun a b => (a, b) ∈ A ∧ (a, b) ≠ L[i]) (fun a b hab => ⟨hLA _ (hsub _ hab).1, (hsub _ hab).2⟩) (fun a m b h1 h2 => ⟨htr _ _ _ h1.1 h2.1, fun e => by
    refine hcov.2 ⟨m, (hA _ h1.1).2, ?_, ?_⟩
    · rw [← e]; exact h1.1
    · rw [← e]; exact h2.1⟩) hcl
  exact this.2 rfl
end
end Go.Proofs.Ythajiimohbjjhaa
