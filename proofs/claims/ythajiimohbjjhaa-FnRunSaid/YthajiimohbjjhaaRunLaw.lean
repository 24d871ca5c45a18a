/- The plain law of FnRun: a script over the graph answers as the same script over lists. -/
import Derived.Test.YthajiimohbjjhaaGraphLaw
import Derived.Test.YthajiimohbjjhaaRunC
namespace Go.Proofs.Ythajiimohbjjhaa

structure Sim (p : Gr × List Bool) (q : SSt) : Prop where
  good : GoodG p.1
  ns : ∀ t, t ∈ names p.1 ↔ t ∈ q.ns
  es : ∀ a b, hasE p.1 a b = true ↔ (a, b) ∈ q.es
  out : p.2 = q.out

theorem sim_step {p : Gr × List Bool} {q : SSt} {s : St} (h : Sim p q) (hok : StepOK q.ns s) : Sim (stepG p s) (stepS q s) := by
  obtain ⟨h0, h3, hn⟩ := hok
  unfold stepG stepS
  by_cases e0 : s.1 = 0
  · rw [if_pos e0, if_pos e0]
    refine ⟨goodG_addN h.good, fun t => ?_, fun a b => by rw [hasE_addN]; exact h.es a b, ?_⟩
    · rw [names_addN, h.ns]; simp
    · rw [h.out]
      congr 2
      by_cases hm : s.2.1 ∈ names p.1
      · simp [hm, (h.ns _).1 hm]
      · have : ¬ s.2.1 ∈ q.ns := fun hh => hm ((h.ns _).2 hh)
        simp [hm, this]
  by_cases e1 : s.1 = 1
  · have hin := (h.ns _).2 (hn (.inl e1)).1
    rw [if_neg e0, if_neg e0, if_pos e1, if_pos e1]
    refine ⟨goodG_addE h.good, fun t => ?_, fun a b => ?_, by rw [h.out]⟩
    · rw [addE, names_setE]; exact h.ns t
    · rw [hasE_addE h.good hin, h.es]; simp
  by_cases e2 : s.1 = 2
  · rw [if_neg e0, if_neg e0, if_neg e1, if_neg e1, if_pos e2, if_pos e2]
    refine ⟨goodG_delE h.good, fun t => ?_, fun a b => ?_, by rw [h.out]⟩
    · rw [delE, names_setE]; exact h.ns t
    · rw [hasE_delE h.good, h.es, List.mem_filter]
      have : keepE s.2.1 s.2.2 (a, b) = true ↔ ¬ (a = s.2.1 ∧ b = s.2.2) := by
        by_cases ha : a = s.2.1 <;> by_cases hb : b = s.2.2 <;> simp [keepE, ha, hb]
      rw [this]
  have e3 : s.1 = 3 := by omega
  rw [if_neg e0, if_neg e0, if_neg e1, if_neg e1, if_neg e2, if_neg e2, if_pos e3]
  refine ⟨h.good, h.ns, h.es, ?_⟩
  show p.2 ++ [hasE p.1 s.2.1 s.2.2] = q.out ++ [decide ((s.2.1, s.2.2) ∈ q.es)]
  rw [h.out]
  congr 2
  rw [Bool.eq_iff_iff, h.es]
  simp
theorem sim_run {l : List St} (hok : StepsOK l) : ∀ k, k ≤ l.length → Sim (runG (l.take k)) (runS (l.take k)) := by
  intro k
  induction k with
  | zero =>
    intro _
    exact ⟨by simpa [runG] using goodG_nil, by simp [runG, runS], by simp [runG, runS, hasE_nil], by simp [runG, runS]⟩
  | succ k ih =>
    intro hk
    rw [List.take_succ_eq_append_getElem (by omega), runG_snoc, runS_snoc]
    have ihk := ih (by omega)
    refine sim_step ihk ?_
    have := hok k (by omega)
    refine ⟨this.1, this.2.1, fun h => ?_⟩
    have h2 := this.2.2 h
    exact ⟨(ihk.ns _).1 ((names_runG _ _).2 h2.1), (ihk.ns _).1 ((names_runG _ _).2 h2.2)⟩
/-- THE PLAIN LAW. -/
theorem run_same {l : List St} (hok : StepsOK l) : (runG l).2 = (runS l).out := by
  have := (sim_run hok l.length (Nat.le_refl _)).out
  rwa [List.take_length] at this
end Go.Proofs.Ythajiimohbjjhaa
