/- Plain laws on graphs as lists: which edges are there behind addN, addE, delE. No program in sight. -/
import Derived.Test.YthajiimohbjjhaaGraphB
import Derived.Test.YthajiimohbjjhaaRunB
namespace Go.Proofs.Ythajiimohbjjhaa

def GoodG (G : Gr) : Prop := (names G).Nodup ∧ ∀ p ∈ G, p.2.Nodup

theorem hasE_iff {G : Gr} {s t : Str} : hasE G s t = true ↔ ∃ p ∈ G, p.1 = s ∧ t ∈ p.2 := by
  unfold hasE
  simp [List.any_eq_true]
theorem hasE_names {G : Gr} {s t : Str} (h : hasE G s t = true) : s ∈ names G := by
  obtain ⟨p, hp, e, _⟩ := hasE_iff.1 h
  exact List.mem_map.2 ⟨p, hp, e⟩
theorem mem_ins {t x : Str} {l : List Str} : x ∈ ins t l ↔ x ∈ l ∨ x = t := by
  unfold ins
  split
  · rename_i h
    constructor
    · exact .inl
    · rintro (h' | rfl)
      · exact h'
      · exact h
  · simp
theorem nodup_ins {t : Str} {l : List Str} (h : l.Nodup) : (ins t l).Nodup := by
  unfold ins
  split
  · exact h
  · rename_i hn
    rw [List.nodup_append]
    refine ⟨h, by simp, fun a ha b hb e => ?_⟩
    simp at hb
    subst hb
    subst e
    exact hn ha
theorem mem_del {t x : Str} : ∀ {l : List Str}, l.Nodup → (x ∈ del t l ↔ x ∈ l ∧ x ≠ t)
  | [], _ => by simp [del]
  | y :: r, h => by
    have hy := (List.nodup_cons.1 h).1
    have hr := (List.nodup_cons.1 h).2
    unfold del
    by_cases e : y = t
    · subst e
      rw [if_pos rfl]
      constructor
      · intro hx
        exact ⟨List.mem_cons_of_mem _ hx, fun e => hy (e ▸ hx)⟩
      · rintro ⟨hx, hne⟩
        rcases List.mem_cons.1 hx with hx | hx
        · exact absurd hx hne
        · exact hx
    · rw [if_neg e, List.mem_cons, mem_del hr, List.mem_cons]
      constructor
      · rintro (rfl | ⟨hx, hne⟩)
        · exact ⟨.inl rfl, e⟩
        · exact ⟨.inr hx, hne⟩
      · rintro ⟨rfl | hx, hne⟩
        · exact .inl rfl
        · exact .inr ⟨hx, hne⟩
theorem sub_del (t : Str) : ∀ (l : List Str), (del t l).Sublist l
  | [] => by simp [del]
  | y :: r => by
    unfold del
    split
    · exact List.sublist_cons_self y r
    · exact (sub_del t r).cons_cons y
theorem nodup_del {t : Str} {l : List Str} (h : l.Nodup) : (del t l).Nodup := h.sublist (sub_del t l)

theorem goodG_setE {G : Gr} {s : Str} {f : List Str → List Str} (h : GoodG G) (hf : ∀ l, l.Nodup → (f l).Nodup) : GoodG (setE G s f) := by
  refine ⟨by rw [names_setE]; exact h.1, fun p hp => ?_⟩
  obtain ⟨q, hq, rfl⟩ := List.mem_map.1 hp
  split
  · exact hf _ (h.2 q hq)
  · exact h.2 q hq
theorem hasE_setE {G : Gr} (s : Str) (f : List Str → List Str) (a b : Str) :
    hasE (setE G s f) a b = true ↔ (a ≠ s ∧ hasE G a b = true) ∨ (a = s ∧ ∃ p ∈ G, p.1 = s ∧ b ∈ f p.2) := by
  rw [hasE_iff, hasE_iff]
  constructor
  · rintro ⟨p, hp, e, hb⟩
    obtain ⟨q, hq, rfl⟩ := List.mem_map.1 hp
    by_cases hqs : q.1 = s
    · rw [if_pos hqs] at e hb
      exact .inr ⟨by rw [← e]; exact hqs, q, hq, hqs, hb⟩
    · rw [if_neg hqs] at e hb
      exact .inl ⟨by rw [← e]; exact hqs, q, hq, e, hb⟩
  · rintro (⟨hne, p, hp, e, hb⟩ | ⟨rfl, p, hp, e, hb⟩)
    · refine ⟨p, List.mem_map.2 ⟨p, hp, ?_⟩, e, hb⟩
      rw [if_neg (by rw [e]; exact hne)]
    · refine ⟨(p.1, f p.2), List.mem_map.2 ⟨p, hp, ?_⟩, e, hb⟩
      rw [if_pos e]
theorem goodG_nil : GoodG [] := ⟨by simp, by simp⟩
theorem hasE_nil (a b : Str) : hasE [] a b = false := rfl
theorem goodG_addN {G : Gr} {s : Str} (h : GoodG G) : GoodG (addN G s) := by
  unfold addN
  split
  · exact h
  · rename_i hn
    refine ⟨?_, ?_⟩
    · rw [show names (G ++ [(s, [])]) = names G ++ [s] from by simp, List.nodup_append]
      refine ⟨h.1, by simp, fun a ha b hb e => ?_⟩
      simp at hb
      subst hb
      subst e
      exact hn ha
    · intro p hp
      rcases List.mem_append.1 hp with hp | hp
      · exact h.2 p hp
      · simp at hp; subst hp; simp
theorem hasE_addN (G : Gr) (s a b : Str) : hasE (addN G s) a b = hasE G a b := by
  unfold addN
  split
  · rfl
  · unfold hasE
    simp
theorem goodG_addE {G : Gr} {s t : Str} (h : GoodG G) : GoodG (addE G s t) := goodG_setE h (fun _ => nodup_ins)
theorem goodG_delE {G : Gr} {s t : Str} (h : GoodG G) : GoodG (delE G s t) := goodG_setE h (fun _ => nodup_del)
theorem hasE_addE {G : Gr} {s t : Str} (_h : GoodG G) (hs : s ∈ names G) (a b : Str) : hasE (addE G s t) a b = true ↔ hasE G a b = true ∨ (a = s ∧ b = t) := by
  unfold addE
  rw [hasE_setE s _ a b]
  constructor
  · rintro (⟨_, h1⟩ | ⟨rfl, p, hp, e, hb⟩)
    · exact .inl h1
    · rcases mem_ins.1 hb with hb | hb
      · exact .inl (hasE_iff.2 ⟨p, hp, e, hb⟩)
      · exact .inr ⟨rfl, hb⟩
  · rintro (h1 | ⟨rfl, rfl⟩)
    · by_cases e : a = s
      · subst e
        obtain ⟨p, hp, e, hb⟩ := hasE_iff.1 h1
        exact .inr ⟨rfl, p, hp, e, mem_ins.2 (.inl hb)⟩
      · exact .inl ⟨e, h1⟩
    · obtain ⟨p, hp, e⟩ := List.mem_map.1 hs
      exact .inr ⟨rfl, p, hp, e, mem_ins.2 (.inr rfl)⟩
theorem hasE_delE {G : Gr} {s t : Str} (h : GoodG G) (a b : Str) : hasE (delE G s t) a b = true ↔ hasE G a b = true ∧ ¬ (a = s ∧ b = t) := by
  unfold delE
  rw [hasE_setE s _ a b]
  constructor
  · rintro (⟨hne, h1⟩ | ⟨rfl, p, hp, e, hb⟩)
    · exact ⟨h1, fun hh => hne hh.1⟩
    · have := (mem_del (h.2 p hp)).1 hb
      exact ⟨hasE_iff.2 ⟨p, hp, e, this.1⟩, fun hh => this.2 hh.2⟩
  · rintro ⟨h1, hn⟩
    by_cases e : a = s
    · subst e
      obtain ⟨p, hp, e, hb⟩ := hasE_iff.1 h1
      exact .inr ⟨rfl, p, hp, e, (mem_del (h.2 p hp)).2 ⟨hb, fun hh => hn ⟨rfl, hh⟩⟩⟩
    · exact .inl ⟨e, h1⟩
end Go.Proofs.Ythajiimohbjjhaa
