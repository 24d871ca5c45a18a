/- Plain laws on the closure of edges: what follows from edges, as a function. No program in sight. -/
import Derived.Test.YthajiimohbjjhaaSpecB
namespace Go.Proofs.Ythajiimohbjjhaa

/-- one round of the closure: over a node x -/
def cloStep (M : Str → Str → Bool) (x : Str) : Str → Str → Bool := fun a b => M a b || (M a x && M x b)
def base (es : List Ed) : Str → Str → Bool := fun a b => decide ((a, b) ∈ es)
/-- what follows from edges es over nodes ns -/
def clo (ns : List Str) (es : List Ed) : Str → Str → Bool := ns.foldl cloStep (base es)
theorem clo_snoc (ns : List Str) (x : Str) (es : List Ed) : clo (ns ++ [x]) es = cloStep (clo ns es) x := by simp [clo, List.foldl_append]
theorem clo_nil (es : List Ed) : clo [] es = base es := rfl
theorem cloStep_iff {M : Str → Str → Bool} {x a b : Str} : cloStep M x a b = true ↔ M a b = true ∨ (M a x = true ∧ M x b = true) := by
  simp [cloStep]
theorem base_iff {es : List Ed} {a b : Str} : base es a b = true ↔ (a, b) ∈ es := by simp [base]
theorem clo_mono {ns : List Str} {es : List Ed} {a b : Str} (h : (a, b) ∈ es) : clo ns es a b = true := by
  refine snoc_ind (P := fun ns => clo ns es a b = true) (base_iff.2 h) ?_ ns
  intro l x ih
  show clo (l ++ [x]) es a b = true
  rw [clo_snoc, cloStep_iff]
  exact .inl ih
theorem clo_via {ns : List Str} {es : List Ed} : ∀ {m a b : Str}, m ∈ ns → clo ns es a m = true → clo ns es m b = true → clo ns es a b = true := by
  refine snoc_ind (P := fun ns => ∀ {m a b : Str}, m ∈ ns → clo ns es a m = true → clo ns es m b = true → clo ns es a b = true) (fun hm => by simp at hm) ?_ ns
  intro l x ih m a b hm h1 h2
  rw [clo_snoc, cloStep_iff] at h1 h2 ⊢
  have hkk : ∀ {u v : Str}, (clo l es u x = true ∨ (clo l es u x = true ∧ clo l es x x = true)) → clo l es u x = true := fun h => h.elim id (·.1)
  by_cases hmx : m = x
  · subst hmx
    right
    refine ⟨?_, ?_⟩
    · rcases h1 with h1 | h1
      · exact h1
      · exact h1.1
    · rcases h2 with h2 | h2
      · exact h2
      · exact h2.2
  · have hml : m ∈ l := by
      rcases List.mem_append.1 hm with hm | hm
      · exact hm
      · simp at hm; exact absurd hm hmx
    rcases h1 with h1 | h1 <;> rcases h2 with h2 | h2
    · exact .inl (ih hml h1 h2)
    · exact .inr ⟨ih hml h1 h2.1, h2.2⟩
    · exact .inr ⟨h1.1, ih hml h1.2 h2⟩
    · exact .inr ⟨h1.1, h2.2⟩
/-- it is the least -/
theorem clo_least {ns : List Str} {es : List Ed} {T : Str → Str → Prop} (hb : ∀ a b, (a, b) ∈ es → T a b) (ht : ∀ a m b, T a m → T m b → T a b) : ∀ {a b : Str}, clo ns es a b = true → T a b := by
  refine snoc_ind (P := fun ns => ∀ {a b : Str}, clo ns es a b = true → T a b) (fun h => hb _ _ (base_iff.1 h)) ?_ ns
  intro l x ih a b h
  rw [clo_snoc, cloStep_iff] at h
  rcases h with h | h
  · exact ih h
  · exact ht _ _ _ (ih h.1) (ih h.2)
theorem clo_ends {ns : List Str} {es : List Ed} (hin : ∀ e ∈ es, e.1 ∈ ns ∧ e.2 ∈ ns) {a b : Str} (h : clo ns es a b = true) : a ∈ ns ∧ b ∈ ns :=
  clo_least (T := fun a b => a ∈ ns ∧ b ∈ ns) (fun _ _ h => hin _ h) (fun _ _ _ h1 h2 => ⟨h1.1, h2.2⟩) h
theorem clo_trans {ns : List Str} {es : List Ed} (hin : ∀ e ∈ es, e.1 ∈ ns ∧ e.2 ∈ ns) {a m b : Str} (h1 : clo ns es a m = true) (h2 : clo ns es m b = true) : clo ns es a b = true :=
  clo_via (clo_ends hin h1).2 h1 h2
/-- the closure does not hang on the order of nodes or edges -/
theorem clo_congr {ns ns' : List Str} {es es' : List Ed} (hin : ∀ e ∈ es', e.1 ∈ ns' ∧ e.2 ∈ ns') (h : ∀ e, e ∈ es → e ∈ es') {a b : Str} (hc : clo ns es a b = true) : clo ns' es' a b = true :=
  clo_least (T := fun a b => clo ns' es' a b = true) (fun _ _ he => clo_mono (h _ he)) (fun _ _ _ h1 h2 => clo_trans hin h1 h2) hc

/-- all pairs of nodes, row by row -/
def pairs (ns : List Str) : List Ed := ns.flatMap fun a => ns.map fun b => (a, b)
/-- what spec.Closed returns -/
def closedL (ns : List Str) (es : List Ed) : List Ed := (pairs ns).filter fun e => clo ns es e.1 e.2
theorem mem_pairs {ns : List Str} {e : Ed} : e ∈ pairs ns ↔ e.1 ∈ ns ∧ e.2 ∈ ns := by
  unfold pairs
  simp only [List.mem_flatMap, List.mem_map]
  constructor
  · rintro ⟨a, ha, b, hb, rfl⟩; exact ⟨ha, hb⟩
  · rintro ⟨ha, hb⟩; exact ⟨_, ha, _, hb, rfl⟩
theorem mem_closedL {ns : List Str} {es : List Ed} (hin : ∀ e ∈ es, e.1 ∈ ns ∧ e.2 ∈ ns) {e : Ed} : e ∈ closedL ns es ↔ clo ns es e.1 e.2 = true := by
  unfold closedL
  rw [List.mem_filter, mem_pairs]
  exact ⟨fun h => h.2, fun h => ⟨clo_ends hin h, h⟩⟩
theorem closedL_in {ns : List Str} {es : List Ed} : ∀ e ∈ closedL ns es, e.1 ∈ ns ∧ e.2 ∈ ns := fun _ he => mem_pairs.1 (List.mem_filter.1 he).1
theorem nodup_flat' {α : Type} (f : Str → List α) (key : α → Str) (hk : ∀ s x, x ∈ f s → key x = s) (hf : ∀ s, (f s).Nodup) : ∀ (l : List Str), l.Nodup → (l.flatMap f).Nodup
  | [], _ => by simp
  | s :: r, h => by
    have hs := List.nodup_cons.1 h
    rw [List.flatMap_cons, List.nodup_append]
    refine ⟨hf s, nodup_flat' f key hk hf r hs.2, fun a ha b hb e => ?_⟩
    subst e
    obtain ⟨t, ht, hat⟩ := List.mem_flatMap.1 hb
    have := (hk _ _ ha).symm.trans (hk _ _ hat)
    subst this
    exact hs.1 ht
theorem nodup_pairs {ns : List Str} (h : ns.Nodup) : (pairs ns).Nodup := by
  refine nodup_flat' _ Prod.fst ?_ ?_ _ h
  · intro s x hx
    obtain ⟨t, _, rfl⟩ := List.mem_map.1 hx
    rfl
  · intro s
    exact (List.pairwise_map).2 (List.Pairwise.imp (fun hne e => hne (by simpa using e)) h)
theorem nodup_closedL {ns : List Str} {es : List Ed} (h : ns.Nodup) : (closedL ns es).Nodup := (nodup_pairs h).sublist List.filter_sublist
theorem nodup_subset_len {α : Type} [DecidableEq α] : ∀ {l1 l2 : List α}, l1.Nodup → (∀ x ∈ l1, x ∈ l2) → l1.length ≤ l2.length
  | [], _, _, _ => by simp
  | x :: r, l2, h, hs => by
    have hx : x ∈ l2 := hs x (by simp)
    have hn := List.nodup_cons.1 h
    have := nodup_subset_len (l1 := r) (l2 := l2.erase x) hn.2 (fun y hy => by
      have hne : y ≠ x := fun e => hn.1 (e ▸ hy)
      exact (List.mem_erase_of_ne hne).2 (hs y (List.mem_cons_of_mem _ hy)))
    have hl := List.length_erase_of_mem hx
    have hp : 0 < l2.length := List.length_pos_of_mem hx
    rw [List.length_cons]
    omega
end Go.Proofs.Ythajiimohbjjhaa
