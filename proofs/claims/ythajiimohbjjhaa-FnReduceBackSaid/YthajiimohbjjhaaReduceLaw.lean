/- Plain laws of the reduction: of closed edges that all lead one way just those are left between which there is no node. No program in sight. -/
import Derived.Test.YthajiimohbjjhaaReduceG
namespace Go.Proofs.Ythajiimohbjjhaa

theorem kfold_law {G0 : Gr} (hg : GoodG G0) {i j : Str} (hij : j ≠ i) (ks : List Str) :
    GoodG (ks.foldl (kstep i j) G0) ∧ names (ks.foldl (kstep i j) G0) = names G0 ∧ ∀ a b, hasE (ks.foldl (kstep i j) G0) a b = true ↔ hasE G0 a b = true ∧ ¬ (a = i ∧ b ∈ ks ∧ hasE G0 j b = true) := by
  refine snoc_ind (P := fun ks => GoodG (ks.foldl (kstep i j) G0) ∧ names (ks.foldl (kstep i j) G0) = names G0 ∧ ∀ a b, hasE (ks.foldl (kstep i j) G0) a b = true ↔ hasE G0 a b = true ∧ ¬ (a = i ∧ b ∈ ks ∧ hasE G0 j b = true)) ?_ ?_ ks
  · exact ⟨hg, rfl, fun a b => by simp⟩
  · rintro l x ⟨h1, h2, h3⟩
    rw [List.foldl_append]
    show GoodG (kstep i j (l.foldl (kstep i j) G0) x) ∧ names (kstep i j (l.foldl (kstep i j) G0) x) = names G0 ∧ ∀ a b, hasE (kstep i j (l.foldl (kstep i j) G0) x) a b = true ↔ hasE G0 a b = true ∧ ¬ (a = i ∧ b ∈ l ++ [x] ∧ hasE G0 j b = true)
    generalize l.foldl (kstep i j) G0 = Gk at *
    have hjx : ∀ b, hasE Gk j b = true ↔ hasE G0 j b = true := fun b => by
      rw [h3]
      exact ⟨fun h => h.1, fun h => ⟨h, fun hh => hij hh.1⟩⟩
    unfold kstep
    by_cases hy : hasE Gk j x = true
    · rw [if_pos hy]
      refine ⟨goodG_delE h1, by rw [names_delE]; exact h2, fun a b => ?_⟩
      rw [hasE_delE h1, h3]
      constructor
      · rintro ⟨⟨p1, p2⟩, p3⟩
        refine ⟨p1, fun ⟨q1, q2, q3⟩ => ?_⟩
        rcases List.mem_append.1 q2 with q2 | q2
        · exact p2 ⟨q1, q2, q3⟩
        · simp at q2; exact p3 ⟨q1, q2⟩
      · rintro ⟨p1, p2⟩
        refine ⟨⟨p1, fun ⟨q1, q2, q3⟩ => p2 ⟨q1, List.mem_append_left _ q2, q3⟩⟩, fun ⟨q1, q2⟩ => p2 ⟨q1, by simp [q2], ?_⟩⟩
        rw [q2, ← hjx]
        exact hy
    · rw [if_neg hy]
      refine ⟨h1, h2, fun a b => ?_⟩
      rw [h3]
      constructor
      · rintro ⟨p1, p2⟩
        refine ⟨p1, fun ⟨q1, q2, q3⟩ => ?_⟩
        rcases List.mem_append.1 q2 with q2 | q2
        · exact p2 ⟨q1, q2, q3⟩
        · simp at q2
          subst q2
          exact hy ((hjx _).2 q3)
      · rintro ⟨p1, p2⟩
        exact ⟨p1, fun ⟨q1, q2, q3⟩ => p2 ⟨q1, List.mem_append_left _ q2, q3⟩⟩

structure RowInv (ns : List Str) (G1 G2 : Gr) (i : Str) (E : Str → Str → Prop) (J : Str → Prop) (k : Nat) : Prop where
  good : GoodG G2
  nms : names G2 = names G1
  far : ∀ a b, a ≠ i → (hasE G2 a b = true ↔ hasE G1 a b = true)
  sound : ∀ b, hasE G2 i b = true → E i b
  keep : ∀ b, E i b → (¬ ∃ n, E i n ∧ E n b) → hasE G2 i b = true
  gone : ∀ m (hm : m < ns.length), m < k → J ns[m] → ∀ b, hasE G1 ns[m] b = true → ¬ hasE G2 i b = true
  wait : ∀ m (hm : m < ns.length), k ≤ m → J ns[m] → hasE G2 i ns[m] = true

theorem row_loop {ns : List Str} {G1 : Gr} {i : Str} {E : Str → Str → Prop} {J : Str → Prop} (hg : GoodG G1)
    (h1 : ∀ a b, hasE G1 a b = true → E a b) (hrow : ∀ b, E i b → hasE G1 i b = true) (hirr : ∀ a, ¬ E a a) (hends : ∀ a b, E a b → b ∈ ns)
    (hJE : ∀ j, J j → E i j) (hJ : ∀ k m (hk : k < ns.length) (hm : m < ns.length), k < m → J ns[m] → E i ns[k] → E ns[k] ns[m] → False) :
    ∀ k, k ≤ ns.length → RowInv ns G1 ((ns.take k).foldl (jstep ns i) G1) i E J k := by
  intro k
  induction k with
  | zero =>
    intro _
    exact ⟨hg, rfl, fun _ _ _ => Iff.rfl, fun b h => h1 _ _ h, fun b h _ => hrow b h, fun m _ hm => by omega, fun m hm _ hj => hrow _ (hJE _ hj)⟩
  | succ k ih =>
    intro hk
    have I := ih (by omega)
    have hlt : k < ns.length := by omega
    rw [foldl_takeR _ _ _ _ hlt]
    generalize (ns.take k).foldl (jstep ns i) G1 = G2 at *
    unfold jstep
    by_cases hy : hasE G2 i ns[k] = true
    · rw [if_pos hy]
      have hE := I.sound _ hy
      have hne : ns[k] ≠ i := fun e => hirr i (by rw [e] at hE; exact hE)
      obtain ⟨g1, g2, g3⟩ := kfold_law I.good hne ns
      have hrow2 : ∀ b, hasE G2 ns[k] b = true ↔ hasE G1 ns[k] b = true := fun b => I.far _ b hne
      refine ⟨g1, g2.trans I.nms, fun a b hab => ?_, fun b hb => ?_, fun b hb hc => ?_, fun m hm hmk hj b hb => ?_, fun m hm hmk hj => ?_⟩
      · rw [g3, I.far a b hab]
        exact ⟨fun h => h.1, fun h => ⟨h, fun hh => hab hh.1⟩⟩
      · exact I.sound b ((g3 _ _).1 hb).1
      · refine (g3 _ _).2 ⟨I.keep b hb hc, fun hh => hc ⟨_, hE, h1 _ _ ((hrow2 b).1 hh.2.2)⟩⟩
      · intro h
        obtain ⟨q1, q2⟩ := (g3 _ _).1 h
        by_cases e : m = k
        · subst e
          exact q2 ⟨rfl, hends _ _ (h1 _ _ hb), (hrow2 b).2 hb⟩
        · exact I.gone m hm (by omega) hj b hb q1
      · refine (g3 _ _).2 ⟨I.wait m hm (by omega) hj, fun hh => hJ k m hlt hm (by omega) hj hE (h1 _ _ ((hrow2 _).1 hh.2.2))⟩
    · rw [if_neg hy]
      refine ⟨I.good, I.nms, I.far, I.sound, I.keep, fun m hm hmk hj b hb => ?_, fun m hm hmk hj => I.wait m hm (by omega) hj⟩
      by_cases e : m = k
      · subst e
        exact absurd (I.wait m hm (Nat.le_refl _) hj) hy
      · exact I.gone m hm (by omega) hj b hb

theorem row_done {ns : List Str} {G1 : Gr} {i : Str} {E : Str → Str → Prop} {J : Str → Prop} (hg : GoodG G1)
    (h1 : ∀ a b, hasE G1 a b = true → E a b) (hrow : ∀ b, E i b → hasE G1 i b = true) (hirr : ∀ a, ¬ E a a) (hends : ∀ a b, E a b → b ∈ ns)
    (hJE : ∀ j, J j → E i j) (hJ : ∀ k m (hk : k < ns.length) (hm : m < ns.length), k < m → J ns[m] → E i ns[k] → E ns[k] ns[m] → False)
    (hfin : ∀ b, E i b → (∃ n, E i n ∧ E n b) → ∃ j, J j ∧ hasE G1 j b = true) :
    GoodG (istep ns G1 i) ∧ names (istep ns G1 i) = names G1 ∧ (∀ a b, a ≠ i → (hasE (istep ns G1 i) a b = true ↔ hasE G1 a b = true)) ∧ ∀ b, hasE (istep ns G1 i) i b = true ↔ E i b ∧ ¬ ∃ n, E i n ∧ E n b := by
  have I := row_loop hg h1 hrow hirr hends hJE hJ ns.length (Nat.le_refl _)
  rw [List.take_length] at I
  refine ⟨I.good, I.nms, I.far, fun b => ⟨fun h => ⟨I.sound b h, fun hc => ?_⟩, fun h => I.keep b h.1 h.2⟩⟩
  obtain ⟨j, hj, hjb⟩ := hfin b (I.sound b h) hc
  obtain ⟨m, hm, rfl⟩ := List.mem_iff_getElem.1 (hends _ _ (hJE j hj))
  exact I.gone m hm hm hj b hjb h

theorem pivot_ahead {E : Str → Str → Prop} {d : Str → Nat} (htr : ∀ a m b, E a m → E m b → E a b) (hd : ∀ a b, E a b → d b < d a) {i b : Str} :
    ∀ (N : Nat) (n : Str), d n ≤ N → E i n → E n b → ∃ j, E i j ∧ E j b ∧ ¬ ∃ m, E j m ∧ E m b := by
  intro N
  induction N with
  | zero =>
    intro n hn h1 h2
    have := hd _ _ h2
    omega
  | succ N ih =>
    intro n hn h1 h2
    by_cases hc : ∃ m, E n m ∧ E m b
    · obtain ⟨m, hm1, hm2⟩ := hc
      have := hd _ _ hm1
      exact ih m (by omega) (htr _ _ _ h1 hm1) hm2
    · exact ⟨n, h1, h2, hc⟩
theorem pivot_behind {E : Str → Str → Prop} {d : Str → Nat} (htr : ∀ a m b, E a m → E m b → E a b) (hd : ∀ a b, E a b → d a < d b) {i b : Str} :
    ∀ (N : Nat) (n : Str), d n ≤ N → E i n → E n b → ∃ j, (E i j ∧ ¬ ∃ m, E i m ∧ E m j) ∧ E j b := by
  intro N
  induction N with
  | zero =>
    intro n hn h1 h2
    have := hd _ _ h1
    omega
  | succ N ih =>
    intro n hn h1 h2
    by_cases hc : ∃ m, E i m ∧ E m n
    · obtain ⟨m, hm1, hm2⟩ := hc
      have := hd _ _ hm2
      exact ih m (by omega) hm1 (htr _ _ _ hm2 h2)
    · exact ⟨n, ⟨h1, hc⟩, h2⟩

theorem mem_take_idx {ns : List Str} {k : Nat} {a : Str} (ha : a ∈ ns) (hl : ns.idxOf a < k) : a ∈ ns.take k := by
  have hi : ns.idxOf a < ns.length := List.idxOf_lt_length_iff.2 ha
  rw [List.mem_iff_getElem]
  exact ⟨ns.idxOf a, by simp; omega, by simp⟩
theorem take_idx {ns : List Str} (hnd : ns.Nodup) {k : Nat} {a : Str} (ha : a ∈ ns.take k) : ns.idxOf a < k := by
  obtain ⟨j, hj, rfl⟩ := List.mem_iff_getElem.1 ha
  simp only [List.length_take] at hj
  rw [List.getElem_take, hnd.idxOf_getElem j (by omega)]
  omega

/-- THE PLAIN LAW: E the edges of G, closed, all one way in the list of nodes. -/
theorem reduceG_law {G : Gr} {ns : List Str} (hns : names G = ns) (hg : GoodG G) (hcl : ∀ a b, hasE G a b = true → b ∈ ns) (htr : ∀ a m b, hasE G a m = true → hasE G m b = true → hasE G a b = true)
    (hway : (∀ a b, hasE G a b = true → ns.idxOf b < ns.idxOf a) ∨ (∀ a b, hasE G a b = true → ns.idxOf a < ns.idxOf b)) :
    GoodG (reduceG ns G) ∧ names (reduceG ns G) = ns ∧ ∀ a b, hasE (reduceG ns G) a b = true ↔ hasE G a b = true ∧ ¬ ∃ n, hasE G a n = true ∧ hasE G n b = true := by
  have hnd : ns.Nodup := by rw [← hns]; exact hg.1
  obtain ⟨E, hE⟩ : ∃ E : Str → Str → Prop, E = fun a b => hasE G a b = true := ⟨_, rfl⟩
  have hEe : ∀ a b, hasE G a b = true ↔ E a b := fun a b => by rw [hE]
  simp only [hEe] at hcl htr hway ⊢
  have hirr : ∀ a, ¬ E a a := fun a h => by
    rcases hway with hw | hw
    · have := hw _ _ h; omega
    · have := hw _ _ h; omega
  have hstart : ∀ a b, E a b → a ∈ ns := fun a b h => by rw [← hns]; exact hasE_names ((hEe a b).2 h)
  have key : ∀ k, k ≤ ns.length → GoodG ((ns.take k).foldl (istep ns) G) ∧ names ((ns.take k).foldl (istep ns) G) = ns ∧
      (∀ a b, a ∈ ns.take k → (hasE ((ns.take k).foldl (istep ns) G) a b = true ↔ E a b ∧ ¬ ∃ n, E a n ∧ E n b)) ∧
      (∀ a b, a ∉ ns.take k → (hasE ((ns.take k).foldl (istep ns) G) a b = true ↔ E a b)) := by
    intro k
    induction k with
    | zero =>
      intro _
      exact ⟨hg, hns, fun a b h => by simp at h, fun a b _ => hEe a b⟩
    | succ k ih =>
      intro hk
      obtain ⟨g1, g2, g3, g4⟩ := ih (by omega)
      have hlt : k < ns.length := by omega
      rw [foldl_takeR _ _ _ _ hlt]
      generalize (ns.take k).foldl (istep ns) G = G1 at *
      have hni : ns[k] ∉ ns.take k := ((nodup_take_succ hlt).1 (nodup_take (k + 1) hnd)).2
      have hik : ns.idxOf ns[k] = k := hnd.idxOf_getElem k hlt
      have h1 : ∀ a b, hasE G1 a b = true → E a b := fun a b h => by
        by_cases ha : a ∈ ns.take k
        · exact ((g3 a b ha).1 h).1
        · exact (g4 a b ha).1 h
      have hrow : ∀ b, E ns[k] b → hasE G1 ns[k] b = true := fun b h => (g4 _ b hni).2 h
      have done : GoodG (istep ns G1 ns[k]) ∧ names (istep ns G1 ns[k]) = names G1 ∧ (∀ a b, a ≠ ns[k] → (hasE (istep ns G1 ns[k]) a b = true ↔ hasE G1 a b = true)) ∧ ∀ b, hasE (istep ns G1 ns[k]) ns[k] b = true ↔ E ns[k] b ∧ ¬ ∃ n, E ns[k] n ∧ E n b := by
        rcases hway with hw | hw
        · refine row_done (J := fun j => E ns[k] j) g1 h1 hrow hirr hcl (fun _ h => h) ?_ ?_
          · intro p q hp hq hpq _ _ hE2
            have := hw _ _ hE2
            rw [hnd.idxOf_getElem p hp, hnd.idxOf_getElem q hq] at this
            omega
          · rintro b hb ⟨n, hn1, hn2⟩
            obtain ⟨j, hj1, hj2, hj3⟩ := pivot_ahead htr hw _ n (Nat.le_refl _) hn1 hn2
            refine ⟨j, hj1, (g3 j b ?_).2 ⟨hj2, hj3⟩⟩
            refine mem_take_idx (hcl _ _ hj1) ?_
            have := hw _ _ hj1
            omega
        · refine row_done (J := fun j => E ns[k] j ∧ ¬ ∃ m, E ns[k] m ∧ E m j) g1 h1 hrow hirr hcl (fun _ h => h.1) ?_ ?_
          · intro p q hp hq hpq hJ hE1 hE2
            exact hJ.2 ⟨_, hE1, hE2⟩
          · rintro b hb ⟨n, hn1, hn2⟩
            obtain ⟨j, hj1, hj2⟩ := pivot_behind htr hw _ n (Nat.le_refl _) hn1 hn2
            refine ⟨j, hj1, (g4 j b ?_).2 hj2⟩
            intro hm
            have h2 := take_idx hnd hm
            have := hw _ _ hj1.1
            omega
      obtain ⟨d1, d2, d3, d4⟩ := done
      refine ⟨d1, d2.trans g2, fun a b ha => ?_, fun a b ha => ?_⟩
      · by_cases e : a = ns[k]
        · subst e; exact d4 b
        · rw [d3 a b e]
          refine g3 a b ?_
          rcases (mem_take_succ hlt).1 ha with h | h
          · exact h
          · exact absurd h e
      · have e : a ≠ ns[k] := fun e => ha ((mem_take_succ hlt).2 (.inr e))
        rw [d3 a b e]
        exact g4 a b (fun h => ha ((mem_take_succ hlt).2 (.inl h)))
  obtain ⟨g1, g2, g3, g4⟩ := key ns.length (Nat.le_refl _)
  rw [List.take_length] at g1 g2 g3 g4
  refine ⟨g1, g2, fun a b => ?_⟩
  by_cases ha : a ∈ ns
  · exact g3 a b ha
  · constructor
    · intro h; exact absurd (hstart _ _ ((g4 a b ha).1 h)) ha
    · intro h; exact absurd (hstart _ _ h.1) ha
end Go.Proofs.Ythajiimohbjjhaa
