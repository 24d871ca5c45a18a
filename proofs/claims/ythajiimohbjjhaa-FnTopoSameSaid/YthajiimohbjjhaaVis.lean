/- Plain laws of the order that Topo makes: the visit as a function with fuel. -/
import Derived.Test.YthajiimohbjjhaaEdges
import Derived.Test.YthajiimohbjjhaaClo
namespace Go.Proofs.Ythajiimohbjjhaa

/-- what a visit of n makes of the list of those that are done; the fuel is more than the rank of n -/
def vis (G : Gr) : Nat → List Str → Str → List Str
  | 0, T, _ => T
  | f + 1, T, n => if n ∈ T then T else ins n ((ends G n).foldl (vis G f) T)
theorem foldl_take {α β : Type} (f : β → α → β) (b : β) (l : List α) (k : Nat) (hk : k < l.length) : (l.take (k + 1)).foldl f b = f ((l.take k).foldl f b) l[k] := by
  rw [List.take_succ_eq_append_getElem hk, List.foldl_append]
  rfl
theorem mem_ends {G : Gr} {n x : Str} : x ∈ ends G n ↔ x ∈ names G ∧ hasE G n x = true := by
  unfold ends
  rw [List.mem_filter]

section
variable {G : Gr} {d : Str → Nat}
theorem vis_sub (f : Nat) : ∀ (T : List Str) (n x : Str), x ∈ T → x ∈ vis G f T n := by
  induction f with
  | zero => intro T n x h; exact h
  | succ f ih =>
    intro T n x h
    unfold vis
    split
    · exact h
    · refine mem_ins.2 (.inl ?_)
      have : ∀ (l : List Str) (T : List Str), x ∈ T → x ∈ l.foldl (vis G f) T := by
        intro l
        induction l with
        | nil => intro T h; exact h
        | cons y r ihl => intro T h; exact ihl _ (ih T y x h)
      exact this _ _ h
theorem fold_sub (f : Nat) (x : Str) : ∀ (l : List Str) (T : List Str), x ∈ T → x ∈ l.foldl (vis G f) T
  | [], _, h => h
  | y :: r, T, h => fold_sub f x r _ (vis_sub f T y x h)
theorem vis_new (hd : ∀ a b, hasE G a b = true → d b < d a) (f : Nat) : ∀ (T : List Str) (n x : Str), x ∈ vis G f T n → x ∈ T ∨ x = n ∨ d x < d n := by
  induction f with
  | zero => intro T n x h; exact .inl h
  | succ f ih =>
    intro T n x h
    unfold vis at h
    split at h
    · exact .inl h
    · rcases mem_ins.1 h with h | h
      · have : ∀ (l : List Str) (T : List Str), (∀ y ∈ l, d y < d n) → x ∈ l.foldl (vis G f) T → x ∈ T ∨ d x < d n := by
          intro l
          induction l with
          | nil => intro T _ h; exact .inl h
          | cons y r ihl =>
            intro T hl h
            rcases ihl _ (fun z hz => hl z (List.mem_cons_of_mem _ hz)) h with h | h
            · have hy := hl y (by simp)
              rcases ih T y x h with h | h | h
              · exact .inl h
              · subst h; exact .inr hy
              · exact .inr (by omega)
            · exact .inr h
        rcases this _ _ (fun y hy => hd _ _ (mem_ends.1 hy).2) h with h | h
        · exact .inl h
        · exact .inr (.inr h)
      · exact .inr (.inl h)
theorem fold_new (hd : ∀ a b, hasE G a b = true → d b < d a) (f : Nat) (x : Str) (m : Nat) : ∀ (l : List Str) (T : List Str), (∀ y ∈ l, d y < m) → x ∈ l.foldl (vis G f) T → x ∈ T ∨ d x < m
  | [], _, _, h => .inl h
  | y :: r, T, hl, h => by
    rcases fold_new hd f x m r _ (fun z hz => hl z (List.mem_cons_of_mem _ hz)) h with h | h
    · have hy := hl y (by simp)
      rcases vis_new hd f T y x h with h | h | h
      · exact .inl h
      · subst h; exact .inr hy
      · exact .inr (by omega)
    · exact .inr h
/-- a node that is not done is not done behind its ends -/
theorem fold_not (hd : ∀ a b, hasE G a b = true → d b < d a) (f : Nat) {T : List Str} {n : Str} (hn : n ∉ T) (k : Nat) : n ∉ ((ends G n).take k).foldl (vis G f) T := by
  intro h
  rcases fold_new hd f n (d n) _ _ (fun y hy => hd _ _ (mem_ends.1 (List.mem_of_mem_take hy)).2) h with h | h
  · exact hn h
  · omega
theorem fold_keep (f : Nat) (P : List Str → Prop) (hP : ∀ T n, n ∈ names G → P T → P (vis G f T n)) : ∀ (l : List Str) (T : List Str), (∀ x ∈ l, x ∈ names G) → P T → P (l.foldl (vis G f) T)
  | [], _, _, h => h
  | y :: r, _, hl, h => fold_keep f P hP r _ (fun x hx => hl x (List.mem_cons_of_mem _ hx)) (hP _ _ (hl y (by simp)) h)
theorem vis_nodup (f : Nat) : ∀ (T : List Str) (n : Str), n ∈ names G → T.Nodup ∧ (∀ x ∈ T, x ∈ names G) → (vis G f T n).Nodup ∧ ∀ x ∈ vis G f T n, x ∈ names G := by
  induction f with
  | zero => intro T n _ h; exact h
  | succ f ih =>
    intro T n hn h
    unfold vis
    split
    · exact h
    · have h1 := fold_keep f (fun T => T.Nodup ∧ ∀ x ∈ T, x ∈ names G) ih (ends G n) T (fun x hx => (mem_ends.1 hx).1) h
      refine ⟨nodup_ins h1.1, fun x hx => ?_⟩
      rcases mem_ins.1 hx with hx | hx
      · exact h1.2 x hx
      · exact hx ▸ hn
theorem vis_has (f : Nat) (T : List Str) (n : Str) : n ∈ vis G (f + 1) T n := by
  unfold vis
  split
  · assumption
  · exact mem_ins.2 (.inr rfl)
/-- all that a node leads to stands ahead of it -/
def Before (G : Gr) (T : List Str) : Prop := ∀ l1 x l2, T = l1 ++ x :: l2 → ∀ y, hasE G x y = true → y ∈ l1
theorem before_snoc {T : List Str} {n : Str} (h : Before G T) (hn : ∀ y, hasE G n y = true → y ∈ T) : Before G (T ++ [n]) := by
  intro l1 x l2 e y hy
  rcases List.eq_nil_or_concat l2 with rfl | ⟨l3, z, rfl⟩
  · have := List.append_inj_left' e rfl
    have h2 := List.append_inj_right' e rfl
    simp only [List.cons.injEq, and_true] at h2
    subst this
    subst h2
    exact hn y hy
  · have e' : T ++ [n] = (l1 ++ x :: l3) ++ [z] := by rw [e]; simp
    have := List.append_inj_left' e' rfl
    exact h l1 x l3 this y hy
theorem before_nil : Before G [] := by
  intro l1 x l2 e
  simp at e
theorem vis_before (hd : ∀ a b, hasE G a b = true → d b < d a) (hcl : ∀ a b, hasE G a b = true → b ∈ names G) (f : Nat) : ∀ (T : List Str) (n : Str), d n < f → Before G T → Before G (vis G f T n) := by
  induction f with
  | zero => intro T n hf; omega
  | succ f ih =>
    intro T n hf h
    unfold vis
    split
    · exact h
    · rename_i hn
      have hlt : ∀ y ∈ ends G n, d y < f := fun y hy => by have := hd _ _ (mem_ends.1 hy).2; omega
      have h1 : Before G ((ends G n).foldl (vis G f) T) := by
        have : ∀ (l : List Str) (T : List Str), (∀ y ∈ l, d y < f) → Before G T → Before G (l.foldl (vis G f) T) := by
          intro l
          induction l with
          | nil => intro T _ h; exact h
          | cons y r ihl => intro T hl h; exact ihl _ (fun z hz => hl z (List.mem_cons_of_mem _ hz)) (ih T y (hl y (by simp)) h)
        exact this _ _ hlt h
      have h2 : ∀ y ∈ ends G n, y ∈ (ends G n).foldl (vis G f) T := by
        have : ∀ (l : List Str) (T : List Str), (∀ y ∈ l, d y < f) → ∀ y ∈ l, y ∈ l.foldl (vis G f) T := by
          intro l
          induction l with
          | nil => intro T _ y hy; simp at hy
          | cons z r ihl =>
            intro T hl y hy
            rcases List.mem_cons.1 hy with rfl | hy
            · refine fold_sub f y r _ ?_
              have hyf := hl y (by simp)
              obtain ⟨f', rfl⟩ : ∃ f', f = f' + 1 := ⟨f - 1, by omega⟩
              exact vis_has f' T y
            · exact ihl _ (fun z hz => hl z (List.mem_cons_of_mem _ hz)) y hy
        exact this _ _ hlt
      have h3 : n ∉ (ends G n).foldl (vis G f) T := by
        have := fold_not hd f hn (ends G n).length
        rwa [List.take_length] at this
      rw [ins, if_neg h3]
      exact before_snoc h1 (fun y hy => h2 y (mem_ends.2 ⟨hcl _ _ hy, hy⟩))
end

/-- the list of those that are done behind all roots -/
def postG (G : Gr) (f : Nat) : List Str := (names G).foldl (vis G f) []
theorem postG_nodup (G : Gr) (f : Nat) : (postG G f).Nodup ∧ ∀ x ∈ postG G f, x ∈ names G :=
  fold_keep f (fun T => T.Nodup ∧ ∀ x ∈ T, x ∈ names G) (fun T n hn h => vis_nodup f T n hn h) _ _ (fun _ h => h) ⟨by simp, by simp⟩
theorem postG_all {G : Gr} {f : Nat} (hf : 0 < f) {x : Str} (hx : x ∈ names G) : x ∈ postG G f := by
  have : ∀ (l : List Str) (T : List Str), x ∈ l → x ∈ l.foldl (vis G f) T := by
    intro l
    induction l with
    | nil => intro T h; simp at h
    | cons y r ih =>
      intro T h
      rcases List.mem_cons.1 h with rfl | h
      · refine fold_sub f x r _ ?_
        obtain ⟨f', rfl⟩ : ∃ f', f = f' + 1 := ⟨f - 1, by omega⟩
        exact vis_has f' T x
      · exact ih _ h
  exact this _ _ hx
theorem postG_before {G : Gr} {f : Nat} {d : Str → Nat} (hd : ∀ a b, hasE G a b = true → d b < d a) (hcl : ∀ a b, hasE G a b = true → b ∈ names G) (hf : ∀ x ∈ names G, d x < f) : Before G (postG G f) := by
  have : ∀ (l : List Str) (T : List Str), (∀ x ∈ l, x ∈ names G) → Before G T → Before G (l.foldl (vis G f) T) := by
    intro l
    induction l with
    | nil => intro T _ h; exact h
    | cons y r ih => intro T hl h; exact ih _ (fun x hx => hl x (List.mem_cons_of_mem _ hx)) (vis_before hd hcl f T y (hf y (hl y (by simp))) h)
  exact this _ _ (fun _ h => h) before_nil
/-- in the list turned round each edge leads on -/
theorem postG_on {G : Gr} {f : Nat} {d : Str → Nat} (hd : ∀ a b, hasE G a b = true → d b < d a) (hcl : ∀ a b, hasE G a b = true → b ∈ names G) (hf : ∀ x ∈ names G, d x < f) (hpos : 0 < f) {a b : Str} (h : hasE G a b = true) :
    (postG G f).reverse.idxOf a < (postG G f).reverse.idxOf b := by
  have ha : a ∈ postG G f := postG_all hpos (hasE_names h)
  obtain ⟨l1, l2, e⟩ := List.append_of_mem ha
  have hb := postG_before hd hcl hf l1 a l2 e b h
  have hnd := (postG_nodup G f).1
  rw [e] at hnd ⊢
  have h1 := List.nodup_append.1 hnd
  have h2 := List.nodup_cons.1 h1.2.1
  have hal1 : a ∉ l1 := fun hh => h1.2.2 a hh a (by simp) rfl
  have hbl2 : b ∉ l2 := fun hh => h1.2.2 b hb b (List.mem_cons_of_mem _ hh) rfl
  have hba : b ≠ a := fun hh => hal1 (hh ▸ hb)
  rw [List.reverse_append, List.reverse_cons, List.append_assoc]
  have e1 : (l2.reverse ++ ([a] ++ l1.reverse)).idxOf a = l2.length := by
    rw [List.idxOf_append, if_neg (by simpa using h2.1), List.singleton_append, List.idxOf_cons]
    simp
  have e2 : l2.length < (l2.reverse ++ ([a] ++ l1.reverse)).idxOf b := by
    rw [List.idxOf_append, if_neg (by simpa using hbl2), List.singleton_append, List.idxOf_cons]
    rw [show (a == b) = false from by rw [str_beq]; simpa using fun hh : a = b => hba hh.symm]
    simp
  rw [e1]
  exact e2
end Go.Proofs.Ythajiimohbjjhaa
