/- The graph in memory as a list of nodes with their edges; what newGraph, addNode, AddEdge, HasEdge do to it. -/
import Derived.Test.YthajiimohbjjhaaSpecB
namespace Go.Proofs.Ythajiimohbjjhaa
open Go.RowKit

/-! ### look-ups in lists of pairs -/
theorem aget_none (s : Str) : ∀ (m : AL), s ∉ m.map (·.1) → aget s m = none
  | [], _ => rfl
  | p :: r, h => by
    have h1 : ¬ p.1 = s := fun e => h (by simp [e])
    have h2 : s ∉ r.map (·.1) := fun e => h (by simp at e ⊢; exact .inr e)
    rw [aget, if_neg h1]
    exact aget_none s r h2
theorem aget_mem (s : Str) (v : Value) : ∀ (m : AL), (m.map (·.1)).Nodup → (s, v) ∈ m → aget s m = some v
  | [], _, h => by simp at h
  | p :: r, hd, h => by
    rw [aget]
    rcases List.mem_cons.1 h with rfl | h
    · simp
    · have hne : ¬ p.1 = s := fun e => by
        have := (List.nodup_cons.1 hd).1
        exact this (List.mem_map.2 ⟨_, h, e.symm⟩)
      rw [if_neg hne]
      exact aget_mem s v r (List.nodup_cons.1 hd).2 h
theorem aput_new (s : Str) (v : Value) : ∀ (m : AL), s ∉ m.map (·.1) → aput s v m = m ++ [(s, v)]
  | [], _ => rfl
  | p :: r, h => by
    have h1 : ¬ p.1 = s := fun e => h (by simp [e])
    have h2 : s ∉ r.map (·.1) := fun e => h (by simp at e ⊢; exact .inr e)
    simp [aput, h1, aput_new s v r h2]

/-! ### the sets of edges from one node -/
abbrev setOf (l : List Str) : AL := l.map fun t => (t, .bool true)
theorem setOf_keys (l : List Str) : (setOf l).map (·.1) = l := by simp [List.map_map, Function.comp_def]
theorem aget_setOf (t : Str) : ∀ (l : List Str), aget t (setOf l) = if t ∈ l then some (.bool true) else none
  | [] => by simp [aget]
  | x :: r => by
    simp only [List.map_cons, aget]
    by_cases h : x = t
    · subst h; simp
    · have h' : ¬ t = x := fun e => h e.symm
      simp [h, h', aget_setOf t r]
def ins (t : Str) (l : List Str) : List Str := if t ∈ l then l else l ++ [t]
def del (t : Str) : List Str → List Str
  | [] => []
  | x :: r => if x = t then r else x :: del t r
theorem aput_setOf (t : Str) : ∀ (l : List Str), aput t (.bool true) (setOf l) = setOf (ins t l)
  | [] => rfl
  | x :: r => by
    unfold ins
    simp only [List.map_cons, aput]
    by_cases h : x = t
    · subst h; simp
    · have h' : ¬ t = x := fun e => h e.symm
      have ih := aput_setOf t r
      unfold ins at ih
      by_cases hm : t ∈ r
      · simp [h, hm] at ih ⊢; exact ih
      · simp [h, h', hm] at ih ⊢; exact ih
theorem adel_setOf (t : Str) : ∀ (l : List Str), adel t (setOf l) = setOf (del t l)
  | [] => rfl
  | x :: r => by
    simp only [List.map_cons, adel, del]
    by_cases h : x = t
    · simp [h]
    · simp [h, adel_setOf t r]

/-! ### the graph -/
abbrev Gr := List (Str × List Str)
abbrev names (G : Gr) : List Str := G.map (·.1)
def idxOf (ns : List Str) : AL := ns.zipIdx.map fun p => (p.1, .int .i64 (p.2 : Nat))
def refs (ns : List Str) (rs : List Nat) : AL := (ns.zip rs).map fun p => (p.1, .map (some p.2))

/-- At block g stands a graph that reads as G; all its blocks meet F. -/
structure GRep (w : World) (F : Nat → Prop) (g : Nat) (G : Gr) (na : Option Addr) (nc mb me : Nat) (rs : List Nat) : Prop where
  cell : w.heap[g]? = some (.cells #[.slice na G.length nc, .map (some mb), .map (some me)] 71 (0, 0))
  nodes : Own encS 1 w 0 9 na nc (names G)
  idx : SMap w mb (idxOf (names G))
  len : rs.length = G.length
  tbl : SMap w me (refs (names G) rs)
  sets : ∀ i (h : i < rs.length) (h' : i < G.length), SMap w rs[i] (setOf G[i].2)
  apart : (mb :: me :: rs).Nodup
  fg : F g
  fb : F mb
  fe : F me
  fr : ∀ r ∈ rs, F r
  fn : ∀ k, blk na = some k → F k
  ng : ¬ blk na = some g
def GraphAt (w : World) (F : Nat → Prop) (g : Nat) (G : Gr) : Prop := ∃ na nc mb me rs, GRep w F g G na nc mb me rs


theorem SMap.ne_cells {w : World} {b k : Nat} {m : AL} {c : Array Value} {e : TypeId} {f : Nat × Nat} (h : SMap w b m) (hk : w.heap[k]? = some (.cells c e f)) : k ≠ b := by
  rintro rfl
  obtain ⟨es, clock, hb, _⟩ := h
  rw [hk] at hb
  cases hb
theorem Own.cells {α : Type} {enc : α → List Value} {size : Nat} {w : World} {B : Nat} {e : TypeId} {a : Option Addr} {cap : Nat} {l : List α} (h : Own enc size w B e a cap l) {k : Nat} (hk : blk a = some k) : ∃ cur, w.heap[k]? = some (.cells cur e (0, 0)) := by
  rcases h.2 with ⟨hv, _⟩ | ⟨g, cap', cur, hv, _, hg, _⟩
  · simp only [Value.slice.injEq] at hv; rw [hv.1] at hk; simp [blk] at hk
  · simp only [Value.slice.injEq] at hv
    rw [hv.1] at hk
    simp only [blk, Option.map_some, Option.some.injEq] at hk
    subst hk
    exact ⟨cur, hg⟩

theorem idxOf_keys (ns : List Str) : (idxOf ns).map (·.1) = ns := by
  unfold idxOf
  rw [List.map_map, show ((fun x : Str × Value => x.1) ∘ fun p : Str × Nat => (p.1, Value.int .i64 (p.2 : Nat))) = Prod.fst from rfl, List.zipIdx_map_fst]
theorem refs_keys {ns : List Str} {rs : List Nat} (h : rs.length = ns.length) : (refs ns rs).map (·.1) = ns := by
  unfold refs
  rw [List.map_map, show ((fun x : Str × Value => x.1) ∘ fun p : Str × Nat => (p.1, Value.map (some p.2))) = Prod.fst from rfl, List.map_fst_zip (by omega)]
theorem refs_mem {ns : List Str} {rs : List Nat} (h : rs.length = ns.length) (i : Nat) (hi : i < ns.length) : (ns[i], Value.map (some (rs[i]'(by omega)))) ∈ refs ns rs := by
  unfold refs
  refine List.mem_map.2 ⟨(ns[i], rs[i]'(by omega)), ?_, rfl⟩
  rw [List.mem_iff_getElem]
  exact ⟨i, by simp; omega, by simp⟩
theorem idxOf_mem (ns : List Str) (i : Nat) (hi : i < ns.length) : (ns[i], Value.int .i64 (i : Nat)) ∈ idxOf ns := by
  unfold idxOf
  refine List.mem_map.2 ⟨(ns[i], i), ?_, rfl⟩
  rw [List.mem_iff_getElem]
  exact ⟨i, by simpa using hi, by simp⟩

section
variable {w w' : World} {F : Nat → Prop} {g : Nat} {G : Gr} {na : Option Addr} {nc mb me : Nat} {rs : List Nat}
theorem GRep.lt (h : GRep w F g G na nc mb me rs) : g < w.heap.size := (Array.getElem?_eq_some_iff.1 h.cell).1
theorem GRep.nodup (h : GRep w F g G na nc mb me rs) : (names G).Nodup := by have := h.idx.nodup; rwa [idxOf_keys] at this
theorem GRep.cell0 (h : GRep w F g G na nc mb me rs) : w.cell? ⟨g, 0, none⟩ = some (.slice na G.length nc) := by rw [cell_of_row _ _ _ _ _ _ h.cell]; rfl
theorem GRep.cell1 (h : GRep w F g G na nc mb me rs) : w.cell? ⟨g, 1, none⟩ = some (.map (some mb)) := by rw [cell_of_row _ _ _ _ _ _ h.cell]; rfl
theorem GRep.cell2 (h : GRep w F g G na nc mb me rs) : w.cell? ⟨g, 2, none⟩ = some (.map (some me)) := by rw [cell_of_row _ _ _ _ _ _ h.cell]; rfl
/-- The graph stays where none of its blocks is written. -/
theorem GRep.keep {S : Nat → Prop} (h : GRep w F g G na nc mb me rs) (f : Fr S w w') (hS : ∀ k, F k → ¬ S k) : GRep w' F g G na nc mb me rs where
  cell := (f.block g h.lt (hS g h.fg)).trans h.cell
  nodes := h.nodes.fr f (fun k hk => hS k (h.fn k hk))
  idx := h.idx.fr f (hS mb h.fb)
  len := h.len
  tbl := h.tbl.fr f (hS me h.fe)
  sets i hi hi' := (h.sets i hi hi').fr f (hS _ (h.fr _ (List.getElem_mem hi)))
  apart := h.apart
  fg := h.fg
  fb := h.fb
  fe := h.fe
  fr := h.fr
  fn := h.fn
  ng := h.ng
theorem GraphAt.keep {S : Nat → Prop} (h : GraphAt w F g G) (f : Fr S w w') (hS : ∀ k, F k → ¬ S k) : GraphAt w' F g G := by
  obtain ⟨na, nc, mb, me, rs, h⟩ := h
  exact ⟨na, nc, mb, me, rs, h.keep f hS⟩
theorem GraphAt.top (h : GraphAt w F g G) (hb : Below w.heap.size w w') : GraphAt w' F g G := h.keep (Fr.of_below_top hb NoB) (fun _ _ hs => hs.elim)
theorem GraphAt.mono {F' : Nat → Prop} (h : GraphAt w F g G) (hF : ∀ k, F k → F' k) : GraphAt w F' g G := by
  obtain ⟨na, nc, mb, me, rs, h⟩ := h
  exact ⟨na, nc, mb, me, rs, { h with fg := hF _ h.fg, fb := hF _ h.fb, fe := hF _ h.fe, fr := fun r hr => hF _ (h.fr r hr), fn := fun k hk => hF _ (h.fn k hk) }⟩
theorem GraphAt.nodup (h : GraphAt w F g G) : (names G).Nodup := by
  obtain ⟨na, nc, mb, me, rs, h⟩ := h
  exact h.nodup

theorem GRep.lookR (h : GRep w F g G na nc mb me rs) (i : Nat) (hi : i < G.length) (hi' : i < rs.length) : aget G[i].1 (refs (names G) rs) = some (.map (some rs[i])) := by
  have hl : rs.length = (names G).length := by simp [h.len]
  have hm := refs_mem hl i (by simpa using hi)
  have hk := refs_keys hl
  refine aget_mem _ _ _ (by rw [hk]; exact h.nodup) ?_
  simpa using hm
theorem GRep.lookR_none (h : GRep w F g G na nc mb me rs) (s : Str) (hs : s ∉ names G) : aget s (refs (names G) rs) = none :=
  aget_none _ _ (by rw [refs_keys (by simp [h.len])]; exact hs)
theorem GRep.lookI (h : GRep w F g G na nc mb me rs) (i : Nat) (hi : i < G.length) : aget G[i].1 (idxOf (names G)) = some (.int .i64 (i : Nat)) := by
  have hm := idxOf_mem (names G) i (by simpa using hi)
  refine aget_mem _ _ _ (by rw [idxOf_keys]; exact h.nodup) ?_
  simpa using hm
theorem GRep.lookI_none (_h : GRep w F g G na nc mb me rs) (s : Str) (hs : s ∉ names G) : aget s (idxOf (names G)) = none :=
  aget_none _ _ (by rw [idxOf_keys]; exact hs)

theorem names_set (G : Gr) (i : Nat) (hi : i < G.length) (l : List Str) : names (G.set i (G[i].1, l)) = names G := by
  apply List.ext_getElem?
  intro j
  simp only [List.getElem?_map, List.getElem?_set]
  by_cases hij : i = j
  · subst hij; simp [hi]
  · simp [hij]
/-- One node's set of edges written. -/
theorem GRep.upd (h : GRep w F g G na nc mb me rs) (i : Nat) (hi : i < G.length) (hi' : i < rs.length) (l : List Str) (hm : SMap w' rs[i] (setOf l)) (f : Fr (fun k => k = rs[i]) w w') :
    GRep w' F g (G.set i (G[i].1, l)) na nc mb me rs := by
  have hr := h.sets i hi' hi
  have hnot : mb ∉ me :: rs ∧ me ∉ rs ∧ rs.Nodup := by
    have := h.apart
    rw [List.nodup_cons, List.nodup_cons] at this
    exact this
  have hmem : rs[i] ∈ rs := List.getElem_mem hi'
  refine { cell := ?_, nodes := ?_, idx := ?_, len := by simpa using h.len, tbl := ?_, sets := ?_, apart := h.apart, fg := h.fg, fb := h.fb, fe := h.fe, fr := h.fr, fn := h.fn, ng := h.ng }
  · rw [f.block g h.lt (hr.ne_cells h.cell), h.cell]; simp
  · rw [names_set]
    refine h.nodes.fr f (fun k hk => ?_)
    obtain ⟨cur, hc⟩ := h.nodes.cells hk
    exact hr.ne_cells hc
  · rw [names_set]
    exact h.idx.fr f (fun e => hnot.1 (by rw [e]; exact List.mem_cons_of_mem _ hmem))
  · rw [names_set]
    exact h.tbl.fr f (fun e => hnot.2.1 (by rw [e]; exact hmem))
  · intro j hj hj'
    by_cases hij : i = j
    · subst hij
      simpa using hm
    · have hj2 : j < G.length := by simpa using hj'
      rw [List.getElem_set_ne hij]
      refine (h.sets j hj hj2).fr f (fun e => hij ?_)
      exact (nodup_inj hnot.2.2 hj hi' e).symm
end

/-! ### the calls -/
theorem zeroM (w : World) : (zeroValue 67).run Try.prog w = .ok (.map none) w := by kernel_rfl
theorem zeroB (w : World) : (zeroValue 4).run Try.prog w = .ok (.bool false) w := by kernel_rfl
theorem zeroI (w : World) : (zeroValue 3).run Try.prog w = .ok (.int .i64 0) w := by kernel_rfl

def hasE (G : Gr) (s t : Str) : Bool := G.any fun p => decide (p.1 = s) && decide (t ∈ p.2)
def setE (G : Gr) (s : Str) (f : List Str → List Str) : Gr := G.map fun p => if p.1 = s then (p.1, f p.2) else p
def addE (G : Gr) (s t : Str) : Gr := setE G s (ins t)
def delE (G : Gr) (s t : Str) : Gr := setE G s (del t)

theorem setE_at {G : Gr} (hnd : (names G).Nodup) (i : Nat) (hi : i < G.length) (f : List Str → List Str) : setE G G[i].1 f = G.set i (G[i].1, f G[i].2) := by
  apply List.ext_getElem?
  intro j
  unfold setE
  simp only [List.getElem?_map, List.getElem?_set]
  by_cases hij : i = j
  · subst hij; simp [hi]
  · simp only [hij, if_false]
    cases hj : G[j]? with
    | none => rfl
    | some p =>
      have hjl := (List.getElem?_eq_some_iff.1 hj).1
      have hjp := (List.getElem?_eq_some_iff.1 hj).2
      have : ¬ p.1 = G[i].1 := by
        intro e
        apply hij
        have h1 : (names G)[j]'(by simpa using hjl) = (names G)[i]'(by simpa using hi) := by simp [hjp, e]
        exact (nodup_inj hnd _ _ h1).symm
      simp [this]
theorem hasE_at {G : Gr} (hnd : (names G).Nodup) (i : Nat) (hi : i < G.length) (t : Str) : hasE G G[i].1 t = decide (t ∈ G[i].2) := by
  rw [Bool.eq_iff_iff]
  unfold hasE
  simp only [List.any_eq_true, Bool.and_eq_true, decide_eq_true_eq]
  constructor
  · rintro ⟨p, hp, e, ht⟩
    obtain ⟨j, hj, rfl⟩ := List.mem_iff_getElem.1 hp
    have h1 : (names G)[j]'(by simpa using hj) = (names G)[i]'(by simpa using hi) := by simp [e]
    have := nodup_inj hnd _ _ h1
    subst this
    exact ht
  · intro ht
    exact ⟨_, List.getElem_mem hi, rfl, ht⟩
theorem hasE_none {G : Gr} {s : Str} (hs : s ∉ names G) (t : Str) : hasE G s t = false := by
  rw [← Bool.not_eq_true]
  unfold hasE
  simp only [List.any_eq_true, Bool.and_eq_true, decide_eq_true_eq]
  rintro ⟨p, hp, e, _⟩
  exact hs (List.mem_map.2 ⟨p, hp, e⟩)

theorem newGraph_calls (w : World) : Calls Try.prog 49 #[] w <| RetV fun v w' => ∃ g, v = .pointer (some ⟨g, 0, none⟩) ∧ GraphAt w' (fun k => w.heap.size ≤ k) g [] ∧ Below w.heap.size w w' := by
  have hmm := @run_makeMap Try.prog
  go_enter Try.func49, Try.ntmps49
  go_wp2
  go_ret
  refine ⟨_, rfl, w.heap.size + 1 + 1, rfl, ⟨none, 0, w.heap.size, w.heap.size + 1, [], ?_⟩, (((Below.refl _ _).alloc (Nat.le_refl _) _).alloc (by simp) _).alloc (by simp; omega) _⟩
  have h1 := SMap.made w
  have h2 := SMap.made (w.alloc (.map #[] 0))
  rw [World.size_alloc] at h2
  refine { cell := ?_, nodes := Own.nil_ _ _ _, idx := (h1.alloc _).alloc _, len := rfl, tbl := h2.alloc _, sets := ?_, apart := by simp, fg := ?_, fb := ?_, fe := ?_, fr := ?_, fn := ?_, ng := ?_ }
  · have := heap_alloc_new ((w.alloc (.map #[] 0)).alloc (.map #[] 0)) (.cells #[.slice none 0 0, .map (some w.heap.size), .map (some (w.heap.size + 1))] 71 (0, 0))
    simpa using this
  · intro i hi; simp at hi
  · omega
  · omega
  · omega
  · simp
  · simp [blk]
  · simp [blk]

end Go.Proofs.Ythajiimohbjjhaa
