/- What an argument reads as, opened, and its bulk: lists of lists of texts. -/
import Derived.Test.YthpfladpbfbpjaaDoorRows
import Derived.Test.YthpfladpbfbpjaaDoorPackC
import Derived.Test.YthpfladpbfbpjaaDoorChain
namespace Go.Proofs.YthpfladpbfbpjaaDoor
open Go.RowKit Go.ChangeShapes Go.WideShapes Go.Deep
section
variable {H : Type}
theorem bulk_strs : ∀ (l : List Str), Rows.uptoBulkAll (strs (H := H) l) = lenL l
  | [] => by simp [strs, Rows.uptoBulkAll, lenL]
  | x :: r => by
    have ih := bulk_strs r
    simp only [strs, lenL, List.map_cons, Rows.uptoBulkAll, Rows.uptoBulk, List.sum_cons] at ih ⊢
    rw [ih, Array.length_toList]
    rfl
theorem bulk_lists {D : Nat → DataW H} {f : Nat → List Str} : ∀ (l : List Nat), (∀ i ∈ l, lenL (f i) + 1 ≤ Rows.uptoBulk (D i)) → totL (l.map f) ≤ Rows.uptoBulkAll (l.map D)
  | [], _ => by simp [totL]
  | x :: r, h => by
    have ih := bulk_lists r fun i hi => h i (List.mem_cons_of_mem _ hi)
    have h1 := h x (by simp)
    simp only [totL, List.map_cons, Rows.uptoBulkAll, List.sum_cons] at ih ⊢
    omega
variable {enc : TypeId × Value → H} {P : Program} {w : World} {t e : TypeId} {v : Value} {d : DataW H} {ps : List MemPlace} {r : Reach} {b0 : Nat}
theorem sl_of_list {l : List Str} {a : Addr} {len cap : Nat} (hlen : l.length = len) (hl : len ≤ cap) (hm : cap ≤ maxLen) (h : ∀ i, i < len → w.cell? (a.add i) = some (.string (l.getD i ByteArray.empty))) : Sl encS 1 w (some a) cap l := by
  subst hlen
  refine ⟨hl, by simpa [maxLen] using hm, fun hp => ?_⟩
  have h00 := h 0 hp
  have hspot : a.spot = none := by
    have := World.cell?_spot h00
    simpa [Addr.add] using this
  obtain ⟨b, off, spot⟩ := a
  subst hspot
  refine ⟨b, off, rfl, ?_, fun k hk j u hu => ?_⟩
  · have := World.block_lt_of_cell? w _ h00
    simpa [Addr.add] using this
  · have hj : j = 0 := by
      have := (List.getElem?_eq_some_iff.1 hu).1
      simp at this
      exact this
    subst hj
    have h1 := h k hk
    rw [add_some] at h1
    have hu' : u = .string l[k] := by simpa using hu.symm
    rw [hu']
    simpa [List.getD, hk] using h1
theorem trod_SB {fuel : Nat} {e2 : TypeId} {cs : List Value} {x : DataW H × List MemPlace} (he : P.underlying e = some (.slice e2)) (he2 : P.underlying e2 = some .string) (hc2 : P.cellsOf e2 = 1) (h : DataW.trod enc P w 0 (fun _ => true) true fuel e cs = some x) :
    ∃ (q : HV) (l : List Str), cs = [.slice q.1 q.2.1 q.2.2] ∧ q.2.1 = l.length ∧ Sl encS 1 w q.1 q.2.2 l ∧ lenL l + 1 ≤ Rows.uptoBulk x.1 := by
  rcases open_strings he he2 hc2 h with ⟨hcs, rfl⟩ | ⟨a, len, cap, ss, hcs, _, hl, hm, hz, rfl, hcell, _⟩
  · exact ⟨(none, 0, 0), [], hcs, rfl, Sl.nil_, by simp [lenL, Rows.uptoBulk]⟩
  · simp only [if_true] at hz
    have hlen : (ss.take len).length = len := by rw [List.length_take]; omega
    refine ⟨(some a, len, cap), ss.take len, hcs, hlen.symm, sl_of_list hlen hl hm (fun i hi => ?_), ?_⟩
    · rw [hcell i (by omega)]
      simp [List.getD, hi]
    · simp only [Rows.uptoBulk]
      rw [bulk_strs]
      omega
theorem open_LB {e2 : TypeId} (ht : P.underlying t = some (.slice e)) (he : P.underlying e = some (.slice e2)) (he2 : P.underlying e2 = some .string) (hc : P.cellsOf e = 1) (hc2 : P.cellsOf e2 = 1) (hv : Value.okWide P w r b0 t v)
    (h : DataW.Trod enc P w 0 (fun _ => true) true t v d ps) : ∃ a cap Ls hs, v = .slice a (List.length Ls) cap ∧ DL w a cap hs Ls ∧ totL Ls ≤ Rows.uptoBulk d := by
  obtain ⟨a, len, cap, rfl⟩ := okWide_slice ht hv
  obtain ⟨fuel, hf⟩ := h
  rcases open_slice ht hf with ⟨hcs, _⟩ | ⟨x, l, c, m, n, D, Pl, hcs, _, hl, hm, hmm, hx, hi⟩
  · simp [Value.cells] at hcs
    obtain ⟨rfl, rfl, rfl⟩ := hcs
    exact ⟨none, 0, [], [], rfl, ⟨Sl.nil_, rfl, fun i hi => by simp at hi⟩, by simp [totL]⟩
  · simp [Value.cells] at hcs
    obtain ⟨rfl, rfl, rfl⟩ := hcs
    simp only [if_true] at hmm
    have hex : ∀ i, i < len → ∃ (q : HV × List Str), w.cell? (x.add i) = some (.slice q.1.1 q.1.2.1 q.1.2.2) ∧ q.1.2.1 = q.2.length ∧ Sl encS 1 w q.1.1 q.1.2.2 q.2 ∧ lenL q.2 + 1 ≤ Rows.uptoBulk (D i) := fun i hlt => by
      obtain ⟨cs', hc', ht'⟩ := hi i (by omega)
      obtain ⟨q, l, rfl, h1, h2, h3⟩ := trod_SB he he2 hc2 ht'
      obtain ⟨_, hcl, hat⟩ := World.cells?_some hc'
      refine ⟨(q, l), ?_, h1, h2, h3⟩
      have := hat 0 (by rw [hc]; omega)
      rw [hc, Nat.mul_one, Go.Deep.add_add, Nat.add_zero] at this
      simpa using this
    obtain ⟨f, hfx⟩ := choose_lt hex
    have hsl0 : Sl encH 1 w (some x) cap ((List.range len).map fun i => (f i).1) := by
      refine ⟨by simpa using hl, by simpa [maxLen] using hm, fun hp => ?_⟩
      have hlen : 0 < len := by simpa using hp
      have h00 := (hfx 0 hlen).1
      have hspot : x.spot = none := by
        have := World.cell?_spot h00
        simpa [Addr.add] using this
      obtain ⟨b, off, spot⟩ := x
      subst hspot
      refine ⟨b, off, rfl, ?_, fun k hk j u hu => ?_⟩
      · have := World.block_lt_of_cell? w _ h00
        simpa [Addr.add] using this
      · have hk' : k < len := by simpa using hk
        have hj : j = 0 := by
          have := (List.getElem?_eq_some_iff.1 hu).1
          simp at this
          exact this
        subst hj
        have h1 := (hfx k hk').1
        rw [add_some] at h1
        have hu' : u = .slice (f k).1.1 (f k).1.2.1 (f k).1.2.2 := by simpa using hu.symm
        rw [hu']
        simpa using h1
    refine ⟨_, _, (List.range len).map fun i => (f i).2, (List.range len).map fun i => (f i).1, by simp, ⟨hsl0, by simp, fun i hi hi' => ?_⟩, ?_⟩
    · have hil : i < len := by simpa using hi
      simp only [List.getElem_map, List.getElem_range]
      exact ⟨(hfx i hil).2.1, (hfx i hil).2.2.1⟩
    · have hd : d = .slice ((List.range len).map D) ((List.range (m - len)).map fun j => D (len + j)) := congrArg Prod.fst hx
      have h1 := bulk_lists (D := D) (f := fun i => (f i).2) (List.range len) fun i hi => (hfx i (List.mem_range.1 hi)).2.2.2
      rw [hd]
      simp only [Rows.uptoBulk]
      omega
end
end Go.Proofs.YthpfladpbfbpjaaDoor
