/- What an argument reads as, opened: lists of lists of texts, lists of integers. -/
import Derived.Test.YthpfladpbfbpjaaDoorPackC
import Derived.Test.YthpfladpbfbpjaaDoorLL
namespace Go.Proofs.YthpfladpbfbpjaaDoor
open Go.RowKit Go.ChangeShapes Go.WideShapes Go.Deep
section
variable {H : Type} {enc : TypeId × Value → H} {P : Program} {w : World} {t e : TypeId} {v : Value} {d : DataW H} {ps : List MemPlace} {r : Reach} {b0 : Nat}
theorem open_I (ht : P.underlying t = some (.slice e)) (he : P.underlying e = some (.int .i64)) (hc : P.cellsOf e = 1) (hv : Value.okWide P w r b0 t v) (h : DataW.Trod enc P w 0 (fun _ => true) true t v d ps) :
    ∃ a cap l, v = .slice a l.length cap ∧ Sl encI 1 w a cap l := by
  obtain ⟨a, len, cap, rfl⟩ := okWide_slice ht hv
  obtain ⟨fuel, hf⟩ := h
  rcases open_ints ht he hc hf with ⟨hcs, _⟩ | ⟨x, l, c, ss, hcs, _, hl, hm, hz, _, hcell, _⟩
  · simp [Value.cells] at hcs
    obtain ⟨rfl, rfl, rfl⟩ := hcs
    exact ⟨none, 0, [], rfl, Sl.nil_⟩
  · simp [Value.cells] at hcs
    obtain ⟨rfl, rfl, rfl⟩ := hcs
    simp only [if_true] at hz
    obtain ⟨l, hlen, hsl⟩ := sl_of_cells (w := w) (encX := encI) (size := 1) (fun _ => rfl) (by omega) (a := x) hl hm (fun i hi => ⟨ss.getD i 0, fun j u hu => by
      have hj : j = 0 := by
        have := (List.getElem?_eq_some_iff.1 hu).1
        simp at this
        exact this
      subst hj
      have hu' : u = .int .i64 (ss.getD i 0) := by simpa [List.getD] using hu.symm
      rw [hu']
      simpa using hcell i (by omega)⟩)
    exact ⟨_, _, l, by rw [hlen], hsl⟩
theorem trod_S {fuel : Nat} {e2 : TypeId} {cs : List Value} {x : DataW H × List MemPlace} (he : P.underlying e = some (.slice e2)) (he2 : P.underlying e2 = some .string) (hc2 : P.cellsOf e2 = 1) (h : DataW.trod enc P w 0 (fun _ => true) true fuel e cs = some x) :
    ∃ (q : HV) (l : List Str), cs = [.slice q.1 q.2.1 q.2.2] ∧ q.2.1 = l.length ∧ Sl encS 1 w q.1 q.2.2 l := by
  rcases open_strings he he2 hc2 h with ⟨hcs, _⟩ | ⟨x, len, cap, ss, hcs, _, hl, hm, hz, _, hcell, _⟩
  · exact ⟨(none, 0, 0), [], hcs, rfl, Sl.nil_⟩
  · simp only [if_true] at hz
    obtain ⟨l, hlen, hsl⟩ := sl_of_cells (w := w) (encX := encS) (size := 1) (fun _ => rfl) (by omega) (a := x) hl hm (fun i hi => ⟨ss.getD i ByteArray.empty, fun j u hu => by
      have hj : j = 0 := by
        have := (List.getElem?_eq_some_iff.1 hu).1
        simp at this
        exact this
      subst hj
      have hu' : u = .string (ss.getD i ByteArray.empty) := by simpa [List.getD] using hu.symm
      rw [hu']
      simpa using hcell i (by omega)⟩)
    exact ⟨(some x, len, cap), l, hcs, hlen, hsl⟩
theorem open_L {e2 : TypeId} (ht : P.underlying t = some (.slice e)) (he : P.underlying e = some (.slice e2)) (he2 : P.underlying e2 = some .string) (hc : P.cellsOf e = 1) (hc2 : P.cellsOf e2 = 1) (hv : Value.okWide P w r b0 t v)
    (h : DataW.Trod enc P w 0 (fun _ => true) true t v d ps) : ∃ a cap Ls hs, v = .slice a (List.length Ls) cap ∧ DL w a cap hs Ls := by
  obtain ⟨a, len, cap, rfl⟩ := okWide_slice ht hv
  obtain ⟨fuel, hf⟩ := h
  rcases open_slice ht hf with ⟨hcs, _⟩ | ⟨x, l, c, m, n, D, Pl, hcs, _, hl, hm, hmm, _, hi⟩
  · simp [Value.cells] at hcs
    obtain ⟨rfl, rfl, rfl⟩ := hcs
    exact ⟨none, 0, [], [], rfl, Sl.nil_, rfl, fun i hi => by simp at hi⟩
  · simp [Value.cells] at hcs
    obtain ⟨rfl, rfl, rfl⟩ := hcs
    simp only [if_true] at hmm
    have hex : ∀ i, i < len → ∃ (q : HV × List Str), w.cell? (x.add i) = some (.slice q.1.1 q.1.2.1 q.1.2.2) ∧ q.1.2.1 = q.2.length ∧ Sl encS 1 w q.1.1 q.1.2.2 q.2 := fun i hlt => by
      obtain ⟨cs', hc', ht'⟩ := hi i (by omega)
      obtain ⟨q, l, rfl, h1, h2⟩ := trod_S he he2 hc2 ht'
      obtain ⟨_, hcl, hat⟩ := World.cells?_some hc'
      refine ⟨(q, l), ?_, h1, h2⟩
      have := hat 0 (by rw [hc]; omega)
      rw [hc, Nat.mul_one, Go.Deep.add_add, Nat.add_zero] at this
      simpa using this
    obtain ⟨f, hfx⟩ := choose_lt hex
    have hsl0 : Sl encH 1 w (some x) cap ((List.range len).map fun i => (f i).1) := by
      refine ⟨by simpa using hl, by simpa [maxLen] using hm, fun hp => ?_⟩
      have hlen : 0 < len := by simpa using hp
      have h00 := (hfx 0 hlen).1
      have hspot : x.spot = none := by
        have := World.cell?_spot h00
        simpa [Addr.add] using this
      obtain ⟨b, off, spot⟩ := x
      subst hspot
      refine ⟨b, off, rfl, ?_, fun k hk j u hu => ?_⟩
      · have := World.block_lt_of_cell? w _ h00
        simpa [Addr.add] using this
      · have hk' : k < len := by simpa using hk
        have hj : j = 0 := by
          have := (List.getElem?_eq_some_iff.1 hu).1
          simp at this
          exact this
        subst hj
        have h1 := (hfx k hk').1
        rw [add_some] at h1
        have hu' : u = .slice (f k).1.1 (f k).1.2.1 (f k).1.2.2 := by simpa using hu.symm
        rw [hu']
        simpa using h1
    refine ⟨_, _, (List.range len).map fun i => (f i).2, (List.range len).map fun i => (f i).1, by simp, hsl0, by simp, fun i hi hi' => ?_⟩
    have hil : i < len := by simpa using hi
    simp only [List.getElem_map, List.getElem_range]
    exact (hfx i hil).2
end
end Go.Proofs.YthpfladpbfbpjaaDoor
