/- What an argument reads as, opened to the words of this seat: lists of texts, of edges, of steps. The first theorem is the guide's own (extra-structs). -/
import Derived.Test.YthajiimohbjjhaaGraphB
import Derived.ProofKit
import Derived.Deep.Slices
import Derived.Deep.Fields
import Derived.ChangeSame
import Derived.SliceStrings
import Derived.OpenShut
import Derived.ShutString
import Derived.ChangeOld
namespace Go.Proofs.Ythajiimohbjjhaa
open Go.RowKit Go.ChangeShapes Go.WideShapes Go.Deep

section
variable {H : Type} {enc : TypeId × Value → H} {P : Program} {w : World} {base : Nat} {spare : Nat → Bool} {held : Bool}
theorem open_slice_fields {t e : TypeId} {fs : Array Field} {fuel : Nat} {cs : List Value} {x : DataW H × List MemPlace} (ht : P.underlying t = some (.slice e)) (he : P.underlying e = some (.struct fs))
    (hone : oneCellFields P fs = true) (hC : P.cellsOf e = fs.size) (h : DataW.trod enc P w base spare held fuel t cs = some x) :
    (cs = [.slice none 0 0] ∧ x = (.nil, [])) ∨
    ∃ (a : Addr) (len cap m : Nat) (D : Nat → DataW H) (Pl : Nat → List MemPlace), cs = [.slice (some a) len cap] ∧ base ≤ a.block ∧ len ≤ cap ∧ cap ≤ maxLen ∧ m = (if spare a.block then cap else len) ∧
      x = (.slice ((List.range len).map D) ((List.range (m - len)).map fun j => D (len + j)), MemPlace.row a (m * fs.size) ++ (List.range m).flatMap Pl) ∧
      ∀ i, i < m → ∃ (ys : List (DataW H × List MemPlace)) (n : Nat), D i = .agg (ys.map (·.1)) ∧ Pl i = ys.flatMap (·.2) ∧ ys.length = fs.size ∧
        ∀ (j : Nat) (f : Field), fs[j]? = some f → ∃ (v : Value) (y : DataW H × List MemPlace), w.cell? (a.add (i * fs.size + j)) = some v ∧ ys[j]? = some y ∧ DataW.trod enc P w base spare held n f.type [v] = some y := by
  rcases open_slice ht h with h0 | ⟨a, len, cap, m, n, D, Pl, hcs, hb, hl, hm, hmm, hx, hi⟩
  · exact .inl h0
  · refine .inr ⟨a, len, cap, m, D, Pl, hcs, hb, hl, hm, hmm, by rw [hC] at hx; exact hx, fun i him => ?_⟩
    obtain ⟨cs', hc, ht'⟩ := hi i him
    rw [hC] at hc
    obtain ⟨ys, n', hn', hy, hlen, hyl, hf⟩ := DataW.trod_struct he ht'
    obtain ⟨_, hcl, hat⟩ := World.cells?_some hc
    simp only [Prod.mk.injEq] at hy
    refine ⟨ys, n', hy.1, hy.2, hyl, fun j f hj => ?_⟩
    obtain ⟨ho, hk⟩ := hone_of hone j f hj
    have hjl : j < fs.size := (Array.getElem?_eq_some_iff.1 hj).1
    have hcell := hat j hjl
    have hv : cs'[j]? = some (cs'[j]'(by omega)) := List.getElem?_eq_getElem (by omega)
    have h1 := hf j f hj
    rw [ho, hk] at h1
    have hone' : (cs'.drop j).take 1 = [cs'[j]'(by omega)] := by
      rw [List.drop_eq_getElem_cons (by omega)]
      rfl
    rw [hone'] at h1
    have hys : ys[j]? = some (ys[j]'(by omega)) := List.getElem?_eq_getElem (by omega)
    refine ⟨_, _, ?_, hys, h1.trans hys⟩
    rw [← Go.Deep.add_add, hcell, hv]
end

section
variable {H : Type} {enc : TypeId × Value → H} {P : Program} {w : World} {t e : TypeId} {v : Value} {d : DataW H} {ps : List MemPlace} {r : Reach} {b0 : Nat}

/-- From facts at every index to 'Sl'. -/
theorem sl_of_cells {α : Type} [Inhabited α] {encX : α → List Value} {size : Nat} (hsz : ∀ x, (encX x).length = size) (hpos : 0 < size) {a : Addr} {len cap : Nat} (hl : len ≤ cap) (hm : cap ≤ maxLen)
    (h : ∀ i, i < len → ∃ x : α, ∀ j u, (encX x)[j]? = some u → w.cell? (a.add (i * size + j)) = some u) :
    ∃ l : List α, len = l.length ∧ Sl encX size w (some a) cap l := by
  obtain ⟨f, hf⟩ := choose_lt h
  refine ⟨(List.range len).map f, by simp, ⟨by simpa using hl, by simpa [maxLen] using hm, fun hp => ?_⟩⟩
  have hlen : 0 < len := by simpa using hp
  have hx0 : 0 < (encX (f 0)).length := by rw [hsz]; exact hpos
  have h00 := hf 0 hlen 0 _ (List.getElem?_eq_getElem hx0)
  simp only [Nat.zero_mul, Nat.zero_add] at h00
  have hspot : a.spot = none := by
    have := World.cell?_spot h00
    simpa [Addr.add] using this
  obtain ⟨b, off, spot⟩ := a
  subst hspot
  refine ⟨b, off, rfl, ?_, fun k hk j u hu => ?_⟩
  · have := World.block_lt_of_cell? w _ h00
    simpa [Addr.add] using this
  · have hk' : k < len := by simpa using hk
    have hu' : (encX (f k))[j]? = some u := by simpa using hu
    have := hf k hk' j u hu'
    rw [add_some] at this
    simpa [Nat.add_assoc] using this

theorem open_S (ht : P.underlying t = some (.slice e)) (he : P.underlying e = some .string) (hc : P.cellsOf e = 1) (hv : Value.okWide P w r b0 t v) (h : DataW.Trod enc P w 0 (fun _ => true) true t v d ps) :
    ∃ a cap l, v = .slice a l.length cap ∧ Sl encS 1 w a cap l := by
  obtain ⟨a, len, cap, rfl⟩ := okWide_slice ht hv
  obtain ⟨fuel, hf⟩ := h
  rcases open_strings ht he hc hf with ⟨hcs, _⟩ | ⟨x, l, c, ss, hcs, _, hl, hm, hz, _, hcell, _⟩
  · simp [Value.cells] at hcs
    obtain ⟨rfl, rfl, rfl⟩ := hcs
    exact ⟨none, 0, [], rfl, Sl.nil_⟩
  · simp [Value.cells] at hcs
    obtain ⟨rfl, rfl, rfl⟩ := hcs
    simp only [if_true] at hz
    obtain ⟨l, hlen, hsl⟩ := sl_of_cells (w := w) (encX := encS) (size := 1) (fun _ => rfl) (by omega) (a := x) hl hm (fun i hi => ⟨ss.getD i ByteArray.empty, fun j u hu => by
      have hj : j = 0 := by
        have := (List.getElem?_eq_some_iff.1 hu).1
        simp at this
        exact this
      subst hj
      have hu' : u = .string (ss.getD i ByteArray.empty) := by simpa [List.getD] using hu.symm
      rw [hu']
      simpa using hcell i (by omega)⟩)
    exact ⟨_, _, l, by rw [hlen], hsl⟩

theorem open_E {f0 f1 : Field} (ht : P.underlying t = some (.slice e)) (he : P.underlying e = some (.struct #[f0, f1])) (h0 : P.underlying f0.type = some .string) (h1 : P.underlying f1.type = some .string)
    (hone : oneCellFields P #[f0, f1] = true) (hC : P.cellsOf e = 2) (hv : Value.okWide P w r b0 t v) (h : DataW.Trod enc P w 0 (fun _ => true) true t v d ps) :
    ∃ a cap l, v = .slice a l.length cap ∧ Sl encE 2 w a cap l := by
  obtain ⟨a, len, cap, rfl⟩ := okWide_slice ht hv
  obtain ⟨fuel, hf⟩ := h
  rcases open_slice_fields ht he hone (by simpa using hC) hf with ⟨hcs, _⟩ | ⟨x, l, c, m, D, Pl, hcs, _, hl, hm, hmm, _, hi⟩
  · simp [Value.cells] at hcs
    obtain ⟨rfl, rfl, rfl⟩ := hcs
    exact ⟨none, 0, [], rfl, Sl.nil_⟩
  · simp [Value.cells] at hcs
    obtain ⟨rfl, rfl, rfl⟩ := hcs
    simp only [if_true] at hmm
    obtain ⟨l, hlen, hsl⟩ := sl_of_cells (w := w) (encX := encE) (size := 2) (fun _ => rfl) (by omega) (a := x) hl hm (fun i hlt => by
      obtain ⟨ys, n, _, _, _, hfj⟩ := hi i (by omega)
      obtain ⟨u0, y0, c0, _, t0⟩ := hfj 0 f0 rfl
      obtain ⟨u1, y1, c1, _, t1⟩ := hfj 1 f1 rfl
      obtain ⟨s0, e0, _⟩ := DataW.trod_string h0 t0
      obtain ⟨s1, e1, _⟩ := DataW.trod_string h1 t1
      simp at e0 e1
      subst e0
      subst e1
      refine ⟨(s0, s1), fun j u hu => ?_⟩
      match j, hu with
      | 0, hu => simp at hu; subst hu; simpa using c0
      | 1, hu => simp at hu; subst hu; simpa using c1)
    exact ⟨_, _, l, by rw [hlen], hsl⟩

theorem open_T {f0 f1 f2 : Field} (ht : P.underlying t = some (.slice e)) (he : P.underlying e = some (.struct #[f0, f1, f2])) (h0 : P.underlying f0.type = some (.int .i64)) (h1 : P.underlying f1.type = some .string) (h2 : P.underlying f2.type = some .string)
    (hone : oneCellFields P #[f0, f1, f2] = true) (hC : P.cellsOf e = 3) (hv : Value.okWide P w r b0 t v) (h : DataW.Trod enc P w 0 (fun _ => true) true t v d ps) :
    ∃ a cap l, v = .slice a l.length cap ∧ Sl encT 3 w a cap l := by
  obtain ⟨a, len, cap, rfl⟩ := okWide_slice ht hv
  obtain ⟨fuel, hf⟩ := h
  rcases open_slice_fields ht he hone (by simpa using hC) hf with ⟨hcs, _⟩ | ⟨x, l, c, m, D, Pl, hcs, _, hl, hm, hmm, _, hi⟩
  · simp [Value.cells] at hcs
    obtain ⟨rfl, rfl, rfl⟩ := hcs
    exact ⟨none, 0, [], rfl, Sl.nil_⟩
  · simp [Value.cells] at hcs
    obtain ⟨rfl, rfl, rfl⟩ := hcs
    simp only [if_true] at hmm
    obtain ⟨l, hlen, hsl⟩ := sl_of_cells (w := w) (encX := encT) (size := 3) (fun _ => rfl) (by omega) (a := x) hl hm (fun i hlt => by
      obtain ⟨ys, n, _, _, _, hfj⟩ := hi i (by omega)
      obtain ⟨u0, y0, c0, _, t0⟩ := hfj 0 f0 rfl
      obtain ⟨u1, y1, c1, _, t1⟩ := hfj 1 f1 rfl
      obtain ⟨u2, y2, c2, _, t2⟩ := hfj 2 f2 rfl
      obtain ⟨s0, e0, _⟩ := DataW.trod_int h0 t0
      obtain ⟨s1, e1, _⟩ := DataW.trod_string h1 t1
      obtain ⟨s2, e2, _⟩ := DataW.trod_string h2 t2
      simp at e0 e1 e2
      subst e0
      subst e1
      subst e2
      refine ⟨(s0, s1, s2), fun j u hu => ?_⟩
      match j, hu with
      | 0, hu => simp at hu; subst hu; simpa using c0
      | 1, hu => simp at hu; subst hu; simpa using c1
      | 2, hu => simp at hu; subst hu; simpa using c2)
    exact ⟨_, _, l, by rw [hlen], hsl⟩
end
end Go.Proofs.Ythajiimohbjjhaa
