/- Square tables of bools laid as one row; a row's cell written; a row made whole. Over any program. -/
import Derived.Test.YthajiimohbjjhaaClo
namespace Go.Proofs.Ythajiimohbjjhaa
open Go.RowKit

theorem flat_single {α : Type} (f : α → Value) : ∀ (l : List α), l.flatMap (fun x => [f x]) = l.map f
  | [] => rfl
  | x :: r => by rw [List.flatMap_cons, flat_single f r]; rfl
section
variable {α : Type} {f : α → Value} {w : World} {B g cap : Nat} {e : TypeId} {l : List α}
theorem Own.at1 (h : Own (fun x => [f x]) 1 w B e (some ⟨g, 0, none⟩) cap l) (k : Nat) (hk : k < l.length) : w.cell? ⟨g, k, none⟩ = some (f l[k]) := by
  have := World.ownsRow.cellAt h k (by simpa using hk)
  rw [this, flat_single]
  simp [hk]
theorem Own.frozen1 (h : Own (fun x => [f x]) 1 w B e (some ⟨g, 0, none⟩) cap l) (k : Nat) : w.frozen? ⟨g, k, none⟩ = false := World.ownsRow.frozenAt h k
theorem Own.set1 (h : Own (fun x => [f x]) 1 w B e (some ⟨g, 0, none⟩) cap l) (k : Nat) (y : α) :
    Own (fun x => [f x]) 1 (w.setCell ⟨g, k, none⟩ (f y)) B e (some ⟨g, 0, none⟩) cap (l.set k y) := by
  have := (World.ownsRow.stored h k (f y)).1
  unfold Own
  rw [flat_single] at this ⊢
  rw [List.map_set, List.length_set]
  exact this
/-- a row's block whole -/
theorem Own.blk_lt (h : Own (fun x => [f x]) 1 w B e (some ⟨g, 0, none⟩) cap l) : B ≤ g ∧ g < w.heap.size := h.lt g rfl
end

/-- m is the table of A, n by n, row by row -/
def Mat (n : Nat) (m : List Bool) (A : Nat → Nat → Bool) : Prop := m.length = n * n ∧ ∀ i j, i < n → j < n → m[i * n + j]? = some (A i j)
theorem mat_lt {n i j : Nat} (hi : i < n) (hj : j < n) : i * n + j < n * n := by
  have : (i + 1) * n ≤ n * n := Nat.mul_le_mul_right n hi
  rw [Nat.add_mul] at this
  omega
theorem mat_inj {n i j p q : Nat} (hj : j < n) (hq : q < n) (e : i * n + j = p * n + q) : i = p ∧ j = q := by
  have h1 : (i * n + j) / n = i := by
    rw [Nat.mul_comm, Nat.mul_add_div (by omega), Nat.div_eq_of_lt hj]; rfl
  have h2 : (p * n + q) / n = p := by
    rw [Nat.mul_comm, Nat.mul_add_div (by omega), Nat.div_eq_of_lt hq]; rfl
  have h3 : i = p := by rw [← h1, ← h2, e]
  subst h3
  exact ⟨rfl, by omega⟩
theorem Mat.congr {n : Nat} {m : List Bool} {A A' : Nat → Nat → Bool} (h : Mat n m A) (hA : ∀ i j, i < n → j < n → A i j = A' i j) : Mat n m A' :=
  ⟨h.1, fun i j hi hj => by rw [← hA i j hi hj]; exact h.2 i j hi hj⟩
theorem Mat.set {n : Nat} {m : List Bool} {A A' : Nat → Nat → Bool} (h : Mat n m A) {i j : Nat} (hi : i < n) (hj : j < n) (b : Bool)
    (hA : ∀ p q, p < n → q < n → A' p q = if p = i ∧ q = j then b else A p q) : Mat n (m.set (i * n + j) b) A' := by
  refine ⟨by rw [List.length_set]; exact h.1, fun p q hp hq => ?_⟩
  rw [hA p q hp hq, List.getElem?_set]
  by_cases e : i * n + j = p * n + q
  · obtain ⟨rfl, rfl⟩ := mat_inj hj hq e
    have := mat_lt hi hj
    simp [h.1, this]
  · rw [if_neg e, if_neg (fun hh => e (by rw [hh.1, hh.2]))]
    exact h.2 p q hp hq
theorem Mat.get {n : Nat} {m : List Bool} {A : Nat → Nat → Bool} (h : Mat n m A) {i j : Nat} (hi : i < n) (hj : j < n) : ∃ hk : i * n + j < m.length, m[i * n + j] = A i j := by
  have hlt := mat_lt hi hj
  have hk : i * n + j < m.length := by rw [h.1]; exact hlt
  refine ⟨hk, ?_⟩
  have := h.2 i j hi hj
  rw [List.getElem?_eq_getElem hk] at this
  exact Option.some.inj this
/-- a round over x, part of it done: the rows ahead of i, and of row i what is ahead of j -/
def part (A : Nat → Nat → Bool) (x i j : Nat) : Nat → Nat → Bool := fun p q => if p < i ∨ (p = i ∧ q < j) then A p q || (A p x && A x q) else A p q
theorem part_start (A : Nat → Nat → Bool) (x : Nat) : part A x 0 0 = A := by
  funext p q
  unfold part
  rw [if_neg (by omega)]
theorem part_row {n : Nat} (A : Nat → Nat → Bool) (x i : Nat) : ∀ p q, p < n → q < n → part A x i n p q = part A x (i + 1) 0 p q := by
  intro p q hp hq
  unfold part
  by_cases h : p < i ∨ (p = i ∧ q < n)
  · rw [if_pos h, if_pos (by omega)]
  · rw [if_neg h, if_neg (by omega)]
theorem part_end {n : Nat} (A : Nat → Nat → Bool) (x : Nat) : ∀ p q, p < n → q < n → part A x n 0 p q = (A p q || (A p x && A x q)) := by
  intro p q hp hq
  unfold part
  rw [if_pos (by omega)]
theorem part_col (A : Nat → Nat → Bool) (x i j p : Nat) : part A x i j p x = A p x := by
  unfold part
  split
  · cases A p x <;> simp
  · rfl
theorem part_rowx (A : Nat → Nat → Bool) (x i j q : Nat) : part A x i j x q = A x q := by
  unfold part
  split
  · cases A x q <;> simp
  · rfl
theorem part_yes (A : Nat → Nat → Bool) (x i j : Nat) (h : (A i x && A x j) = true) : ∀ p q, part A x i (j + 1) p q = if p = i ∧ q = j then true else part A x i j p q := by
  intro p q
  unfold part
  by_cases e : p = i ∧ q = j
  · obtain ⟨rfl, rfl⟩ := e
    rw [if_pos (by omega), h, if_pos ⟨rfl, rfl⟩]
    simp
  · rw [if_neg e]
    by_cases h1 : p < i ∨ (p = i ∧ q < j)
    · rw [if_pos h1, if_pos (by omega)]
    · rw [if_neg h1, if_neg (by omega)]
theorem part_no (A : Nat → Nat → Bool) (x i j : Nat) (h : (A i x && A x j) = false) : ∀ p q, part A x i j p q = part A x i (j + 1) p q := by
  intro p q
  unfold part
  by_cases e : p = i ∧ q = j
  · obtain ⟨rfl, rfl⟩ := e
    rw [if_neg (by omega), if_pos (by omega), h]
    simp
  · by_cases h1 : p < i ∨ (p = i ∧ q < j)
    · rw [if_pos h1, if_pos (by omega)]
    · rw [if_neg h1, if_neg (by omega)]

section
variable {P : Program}
/-- the kit's law for a region whose head only reads, its world under its name -/
theorem region_still_tail {id : Nat} {Q : Exit → Act → World → Prop} {a : Act} {w : World} {l : List Oper} (n : Nat) (hm : P.follows .mixedOrders = true) (hB : Region.lexTailB .any l.toArray n = true)
    (h : wpStill P l.toArray w.drew (fun a' => wpList P l.toArray Q (l.drop n) a' w.drew) (l.take n) a) : (Code.region id l.toArray true).wp P Q a w := wp_region_still_tail n hm hB h
/-- 'make([]T, n)', its elements of one cell -/
theorem wpList_make1 {α : Type} (f : α → Value) (x0 : α) (w : World) {ops : Array Oper} {rest : List Oper} {o : Oper} {a : Act} {Q : Exit → Act → World → Prop} (hgd : o.guard = none) (l c : Operand) (t : TypeId) (ho : o.op = .makeSlice t l c)
    (B : Nat) (e : TypeId) (bytes : Nat) (ht : P.underlying t = some (.slice e)) (hinfo : (P.info? e).map (fun i => (i.zero, i.size, i.bytes)) = some (some (f x0), 1, bytes)) (h1 : (f x0).cells = #[f x0])
    (L C : Int) (n : Nat) (hl : a.eval l = .int .i64 L) (hc : a.eval c = .int .i64 C) (hL : L = (n : Int)) (hC : C = (n : Int)) (hb : bytes * n ≤ 281474976710656) (hn : n ≤ 9223372036854775807) (hB : B ≤ w.heap.size)
    (h : ∀ w', Own (fun x => [f x]) 1 w' B e (some ⟨w.heap.size, 0, none⟩) n (List.replicate n x0) → Fr NoB w w' → w'.heap.size = w.heap.size + 1 → wpList P ops Q rest (a.put o.dst (.slice (some ⟨w.heap.size, 0, none⟩) n n)) w') : wpList P ops Q (o :: rest) a w := by
  obtain ⟨i, hi, hz0, hz1, hz2⟩ := info_parts hinfo
  subst hz2
  subst hL
  subst hC
  refine wpList_plain hgd fun K' hK' => ?_
  have hr := run_make (P := P) w t e i (f x0) ht hi hz0 .i64 .i64 n n (by omega) (Int.le_refl _) (by
    have h2 : ((i.bytes * n : Nat) : Int) ≤ 281474976710656 := by omega
    rwa [Int.natCast_mul] at h2) (by omega)
  simp only [Int.toNat_natCast] at hr
  unfold Oper.wp
  simp only [execOp, ho, hl, hc]
  simp [hr, Result.andThen]
  refine hK' _ _ (h _ ?_ (Fr.alloc _ _ _) (by simp))
  have h3 := World.ownsRow_lit (base := B) (e := e) (size := 1) w (madeCells (f x0).cells (n * i.size)) n hB (by simpa [maxLen] using hn) (by rw [hz1]; simpa using size_madeCells (f x0).cells n)
  unfold Own
  rw [flat_single, List.map_replicate, List.length_replicate]
  rw [hz1, Nat.mul_one, h1, toList_madeCells_one] at h3
  rw [hz1, Nat.mul_one, h1]
  exact h3
/-- 'make([]T, 0, n)', its elements of one cell -/
theorem wpList_make0 {α : Type} (f : α → Value) (z : Value) (w : World) {ops : Array Oper} {rest : List Oper} {o : Oper} {a : Act} {Q : Exit → Act → World → Prop} (hgd : o.guard = none) (l c : Operand) (t : TypeId) (ho : o.op = .makeSlice t l c)
    (B : Nat) (e : TypeId) (bytes : Nat) (ht : P.underlying t = some (.slice e)) (hinfo : (P.info? e).map (fun i => (i.zero, i.size, i.bytes)) = some (some z, 1, bytes))
    (C : Int) (n : Nat) (hl : a.eval l = .int .i64 0) (hc : a.eval c = .int .i64 C) (hC : C = (n : Int)) (hb : bytes * n ≤ 281474976710656) (hn : n ≤ 9223372036854775807) (hB : B ≤ w.heap.size)
    (h : ∀ w', Own (fun x : α => [f x]) 1 w' B e (some ⟨w.heap.size, 0, none⟩) n [] → Fr NoB w w' → w'.heap.size = w.heap.size + 1 → wpList P ops Q rest (a.put o.dst (.slice (some ⟨w.heap.size, 0, none⟩) 0 n)) w') : wpList P ops Q (o :: rest) a w := by
  obtain ⟨i, hi, hz0, hz1, hz2⟩ := info_parts hinfo
  subst hz2
  subst hC
  refine wpList_plain hgd fun K' hK' => ?_
  have hr := run_make (P := P) w t e i z ht hi hz0 .i64 .i64 0 n (Int.le_refl _) (by omega) (by
    have h2 : ((i.bytes * n : Nat) : Int) ≤ 281474976710656 := by omega
    rwa [Int.natCast_mul] at h2) (by omega)
  simp only [Int.toNat_natCast] at hr
  unfold Oper.wp
  simp only [execOp, ho, hl, hc]
  simp [hr, Result.andThen]
  refine hK' _ _ (h _ ?_ (Fr.alloc _ _ _) (by simp))
  have := World.ownsRow_made (base := B) (e := e) (size := 1) w (madeCells z.cells (n * i.size)) n hB (by simpa [maxLen] using hn) (by rw [hz1]; simpa using size_madeCells z.cells n)
  exact this

/-- 'x = append(x, v)' at a step of a region that draws its order -/
theorem step_append_new {α : Type} {y : α} (enc : α → List Value) (size : Nat) (hlen : ∀ x, (enc x).length = size) (hone : ∀ x u, u ∈ enc x → u.oneCell' = true)
    (w0 W : World) (T0 : TypeId) (hW : W = w0.alloc (.cells (enc y).toArray T0)) {ops : Array Oper} {o : Oper} {a : Act} {K : Act → World → Prop} {Q : Exit → Act → World → Prop} {E : Prop} (hgd : o.guard = none) (s x : Operand) (t : TypeId)
    (ho : o.op = .call { callee := .builtin .append, args := #[s, x], argTypes := #[t, t] })
    (e : TypeId) (z : Value) (bytes : Nat) (ht : P.underlying t = some (.slice e)) (hinfo : (P.info? e).map (fun i => (i.zero, i.size, i.bytes)) = some (some z, size, bytes)) (hzs : z.cells.size = size) (hsz : 0 < size)
    (B : Nat) (sa : Option Addr) (cap : Nat) (l : List α) (hs : a.eval s = .slice sa l.length cap) (hown : Own enc size w0 B e sa cap l)
    (c nb : Nat) (hnb : w0.heap.size = nb) (hx : a.eval x = .slice (some ⟨nb, 0, none⟩) 1 c) (h63 : l.length + 1 ≤ 4611686018427387904) (hbytes : (l.length + 1) * bytes ≤ 140737488355328) (hbase : B ≤ w0.heap.size)
    (h : ∀ g cap' w', Own enc size w' B e (some ⟨g, 0, none⟩) cap' (l ++ [y]) → Fr (fun k => blk sa = some k) w0 w' → (blk sa = some g ∨ w0.heap.size ≤ g) → K (a.put o.dst (.slice (some ⟨g, 0, none⟩) (l.length + 1) cap')) w') :
    if Region.wanted o (yielded ops a.tmps) = true then Oper.wp P o a W K Q else E := by
  subst hW
  subst hnb
  obtain ⟨i, hi, hz0, hz1, hz2⟩ := info_parts hinfo
  refine step_append_lies (w0.alloc (.cells (enc y).toArray T0)) hgd s x t ho B e i z size bytes ht hi hz0 hz1 hz2 hzs hsz (.slice sa l.length cap) l.length (l.flatMap enc) hs (hown.alloc _)
    ⟨w0.heap.size, 0, none⟩ 1 c (enc y) hx (by simpa using hlen y) (cells_new w0 (enc y) T0) (hone y) (by omega) (by simp only [maxLen]; omega) hbytes (by simp; omega) (w0.heap.size + 1) (by simp) ?_
  intro g cap' w' hown' hg hat hlt
  refine h g cap' w' ?_ ((Fr.alloc _ w0 _).trans (Fr.of_grown hg) ?_) ?_
  · unfold Own
    rw [List.flatMap_append, List.length_append]
    simpa using hown'
  · intro b _ hb
    rw [ownBlock_slice] at hb
    exact hb
  · rw [ownBlock_slice] at hat
    rcases hat with hat | hat
    · exact .inl hat
    · right; omega
end
end Go.Proofs.Ythajiimohbjjhaa
