/- Ranging over a map with string keys: what is still to come, as a list. -/
import Derived.Test.YthajiimohbjjhaaMaps
import Derived.Maps.RangeWalk
import Derived.Maps.OwnOps
namespace Go.Proofs.Ythajiimohbjjhaa
open Go.RowKit Go.MapKept
open Go.ChangeMaps (setBlock)

/-- At block it stands an iterator over the map at block b (which reads as m); left is what it has not handed out yet. -/
def Iter (w : World) (it b : Nat) (m left : AL) : Prop :=
  ∃ es clock since seen c0, w.heap[b]? = some (.map es clock) ∧ Ents es m ∧ Stamped es clock ∧ w.heap[it]? = some (.mapIter (some b) since seen c0) ∧
    (∀ x ∈ es.toList, x.born < since) ∧ since ≤ c0 ∧ since ≤ clock ∧ (leftOf es seen).toList.map (fun e => (e.key, e.val)) = left.map (fun p => (Value.string p.1, p.2))

section
variable {P : Program} {w w' : World} {it b : Nat} {m left : AL}
theorem Iter.lt (h : Iter w it b m left) : it < w.heap.size := by
  obtain ⟨es, clock, since, seen, c0, _, _, _, hi, _⟩ := h
  exact (Array.getElem?_eq_some_iff.1 hi).1
theorem Iter.map (h : Iter w it b m left) : SMap w b m := by
  obtain ⟨es, clock, since, seen, c0, hb, he, hs, _⟩ := h
  exact ⟨es, clock, hb, he, hs⟩
theorem Iter.fr {S : Nat → Prop} (h : Iter w it b m left) (f : Fr S w w') (h1 : ¬ S it) (h2 : ¬ S b) : Iter w' it b m left := by
  have hl := h.lt
  have hm := h.map.lt
  obtain ⟨es, clock, since, seen, c0, hb, he, hs, hi, r⟩ := h
  exact ⟨es, clock, since, seen, c0, (f.block b hm h2).trans hb, he, hs, (f.block it hl h1).trans hi, r⟩
theorem Iter.top (h : Iter w it b m left) (hb : Below w.heap.size w w') : Iter w' it b m left := h.fr (Fr.of_below_top hb NoB) (fun hs => hs.elim) (fun hs => hs.elim)
theorem Iter.alloc (h : Iter w it b m left) (o : Obj) : Iter (w.alloc o) it b m left := h.fr (Fr.alloc NoB w o) (fun hs => hs.elim) (fun hs => hs.elim)

theorem Iter.ne_cells {k : Nat} {c : Array Value} {e : TypeId} {f : Nat × Nat} (h : Iter w it b m left) (hk : w.heap[k]? = some (.cells c e f)) : k ≠ it := by
  rintro rfl
  obtain ⟨es, clock, since, seen, c0, _, _, _, hi, _⟩ := h
  rw [hk] at hi
  cases hi
theorem leftOf_none (es : Array MapEntry) : leftOf es #[] = es := by
  unfold leftOf
  rw [Array.filter_eq_self]
  intro x _
  simp

theorem filter_born : ∀ (L : List MapEntry) (i : Nat) (hi : i < L.length), (L.map (·.born)).Nodup → L.filter (fun x => !(x.born == L[i].born)) = L.eraseIdx i
  | [], _, hi, _ => absurd hi (by simp)
  | y :: r, 0, _, hnd => by
    rw [List.map_cons, List.nodup_cons] at hnd
    have hall : r.filter (fun x => !(x.born == y.born)) = r := by
      rw [List.filter_eq_self]
      intro x hx
      have : x.born ≠ y.born := fun hh => hnd.1 (by rw [← hh]; exact List.mem_map.2 ⟨x, hx, rfl⟩)
      simpa using this
    simp [hall]
  | y :: r, i + 1, hi, hnd => by
    rw [List.map_cons, List.nodup_cons] at hnd
    have hlr : i < r.length := by simpa using hi
    have ih := filter_born r i hlr hnd.2
    have hne : y.born ≠ r[i].born := fun hh => hnd.1 (by rw [hh]; exact List.mem_map.2 ⟨_, List.getElem_mem _, rfl⟩)
    rw [List.getElem_cons_succ, List.filter_cons, if_pos (by simpa using hne), List.eraseIdx_cons_succ, ih]
/-- 'range m' -/
theorem wpList_range_s {ops : Array Oper} {rest : List Oper} {o : Oper} {a : Act} {Q : Exit → Act → World → Prop} (w : World)
    (hg : o.guard = none) (mo : Operand) (t : TypeId) (hop : o.op = Op.range t mo) {k e : TypeId} (ht : P.underlying t = some (.map k e)) (b : Nat) (hm : a.eval mo = .map (some b)) (m : AL) (hs : SMap w b m) (it : Nat) (hit : w.heap.size = it)
    (h : ∀ w', Iter w' it b m m → Fr NoB w w' → w'.heap.size = it + 1 → wpList P ops Q rest (a.put o.dst (.pointer (some ⟨it, 0, none⟩))) w') : wpList P ops Q (o :: rest) a w := by
  subst hit
  refine wpList_plain hg fun K' hK' => ?_
  have hlt := hs.lt
  obtain ⟨es, clock, hb, he, hst⟩ := hs
  have hrun : (Instr.range t (.map (some b))).run P w = .ok (.pointer (some ⟨w.heap.size, 0, none⟩)) (w.alloc (.mapIter (some b) clock #[] clock)) := by
    unfold Instr.range
    simp only [Sem.run_bind, run_underlying ht, Result.andThen_ok, run_getMap hb, Sem.run_pure]
    rfl
  unfold Oper.wp
  simp [execOp, hop, hm, hrun, Result.andThen]
  refine hK' _ _ (h _ ⟨es, clock, clock, #[], clock, (Below.heap_alloc w _ b hlt).trans hb, he, hst, heap_alloc_new w _, hst.1, Nat.le_refl _, Nat.le_refl _, ?_⟩ (Fr.alloc _ _ _) (by simp))
  rw [leftOf_none]
  exact he
/-- the step: nothing is left, or one of what is left comes out -/
theorem wpList_next_s {ops : Array Oper} {rest : List Oper} {o : Oper} {a : Act} {Q : Exit → Act → World → Prop} (w : World)
    (hg : o.guard = none) (x : Operand) (hop : o.op = Op.next x false) (it b : Nat) (hx : a.eval x = .pointer (some ⟨it, 0, none⟩)) (m left : AL) (hi : Iter w it b m left)
    (hend : left = [] → wpList P ops Q rest (a.put o.dst (.tuple #[.bool false])) w)
    (hgo : ∀ s v l1 l2 w', Hid (left = l1 ++ (s, v) :: l2) → Hid ((s, v) ∈ m) → Iter w' it b m (l1 ++ l2) → Fr (fun k => k = it) w w' → (Instr.entry (.pointer (some ⟨it, 0, none⟩))).run P w' = .ok (.tuple #[.string s, v]) w' →
      wpList P ops Q rest (a.put o.dst (.tuple #[.bool true, .string s, v])) w') : wpList P ops Q (o :: rest) a w := by
  refine wpList_plain hg fun K' hK' => ?_
  have hil := hi.lt
  obtain ⟨es, clock, since, seen, c0, hb, he, hst, hr, hold, hsc, hscl, hleft⟩ := hi
  unfold Oper.wp
  rcases run_next_at (P := P) w o.type it b since c0 seen es clock hr hb hold hsc with ⟨h0, hrun⟩ | ⟨e, hem, w1, hw1, hrun⟩
  · have hl : left = [] := by
      have hnil : leftOf es seen = #[] := Array.eq_empty_of_size_eq_zero h0
      rw [hnil] at hleft
      cases left with
      | nil => rfl
      | cons _ _ => simp at hleft
    simp [execOp, hop, hx, hrun, Result.andThen]
    exact hK' _ _ (hend hl)
  · simp [execOp, hop, hx, hrun, Result.andThen]
    have hees : e ∈ es.toList := by
      unfold leftOf at hem
      simp at hem
      simpa using hem.1
    -- the entry's key and value
    have hpm : (e.key, e.val) ∈ left.map (fun p => (Value.string p.1, p.2)) := by
      rw [← hleft]
      exact List.mem_map.2 ⟨e, hem, rfl⟩
    obtain ⟨i, hilen, hie⟩ := List.mem_iff_getElem.1 hem
    have hlenl : (leftOf es seen).toList.length = left.length := by
      have := congrArg List.length hleft
      simpa using this
    have hil' : i < left.length := by rw [← hlenl]; exact hilen
    have hkv : e.key = .string left[i].1 ∧ e.val = left[i].2 := by
      have h1 := congrArg (fun l => l[i]?) hleft
      simp only [List.getElem?_map, List.getElem?_eq_getElem hilen, List.getElem?_eq_getElem hil', Option.map_some, Option.some.injEq, Prod.mk.injEq] at h1
      rw [hie] at h1
      exact h1
    have hsplit : left = left.take i ++ left[i] :: left.drop (i + 1) := by
      rw [← List.drop_eq_getElem_cons hil', List.take_append_drop]
    have hmem : left[i] ∈ m := by
      have h1 : (e.key, e.val) ∈ m.map (fun p => (Value.string p.1, p.2)) := by
        unfold Ents at he
        rw [← he]
        exact List.mem_map.2 ⟨e, hees, rfl⟩
      obtain ⟨q, hq, hqe⟩ := List.mem_map.1 h1
      rw [hkv.1, hkv.2] at hqe
      simp only [Prod.mk.injEq, Value.string.injEq] at hqe
      have : q = left[i] := Prod.ext hqe.1 hqe.2
      rw [← this]
      exact hq
    have hnd := hst.2.1
    have hleft' : (leftOf es (seen.push e.born)).toList.map (fun e => (e.key, e.val)) = (left.take i ++ left.drop (i + 1)).map (fun p => (Value.string p.1, p.2)) := by
      have hL : (leftOf es (seen.push e.born)).toList = (leftOf es seen).toList.eraseIdx i := by
        have h1 : (leftOf es (seen.push e.born)).toList = (leftOf es seen).toList.filter (fun x => !(x.born == e.born)) := by
          unfold leftOf
          rw [Array.toList_filter, Array.toList_filter, List.filter_filter]
          apply List.filter_congr
          intro x _
          by_cases hxe : x.born = e.born
          · simp [hxe]
          · simp [hxe]
        rw [h1]
        have hnd2 : ((leftOf es seen).toList.map (·.born)).Nodup := by
          unfold leftOf
          rw [Array.toList_filter]
          exact hnd.sublist (List.filter_sublist.map _)
        rw [← hie]
        exact filter_born _ i hilen hnd2
      rw [hL, map_eraseIdx, hleft, ← map_eraseIdx, List.eraseIdx_eq_take_drop_succ]
    have hw1h : w1.heap = w.heap := by rcases hw1 with rfl | rfl <;> rfl
    have hr1 : w1.heap[it]? = some (.mapIter (some b) since seen c0) := by rw [hw1h]; exact hr
    have hbne : b ≠ it := by
      intro e1
      rw [e1, hr] at hb
      cases hb
    have hset : (setBlock w1 it (.mapIter (some b) since (seen.push e.born) clock)).heap[it]? = some (.mapIter (some b) since (seen.push e.born) clock) := by
      simp only [setBlock, Array.getElem?_setIfInBounds, if_true]
      rw [hw1h, if_pos hil]
    have hsetb : (setBlock w1 it (.mapIter (some b) since (seen.push e.born) clock)).heap[b]? = some (.map es clock) := by
      simp only [setBlock, Array.getElem?_setIfInBounds]
      rw [if_neg (fun e1 => hbne e1.symm), hw1h]
      exact hb
    have hfr : Fr (fun k => k = it) w (setBlock w1 it (.mapIter (some b) since (seen.push e.born) clock)) := by
      refine ⟨?_, ?_, ?_, ?_, ?_⟩
      · rcases hw1 with rfl | rfl <;> rfl
      · rcases hw1 with rfl | rfl <;> rfl
      · rcases hw1 with rfl | rfl <;> rfl
      · simp [setBlock, hw1h]
      · intro k _ hk
        simp only [setBlock, Array.getElem?_setIfInBounds]
        rw [if_neg (fun e1 => hk e1.symm), hw1h]
    have hent := run_entry_at (P := P) (setBlock w1 it (.mapIter (some b) since (seen.push e.born) clock)) it b since seen es clock e hset hsetb hees hnd
    rw [hkv.1, hkv.2] at hent ⊢
    refine hK' _ _ (hgo left[i].1 left[i].2 (left.take i) (left.drop (i + 1)) _ (Lib.hid hsplit) (Lib.hid hmem) ⟨es, clock, since, seen.push e.born, clock, hsetb, he, hst, hset, hold, hscl, hscl, hleft'⟩ hfr hent)
end
end Go.Proofs.Ythajiimohbjjhaa
