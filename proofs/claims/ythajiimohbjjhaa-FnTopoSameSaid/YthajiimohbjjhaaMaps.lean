/- Maps with string keys as lists of pairs: look-up, store, delete, range; over any program. -/
import Derived.Test.YthajiimohbjjhaaBase
import Derived.Maps.Own
namespace Go.Proofs.Ythajiimohbjjhaa
open Go.RowKit Go.MapKept
open Go.ChangeMaps (setBlock)

abbrev AL := List (Str × Value)
def afind (s : Str) : AL → Nat → Option (Nat × Value)
  | [], _ => none
  | p :: r, i => if p.1 = s then some (i, p.2) else afind s r (i + 1)
def aget (s : Str) : AL → Option Value
  | [] => none
  | p :: r => if p.1 = s then some p.2 else aget s r
def aput (s : Str) (v : Value) : AL → AL
  | [] => [(s, v)]
  | p :: r => if p.1 = s then (s, v) :: r else p :: aput s v r
def adel (s : Str) : AL → AL
  | [] => []
  | p :: r => if p.1 = s then r else p :: adel s r

def Ents (es : Array MapEntry) (m : AL) : Prop := es.toList.map (fun e => (e.key, e.val)) = m.map (fun p => (Value.string p.1, p.2))
/-- Block b is a map with string keys, its entries those of m, in the order in which they were laid. -/
def SMap (w : World) (b : Nat) (m : AL) : Prop :=
  ∃ es clock, w.heap[b]? = some (.map es clock) ∧ Ents es m ∧ Stamped es clock

theorem afind_get (s : Str) : ∀ (m : AL) (i : Nat), (afind s m i).map (·.2) = aget s m
  | [], _ => rfl
  | p :: r, i => by
    unfold afind aget
    split
    · rfl
    · exact afind_get s r (i + 1)

section
variable {P : Program} {w w' : World} {b : Nat} {m : AL}

theorem SMap.lt (h : SMap w b m) : b < w.heap.size := by
  obtain ⟨es, clock, hb, _⟩ := h
  exact (Array.getElem?_eq_some_iff.1 hb).1
theorem SMap.keep (h : SMap w b m) (hk : w'.heap[b]? = w.heap[b]?) : SMap w' b m := by
  obtain ⟨es, clock, hb, r⟩ := h
  exact ⟨es, clock, hk.trans hb, r⟩
theorem SMap.fr {S : Nat → Prop} (h : SMap w b m) (f : Fr S w w') (hn : ¬ S b) : SMap w' b m := h.keep (f.block b h.lt hn)
theorem SMap.top (h : SMap w b m) (hb : Below w.heap.size w w') : SMap w' b m := h.keep (hb.block b h.lt)
theorem SMap.drew (h : SMap w b m) : SMap w.drew b m := h
theorem SMap.drewN (h : SMap w b m) (n : Nat) : SMap (w.drewN n) b m := h
theorem SMap.alloc (h : SMap w b m) (o : Obj) : SMap (w.alloc o) b m := h.keep (Below.heap_alloc w o b h.lt)
theorem SMap.made (w : World) : SMap (w.alloc (.map #[] 0)) w.heap.size [] := ⟨#[], 0, heap_alloc_new w _, rfl, stamped_empty 0⟩
theorem SMap.nodup (h : SMap w b m) : (m.map (·.1)).Nodup := by
  obtain ⟨es, clock, _, he, _, _, hk⟩ := h
  have e1 : es.toList.map (·.key) = m.map (fun p => Value.string p.1) := by
    have := congrArg (List.map Prod.fst) he
    simpa [List.map_map, Function.comp_def] using this
  rw [e1] at hk
  have : (m.map (fun p => Value.string p.1)) = (m.map (·.1)).map Value.string := by simp [List.map_map, Function.comp_def]
  rw [this] at hk
  exact List.Pairwise.imp (fun h e => h (by rw [e])) ((List.pairwise_map).1 hk)

theorem findNow_ents (s : Str) : ∀ (es : List MapEntry) (m : AL) (i : Nat), es.map (fun e => (e.key, e.val)) = m.map (fun p => (Value.string p.1, p.2)) →
    Instr.findNow .string (.string s) es i = some (afind s m i)
  | [], [], _, _ => rfl
  | [], p :: r, _, h => by simp at h
  | e :: es, [], _, h => by simp at h
  | e :: es, p :: r, i, h => by
    simp only [List.map_cons, List.cons.injEq, Prod.mk.injEq] at h
    obtain ⟨⟨hk, hv⟩, hr⟩ := h
    have ih := findNow_ents s es r (i + 1) hr
    unfold Instr.findNow afind
    rw [hk, hv]
    simp only [Instr.sameNow, str_beq]
    by_cases hps : p.1 = s
    · simp [hps]
    · have : ¬ s = p.1 := fun e => hps e.symm
      simp [hps, this, ih]

theorem run_findKey {k : TypeId} (hk : P.underlying k = some .string) {es : Array MapEntry} (he : Ents es m) (s : Str) (w : World) :
    (Instr.findKey k (.string s) es.toList).run P w = .ok (afind s m 0) w := by
  simp [Instr.findKey, run_underlying hk, findNow_ents s es.toList m 0 he]
theorem run_checkKey {k : TypeId} (hk : P.underlying k = some .string) (em : Bool) (s : Str) (w : World) : (Instr.checkKey em 10000 k (.string s)).run P w = .ok () w := by
  rw [show (10000 : Nat) = 9999 + 1 from rfl, Instr.checkKey]
  simp only [Sem.run_bind, run_underlying hk, Result.andThen_ok]
  rfl
theorem run_getMap {es : Array MapEntry} {clock : Nat} (h : w.heap[b]? = some (.map es clock)) : (getObj b).run P w = .ok (.map es clock) w := by
  simp [getObj, Sem.run, h]
theorem run_setMap {es : Array MapEntry} {clock : Nat} (h : w.heap[b]? = some (.map es clock)) (o : Obj) : (setObj b o).run P w = .ok () (setBlock w b o) := by
  simp [setObj, Sem.run, h, setBlock]

/-- 'm[s]' -/
theorem SMap.look (h : SMap w b m) {t k e : TypeId} (ht : P.underlying t = some (.map k e)) (hk : P.underlying k = some .string) {z : Value} (hz : (zeroValue e).run P w = .ok z w) (s : Str) :
    (Instr.lookup t (.map (some b)) (.string s) false).run P w = .ok ((aget s m).getD z) w := by
  obtain ⟨es, clock, hb, he, _⟩ := h
  have hg := afind_get s m 0
  unfold Instr.lookup
  simp only [Sem.run_bind, run_underlying ht, Result.andThen_ok, run_getMap hb, Sem.run_pure, run_checkKey hk, run_findKey hk he]
  cases hf : afind s m 0 with
  | none => rw [hf] at hg; simp at hg; simp [hz, ← hg]
  | some p => rw [hf] at hg; simp at hg; simp [← hg]
/-- 'v, ok := m[s]' -/
theorem SMap.look2 (h : SMap w b m) {t k e : TypeId} (ht : P.underlying t = some (.map k e)) (hk : P.underlying k = some .string) {z : Value} (hz : (zeroValue e).run P w = .ok z w) (s : Str) :
    (Instr.lookup t (.map (some b)) (.string s) true).run P w = .ok (.tuple #[(aget s m).getD z, .bool (aget s m).isSome]) w := by
  obtain ⟨es, clock, hb, he, _⟩ := h
  have hg := afind_get s m 0
  unfold Instr.lookup
  simp only [Sem.run_bind, run_underlying ht, Result.andThen_ok, run_getMap hb, Sem.run_pure, run_checkKey hk, run_findKey hk he]
  cases hf : afind s m 0 with
  | none => rw [hf] at hg; simp at hg; simp [hz, ← hg]
  | some p => rw [hf] at hg; simp at hg; simp [← hg]
/-- 'm[s]' at a nil map -/
theorem look_nil {t k e : TypeId} (ht : P.underlying t = some (.map k e)) (hk : P.underlying k = some .string) {z : Value} (w : World) (hz : (zeroValue e).run P w = .ok z w) (s : Str) :
    (Instr.lookup t (.map none) (.string s) false).run P w = .ok z w := by
  unfold Instr.lookup
  simp only [Sem.run_bind, run_underlying ht, Result.andThen_ok, Sem.run_pure, run_checkKey hk]
  simp [Instr.findKey, Instr.findNow, run_underlying hk, hz]

theorem afind_some (s : Str) : ∀ (m : AL) (i j : Nat) (v : Value), afind s m i = some (j, v) → i ≤ j ∧ (m[j - i]?).map (·.1) = some s ∧ aput s = fun v' m' => aput s v' m'
  | [], _, _, _, h => by simp [afind] at h
  | p :: r, i, j, v, h => by
    unfold afind at h
    split at h
    · rename_i hp
      simp at h
      obtain ⟨rfl, rfl⟩ := h
      simp [hp]
    · obtain ⟨h1, h2, _⟩ := afind_some s r (i + 1) j v h
      refine ⟨by omega, ?_, rfl⟩
      rw [show j - i = (j - (i + 1)) + 1 from by omega, List.getElem?_cons_succ]
      exact h2
theorem aput_none (s : Str) (v : Value) : ∀ (m : AL) (i : Nat), afind s m i = none → aput s v m = m ++ [(s, v)]
  | [], _, _ => rfl
  | p :: r, i, h => by
    unfold afind at h
    split at h
    · cases h
    · rename_i hp
      simp [aput, hp, aput_none s v r (i + 1) h]
theorem aput_some (s : Str) (v : Value) : ∀ (m : AL) (i j : Nat) (v0 : Value), afind s m i = some (j, v0) → aput s v m = m.set (j - i) (s, v)
  | [], _, _, _, h => by simp [afind] at h
  | p :: r, i, j, v0, h => by
    unfold afind at h
    split at h
    · rename_i hp
      simp at h
      obtain ⟨rfl, rfl⟩ := h
      simp [aput, hp]
    · rename_i hp
      have h1 := (afind_some s r (i + 1) j v0 h).1
      simp only [aput, hp, if_false]
      rw [aput_some s v r (i + 1) j v0 h, show j - i = (j - (i + 1)) + 1 from by omega, List.set_cons_succ]
theorem adel_some (s : Str) : ∀ (m : AL) (i j : Nat) (v0 : Value), afind s m i = some (j, v0) → adel s m = m.eraseIdx (j - i)
  | [], _, _, _, h => by simp [afind] at h
  | p :: r, i, j, v0, h => by
    unfold afind at h
    split at h
    · rename_i hp
      simp at h
      obtain ⟨rfl, rfl⟩ := h
      simp [adel, hp]
    · rename_i hp
      have h1 := (afind_some s r (i + 1) j v0 h).1
      simp only [adel, hp, if_false]
      rw [adel_some s r (i + 1) j v0 h, show j - i = (j - (i + 1)) + 1 from by omega, List.eraseIdx_cons_succ]
theorem adel_none (s : Str) : ∀ (m : AL) (i : Nat), afind s m i = none → adel s m = m
  | [], _, _ => rfl
  | p :: r, i, h => by
    unfold afind at h
    split at h
    · cases h
    · rename_i hp
      simp [adel, hp, adel_none s r (i + 1) h]

theorem map_eraseIdx {α β : Type} (f : α → β) : ∀ (l : List α) (i : Nat), (l.eraseIdx i).map f = (l.map f).eraseIdx i
  | [], _ => rfl
  | _ :: _, 0 => rfl
  | x :: l, i + 1 => by simp [map_eraseIdx f l i]
theorem Fr.setBlock {o : Obj} {es : Array MapEntry} {clock : Nat} (w : World) (hb : w.heap[b]? = some (.map es clock)) : Fr (fun k => k = b) w (setBlock w b o) :=
  ⟨rfl, rfl, rfl, by simp [Go.ChangeMaps.setBlock], fun k _ hn => ChangeMaps.heap_setBlock_other hb _ hn⟩

theorem ents_key {es : Array MapEntry} (he : Ents es m) {i : Nat} {s : Str} (h : (m[i]?).map (·.1) = some s) : ∃ x, es[i]? = some x ∧ x.key = .string s := by
  have h1 := congrArg (fun l => (l[i]?)) he
  simp only [List.getElem?_map, Array.getElem?_toList] at h1
  cases hm : m[i]? with
  | none => rw [hm] at h; simp at h
  | some p =>
    rw [hm] at h h1
    simp only [Option.map_some, Option.some.injEq] at h
    subst h
    cases hx : es[i]? with
    | none => rw [hx] at h1; simp at h1
    | some x =>
      rw [hx] at h1
      simp only [Option.map_some, Option.some.injEq, Prod.mk.injEq] at h1
      exact ⟨x, rfl, h1.1⟩
theorem ents_find_none {es : Array MapEntry} (he : Ents es m) {s : Str} {i : Nat} (h : afind s m i = none) : ∀ x ∈ es.toList, x.key ≠ .string s := by
  intro x hx hk
  have hx' : (x.key, x.val) ∈ es.toList.map (fun e => (e.key, e.val)) := List.mem_map.2 ⟨x, hx, rfl⟩
  rw [he] at hx'
  obtain ⟨p, hp, hpe⟩ := List.mem_map.1 hx'
  simp only [Prod.mk.injEq] at hpe
  have hps : p.1 = s := by
    have h := hpe.1.trans hk
    simpa using h
  have : ∀ (m : AL) (i : Nat), p ∈ m → afind s m i ≠ none := by
    intro m
    induction m with
    | nil => intro i hp; simp at hp
    | cons q r ih =>
      intro i hp
      unfold afind
      split
      · simp
      · rename_i hq
        rcases List.mem_cons.1 hp with rfl | hp
        · exact absurd hps hq
        · exact ih _ hp
  exact this m i hp h

/-- 'm[s] = v' -/
theorem SMap.store (h : SMap w b m) {t k e : TypeId} (ht : P.underlying t = some (.map k e)) (hk : P.underlying k = some .string) (s : Str) (v : Value) :
    ∃ w', (Instr.mapUpdate t (.map (some b)) (.string s) v).run P w = .ok () w' ∧ SMap w' b (aput s v m) ∧ Fr (fun k => k = b) w w' := by
  obtain ⟨es, clock, hb, he, hst⟩ := h
  unfold Instr.mapUpdate
  simp only [Sem.run_bind, run_underlying ht, Result.andThen_ok, run_getMap hb, run_checkKey hk, run_findKey hk he]
  cases hf : afind s m 0 with
  | none =>
    refine ⟨setBlock w b (.map (es.push { key := .string s, val := v, born := clock }) (clock + 1)), by simp [run_setMap hb], ⟨_, _, ChangeMaps.heap_setBlock_same hb _, ?_, stamped_push hst (ents_find_none he hf)⟩, Fr.setBlock w hb⟩
    rw [aput_none s v m 0 hf]
    unfold Ents at he ⊢
    simp [he]
  | some p =>
    obtain ⟨i, v0⟩ := p
    obtain ⟨_, hki, _⟩ := afind_some s m 0 i v0 hf
    obtain ⟨x, hx, hxk⟩ := ents_key he (i := i) (by simpa using hki)
    have hstay : (Instr.keyThatStays (((es[i]?).map (·.key)).getD (.string s)) (.string s)).run P w = .ok (.string s) w := by
      rw [hx]
      simp [Instr.keyThatStays, hxk, Instr.sameBits]
    refine ⟨setBlock w b (.map (es.modify i fun e => { e with key := .string s, val := v }) clock), by simp [hstay, run_setMap hb], ⟨_, _, ChangeMaps.heap_setBlock_same hb _, ?_, ?_⟩, Fr.setBlock w hb⟩
    · rw [aput_some s v m 0 i v0 hf, Nat.sub_zero]
      unfold Ents at he ⊢
      apply List.ext_getElem?
      intro j
      have hj := congrArg (fun l => (l[j]?)) he
      simp only [List.getElem?_map, Array.getElem?_toList, Array.getElem?_modify, List.getElem?_set] at hj ⊢
      by_cases hij : i = j
      · subst hij
        have hil : i < m.length := by
          have : (m[i]?).isSome = true := by
            cases hm : m[i]? with
            | none => rw [Nat.sub_zero, hm] at hki; simp at hki
            | some _ => rfl
          simpa using this
        simp [hx, hil]
      · simp [hij, hj]
    · exact stamped_modify hst i _ (fun _ _ => rfl) (fun e _ hei => by
        rw [hx] at hei
        injection hei with hei
        rw [← hei, hxk])
/-- 'delete(m, s)' -/
theorem SMap.drop (h : SMap w b m) {t k e : TypeId} (ht : P.underlying t = some (.map k e)) (hk : P.underlying k = some .string) (s : Str) (ty kt : TypeId) :
    ∃ w', (Builtin.delete_ #[t, kt] ty #[.map (some b), .string s]).run P w = .ok (.tuple #[]) w' ∧ SMap w' b (adel s m) ∧ Fr (fun k => k = b) w w' := by
  obtain ⟨es, clock, hb, he, hst⟩ := h
  unfold Builtin.delete_
  simp only [Sem.run_bind, Result.andThen_ok, run_underlying ht, run_getMap hb, run_checkKey hk, run_findKey hk he, List.getElem?_toArray, List.getElem?_cons_zero, List.getElem?_cons_succ]
  cases hf : afind s m 0 with
  | none =>
    refine ⟨setBlock w b (.map es clock), by simp [run_setMap hb], ⟨_, _, ChangeMaps.heap_setBlock_same hb _, ?_, hst⟩, Fr.setBlock w hb⟩
    rw [adel_none s m 0 hf]; exact he
  | some p =>
    obtain ⟨i, v0⟩ := p
    refine ⟨setBlock w b (.map (es.eraseIdxIfInBounds i) clock), by simp [run_setMap hb], ⟨_, _, ChangeMaps.heap_setBlock_same hb _, ?_, ?_⟩, Fr.setBlock w hb⟩
    · rw [adel_some s m 0 i v0 hf, Nat.sub_zero]
      unfold Ents at he ⊢
      rw [Array.toList_eraseIdxIfInBounds, map_eraseIdx, he, map_eraseIdx]
    · obtain ⟨h1, h2, h3⟩ := hst
      refine ⟨fun x hx => h1 x ?_, ?_, ?_⟩
      · rw [Array.toList_eraseIdxIfInBounds] at hx
        exact List.mem_of_mem_eraseIdx hx
      · rw [Array.toList_eraseIdxIfInBounds, map_eraseIdx]
        exact h2.sublist (List.eraseIdx_sublist _ _)
      · rw [Array.toList_eraseIdxIfInBounds, map_eraseIdx]
        exact h3.sublist (List.eraseIdx_sublist _ _)
/-- 'm[s] = v' at the operation, for the walk -/
theorem wpList_store_s {ops : Array Oper} {rest : List Oper} {o : Oper} {a : Act} {Q : Exit → Act → World → Prop} (w : World)
    (hg : o.guard = none) (mo x v : Operand) (t : TypeId) (hop : o.op = Op.mapUpdate t mo x v) {k e : TypeId} (ht : P.underlying t = some (.map k e)) (hk : P.underlying k = some .string)
    (b : Nat) (hm : a.eval mo = .map (some b)) (s : Str) (hx : a.eval x = .string s) (val : Value) (hv : a.eval v = val) (m : AL) (hs : SMap w b m)
    (h : ∀ w', SMap w' b (aput s val m) → Fr (fun k => k = b) w w' → wpList P ops Q rest (a.put o.dst undef) w') : wpList P ops Q (o :: rest) a w := by
  refine wpList_plain hg fun K' hK' => ?_
  obtain ⟨w', hrun, r1, r2⟩ := hs.store ht hk s val
  unfold Oper.wp
  simp [execOp, hop, hm, hx, hv, hrun, Result.andThen]
  exact hK' _ _ (h w' r1 r2)
/-- 'm[s]' at the operation -/
theorem wpList_look_s {ops : Array Oper} {rest : List Oper} {o : Oper} {a : Act} {Q : Exit → Act → World → Prop} (w : World)
    (hg : o.guard = none) (mo x : Operand) (t : TypeId) (hop : o.op = Op.lookup t mo x false) {k e : TypeId} (ht : P.underlying t = some (.map k e)) (hk : P.underlying k = some .string)
    {z : Value} (hz : ∀ w, (zeroValue e).run P w = .ok z w)
    (b : Nat) (hm : a.eval mo = .map (some b)) (s : Str) (hx : a.eval x = .string s) (m : AL) (hs : SMap w b m)
    (h : wpList P ops Q rest (a.put o.dst ((aget s m).getD z)) w) : wpList P ops Q (o :: rest) a w := by
  refine wpList_plain hg fun K' hK' => ?_
  have hrun := hs.look ht hk (hz w) s
  unfold Oper.wp
  simp [execOp, hop, hm, hx, hrun, Result.andThen]
  exact hK' _ _ h
end
end Go.Proofs.Ythajiimohbjjhaa
