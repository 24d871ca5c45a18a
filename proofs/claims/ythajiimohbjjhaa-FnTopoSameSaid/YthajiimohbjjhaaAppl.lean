/- append of a whole slice to a row of the call's own; the end of a slice. Over any program. -/
import Derived.Test.YthajiimohbjjhaaMat
import Derived.Deep.RegionLaw
namespace Go.Proofs.Ythajiimohbjjhaa
open Go.RowKit

/-- 'x[k:]': the address that the walk writes. -/
def dropA (a : Option Addr) (cap k size : Nat) : Option Addr := if cap = k then a else a.map fun p => p.add (k * size)
section
variable {α : Type} {enc : α → List Value} {size : Nat} {w : World} {a : Option Addr} {cap : Nat} {l : List α}
theorem Sl.drop (h : Sl enc size w a cap l) (k : Nat) (hk : k ≤ l.length) : Sl enc size w (dropA a cap k size) (cap - k) (l.drop k) := by
  refine ⟨by have := h.1; simp; omega, by have := h.2.1; omega, fun hp => ?_⟩
  simp only [List.length_drop] at hp
  obtain ⟨b, off, rfl, hb, hc⟩ := h.2.2 (by omega)
  have hne : ¬ cap = k := by have := h.1; omega
  refine ⟨b, off + k * size, ?_, hb, fun i hi j u hu => ?_⟩
  · unfold dropA
    rw [if_neg hne, Option.map_some, add_some]
  · simp only [List.length_drop] at hi
    have := hc (k + i) (by omega) j u (by simpa using hu)
    rw [Nat.add_mul] at this
    rw [show off + k * size + i * size + j = off + (k * size + i * size) + j from by omega]
    exact this
end
section
variable {P : Program}
theorem run_append_list {α : Type} (enc : α → List Value) (size : Nat) (hlen : ∀ x, (enc x).length = size) (hone : ∀ x u, u ∈ enc x → u.oneCell' = true) (w : World) (t ty : TypeId)
    (e : TypeId) (z : Value) (bytes : Nat) (ht : P.underlying t = some (.slice e)) (hinfo : (P.info? e).map (fun i => (i.zero, i.size, i.bytes)) = some (some z, size, bytes)) (hzs : z.cells.size = size) (hsz : 0 < size)
    (B : Nat) (sa : Option Addr) (cap : Nat) (l : List α) (hown : Own enc size w B e sa cap l) (xa : Option Addr) (xc : Nat) (ys : List α) (hsl : Sl enc size w xa xc ys)
    (h63 : l.length + ys.length ≤ 4611686018427387904) (hbytes : (l.length + ys.length) * bytes ≤ 140737488355328) (hbase : B ≤ w.heap.size) :
    ∃ sa' cap' w', (Builtin.append_ #[t, t] ty #[.slice sa l.length cap, .slice xa ys.length xc]).run P w = .ok (.slice sa' (l.length + ys.length) cap') w' ∧ Own enc size w' B e sa' cap' (l ++ ys) ∧ Fr (fun k => blk sa = some k) w w' ∧
      (∀ k, blk sa' = some k → blk sa = some k ∨ w.heap.size ≤ k) := by
  obtain ⟨i, hi, hz0, hz1, hz2⟩ := info_parts hinfo
  cases xa with
  | none =>
    have hy : ys = [] := by
      cases ys with
      | nil => rfl
      | cons y r =>
        obtain ⟨b, off, e1, _⟩ := hsl.2.2 (by simp)
        cases e1
    subst hy
    refine ⟨sa, cap, w, ?_, by simpa using hown, Fr.refl _ _, fun k hk => .inl hk⟩
    rcases hown.2 with ⟨hv, _⟩ | ⟨g, cap', cur, hv, _, _, hnc, _⟩
    · simp only [Value.slice.injEq] at hv
      obtain ⟨rfl, hn, rfl⟩ := hv
      rw [hn]
      simp [Builtin.append_, run_underlying ht, sizeOf, typeInfo, hi, Builtin.lenOf, Builtin.firstCells]
    · simp only [Value.slice.injEq] at hv
      obtain ⟨rfl, _, rfl⟩ := hv
      simp [Builtin.append_, run_underlying ht, sizeOf, typeInfo, hi, Builtin.lenOf, Builtin.firstCells, hnc, storeCells]
  | some ad =>
    have hnews : ∀ j u, (ys.flatMap enc)[j]? = some u → w.cell? (ad.add j) = some u := by
      intro j u hu
      have hjl := (List.getElem?_eq_some_iff.1 hu).1
      rw [flat_len enc size hlen] at hjl
      have hpos : 0 < ys.length := by
        rcases Nat.eq_zero_or_pos ys.length with h0 | h0
        · rw [h0, Nat.zero_mul] at hjl; omega
        · exact h0
      obtain ⟨b, off, e1, _, hc⟩ := hsl.2.2 hpos
      obtain rfl := Option.some.inj e1
      have hk : j / size < ys.length := by
        rw [Nat.div_lt_iff_lt_mul hsz]
        exact hjl
      have hmod : j / size * size + j % size = j := by rw [Nat.mul_comm]; exact Nat.div_add_mod j size
      have hj2 : j % size < (enc ys[j / size]).length := by rw [hlen]; exact Nat.mod_lt _ hsz
      have h1 := flat_get enc size hlen ys (j / size) hk (j % size) _ (List.getElem?_eq_getElem hj2)
      rw [hmod] at h1
      rw [h1] at hu
      have h2 := hc (j / size) hk (j % size) _ (List.getElem?_eq_getElem hj2)
      rw [add_some, ← hmod, ← Nat.add_assoc]
      rw [h2]
      exact hu
    obtain ⟨v', w', hr, h2, h3, _, h5⟩ := run_append_own_at (P := P) w B t ty e i z size bytes ht hi hz0 hz1 hz2 hzs hsz (.slice sa l.length cap) l.length (l.flatMap enc) hown ad ys.length xc (ys.flatMap enc)
      (flat_len enc size hlen ys) hnews (fun u hu => by
        obtain ⟨x, _, hx⟩ := List.mem_flatMap.1 hu
        exact hone x u hx) (by simp only [maxLen]; omega) hbytes hbase
    have hsh : ∃ sa' cap', v' = .slice sa' (l.length + ys.length) cap' := by
      rcases h2.2 with ⟨hv, hn⟩ | ⟨g, cap', cur, hv, _⟩
      · exact ⟨none, 0, by rw [hv, hn]⟩
      · exact ⟨_, _, hv⟩
    obtain ⟨sa', cap', rfl⟩ := hsh
    refine ⟨sa', cap', w', hr, ?_, (Fr.of_grown h3).mono (fun b _ hb => by rw [ownBlock_slice] at hb; exact hb), fun k hk => ?_⟩
    · unfold Own
      rw [List.flatMap_append, List.length_append]
      exact h2
    · rw [ownBlock_slice, ownBlock_slice] at h5
      rcases h5 with h5 | h5
      · left; rw [← h5]; exact hk
      · right
        rw [h5] at hk
        have := Option.some.inj hk
        omega
/-- 'append(x, ys...)' at a step of a region that draws its order -/
theorem step_append_list {α : Type} (enc : α → List Value) (size : Nat) (hlen : ∀ x, (enc x).length = size) (hone : ∀ x u, u ∈ enc x → u.oneCell' = true)
    (w : World) {ops : Array Oper} {o : Oper} {a : Act} {K : Act → World → Prop} {Q : Exit → Act → World → Prop} {E : Prop} (hgd : o.guard = none) (s x : Operand) (t : TypeId)
    (ho : o.op = .call { callee := .builtin .append, args := #[s, x], argTypes := #[t, t] })
    (e : TypeId) (z : Value) (bytes : Nat) (ht : P.underlying t = some (.slice e)) (hinfo : (P.info? e).map (fun i => (i.zero, i.size, i.bytes)) = some (some z, size, bytes)) (hzs : z.cells.size = size) (hsz : 0 < size)
    (B : Nat) (sa : Option Addr) (cap : Nat) (l : List α) (n : Nat) (hn : n = l.length) (hs : a.eval s = .slice sa n cap) (hown : Own enc size w B e sa cap l) (xa : Option Addr) (xc : Nat) (ys : List α) (m : Nat) (hm : m = ys.length) (hx : a.eval x = .slice xa m xc) (hsl : Sl enc size w xa xc ys)
    (h63 : l.length + ys.length ≤ 4611686018427387904) (hbytes : (l.length + ys.length) * bytes ≤ 140737488355328) (hbase : B ≤ w.heap.size)
    (h : ∀ sa' cap' w', Own enc size w' B e sa' cap' (l ++ ys) → Fr (fun k => blk sa = some k) w w' → (∀ k, blk sa' = some k → blk sa = some k ∨ w.heap.size ≤ k) → K (a.put o.dst (.slice sa' (n + m) cap')) w') :
    if Region.wanted o (yielded ops a.tmps) = true then Oper.wp P o a w K Q else E := by
  subst hn
  subst hm
  have hw : Region.wanted o (yielded ops a.tmps) = true := by simp [Region.wanted, hgd]
  rw [if_pos hw]
  obtain ⟨sa', cap', w', hr, h1, h2, h3⟩ := run_append_list (P := P) enc size hlen hone w t o.type e z bytes ht hinfo hzs hsz B sa cap l hown xa xc ys hsl h63 hbytes hbase
  unfold Oper.wp execOp
  simp only [ho, resolve, invoke, builtin, Sem.run_bind, Sem.run_pure, Result.andThen_ok, List.map_toArray, List.map_cons, List.map_nil, hs, hx, hr]
  exact h sa' cap' w' h1 h2 h3
/-- the same at an operation of a plain region -/
theorem wpList_append_list {α : Type} (enc : α → List Value) (size : Nat) (hlen : ∀ x, (enc x).length = size) (hone : ∀ x u, u ∈ enc x → u.oneCell' = true)
    (w : World) {ops : Array Oper} {rest : List Oper} {o : Oper} {a : Act} {Q : Exit → Act → World → Prop} (hgd : o.guard = none) (s x : Operand) (t : TypeId)
    (ho : o.op = .call { callee := .builtin .append, args := #[s, x], argTypes := #[t, t] })
    (e : TypeId) (z : Value) (bytes : Nat) (ht : P.underlying t = some (.slice e)) (hinfo : (P.info? e).map (fun i => (i.zero, i.size, i.bytes)) = some (some z, size, bytes)) (hzs : z.cells.size = size) (hsz : 0 < size)
    (B : Nat) (sa : Option Addr) (cap : Nat) (l : List α) (n : Nat) (hn : n = l.length) (hs : a.eval s = .slice sa n cap) (hown : Own enc size w B e sa cap l) (xa : Option Addr) (xc : Nat) (ys : List α) (m : Nat) (hm : m = ys.length) (hx : a.eval x = .slice xa m xc) (hsl : Sl enc size w xa xc ys)
    (h63 : l.length + ys.length ≤ 4611686018427387904) (hbytes : (l.length + ys.length) * bytes ≤ 140737488355328) (hbase : B ≤ w.heap.size)
    (h : ∀ sa' cap' w', Own enc size w' B e sa' cap' (l ++ ys) → Fr (fun k => blk sa = some k) w w' → (∀ k, blk sa' = some k → blk sa = some k ∨ w.heap.size ≤ k) → wpList P ops Q rest (a.put o.dst (.slice sa' (n + m) cap')) w') :
    wpList P ops Q (o :: rest) a w := by
  subst hn
  subst hm
  refine wpList_plain hgd fun K hK => ?_
  obtain ⟨sa', cap', w', hr, h1, h2, h3⟩ := run_append_list (P := P) enc size hlen hone w t o.type e z bytes ht hinfo hzs hsz B sa cap l hown xa xc ys hsl h63 hbytes hbase
  unfold Oper.wp execOp
  simp only [ho, resolve, invoke, builtin, Sem.run_bind, Sem.run_pure, Result.andThen_ok, List.map_toArray, List.map_cons, List.map_nil, hs, hx, hr]
  exact hK _ _ (h sa' cap' w' h1 h2 h3)
end
end Go.Proofs.Ythajiimohbjjhaa
