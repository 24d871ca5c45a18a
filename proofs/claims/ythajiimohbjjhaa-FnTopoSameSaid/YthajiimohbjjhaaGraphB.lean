/- AddEdge, HasEdge, addNode and their kin: what each call does to the graph. -/
import Derived.Test.YthajiimohbjjhaaGraph
namespace Go.Proofs.Ythajiimohbjjhaa
open Go.RowKit

theorem names_at {G : Gr} {s : Str} (hs : s ∈ names G) : ∃ i, ∃ h : i < G.length, G[i].1 = s := by
  obtain ⟨p, hp, rfl⟩ := List.mem_map.1 hs
  obtain ⟨i, hi, rfl⟩ := List.mem_iff_getElem.1 hp
  exact ⟨i, hi, rfl⟩

theorem addEdge_calls {w : World} {F : Nat → Prop} {g : Nat} {G : Gr} (s t : Str) (h : GraphAt w F g G) (hs : s ∈ names G) :
    Calls Try.prog 37 #[.pointer (some ⟨g, 0, none⟩), .string s, .string t] w fun e w' => e = .returned (.tuple #[]) ∧ GraphAt w' F g (addE G s t) ∧ Fr F w w' := by
  obtain ⟨na, nc, mb, me, rs, h⟩ := h
  obtain ⟨i, hi, rfl⟩ := names_at hs
  clear hs
  have hi' : i < rs.length := by rw [h.len]; exact hi
  have hc := h.cell2
  have hl := h.tbl.look Try.underlying69 Try.underlying9 (zeroM w) G[i].1
  rw [h.lookR i hi hi', Option.getD_some] at hl
  obtain ⟨w1, hu, hm, hf⟩ := (h.sets i hi' hi).store Try.underlying67 Try.underlying9 t (.bool true)
  rw [aput_setOf] at hm
  have hres : GraphAt w1 F g (addE G G[i].1 t) := by
    unfold addE
    rw [setE_at h.nodup i hi]
    exact ⟨na, nc, mb, me, rs, h.upd i hi hi' _ hm hf⟩
  have hfr : Fr F w w1 := hf.mono (fun b _ e => by subst e; exact h.fr _ (List.getElem_mem hi'))
  have HR := Lib.hid hres; clear hres
  have HM := Lib.hid hm; clear hm
  clear h hf
  go_enter Try.func37, Try.ntmps37
  go_wp2
  go_end0
  exact ⟨rfl, HR.out, hfr⟩

theorem delEdge_calls {w : World} {F : Nat → Prop} {g : Nat} {G : Gr} (s t : Str) (h : GraphAt w F g G) (hs : s ∈ names G) :
    Calls Try.prog 38 #[.pointer (some ⟨g, 0, none⟩), .string s, .string t] w fun e w' => e = .returned (.tuple #[]) ∧ GraphAt w' F g (delE G s t) ∧ Fr F w w' := by
  obtain ⟨na, nc, mb, me, rs, h⟩ := h
  obtain ⟨i, hi, rfl⟩ := names_at hs
  clear hs
  have hi' : i < rs.length := by rw [h.len]; exact hi
  have hc := h.cell2
  have hl := h.tbl.look Try.underlying69 Try.underlying9 (zeroM w) G[i].1
  rw [h.lookR i hi hi', Option.getD_some] at hl
  obtain ⟨w1, hu, hm, hf⟩ := (h.sets i hi' hi).drop Try.underlying67 Try.underlying9 t 0 9
  rw [adel_setOf] at hm
  have hres : GraphAt w1 F g (delE G G[i].1 t) := by
    unfold delE
    rw [setE_at h.nodup i hi]
    exact ⟨na, nc, mb, me, rs, h.upd i hi hi' _ hm hf⟩
  have hfr : Fr F w w1 := hf.mono (fun b _ e => by subst e; exact h.fr _ (List.getElem_mem hi'))
  have HR := Lib.hid hres; clear hres
  have HM := Lib.hid hm; clear hm
  clear h hf
  go_enter Try.func38, Try.ntmps38
  go_wp2
  go_end0
  exact ⟨rfl, HR.out, hfr⟩

theorem hasEdge_calls {w : World} {F : Nat → Prop} {g : Nat} {G : Gr} (s t : Str) (h : GraphAt w F g G) :
    Calls Try.prog 39 #[.pointer (some ⟨g, 0, none⟩), .string s, .string t] w fun e w' => e = .returned (.bool (hasE G s t)) ∧ w = w' := by
  obtain ⟨na, nc, mb, me, rs, h⟩ := h
  have hc := h.cell2
  have hnm := fun (r : Option Nat) (w : World) => run_neq_map_nil (P := Try.prog) w 67 9 4 r Try.underlying67
  by_cases hs : s ∈ names G
  · obtain ⟨i, hi, rfl⟩ := names_at hs
    clear hs
    have hi' : i < rs.length := by rw [h.len]; exact hi
    have hl := h.tbl.look Try.underlying69 Try.underlying9 (zeroM w) G[i].1
    rw [h.lookR i hi hi', Option.getD_some] at hl
    have hl2 := (h.sets i hi' hi).look Try.underlying67 Try.underlying9 (zeroB w) t
    rw [aget_setOf] at hl2
    have hv : (if t ∈ G[i].2 then some (Value.bool true) else none).getD (.bool false) = .bool (hasE G G[i].1 t) := by
      rw [hasE_at h.nodup i hi]
      by_cases ht : t ∈ G[i].2 <;> simp [ht]
    rw [hv] at hl2
    clear h hv
    go_enter Try.func39, Try.ntmps39
    go_wp2
    go_ret
    exact ⟨rfl, rfl⟩
  · have hl := h.tbl.look Try.underlying69 Try.underlying9 (zeroM w) s
    rw [h.lookR_none s hs, Option.getD_none] at hl
    rw [hasE_none hs]
    clear h hs
    go_enter Try.func39, Try.ntmps39
    go_wp2
    go_ret
    exact ⟨rfl, rfl⟩

theorem addNode_old {w : World} {F : Nat → Prop} {g : Nat} {G : Gr} (s : Str) (h : GraphAt w F g G) (hs : s ∈ names G) :
    Calls Try.prog 50 #[.pointer (some ⟨g, 0, none⟩), .string s] w fun e w' => e = .returned (.bool false) ∧ w = w' := by
  obtain ⟨na, nc, mb, me, rs, h⟩ := h
  obtain ⟨i, hi, rfl⟩ := names_at hs
  clear hs
  have hc := h.cell1
  have hl := h.idx.look2 Try.underlying68 Try.underlying9 (zeroI w) G[i].1
  rw [h.lookI i hi] at hl
  simp only [Option.getD_some, Option.isSome_some] at hl
  clear h
  go_enter Try.func50, Try.ntmps50
  go_wp2
  go_ret
  exact ⟨rfl, rfl⟩

theorem idxOf_snoc (ns : List Str) (s : Str) : idxOf (ns ++ [s]) = idxOf ns ++ [(s, .int .i64 (ns.length : Nat))] := by
  unfold idxOf
  rw [List.zipIdx_append]
  simp
theorem refs_snoc (ns : List Str) (rs : List Nat) (h : rs.length = ns.length) (s : Str) (r : Nat) : refs (ns ++ [s]) (rs ++ [r]) = refs ns rs ++ [(s, .map (some r))] := by
  unfold refs
  rw [List.zip_append h.symm]
  simp

theorem addNode_new {w : World} {F : Nat → Prop} {g : Nat} {G : Gr} (s : Str) (h : GraphAt w F g G) (hs : s ∉ names G) (hsm : G.length < 4294967296) :
    Calls Try.prog 50 #[.pointer (some ⟨g, 0, none⟩), .string s] w fun e w' => e = .returned (.bool true) ∧ GraphAt w' (fun k => F k ∨ w.heap.size ≤ k) g (G ++ [(s, [])]) ∧ Fr F w w' := by
  obtain ⟨na, nc, mb, me, rs, h⟩ := h
  have hc := h.cell1
  have hc0 := h.cell0
  have hl := h.idx.look2 Try.underlying68 Try.underlying9 (zeroI w) s
  rw [h.lookI_none s hs] at hl
  simp only [Option.getD_none, Option.isSome_none] at hl
  obtain ⟨w1, hu, hm1, hf1'⟩ := (h.idx.drew).store Try.underlying68 Try.underlying9 s (.int .i64 (G.length : Nat))
  have hf1 : Fr (fun k => k = mb) w w1 := (Fr.drew _ w).trans hf1' (fun _ _ e => e)
  have hgm : g ≠ mb := h.idx.ne_cells h.cell
  have hge : g ≠ me := h.tbl.ne_cells h.cell
  have hap := h.apart
  rw [List.nodup_cons, List.nodup_cons] at hap
  have hnm : ∀ k, blk na = some k → k ≠ mb := fun k hk => by obtain ⟨cur, hcur⟩ := h.nodes.cells hk; exact h.idx.ne_cells hcur
  have hown1 := h.nodes.fr hf1 hnm
  have hg1 : w1.heap[g]? = _ := (hf1.block g h.lt hgm).trans h.cell
  have hc1 : w1.cell? ⟨g, 0, none⟩ = some (.slice na G.length nc) := by rw [cell_of_row _ _ _ _ _ _ hg1]; rfl
  have hmm := @run_makeMap Try.prog
  have hlen : (names G).length = G.length := by simp
  have HL := Lib.hid hlen; clear hlen
  clear hf1'
  have HG1 := Lib.hid hg1; clear hg1
  go_enter Try.func50, Try.ntmps50
  go_wp2
  go_region
  go_wp2_with (first
    | (at_builtin
       refine wpList_append_new encS 1 encS_len encS_one _ _ rfl _ _ 32 rfl 9 _ 16 Try.underlying32 infoS rfl (by omega) 0 na nc (names G) _ HL.out.symm rfl hown1 s _ _ rfl rfl (by rw [HL.out]; omega) (by rw [HL.out]; omega) (by omega) ?_
       intro a2 cap2 w2 hown2 hf2 hk2
       have HG2 := Lib.hid ((hf2.block g (by have := h.lt; have := hf1.size; omega) h.ng).trans HG1.out)
       have hc2 : w2.cell? ⟨g, 0, none⟩ = some (.slice na G.length nc) := by rw [cell_of_row _ _ _ _ _ _ HG2.out]; rfl
       have hz2 : w2.frozen? ⟨g, 0, none⟩ = false := frozen_of_row _ _ _ _ _ HG2.out
       have hc22 : w2.cell? ⟨g, 2, none⟩ = some (.map (some me)) := by rw [cell_of_row _ _ _ _ _ _ HG2.out]; rfl)
    | (at_mapUpdate
       refine wpList_store_s _ rfl _ _ _ 69 rfl Try.underlying69 Try.underlying9 me rfl s rfl _ rfl (refs (names G) rs) ?hs ?_
       rotate_right
       intro w4 hm4 hf4))
  case hs =>
    refine SMap.alloc (SMap.fr ?_ (Fr.setCell (S := fun k => k = g) w2 ⟨g, 0, none⟩ _ rfl) (fun e => hge e.symm)) _
    refine (h.tbl.fr hf1 (fun e => hap.1 (by rw [e]; simp))).fr hf2 (fun hk => ?_)
    obtain ⟨cur, hcur⟩ := h.nodes.cells hk
    exact h.tbl.ne_cells hcur rfl
  go_ret
  have f3 : Fr (fun k => k = g) w2 (w2.setCell ⟨g, 0, none⟩ (.slice a2 (G.length + 1) cap2)) := Fr.setCell _ _ _ rfl
  have f4 : Fr NoB (w2.setCell ⟨g, 0, none⟩ (.slice a2 (G.length + 1) cap2)) ((w2.setCell ⟨g, 0, none⟩ (.slice a2 (G.length + 1) cap2)).alloc (.map #[] 0)) := Fr.alloc _ _ _
  have hnew : SMap ((w2.setCell ⟨g, 0, none⟩ (.slice a2 (G.length + 1) cap2)).alloc (.map #[] 0)) w2.heap.size [] := by
    have := SMap.made (w2.setCell ⟨g, 0, none⟩ (.slice a2 (G.length + 1) cap2))
    rwa [World.size_setCell] at this
  have hsz1 := hf1.size
  have hsz2 := hf2.size
  have hsz3 := f3.size
  have hsz4 := f4.size
  have hglt := h.lt
  have ftot : Fr (fun k => k = mb ∨ blk na = some k ∨ k = g ∨ k = me) w w4 := by
    refine ((((hf1.mono (fun _ _ e => .inl e)).trans hf2 (fun _ _ e => .inr (.inl e))).trans f3 (fun _ _ e => .inr (.inr (.inl e)))).trans f4 (fun _ _ e => e.elim)).trans hf4 (fun _ _ e => .inr (.inr (.inr e)))
  have hmelt := h.tbl.lt
  have hcell4 : w4.heap[g]? = some (.cells #[.slice a2 (G.length + 1) cap2, .map (some mb), .map (some me)] 71 (0, 0)) := by
    rw [hf4.block g (by omega) hge, f4.block g (by omega) (fun e => e)]
    rw [heap_setCell_same w2 g 0 _ _ _ HG2.out]
    rfl
  have hdisj : ∀ b, b < w.heap.size → SMap w b (idxOf (names G)) ∨ (∃ m, SMap w b m) → ¬ b = g := fun b _ hb e => by
    subst e
    rcases hb with hb | ⟨m, hb⟩
    · exact hb.ne_cells h.cell rfl
    · exact hb.ne_cells h.cell rfl
  refine ⟨rfl, ⟨a2, cap2, mb, me, rs ++ [w2.heap.size], ?_⟩, ftot.mono ?_⟩
  · refine { cell := by simpa using hcell4, nodes := ?_, idx := ?_, len := by simp [h.len], tbl := ?_, sets := ?_, apart := ?_, fg := .inl h.fg, fb := .inl h.fb, fe := .inl h.fe, fr := ?_, fn := ?_, ng := ?_ }
    · have h3 := hown2.fr f3 (fun k hk e => by
        subst e
        rcases hk2 _ hk with hk' | hk'
        · exact h.ng hk'
        · omega)
      have h4 := (h3.alloc (.map #[] 0)).fr hf4 (fun k hk e => by
        subst e
        rcases hk2 _ hk with hk' | hk'
        · obtain ⟨cur, hcur⟩ := h.nodes.cells hk'
          exact h.tbl.ne_cells hcur rfl
        · omega)
      simpa using h4
    · rw [show names (G ++ [(s, [])]) = names G ++ [s] from by simp, idxOf_snoc]
      rw [aput_new _ _ _ (by rw [idxOf_keys]; exact hs), ← HL.out] at hm1
      have hmblt := h.idx.lt
      refine (((hm1.fr hf2 (fun hk => hnm _ hk rfl)).fr f3 (fun e => hgm e.symm)).fr f4 (fun e => e)).fr hf4 (fun e => hap.1 (by rw [e]; simp))
    · rw [show names (G ++ [(s, [])]) = names G ++ [s] from by simp, refs_snoc _ _ (by simp [h.len])]
      rw [aput_new _ _ _ (by rw [refs_keys (by simp [h.len])]; exact hs)] at hm4
      exact hm4
    · intro i hi hi'
      by_cases hlt : i < rs.length
      · have hG : i < G.length := by rw [← h.len]; exact hlt
        have hr := h.sets i hlt hG
        rw [List.getElem_append_left hlt, List.getElem_append_left hG]
        refine hr.fr ftot (fun e => ?_)
        rcases e with e | e | e | e
        · exact hap.1 (by rw [← e]; exact List.mem_cons_of_mem _ (List.getElem_mem hlt))
        · obtain ⟨cur, hcur⟩ := h.nodes.cells e
          exact hr.ne_cells hcur rfl
        · exact hr.ne_cells h.cell e.symm
        · exact hap.2.1 (by rw [← e]; exact List.getElem_mem hlt)
      · have he : i = rs.length := by simp at hi; omega
        subst he
        have e1 : (rs ++ [w2.heap.size])[rs.length] = w2.heap.size := by simp
        have e2 : (G ++ [(s, [])])[rs.length] = (s, []) := by
          have := h.len
          simp [this]
        rw [e1, e2]
        exact hnew.fr hf4 (fun e => by omega)
    · have hb := h.idx.lt
      have hrl : ∀ r ∈ rs, r < w.heap.size := fun r hr => by
        obtain ⟨i, hi, rfl⟩ := List.mem_iff_getElem.1 hr
        exact (h.sets i hi (by rw [← h.len]; exact hi)).lt
      rw [← List.cons_append, ← List.cons_append, List.nodup_append]
      refine ⟨h.apart, by simp, fun a ha b hb e => ?_⟩
      simp at hb
      subst hb
      subst e
      rcases List.mem_cons.1 ha with ha | ha
      · omega
      · rcases List.mem_cons.1 ha with ha | ha
        · omega
        · have := hrl _ ha; omega
    · intro r hr
      rcases List.mem_append.1 hr with hr | hr
      · exact .inl (h.fr r hr)
      · simp at hr; right; omega
    · intro k hk
      rcases hk2 k hk with hk' | hk'
      · exact .inl (h.fn k hk')
      · right; omega
    · intro e
      rcases hk2 _ e with hk' | hk'
      · exact h.ng hk'
      · omega
  · intro b _ e
    rcases e with e | e | e | e
    · rw [e]; exact h.fb
    · exact h.fn b e
    · rw [e]; exact h.fg
    · rw [e]; exact h.fe
end Go.Proofs.Ythajiimohbjjhaa
