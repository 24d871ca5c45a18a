/- The closure that Topo calls: what a visit does to the marks and the list. -/
import Derived.Test.YthajiimohbjjhaaVis
import Derived.Test.YthajiimohbjjhaaMat
namespace Go.Proofs.Ythajiimohbjjhaa
open Go.RowKit

/-- The memory of Topo on the way: the graph, its closure's cells, the marks, the list T of those that are done. -/
structure TS (w : World) (B : Nat) (F : Nat → Prop) (g : Nat) (G : Gr) (c1 c3 c4 c5 mk : Nat) (a : Option Addr) (cap : Nat) (T : List Str) : Prop where
  graph : GraphAt w F g G
  fb : ∀ k, F k → k < B
  h1 : w.heap[c1]? = some (.cells #[.pointer (some ⟨g, 0, none⟩)] 54 (0, 0))
  h3 : w.heap[c3]? = some (.cells #[.slice a T.length cap] 32 (0, 0))
  h4 : w.heap[c4]? = some (.cells #[.map (some mk)] 67 (0, 0))
  h5 : w.heap[c5]? = some (.cells #[.func (.func 54) #[] #[.pointer (some ⟨c4, 0, none⟩), .pointer (some ⟨c1, 0, none⟩), .pointer (some ⟨c5, 0, none⟩), .pointer (some ⟨c3, 0, none⟩)]] 75 (0, 0))
  own : Own encS 1 w B 9 a cap T
  map : SMap w mk (setOf T)
  b3 : B ≤ c3
  bm : B ≤ mk

section
variable {w w' : World} {B : Nat} {F : Nat → Prop} {g : Nat} {G : Gr} {c1 c3 c4 c5 mk : Nat} {a : Option Addr} {cap : Nat} {T : List Str}
theorem cell0_of {k : Nat} {v : Value} {t : TypeId} (h : w.heap[k]? = some (.cells #[v] t (0, 0))) : w.cell? ⟨k, 0, none⟩ = some v := by
  rw [cell_of_row _ _ _ _ _ _ h]
  rfl
theorem TS.top (h : TS w B F g G c1 c3 c4 c5 mk a cap T) (hb : Below w.heap.size w w') : TS w' B F g G c1 c3 c4 c5 mk a cap T where
  graph := h.graph.top hb
  fb := h.fb
  h1 := (hb.block c1 (Array.getElem?_eq_some_iff.1 h.h1).1).trans h.h1
  h3 := (hb.block c3 (Array.getElem?_eq_some_iff.1 h.h3).1).trans h.h3
  h4 := (hb.block c4 (Array.getElem?_eq_some_iff.1 h.h4).1).trans h.h4
  h5 := (hb.block c5 (Array.getElem?_eq_some_iff.1 h.h5).1).trans h.h5
  own := h.own.top hb
  map := h.map.top hb
  b3 := h.b3
  bm := h.bm
/-- The marks written. -/
theorem TS.mark (h : TS w B F g G c1 c3 c4 c5 mk a cap T) (f : Fr (fun k => k = mk) w w') :
    GraphAt w' F g G ∧ w'.heap[c1]? = some (.cells #[.pointer (some ⟨g, 0, none⟩)] 54 (0, 0)) ∧ w'.heap[c3]? = some (.cells #[.slice a T.length cap] 32 (0, 0)) ∧ w'.heap[c4]? = some (.cells #[.map (some mk)] 67 (0, 0)) ∧
    w'.heap[c5]? = some (.cells #[.func (.func 54) #[] #[.pointer (some ⟨c4, 0, none⟩), .pointer (some ⟨c1, 0, none⟩), .pointer (some ⟨c5, 0, none⟩), .pointer (some ⟨c3, 0, none⟩)]] 75 (0, 0)) ∧ Own encS 1 w' B 9 a cap T := by
  refine ⟨h.graph.keep f (fun k hk e => ?_), ?_, ?_, ?_, ?_, h.own.fr f (fun k hk e => ?_)⟩
  · have := h.fb k hk; have := h.bm; omega
  · exact (f.block c1 (Array.getElem?_eq_some_iff.1 h.h1).1 (fun e => h.map.ne_cells h.h1 e)).trans h.h1
  · exact (f.block c3 (Array.getElem?_eq_some_iff.1 h.h3).1 (fun e => h.map.ne_cells h.h3 e)).trans h.h3
  · exact (f.block c4 (Array.getElem?_eq_some_iff.1 h.h4).1 (fun e => h.map.ne_cells h.h4 e)).trans h.h4
  · exact (f.block c5 (Array.getElem?_eq_some_iff.1 h.h5).1 (fun e => h.map.ne_cells h.h5 e)).trans h.h5
  · obtain ⟨cur, hc⟩ := h.own.cells hk
    exact h.map.ne_cells hc e
theorem ne_type {k k' : Nat} {v v' : Array Value} {t t' : TypeId} (h : w.heap[k]? = some (.cells v t (0, 0))) (h' : w.heap[k']? = some (.cells v' t' (0, 0))) (hne : t ≠ t') : k ≠ k' := by
  rintro rfl
  rw [h] at h'
  injection h' with h'
  injection h' with _ h2
  exact hne h2
end

def RetVis (B : Nat) (F : Nat → Prop) (g : Nat) (G : Gr) (c1 c3 c4 c5 mk : Nat) (a : Option Addr) (T' : List Str) (w : World) (e : Ending) (w' : World) : Prop :=
  e = .returned (.tuple #[]) ∧ ∃ a' cap', TS w' B F g G c1 c3 c4 c5 mk a' cap' T' ∧ Fr (fun k => k = c3 ∨ k = mk ∨ blk a = some k) w w' ∧ (∀ k, blk a' = some k → blk a = some k ∨ w.heap.size ≤ k)

theorem visit_calls {B : Nat} {F : Nat → Prop} {g : Nat} {G : Gr} {c1 c3 c4 c5 mk : Nat} {d : Str → Nat} (hd : ∀ a b, hasE G a b = true → d b < d a) (hcl : ∀ a b, hasE G a b = true → b ∈ names G) (hsm : G.length ≤ 1048576) (f : Nat) :
    ∀ (n : Str) (T : List Str) (a : Option Addr) (cap : Nat) (w : World), d n < f → n ∈ names G → T.Nodup → (∀ x ∈ T, x ∈ names G) → TS w B F g G c1 c3 c4 c5 mk a cap T →
      Calls Try.prog 54 #[.string n, .pointer (some ⟨c4, 0, none⟩), .pointer (some ⟨c1, 0, none⟩), .pointer (some ⟨c5, 0, none⟩), .pointer (some ⟨c3, 0, none⟩)] w (RetVis B F g G c1 c3 c4 c5 mk a (vis G f T n) w) := by
  induction f with
  | zero => intro n T a cap w hf; omega
  | succ f ih =>
    intro n T a cap w hf hn hTn hTs h
    have hc1 := cell0_of h.h1
    have hc4 := cell0_of h.h4
    have hl := h.map.look Try.underlying67 Try.underlying9 (zeroB w) n
    rw [aget_setOf] at hl
    by_cases hin : n ∈ T
    · rw [if_pos hin, Option.getD_some] at hl
      have hv : vis G (f + 1) T n = T := by unfold vis; rw [if_pos hin]
      rw [hv]
      clear hin hv
      have HTS := Lib.hid h; clear h
      have HN := Lib.hid hn; clear hn
      have HTSS := Lib.hid hTs; clear hTs
      have HTN := Lib.hid hTn; clear hTn
      clear hd hcl ih
      go_enter Try.func54, Try.ntmps54
      go_wp2
      go_end0
      exact ⟨rfl, a, cap, HTS.out, Fr.refl _ _, fun k hk => .inl hk⟩
    · rw [if_neg hin, Option.getD_none] at hl
      have hv : vis G (f + 1) T n = ins n ((ends G n).foldl (vis G f) T) := by rw [vis, if_neg hin]
      rw [hv]
      clear hv
      have hed := edges_new_calls n h.graph hn hcl hsm
      have hnot := fun k => fold_not (f := f) hd hin k
      have hds : ∀ y ∈ ends G n, d y < f ∧ y ∈ names G := fun y hy => ⟨by have := hd _ _ (mem_ends.1 hy).2; omega, (mem_ends.1 hy).1⟩
      have hkeep : ∀ k, (((ends G n).take k).foldl (vis G f) T).Nodup ∧ ∀ x ∈ ((ends G n).take k).foldl (vis G f) T, x ∈ names G := fun k =>
        fold_keep f (fun T => T.Nodup ∧ ∀ x ∈ T, x ∈ names G) (fun T n hn h => vis_nodup f T n hn h) _ _ (fun x hx => (hds x (List.mem_of_mem_take hx)).2) ⟨hTn, hTs⟩
      have hlen : ∀ k, (((ends G n).take k).foldl (vis G f) T).length ≤ 1048576 := fun k => by
        have := nodup_subset_len (hkeep k).1 (hkeep k).2
        simp only [List.length_map] at this
        omega
      have hstep : ∀ k (hk : k < (ends G n).length), ((ends G n).take (k + 1)).foldl (vis G f) T = vis G f (((ends G n).take k).foldl (vis G f) T) (ends G n)[k] := fun k hk => by
        rw [List.take_succ_eq_append_getElem hk, List.foldl_append]
        rfl
      have HED := Lib.hid hed; clear hed
      have HNOT := Lib.hid hnot; clear hnot
      have HDS := Lib.hid hds; clear hds
      have HKEEP := Lib.hid hkeep; clear hkeep
      have HLEN := Lib.hid hlen; clear hlen
      have HSTEP := Lib.hid hstep; clear hstep
      have HTS := Lib.hid h; clear h
      have hc3 := Lib.hid hn
      clear hn
      clear hin hTn hTs hd hcl hf
      go_enter Try.func54, Try.ntmps54
      go_wp2_with (go_at_call 42; refine (HED.out).mono ?_; rintro e w1 ⟨ea, en, ec, rfl, rfl, hes, hb1, hnew⟩)
      generalize hL : ends G n = L at *
      have hts1 := HTS.out.top hb1
      have hLl := hes.len
      have HL := Lib.hid hL; clear hL
      have HES := Lib.hid hes
      clear hes
      have HNEW := Lib.hid hnew; clear hnew
      have hsz1 := hb1.size
      go_loopg [15] L.length (fun gk i wr => ∃ (k : Nat) (a' : Option Addr) (cap' : Nat), k ≤ L.length ∧ gk = L.length - k ∧ i = .int .i64 k ∧ Hid (TS wr B F g G c1 c3 c4 c5 mk a' cap' ((L.take k).foldl (vis G f) T)) ∧
        Hid (Fr (fun k => k = c3 ∨ k = mk ∨ blk a = some k) w1 wr) ∧ Hid (∀ k, blk a' = some k → blk a = some k ∨ w1.heap.size ≤ k))
      case atStart => exact ⟨0, a, cap, Nat.zero_le _, by omega, rfl, Lib.hid (by simpa using hts1), Lib.hid (Fr.refl _ _), Lib.hid (fun k hk => .inl hk)⟩
      case round =>
        obtain ⟨k, a', cap', hk, rfl, rfl, HT, HF, HA⟩ := hrel
        by_cases hlt : k < L.length
        · have hesr : Sl encS 1 wr ea ec L := HES.out.fr HF.out (fun b off e hh => by
            have h1 := HNEW.out b (by rw [e]; rfl)
            rcases hh with hh | hh | hh
            · have := (Array.getElem?_eq_some_iff.1 HTS.out.h3).1; omega
            · have := HTS.out.map.lt; omega
            · have := (HTS.out.own.lt b hh).2; omega)
          obtain ⟨bb, off, rfl, hs1⟩ := hesr.s1 hlt
          have hc5 := cell0_of HT.out.h5
          have hcall := ih L[k] ((L.take k).foldl (vis G f) T) a' cap' wr (HDS.out _ (List.getElem_mem hlt)).1 (HDS.out _ (List.getElem_mem hlt)).2 (HKEEP.out k).1 (HKEEP.out k).2 HT.out
          rw [← HSTEP.out k hlt] at hcall
          have HCALL := Lib.hid hcall; clear hcall
          generalize L[k] = y at *
          clear hesr hts1
          go_wp2_with (go_at_call 54; refine (HCALL.out).mono ?_; rintro e w2 ⟨rfl, a2, cap2, ht2, hf2, ha2⟩)
          have HT2 := Lib.hid ht2
          clear ht2
          go_roundg (L.length - (k + 1))
          case measure => omega
          case rel =>
            have hszr := HF.out.size
            refine ⟨k + 1, a2, cap2, by omega, rfl, by go_num, HT2, Lib.hid (HF.out.trans hf2 (fun b hb hh => ?_)), Lib.hid (fun b hb => ?_)⟩
            · rcases hh with hh | hh | hh
              · exact .inl hh
              · exact .inr (.inl hh)
              · rcases HA.out b hh with h1 | h1
                · exact .inr (.inr h1)
                · omega
            · rcases ha2 b hb with h1 | h1
              · exact HA.out b h1
              · right; omega
        · have hkk : (L.take k) = L := List.take_of_length_le (by omega)
          have hT2 := HT.out
          have hnot := HNOT.out k
          have hlen := HLEN.out k
          rw [hkk] at hT2 hnot hlen
          generalize L.foldl (vis G f) T = T2 at *
          have hins : ins n T2 = T2 ++ [n] := by unfold ins; rw [if_neg hnot]
          rw [hins]
          have hap : aput n (.bool true) (setOf T2) = setOf (ins n T2) := aput_setOf n T2
          rw [hins] at hap
          have HINS := Lib.hid hins; clear hins
          have HAP := Lib.hid hap; clear hap
          clear hnot hkk hts1
          have hc4r := cell0_of hT2.h4
          have hszr := HF.out.size
          have HT2 := Lib.hid hT2; clear hT2
          clear HT
          obtain ⟨wo, rfl⟩ : ∃ wo : World, wo = wr := ⟨_, rfl⟩
          go_wp2_with (first
            | (at_mapUpdate
               refine wpList_store_s _ rfl _ _ _ 67 rfl Try.underlying67 Try.underlying9 mk rfl n rfl (.bool true) rfl (setOf T2) HT2.out.map ?_
               intro w4 hm4 hf4
               rw [HAP.out] at hm4
               have hk4 := HT2.out.mark hf4
               have hc34 := cell0_of hk4.2.2.1
               have HK4 := Lib.hid hk4
               clear hk4)
            | (at_builtin
               refine wpList_append_new encS 1 encS_len encS_one _ _ rfl _ _ 32 rfl 9 _ 16 Try.underlying32 infoS rfl (by omega) B a' cap' T2 _ rfl rfl HK4.out.2.2.2.2.2 n _ _ rfl rfl (by omega) (by omega) (by have h1 := HT2.out.b3; have h2 := (Array.getElem?_eq_some_iff.1 HK4.out.2.2.1).1; omega) ?_
               intro a5 cap5 w5 hown5 hf5 hk5
               have HC35 := Lib.hid ((hf5.block c3 (Array.getElem?_eq_some_iff.1 HK4.out.2.2.1).1 (fun hh => by obtain ⟨cur, hcur⟩ := HK4.out.2.2.2.2.2.cells hh; exact ne_type HK4.out.2.2.1 hcur (by decide) rfl)).trans HK4.out.2.2.1)
               have hc35 := cell0_of HC35.out
               have hz35 : w5.frozen? ⟨c3, 0, none⟩ = false := frozen_of_row _ _ _ _ _ HC35.out))
          go_end0
          have hk4 := HK4.out
          have f6 : Fr (fun k => k = c3) w5 (w5.setCell ⟨c3, 0, none⟩ (.slice a5 (T2.length + 1) cap5)) := Fr.setCell _ _ _ rfl
          have o2 : ∀ k, blk a' = some k → k < w4.heap.size ∧ ∃ cur, w4.heap[k]? = some (.cells cur 9 (0, 0)) := fun k hk => ⟨(hk4.2.2.2.2.2.lt k hk).2, hk4.2.2.2.2.2.cells hk⟩
          have far : ∀ {k : Nat} {v : Array Value} {t : TypeId}, w4.heap[k]? = some (.cells v t (0, 0)) → t ≠ 9 → t ≠ 32 → (w5.setCell ⟨c3, 0, none⟩ (.slice a5 (T2.length + 1) cap5)).heap[k]? = some (.cells v t (0, 0)) := fun {k v t} hk hne hne2 => by
            have hlt := (Array.getElem?_eq_some_iff.1 hk).1
            rw [f6.block k (Nat.lt_of_lt_of_le hlt hf5.size) (fun e => ne_type hk hk4.2.2.1 hne2 e), hf5.block k hlt (fun e => by
              obtain ⟨_, cur, hcur⟩ := o2 k e
              exact ne_type hk hcur hne rfl)]
            exact hk
          have hown6 := hown5.fr f6 (fun k hk e => by
            obtain ⟨cur, hcur⟩ := hown5.cells hk
            exact ne_type hcur HC35.out (by decide) e)
          have hszw4 := hf4.size
          have hszw5 := hf5.size
          refine ⟨rfl, a5, cap5, ?_, ?_, ?_⟩
          · rw [HINS.out]
            refine { graph := ?_, fb := HT2.out.fb, h1 := far hk4.2.1 (by decide) (by decide), h3 := ?_, h4 := far hk4.2.2.2.1 (by decide) (by decide), h5 := far hk4.2.2.2.2.1 (by decide) (by decide), own := hown6, map := ?_, b3 := HT2.out.b3, bm := HT2.out.bm }
            · refine (hk4.1.keep hf5 (fun k hk e => ?_)).keep f6 (fun k hk e => ?_)
              · have := HT2.out.fb k hk
                have := (hk4.2.2.2.2.2.lt k e).1
                omega
              · have := HT2.out.fb k hk
                have := HT2.out.b3
                omega
            · rw [heap_setCell_same w5 c3 0 _ _ _ HC35.out, List.length_append]
              rfl
            · refine ((hm4.fr hf5 (fun hh => ?_)).fr f6 (fun hh => ?_))
              · obtain ⟨_, cur, hcur⟩ := o2 mk hh
                exact hm4.ne_cells hcur rfl
              · exact hm4.ne_cells hk4.2.2.1 hh.symm
          · have hb1' : Fr (fun k => k = c3 ∨ k = mk ∨ blk a = some k) w w1 := Fr.of_below_top hb1 _
            refine (((hb1'.trans HF.out (fun _ _ e => e)).trans hf4 (fun _ _ e => .inr (.inl e))).trans hf5 (fun b hb hh => ?_)).trans f6 (fun _ _ e => .inl e)
            rcases HA.out b hh with h1 | h1
            · exact .inr (.inr h1)
            · omega
          · intro k hk
            rcases hk5 k hk with h1 | h1
            · rcases HA.out k h1 with h2 | h2
              · exact .inl h2
              · right; omega
            · right; omega
end Go.Proofs.Ythajiimohbjjhaa
