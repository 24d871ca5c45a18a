/- Topo of a graph: the list behind all visits, turned round. -/
import Derived.Test.YthajiimohbjjhaaVisit
import Derived.BigRegion
import Derived.RegionTactic
import Derived.ChangeAlike
import Derived.Laws.EntriesVeiled
import Derived.IntWalk
namespace Go.Proofs.Ythajiimohbjjhaa
open Go.RowKit

/-- a list whose first k and last k elements have changed places -/
def revK (T : List Str) (k : Nat) : List Str := (List.range T.length).map fun i => if i < k ∨ T.length - k ≤ i then nm' T (T.length - 1 - i) else nm' T i
where nm' (T : List Str) (i : Nat) : Str := T.getD i ByteArray.empty
theorem revK_len (T : List Str) (k : Nat) : (revK T k).length = T.length := by simp [revK]
theorem revK_get (T : List Str) (k i : Nat) (hi : i < T.length) : (revK T k)[i]? = some (if i < k ∨ T.length - k ≤ i then T.getD (T.length - 1 - i) ByteArray.empty else T.getD i ByteArray.empty) := by
  unfold revK revK.nm'
  rw [List.getElem?_map, List.getElem?_range hi]
  rfl
theorem revK_zero (T : List Str) : revK T 0 = T := by
  apply List.ext_getElem?
  intro i
  by_cases hi : i < T.length
  · rw [revK_get T 0 i hi, if_neg (by omega)]
    simp [hi]
  · rw [List.getElem?_eq_none (by rw [revK_len]; omega), List.getElem?_eq_none (by omega)]
theorem revK_done (T : List Str) (k : Nat) (h : T.length ≤ 2 * k + 1) : revK T k = T.reverse := by
  apply List.ext_getElem?
  intro i
  by_cases hi : i < T.length
  · rw [revK_get T k i hi, List.getElem?_reverse hi]
    by_cases hk : i < k ∨ T.length - k ≤ i
    · rw [if_pos hk]
      simp [show T.length - 1 - i < T.length from by omega]
    · rw [if_neg hk]
      have e : T.length - 1 - i = i := by omega
      rw [e]
      simp [hi]
  · rw [List.getElem?_eq_none (by rw [revK_len]; omega), List.getElem?_eq_none (by simp; omega)]
theorem revK_step (T : List Str) (k : Nat) (h : 2 * k + 1 < T.length) :
    ((revK T k).set k (T.getD (T.length - 1 - k) ByteArray.empty)).set (T.length - 1 - k) (T.getD k ByteArray.empty) = revK T (k + 1) := by
  apply List.ext_getElem?
  intro i
  by_cases hi : i < T.length
  · rw [List.getElem?_set, List.getElem?_set, revK_get T k i hi, revK_get T (k + 1) i hi]
    simp only [List.length_set, revK_len]
    by_cases h1 : T.length - 1 - k = i
    · rw [if_pos h1, if_pos (by omega), if_pos (by omega)]
      rw [show T.length - 1 - i = k from by omega]
    · rw [if_neg h1]
      by_cases h2 : k = i
      · subst h2
        rw [if_pos rfl, if_pos (by omega), if_pos (by omega)]
      · rw [if_neg h2]
        by_cases h3 : i < k ∨ T.length - k ≤ i
        · rw [if_pos h3, if_pos (by omega)]
        · rw [if_neg h3, if_neg (by omega)]
  · rw [List.getElem?_eq_none (by simp [revK_len]; omega), List.getElem?_eq_none (by rw [revK_len]; omega)]

theorem heap_alloc_old {w : World} {k : Nat} {o : Obj} (h : w.heap[k]? = some o) (o' : Obj) : (w.alloc o').heap[k]? = some o := (Below.heap_alloc w o' k (Array.getElem?_eq_some_iff.1 h).1).trans h
/-- The order that Topo returns. -/
def topoL (G : Gr) (f : Nat) : List Str := (postG G f).reverse

set_option maxRecDepth 100000 in
theorem topo_calls {w : World} {F : Nat → Prop} {g : Nat} {G : Gr} {d : Str → Nat} {f : Nat} (h : GraphAt w F g G) (hd : ∀ a b, hasE G a b = true → d b < d a) (hcl : ∀ a b, hasE G a b = true → b ∈ names G) (hsm : G.length ≤ 1048576) (hf : ∀ x ∈ names G, d x < f) :
    Calls Try.prog 45 #[.pointer (some ⟨g, 0, none⟩)] w <| RetSl fun a n cap w' => n = (topoL G f).length ∧ Sl encS 1 w' a cap (topoL G f) ∧ Below w.heap.size w w' := by
  have hG := h.bound
  obtain ⟨na, nc, mb, me, rs, h⟩ := h
  obtain ⟨ns, hns⟩ : ∃ ns, names G = ns := ⟨_, rfl⟩
  have hlen : G.length = ns.length := by rw [← hns]; simp
  have hnl : ns.length ≤ 1048576 := by omega
  have hc0 := (h.keep (Fr.alloc NoB w (.cells #[.pointer (some ⟨g, 0, none⟩)] 54)) (fun _ _ e => e)).cell0
  rw [hlen] at hc0
  have hmm := @run_makeMap Try.prog
  have hgl := h.lt
  have hg2 : g < w.heap.size + 1 + 1 := by omega
  have hg3 : g < w.heap.size + 1 + 1 + 1 := by omega
  have hg4 : g < w.heap.size + 1 + 1 + 1 + 1 := by omega
  have hg5 : g < w.heap.size + 1 + 1 + 1 + 1 + 1 := by omega
  have HG := Lib.hid h; clear h
  have HD := Lib.hid hd; clear hd
  have HCL := Lib.hid hcl; clear hcl
  have HFF := Lib.hid hf; clear hf
  have HLEN := Lib.hid hlen; clear hlen
  have HNS := Lib.hid hns; clear hns
  go_enter Try.func45, Try.ntmps45
  go_wp2_with (at_make
               refine wpList_make0 Value.string (.string ByteArray.empty) _ rfl _ _ 32 rfl w.heap.size 9 16 Try.underlying32 infoS _ ns.length rfl rfl rfl (by omega) (by omega) (by simp) ?_
               intro w2 hown2 hf2 hs2
               have hcg2 : w2.cell? ⟨g, 0, none⟩ = some (.slice na ns.length nc) := (hf2.cell (a := ⟨g, 0, none⟩) (by simp; omega) (fun e => e)).trans hc0
               have hc12 : w2.cell? ⟨w.heap.size, 0, none⟩ = some (.pointer (some ⟨g, 0, none⟩)) := (hf2.cell (a := ⟨w.heap.size, 0, none⟩) (by simp) (fun e => e)).trans (cell0_of (heap_alloc_new w _)))
  have hts : TS ((((w2.alloc (.cells #[.slice (some ⟨w.heap.size + 1, 0, none⟩) 0 ns.length] 32)).alloc (.map #[] 0)).alloc (.cells #[.map (some (w.heap.size + 1 + 1 + 1))] 67)).alloc
      (.cells #[.func (.func 54) #[] #[.pointer (some ⟨w.heap.size + 1 + 1 + 1 + 1, 0, none⟩), .pointer (some ⟨w.heap.size, 0, none⟩), .pointer (some ⟨w.heap.size + 1 + 1 + 1 + 1 + 1, 0, none⟩), .pointer (some ⟨w.heap.size + 1 + 1, 0, none⟩)]] 75))
      w.heap.size (fun k => F k ∧ k < w.heap.size) g G w.heap.size (w.heap.size + 1 + 1) (w.heap.size + 1 + 1 + 1 + 1) (w.heap.size + 1 + 1 + 1 + 1 + 1) (w.heap.size + 1 + 1 + 1) (some ⟨w.heap.size + 1, 0, none⟩) ns.length [] := by
    refine { graph := ?_, fb := fun k hk => hk.2, h1 := ?_, h3 := ?_, h4 := ?_, h5 := ?_, own := ?_, map := ?_, b3 := by omega, bm := by omega }
    · exact (((((hG.alloc _).keep hf2 (fun _ _ e => e)).alloc _).alloc _).alloc _).alloc _
    · exact heap_alloc_old (heap_alloc_old (heap_alloc_old (heap_alloc_old ((hf2.block _ (by simp) (fun e => e)).trans (heap_alloc_new w _)) _) _) _) _
    · refine heap_alloc_old (heap_alloc_old (heap_alloc_old ?_ _) _) _
      have := heap_alloc_new w2 (.cells #[.slice (some ⟨w.heap.size + 1, 0, none⟩) 0 ns.length] 32)
      rw [hs2] at this
      simpa using this
    · refine heap_alloc_old ?_ _
      have := heap_alloc_new ((w2.alloc (.cells #[.slice (some ⟨w.heap.size + 1, 0, none⟩) 0 ns.length] 32)).alloc (.map #[] 0)) (.cells #[.map (some (w.heap.size + 1 + 1 + 1))] 67)
      simp only [World.size_alloc, hs2] at this
      exact this
    · have := heap_alloc_new (((w2.alloc (.cells #[.slice (some ⟨w.heap.size + 1, 0, none⟩) 0 ns.length] 32)).alloc (.map #[] 0)).alloc (.cells #[.map (some (w.heap.size + 1 + 1 + 1))] 67)) (.cells #[.func (.func 54) #[] #[.pointer (some ⟨w.heap.size + 1 + 1 + 1 + 1, 0, none⟩), .pointer (some ⟨w.heap.size, 0, none⟩), .pointer (some ⟨w.heap.size + 1 + 1 + 1 + 1 + 1, 0, none⟩), .pointer (some ⟨w.heap.size + 1 + 1, 0, none⟩)]] 75)
      simp only [World.size_alloc, hs2] at this
      exact this
    · have h2 : Own encS 1 w2 w.heap.size 9 (some ⟨w.heap.size + 1, 0, none⟩) ns.length [] := by
        have := hown2
        simp only [World.size_alloc] at this
        exact this
      exact (((h2.alloc _).alloc _).alloc _).alloc _
    · have := SMap.made (w2.alloc (.cells #[.slice (some ⟨w.heap.size + 1, 0, none⟩) 0 ns.length] 32))
      simp only [World.size_alloc, hs2] at this
      exact (this.alloc _).alloc _
  have hbw : Below w.heap.size w ((((w2.alloc (.cells #[.slice (some ⟨w.heap.size + 1, 0, none⟩) 0 ns.length] 32)).alloc (.map #[] 0)).alloc (.cells #[.map (some (w.heap.size + 1 + 1 + 1))] 67)).alloc
      (.cells #[.func (.func 54) #[] #[.pointer (some ⟨w.heap.size + 1 + 1 + 1 + 1, 0, none⟩), .pointer (some ⟨w.heap.size, 0, none⟩), .pointer (some ⟨w.heap.size + 1 + 1 + 1 + 1 + 1, 0, none⟩), .pointer (some ⟨w.heap.size + 1 + 1, 0, none⟩)]] 75)) := by
    simp only [World.size_alloc] at hs2
    have h2 : Below w.heap.size w w2 := ((Below.refl _ _).alloc (Nat.le_refl _) _).fr hf2 (Nat.le_refl _) (fun _ e => e.elim)
    exact (((h2.alloc (by omega) _).alloc (by simp; omega) _).alloc (by simp; omega) _).alloc (by simp; omega) _
  generalize ((((w2.alloc (.cells #[.slice (some ⟨w.heap.size + 1, 0, none⟩) 0 ns.length] 32)).alloc (.map #[] 0)).alloc (.cells #[.map (some (w.heap.size + 1 + 1 + 1))] 67)).alloc
      (.cells #[.func (.func 54) #[] #[.pointer (some ⟨w.heap.size + 1 + 1 + 1 + 1, 0, none⟩), .pointer (some ⟨w.heap.size, 0, none⟩), .pointer (some ⟨w.heap.size + 1 + 1 + 1 + 1 + 1, 0, none⟩), .pointer (some ⟨w.heap.size + 1 + 1, 0, none⟩)]] 75)) = W at *
  clear hown2 hf2 hs2 hcg2 hc12 hc0 hmm hG
  have hvis := visit_calls (B := w.heap.size) (F := fun k => F k ∧ k < w.heap.size) (g := g) (c1 := w.heap.size) (c3 := w.heap.size + 1 + 1) (c4 := w.heap.size + 1 + 1 + 1 + 1) (c5 := w.heap.size + 1 + 1 + 1 + 1 + 1) (mk := w.heap.size + 1 + 1 + 1) HD.out HCL.out hsm f
  have HVIS := Lib.hid hvis; clear hvis
  have hsl : Hid (∀ wr, Below w.heap.size w wr → Sl encS 1 wr na nc ns) := Lib.hid (fun wr hb => by
    have := (HG.out.nodes.top hb).sl encS_len
    rwa [HNS.out] at this)
  have HTS0 := Lib.hid hts; clear hts
  go_loopg [23] ns.length (fun gk i wr => ∃ (k : Nat) (a : Option Addr) (cap : Nat), k ≤ ns.length ∧ gk = ns.length - k ∧ i = .int .i64 k ∧
    Hid (TS wr w.heap.size (fun k => F k ∧ k < w.heap.size) g G w.heap.size (w.heap.size + 1 + 1) (w.heap.size + 1 + 1 + 1 + 1) (w.heap.size + 1 + 1 + 1 + 1 + 1) (w.heap.size + 1 + 1 + 1) a cap ((ns.take k).foldl (vis G f) [])) ∧ Below w.heap.size w wr)
  case atStart => exact ⟨0, _, _, Nat.zero_le _, by omega, rfl, Lib.hid (by simpa using HTS0.out), hbw⟩
  case round =>
    clear hbw
    obtain ⟨k, a, cap, hk, rfl, rfl, HT, hb⟩ := hrel
    by_cases hlt : k < ns.length
    · obtain ⟨bb, off, rfl, hs1⟩ := (hsl.out wr hb).s1 hlt
      have hc5 := cell0_of HT.out.h5
      have hmem : ns[k] ∈ names G := by rw [HNS.out]; exact List.getElem_mem hlt
      have hkeep := fold_keep (G := G) f (fun T => T.Nodup ∧ ∀ x ∈ T, x ∈ names G) (fun T n hn h => vis_nodup f T n hn h) (ns.take k) [] (fun x hx => by rw [HNS.out]; exact List.mem_of_mem_take hx) ⟨by simp, by simp⟩
      have hcall := HVIS.out ns[k] ((ns.take k).foldl (vis G f) []) a cap wr (HFF.out _ hmem) hmem hkeep.1 hkeep.2 HT.out
      have hft := foldl_take (vis G f) [] ns k hlt
      rw [← hft] at hcall
      have HCALL := Lib.hid hcall; clear hcall
      clear hft hmem hkeep
      generalize ns[k] = y at *
      go_wp2_with (go_at_call 54; refine (HCALL.out).mono ?_; rintro e w2 ⟨rfl, a2, cap2, ht2, hf2, ha2⟩)
      have HT2 := Lib.hid ht2
      clear ht2
      go_roundg (ns.length - (k + 1))
      case measure => omega
      case rel =>
        exact ⟨k + 1, a2, cap2, by omega, rfl, by go_num, HT2, hb.fr hf2 (Nat.le_refl _) (fun b hh => by
          rcases hh with hh | hh | hh
          · omega
          · omega
          · exact (HT.out.own.lt b hh).1)⟩
    · have hTT : (ns.take k).foldl (vis G f) [] = postG G f := by
        rw [List.take_of_length_le (by omega)]
        unfold postG
        rw [HNS.out]
      rw [hTT] at HT
      have hpl := nodup_subset_len (postG_nodup G f).1 (postG_nodup G f).2
      have hpl2 : (postG G f).length ≤ 1048576 := by simp only [List.length_map] at hpl; omega
      clear hTT hpl
      have hrev : topoL G f = (postG G f).reverse := rfl
      have HREV := Lib.hid hrev; clear hrev
      generalize postG G f = T at *
      have hc3 := cell0_of HT.out.h3
      obtain ⟨wo, rfl⟩ : ∃ wo : World, wo = wr := ⟨_, rfl⟩
      go_wp2
      have hw1 : IntKind.i64.wrap ((T.length : Int) - 1) = (T.length : Int) - 1 := IntWalk.i64_in _ (by omega)
      go_quiet (fail)
      clear hw1
      have hown := HT.out.own
      have hh3 := Lib.hid HT.out.h3
      have hb30 : w.heap.size + 1 + 1 < wo.heap.size := (Array.getElem?_eq_some_iff.1 HT.out.h3).1
      clear HT hc3 hsl HVIS HTS0
      go_wp2
      go_loopg [8, 9] T.length (fun gk v8 v9 wr => ∃ (k : Nat) (jv : Int), gk = T.length - k ∧ v8 = .int .i64 k ∧ v9 = .int .i64 jv ∧ jv = (T.length : Int) - 1 - (k : Int) ∧ Hid (Own encS 1 wr w.heap.size 9 a cap (revK T k)) ∧
        Hid (wr.heap[w.heap.size + 1 + 1]? = some (.cells #[.slice a T.length cap] 32 (0, 0))) ∧ Below w.heap.size w wr)
      case atStart => exact ⟨0, _, by omega, rfl, rfl, by simp, Lib.hid (by rw [revK_zero]; exact hown.drewN _), hh3, hb.fr (Fr.drewN NoB _ _) (Nat.le_refl _) (fun _ e => e.elim)⟩
      case round =>
        clear hown hh3 hb
        obtain ⟨k, jv, rfl, rfl, rfl, hjv, HO, H3, hb⟩ := hrel
        have hc3 := cell0_of H3.out
        by_cases hlt : (k : Int) < jv
        · obtain ⟨j, rfl⟩ : ∃ j : Nat, jv = (j : Int) := ⟨jv.toNat, by omega⟩
          have hown := HO.out
          obtain ⟨tg, rfl⟩ : ∃ tg, a = some ⟨tg, 0, none⟩ := by
            rcases hown.2 with ⟨hv, hn⟩ | ⟨tg, c3, cur, hv, _⟩
            · rw [revK_len] at hn
              omega
            · simp only [Value.slice.injEq] at hv
              exact ⟨tg, hv.1⟩
          have hk1 : k < (revK T k).length := by rw [revK_len]; omega
          have hj1 : j < (revK T k).length := by rw [revK_len]; omega
          have e1 := Own.at1 (f := Value.string) hown k hk1
          have e2 := Own.at1 (f := Value.string) hown j hj1
          have hz1 := Own.frozen1 (f := Value.string) hown k
          have hz2 := Own.frozen1 (f := Value.string) hown j
          have hx1 : (revK T k)[k] = T.getD k ByteArray.empty := by
            have := revK_get T k k (by omega)
            rw [List.getElem?_eq_getElem hk1, if_neg (by omega)] at this
            exact Option.some.inj this
          have hx2 : (revK T k)[j] = T.getD (T.length - 1 - k) ByteArray.empty := by
            have := revK_get T k j (by omega)
            rw [List.getElem?_eq_getElem hj1, if_neg (by omega)] at this
            rw [show T.length - 1 - k = j from by omega]
            exact Option.some.inj this
          rw [hx1] at e1
          rw [hx2] at e2
          have hst := revK_step T k (by omega)
          rw [show T.length - 1 - k = j from by omega] at hst e2
          clear hx1 hx2 hk1 hj1
          generalize T.getD k ByteArray.empty = x at *
          generalize T.getD j ByteArray.empty = y at *
          have hs1 := (Own.set1 (f := Value.string) (Own.set1 (f := Value.string) hown.drew k y) j x)
          rw [hst] at hs1
          have hkj : k ≠ j := by omega
          have hst2 : ((revK T k).set j x).set k y = revK T (k + 1) := by rw [List.set_comm _ _ (fun e => hkj e.symm)]; exact hst
          have hs2 := (Own.set1 (f := Value.string) (Own.set1 (f := Value.string) hown.drew j x) k y)
          rw [hst2] at hs2
          have htl := (hown.lt tg rfl)
          have hne3 : w.heap.size + 1 + 1 ≠ tg := by
            obtain ⟨cur, hcur⟩ := hown.cells (k := tg) rfl
            exact ne_type H3.out hcur (by decide)
          have hfa : ∀ (p q : Nat) (u v : Value), Fr (fun b => b = tg) wr ((wr.drew.setCell ⟨tg, p, none⟩ u).setCell ⟨tg, q, none⟩ v) := fun p q u v =>
            ((Fr.drew (fun b => b = tg) wr).trans (Fr.setCell (S := fun b => b = tg) wr.drew ⟨tg, p, none⟩ u rfl) (fun _ _ e => e)).trans (Fr.setCell (S := fun b => b = tg) _ ⟨tg, q, none⟩ v rfl) (fun _ _ e => e)
          have HFA := Lib.hid hfa; clear hfa
          have HST := Lib.hid hst; clear hst
          have HST2 := Lib.hid hst2; clear hst2
          have HS1 := Lib.hid hs1; clear hs1
          have HS2 := Lib.hid hs2; clear hs2
          have hjn : ((j : Int)).toNat = j := by simp
          have hkn : ((k : Int)).toNat = k := by simp
          have hj2 : (j : Int) < (T.length : Int) := by omega
          have hk2 : (k : Int) < (T.length : Int) := by omega
          have hj0 : (0 : Int) ≤ (j : Int) := by omega
          have hk0 : (0 : Int) ≤ (k : Int) := by omega
          have HOWN := Lib.hid hown; clear hown
          have hjv' := Lib.hid hjv
          clear hjv
          go_wp2
          go_region
          go_wp2
          go_roundg (T.length - (k + 1))
          case measure => have := hjv'.out; omega
          case rel =>
            have h3 : Fr (fun b => b = tg) wr ((wr.setCell ⟨tg, k, none⟩ (.string y)).setCell ⟨tg, j, none⟩ (.string x)).drew := HFA.out k j (.string y) (.string x)
            refine ⟨k + 1, (j : Int) - 1, rfl, by go_num, rfl, by have := hjv'.out; omega, Lib.hid HS1.out, Lib.hid ?_, hb.fr h3 (Nat.le_refl _) (fun b e => by omega)⟩
            exact (h3.block _ (Array.getElem?_eq_some_iff.1 H3.out).1 hne3).trans H3.out
        · have hown := HO.out
          rw [revK_done T k (by omega)] at hown
          have hsl2 := hown.sl encS_len
          clear HO
          go_wp2
          go_ret
          exact ⟨_, _, _, rfl, by rw [HREV.out]; simp, by rw [HREV.out]; exact hsl2, hb⟩
end Go.Proofs.Ythajiimohbjjhaa
