/- laws.FnReduceBack: the walk of the law. -/
import Derived.Test.YthajiimohbjjhaaRedBack
import Derived.Test.YthajiimohbjjhaaAppl
namespace Go.Proofs.Ythajiimohbjjhaa
open Go.RowKit

theorem fnReduceBack_calls {a b : Option Addr} {cap capb n m : Nat} {ns : List Str} {es : List Ed} (w : World) (hn : n = ns.length) (hm : m = es.length) (h : Sl encS 1 w a cap ns) (h' : Sl encE 2 w b capb es) :
    Calls Try.prog 11 #[.slice a n cap, .slice b m capb] w fun e w' => e = .returned (.bool true) ∧ Below w.heap.size w w' := by
  subst hn
  subst hm
  have hfit3 := fits3_calls w rfl h
  have hcl100 : ns.length ≤ 10 → (closedL ns es).length ≤ 100 := fun h10 => Nat.le_trans (closedL_len ns es) (Nat.mul_le_mul h10 h10)
  have HC100 := Lib.hid hcl100; clear hcl100
  go_enter Try.func11, Try.ntmps11
  go_wp2_with (first
    | (go_at_call 27
       refine (sameEdges_calls _ rfl rfl hsl11 hsl611 (nodup_closedL hgd.out.1) (fun e => (mem_closedL hgL.out.2.2.1).trans (back_closed closedL_in (trans_closed hgd.out.2.2.1) (way_closed hway.out) HL.out.2 e))).mono ?_
       rintro e w12 ⟨rfl, hb12'⟩
       have hb112 := hb111.top hb12' (Nat.le_refl _)
       have hn12 := hn11.top hb12'
       have hsl912 := hsl911.top hb12')
    | (go_at_call 30
       refine (closed_calls _ rfl rfl hn10 hsl910 hgd.out.1 (by have := hgd.out.2.2.2.1; omega) hgL.out.2.2.1).mono ?_
       rintro e w11 ⟨a11, n11, c11, rfl, rfl, hown11, hb11⟩
       have hb111 := hb110.top hb11 (Nat.le_refl _)
       have hn11 := hn10.top hb11
       have hsl611 := hsl610.top hb11
       have hsl911 := hsl910.top hb11
       have hsl11 := hown11.sl encE_len
       clear hown11)
    | (go_at_call 20
       refine (good_yes _ rfl rfl hn9 hsl9 hgL.out).mono ?_
       rintro e w10 ⟨rfl, hb10⟩
       have hb110 := hb19.top hb10 (Nat.le_refl _)
       have hn10 := hn9.top hb10
       have hsl610 := hsl69.top hb10
       have hsl910 := hsl9.top hb10)
    | (go_at_call 19
       refine (conv_calls _ rfl hsl8 (by omega)).mono ?_
       rintro e w9 ⟨a9, n9, c9, rfl, rfl, hown9, hb9⟩
       have hb19 := hb18.top hb9 (Nat.le_refl _)
       have hn9 := hn8.top hb9
       have hsl69 := hsl68.top hb9
       have hsl9 := hown9.sl encE_len
       clear hown9)
    | (go_at_call 31
       refine (reduced_calls _ rfl rfl hn7 hsl7 hgd.out.1 (by have := hgd.out.2.2.2.1; omega) closedL_in (trans_closed hgd.out.2.2.1) (way_closed hway.out)).mono ?_
       rintro e w8 ⟨a8, _, c8, L, rfl, rfl, hL, hLl, hsl8, hb8⟩
       have HL := Lib.hid hL
       clear hL
       have hgL : Hid (Good ns L) := Lib.hid ⟨hgd.out.1, hgd.out.2.1, fun e he => closedL_in e (mem_covers.1 ((HL.out.2 e).1 he)).1, hgd.out.2.2.2.1, by
         have := way_len (nodup_closedL hgd.out.1) closedL_in (way_closed hway.out) hgd.out.2.2.2.1
         omega⟩
       have hb18 := hb17.top hb8 (Nat.le_refl _)
       have hn8 := hn7.top hb8
       have hsl68 := hsl67.top hb8)
    | (go_at_call 32
       refine (plain_calls _ rfl hsl6 (by omega)).mono ?_
       rintro e w7 ⟨a7, n7, c7, rfl, rfl, hown7, hb7⟩
       have hb17 := hb16.top hb7 (Nat.le_refl _)
       have hn7 := hn6.top hb7
       have hsl67 := hsl6.top hb7
       have hsl7 := hown7.sl encE_len
       clear hown7)
    | (go_at_call 30
       refine (closed_calls _ rfl rfl hn4 hcs4 hgd.out.1 (by have := hgd.out.2.2.2.1; omega) hgd.out.2.2.1).mono ?_
       rintro e w6 ⟨a6, n6, c6, rfl, rfl, hown6, hb6⟩
       have hb16 := hb14.top hb6 (Nat.le_refl _)
       have hn6 := hn4.top hb6
       have hsl6 := hown6.sl encE_len
       clear hown6)
    | (go_at_call 29
       refine (oneway_calls _ rfl rfl hn3 hcs3 hgd.out.2.2.1).mono ?_
       rintro e w4 ⟨_ | _, rfl, how, hb4⟩
       rotate_left
       have hway : Hid (Way ns es) := Lib.hid (how rfl)
       clear how he3
       have hcl := HC100.out hgd.out.2.2.2.1
       have hb14 := hb13.top hb4 (Nat.le_refl _)
       have hn4 := hn3.top hb4
       have hcs4 := hcs3.top hb4)
    | (go_at_call 20
       refine (good_calls _ rfl rfl ((h.top hb1).top hb2) hcs).mono ?_
       rintro e w3 ⟨_ | _, rfl, hgood, hb3⟩
       rotate_left
       have hgd : Hid (Good ns es) := Lib.hid (by simpa using hgood)
       clear hgood
       have hb13 := hb12.top hb3 (Nat.le_refl _)
       have hcs3 := hcs.top hb3
       have hn3 := h.top hb13
       have he3 := h'.top hb13
       clear hcs hco hb2 hb12)
    | (go_at_call 19
       refine (conv_calls _ rfl (h'.top hb1) (hfit2 (by trivial))).mono ?_
       rintro e w2 ⟨ca, cn, cc, rfl, rfl, hco, hb2⟩
       have hcs := hco.sl encE_len
       have hb12 := hb1.top hb2 (Nat.le_refl _))
    | (go_at_call 18
       refine (fits4_calls _ rfl h').mono ?_
       rintro e w1 ⟨_ | _, rfl, hfit2, hb1⟩)
    | (go_at_call 17; refine hfit3.mono ?_; rintro e w1 ⟨_ | _, rfl, hfit, rfl⟩))
  all_goals try
    go_ret
    first
    | exact ⟨rfl, Below.refl _ _⟩
    | exact ⟨rfl, hb1⟩
    | exact ⟨rfl, hb12.top hb3 (Nat.le_refl _)⟩
    | exact ⟨rfl, hb13.top hb4 (Nat.le_refl _)⟩
  have hnot : Hid (∀ i (hi : i < L.length), L[i] ∉ closedL ns (L.take i ++ L.drop (i + 1))) := Lib.hid (fun i hi => less_not closedL_in (trans_closed hgd.out.2.2.1) HL.out.1 HL.out.2 i hi)
  have hll : L.length ≤ 64 := hgL.out.2.2.2.2
  clear hb1 hfit3 hfit hfit2
  go_loopg [53] L.length (fun gk i wr => ∃ k : Nat, k ≤ L.length ∧ gk = L.length - k ∧ i = .int .i64 k ∧ Below w.heap.size w wr ∧ Sl encS 1 wr a cap ns ∧ Sl encE 2 wr a9 c9 L)
  case atStart => exact ⟨0, Nat.zero_le _, by omega, rfl, hb112, hn12, hsl912⟩
  case round =>
    clear hb112 hn12 hsl912
    obtain ⟨k, hk, rfl, rfl, hb, hnr, hlr⟩ := hrel
    have hsz := hb.size
    by_cases hlt : k < L.length
    · obtain ⟨bb, off, rfl, hbl, g1, g2⟩ := hlr.e2 hlt
      have hnk := Lib.hid (hnot.out k hlt)
      have hinless : Hid (∀ e ∈ L.take k ++ L.drop (k + 1), e.1 ∈ ns ∧ e.2 ∈ ns) := Lib.hid (fun e he => by
        rcases List.mem_append.1 he with he | he
        · exact hgL.out.2.2.1 e (List.mem_of_mem_take he)
        · exact hgL.out.2.2.1 e (List.mem_of_mem_drop he))
      have htk := hlr.take k
      have hdr := hlr.drop (k + 1) (by omega)
      rw [show dropA (some ⟨bb, off, none⟩) c9 (k + 1) 2 = (if c9 = k + 1 then some ⟨bb, off, none⟩ else some ⟨bb, off + (k + 1) * 2, none⟩) from by unfold dropA; rw [Option.map_some, add_some]] at hdr
      have hcap := hlr.1
      have htl : (L.take k).length = k := by simp; omega
      have hdl : (L.drop (k + 1)).length = L.length - (k + 1) := by simp
      generalize hT : L.take k = T at *
      generalize hD : L.drop (k + 1) = D at *
      have hDl : D.length ≤ 64 := by omega
      have hTl : T.length ≤ 64 := by omega
      have HT := Lib.hid hT; clear hT
      have HD := Lib.hid hD; clear hD
      generalize L[k] = x at *
      have hbW : Below w.heap.size w (wr.alloc (.cells #[.string x.1, .string x.2] 43)) := hb.alloc hsz _
      have hc1 : (wr.alloc (.cells #[.string x.1, .string x.2] 43)).cell? ⟨wr.heap.size, 0, none⟩ = some (.string x.1) := by rw [cell_of_row _ _ _ _ _ _ (heap_alloc_new wr _)]; rfl
      have hc2 : (wr.alloc (.cells #[.string x.1, .string x.2] 43)).cell? ⟨wr.heap.size, 1, none⟩ = some (.string x.2) := by rw [cell_of_row _ _ _ _ _ _ (heap_alloc_new wr _)]; rfl
      have hnW := hnr.alloc (.cells #[.string x.1, .string x.2] 43)
      have hlW := hlr.alloc (.cells #[.string x.1, .string x.2] 43)
      have htW := htk.alloc (.cells #[.string x.1, .string x.2] 43)
      have hdW := hdr.alloc (.cells #[.string x.1, .string x.2] 43)
      have hsW : (wr.alloc (.cells #[.string x.1, .string x.2] 43)).heap.size = wr.heap.size + 1 := by simp
      have hbb : Hid (bb < (wr.alloc (.cells #[.string x.1, .string x.2] 43)).heap.size) := Lib.hid (by rw [hsW]; omega)
      go_wp2
      generalize hWW : wr.alloc (.cells #[.string x.1, .string x.2] 43) = W at *
      have hmade := (Own.made encE 2 W 43 W.heap.size (Nat.le_refl _)).drew
      rw [hsW] at hmade
      have HMADE := Lib.hid hmade; clear hmade
      have htA := (htW.alloc (.cells #[] 43)).drew
      have hdA := (hdW.alloc (.cells #[] 43)).drew
      have hnA := (hnW.alloc (.cells #[] 43)).drew
      have hlA := (hlW.alloc (.cells #[] 43)).drew
      have hfar : ∀ {α : Type} {enc : α → List Value} {size : Nat} {l : List α} {a0 : Option Addr} {cap0 : Nat}, Sl enc size wr a0 cap0 l → (∀ (w1 : World), Fr (fun k => blk (some (⟨wr.heap.size + 1, 0, none⟩ : Addr)) = some k) (W.alloc (.cells #[] 43)).drew w1 → Sl enc size w1 a0 cap0 l) := fun {α enc size l a0 cap0} h0 w1 hf =>
        have h1 : Sl enc size (W.alloc (.cells #[] 43)).drew a0 cap0 l := by
          rw [← hWW]
          exact ((h0.alloc _).alloc _).drew
        ⟨h1.1, h1.2.1, fun hp => by
          obtain ⟨b, off, e, hb, hc⟩ := h0.2.2 hp
          obtain ⟨b', off', e', hb', hc'⟩ := h1.2.2 hp
          have e2 := e.symm.trans e'
          simp only [Option.some.injEq, Addr.mk.injEq] at e2
          obtain ⟨rfl, rfl, _⟩ := e2
          exact ⟨b, off, e, Nat.lt_of_lt_of_le hb' hf.size, fun k hk j u hu => (World.cell?_of_block (hf.block b hb' (fun hh => by simp [blk] at hh; omega))).trans (hc' k hk j u hu)⟩⟩
      have hdF := hfar hdr
      have hnF := hfar hnr
      have hlF := hfar hlr
      have HDF := Lib.hid hdF; clear hdF
      have HNF := Lib.hid hnF; clear hnF
      have HLF := Lib.hid hlF; clear hlF
      clear hfar
      have HTA := Lib.hid htA; clear htA
      have HDA := Lib.hid hdA; clear hdA
      have HNA := Lib.hid hnA; clear hnA
      have HLA := Lib.hid hlA; clear hlA
      have HWW := Lib.hid hWW; clear hWW
      clear htW hdW hnW hlW htk hdr
      have hk0 : (0 : Int) ≤ (k : Int) := by omega
      have hk1 : (k : Int) ≤ (c9 : Int) := by omega
      have hw1 : IntKind.i64.wrap ((k : Int) + 1) = (k : Int) + 1 := IntWalk.i64_in _ (by omega)
      have hk2 : (0 : Int) ≤ (k : Int) + 1 := by omega
      have hk3 : (k : Int) + 1 ≤ (L.length : Int) := by omega
      have hk4 : ((k : Int) + 1).toNat = k + 1 := by omega
      have hk5 : (k : Int) + 1 ≤ (c9 : Int) := by omega
      go_region_law (first
        | ((refine step_append_list encE 2 encE_len encE_one _ rfl _ _ 36 rfl 43 _ 32 Try.underlying36 infoE rfl (by omega) (wr.heap.size + 1) _ _ T k htl.symm rfl ho1 _ _ D _ hdl.symm rfl (HDF.out w1 hf1) (by omega) (by omega) (by have := hf1.size; simp at this; omega) ?_
            intro a2 cap2 w2 ho2 hf2 hk2'))
        | ((refine step_append_list encE 2 encE_len encE_one _ rfl _ _ 36 rfl 43 _ 32 Try.underlying36 infoE rfl (by omega) (wr.heap.size + 1) _ _ [] 0 rfl rfl HMADE.out _ _ T k htl.symm rfl HTA.out (by simp; omega) (by simp; omega) (by simp; omega) ?_
            intro a1 cap1 w1 ho1 hf1 hk1'
            rw [List.nil_append] at ho1)))
      all_goals
        generalize (if c9 = k + 1 then some (⟨bb, off, none⟩ : Addr) else some ⟨bb, off + (k + 1) * 2, none⟩) = ad at *
        have hBW : Below (wr.heap.size + 1) W w2 := by
          have h1 : Below (wr.heap.size + 1) W w1 := (((Below.refl _ _).alloc (by omega) (.cells #[] 43)).fr (Fr.drew NoB _) (by omega) (fun _ e => e.elim)).fr hf1 (by omega) (fun b e => by simp [blk] at e; omega)
          refine h1.fr hf2 (by omega) (fun b e => ?_)
          rcases hk1' b e with h2 | h2
          · simp [blk] at h2; omega
          · simp [hsW] at h2; omega
        have hcl2 : ∀ {p : Addr}, p.block < wr.heap.size + 1 → w2.cell? p = W.cell? p := fun hp => hBW.cell hp
        have hd1 : w2.cell? ⟨wr.heap.size, 0, none⟩ = some (.string x.1) := (hcl2 (by simp)).trans hc1
        have hd2 : w2.cell? ⟨wr.heap.size, 1, none⟩ = some (.string x.2) := (hcl2 (by simp)).trans hc2
        have hbw2 : Below w.heap.size w w2 := hbW.trans (hBW.mono (by omega))
        have hbr2 : Below wr.heap.size wr w2 := ((Below.refl wr.heap.size wr).alloc (Nat.le_refl _) (.cells #[.string x.1, .string x.2] 43)).trans (by rw [HWW.out]; exact hBW.mono (by omega))
        have hn2 := hnr.top hbr2
        have hl2 := hlr.top hbr2
        have hs2 := ho2.sl encE_len
        have hln2 : k + (L.length - (k + 1)) = (T ++ D).length := by rw [List.length_append, htl, hdl]
        have hxn : Hid (x ∉ closedL ns (T ++ D)) := Lib.hid hnk.out
        have hin2 : Hid (∀ e ∈ T ++ D, e.1 ∈ ns ∧ e.2 ∈ ns) := Lib.hid hinless.out
        clear hc1 hc2 hBW hcl2 ho1 ho2 hf1 hf2 hk1' hk2' hw1 hk2 hk3 hk4 hk5 hnr hlr hbW hbr2 HDF HNF HLF HTA HDA HNA HLA HMADE
        rw [hln2]
        have HLN2 := Lib.hid hln2; clear hln2
        clear htl hdl hbb hDl hTl
        generalize T ++ D = Q at *
        have hws2 : w.heap.size ≤ w2.heap.size := hbw2.size
        have hwr2 : wr.heap.size < w2.heap.size := World.block_lt_of_cell? _ _ hd1
        go_wp2
        all_goals
          go_region_held3 (fun w' => w'.cell? ⟨wr.heap.size, 0, none⟩ = some (.string x.1) ∧ w'.cell? ⟨wr.heap.size, 1, none⟩ = some (.string x.2) ∧ Below w2.heap.size w2 w')
            (refine ⟨?_, ?_, ?_⟩ <;> first | go_keep | (exact (Below.refl _ _).fr (Fr.drew NoB _) (Nat.le_refl _) (fun _ hs => hs.elim)) | (exact HB5) | (exact HB6) | (rw [HB5.cell hwr2]; assumption) | (rw [HB6.cell hwr2]; assumption))
            (first
              | (go_at_call 23
                 refine (edged_no x _ rfl hs5 hxn.out).mono ?_
                 rintro e w6 ⟨rfl, hb6⟩
                 have HB6 : Below w2.heap.size w2 w6 := HB5.top hb6 (Nat.le_refl _)
                 clear hb6)
              | (go_at_call 30
                 refine (closed_calls (ns := ns) (es := Q) _ rfl rfl hn2.drew hs2.drew hgd.out.1 (by have := hgd.out.2.2.2.1; omega) hin2.out).mono ?_
                 rintro e w5 ⟨a5, n5, c5, rfl, rfl, ho5, hb5⟩
                 have HB5 : Below w2.heap.size w2 w5 := ((Below.refl _ _).fr (Fr.drew NoB _) (Nat.le_refl _) (fun _ hs => hs.elim)).top hb5 (by simp)
                 have hs5 := ho5.sl encE_len
                 clear hb5 ho5))
          go_wp2
          go_roundg (L.length - (k + 1))
          case measure => omega
          case rel =>
            exact ⟨k + 1, by omega, rfl, by go_num, hbw2.top HB6 (Nat.le_refl _), hn2.top HB6, hl2.top HB6⟩
    · go_wp2
      go_ret
      exact ⟨rfl, hb⟩
end Go.Proofs.Ythajiimohbjjhaa
