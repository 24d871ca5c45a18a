/- Transpose: each edge turned round. -/
import Derived.Test.YthajiimohbjjhaaAll
namespace Go.Proofs.Ythajiimohbjjhaa
open Go.RowKit

theorem Iter.ne_map {w : World} {it b r : Nat} {m left m' : AL} (h : Iter w it b m left) (hr : SMap w r m') : r ≠ it := by
  rintro rfl
  obtain ⟨es, clock, since, seen, c0, _, _, _, hi, _⟩ := h
  obtain ⟨es', clock', hr', _⟩ := hr
  rw [hi] at hr'
  cases hr'
theorem SMap.drewN' {w : World} {b : Nat} {m : AL} (h : SMap w b m) (n : Nat) : SMap (w.drewN n) b m := h

/-- a graph's edge added, its operations one by one -/
theorem GRep.addE_ops {w : World} {F : Nat → Prop} {g : Nat} {G : Gr} {na : Option Addr} {nc mb me : Nat} {rs : List Nat} (h : GRep w F g G na nc mb me rs) {s : Str} (hs : s ∈ names G) (t : Str) :
    ∃ r w1, r ∈ rs ∧ (∃ l, SMap w r l) ∧ (Instr.lookup 69 (.map (some me)) (.string s) false).run Try.prog w = .ok (.map (some r)) w ∧
      (Instr.mapUpdate 67 (.map (some r)) (.string t) (.bool true)).run Try.prog w = .ok () w1 ∧ GRep w1 F g (addE G s t) na nc mb me rs ∧ Fr (fun k => k = r) w w1 := by
  obtain ⟨i, hi, rfl⟩ := names_at hs
  have hi' : i < rs.length := by rw [h.len]; exact hi
  have hl := h.tbl.look Try.underlying69 Try.underlying9 (zeroM w) G[i].1
  rw [h.lookR i hi hi', Option.getD_some] at hl
  obtain ⟨w1, hu, hm, hf⟩ := (h.sets i hi' hi).store Try.underlying67 Try.underlying9 t (.bool true)
  rw [aput_setOf] at hm
  refine ⟨rs[i], w1, List.getElem_mem hi', ⟨_, h.sets i hi' hi⟩, hl, hu, ?_, hf⟩
  unfold addE
  rw [setE_at h.nodup i hi]
  exact h.upd i hi hi' _ hm hf

def RetTr (G : Gr) (F : Nat → Prop) (g : Nat) (w : World) (e : Ending) (w' : World) : Prop := e = .returned (.tuple #[]) ∧
  ∃ G', names G' = names G ∧ (∀ a b, hasE G' a b = true ↔ hasE G b a = true) ∧ GraphAt w' (fun k => F k ∨ w.heap.size ≤ k) g G' ∧ Fr F w w'

def bare (ns : List Str) : Gr := ns.map fun s => (s, [])

theorem transpose_calls {w : World} {F : Nat → Prop} {g : Nat} {G : Gr} (h : GraphAt w F g G) (hcl : ∀ a b, hasE G a b = true → b ∈ names G) (hsm : G.length ≤ 10000) :
    Calls Try.prog 46 #[.pointer (some ⟨g, 0, none⟩)] w <| RetTr G F g w := by
  obtain ⟨na, nc, mb, me, rs, h⟩ := h
  have hnl : (names G).length = G.length := by simp
  have hmm := @run_makeMap Try.prog
  have hc0 := h.cell0
  have hc2 := h.cell2
  have hglt := h.lt
  have hge := h.tbl.ne_cells h.cell
  have hgb := h.idx.ne_cells h.cell
  -- the world behind regions 0 and 1
  have hcW : ((w.setCell ⟨g, 2, none⟩ (.map (some w.heap.size))).alloc (.map #[] 0)).heap[g]? = some (.cells #[.slice na G.length nc, .map (some mb), .map (some w.heap.size)] 71 (0, 0)) := by
    rw [Below.heap_alloc _ _ g (by simpa [World.setCell] using hglt), heap_setCell_same w g 2 _ _ _ h.cell]
    rfl
  have hfW : Fr (fun k => k = g) w ((w.setCell ⟨g, 2, none⟩ (.map (some w.heap.size))).alloc (.map #[] 0)) := (Fr.setCell (S := fun k => k = g) w _ _ rfl).trans (Fr.alloc (fun k => k = g) _ _) (fun _ _ e => e)
  have hmW : SMap ((w.setCell ⟨g, 2, none⟩ (.map (some w.heap.size))).alloc (.map #[] 0)) w.heap.size [] := by
    have := SMap.made (w.setCell ⟨g, 2, none⟩ (.map (some w.heap.size)))
    rwa [World.size_setCell] at this
  have hc0W : ((w.setCell ⟨g, 2, none⟩ (.map (some w.heap.size))).alloc (.map #[] 0)).cell? ⟨g, 0, none⟩ = some (.slice na G.length nc) := by rw [cell_of_row _ _ _ _ _ _ hcW]; rfl
  have hsW : ((w.setCell ⟨g, 2, none⟩ (.map (some w.heap.size))).alloc (.map #[] 0)).heap.size = w.heap.size + 1 := by simp [World.setCell]
  have hz1 : w.frozen? ⟨g, 2, none⟩ = false := frozen_of_row _ _ _ _ _ h.cell
  have hz2 : (w.alloc (.map #[] 0)).frozen? ⟨g, 2, none⟩ = false := frozen_of_row _ _ _ _ _ ((Below.heap_alloc w _ g hglt).trans h.cell)
  have HG := Lib.hid h; clear h
  have HCL := Lib.hid hcl; clear hcl
  have HNL := Lib.hid hnl; clear hnl
  have HSW := Lib.hid hsW; clear hsW
  have HFW := Lib.hid hfW; clear hfW
  have HMW := Lib.hid hmW; clear hmW
  have HCW := Lib.hid hcW; clear hcW
  go_enter Try.func46, Try.ntmps46
  go_wp2
  generalize hW : (w.setCell ⟨g, 2, none⟩ (.map (some w.heap.size))).alloc (.map #[] 0) = W at *
  go_loopg [21] G.length (fun gk i wr => ∃ (k : Nat) (rs' : List Nat), k ≤ G.length ∧ gk = G.length - k ∧ i = .int .i64 k ∧ Hid (rs'.length = k) ∧ Hid (SMap wr w.heap.size (refs ((names G).take k) rs')) ∧
    Hid (∀ r ∈ rs', w.heap.size + 1 ≤ r ∧ SMap wr r []) ∧ Hid rs'.Nodup ∧ Fr (fun k => k = w.heap.size) W wr)
  case atStart => exact ⟨0, [], Nat.zero_le _, by omega, rfl, Lib.hid rfl, Lib.hid (by simpa [refs] using HMW.out), Lib.hid (by simp), Lib.hid (by simp), Fr.refl _ _⟩
  case round =>
    obtain ⟨k, rs', hk, rfl, rfl, Hrl, Hm, Hr, Hnd, hf⟩ := hrel
    have hsz := hf.size
    have hsz' := HSW.out
    have hcr : wr.heap[g]? = some (.cells #[.slice na G.length nc, .map (some mb), .map (some w.heap.size)] 71 (0, 0)) := (hf.block g (by omega) (by omega)).trans HCW.out
    have hnod := (HG.out.nodes.fr HFW.out (fun k hk e => HG.out.ng (by rw [← e]; exact hk))).fr hf (fun k hk e => by have := (HG.out.nodes.lt k hk).2; omega)
    have hc2r : wr.cell? ⟨g, 2, none⟩ = some (.map (some w.heap.size)) := by rw [cell_of_row _ _ _ _ _ _ hcr]; rfl
    by_cases hlt : k < G.length
    · have hkn : k < (names G).length := by rw [HNL.out]; exact hlt
      obtain ⟨bb, off, hna, h1⟩ := (hnod.sl encS_len).s1 hkn
      have hnew : (names G)[k] ∉ (names G).take k := ((nodup_take_succ hkn).1 (nodup_take (k + 1) HG.out.nodup)).2
      have hrs := refs_snoc ((names G).take k) rs' (by rw [Hrl.out, List.length_take]; omega) (names G)[k] wr.heap.size
      rw [← List.take_succ_eq_append_getElem hkn] at hrs
      have hap := aput_new (names G)[k] (.map (some wr.heap.size)) (refs ((names G).take k) rs') (by rw [refs_keys (by rw [Hrl.out, List.length_take]; omega)]; exact hnew)
      rw [← hrs] at hap
      have HAP := Lib.hid hap; clear hap
      clear hrs hnew hnod
      generalize (names G)[k] = s at *
      clear hkn
      subst hna
      have HCR := Lib.hid hcr; clear hcr
      clear hsz hsz' hc2 hc0
      go_wp2_with (at_mapUpdate; refine wpList_store_s _ rfl _ _ _ 69 rfl Try.underlying69 Try.underlying9 w.heap.size rfl s rfl (.map (some wr.heap.size)) rfl (refs ((names G).take k) rs') (Hm.out.alloc _) ?_; intro w4 hm4 hf4)
      rw [HAP.out] at hm4
      have hsz := hf.size
      have hsz' := HSW.out
      have hsz4 := hf4.size
      simp only [World.size_alloc] at hsz4
      go_roundg (G.length - (k + 1))
      case measure => omega
      case rel =>
        refine ⟨k + 1, rs' ++ [wr.heap.size], by omega, rfl, by go_num, Lib.hid (by simp [Hrl.out]), Lib.hid hm4, Lib.hid ?_, Lib.hid ?_, (hf.trans (Fr.alloc NoB _ _) (fun _ _ e => e.elim)).trans hf4 (fun _ _ e => e)⟩
        · intro r hr
          rcases List.mem_append.1 hr with hr | hr
          · obtain ⟨h2, h3⟩ := Hr.out r hr
            exact ⟨h2, (h3.alloc _).fr hf4 (by omega)⟩
          · simp at hr
            subst hr
            exact ⟨by omega, (SMap.made wr).fr hf4 (by omega)⟩
        · rw [List.nodup_append]
          refine ⟨Hnd.out, by simp, fun a ha b hb e => ?_⟩
          simp at hb
          subst hb
          subst e
          have := (Hr.out _ ha).2.lt
          omega
    · have hkk : k = G.length := by omega
      subst hkk
      have hmlt := HG.out.idx.lt
      have hmel := HG.out.tbl.lt
      have hrs' : ∀ r ∈ rs', w.heap.size + 1 ≤ r ∧ r < wr.heap.size := fun r hr => ⟨(Hr.out r hr).1, (Hr.out r hr).2.lt⟩
      have hrep : GRep wr (fun k => (F k ∨ w.heap.size ≤ k) ∧ k < wr.heap.size) g (bare (names G)) na nc mb w.heap.size rs' := by
        have hnb : names (bare (names G)) = names G := by simp [bare, List.map_map, Function.comp_def]
        have hlb : (bare (names G)).length = G.length := by simp [bare]
        have htk : (names G).take G.length = names G := List.take_of_length_le (by rw [HNL.out]; exact Nat.le_refl _)
        refine { cell := by rw [hlb]; exact hcr, nodes := by rw [hnb]; exact hnod, idx := ?_, len := by rw [hlb]; exact Hrl.out, tbl := ?_, sets := ?_, apart := ?_, fg := ⟨.inl HG.out.fg, by omega⟩, fb := ⟨.inl HG.out.fb, by omega⟩, fe := ⟨.inr (Nat.le_refl _), by omega⟩, fr := fun r hr => ⟨.inr (by have := (hrs' r hr).1; omega), (hrs' r hr).2⟩, fn := fun k hk => ⟨.inl (HG.out.fn k hk), by have := (HG.out.nodes.lt k hk).2; omega⟩, ng := HG.out.ng }
        · rw [hnb]
          exact (HG.out.idx.fr HFW.out (fun e => hgb e.symm)).fr hf (by omega)
        · rw [hnb]
          have := Hm.out
          rwa [htk] at this
        · intro i hi hi'
          have h2 : (bare (names G))[i].2 = [] := by simp [bare]
          rw [h2]
          exact (Hr.out _ (List.getElem_mem hi)).2
        · rw [List.nodup_cons, List.nodup_cons]
          refine ⟨fun hh => ?_, fun hh => ?_, Hnd.out⟩
          · rcases List.mem_cons.1 hh with e | hh
            · omega
            · have := (hrs' _ hh).1; omega
          · have := (hrs' _ hh).1; omega
      have hfw : Fr (fun k => k = g ∨ w.heap.size ≤ k) w wr := (HFW.out.mono (fun _ _ e => .inl e)).trans hf (fun _ _ e => .inr (by omega))
      have hme : SMap wr me (refs (names G) rs) := HG.out.tbl.fr hfw (fun e => by rcases e with e | e <;> omega)
      obtain ⟨wo, rfl⟩ : ∃ wo : World, wo = wr := ⟨_, rfl⟩
      have hbare : ∀ a b, hasE (bare (names G)) a b = false := fun a b => by
        rw [← Bool.not_eq_true, hasE_iff]
        rintro ⟨p, hp, _, hb⟩
        unfold bare at hp
        obtain ⟨s, _, rfl⟩ := List.mem_map.1 hp
        simp at hb
      have HRS := Lib.hid hrs'; clear hrs'
      have HBARE := Lib.hid hbare; clear hbare
      clear hnod hcr hc2r Hm Hr Hnd hf hc0 hc2 hc0W hz1 hz2 hmm
      go_wp2_with (at_range; refine wpList_range_s _ rfl _ 69 rfl Try.underlying69 me rfl _ hme wo.heap.size (by simp) ?_; intro w1 hit hf1 hsz1)
      go_frame
      have hrep1 := hrep.keep hf1 (fun _ _ e => e)
      have hfw1 := hfw.trans hf1 (fun _ _ e => e.elim)
      go_loopg [5] G.length (fun gk v wq => ∃ (left : AL) (G' : Gr), gk = left.length ∧ GRep wq (fun k => (F k ∨ w.heap.size ≤ k) ∧ k < wo.heap.size) g G' na nc mb w.heap.size rs' ∧ Hid (names G' = names G) ∧
        Iter wq wo.heap.size me (refs (names G) rs) left ∧ Hid (∀ a b, hasE G' a b = true → hasE G b a = true) ∧ Hid (∀ a b, hasE G b a = true → b ∉ left.map (·.1) → hasE G' a b = true) ∧ Fr (fun k => k = g ∨ w.heap.size ≤ k) w wq)
      case atStart =>
        refine ⟨refs (names G) rs, bare (names G), by simp [refs, HG.out.len], hrep1, Lib.hid (by simp [bare, List.map_map, Function.comp_def]), hit, Lib.hid (fun a b hh => by rw [HBARE.out] at hh; cases hh), Lib.hid (fun a b hh hn => ?_), hfw1⟩
        exfalso
        apply hn
        rw [refs_keys (by rw [HG.out.len, HNL.out])]
        exact hasE_names hh
      case round =>
        obtain ⟨left, G', rfl, hrq, Hnm, hitq, Hso, Hco, hfq⟩ := hrel
        have hszw := hf1.size
        have hg2 := hrq.cell2
        have hszq := hitq.lt
        go_wp2_with (at_next; refine wpList_next_s _ rfl _ rfl _ me rfl _ left hitq ?_ ?_)
        · intro hle
          have hfin : Hid (∀ a b, hasE G' a b = true ↔ hasE G b a = true) := Lib.hid (fun a b => ⟨Hso.out a b, fun hh => Hco.out a b hh (by rw [hle]; simp)⟩)
          clear hle
          go_wp2
          go_end0
          exact ⟨rfl, G', Hnm.out, hfin.out, ⟨na, nc, mb, w.heap.size, rs', { hrq with fg := hrq.fg.1, fb := hrq.fb.1, fe := hrq.fe.1, fr := fun r hr => (hrq.fr r hr).1, fn := fun k hk => (hrq.fn k hk).1 }⟩, hfq.mono (fun b hb e => by rcases e with e | e; exact e ▸ HG.out.fg; omega)⟩
        · intro x v l1 l2 w2 HL HM hit2 hf2 hent
          have hxi : ∃ i, ∃ h1 : i < G.length, ∃ h2 : i < rs.length, x = G[i].1 ∧ v = .map (some rs[i]) := by
            have := HM.out
            unfold refs at this
            obtain ⟨p, hp, e⟩ := List.mem_map.1 this
            obtain ⟨i, hi, e2⟩ := List.mem_iff_getElem.1 hp
            simp only [List.length_zip, List.length_map] at hi
            refine ⟨i, by omega, by omega, ?_, ?_⟩
            · have h1 := congrArg Prod.fst e
              simp only at h1
              rw [← h1, ← e2]
              simp
            · have h1 := congrArg Prod.snd e
              simp only at h1
              rw [← h1, ← e2]
              simp
          obtain ⟨i, hi, hi', rfl, rfl⟩ := hxi
          have hold := HG.out.sets i hi' hi
          have holdlt := hold.lt
          have hrg : ¬ rs[i] = g := fun e => hold.ne_cells HG.out.cell e.symm
          have hrq2 := hrq.keep hf2 (fun k hk e => by have := hk.2; omega)
          have hfq2 := hfq.trans hf2 (fun b hb e => by omega)
          have hset2 : SMap w2 rs[i] (setOf G[i].2) := hold.fr hfq2 (fun e => by rcases e with e | e; exact hrg e; omega)
          have HRG := Lib.hid hrg; clear hrg
          have HOLD := Lib.hid hold; clear hold
          have hit2lt := hit2.lt
          go_wp2_with (at_range; refine wpList_range_s _ rfl _ 67 rfl Try.underlying67 rs[i] rfl _ hset2 w2.heap.size (by simp) ?_; intro w3 hit3 hf3 hsz3)
          go_frame
          have hszw3 := hf3.size
          go_loopg [7] G[i].2.length (fun gk v wz => ∃ (left2 : AL) (G2 : Gr), gk = left2.length ∧ GRep wz (fun k => (F k ∨ w.heap.size ≤ k) ∧ k < wo.heap.size) g G2 na nc mb w.heap.size rs' ∧ Hid (names G2 = names G) ∧
            Iter wz w2.heap.size rs[i] (setOf G[i].2) left2 ∧ Iter wz wo.heap.size me (refs (names G) rs) (l1 ++ l2) ∧ Hid (∀ a b, hasE G2 a b = true → hasE G b a = true) ∧
            Hid (∀ a b, hasE G b a = true → b ∉ left.map (·.1) → hasE G2 a b = true) ∧ Hid (∀ a, a ∈ G[i].2 → a ∉ left2.map (·.1) → hasE G2 a G[i].1 = true) ∧ Fr (fun k => k = g ∨ w.heap.size ≤ k) w wz)
          case atStart =>
            exact ⟨setOf G[i].2, G', by simp, hrq2.keep hf3 (fun _ _ e => e), Hnm, hit3, hit2.fr hf3 (fun e => e) (fun e => e), Hso, Hco, Lib.hid (fun a ha hn => absurd ha (by rw [setOf_keys] at hn; exact hn)), hfq2.trans hf3 (fun _ _ e => e.elim)⟩
          case round =>
            obtain ⟨left2, G2, rfl, hrz, Hnm2, hitz, hitoz, Hso2, Hco2, Hcp2, hfz⟩ := hrel
            go_wp2_with (at_next; refine wpList_next_s _ rfl _ rfl _ rs[i] rfl _ left2 hitz ?_ ?_)
            · intro hle
              have hfin : Hid (∀ a b, hasE G b a = true → b ∉ (l1 ++ l2).map (·.1) → hasE G2 a b = true) := Lib.hid (fun a b hh hn => by
                by_cases hb : b = G[i].1
                · subst hb
                  refine Hcp2.out a ?_ (by rw [hle]; simp)
                  rw [hasE_at HG.out.nodup i hi] at hh
                  simpa using hh
                · refine Hco2.out a b hh ?_
                  rw [HL.out]
                  simp at hn ⊢
                  exact ⟨hn.1, hb, hn.2⟩)
              clear hle
              go_wp2
              go_roundg (l1 ++ l2).length
              case measure => rw [HL.out]; simp
              case rel => exact ⟨l1 ++ l2, G2, rfl, hrz, Hnm2, hitoz, Hso2, hfin, hfz⟩
            · intro x v m1 m2 w4 HL2 HM2 hit4 hf4 hent2
              have hxt : x ∈ G[i].2 := by
                obtain ⟨y, hy, rfl, _⟩ := HM2.out
                exact hy
              have hhe : hasE G G[i].1 x = true := by rw [hasE_at HG.out.nodup i hi]; simpa using hxt
              have hxn : x ∈ names G2 := by rw [Hnm2.out]; exact HCL.out _ _ hhe
              have hrz4 := hrz.keep hf4 (fun k hk e => by have := hk.2; omega)
              obtain ⟨r, w5, hrm, ⟨l', hsr⟩, hl, hu, hrz5, hf5⟩ := hrz4.addE_ops hxn G[i].1
              have hr1 := (HRS.out r hrm).1
              have hg4 := hrz4.cell2
              have hne1 := hit4.ne_map hsr
              have hito4 := hitoz.fr hf4 (fun e => by omega) (fun e => by omega)
              have hne2 := hito4.ne_map hsr
              have hit5 := hit4.fr hf5 (fun e => hne1 e.symm) (fun e => by have := HOLD.out.lt; omega)
              have hito5 := hito4.fr hf5 (fun e => hne2 e.symm) (fun e => by omega)
              have hgood2 := (show GraphAt w4 _ g G2 from ⟨_, _, _, _, _, hrz4⟩).good
              have hadd := fun a b => hasE_addE (t := G[i].1) hgood2 hxn a b
              have hfz5 := (hfz.trans hf4 (fun b hb e => by omega)).trans hf5 (fun b hb e => by omega)
              have HADD := Lib.hid hadd; clear hadd
              have HHE := Lib.hid hhe; clear hhe
              clear hsr hgood2 hit4 hitz hitoz hito4 hrz
              go_wp2
              go_roundg (m1 ++ m2).length
              case measure => rw [HL2.out]; simp
              case rel =>
                refine ⟨m1 ++ m2, addE G2 x G[i].1, rfl, hrz5, Lib.hid (by rw [addE, names_setE]; exact Hnm2.out), hit5, hito5, Lib.hid (fun a b hh => ?_), Lib.hid (fun a b hh hn => (HADD.out a b).2 (.inl (Hco2.out a b hh hn))), Lib.hid (fun a ha hn => ?_), hfz5⟩
                · rcases (HADD.out a b).1 hh with hh | ⟨rfl, rfl⟩
                  · exact Hso2.out a b hh
                  · exact HHE.out
                · rw [HADD.out]
                  by_cases hax : a = x
                  · exact .inr ⟨hax, rfl⟩
                  · refine .inl (Hcp2.out a ha ?_)
                    rw [HL2.out]
                    simp at hn ⊢
                    exact ⟨hn.1, hax, hn.2⟩
end Go.Proofs.Ythajiimohbjjhaa
