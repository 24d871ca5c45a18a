/- TransitiveReduction: what the call does to the graph, as a function on lists. -/
import Derived.Test.YthajiimohbjjhaaRunB
import Derived.Test.YthajiimohbjjhaaGraphLaw
import Derived.Test.YthajiimohbjjhaaSpecC
import Derived.Deep.LoopGhost
namespace Go.Proofs.Ythajiimohbjjhaa
open Go.RowKit

theorem delEdge_rep {w : World} {F : Nat → Prop} {g : Nat} {G : Gr} {na : Option Addr} {nc mb me : Nat} {rs : List Nat} (s t : Str) (h : GRep w F g G na nc mb me rs) (hs : s ∈ names G) :
    Calls Try.prog 38 #[.pointer (some ⟨g, 0, none⟩), .string s, .string t] w fun e w' => e = .returned (.tuple #[]) ∧ GRep w' F g (delE G s t) na nc mb me rs ∧ Fr F w w' := by
  obtain ⟨i, hi, rfl⟩ := names_at hs
  clear hs
  have hi' : i < rs.length := by rw [h.len]; exact hi
  have hc := h.cell2
  have hl := h.tbl.look Try.underlying69 Try.underlying9 (zeroM w) G[i].1
  rw [h.lookR i hi hi', Option.getD_some] at hl
  obtain ⟨w1, hu, hm, hf⟩ := (h.sets i hi' hi).drop Try.underlying67 Try.underlying9 t 0 9
  rw [adel_setOf] at hm
  have hres : GRep w1 F g (delE G G[i].1 t) na nc mb me rs := by
    unfold delE
    rw [setE_at h.nodup i hi]
    exact h.upd i hi hi' _ hm hf
  have hfr : Fr F w w1 := hf.mono (fun b _ e => by subst e; exact h.fr _ (List.getElem_mem hi'))
  have HR := Lib.hid hres; clear hres
  have HM := Lib.hid hm; clear hm
  clear h hf
  go_enter Try.func38, Try.ntmps38
  go_wp2
  go_end0
  exact ⟨rfl, HR.out, hfr⟩
theorem GRep.at {w : World} {F : Nat → Prop} {g : Nat} {G : Gr} {na : Option Addr} {nc mb me : Nat} {rs : List Nat} (h : GRep w F g G na nc mb me rs) : GraphAt w F g G := ⟨na, nc, mb, me, rs, h⟩

def kstep (i j : Str) (G : Gr) (k : Str) : Gr := if hasE G j k then delE G i k else G
def jstep (ns : List Str) (i : Str) (G : Gr) (j : Str) : Gr := if hasE G i j then ns.foldl (kstep i j) G else G
def istep (ns : List Str) (G : Gr) (i : Str) : Gr := ns.foldl (jstep ns i) G
def reduceG (ns : List Str) (G : Gr) : Gr := ns.foldl (istep ns) G
theorem names_delE (G : Gr) (s t : Str) : names (delE G s t) = names G := names_setE G s (del t)
theorem foldl_takeR {α β : Type} (f : β → α → β) (b : β) (l : List α) (k : Nat) (hk : k < l.length) : (l.take (k + 1)).foldl f b = f ((l.take k).foldl f b) l[k] := by
  rw [List.take_succ_eq_append_getElem hk, List.foldl_append]
  rfl

theorem reduce_calls {w : World} {F : Nat → Prop} {g : Nat} {G : Gr} (h : GraphAt w F g G) (hsm : G.length ≤ 1048576) :
    Calls Try.prog 48 #[.pointer (some ⟨g, 0, none⟩)] w fun e w' => e = .returned (.tuple #[]) ∧ GraphAt w' F g (reduceG (names G) G) ∧ Fr F w w' := by
  obtain ⟨na, nc, mb, me, rs, h⟩ := h
  obtain ⟨ns, hns⟩ : ∃ ns, names G = ns := ⟨_, rfl⟩
  have hlen : G.length = ns.length := by rw [← hns]; simp
  have hnl : ns.length ≤ 1048576 := by omega
  have hc0 := h.cell0
  rw [hlen] at hc0
  rw [hns]
  have HNS := Lib.hid hns
  have HG := Lib.hid h
  clear hns hlen hsm h
  -- what holds of a graph on the way
  have hfacts : Hid (∀ (G' : Gr) (wr : World), GRep wr F g G' na nc mb me rs → names G' = ns → wr.cell? ⟨g, 0, none⟩ = some (.slice na ns.length nc) ∧ Sl encS 1 wr na nc ns) := Lib.hid (fun G' wr hr hn => by
    have h1 := hr.cell0
    have h2 : G'.length = ns.length := by rw [← hn]; simp
    rw [h2] at h1
    refine ⟨h1, ?_⟩
    have := hr.nodes.sl encS_len
    rwa [hn] at this)
  go_enter Try.func48, Try.ntmps48
  go_wp2
  go_loopg [13] ns.length (fun gk i wr => ∃ (k : Nat) (G' : Gr), k ≤ ns.length ∧ gk = ns.length - k ∧ i = .int .i64 k ∧ Hid (GRep wr F g G' na nc mb me rs) ∧ Hid (names G' = ns) ∧ Hid (G' = (ns.take k).foldl (istep ns) G) ∧ Fr F w wr)
  case atStart => exact ⟨0, G, Nat.zero_le _, by omega, rfl, HG, HNS, Lib.hid (by simp), Fr.refl _ _⟩
  case round =>
    clear hc0
    obtain ⟨k1, G1, hk1, rfl, rfl, HR1, HN1, HE1, hf1⟩ := hrel
    have hft := hfacts.out G1 wr HR1.out HN1.out
    have hcg := hft.1
    by_cases hlt1 : k1 < ns.length
    · obtain ⟨bb, off, rfl, h1⟩ := hft.2.s1 hlt1
      have hnx := foldl_takeR (istep ns) G ns k1 hlt1
      rw [← HE1.out] at hnx
      have hin : Hid (ns[k1] ∈ ns) := Lib.hid (List.getElem_mem hlt1)
      generalize ns[k1] = s1 at *
      have HNX1 := Lib.hid hnx; clear hnx
      clear hft
      obtain ⟨wo, rfl⟩ : ∃ wo : World, wo = wr := ⟨_, rfl⟩
      go_wp2
      go_loopg [22] ns.length (fun gk i wr => ∃ (k : Nat) (G' : Gr), k ≤ ns.length ∧ gk = ns.length - k ∧ i = .int .i64 k ∧ Hid (GRep wr F g G' (some ⟨bb, off, none⟩) nc mb me rs) ∧ Hid (names G' = ns) ∧ Hid (G' = (ns.take k).foldl (jstep ns s1) G1) ∧ Fr F w wr)
      case atStart => exact ⟨0, G1, Nat.zero_le _, by omega, rfl, HR1, HN1, Lib.hid (by simp), hf1⟩
      case round =>
        clear hcg h1
        obtain ⟨k2, G2, hk2, rfl, rfl, HR2, HN2, HE2, hf2⟩ := hrel
        have hft := hfacts.out G2 wr HR2.out HN2.out
        have hcg := hft.1
        by_cases hlt2 : k2 < ns.length
        · obtain ⟨bb', off', hbb, h1⟩ := hft.2.s1 hlt2
          simp only [Option.some.injEq, Addr.mk.injEq] at hbb
          obtain ⟨rfl, rfl, _⟩ := hbb
          have hnx := foldl_takeR (jstep ns s1) G1 ns k2 hlt2
          rw [← HE2.out] at hnx
          generalize ns[k2] = s2 at *
          clear hft
          obtain ⟨wp, rfl⟩ : ∃ wp : World, wp = wr := ⟨_, rfl⟩
          by_cases hy : hasE G2 s1 s2 = true
          · have hq : (ns.take (k2 + 1)).foldl (jstep ns s1) G1 = ns.foldl (kstep s1 s2) G2 := by rw [hnx, jstep, if_pos hy]
            have HQ2 := Lib.hid hq; clear hq
            clear hnx
            go_wp2_with (go_at_call 39; refine (hasEdge_calls _ _ HR2.out.at).mono ?_; rintro e w' ⟨rfl, rfl⟩)
            go_loopg [35] ns.length (fun gk i wr => ∃ (k : Nat) (G' : Gr), k ≤ ns.length ∧ gk = ns.length - k ∧ i = .int .i64 k ∧ Hid (GRep wr F g G' (some ⟨bb, off, none⟩) nc mb me rs) ∧ Hid (names G' = ns) ∧ Hid (G' = (ns.take k).foldl (kstep s1 s2) G2) ∧ Fr F w wr)
            case atStart => exact ⟨0, G2, Nat.zero_le _, by omega, rfl, HR2, HN2, Lib.hid (by simp), hf2⟩
            case round =>
              clear hcg h1 hy
              obtain ⟨k3, G3, hk3, rfl, rfl, HR3, HN3, HE3, hf3⟩ := hrel
              have hft := hfacts.out G3 wr HR3.out HN3.out
              by_cases hlt3 : k3 < ns.length
              · obtain ⟨bb', off', hbb, h1⟩ := hft.2.s1 hlt3
                simp only [Option.some.injEq, Addr.mk.injEq] at hbb
                obtain ⟨rfl, rfl, _⟩ := hbb
                have hnx := foldl_takeR (kstep s1 s2) G2 ns k3 hlt3
                rw [← HE3.out] at hnx
                generalize ns[k3] = s3 at *
                clear hft
                by_cases hy3 : hasE G3 s2 s3 = true
                · have hq : (ns.take (k3 + 1)).foldl (kstep s1 s2) G2 = delE G3 s1 s3 := by rw [hnx, kstep, if_pos hy3]
                  have hin3 : s1 ∈ names G3 := by rw [HN3.out]; exact hin.out
                  have HQ3 := Lib.hid hq; clear hq
                  have HIN3 := Lib.hid hin3; clear hin3
                  clear hnx
                  go_wp2_with (first
                    | (go_at_call 39; refine (hasEdge_calls _ _ HR3.out.at).mono ?_; rintro e w' ⟨rfl, rfl⟩)
                    | (go_at_call 38; refine (delEdge_rep _ _ HR3.out HIN3.out).mono ?_; rintro e w4 ⟨rfl, hr4, hf4⟩; have HR4 := Lib.hid hr4; clear hr4))
                  go_roundg (ns.length - (k3 + 1))
                  case measure => omega
                  case rel => exact ⟨k3 + 1, _, by omega, rfl, by go_num, HR4, Lib.hid (by rw [names_delE]; exact HN3.out), Lib.hid HQ3.out.symm, hf3.trans hf4 (fun _ _ e => e)⟩
                · have hq : (ns.take (k3 + 1)).foldl (kstep s1 s2) G2 = G3 := by rw [hnx, kstep, if_neg hy3]
                  have hy3' : hasE G3 s2 s3 = false := by simpa using hy3
                  clear hy3
                  have HQ3 := Lib.hid hq; clear hq
                  clear hnx
                  go_wp2_with (go_at_call 39; refine (hasEdge_calls _ _ HR3.out.at).mono ?_; rintro e w' ⟨rfl, rfl⟩)
                  go_roundg (ns.length - (k3 + 1))
                  case measure => omega
                  case rel => exact ⟨k3 + 1, _, by omega, rfl, by go_num, HR3, HN3, Lib.hid HQ3.out.symm, hf3⟩
              · have hq : G3 = (ns.take (k2 + 1)).foldl (jstep ns s1) G1 := by rw [HE3.out, List.take_of_length_le (by omega), HQ2.out]
                have HQ3 := Lib.hid hq; clear hq
                clear hft
                go_wp2
                go_roundg (ns.length - (k2 + 1))
                case measure => omega
                case rel => exact ⟨k2 + 1, G3, by omega, rfl, by go_num, HR3, HN3, HQ3, hf3⟩
          · have hq : (ns.take (k2 + 1)).foldl (jstep ns s1) G1 = G2 := by rw [hnx, jstep, if_neg hy]
            have hy' : hasE G2 s1 s2 = false := by simpa using hy
            clear hy
            have HQ2 := Lib.hid hq; clear hq
            clear hnx
            go_wp2_with (go_at_call 39; refine (hasEdge_calls _ _ HR2.out.at).mono ?_; rintro e w' ⟨rfl, rfl⟩)
            go_roundg (ns.length - (k2 + 1))
            case measure => omega
            case rel => exact ⟨k2 + 1, G2, by omega, rfl, by go_num, HR2, HN2, Lib.hid HQ2.out.symm, hf2⟩
        · have hq : G2 = (ns.take (k1 + 1)).foldl (istep ns) G := by rw [HE2.out, List.take_of_length_le (by omega), HNX1.out]; rfl
          have HQ2 := Lib.hid hq; clear hq
          clear hft
          go_wp2
          go_roundg (ns.length - (k1 + 1))
          case measure => omega
          case rel => exact ⟨k1 + 1, G2, by omega, rfl, by go_num, HR2, HN2, HQ2, hf2⟩
    · have hq : G1 = reduceG ns G := by rw [HE1.out, List.take_of_length_le (by omega)]; rfl
      have HQ1 := Lib.hid hq; clear hq
      clear hft
      go_wp2
      go_end0
      exact ⟨rfl, by rw [← HQ1.out]; exact HR1.out.at, hf1⟩
end Go.Proofs.Ythajiimohbjjhaa
