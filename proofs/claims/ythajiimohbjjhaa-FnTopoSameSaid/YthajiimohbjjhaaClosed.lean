/- spec.Closed: what the call computes. -/
import Derived.Test.YthajiimohbjjhaaMat
import Derived.Test.YthajiimohbjjhaaPlace
import Derived.IntWalk
namespace Go.Proofs.Ythajiimohbjjhaa
open Go.RowKit

theorem infoB' : (Try.prog.info? 4).map (fun i => (i.zero, i.size, i.bytes)) = some (some (.bool false), 1, 1) := by kernel_rfl
def nm (ns : List Str) (i : Nat) : Str := ns.getD i ByteArray.empty
theorem nm_at {ns : List Str} {i : Nat} (h : i < ns.length) : nm ns i = ns[i] := by unfold nm; simp [h]
def rowC (ns : List Str) (es : List Ed) (a : Str) : List Ed := (ns.map fun b => (a, b)).filter fun e => clo ns es e.1 e.2
theorem closedL_rows (ns : List Str) (es : List Ed) : closedL ns es = ns.flatMap (rowC ns es) := by
  unfold closedL pairs rowC
  rw [List.filter_flatMap]

theorem flat_le' {α : Type} (f : Str → List α) (B : Nat) (hf : ∀ s, (f s).length ≤ B) : ∀ (l : List Str), (l.flatMap f).length ≤ l.length * B
  | [] => by simp
  | s :: r => by
    have := flat_le' f B hf r
    have := hf s
    rw [List.flatMap_cons, List.length_append, List.length_cons, Nat.add_mul]
    omega

set_option maxRecDepth 100000 in
set_option maxHeartbeats 1000000 in
theorem closed_calls {a b : Option Addr} {cap capb n m : Nat} {ns : List Str} {es : List Ed} (w : World) (hn : n = ns.length) (hm : m = es.length) (h : Sl encS 1 w a cap ns) (h' : Sl encE 2 w b capb es)
    (hnd : ns.Nodup) (hsm : ns.length ≤ 20) (hin : ∀ e ∈ es, e.1 ∈ ns ∧ e.2 ∈ ns) :
    Calls Try.prog 30 #[.slice a n cap, .slice b m capb] w <| RetSl fun a' n' cap' w' => n' = (closedL ns es).length ∧ Own encE 2 w' w.heap.size 43 a' cap' (closedL ns es) ∧ Below w.heap.size w w' := by
  subst hn
  subst hm
  have hl := h.len
  have hl' := h'.len
  have hnn : ns.length * ns.length ≤ 400 := Nat.mul_le_mul hsm hsm
  have HIN := Lib.hid hin; clear hin
  have HND := Lib.hid hnd; clear hnd
  obtain ⟨N, hN⟩ : ∃ N, ns.length * ns.length = N := ⟨_, rfl⟩
  have hNi : (ns.length : Int) * (ns.length : Int) = (N : Int) := by rw [← hN, Int.natCast_mul]
  have hN4 : N ≤ 400 := by omega
  have HN := Lib.hid hN; clear hN
  clear hnn
  go_enter Try.func30, Try.ntmps30
  go_wp2_with (at_make; refine wpList_make1 Value.bool false _ rfl _ _ 29 rfl w.heap.size 4 1 Try.underlying29 infoB' rfl _ _ N rfl rfl rfl rfl (by omega) (by omega) (Nat.le_refl _) ?_; intro w1 hown1 hf1 hs1)
  have hb1 := hf1.below_top
  have hm1 : Mat ns.length (List.replicate N false) (fun i j => base (es.take 0) (nm ns i) (nm ns j)) :=
    ⟨by simp [HN.out], fun i j hi hj => by have := mat_lt hi hj; rw [HN.out] at this; simp [base, this]⟩
  have HM1 := Lib.hid hm1; clear hm1
  go_loopg [23] es.length (fun gk i wr => ∃ (k : Nat) (m : List Bool), k ≤ es.length ∧ gk = es.length - k ∧ i = .int .i64 k ∧ Hid (Mat ns.length m (fun i j => base (es.take k) (nm ns i) (nm ns j))) ∧ Hid (m.length = N) ∧
    Own encB 1 wr w.heap.size 4 (some ⟨w.heap.size, 0, none⟩) N m ∧ Below w.heap.size w wr)
  case atStart => exact ⟨0, List.replicate N false, Nat.zero_le _, by omega, rfl, HM1, Lib.hid (by simp), hown1, hb1⟩
  case round =>
    obtain ⟨k, m, hk, rfl, rfl, HM, HL, hown, hb⟩ := hrel
    have hsz := hb.size
    by_cases hlt : k < es.length
    · obtain ⟨bb, off, rfl, hbl, h1, h2⟩ := (h'.top hb).e2 hlt
      have hns := (h.top hb).alloc (.cells #[.string es[k].1, .string es[k].2] 43)
      have hi := Lib.hid (HIN.out _ (List.getElem_mem hlt))
      have hp : ns.idxOf es[k].1 < ns.length := List.idxOf_lt_length_iff.2 hi.out.1
      have hq : ns.idxOf es[k].2 < ns.length := List.idxOf_lt_length_iff.2 hi.out.2
      have hnp : nm ns (ns.idxOf es[k].1) = es[k].1 := by rw [nm_at hp]; exact List.getElem_idxOf hp
      have hnq : nm ns (ns.idxOf es[k].2) = es[k].2 := by rw [nm_at hq]; exact List.getElem_idxOf hq
      have hp1 := place_calls (a := a) (cap := cap) es[k].1 _ rfl (hns.drewN 1) hi.out.1
      have hp2 := place_calls (a := a) (cap := cap) es[k].2 _ rfl (hns.drewN 1) hi.out.2
      have hstep : Mat ns.length (m.set (ns.idxOf es[k].1 * ns.length + ns.idxOf es[k].2) true) (fun i j => base (es.take (k + 1)) (nm ns i) (nm ns j)) := by
        refine HM.out.set hp hq true fun p q hp' hq' => ?_
        rw [Bool.eq_iff_iff, base_iff, mem_take_succ hlt]
        by_cases e : p = ns.idxOf es[k].1 ∧ q = ns.idxOf es[k].2
        · obtain ⟨rfl, rfl⟩ := e
          rw [if_pos ⟨rfl, rfl⟩, hnp, hnq]
          simp
        · rw [if_neg e, base_iff]
          constructor
          · rintro (h | h)
            · exact h
            · exfalso
              apply e
              have e1 := congrArg Prod.fst h
              have e2 := congrArg Prod.snd h
              simp only at e1 e2
              rw [← e1, ← e2, nm_at hp', nm_at hq']
              exact ⟨(HND.out.idxOf_getElem p hp').symm, (HND.out.idxOf_getElem q hq').symm⟩
          · exact .inl
      have hlt2 := mat_lt hp hq
      rw [HN.out] at hlt2
      clear hnp hnq
      obtain ⟨p, hpe⟩ : ∃ p, ns.idxOf es[k].1 = p := ⟨_, rfl⟩
      obtain ⟨q, hqe⟩ : ∃ q, ns.idxOf es[k].2 = q := ⟨_, rfl⟩
      rw [hpe] at hp1 hstep hp hlt2
      rw [hqe] at hp2 hstep hq hlt2
      obtain ⟨j, hj⟩ : ∃ j, p * ns.length + q = j := ⟨_, rfl⟩
      rw [hj] at hstep hlt2
      have HPE := Lib.hid hpe; clear hpe
      have HQE := Lib.hid hqe; clear hqe
      have HP1 := Lib.hid hp1; clear hp1
      have HP2 := Lib.hid hp2; clear hp2
      have HSTEP := Lib.hid hstep; clear hstep
      have HJ := Lib.hid hj; clear hj
      go_wp2
      have hw1 : IntKind.i64.wrap ((p : Int) * (ns.length : Int)) = (p : Int) * (ns.length : Int) := by
        rw [← Int.natCast_mul]
        exact IntWalk.i64_in _ (by have := HJ.out; omega)
      have hw2 : IntKind.i64.wrap ((p : Int) * (ns.length : Int) + (q : Int)) = (j : Int) := by
        rw [← HJ.out, ← Int.natCast_mul, ← Int.natCast_add]
        exact IntWalk.i64_in _ (by have := HJ.out; omega)
      have hjn : ((j : Int)).toNat = j := by simp
      have hj0 : (0 : Int) ≤ (j : Int) := by omega
      have hjN : (j : Int) < (N : Int) := by omega
      refine region_still_tail 13 (by kernel_rfl) (by kernel_rfl) ?_
      simp only [List.take_succ_cons, List.take_zero, List.drop_succ_cons, List.drop_zero]
      repeat still_step
      still_call (HP1.out.mono fun _ _ hh => ⟨hh.1, hh.2.symm⟩)
      repeat still_step
      still_call (HP2.out.mono fun _ _ hh => ⟨hh.1, hh.2.symm⟩)
      repeat still_step
      refine wpStill_nil ?_
      have hownW := (hown.alloc (.cells #[.string es[k].1, .string es[k].2] 43)).drew
      have hbW : Below w.heap.size w (wr.alloc (.cells #[.string es[k].1, .string es[k].2] 43)).drew := (hb.alloc hsz _).fr (Fr.drew NoB _) (Nat.le_refl _) (fun _ hs => hs.elim)
      generalize (wr.alloc (.cells #[.string es[k].1, .string es[k].2] 43)).drew = W at *
      obtain ⟨v0, hc0⟩ : ∃ v0, W.cell? ⟨w.heap.size, j, none⟩ = some v0 := ⟨_, Own.at1 (f := Value.bool) hownW j (by rw [HL.out]; exact hlt2)⟩
      have hz0 := Own.frozen1 (f := Value.bool) hownW j
      have hset := Own.set1 (f := Value.bool) hownW j true
      have hbs : Below w.heap.size w (W.setCell ⟨w.heap.size, j, none⟩ (.bool true)) := hbW.fr (Fr.setCell (S := fun b => b = w.heap.size) W _ _ rfl) (Nat.le_refl _) (fun b e => by omega)
      clear hw1 hw2 hjn hj0 hjN
      go_wp2
      go_roundg (es.length - (k + 1))
      case measure => omega
      case rel => exact ⟨k + 1, m.set j true, by omega, rfl, by go_num, Lib.hid HSTEP.out, Lib.hid (by rw [List.length_set]; exact HL.out), hset, hbs⟩
    · have hm2 : Mat ns.length m (fun i j => clo (ns.take 0) es (nm ns i) (nm ns j)) := by
        have := HM.out
        rw [List.take_of_length_le (by omega)] at this
        simpa [clo_nil] using this
      have HM2 := Lib.hid hm2; clear hm2
      clear HM
      go_wp2
      go_loopg [42] ns.length (fun gk i wr => ∃ (k : Nat) (m : List Bool), k ≤ ns.length ∧ gk = ns.length - k ∧ i = .int .i64 k ∧ Hid (Mat ns.length m (fun i j => clo (ns.take k) es (nm ns i) (nm ns j))) ∧
        Own encB 1 wr w.heap.size 4 (some ⟨w.heap.size, 0, none⟩) N m ∧ Below w.heap.size w wr)
      case atStart => exact ⟨0, m, Nat.zero_le _, by omega, rfl, HM2, hown, hb⟩
      case round =>
        clear hown hb hsz hown1 hf1 hs1 hb1 HM1 HM2 HL
        obtain ⟨k, m, hk, rfl, rfl, HM, hown, hb⟩ := hrel
        by_cases hlt : k < ns.length
        · obtain ⟨wo, rfl⟩ : ∃ wo : World, wo = wr := ⟨_, rfl⟩
          have HA : Hid (∀ p q, p < ns.length → q < ns.length → (fun i j => clo (ns.take (k + 1)) es (nm ns i) (nm ns j)) p q = ((fun i j => clo (ns.take k) es (nm ns i) (nm ns j)) p q || ((fun i j => clo (ns.take k) es (nm ns i) (nm ns j)) p k && (fun i j => clo (ns.take k) es (nm ns i) (nm ns j)) k q))) := Lib.hid (fun p q _ _ => by
            simp only
            rw [List.take_succ_eq_append_getElem hlt, clo_snoc, nm_at hlt]
            rfl)
          generalize hAA : (fun i j => clo (ns.take k) es (nm ns i) (nm ns j)) = A at *
          clear hAA
          go_wp2
          go_loopg [46] ns.length (fun gk i wr => ∃ (i0 : Nat) (m : List Bool), i0 ≤ ns.length ∧ gk = ns.length - i0 ∧ i = .int .i64 i0 ∧ Hid (Mat ns.length m (part A k i0 0)) ∧
            Own encB 1 wr w.heap.size 4 (some ⟨w.heap.size, 0, none⟩) N m ∧ Below w.heap.size w wr)
          case atStart => exact ⟨0, m, Nat.zero_le _, by omega, rfl, Lib.hid (by rw [part_start]; exact HM.out), hown, hb⟩
          case round =>
            clear hown hb HM
            obtain ⟨i0, m, hi0, rfl, rfl, HM, hown, hb⟩ := hrel
            by_cases hlti : i0 < ns.length
            · obtain ⟨wp, rfl⟩ : ∃ wp : World, wp = wr := ⟨_, rfl⟩
              go_wp2
              go_loopg [50] ns.length (fun gk i wr => ∃ (j0 : Nat) (m : List Bool), j0 ≤ ns.length ∧ gk = ns.length - j0 ∧ i = .int .i64 j0 ∧ Hid (Mat ns.length m (part A k i0 j0)) ∧
                Own encB 1 wr w.heap.size 4 (some ⟨w.heap.size, 0, none⟩) N m ∧ Below w.heap.size w wr)
              case atStart => exact ⟨0, m, Nat.zero_le _, by omega, rfl, HM, hown, hb⟩
              case round =>
                clear hown hb HM
                obtain ⟨j0, m, hj0, rfl, rfl, HM, hown, hb⟩ := hrel
                have hsz := hb.size
                by_cases hltj : j0 < ns.length
                · obtain ⟨c1, hc1⟩ : ∃ c, i0 * ns.length = c := ⟨_, rfl⟩
                  obtain ⟨c2, hc2⟩ : ∃ c, k * ns.length = c := ⟨_, rfl⟩
                  have hl1 := mat_lt hlti hlt
                  have hl2 := mat_lt hlt hltj
                  have hl3 := mat_lt hlti hltj
                  obtain ⟨hk1, hg1⟩ := HM.out.get hlti hlt
                  obtain ⟨hk2, hg2⟩ := HM.out.get hlt hltj
                  obtain ⟨hk3, hg3⟩ := HM.out.get hlti hltj
                  rw [part_col] at hg1
                  rw [part_rowx] at hg2
                  have e1 := Own.at1 (f := Value.bool) hown _ hk1
                  have e2 := Own.at1 (f := Value.bool) hown _ hk2
                  have e3 := Own.at1 (f := Value.bool) hown _ hk3
                  rw [hg1, hc1] at e1
                  rw [hg2, hc2] at e2
                  rw [hg3, hc1] at e3
                  rw [hc1, HN.out] at hl1 hl3
                  rw [hc2, HN.out] at hl2
                  have hi1 : (i0 : Int) * (ns.length : Int) = (c1 : Int) := by rw [← hc1, Int.natCast_mul]
                  have hi2 : (k : Int) * (ns.length : Int) = (c2 : Int) := by rw [← hc2, Int.natCast_mul]
                  have hz := Own.frozen1 (f := Value.bool) hown (c1 + j0)
                  have hset := Own.set1 (f := Value.bool) hown (c1 + j0) true
                  have hbs : Below w.heap.size w (wr.setCell ⟨w.heap.size, c1 + j0, none⟩ (.bool true)) := hb.fr (Fr.setCell (S := fun b => b = w.heap.size) wr _ _ rfl) (Nat.le_refl _) (fun b e => by omega)
                  have hyes : (A i0 k && A k j0) = true → Hid (Mat ns.length (m.set (c1 + j0) true) (part A k i0 (j0 + 1))) := fun hh => Lib.hid (by
                    rw [← hc1]
                    exact HM.out.set hlti hltj true (fun p q _ _ => part_yes A k i0 j0 hh p q))
                  have hno : (A i0 k && A k j0) = false → Hid (Mat ns.length m (part A k i0 (j0 + 1))) := fun hh => Lib.hid (HM.out.congr fun p q _ _ => part_no A k i0 j0 hh p q)
                  have HC1 := Lib.hid hc1; clear hc1
                  have HC2 := Lib.hid hc2; clear hc2
                  have HYES := Lib.hid hyes; clear hyes
                  have HNO := Lib.hid hno; clear hno
                  clear hk1 hk2 hk3 hg1 hg2 hg3
                  generalize A i0 k = x1 at *
                  generalize A k j0 = x2 at *
                  generalize part A k i0 j0 i0 j0 = x3 at *
                  cases x1
                  · have HK := HNO.out rfl
                    clear HYES HNO
                    go_wp2
                    go_roundg (ns.length - (j0 + 1))
                    case measure => omega
                    case rel => exact ⟨j0 + 1, m, by omega, rfl, by go_num, HK, hown, hb⟩
                  · cases x2
                    · have HK := HNO.out rfl
                      clear HYES HNO
                      go_wp2
                      go_roundg (ns.length - (j0 + 1))
                      case measure => omega
                      case rel => exact ⟨j0 + 1, m, by omega, rfl, by go_num, HK, hown, hb⟩
                    · have HK := HYES.out rfl
                      clear HYES HNO
                      go_wp2
                      go_roundg (ns.length - (j0 + 1))
                      case measure => omega
                      case rel => exact ⟨j0 + 1, _, by omega, rfl, by go_num, HK, hset, hbs⟩
                · have hm2 : Hid (Mat ns.length m (part A k (i0 + 1) 0)) := Lib.hid (by
                    obtain rfl : j0 = ns.length := by omega
                    exact HM.out.congr (part_row A k i0))
                  clear HM
                  go_wp2
                  go_roundg (ns.length - (i0 + 1))
                  case measure => omega
                  case rel => exact ⟨i0 + 1, m, by omega, rfl, by go_num, hm2, hown, hb⟩
            · have hm2 : Hid (Mat ns.length m (fun i j => clo (ns.take (k + 1)) es (nm ns i) (nm ns j))) := Lib.hid (by
                obtain rfl : i0 = ns.length := by omega
                exact HM.out.congr fun p q hp hq => by rw [part_end A k p q hp hq, HA.out p q hp hq])
              clear HM HA
              go_wp2
              go_roundg (ns.length - (k + 1))
              case measure => omega
              case rel => exact ⟨k + 1, m, by omega, rfl, by go_num, hm2, hown, hb⟩
        · have hm2 : Hid (Mat ns.length m (fun i j => clo ns es (nm ns i) (nm ns j))) := Lib.hid (by
            have := HM.out
            rwa [List.take_of_length_le (by omega)] at this)
          clear HM
          go_wp2
          obtain ⟨wo, rfl⟩ : ∃ wo : World, wo = wr := ⟨_, rfl⟩
          have hszo := hb.size
          have hrl : ∀ a, (rowC ns es a).length ≤ 20 := fun a => by
            unfold rowC
            have := List.length_filter_le (fun e : Ed => clo ns es e.1 e.2) (ns.map fun b => (a, b))
            rw [List.length_map] at this
            omega
          have hfl : ∀ k, ((ns.take k).flatMap (rowC ns es)).length ≤ k * 20 := fun k => by
            have h1 := flat_le' (rowC ns es) 20 hrl (ns.take k)
            have h2 : (ns.take k).length * 20 ≤ k * 20 := Nat.mul_le_mul_right 20 (List.length_take_le _ _)
            omega
          have HFL := Lib.hid hfl; clear hfl
          clear hrl
          go_loopg [83, 12] ns.length (fun gk i v wz => ∃ (k : Nat) (q : List Ed) (a' : Option Addr) (cap' : Nat), k ≤ ns.length ∧ gk = ns.length - k ∧ i = .int .i64 k ∧ v = .slice a' q.length cap' ∧ Hid (q = (ns.take k).flatMap (rowC ns es)) ∧
            Own encE 2 wz wo.heap.size 43 a' cap' q ∧ Below wo.heap.size wo wz)
          case atStart => exact ⟨0, [], _, _, Nat.zero_le _, by omega, rfl, rfl, Lib.hid (by simp), Own.made encE 2 wo _ _ (Nat.le_refl _), (Below.refl _ _).alloc (Nat.le_refl _) _⟩
          case round =>
            obtain ⟨i0, q, a1, cap1, hi0, rfl, rfl, rfl, Hq, ho, hbz⟩ := hrel
            by_cases hlti : i0 < ns.length
            · have hfl0 := HFL.out i0
              rw [← Hq.out] at hfl0
              have hft : Hid ((ns.take (i0 + 1)).flatMap (rowC ns es) = q ++ rowC ns es ns[i0]) := Lib.hid (by
                rw [List.take_succ_eq_append_getElem hlti, List.flatMap_append, ← Hq.out]
                simp)
              have hi2 : Hid (i0 < ns.length) := Lib.hid hlti
              obtain ⟨wp, rfl⟩ : ∃ wp : World, wp = wr := ⟨_, rfl⟩
              go_wp2
              go_loopg [87, 12] ns.length (fun gk i v wz => ∃ (j0 : Nat) (q2 : List Ed) (a' : Option Addr) (cap' : Nat), j0 ≤ ns.length ∧ gk = ns.length - j0 ∧ i = .int .i64 j0 ∧ v = .slice a' q2.length cap' ∧ Hid (q2 = q ++ ((ns.take j0).map fun b => (nm ns i0, b)).filter fun e => clo ns es e.1 e.2) ∧
                q2.length ≤ q.length + j0 ∧ Own encE 2 wz wo.heap.size 43 a' cap' q2 ∧ Below wo.heap.size wo wz)
              case atStart => exact ⟨0, q, _, _, Nat.zero_le _, by omega, rfl, rfl, Lib.hid (by simp), Nat.le_refl _, ho, hbz⟩
              case round =>
                obtain ⟨j0, q2, a2, cap2, hj0, rfl, rfl, rfl, Hq2, hq2l, ho2, hbz2⟩ := hrel
                have hszz := hbz2.size
                by_cases hltj : j0 < ns.length
                · have hownz := hown.top hbz2
                  obtain ⟨bb, off, rfl, hs1⟩ := ((h.top hb).top hbz2).s1 hlti
                  obtain ⟨bb', off', hbb, hs2⟩ := ((h.top hb).top hbz2).s1 hltj
                  simp only [Option.some.injEq, Addr.mk.injEq] at hbb
                  obtain ⟨rfl, rfl, _⟩ := hbb
                  obtain ⟨c1, hc1⟩ : ∃ c, i0 * ns.length = c := ⟨_, rfl⟩
                  have hl3 := mat_lt hlti hltj
                  obtain ⟨hk3, hg3⟩ := hm2.out.get hlti hltj
                  have e3 := Own.at1 (f := Value.bool) hownz _ hk3
                  rw [hg3, hc1] at e3
                  rw [hc1, HN.out] at hl3
                  have hi1 : (i0 : Int) * (ns.length : Int) = (c1 : Int) := by rw [← hc1, Int.natCast_mul]
                  have hn1 := nm_at hlti
                  have hn2 := nm_at hltj
                  have hq3 : Hid (((ns.take (j0 + 1)).map fun b => (nm ns i0, b)).filter (fun e => clo ns es e.1 e.2) = ((ns.take j0).map fun b => (nm ns i0, b)).filter (fun e => clo ns es e.1 e.2) ++ if clo ns es (nm ns i0) (nm ns j0) = true then [(nm ns i0, nm ns j0)] else []) := Lib.hid (by
                    rw [List.take_succ_eq_append_getElem hltj, List.map_append, List.filter_append, hn2]
                    by_cases hcc : clo ns es (nm ns i0) ns[j0] = true <;> simp [hcc])
                  rw [← hn1] at hs1
                  rw [← hn2] at hs2
                  have hq4 : clo ns es (nm ns i0) (nm ns j0) = true → Hid (q2 ++ [(nm ns i0, nm ns j0)] = q ++ ((ns.take (j0 + 1)).map fun b => (nm ns i0, b)).filter fun e => clo ns es e.1 e.2) := fun hh => Lib.hid (by rw [hq3.out, if_pos hh, ← List.append_assoc, ← Hq2.out])
                  have hq5 : clo ns es (nm ns i0) (nm ns j0) = false → Hid (q2 = q ++ ((ns.take (j0 + 1)).map fun b => (nm ns i0, b)).filter fun e => clo ns es e.1 e.2) := fun hh => Lib.hid (by rw [hq3.out, if_neg (by rw [hh]; simp), List.append_nil, ← Hq2.out])
                  have HC1 := Lib.hid hc1; clear hc1
                  have HQ4 := Lib.hid hq4; clear hq4
                  have HQ5 := Lib.hid hq5; clear hq5
                  clear hn1 hn2 hq3 hk3 hg3
                  generalize clo ns es (nm ns i0) (nm ns j0) = x1 at *
                  cases x1
                  · have HK := HQ5.out rfl
                    clear HQ4 HQ5
                    go_wp2
                    go_roundg (ns.length - (j0 + 1))
                    case measure => omega
                    case rel => exact ⟨j0 + 1, q2, a2, cap2, by omega, rfl, by go_num, rfl, HK, by omega, ho2, hbz2⟩
                  · have HK := HQ4.out rfl
                    clear HQ4 HQ5
                    have hlb := World.block_lt_of_cell? _ _ hs1
                    have hnb : ¬ blk a2 = some bb := fun e => by
                      have h1 := (ho2.lt bb e).1
                      obtain ⟨b', off', e2, h3, _⟩ := (h.top hb).2.2 (by omega)
                      simp only [Option.some.injEq, Addr.mk.injEq] at e2
                      omega
                    go_wp2
                    have hbd : Below wo.heap.size wo wr.drew := hbz2.fr (Fr.drew NoB _) (Nat.le_refl _) (fun _ hs => hs.elim)
                    have ho3 := ho2.drew
                    have hszd : wo.heap.size ≤ wr.drew.heap.size := hbd.size
                    go_region_held3 (fun w' => w'.cell? ⟨bb, off + i0, none⟩ = some (.string (nm ns i0)) ∧ w'.cell? ⟨bb, off + j0, none⟩ = some (.string (nm ns j0)))
                      (first | go_keep | (exact ⟨hs5, hs6⟩))
                      ((refine step_append_new (y := (nm ns i0, nm ns j0)) encE 2 encE_len encE_one wr.drew _ 43 rfl rfl _ _ 36 rfl 43 _ 32 Try.underlying36 infoE rfl (by omega) wo.heap.size a2 cap2 q2 rfl ho3 _ _ rfl rfl (by omega) (by omega) hszd ?_
                        intro g3 cap3 w4 ho4 hf4 hk4
                        have hs5 : w4.cell? ⟨bb, off + i0, none⟩ = some (.string (nm ns i0)) := (hf4.cell (a := ⟨bb, off + i0, none⟩) hlb hnb).trans hs1
                        have hs6 : w4.cell? ⟨bb, off + j0, none⟩ = some (.string (nm ns j0)) := (hf4.cell (a := ⟨bb, off + j0, none⟩) hlb hnb).trans hs2))
                    go_wp2
                    go_roundg (ns.length - (j0 + 1))
                    case measure => omega
                    case rel => exact ⟨j0 + 1, _, some ⟨g3, 0, none⟩, cap3, by omega, rfl, by go_num, by simp, HK, by simp; omega, ho4, hbd.fr hf4 (Nat.le_refl _) (fun j hj => (ho3.lt j hj).1)⟩
                · have hq6 : Hid (q2 = (ns.take (i0 + 1)).flatMap (rowC ns es)) := Lib.hid (by
                    rw [hft.out, Hq2.out, List.take_of_length_le (by omega), nm_at hi2.out]
                    rfl)
                  clear Hq2 hft
                  go_wp2
                  go_roundg (ns.length - (i0 + 1))
                  case measure => omega
                  case rel => exact ⟨i0 + 1, q2, a2, cap2, by omega, rfl, by go_num, rfl, hq6, ho2, hbz2⟩
            · have hmm : q = closedL ns es := by rw [Hq.out, List.take_of_length_le (by omega), closedL_rows]
              clear Hq
              go_wp2
              go_ret
              exact ⟨_, _, _, rfl, by rw [hmm], by rw [← hmm]; exact ho.mono hszo, hb.top hbz (Nat.le_refl _)⟩
end Go.Proofs.Ythajiimohbjjhaa
