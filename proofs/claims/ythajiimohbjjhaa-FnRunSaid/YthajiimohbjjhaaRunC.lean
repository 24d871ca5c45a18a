/- spec.Run: what the call computes. -/
import Derived.Test.YthajiimohbjjhaaRunB
namespace Go.Proofs.Ythajiimohbjjhaa
open Go.RowKit

def keepE (s t : Str) (e : Ed) : Bool := !(decide (e.1 = s) && decide (e.2 = t))
structure SSt where
  ns : List Str
  es : List Ed
  out : List Bool
def stepS (p : SSt) (s : St) : SSt :=
  if s.1 = 0 then ⟨p.ns ++ [s.2.1], p.es, p.out ++ [!decide (s.2.1 ∈ p.ns)]⟩
  else if s.1 = 1 then ⟨p.ns, p.es ++ [(s.2.1, s.2.2)], p.out ++ [true]⟩
  else if s.1 = 2 then ⟨p.ns, p.es.filter (keepE s.2.1 s.2.2), p.out ++ [true]⟩
  else ⟨p.ns, p.es, p.out ++ [decide ((s.2.1, s.2.2) ∈ p.es)]⟩
def runS (l : List St) : SSt := l.foldl stepS ⟨[], [], []⟩
theorem runS_snoc (l : List St) (s : St) : runS (l ++ [s]) = stepS (runS l) s := by simp [runS, List.foldl_append]
theorem runS_len (l : List St) : (runS l).ns.length ≤ l.length ∧ (runS l).es.length ≤ l.length ∧ (runS l).out.length = l.length := by
  refine snoc_ind (P := fun l => (runS l).ns.length ≤ l.length ∧ (runS l).es.length ≤ l.length ∧ (runS l).out.length = l.length) (by simp [runS]) ?_ l
  intro l s ih
  show (runS (l ++ [s])).ns.length ≤ _ ∧ (runS (l ++ [s])).es.length ≤ _ ∧ (runS (l ++ [s])).out.length = _
  rw [runS_snoc]
  have hf := List.length_filter_le (keepE s.2.1 s.2.2) (runS l).es
  unfold stepS
  split
  · simp; omega
  split
  · simp; omega
  split
  · simp; omega
  · simp; omega

theorem specRun_calls {a : Option Addr} {cap n : Nat} {l : List St} (w : World) (hn : n = l.length) (h : Sl encT 3 w a cap l) (hsm : l.length ≤ 2147483647) :
    Calls Try.prog 16 #[.slice a n cap] w <| RetSl fun a' n' cap' w' => n' = l.length ∧ Own encB 1 w' w.heap.size 4 a' cap' (runS l).out ∧ Below w.heap.size w w' := by
  subst hn
  have hl := h.len
  go_enter Try.func16, Try.ntmps16
  go_wp2
  go_loopw [17, 3, 4, 5] (fun i v1 v2 v3 wr => ∃ (k : Nat) (p : SSt) (a1 a2 a3 : Option Addr) (c1 c2 c3 : Nat), k ≤ l.length ∧ i = .int .i64 k ∧ v1 = .slice a1 p.ns.length c1 ∧ v2 = .slice a2 p.es.length c2 ∧ v3 = .slice a3 p.out.length c3 ∧ Hid (p = runS (l.take k)) ∧
    Own encS 1 wr w.heap.size 9 a1 c1 p.ns ∧ Own encE 2 wr w.heap.size 43 a2 c2 p.es ∧ Own encB 1 wr w.heap.size 4 a3 c3 p.out ∧ Below w.heap.size w wr) (fun i _ _ _ _ => l.length - (intOf i).toNat)
  case atStart =>
    refine ⟨0, ⟨[], [], []⟩, _, _, _, _, _, _, Nat.zero_le _, rfl, rfl, rfl, rfl, Lib.hid (by simp [runS]), ((Own.made encS 1 w _ _ (Nat.le_refl _)).alloc _).alloc _, ?_, ?_, (((Below.refl _ _).alloc (Nat.le_refl _) _).alloc (by simp) _).alloc (by simp; omega) _⟩
    · have := (Own.made encE 2 (w.alloc (.cells #[] 9)) 43 w.heap.size (by simp)).alloc (.cells #[] 4)
      simpa using this
    · have := (Own.made encB 1 ((w.alloc (.cells #[] 9)).alloc (.cells #[] 43)) 4 w.heap.size (by simp; omega))
      simpa using this
  case round =>
    obtain ⟨k, p, a1, a2, a3, c1, c2, c3, hk, rfl, rfl, rfl, rfl, HR, ho1, ho2, ho3, hb⟩ := hrel
    by_cases hlt : k < l.length
    · obtain ⟨b, off, rfl, hbl, h1, h2, h3⟩ := (h.top hb).t3 hlt
      clear h
      have hsz := hb.size
      have hlen := runS_len (l.take k)
      rw [← HR.out] at hlen
      have hl1 : p.ns.length ≤ k := by have := hlen.1; simp at this; omega
      have hl2 : p.es.length ≤ k := by have := hlen.2.1; simp at this; omega
      have hl3 : p.out.length ≤ k := by have := hlen.2.2; simp at this; omega
      clear hlen
      have hsnoc := runS_snoc (l.take k) l[k]
      rw [← List.take_succ_eq_append_getElem hlt, ← HR.out] at hsnoc
      have HSN := Lib.hid hsnoc; clear hsnoc
      have ho1' := ho1.alloc (.cells #[.int .i64 l[k].1, .string l[k].2.1, .string l[k].2.2] 27)
      have ho2' := ho2.alloc (.cells #[.int .i64 l[k].1, .string l[k].2.1, .string l[k].2.2] 27)
      have ho3' := ho3.alloc (.cells #[.int .i64 l[k].1, .string l[k].2.1, .string l[k].2.2] 27)
      have hb1 := hb.alloc hsz (.cells #[.int .i64 l[k].1, .string l[k].2.1, .string l[k].2.2] 27)
      by_cases e0 : l[k].1 = 0
      · have d0 : (l[k].1 == 0) = true := by simpa using e0
        have E0 := Lib.hid e0; clear e0
        have hsl := ho1'.sl encS_len
        go_wp2_with (first
          | (go_at_call 21; refine (has_calls _ _ rfl hsl).mono ?_; rintro e w' ⟨rfl, rfl⟩)
          | (at_builtin
             refine wpList_append_new encS 1 encS_len encS_one _ _ rfl (.tmp 36) _ 32 rfl 9 _ 16 Try.underlying32 infoS rfl (by omega) w.heap.size a1 c1 p.ns _ rfl rfl ho1' l[k].2.1 _ _ (by simp) rfl (by omega) (by omega) (by simp; omega) ?_
             intro a1' c1' w2 ho12 hf2 hk2
             have hs2 : w.heap.size ≤ w2.heap.size := by have := hf2.size; simp at this; omega
             have ho32 := ho3'.fr hf2 (fun k hk => ho3'.sep ho1' (by decide) k hk))
          | (at_builtin
             refine wpList_append_new encB 1 encB_len encB_one _ _ rfl (.tmp 78) _ 29 rfl 4 _ 1 Try.underlying29 infoB rfl (by omega) w.heap.size a3 c3 p.out _ rfl rfl ho32 (!decide (l[k].2.1 ∈ p.ns)) _ _ rfl rfl (by omega) (by omega) hs2 ?_
             intro a3' c3' w3 ho33 hf3 hk3))
        go_roundw
        case rel =>
          have ho22 := ho2'.fr hf2 (fun k hk => ho2'.sep ho1' (by decide) k hk)
          refine ⟨k + 1, ⟨p.ns ++ [l[k].2.1], p.es, p.out ++ [!decide (l[k].2.1 ∈ p.ns)]⟩, a1', a2, a3', c1', c2, c3', by omega, by go_num, by simp, rfl, by simp, Lib.hid (by rw [HSN.out]; simp [stepS, E0.out]),
            ho12.fr hf3 (fun k hk => ho12.sep ho32 (by decide) k hk), ho22.fr hf3 (fun k hk => ho22.sep ho32 (by decide) k hk), ho33, ?_⟩
          exact (hb1.fr hf2 (Nat.le_refl _) (fun j hj => (ho1.lt j hj).1)).fr hf3 (Nat.le_refl _) (fun j hj => (ho3.lt j hj).1)
        case measure => simp [intOf]; omega
      have d0 : (l[k].1 == 0) = false := by simpa using e0
      have E0 := Lib.hid e0; clear e0
      by_cases e1 : l[k].1 = 1
      · have d1 : (l[k].1 == 1) = true := by simpa using e1
        have E1 := Lib.hid e1; clear e1
        go_wp2_with (first
          | (at_builtin
             refine wpList_append_new encE 2 encE_len encE_one _ _ rfl (.tmp 43) _ 36 rfl 43 _ 32 Try.underlying36 infoE rfl (by omega) w.heap.size a2 c2 p.es _ rfl rfl ho2' (l[k].2.1, l[k].2.2) _ _ (by simp) rfl (by omega) (by omega) (by simp; omega) ?_
             intro a2' c2' w2 ho22 hf2 hk2
             have hs2 : w.heap.size ≤ w2.heap.size := by have := hf2.size; simp at this; omega
             have ho32 := ho3'.fr hf2 (fun k hk => ho3'.sep ho2' (by decide) k hk))
          | (at_builtin
             refine wpList_append_new encB 1 encB_len encB_one _ _ rfl (.tmp 78) _ 29 rfl 4 _ 1 Try.underlying29 infoB rfl (by omega) w.heap.size a3 c3 p.out _ rfl rfl ho32 true _ _ rfl rfl (by omega) (by omega) hs2 ?_
             intro a3' c3' w3 ho33 hf3 hk3))
        go_roundw
        case rel =>
          have ho12 := ho1'.fr hf2 (fun k hk => ho1'.sep ho2' (by decide) k hk)
          refine ⟨k + 1, ⟨p.ns, p.es ++ [(l[k].2.1, l[k].2.2)], p.out ++ [true]⟩, a1, a2', a3', c1, c2', c3', by omega, by go_num, rfl, by simp, by simp, Lib.hid (by rw [HSN.out]; simp [stepS, E1.out]),
            ho12.fr hf3 (fun k hk => ho12.sep ho32 (by decide) k hk), ho22.fr hf3 (fun k hk => ho22.sep ho32 (by decide) k hk), ho33, ?_⟩
          exact (hb1.fr hf2 (Nat.le_refl _) (fun j hj => (ho2.lt j hj).1)).fr hf3 (Nat.le_refl _) (fun j hj => (ho3.lt j hj).1)
        case measure => simp [intOf]; omega
      have d1 : (l[k].1 == 1) = false := by simpa using e1
      have E1 := Lib.hid e1; clear e1
      by_cases e2 : l[k].1 = 2
      · have d2 : (l[k].1 == 2) = true := by simpa using e2
        have E2 := Lib.hid e2; clear e2
        obtain ⟨wo, rfl⟩ : ∃ wo : World, wo = wr := ⟨_, rfl⟩
        have hsW : (wo.alloc (.cells #[.int .i64 l[k].1, .string l[k].2.1, .string l[k].2.2] 27)).heap.size = wo.heap.size + 1 := by simp
        have hcs1 : (wo.alloc (.cells #[.int .i64 l[k].1, .string l[k].2.1, .string l[k].2.2] 27)).cell? ⟨wo.heap.size, 1, none⟩ = some (.string l[k].2.1) := by rw [cell_of_row _ _ _ _ _ _ (heap_alloc_new wo _)]; rfl
        have hcs2 : (wo.alloc (.cells #[.int .i64 l[k].1, .string l[k].2.1, .string l[k].2.2] 27)).cell? ⟨wo.heap.size, 2, none⟩ = some (.string l[k].2.2) := by rw [cell_of_row _ _ _ _ _ _ (heap_alloc_new wo _)]; rfl
        have HC1 := Lib.hid hcs1; clear hcs1
        have HC2 := Lib.hid hcs2; clear hcs2
        have hes := ho2'.sl encE_len
        have hel := hes.len
        go_wp2
        go_loopw [56, 9] (fun i v wi => ∃ (j : Nat) (q : List Ed) (aq : Option Addr) (cq : Nat), j ≤ p.es.length ∧ i = .int .i64 j ∧ v = .slice aq q.length cq ∧ Hid (q = (p.es.take j).filter (keepE l[k].2.1 l[k].2.2)) ∧
          Own encE 2 wi (wo.heap.size + 1) 43 aq cq q ∧ Below (wo.heap.size + 1) (wo.alloc (.cells #[.int .i64 l[k].1, .string l[k].2.1, .string l[k].2.2] 27)) wi) (fun i _ _ => p.es.length - (intOf i).toNat)
        case atStart =>
          have hmade := Own.made encE 2 (wo.alloc (.cells #[.int .i64 l[k].1, .string l[k].2.1, .string l[k].2.2] 27)) 43 (wo.heap.size + 1) (by simp)
          refine ⟨0, [], _, _, Nat.zero_le _, rfl, rfl, Lib.hid (by simp), by simpa using hmade, (Below.refl _ _).alloc (by simp) _⟩
        case round =>
          obtain ⟨j, q, aq, cq, hj, rfl, rfl, Hq, hoq, hbi⟩ := hrel
          have hszi := hbi.size
          simp only [World.size_alloc] at hszi
          have hlt2 : wo.heap.size < wr.heap.size := by omega
          by_cases hjl : j < p.es.length
          · obtain ⟨be, offe, rfl, hble, g1, g2⟩ := (hes.below hbi (by simp)).e2 hjl
            have f1 : wr.cell? ⟨wo.heap.size, 1, none⟩ = some (.string l[k].2.1) := (hbi.cell (p := ⟨wo.heap.size, 1, none⟩) (by simp)).trans HC1.out
            have f2 : wr.cell? ⟨wo.heap.size, 2, none⟩ = some (.string l[k].2.2) := (hbi.cell (p := ⟨wo.heap.size, 2, none⟩) (by simp)).trans HC2.out
            have hql : q.length ≤ j := by have := congrArg List.length Hq.out; have h2 := List.length_filter_le (keepE l[k].2.1 l[k].2.2) (p.es.take j); simp at h2; omega
            have hqs : (p.es.take (j + 1)).filter (keepE l[k].2.1 l[k].2.2) = if keepE l[k].2.1 l[k].2.2 p.es[j] then q ++ [p.es[j]] else q := by
              rw [List.take_succ_eq_append_getElem hjl, List.filter_append, ← Hq.out]
              by_cases hkp : keepE l[k].2.1 l[k].2.2 p.es[j] <;> simp [hkp]
            have HQ := Lib.hid hqs; clear hqs
            have hyes : keepE l[k].2.1 l[k].2.2 p.es[j] = true → Hid (q ++ [p.es[j]] = (p.es.take (j + 1)).filter (keepE l[k].2.1 l[k].2.2)) := fun h => Lib.hid (by rw [HQ.out, if_pos h])
            have hno : keepE l[k].2.1 l[k].2.2 p.es[j] = false → Hid (q = (p.es.take (j + 1)).filter (keepE l[k].2.1 l[k].2.2)) := fun h => Lib.hid (by rw [HQ.out, if_neg (by simp [h])])
            have HY := Lib.hid hyes; clear hyes
            have HNO := Lib.hid hno; clear hno
            by_cases g3 : p.es[j].1 = l[k].2.1
            · have t1 : (p.es[j].1.toList == l[k].2.1.toList) = true := by rw [tl_beq]; simpa using g3
              by_cases g4 : p.es[j].2 = l[k].2.2
              · have t2 : (p.es[j].2.toList == l[k].2.2.toList) = true := by rw [tl_beq]; simpa using g4
                have HKK := HNO.out (by simp [keepE, g3, g4])
                clear g3 g4
                go_wp2
                go_roundw
                case rel => exact ⟨j + 1, q, aq, cq, by omega, by go_num, rfl, HKK, hoq.alloc _, hbi.alloc (by omega) _⟩
                case measure => simp [intOf]; omega
              · have t2 : (p.es[j].2.toList == l[k].2.2.toList) = false := by rw [tl_beq]; simpa using g4
                have HKK := HY.out (by simp [keepE, g4])
                clear g3 g4
                go_wp2_with (at_builtin; refine wpList_append_new encE 2 encE_len encE_one _ _ rfl (.tmp 72) _ 36 rfl 43 _ 32 Try.underlying36 infoE rfl (by omega) (wo.heap.size + 1) aq cq q _ rfl rfl (hoq.alloc _) p.es[j] _ _ (by simp) rfl (by omega) (by omega) (by simp; omega) ?_; intro aq' cq' wq' hoq' hfq' hkq')
                go_roundw
                case rel =>
                  refine ⟨j + 1, q ++ [p.es[j]], aq', cq', by omega, by go_num, by simp, HKK, hoq', ?_⟩
                  exact (hbi.alloc (by omega) _).fr hfq' (by simp) (fun j hj => (hoq.lt j hj).1)
                case measure => simp [intOf]; omega
            · have t1 : (p.es[j].1.toList == l[k].2.1.toList) = false := by rw [tl_beq]; simpa using g3
              have HKK := HY.out (by simp [keepE, g3])
              clear g3
              go_wp2_with (at_builtin; refine wpList_append_new encE 2 encE_len encE_one _ _ rfl (.tmp 72) _ 36 rfl 43 _ 32 Try.underlying36 infoE rfl (by omega) (wo.heap.size + 1) aq cq q _ rfl rfl (hoq.alloc _) p.es[j] _ _ (by simp) rfl (by omega) (by omega) (by simp; omega) ?_; intro aq' cq' wq' hoq' hfq' hkq')
              go_roundw
              case rel =>
                refine ⟨j + 1, q ++ [p.es[j]], aq', cq', by omega, by go_num, by simp, HKK, hoq', ?_⟩
                exact (hbi.alloc (by omega) _).fr hfq' (by simp) (fun j hj => (hoq.lt j hj).1)
              case measure => simp [intOf]; omega
          · have hbw : Below w.heap.size w wr := hb1.trans (hbi.mono (by omega))
            have ho1w := ho1'.fr (Fr.of_below hbi) (fun k hk => by have := (ho1.lt k hk).2; omega)
            have ho3w := ho3'.fr (Fr.of_below hbi) (fun k hk => by have := (ho3.lt k hk).2; omega)
            have hoqw := hoq.mono (B' := w.heap.size) (by omega)
            have hs2 : w.heap.size ≤ wr.heap.size := by omega
            go_wp2_with (at_builtin; refine wpList_append_new encB 1 encB_len encB_one _ _ rfl (.tmp 78) _ 29 rfl 4 _ 1 Try.underlying29 infoB rfl (by omega) w.heap.size a3 c3 p.out _ rfl rfl ho3w true _ _ rfl rfl (by omega) (by omega) hs2 ?_; intro a3' c3' w3 ho33 hf3 hk3)
            go_roundw
            case rel =>
              have hq : q = p.es.filter (keepE l[k].2.1 l[k].2.2) := by rw [Hq.out, List.take_of_length_le (by omega)]
              refine ⟨k + 1, ⟨p.ns, q, p.out ++ [true]⟩, a1, aq, a3', c1, cq, c3', by omega, by go_num, rfl, rfl, by simp, Lib.hid (by rw [HSN.out, hq]; simp [stepS, E2.out]),
                ho1w.fr hf3 (fun k hk => ho1w.sep ho3w (by decide) k hk), hoqw.fr hf3 (fun k hk => hoqw.sep ho3w (by decide) k hk), ho33, ?_⟩
              exact hbw.fr hf3 (Nat.le_refl _) (fun j hj => (ho3.lt j hj).1)
            case measure => simp [intOf]; omega
      have d2 : (l[k].1 == 2) = false := by simpa using e2
      have E2 := Lib.hid e2; clear e2
      have hsl := ho2'.sl encE_len
      go_wp2_with (first
        | (go_at_call 23
           refine (edged_calls _ _ _ rfl hsl).mono ?_
           rintro e w2 ⟨rfl, hb2⟩
           have hs2 : w.heap.size ≤ w2.heap.size := by have := hb2.size; simp at this; omega
           have ho32 := ho3'.top hb2)
        | (at_builtin
           refine wpList_append_new encB 1 encB_len encB_one _ _ rfl (.tmp 78) _ 29 rfl 4 _ 1 Try.underlying29 infoB rfl (by omega) w.heap.size a3 c3 p.out _ rfl rfl ho32 (decide ((l[k].2.1, l[k].2.2) ∈ p.es)) _ _ rfl rfl (by omega) (by omega) hs2 ?_
           intro a3' c3' w3 ho33 hf3 hk3))
      go_roundw
      case rel =>
        have ho12 := ho1'.top hb2
        have ho22 := ho2'.top hb2
        refine ⟨k + 1, ⟨p.ns, p.es, p.out ++ [decide ((l[k].2.1, l[k].2.2) ∈ p.es)]⟩, a1, a2, a3', c1, c2, c3', by omega, by go_num, rfl, rfl, by simp, Lib.hid (by rw [HSN.out]; simp [stepS, E0.out, E1.out, E2.out]),
          ho12.fr hf3 (fun k hk => ho12.sep ho32 (by decide) k hk), ho22.fr hf3 (fun k hk => ho22.sep ho32 (by decide) k hk), ho33, ?_⟩
        exact (hb1.top hb2 (Nat.le_refl _)).fr hf3 (Nat.le_refl _) (fun j hj => (ho3.lt j hj).1)
      case measure => simp [intOf]; omega
    · go_wp2
      go_ret
      have hk' : l.take k = l := List.take_of_length_le (by omega)
      have hR := HR.out
      rw [hk'] at hR
      subst hR
      exact ⟨_, _, _, rfl, (runS_len l).2.2, ho3, hb⟩
end Go.Proofs.Ythajiimohbjjhaa
