/- laws.FnTopoSame: the walk of the law. -/
import Derived.Test.YthajiimohbjjhaaTopoI
import Derived.Test.YthajiimohbjjhaaAppl
namespace Go.Proofs.Ythajiimohbjjhaa
open Go.RowKit

theorem fnTopoSame_calls {a b : Option Addr} {cap capb n m : Nat} {ns : List Str} {es : List Ed} (z : Int) (w : World) (hn : n = ns.length) (hm : m = es.length) (h : Sl encS 1 w a cap ns) (h' : Sl encE 2 w b capb es) :
    Calls Try.prog 7 #[.slice a n cap, .slice b m capb, .int .i64 z] w fun e w' => e = .returned (.bool true) ∧ Below w.heap.size w w' := by
  subst hn
  subst hm
  have hfit3 := fits3_calls w rfl h
  go_enter Try.func7, Try.ntmps7
  go_wp2_with (first
    | (go_at_call 26
       refine (topoI_calls _ rfl rfl hn4 he4 hgd.out.1 (by have := hgd.out.2.2.2.1; omega) hgd.out.2.2.1 hno.out).mono ?_
       rintro e w5 ⟨a5, n5, c5, rfl, rfl, hsl5, hb5⟩
       have hb15 := hb14.top hb5 (Nat.le_refl _)
       have hn5 := hn4.top hb5
       have he5 := he4.top hb5
       have hok := Lib.hid (orderL_ok hgd.out.1 hgd.out.2.2.1 hno.out))
    | (go_at_call 24
       refine (circle_calls _ rfl rfl hn3 hcs3 hgd.out.1 (by have := hgd.out.2.2.2.1; omega) hgd.out.2.2.1).mono ?_
       rintro e w4 ⟨_ | _, rfl, hci, hb4⟩
       have hno : Hid (∀ s, clo ns es s s = false) := Lib.hid (hci rfl)
       clear hci
       have hb14 := hb13.top hb4 (Nat.le_refl _)
       have hn4 := hn3.top hb4
       have he4 := he3.top hb4)
    | (go_at_call 20
       refine (good_calls _ rfl rfl ((h.top hb1).top hb2) hcs).mono ?_
       rintro e w3 ⟨_ | _, rfl, hgood, hb3⟩
       rotate_left
       have hgd : Hid (Good ns es) := Lib.hid (by simpa using hgood)
       clear hgood
       have hb13 := hb12.top hb3 (Nat.le_refl _)
       have hcs3 := hcs.top hb3
       have hn3 := h.top hb13
       have he3 := h'.top hb13
       clear hcs hco hb2 hb12)
    | (go_at_call 19
       refine (conv_calls _ rfl (h'.top hb1) (hfit2 (by trivial))).mono ?_
       rintro e w2 ⟨ca, cn, cc, rfl, rfl, hco, hb2⟩
       have hcs := hco.sl encE_len
       have hb12 := hb1.top hb2 (Nat.le_refl _))
    | (go_at_call 18
       refine (fits4_calls _ rfl h').mono ?_
       rintro e w1 ⟨_ | _, rfl, hfit2, hb1⟩)
    | (go_at_call 17; refine hfit3.mono ?_; rintro e w1 ⟨_ | _, rfl, hfit, rfl⟩))
  all_goals try
    go_ret
    first
    | exact ⟨rfl, Below.refl _ _⟩
    | exact ⟨rfl, hb1⟩
    | exact ⟨rfl, hb12.top hb3 (Nat.le_refl _)⟩
    | exact ⟨rfl, hb13.top hb4 (Nat.le_refl _)⟩
  obtain ⟨f, rfl⟩ : ∃ f : Nat, z = (f : Int) := ⟨z.toNat, by omega⟩
  have hf : f ≤ es.length := by omega
  have hes64 : es.length ≤ 64 := hgd.out.2.2.2.2
  have hdr := he5.drop f hf
  have htk := he5.take f
  have hcap := he5.1
  have htl : (es.take f).length = f := by simp; omega
  have hdl : (es.drop f).length = es.length - f := by simp
  clear hb1 hfit3 hfit hfit2 hcs3 hn3 he3 hn4 he4
  generalize hT : es.take f = T at *
  generalize hD : es.drop f = D at *
  have HT := Lib.hid hT; clear hT
  have HD := Lib.hid hD; clear hD
  have hs15 := hb15.size
  rw [hok.out.len]
  have hf0 : (0 : Int) ≤ (f : Int) := by omega
  have hf1 : (f : Int) ≤ (capb : Int) := by omega
  have hf2 : (f : Int) ≤ (es.length : Int) := by omega
  have hmade := (Own.made encE 2 w5 59 w5.heap.size (Nat.le_refl _)).drew
  have htA := (htk.alloc (.cells #[] 59)).drew
  have hfar : ∀ {a0 : Option Addr} {cap0 : Nat} {l : List Ed}, Sl encE 2 w5 a0 cap0 l → (∀ (w1 : World), Fr (fun k => blk (some (⟨w5.heap.size, 0, none⟩ : Addr)) = some k) (w5.alloc (.cells #[] 59)).drew w1 → Sl encE 2 w1 a0 cap0 l) := fun {a0 cap0 l} h0 w1 hf =>
    ⟨h0.1, h0.2.1, fun hp => by
      obtain ⟨b, off, e, hb, hc⟩ := h0.2.2 hp
      have h1 : Fr (fun k => k = w5.heap.size) w5 w1 := ((Fr.alloc (fun k => k = w5.heap.size) w5 (.cells #[] 59)).trans (Fr.drew (fun k => k = w5.heap.size) _) (fun _ _ e => e)).trans hf (fun b _ e => by simp [blk] at e; omega)
      exact ⟨b, off, e, Nat.lt_of_lt_of_le hb h1.size, fun k hk j u hu => (World.cell?_of_block (h1.block b hb (fun hh => by omega))).trans (hc k hk j u hu)⟩⟩
  have htF := hfar htk
  have hTl : T.length ≤ 64 := by omega
  have hDl : D.length ≤ 64 := by omega
  have hln2 : Hid (es.length - f + f = (D ++ T).length) := Lib.hid (by rw [List.length_append, htl, hdl])
  have hmemQ : ∀ e, e ∈ es ↔ e ∈ D ++ T := fun e => by
    rw [List.mem_append, ← HT.out, ← HD.out]
    constructor
    · intro he
      rw [← List.take_append_drop f es] at he
      exact (List.mem_append.1 he).symm
    · rintro (he | he)
      · exact List.mem_of_mem_drop he
      · exact List.mem_of_mem_take he
  have hinQ : Hid (∀ e ∈ D ++ T, e.1 ∈ ns ∧ e.2 ∈ ns) := Lib.hid (fun e he => hgd.out.2.2.1 e ((hmemQ e).2 he))
  have hnoQ : Hid (∀ s, clo ns (D ++ T) s s = false) := Lib.hid (fun s => by
    cases hc : clo ns (D ++ T) s s with
    | false => rfl
    | true =>
      have := clo_congr (ns' := ns) (es' := es) hgd.out.2.2.1 (fun e he => (hmemQ e).2 he) hc
      rw [hno.out] at this
      cases this)
  have hsame : Hid (orderL ns (D ++ T) = orderL ns es) := Lib.hid (orderL_same hinQ.out hgd.out.2.2.1 (fun e => (hmemQ e).symm))
  clear hmemQ
  have HMADE := Lib.hid hmade; clear hmade
  have HTA := Lib.hid htA; clear htA
  have HTF := Lib.hid htF; clear htF
  clear hfar
  have hdA := Lib.hid ((hdr.alloc (.cells #[] 59)).drew)
  rcases b with _ | p
  all_goals
    first
    | rw [show dropA none capb f 2 = none from by unfold dropA; split <;> rfl] at hdA
    | rw [show dropA (some p) capb f 2 = (if capb = f then some p else some (p.add (f * 2))) from rfl] at hdA
    go_region_law (first
        | ((refine step_append_list encE 2 encE_len encE_one _ rfl _ _ 33 rfl 59 _ 32 Try.underlying33 infoI rfl (by omega) w5.heap.size _ _ D (es.length - f) hdl.symm rfl ho1 _ _ T f htl.symm rfl (HTF.out w6 hf6) (by omega) (by omega) (by have := hf6.size; simp at this; omega) ?_
            intro a2 cap2 w7 ho2 hf7 hk7
            have hln : es.length - f + f = (D ++ T).length := hln2.out
            rw [hln]
            clear hln hln2
            generalize D ++ T = Q at *))
        | ((refine step_append_list encE 2 encE_len encE_one _ rfl _ _ 33 rfl 59 _ 32 Try.underlying33 infoI rfl (by omega) w5.heap.size _ _ [] 0 rfl rfl HMADE.out _ _ D (es.length - f) hdl.symm rfl hdA.out (by simp; omega) (by simp; omega) (by simp) ?_
            intro a1 cap1 w6 ho1 hf6 hk6
            rw [List.nil_append] at ho1))
        | ((go_simp; go_at_call 26
            have hB7 : Below w5.heap.size w5 w7 := by
              have h1 : Below w5.heap.size w5 w6 := (((Below.refl _ _).alloc (Nat.le_refl _) (.cells #[] 59)).fr (Fr.drew NoB _) (Nat.le_refl _) (fun _ e => e.elim)).fr hf6 (Nat.le_refl _) (fun b e => by simp [blk] at e; omega)
              refine h1.fr hf7 (Nat.le_refl _) (fun b e => ?_)
              rcases hk6 b e with h2 | h2
              · simp [blk] at h2; omega
              · simp at h2; omega
            refine (topoI_calls (es := Q) _ rfl rfl (hn5.top hB7) (ho2.sl encE_len) hgd.out.1 (by have := hgd.out.2.2.2.1; omega) hinQ.out hnoQ.out).mono ?_
            rintro e w8 ⟨a8, n8, c8, rfl, rfl, hsl8, hb8⟩)))
    try generalize (if capb = f then some p else some (p.add (f * 2))) = ad at *
    rw [hsame.out] at hsl8
    rw [hsame.out, hok.out.len]
    have hb58 : Below w5.heap.size w5 w8 := hB7.top hb8 (Nat.le_refl _)
    have hsl5' := hsl5.top hb58
    have hbw8 := hb15.top hb58 (Nat.le_refl _)
    have hlen := hok.out.len
    have hnl := hgd.out.2.2.2.1
    clear hsl5 hB7 hb8 hf6 hf7 hk6 hk7 ho1 ho2 hsame hok HMADE hnoQ hinQ hno hb15 hb14 hb13 hb58
    generalize orderL ns es = l at *
    have HLEN := Lib.hid hlen; clear hlen
    go_wp2
    go_loopg [68] ns.length (fun gk i wr => ∃ k : Nat, k ≤ ns.length ∧ gk = ns.length - k ∧ i = .int .i64 k ∧ ∃ q, wr = w8.drewN q)
    case atStart => exact ⟨0, Nat.zero_le _, by omega, rfl, 0, rfl⟩
    case round =>
      obtain ⟨k, hk, rfl, rfl, q, rfl⟩ := hrel
      by_cases hlt : k < ns.length
      · have hkl : k < l.length := by rw [HLEN.out]; exact hlt
        obtain ⟨bb, off, hbe, g1⟩ := (hsl5'.drewN q).s1 hkl
        obtain ⟨bb2, off2, hbe2, g2⟩ := (hsl8.drewN q).s1 hkl
        subst hbe
        subst hbe2
        have hk0 : (0 : Int) ≤ (k : Int) := by omega
        have hk1 : (k : Int) < (ns.length : Int) := by omega
        have hkn : ((k : Int)).toNat = k := by simp
        have e1 : w8.cell? ⟨bb, off + k, none⟩ = some (.string l[k]) := g1
        have e2 : w8.cell? ⟨bb2, off2 + k, none⟩ = some (.string l[k]) := g2
        clear g1 g2
        generalize l[k] = x at *
        go_wp2
        go_quiet (fail)
        go_wp2
        go_roundg (ns.length - (k + 1))
        case measure => omega
        case rel => exact ⟨k + 1, by omega, rfl, by go_num, _, rfl⟩
      · go_wp2
        go_ret
        exact ⟨rfl, hbw8.fr (Fr.drewN NoB _ _) (Nat.le_refl _) (fun _ e => e.elim)⟩
end Go.Proofs.Ythajiimohbjjhaa
