/- laws.FnMore: the walk of the law. -/
import Derived.Test.YthpfladpbfbpjaaDoorTxtB
namespace Go.Proofs.YthpfladpbfbpjaaDoor
open Go.RowKit

section
variable {P : Program}
/-- 'append(x, ys...)' at an operation that stands under a guard that holds -/
theorem wpList_append_listG {α : Type} (enc : α → List Value) (size : Nat) (hlen : ∀ x, (enc x).length = size) (hone : ∀ x u, u ∈ enc x → u.oneCell' = true)
    (w : World) {ops : Array Oper} {rest : List Oper} {o : Oper} {a : Act} {Q : Exit → Act → World → Prop} (hw : Region.wanted o (yielded ops a.tmps) = true) (s x : Operand) (t : TypeId)
    (ho : o.op = .call { callee := .builtin .append, args := #[s, x], argTypes := #[t, t] })
    (e : TypeId) (z : Value) (bytes : Nat) (ht : P.underlying t = some (.slice e)) (hinfo : (P.info? e).map (fun i => (i.zero, i.size, i.bytes)) = some (some z, size, bytes)) (hzs : z.cells.size = size) (hsz : 0 < size)
    (B : Nat) (sa : Option Addr) (cap : Nat) (l : List α) (n : Nat) (hn : n = l.length) (hs : a.eval s = .slice sa n cap) (hown : Own enc size w B e sa cap l) (xa : Option Addr) (xc : Nat) (ys : List α) (m : Nat) (hm : m = ys.length) (hx : a.eval x = .slice xa m xc) (hsl : Sl enc size w xa xc ys)
    (h63 : l.length + ys.length ≤ 4611686018427387904) (hbytes : (l.length + ys.length) * bytes ≤ 140737488355328) (hbase : B ≤ w.heap.size)
    (h : ∀ sa' cap' w', Own enc size w' B e sa' cap' (l ++ ys) → Fr (fun k => blk sa = some k) w w' → (∀ k, blk sa' = some k → blk sa = some k ∨ w.heap.size ≤ k) → wpList P ops Q rest (a.put o.dst (.slice sa' (n + m) cap')) w') :
    wpList P ops Q (o :: rest) a w := by
  subst hn
  subst hm
  refine wpList_step fun K hK => ?_
  rw [if_pos hw]
  obtain ⟨sa', cap', w', hr, h1, h2, h3⟩ := run_append_list (P := P) enc size hlen hone w t o.type e z bytes ht hinfo hzs hsz B sa cap l hown xa xc ys hsl h63 hbytes hbase
  unfold Oper.wp execOp
  simp only [ho, resolve, invoke, builtin, Sem.run_bind, Sem.run_pure, Result.andThen_ok, List.map_toArray, List.map_cons, List.map_nil, hs, hx, hr]
  exact hK _ _ (h sa' cap' w' h1 h2 h3)
end
theorem Sl.one (w : World) (d : Str) (T : TypeId) : Sl encS 1 (w.alloc (.cells #[.string d] T (0, 0))) (some ⟨w.heap.size, 0, none⟩) 1 [d] := by
  have := (Own.lit encS 1 encS_len w T [d] 0 (Nat.zero_le _) (by simp [maxI])).sl encS_len
  simpa [encS] using this

set_option maxRecDepth 100000 in
set_option maxHeartbeats 4000000 in
theorem fnMore_calls (s l d : Str) (w : World) (htab : TabW w) : Calls Tryd.prog 10 #[.string s, .string l, .string d] w fun e w' => e = .returned (.bool true) ∧ Below w.heap.size w w' := by
  by_cases hsm : s.size ≤ 2147483647
  · by_cases hsl : l.size ≤ 2147483647
    · by_cases hsd : d.size ≤ 2147483647
      · have hsp := parseS_calls s w hsm
        have HT : Hid (∀ w', Below w.heap.size w w' → TabW w') := Lib.hid (fun w' hb => Lib.tabBelow_of_tabIs htab w' hb)
        clear htab
        rcases hps : parseS s with _ | _ | ⟨ns, es⟩
        · rw [hps] at hsp
          have HS := Lib.hid hsp; clear hsp
          clear hps HT
          go_enter Tryd.func10, Tryd.ntmps10
          go_wp2_with (go_at_call 22; refine HS.out.mono ?_; rintro e w1 ⟨a, n, c, ea, en, ec, st, rfl, hb1, rfl⟩)
          go_ret
          exact ⟨rfl, hb1⟩
        · rw [hps] at hsp
          have HS := Lib.hid hsp; clear hsp
          clear hps HT
          go_enter Tryd.func10, Tryd.ntmps10
          go_wp2_with (go_at_call 22; refine HS.out.mono ?_; rintro e w1 ⟨a, n, c, ea, en, ec, st, rfl, hb1, rfl⟩)
          go_ret
          exact ⟨rfl, hb1⟩
        · rw [hps] at hsp
          obtain ⟨ts, R, hf⟩ := parseS_fine hps
          obtain ⟨G, hG, hP⟩ := hf.pack
          have hn20 := fine_len hf.gr
          have HNl : Hid (∀ w', Calls Tryd.prog 30 #[.string l] w' fun e w'' => e = .returned (.bool (nameB l)) ∧ w' = w'') := Lib.hid (fun w' => name_calls l w' hsl)
          have HNd : Hid (∀ w', Calls Tryd.prog 30 #[.string d] w' fun e w'' => e = .returned (.bool (nameB d)) ∧ w' = w'') := Lib.hid (fun w' => name_calls d w' hsd)
          have htn := tnone_fact d
          by_cases hl : l ∈ ns
          · have HL := Lib.hid hl
            by_cases hd : d ∈ ns
            · have HD := Lib.hid hd; clear hd
              have HS := Lib.hid hsp; clear hsp
              clear hps hf hG hP HT HNl HNd htn hl
              go_enter Tryd.func10, Tryd.ntmps10
              go_wp2_with (first
                | (go_at_call 22; refine HS.out.mono ?_; rintro e w1 ⟨a, n, c, ea, en, ec, st, rfl, hb1, rfl, rfl, hs1, rfl, hs2⟩)
                | (go_at_call_of 29 l; refine (has_yes l _ rfl hs1 HL.out).mono ?_; rintro e w' ⟨rfl, rfl⟩)
                | (go_at_call_of 29 d; refine (has_yes d _ rfl hs1 HD.out).mono ?_; rintro e w' ⟨rfl, rfl⟩))
              go_ret
              exact ⟨rfl, hb1⟩
            · have HD := Lib.hid hd
              rcases hbl : nameB l with _ | _
              · have HNL : Hid (∀ w', Calls Tryd.prog 30 #[.string l] w' fun e w'' => e = .returned (.bool false) ∧ w' = w'') := Lib.hid (fun w' => by rw [← hbl]; exact HNl.out w')
                have HS := Lib.hid hsp; clear hsp
                clear hps hf hG hP HT hbl HNl HNd htn hl hd
                go_enter Tryd.func10, Tryd.ntmps10
                go_wp2_with (first
                  | (go_at_call 22; refine HS.out.mono ?_; rintro e w1 ⟨a, n, c, ea, en, ec, st, rfl, hb1, rfl, rfl, hs1, rfl, hs2⟩)
                  | (go_at_call_of 29 l; refine (has_yes l _ rfl hs1 HL.out).mono ?_; rintro e w' ⟨rfl, rfl⟩)
                  | (go_at_call_of 29 d; refine (has_no d _ rfl hs1 HD.out).mono ?_; rintro e w' ⟨rfl, rfl⟩)
                  | (go_at_call_of 30 l; refine (HNL.out _).mono ?_; rintro e w' ⟨rfl, rfl⟩))
                go_ret
                exact ⟨rfl, hb1⟩
              · have hNl := nameB_iff.1 hbl
                have HNL : Hid (∀ w', Calls Tryd.prog 30 #[.string l] w' fun e w'' => e = .returned (.bool true) ∧ w' = w'') := Lib.hid (fun w' => by rw [← hbl]; exact HNl.out w')
                rcases hbd : nameB d with _ | _
                · have HND : Hid (∀ w', Calls Tryd.prog 30 #[.string d] w' fun e w'' => e = .returned (.bool false) ∧ w' = w'') := Lib.hid (fun w' => by rw [← hbd]; exact HNd.out w')
                  have HS := Lib.hid hsp; clear hsp
                  clear hps hf hG hP HT hbl hbd HNl HNd hNl htn hl hd
                  go_enter Tryd.func10, Tryd.ntmps10
                  go_wp2_with (first
                    | (go_at_call 22; refine HS.out.mono ?_; rintro e w1 ⟨a, n, c, ea, en, ec, st, rfl, hb1, rfl, rfl, hs1, rfl, hs2⟩)
                    | (go_at_call_of 29 l; refine (has_yes l _ rfl hs1 HL.out).mono ?_; rintro e w' ⟨rfl, rfl⟩)
                    | (go_at_call_of 29 d; refine (has_no d _ rfl hs1 HD.out).mono ?_; rintro e w' ⟨rfl, rfl⟩)
                    | (go_at_call_of 30 l; refine (HNL.out _).mono ?_; rintro e w' ⟨rfl, rfl⟩)
                    | (go_at_call_of 30 d; refine (HND.out _).mono ?_; rintro e w' ⟨rfl, rfl⟩))
                  go_ret
                  exact ⟨rfl, hb1⟩
                · have hNd := nameB_iff.1 hbd
                  have HND : Hid (∀ w', Calls Tryd.prog 30 #[.string d] w' fun e w'' => e = .returned (.bool true) ∧ w' = w'') := Lib.hid (fun w' => by rw [← hbd]; exact HNd.out w')
                  by_cases hdn : d = tNone
                  · rw [decide_eq_true hdn] at htn
                    have HS := Lib.hid hsp; clear hsp
                    clear hps hf hG hP HT hbl hbd HNl HNd hNl hNd hdn hl hd
                    go_enter Tryd.func10, Tryd.ntmps10
                    go_wp2_with (first
                      | (go_at_call 22; refine HS.out.mono ?_; rintro e w1 ⟨a, n, c, ea, en, ec, st, rfl, hb1, rfl, rfl, hs1, rfl, hs2⟩)
                      | (go_at_call_of 29 l; refine (has_yes l _ rfl hs1 HL.out).mono ?_; rintro e w' ⟨rfl, rfl⟩)
                      | (go_at_call_of 29 d; refine (has_no d _ rfl hs1 HD.out).mono ?_; rintro e w' ⟨rfl, rfl⟩)
                      | (go_at_call_of 30 l; refine (HNL.out _).mono ?_; rintro e w' ⟨rfl, rfl⟩)
                      | (go_at_call_of 30 d; refine (HND.out _).mono ?_; rintro e w' ⟨rfl, rfl⟩))
                    go_ret
                    exact ⟨rfl, hb1⟩
                  · rw [decide_eq_false hdn] at htn
                    by_cases h340 : s.size ≤ 340
                    · have hl24 := hNl.2.2
                      have hd24 := hNd.2.2
                      have z1 : (⟨#[32, 35, 32, 109, 111, 114, 101, 10]⟩ : Str).size = 8 := rfl
                      have z3 : (⟨#[60]⟩ : Str).size = 1 := rfl
                      have z5 : (⟨#[59]⟩ : Str).size = 1 := rfl
                      obtain ⟨t1, hb1', hz1, ha1⟩ := sadd2 s ⟨#[32, 35, 32, 109, 111, 114, 101, 10]⟩ (by omega)
                      obtain ⟨t2, hb2', hz2, ha2⟩ := sadd2 t1 l (by omega)
                      obtain ⟨t3, hb3', hz3, ha3⟩ := sadd2 t2 ⟨#[60]⟩ (by omega)
                      obtain ⟨t4, hb4', hz4, ha4⟩ := sadd2 t3 d (by omega)
                      obtain ⟨t5, hb5', hz5, ha5⟩ := sadd2 t4 ⟨#[59]⟩ (by omega)
                      obtain ⟨ts', hlx, hpk⟩ := more_text (tx := t5) hf hNl hNd (by rw [hb5', hb4', hb3', hb2', hb1']; simp [bs])
                      have hsz : t5.size ≤ 400 := by omega
                      have hlen' := lex_len hlx
                      obtain ⟨G2, hG2, hP2⟩ := more_P hf.gr hl hd hdn
                      rw [← hpk] at hP2
                      have hin := hG.inn
                      have HRU : Hid (∀ w', Calls Tryd.prog 32 #[.string s] w' (RetRu (some (some R)) w')) := Lib.hid (fun w' => by
                        have h := rules_calls s w' hsm
                        have e : rulesS s = some (some R) := by
                          unfold rulesS
                          rw [hf.lx]
                          simp only
                          rw [if_neg (by have := hf.sz; omega)]
                          exact hf.fin
                        rwa [e] at h)
                      have hRl : R.length ≤ 400 := (rulesS_small (s := s) (by
                          unfold rulesS
                          rw [hf.lx]
                          simp only
                          rw [if_neg (by have := hf.sz; omega)]
                          exact hf.fin)).1
                      have hmem : ∀ x y, (x, y) ∈ allG G2 ↔ clo ns es x y = true ∨ (x = d ∧ (y = l ∨ clo ns es l y = true)) := fun x y => by
                        rw [hG2.mem, mem_closedL hG2.inn]
                        exact clo_more hin hl hd x y
                      obtain ⟨ll, m, HI, HLL, HM⟩ : ∃ ll m, Hid (∀ w', Below w.heap.size w w' → Calls Tryd.prog 19 #[.string t5] w' (RetOK ll m w')) ∧ Hid (ll.length = ns.length + 1 ∧ ll.Nodup ∧ ∀ x, x ∈ ll ↔ x ∈ ns ++ [d]) ∧
                          Hid ((∀ x ∈ ns, ∀ y ∈ ns, ((x, y) ∈ m ↔ (x, y) ∈ closedL ns es)) ∧ (∀ x ∈ ns, (x, d) ∉ m) ∧ (∀ x ∈ ns, ((d, x) ∈ m ↔ x = l ∨ (l, x) ∈ closedL ns es)) ∧ m.length ≤ 2147483647) :=
                        ⟨_, _, Lib.hid (fun w' hb => parseI_ok t5 ts' w' (by omega) hlx (by omega) (HT.out w' hb) hP2), Lib.hid ⟨by rw [names_len, hG2.len]; simp, hG2.good.1, fun x => by rw [hG2.nm]⟩,
                          Lib.hid ⟨fun x hx y hy => by
                            rw [hmem, mem_closedL hin]
                            exact ⟨fun h => h.elim id (fun h => absurd (h.1 ▸ hx) hd), .inl⟩, fun x hx h => by
                            rcases (hmem x d).1 h with h | h
                            · exact hd (clo_ends hin h).2
                            · exact hd (h.1 ▸ hx), fun x hx => by
                            rw [hmem, mem_closedL hin]
                            exact ⟨fun h => h.elim (fun h => absurd (clo_ends hin h).1 hd) (fun h => h.2), fun h => .inr ⟨rfl, h⟩⟩, hG2.small (by rw [List.length_append]; simp; omega)⟩⟩
                      have HS := Lib.hid hsp; clear hsp
                      have hLl := HLL.out.1
                      have hml := HM.out.2.2.2
                      clear hps hf hG hP HT hbl hbd HNl HNd hNl hNd hlx hpk hin hG2 hP2 hmem hl hd hdn hb1' hz1 hb2' hz2 hb3' hz3 hb4' hz4 hb5' hz5
                      go_enter Tryd.func10, Tryd.ntmps10
                      go_wp2_with (first
                        | (go_at_call 22; refine HS.out.mono ?_; rintro e w1 ⟨a, n, c, ea, en, ec, st, rfl, hb1, rfl, rfl, hs1, rfl, hs2⟩)
                        | (go_at_call_of 29 l; refine (has_yes l _ rfl hs1 HL.out).mono ?_; rintro e w' ⟨rfl, rfl⟩)
                        | (go_at_call_of 29 d; refine (has_no d _ rfl hs1 HD.out).mono ?_; rintro e w' ⟨rfl, rfl⟩)
                        | (go_at_call_of 30 l; refine (HNL.out _).mono ?_; rintro e w' ⟨rfl, rfl⟩)
                        | (go_at_call_of 30 d; refine (HND.out _).mono ?_; rintro e w' ⟨rfl, rfl⟩)
                        | (go_at_call 32; refine (HRU.out _).mono ?_; rintro e w2 ⟨ra, rn, rc, rst, rfl, hb2, rfl, rfl, qs, hrs⟩))
                      have hbw2 := hb1.top hb2 (Nat.le_refl _)
                      have hs12 := hs1.top hb2
                      have hs22 := hs2.top hb2
                      have hdr0 := hrs.dr
                      have hqR : qs.length = R.length := hdr0.len
                      have hRc := hdr0.row.1
                      have hRm := hdr0.row.len
                      rw [hqR] at hRc hRm
                      have HQR := Lib.hid hqR; clear hqR
                      have HDR := Lib.hid hdr0; clear hdr0
                      clear hrs hs1 hs2 hb1 hb2
                      go_loopg [80] R.length (fun gk i wr => ∃ k : Nat, k ≤ R.length ∧ gk = R.length - k ∧ i = .int .i64 k ∧ Below w2.heap.size w2 wr)
                      case atStart => exact ⟨0, Nat.zero_le _, by omega, rfl, Below.refl _ _⟩
                      case round =>
                        obtain ⟨k, hk, rfl, rfl, hbk⟩ := hrel
                        by_cases hlt : k < R.length
                        · have hkq : k < qs.length := by rw [HQR.out]; exact hlt
                          have hdr := HDR.out.top hbk
                          obtain ⟨bb, off, rfl, hbl, hcell⟩ := hdr.row.2.2 (by omega)
                          have g0 := hcell k hkq 0 _ rfl
                          have g1 := hcell k hkq 1 _ rfl
                          have g2 := hcell k hkq 2 _ rfl
                          obtain ⟨q1, q2, q3, q4, q5⟩ := hdr.inner k hkq hlt
                          generalize R[k] = r at *
                          generalize qs[k] = q at *
                          obtain ⟨ls, br, ds⟩ := r
                          obtain ⟨⟨la, lln, lc⟩, qb, ⟨da2, dl, dc⟩⟩ := q
                          simp only [Nat.add_zero] at q1 q2 q3 q4 q5 g0 g1 g2
                          subst q1
                          subst q2
                          subst q3
                          clear hcell hdr hkq
                          obtain ⟨wo, rfl⟩ : ∃ wo : World, wo = wr := ⟨_, rfl⟩
                          have hbox := heap_alloc_new wo (.cells #[.slice la ls.length lc, .bool qb, .slice da2 ds.length dc] 52 (0, 0))
                          obtain ⟨bx, hbxe⟩ : ∃ bx : Nat, wo.heap.size = bx := ⟨_, rfl⟩
                          obtain ⟨Wb, hWb⟩ : ∃ Wb, wo.alloc (.cells #[.slice la ls.length lc, .bool qb, .slice da2 ds.length dc] 52 (0, 0)) = Wb := ⟨_, rfl⟩
                          rw [hWb, hbxe] at hbox
                          have hbWb : Below w2.heap.size w2 Wb := by rw [← hWb]; exact hbk.alloc hbk.size _
                          have b0 : Wb.cell? ⟨bx, 0, none⟩ = some (.slice la ls.length lc) := by rw [cell_of_row _ _ _ _ _ _ hbox]; rfl
                          have b1 : Wb.cell? ⟨bx, 1, none⟩ = some (.bool qb) := by rw [cell_of_row _ _ _ _ _ _ hbox]; rfl
                          have b2 : Wb.cell? ⟨bx, 2, none⟩ = some (.slice da2 ds.length dc) := by rw [cell_of_row _ _ _ _ _ _ hbox]; rfl
                          have s4 : Sl encS 1 Wb la lc ls := by rw [← hWb]; exact q4.alloc _
                          have s5 : Sl encS 1 Wb da2 dc ds := by rw [← hWb]; exact q5.alloc _
                          clear hbox q4 q5
                          cases qb
                          · go_wp2
                            go_roundg (R.length - (k + 1))
                            case measure => omega
                            case rel => exact ⟨k + 1, by omega, rfl, by go_num, hbWb⟩
                          · by_cases hd1 : d ∈ ds
                            · have HD1 := Lib.hid hd1; clear hd1
                              go_wp2_with (go_at_call 29; refine (has_yes d _ rfl s5 HD1.out).mono ?_; rintro e w' ⟨rfl, rfl⟩)
                              go_ret
                              exact ⟨rfl, hbw2.top hbWb (Nat.le_refl _)⟩
                            · have HD1 := Lib.hid hd1; clear hd1
                              by_cases hd2 : d ∈ ls
                              · have HD2 := Lib.hid hd2; clear hd2
                                go_wp2_with (first
                                  | (go_at_call 29; have tok2 := tok1; refine (has_yes d _ rfl s4 HD2.out).mono ?_; rintro e w' ⟨rfl, rfl⟩)
                                  | (go_at_call 29; refine (has_no d _ rfl s5 HD1.out).mono ?_; rintro e w' ⟨rfl, rfl⟩; have tok1 := Lib.hid trivial))
                                go_ret
                                exact ⟨rfl, hbw2.top hbWb (Nat.le_refl _)⟩
                              · have HD2 := Lib.hid hd2; clear hd2
                                go_wp2_with (first
                                  | (go_at_call 29; have tok2 := tok1; refine (has_no d _ rfl s4 HD2.out).mono ?_; rintro e w' ⟨rfl, rfl⟩)
                                  | (go_at_call 29; refine (has_no d _ rfl s5 HD1.out).mono ?_; rintro e w' ⟨rfl, rfl⟩; have tok1 := Lib.hid trivial))
                                go_roundg (R.length - (k + 1))
                                case measure => omega
                                case rel => exact ⟨k + 1, by omega, rfl, by go_num, hbWb⟩
                        · have hbwr := hbw2.top hbk (Nat.le_refl _)
                          have hs1r := hs12.top hbk
                          have hs2r := hs22.top hbk
                          clear hbk hs12 hs22 hbw2
                          clear HRU HQR HDR
                          go_wp2_with (first
                            | (go_at_call 19; refine (HI.out _ hbwr).mono ?_; rintro e w3 ⟨a2, c2, b2, d2, rfl, hb3, hs3, hs4⟩; have hs1' := hs1r.top hb3; have hs2' := hs2r.top hb3)
                            | (at_builtin
                               have tokB := tokA
                               go_loud (refine wpList_append_listG encS 1 encS_len encS_one _ (by simp [Region.wanted, yielded]) _ _ 28 rfl 9 _ 16 Tryd.underlying28 infoS rfl (by omega) w3.heap.size _ _ _ _ (by simp) rfl (hown5.alloc _) (some ⟨w5.heap.size, 0, none⟩) 1 [d] _ rfl rfl (Sl.one w5 d _) (by simp; omega) (by simp; omega) (by have := hb5.size; simp; omega) ?_)
                               intro a6 c6 w6 hown6 hf6 hk6
                               have hb6 : Below w3.heap.size w3 w6 := (hb5.alloc hb5.size _).fr hf6 (Nat.le_refl _) (fun j hj => (hown5.lt j hj).1))
                            | (at_builtin
                               refine wpList_append_listG encS 1 encS_len encS_one _ (by simp [Region.wanted, yielded]) _ _ 28 rfl 9 _ 16 Tryd.underlying28 infoS rfl (by omega) w3.heap.size _ _ [] _ rfl rfl (Own.made encS 1 w3 _ _ (Nat.le_refl _)) a c ns _ rfl rfl (hs1'.alloc _) (by simp; omega) (by simp; omega) (by simp) ?_
                               intro a5 c5 w5 hown5 hf5 hk5
                               have hb5 : Below w3.heap.size w3 w5 := ((Below.refl _ w3).alloc (Nat.le_refl _) _).fr hf5 (Nat.le_refl _) (fun j hj => by simp [blk] at hj; omega)
                               have tokA := Lib.hid trivial)
                            | (go_at_call 33; refine (sameNodes_calls (l := ll) (r := ns ++ [d]) _ hLl.symm (by simp) (hs3.top hb6) (by simpa using hown6.sl encS_len) HLL.out.2.1 HLL.out.2.2).mono ?_; rintro e w7 ⟨rfl, rfl⟩))
                          have hb37 := hb6
                          go_wp2_with (go_at_call 27; refine (conv_calls _ rfl (hs4.top hb37) hml).mono ?_; rintro e w4 ⟨ca, cn, cc, rfl, rfl, hco, hb4⟩; have hco4 := hco.sl encE_len)
                          have hbr4 := (hb3.top hb37 (Nat.le_refl _)).top hb4 (Nat.le_refl _)
                          have hbw4 := hbwr.top hbr4 (Nat.le_refl _)
                          have hs14 := hs1r.top hbr4
                          have hs24 := hs2r.top hbr4
                          clear hs1' hs2' hs3 hs4 hb3 hb37 hb5 hb6 hown5 hown6 hf5 hf6 hk5 hk6 tokA tokB hco hb4 hbwr hbr4 hs1r hs2r HI HLL
                          have hns := hs14.1
                          have hnm := hs14.len
                          go_loopg [137] ns.length (fun gk i wr => ∃ k : Nat, k ≤ ns.length ∧ gk = ns.length - k ∧ i = .int .i64 k ∧ Below w4.heap.size w4 wr)
                          case atStart => exact ⟨0, Nat.zero_le _, by omega, rfl, Below.refl _ _⟩
                          case round =>
                            obtain ⟨k, hk, rfl, rfl, hbk⟩ := hrel
                            by_cases hkl : k < ns.length
                            · obtain ⟨bb, off, rfl, c1⟩ := (hs14.top hbk).s1 hkl
                              have hxm : Hid (ns[k] ∈ ns) := Lib.hid (List.getElem_mem hkl)
                              generalize ns[k] = x at *
                              have hns' := hs14.1
                              go_wp2
                              go_loopg [143] ns.length (fun gk i wq => ∃ j : Nat, j ≤ ns.length ∧ gk = ns.length - j ∧ i = .int .i64 j ∧ Below w4.heap.size w4 wq)
                              case atStart => exact ⟨0, Nat.zero_le _, by omega, rfl, hbk⟩
                              case round =>
                                clear c1
                                obtain ⟨j, hj, rfl, rfl, hbj⟩ := hrel
                                have hcaj := hco4.top hbj
                                have heaj := hs24.top hbj
                                by_cases hjl : j < ns.length
                                · obtain ⟨bb', off', hbe, c2⟩ := (hs14.top hbj).s1 hjl
                                  simp only [Option.some.injEq, Addr.mk.injEq] at hbe
                                  obtain ⟨rfl, rfl, _⟩ := hbe
                                  have hym : Hid (ns[j] ∈ ns) := Lib.hid (List.getElem_mem hjl)
                                  have hxy := HM.out.1 x hxm.out _ hym.out
                                  generalize ns[j] = y at *
                                  by_cases hy : (x, y) ∈ closedL ns es
                                  · have e2 : decide ((x, y) ∈ closedL ns es) = true := by simpa using hy
                                    have e1 : decide ((x, y) ∈ m) = true := by simpa using hxy.2 hy
                                    clear hxy hy
                                    go_wp2_with (first
                                      | (go_at_call_of 31 ca; refine (edged_calls _ _ _ rfl hcaj).mono ?_; rintro e w5 ⟨rfl, hb5⟩; have heaj5 := heaj.top hb5)
                                      | (go_at_call_of 31 ea; refine (edged_calls _ _ _ rfl heaj5).mono ?_; rintro e w6 ⟨rfl, hb6⟩))
                                    go_roundg (ns.length - (j + 1))
                                    case measure => omega
                                    case rel => exact ⟨j + 1, by omega, rfl, by go_num, (hbj.top hb5 (Nat.le_refl _)).top hb6 (Nat.le_refl _)⟩
                                  · have e2 : decide ((x, y) ∈ closedL ns es) = false := by simpa using hy
                                    have e1 : decide ((x, y) ∈ m) = false := by simpa using fun h => hy (hxy.1 h)
                                    clear hxy hy
                                    go_wp2_with (first
                                      | (go_at_call_of 31 ca; refine (edged_calls _ _ _ rfl hcaj).mono ?_; rintro e w5 ⟨rfl, hb5⟩; have heaj5 := heaj.top hb5)
                                      | (go_at_call_of 31 ea; refine (edged_calls _ _ _ rfl heaj5).mono ?_; rintro e w6 ⟨rfl, hb6⟩))
                                    go_roundg (ns.length - (j + 1))
                                    case measure => omega
                                    case rel => exact ⟨j + 1, by omega, rfl, by go_num, (hbj.top hb5 (Nat.le_refl _)).top hb6 (Nat.le_refl _)⟩
                                · have e1 : decide ((x, d) ∈ m) = false := by simpa using HM.out.2.1 x hxm.out
                                  have hdx := HM.out.2.2.1 x hxm.out
                                  have txl := tl_beq x l
                                  by_cases hxl : x = l
                                  · rw [decide_eq_true hxl] at txl
                                    have e2 : decide ((d, x) ∈ m) = true := by simpa using hdx.2 (.inl hxl)
                                    clear hdx hxl
                                    go_wp2_with (first
                                      | (go_at_call 31; have tokD := tokC; refine (edged_calls _ _ _ rfl hcaj5).mono ?_; rintro e w6 ⟨rfl, hb6⟩)
                                      | (go_at_call 31; refine (edged_calls _ _ _ rfl hcaj).mono ?_; rintro e w5 ⟨rfl, hb5⟩; have tokC := Lib.hid trivial; have hcaj5 := hcaj.top hb5))
                                    go_roundg (ns.length - (k + 1))
                                    case measure => omega
                                    case rel => exact ⟨k + 1, by omega, rfl, by go_num, (hbj.top hb5 (Nat.le_refl _)).top hb6 (Nat.le_refl _)⟩
                                  · rw [decide_eq_false hxl] at txl
                                    by_cases hlx : (l, x) ∈ closedL ns es
                                    · have e2 : decide ((d, x) ∈ m) = true := by simpa using hdx.2 (.inr hlx)
                                      have e3 : decide ((l, x) ∈ closedL ns es) = true := by simpa using hlx
                                      clear hdx hxl hlx
                                      go_wp2_with (first
                                        | (go_at_call_of 31 ea; refine (edged_calls _ _ _ rfl heaj6).mono ?_; rintro e w7 ⟨rfl, hb7⟩)
                                        | (go_at_call 31; have tokD := tokC; refine (edged_calls _ _ _ rfl hcaj5).mono ?_; rintro e w6 ⟨rfl, hb6⟩; have heaj6 := heaj5.top hb6)
                                        | (go_at_call 31; refine (edged_calls _ _ _ rfl hcaj).mono ?_; rintro e w5 ⟨rfl, hb5⟩; have tokC := Lib.hid trivial; have hcaj5 := hcaj.top hb5; have heaj5 := heaj.top hb5))
                                      go_roundg (ns.length - (k + 1))
                                      case measure => omega
                                      case rel => exact ⟨k + 1, by omega, rfl, by go_num, ((hbj.top hb5 (Nat.le_refl _)).top hb6 (Nat.le_refl _)).top hb7 (Nat.le_refl _)⟩
                                    · have e2 : decide ((d, x) ∈ m) = false := by simpa using fun h => (hdx.1 h).elim hxl hlx
                                      have e3 : decide ((l, x) ∈ closedL ns es) = false := by simpa using hlx
                                      clear hdx hxl hlx
                                      go_wp2_with (first
                                        | (go_at_call_of 31 ea; refine (edged_calls _ _ _ rfl heaj6).mono ?_; rintro e w7 ⟨rfl, hb7⟩)
                                        | (go_at_call 31; have tokD := tokC; refine (edged_calls _ _ _ rfl hcaj5).mono ?_; rintro e w6 ⟨rfl, hb6⟩; have heaj6 := heaj5.top hb6)
                                        | (go_at_call 31; refine (edged_calls _ _ _ rfl hcaj).mono ?_; rintro e w5 ⟨rfl, hb5⟩; have tokC := Lib.hid trivial; have hcaj5 := hcaj.top hb5; have heaj5 := heaj.top hb5))
                                      go_roundg (ns.length - (k + 1))
                                      case measure => omega
                                      case rel => exact ⟨k + 1, by omega, rfl, by go_num, ((hbj.top hb5 (Nat.le_refl _)).top hb6 (Nat.le_refl _)).top hb7 (Nat.le_refl _)⟩
                            · go_wp2
                              go_ret
                              exact ⟨rfl, hbw4.top hbk (Nat.le_refl _)⟩
                    · have HS := Lib.hid hsp; clear hsp
                      clear hps hf hG hP HT hbl hbd HNl HNd hNl hNd hdn hl hd
                      go_enter Tryd.func10, Tryd.ntmps10
                      go_wp2_with (first
                        | (go_at_call 22; refine HS.out.mono ?_; rintro e w1 ⟨a, n, c, ea, en, ec, st, rfl, hb1, rfl, rfl, hs1, rfl, hs2⟩)
                        | (go_at_call_of 29 l; refine (has_yes l _ rfl hs1 HL.out).mono ?_; rintro e w' ⟨rfl, rfl⟩)
                        | (go_at_call_of 29 d; refine (has_no d _ rfl hs1 HD.out).mono ?_; rintro e w' ⟨rfl, rfl⟩)
                        | (go_at_call_of 30 l; refine (HNL.out _).mono ?_; rintro e w' ⟨rfl, rfl⟩)
                        | (go_at_call_of 30 d; refine (HND.out _).mono ?_; rintro e w' ⟨rfl, rfl⟩))
                      go_ret
                      exact ⟨rfl, hb1⟩
          · have HL := Lib.hid hl; clear hl
            have HS := Lib.hid hsp; clear hsp
            clear hps hf hG hP HT HNl HNd htn
            go_enter Tryd.func10, Tryd.ntmps10
            go_wp2_with (first
              | (go_at_call 22; refine HS.out.mono ?_; rintro e w1 ⟨a, n, c, ea, en, ec, st, rfl, hb1, rfl, rfl, hs1, rfl, hs2⟩)
              | (go_at_call_of 29 l; refine (has_no l _ rfl hs1 HL.out).mono ?_; rintro e w' ⟨rfl, rfl⟩))
            go_ret
            exact ⟨rfl, hb1⟩
      · go_enter Tryd.func10, Tryd.ntmps10
        go_wp2
        go_ret
        exact ⟨rfl, Below.refl _ _⟩
    · go_enter Tryd.func10, Tryd.ntmps10
      go_wp2
      go_ret
      exact ⟨rfl, Below.refl _ _⟩
  · go_enter Tryd.func10, Tryd.ntmps10
    go_wp2
    go_ret
    exact ⟨rfl, Below.refl _ _⟩
end Go.Proofs.YthpfladpbfbpjaaDoor
