/- spec.list, spec.Write: the text of rules. -/
import Derived.Test.YthpfladpbfbpjaaDoorLL
import Derived.BigQuiet
import Derived.Deep.QuietTactic
namespace Go.Proofs.YthpfladpbfbpjaaDoor
open Go.RowKit
set_option linter.unusedSimpArgs false

theorem listB_snoc (L : List Str) (x : Str) : listB (L ++ [x]) = listB L ++ ((if L = [] then [] else [44, 32]) ++ bs x) := by
  unfold listB
  rw [List.map_append, List.map_singleton]
  by_cases h : L = []
  · subst h; simp [joinB]
  · rw [joinB_snoc _ _ _ (by simpa using h), if_neg h]
theorem mkS_app (a b : Bs) : mkS a ++ mkS b = mkS (a ++ b) := by
  rw [← mkS_bs (mkS a ++ mkS b), bs_append, bs_mkS, bs_mkS]
/-- a short list -/
def ShortL (L : List Str) : Prop := L.length ≤ 6 ∧ ∀ x ∈ L, x.size ≤ 24
theorem listB_len : ∀ (L : List Str), (∀ x ∈ L, x.size ≤ 24) → (listB L).length ≤ L.length * 26 := by
  refine snoc_ind (P := fun L => (∀ x ∈ L, x.size ≤ 24) → (listB L).length ≤ L.length * 26) (by simp [listB, joinB]) fun L x ih h => ?_
  have h1 := ih fun y hy => h y (by simp [hy])
  have h2 := h x (by simp)
  rw [listB_snoc, List.length_append, List.length_append, bs_len, List.length_append, List.length_singleton]
  split
  · simp; omega
  · simp; omega
theorem ShortL.len {L : List Str} (h : ShortL L) : (mkS (listB L)).size ≤ 156 := by
  rw [mkS_size]
  have := listB_len L h.2
  have := h.1
  omega

theorem list_calls {a : Option Addr} {cap n : Nat} {L : List Str} (w : World) (hn : n = L.length) (h : Sl encS 1 w a cap L) (hs : ShortL L) :
    Calls Tryd.prog 40 #[.slice a n cap] w fun e w' => e = .returned (.string (mkS (listB L))) ∧ w = w' := by
  subst hn
  have hl6 := hs.1
  have HS := Lib.hid hs.2
  clear hs
  go_enter Tryd.func40, Tryd.ntmps40
  go_wp2
  go_loopg [8, 3] L.length (fun gk i v wr => ∃ (k : Nat) (tx : Str), k ≤ L.length ∧ gk = L.length - k ∧ i = .int .i64 k ∧ v = .string tx ∧ Hid (bs tx = listB (L.take k)) ∧ tx.size ≤ k * 26 ∧ wr = w)
  case atStart => exact ⟨0, ⟨#[]⟩, Nat.zero_le _, by omega, rfl, rfl, Lib.hid rfl, by decide, rfl⟩
  case round =>
    obtain ⟨k, tx, hk, rfl, rfl, rfl, HT, htx, rfl⟩ := hrel
    by_cases hkl : k < L.length
    · obtain ⟨bb, off, rfl, c1⟩ := h.s1 hkl
      have ht := HS.out L[k] (List.getElem_mem hkl)
      have hst : listB (L.take (k + 1)) = bs tx ++ ((if L.take k = [] then [] else [44, 32]) ++ bs L[k]) := by rw [List.take_succ_eq_append_getElem hkl, listB_snoc, HT.out]
      clear h
      generalize L[k] = t at *
      have z0 : (⟨#[44, 32]⟩ : Str).size = 2 := rfl
      rcases Nat.lt_or_ge 0 k with h0 | h0
      rotate_left
      · have he : L.take k = [] := by rw [show k = 0 from by omega]; rfl
        rw [if_pos he] at hst
        have HST := Lib.hid hst
        clear hst he
        go_wp2
        go_roundg (L.length - (k + 1))
        case measure => omega
        case rel => exact ⟨k + 1, _, by omega, rfl, by go_num, rfl, Lib.hid (by rw [HST.out, bs_append]; simp), by simp only [ByteArray.size_append]; omega, rfl⟩
      · have hne : L.take k ≠ [] := by
          intro e
          have := congrArg List.length e
          rw [List.length_take, List.length_nil] at this
          omega
        rw [if_neg hne] at hst
        have HST := Lib.hid hst
        clear hst hne
        go_wp2
        go_roundg (L.length - (k + 1))
        case measure => omega
        case rel => exact ⟨k + 1, _, by omega, rfl, by go_num, rfl, Lib.hid (by rw [HST.out, bs_append, bs_append]; simp [bs]), by simp only [ByteArray.size_append, z0]; omega, rfl⟩
    · have HR : Hid (mkS (listB L) = tx) := Lib.hid (by
        have := HT.out
        rw [List.take_of_length_le (by omega)] at this
        rw [← this, mkS_bs])
      go_wp2
      go_ret
      exact ⟨by rw [HR.out]; rfl, rfl⟩

/-- rules that may be written -/
def ShortR (R : List Rl) : Prop := R.length ≤ 10 ∧ ∀ r ∈ R, ShortL r.1 ∧ ShortL r.2.2
theorem opB_len (b : Bool) : (opB b).length ≤ 4 := by cases b <;> simp [opB]

set_option maxRecDepth 100000 in
set_option maxHeartbeats 2000000 in
theorem write_calls {a : Option Addr} {cap n : Nat} {qs : List QV} {R : List Rl} (w : World) (hn : n = R.length) (h : DR w Value.bool a cap qs R) (hs : ShortR R) :
    Calls Tryd.prog 20 #[.slice a n cap] w fun e w' => (∃ tx : Str, e = .returned (.string tx) ∧ Hid (bs tx = R.flatMap ruleB) ∧ tx.size ≤ 3240) ∧ Below w.heap.size w w' := by
  subst hn
  have hR10 := hs.1
  have HS := Lib.hid hs.2
  clear hs
  have hqR : qs.length = R.length := h.len
  have hRc := h.row.1
  have hRm := h.row.len
  rw [hqR] at hRc hRm
  have HQR := Lib.hid hqR; clear hqR
  have HDR := Lib.hid h; clear h
  go_enter Tryd.func20, Tryd.ntmps20
  go_wp2
  go_loopg [9, 3] R.length (fun gk i v wr => ∃ (k : Nat) (tx : Str), k ≤ R.length ∧ gk = R.length - k ∧ i = .int .i64 k ∧ v = .string tx ∧ Hid (bs tx = (R.take k).flatMap ruleB) ∧ tx.size ≤ k * 324 ∧ Below w.heap.size w wr)
  case atStart => exact ⟨0, ⟨#[]⟩, Nat.zero_le _, by omega, rfl, rfl, Lib.hid rfl, by decide, Below.refl _ _⟩
  case round =>
    obtain ⟨k, tx, hk, rfl, rfl, rfl, HT, htx, hbk⟩ := hrel
    by_cases hlt : k < R.length
    · have hkq : k < qs.length := by rw [HQR.out]; exact hlt
      have hdr := HDR.out.top hbk
      obtain ⟨bb, off, rfl, hbl, hcell⟩ := hdr.row.2.2 (by omega)
      have g0 := hcell k hkq 0 _ rfl
      have g1 := hcell k hkq 1 _ rfl
      have g2 := hcell k hkq 2 _ rfl
      obtain ⟨q1, q2, q3, q4, q5⟩ := hdr.inner k hkq hlt
      have hsh := HS.out R[k] (List.getElem_mem hlt)
      have HST : Hid ((R.take (k + 1)).flatMap ruleB = bs tx ++ ruleB R[k]) := Lib.hid (by rw [List.take_succ_eq_append_getElem hlt, List.flatMap_append, HT.out]; simp)
      generalize R[k] = r at *
      generalize qs[k] = q at *
      obtain ⟨ls, br, ds⟩ := r
      obtain ⟨⟨la, lln, lc⟩, qb, ⟨da2, dl, dc⟩⟩ := q
      simp only [Nat.add_zero] at q1 q2 q3 q4 q5 g0 g1 g2
      subst q1
      subst q2
      subst q3
      clear hcell hdr hkq
      have z1 := hsh.1.len
      have z2 := hsh.2.len
      have HL1 := Lib.hid hsh.1
      have HL2 := Lib.hid hsh.2
      clear hsh
      obtain ⟨wo, rfl⟩ : ∃ wo : World, wo = wr := ⟨_, rfl⟩
      have hbox := heap_alloc_new wo (.cells #[.slice la ls.length lc, .bool qb, .slice da2 ds.length dc] 52 (0, 0))
      obtain ⟨bx, hbxe⟩ : ∃ bx : Nat, wo.heap.size = bx := ⟨_, rfl⟩
      obtain ⟨Wb, hWb⟩ : ∃ Wb, wo.alloc (.cells #[.slice la ls.length lc, .bool qb, .slice da2 ds.length dc] 52 (0, 0)) = Wb := ⟨_, rfl⟩
      rw [hWb, hbxe] at hbox
      have hbWb : Below w.heap.size w Wb := by rw [← hWb]; exact hbk.alloc hbk.size _
      have b0 : Wb.cell? ⟨bx, 0, none⟩ = some (.slice la ls.length lc) := by rw [cell_of_row _ _ _ _ _ _ hbox]; rfl
      have b1 : Wb.cell? ⟨bx, 1, none⟩ = some (.bool qb) := by rw [cell_of_row _ _ _ _ _ _ hbox]; rfl
      have b2 : Wb.cell? ⟨bx, 2, none⟩ = some (.slice da2 ds.length dc) := by rw [cell_of_row _ _ _ _ _ _ hbox]; rfl
      have s4 : Sl encS 1 Wb la lc ls := by rw [← hWb]; exact q4.alloc _
      have s5 : Sl encS 1 Wb da2 dc ds := by rw [← hWb]; exact q5.alloc _
      have zs : (⟨#[59, 10]⟩ : Str).size = 2 := rfl
      have zo1 : (⟨#[32, 60, 32]⟩ : Str).size = 3 := rfl
      have zo2 : (⟨#[32, 33, 60, 32]⟩ : Str).size = 4 := rfl
      clear hbox q4 q5
      have C1 : Hid (∀ nq, Calls Tryd.prog 40 #[.slice la ls.length lc] (Wb.drewN nq) fun e w' => e = .returned (.string (mkS (listB ls))) ∧ Wb.drewN nq = w') := Lib.hid (fun nq => list_calls _ rfl (s4.drewN nq) HL1.out)
      have C2 : Hid (∀ nq, Calls Tryd.prog 40 #[.slice da2 ds.length dc] (Wb.drewN nq) fun e w' => e = .returned (.string (mkS (listB ds))) ∧ Wb.drewN nq = w') := Lib.hid (fun nq => list_calls _ rfl (s5.drewN nq) HL2.out)
      obtain ⟨y1, hy1⟩ : ∃ y1, mkS (listB ls) = y1 := ⟨_, rfl⟩
      obtain ⟨y2, hy2⟩ : ∃ y2, mkS (listB ds) = y2 := ⟨_, rfl⟩
      rw [hy1] at z1 C1
      rw [hy2] at z2 C2
      cases qb
      · have HF : Hid (∀ u, bs u = bs tx ++ (bs y1 ++ ([32, 60, 32] ++ (bs y2 ++ [59, 10]))) → bs u = (R.take (k + 1)).flatMap ruleB) := Lib.hid (fun u hu => by rw [hu, HST.out, ← hy1, ← hy2, bs_mkS, bs_mkS]; rfl)
        clear hy1 hy2
        go_wp2
        go_quiet (first
          | (go_at_call_of 40 la; exact quiet_same (C1.out _))
          | (go_at_call_of 40 da2; exact quiet_same (C2.out _)))
        go_wp2
        go_roundg (R.length - (k + 1))
        case measure => omega
        case rel => exact ⟨k + 1, _, by omega, rfl, by go_num, rfl, Lib.hid (HF.out _ (by rw [bs_append, bs_append, bs_append, bs_append]; simp [bs])), by simp only [ByteArray.size_append, zs, zo1, zo2]; omega, hbWb.fr (Fr.drewN NoB _ _) (Nat.le_refl _) (fun _ e => e.elim)⟩
      · have HF : Hid (∀ u, bs u = bs tx ++ (bs y1 ++ ([32, 33, 60, 32] ++ (bs y2 ++ [59, 10]))) → bs u = (R.take (k + 1)).flatMap ruleB) := Lib.hid (fun u hu => by rw [hu, HST.out, ← hy1, ← hy2, bs_mkS, bs_mkS]; rfl)
        clear hy1 hy2
        go_wp2
        go_quiet (first
          | (go_at_call_of 40 la; exact quiet_same (C1.out _))
          | (go_at_call_of 40 da2; exact quiet_same (C2.out _)))
        go_wp2
        go_roundg (R.length - (k + 1))
        case measure => omega
        case rel => exact ⟨k + 1, _, by omega, rfl, by go_num, rfl, Lib.hid (HF.out _ (by rw [bs_append, bs_append, bs_append, bs_append]; simp [bs])), by simp only [ByteArray.size_append, zs, zo1, zo2]; omega, hbWb.fr (Fr.drewN NoB _ _) (Nat.le_refl _) (fun _ e => e.elim)⟩
    · have HE : Hid (bs tx = R.flatMap ruleB) := Lib.hid (by
        have := HT.out
        rwa [List.take_of_length_le (by omega)] at this)
      go_wp2
      go_ret
      exact ⟨⟨_, rfl, HE, by omega⟩, hbk⟩
end Go.Proofs.YthpfladpbfbpjaaDoor
