/- laws.FnParseReduced: the walk of the law. -/
import Derived.Test.YthpfladpbfbpjaaDoorPackC
import Derived.Test.YthpfladpbfbpjaaDoorPackA
namespace Go.Proofs.YthpfladpbfbpjaaDoor
open Go.RowKit

def RetEK (m : List Ed) (w : World) (e : Ending) (w' : World) : Prop := ∃ a c, e = .returned (.tuple #[.slice a m.length c, .bool true]) ∧ Below w.heap.size w w' ∧ Sl encE 2 w' a c m
theorem mem_covers' {ns : List Str} {es : List Ed} {x : Ed} : x ∈ covers ns es ↔ x ∈ es ∧ ¬ ∃ n ∈ ns, (x.1, n) ∈ es ∧ (n, x.2) ∈ es := by
  unfold covers
  rw [List.mem_filter, Bool.not_eq_true', decide_eq_false_iff_not]
  exact Iff.rfl
/-- what is left of the graph of a fine text -/
structure RedG (ns : List Str) (es : List Ed) (G : Gr) : Prop where
  cl : ∀ a b, hasE (reduceG (names G) G) a b = true → b ∈ names (reduceG (names G) G)
  len : (reduceG (names G) G).length ≤ 10000
  nd : (allG (reduceG (names G) G)).Nodup
  mem : ∀ e, e ∈ allG (reduceG (names G) G) ↔ e ∈ covers ns (closedL ns es)
theorem CloG.red {ns : List Str} {es : List Ed} {G : Gr} (h : CloG ns es G) (hn : ns.length ≤ 10000) : RedG ns es G := by
  have hcl : ∀ a b, hasE G a b = true → b ∈ ns := fun a b he => (h.ends he).2
  have hr := reduceG_law h.nm h.good hcl (fun a m b h1 h2 => by rw [h.ed] at *; exact clo_trans h.inn h1 h2) (.inl fun a b he => h.back' he)
  rw [← h.nm] at hr
  have hE : ∀ a b, hasE G a b = true ↔ (a, b) ∈ closedL ns es := fun a b => by rw [h.ed, mem_closedL h.inn]
  refine ⟨fun a b he => ?_, ?_, nodup_allG hr.1.1, fun x => ?_⟩
  · rw [hr.2.1, h.nm]
    exact hcl a b ((hr.2.2 a b).1 he).1
  · rw [← names_len, hr.2.1, h.nm]; exact hn
  · rw [mem_allG, hr.2.2, hE, hr.2.1, h.nm, mem_covers']
    constructor
    · rintro ⟨⟨h1, h2⟩, _⟩
      exact ⟨h1, fun ⟨n, _, h4, h5⟩ => h2 ⟨n, (hE _ _).2 h4, (hE _ _).2 h5⟩⟩
    · rintro ⟨h1, h2⟩
      exact ⟨⟨h1, fun ⟨n, h4, h5⟩ => h2 ⟨n, hcl _ _ h4, (hE _ _).1 h4, (hE _ _).1 h5⟩⟩, (closedL_in _ h1).2⟩
theorem covers_len (ns : List Str) (es : List Ed) : (covers ns es).length ≤ es.length := List.length_filter_le _ _

set_option maxRecDepth 100000 in
theorem fnParseReduced_calls (s : Str) (w : World) (htab : TabW w) : Calls Tryd.prog 5 #[.string s] w fun e w' => e = .returned (.bool true) ∧ Below w.heap.size w w' := by
  by_cases hsm : s.size ≤ 2147483647
  · have hsp := parseS_calls s w hsm
    have HT : Hid (∀ w', Below w.heap.size w w' → TabW w') := Lib.hid (fun w' hb => Lib.tabBelow_of_tabIs htab w' hb)
    clear htab
    rcases hps : parseS s with _ | _ | ⟨ns, es⟩
    · rw [hps] at hsp
      have HS := Lib.hid hsp; clear hsp
      clear hps HT
      go_enter Tryd.func5, Tryd.ntmps5
      go_wp2_with (go_at_call 22; refine HS.out.mono ?_; rintro e w1 ⟨a, n, c, ea, en, ec, st, rfl, hb1, rfl⟩)
      go_ret
      exact ⟨rfl, hb1⟩
    · rw [hps] at hsp
      have HS := Lib.hid hsp; clear hsp
      clear hps HT
      go_enter Tryd.func5, Tryd.ntmps5
      go_wp2_with (go_at_call 22; refine HS.out.mono ?_; rintro e w1 ⟨a, n, c, ea, en, ec, st, rfl, hb1, rfl⟩)
      go_ret
      exact ⟨rfl, hb1⟩
    · rw [hps] at hsp
      obtain ⟨ts, R, hf⟩ := parseS_fine hps
      obtain ⟨G, hG, hP⟩ := hf.pack
      have hn20 := fine_len hf.gr
      have hred := hG.red (by omega)
      have hcll : (closedL ns es).length ≤ 400 := Nat.le_trans (nodup_subset_len (nodup_closedL hG.nodup) (fun x hx => mem_pairs.2 (closedL_in x hx))) (Nat.le_trans (flat_le' _ _ (fun s => by simp) ns) (Nat.mul_le_mul hn20 hn20))
      obtain ⟨m, HI, HS2⟩ : ∃ m, Hid (∀ w', Below w.heap.size w w' → Calls Tryd.prog 25 #[.string s] w' (RetEK m w')) ∧ Hid (m.Nodup ∧ (∀ e, e ∈ m ↔ e ∈ covers ns (closedL ns es)) ∧ m.length ≤ 400) :=
        ⟨_, Lib.hid (fun w' hb => by
          refine (parseReduced_calls s ts w' (by have := hf.sz; omega) hf.lx (by have := hf.len; omega) (HT.out w' hb) (fun G' h' => ?_)).mono ?_
          · rw [hP] at h'
            cases h'
            exact ⟨hred.cl, hred.len⟩
          · rw [hP]
            rintro e w'' ⟨a, n, c, ok, rfl, hb, rfl, rfl, hs⟩
            exact ⟨_, _, rfl, hb, hs⟩), Lib.hid ⟨hred.nd, hred.mem, Nat.le_trans (nodup_subset_len hred.nd (fun x hx => (hred.mem x).1 hx)) (Nat.le_trans (covers_len _ _) hcll)⟩⟩
      have HS := Lib.hid hsp; clear hsp
      have HCL := Lib.hid hcll; clear hcll
      clear hps hf hG hP HT hred
      go_enter Tryd.func5, Tryd.ntmps5
      go_wp2_with (first
        | (go_at_call 22; refine HS.out.mono ?_; rintro e w1 ⟨a, n, c, ea, en, ec, st, rfl, hb1, rfl, rfl, hs1, rfl, hs2⟩)
        | (go_at_call 25; refine (HI.out _ hb1).mono ?_; rintro e w2 ⟨a2, c2, rfl, hb2, hs3⟩; have hs1' := hs1.top hb2; have hs2' := hs2.top hb2)
        | (go_at_call 27; refine (conv_calls _ rfl hs3 (by have := HS2.out.2.2; omega)).mono ?_; rintro e w3 ⟨ca, cn, cc, rfl, rfl, hco, hb3⟩; have hs13 := hs1'.top hb3; have hs23 := hs2'.top hb3; have hco3 := hco.sl encE_len)
        | (go_at_call 28; refine (covers_calls _ rfl rfl hs13 hs23 (by have := HCL.out; omega)).mono ?_; rintro e w4 ⟨va, vn, vc, rfl, rfl, hcv, hb4⟩; have hco4 := hco3.top hb4; have hcv4 := hcv.sl encE_len)
        | (go_at_call 26; refine (sameEdges_calls _ rfl rfl hco4 hcv4 HS2.out.1 HS2.out.2.1).mono ?_; rintro e w5 ⟨rfl, hb5⟩))
      go_ret
      exact ⟨rfl, (((hb1.top hb2 (Nat.le_refl _)).top hb3 (Nat.le_refl _)).top hb4 (Nat.le_refl _)).top hb5 (Nat.le_refl _)⟩
  · go_enter Tryd.func5, Tryd.ntmps5
    go_wp2
    go_ret
    exact ⟨rfl, Below.refl _ _⟩
end Go.Proofs.YthpfladpbfbpjaaDoor
