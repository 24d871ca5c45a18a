/- laws.FnParseTopo: the walk of the law. -/
import Derived.Test.YthpfladpbfbpjaaDoorPackC
namespace Go.Proofs.YthpfladpbfbpjaaDoor
open Go.RowKit

def RetTK (l : List Str) (w : World) (e : Ending) (w' : World) : Prop := ∃ a c, e = .returned (.tuple #[.slice a l.length c, .bool true]) ∧ Below w.heap.size w w' ∧ Sl encS 1 w' a c l
theorem CloG.topo {ns : List Str} {es : List Ed} {G : Gr} (h : CloG ns es G) : (topoL G (ns.length + 1)).length = ns.length ∧ (topoL G (ns.length + 1)).Nodup ∧ (∀ x, x ∈ topoL G (ns.length + 1) ↔ x ∈ ns) ∧ ∀ e ∈ closedL ns es, e.1 ∈ topoL G (ns.length + 1) ∧ e.2 ∈ topoL G (ns.length + 1) ∧ (topoL G (ns.length + 1)).idxOf e.1 < (topoL G (ns.length + 1)).idxOf e.2 := by
  have hp := postG_nodup G (ns.length + 1)
  have hd : ∀ a b, hasE G a b = true → ns.idxOf b < ns.idxOf a := fun a b he => h.back' he
  have hcl : ∀ a b, hasE G a b = true → b ∈ names G := fun a b he => by rw [h.nm]; exact (h.ends he).2
  have hf : ∀ x ∈ names G, ns.idxOf x < ns.length + 1 := fun x hx => by
    rw [h.nm] at hx
    have := List.idxOf_lt_length_iff.2 hx
    omega
  have hnl : (topoL G (ns.length + 1)).Nodup := (List.pairwise_reverse).2 (List.Pairwise.imp (fun h => Ne.symm h) hp.1)
  have hml : ∀ x, x ∈ topoL G (ns.length + 1) ↔ x ∈ ns := fun x => by
    unfold topoL
    rw [List.mem_reverse]
    constructor
    · intro hx; have := hp.2 x hx; rwa [h.nm] at this
    · intro hx; exact postG_all (by omega) (by rw [h.nm]; exact hx)
  refine ⟨Nat.le_antisymm (nodup_subset_len hnl (fun x hx => (hml x).1 hx)) (nodup_subset_len h.nodup (fun x hx => (hml x).2 hx)), hnl, hml, fun e he => ?_⟩
  have hc := (mem_closedL h.inn).1 he
  have hen := clo_ends h.inn hc
  exact ⟨(hml _).2 hen.1, (hml _).2 hen.2, postG_on hd hcl hf (by omega) (by rw [h.ed]; exact hc)⟩

set_option maxRecDepth 100000 in
theorem fnParseTopo_calls (s : Str) (w : World) (htab : TabW w) : Calls Tryd.prog 4 #[.string s] w fun e w' => e = .returned (.bool true) ∧ Below w.heap.size w w' := by
  by_cases hsm : s.size ≤ 2147483647
  · have hsp := parseS_calls s w hsm
    have HT : Hid (∀ w', Below w.heap.size w w' → TabW w') := Lib.hid (fun w' hb => Lib.tabBelow_of_tabIs htab w' hb)
    clear htab
    rcases hps : parseS s with _ | _ | ⟨ns, es⟩
    · rw [hps] at hsp
      have HS := Lib.hid hsp; clear hsp
      clear hps HT
      go_enter Tryd.func4, Tryd.ntmps4
      go_wp2_with (go_at_call 22; refine HS.out.mono ?_; rintro e w1 ⟨a, n, c, ea, en, ec, st, rfl, hb1, rfl⟩)
      go_ret
      exact ⟨rfl, hb1⟩
    · rw [hps] at hsp
      have HS := Lib.hid hsp; clear hsp
      clear hps HT
      go_enter Tryd.func4, Tryd.ntmps4
      go_wp2_with (go_at_call 22; refine HS.out.mono ?_; rintro e w1 ⟨a, n, c, ea, en, ec, st, rfl, hb1, rfl⟩)
      go_ret
      exact ⟨rfl, hb1⟩
    · rw [hps] at hsp
      obtain ⟨ts, R, hf⟩ := parseS_fine hps
      obtain ⟨G, hG, hP⟩ := hf.pack
      have hn20 := fine_len hf.gr
      obtain ⟨l, HI, HS2⟩ : ∃ l, Hid (∀ w', Below w.heap.size w w' → Calls Tryd.prog 23 #[.string s] w' (RetTK l w')) ∧ Hid (l.length = ns.length ∧ l.Nodup ∧ (∀ x, x ∈ l ↔ x ∈ ns) ∧ ∀ e ∈ closedL ns es, e.1 ∈ l ∧ e.2 ∈ l ∧ l.idxOf e.1 < l.idxOf e.2) :=
        ⟨_, Lib.hid (fun w' hb => by
          refine (parseTopo_calls s ts w' (by have := hf.sz; omega) hf.lx (by have := hf.len; omega) (HT.out w' hb) (fun x => ns.idxOf x) (ns.length + 1) (fun G' h' => ?_)).mono ?_
          · rw [hP] at h'
            cases h'
            exact ⟨fun a b he => hG.back' he, fun x hx => by
              rw [hG.nm] at hx
              have := List.idxOf_lt_length_iff.2 hx
              omega⟩
          · rw [hP]
            rintro e w'' ⟨a, n, c, ok, rfl, hb, rfl, rfl, hs⟩
            exact ⟨_, _, rfl, hb, hs⟩), Lib.hid hG.topo⟩
      have HS := Lib.hid hsp; clear hsp
      clear hps hf hG hP HT
      go_enter Tryd.func4, Tryd.ntmps4
      go_wp2_with (first
        | (go_at_call 22; refine HS.out.mono ?_; rintro e w1 ⟨a, n, c, ea, en, ec, st, rfl, hb1, rfl, rfl, hs1, rfl, hs2⟩)
        | (go_at_call 23; refine (HI.out _ hb1).mono ?_; rintro e w2 ⟨a2, c2, rfl, hb2, hs3⟩; have hs1' := hs1.top hb2; have hs2' := hs2.top hb2)
        | (go_at_call 24; refine (sorted_calls _ rfl rfl rfl hs3 hs1' hs2' HS2.out.1 HS2.out.2.1 HS2.out.2.2.1 HS2.out.2.2.2).mono ?_; rintro e w3 ⟨rfl, hb3⟩))
      go_ret
      exact ⟨rfl, (hb1.top hb2 (Nat.le_refl _)).top hb3 (Nat.le_refl _)⟩
  · go_enter Tryd.func4, Tryd.ntmps4
    go_wp2
    go_ret
    exact ⟨rfl, Below.refl _ _⟩
end Go.Proofs.YthpfladpbfbpjaaDoor
