/- impl.Transposed . -/
import Derived.Test.YthajiimohbjjhaaTransp
namespace Go.Proofs.Ythajiimohbjjhaa
open Go.RowKit

theorem nodup_len_le {α : Type} [BEq α] [LawfulBEq α] : ∀ {l1 l2 : List α}, l1.Nodup → (∀ x ∈ l1, x ∈ l2) → l1.length ≤ l2.length
  | [], _, _, _ => by simp
  | x :: r, l2, h1, h2 => by
    have hn := List.nodup_cons.1 h1
    have hx : x ∈ l2 := h2 x (by simp)
    have := nodup_len_le (l1 := r) (l2 := l2.erase x) hn.2 (fun y hy => (List.mem_erase_of_ne (fun e => hn.1 (by rw [← e]; exact hy))).2 (h2 y (by simp [hy])))
    rw [List.length_erase_of_mem hx] at this
    have h0 := List.length_pos_of_mem hx
    simp
    omega

def Turned (es L : List Ed) : Prop := L.Nodup ∧ ∀ x, x ∈ L ↔ (x.2, x.1) ∈ es
def RetTs (es : List Ed) (w : World) (e : Ending) (w' : World) : Prop :=
  ∃ a n cap L, e = .returned (.slice a n cap) ∧ n = L.length ∧ Turned es L ∧ L.length ≤ 100000000 ∧ Sl encE 2 w' a cap L ∧ Below w.heap.size w w'

theorem transposed_calls {a b : Option Addr} {cap capb n m : Nat} {ns : List Str} {es : List Ed} (w : World) (hn : n = ns.length) (hm : m = es.length) (h : Sl encS 1 w a cap ns) (h' : Sl encE 2 w b capb es)
    (hg : ns.length ≤ 10000) (hin : ∀ e ∈ es, e.1 ∈ ns ∧ e.2 ∈ ns) :
    Calls Try.prog 28 #[.slice a n cap, .slice b m capb] w <| RetTs es w := by
  have hb := build_calls w hn hm h h' (by omega) (fun e he => (hin e he).1)
  have hlen : (buildG ns es).length ≤ 10000 := Nat.le_trans (buildG_len ns es) hg
  have hE : ∀ a b, hasE (buildG ns es) a b = true ↔ (a, b) ∈ es := fun a b => buildG_hasE (fun e he => (hin e he).1) a b
  have hN : ∀ s, s ∈ names (buildG ns es) ↔ s ∈ ns := fun s => by rw [buildG_names, nodesG_mem]
  have hcl : ∀ a b, hasE (buildG ns es) a b = true → b ∈ names (buildG ns es) := fun a b he => (hN b).2 (hin _ ((hE a b).1 he)).2
  have hcl' : ∀ a b, hasE (buildG ns es) b a = true → b ∈ names (buildG ns es) := fun a b he => (hN b).2 (hin _ ((hE b a).1 he)).1
  have HB := Lib.hid hb; clear hb
  have HLEN := Lib.hid hlen; clear hlen
  have HE := Lib.hid hE; clear hE
  have HN := Lib.hid hN; clear hN
  have HCL := Lib.hid hcl; clear hcl
  have HCL2 := Lib.hid hcl'; clear hcl'
  have HIN := Lib.hid hin; clear hin
  clear hn hm
  generalize buildG ns es = G at *
  have hfr : ∀ (W W' : World), w.heap.size ≤ W.heap.size → Below w.heap.size w W → Fr (fun k => w.heap.size ≤ k) W W' → Below w.heap.size w W' := fun W W' _ hb hf => hb.fr hf (Nat.le_refl _) (fun _ h => h)
  have HFR := Lib.hid hfr; clear hfr
  go_enter Try.func28, Try.ntmps28
  go_wp2_with (first
    | (go_at_call 41; refine (HB.out).mono ?_; rintro e w1 ⟨v, rfl, g, rfl, hgr, hb1⟩)
    | (go_at_call 46
       refine (transpose_calls hgr HCL.out HLEN.out).mono ?_
       rintro e w2 ⟨rfl, G', hnm, hE', hgr2, hf2⟩
       have hb2 := HFR.out _ _ hb1.size hb1 hf2
       have HNM := Lib.hid hnm
       have HE2 := Lib.hid hE'
       have hlen2 : G'.length ≤ 10000 := by have h1 := congrArg List.length hnm; simp at h1; rw [h1]; exact HLEN.out
       have HLEN2 := Lib.hid hlen2
       have hcl2 : Hid (∀ a b, hasE G' a b = true → b ∈ names G') := Lib.hid (fun a b he => by rw [HNM.out]; exact HCL2.out a b ((HE2.out a b).1 he))
       clear hnm hE' hlen2)
    | (go_at_call 47
       refine (all_calls hgr2 hcl2.out HLEN2.out).mono ?_
       rintro e w3 ⟨a3, n3, c3, rfl, rfl, hown3, hb3⟩))
  go_ret
  refine ⟨_, _, _, _, rfl, rfl, ⟨nodup_allG hgr2.nodup, fun x => ?_⟩, Nat.le_trans (allG_len G') (Nat.mul_le_mul HLEN2.out HLEN2.out), hown3.sl encE_len, hb2.top hb3 (Nat.le_refl _)⟩
  rw [mem_allG, HE2.out, HE.out, HNM.out, HN.out]
  exact ⟨fun hh => hh.1, fun hh => ⟨hh, (HIN.out _ hh).1⟩⟩

end Go.Proofs.Ythajiimohbjjhaa
