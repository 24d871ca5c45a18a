/- impl.Topo: what the call returns, where there is no circle. -/
import Derived.Test.YthajiimohbjjhaaTopo
import Derived.Test.YthajiimohbjjhaaAll
import Derived.Test.YthajiimohbjjhaaSortedS
namespace Go.Proofs.Ythajiimohbjjhaa
open Go.RowKit

/-- the order of nodes and edges -/
def orderL (ns : List Str) (es : List Ed) : List Str := topoL (buildG ns es) (ns.length + 1)

structure OrderOK (ns : List Str) (es : List Ed) (l : List Str) : Prop where
  nodup : l.Nodup
  mem : ∀ x, x ∈ l ↔ x ∈ ns
  len : l.length = ns.length
  on : ∀ e ∈ es, l.idxOf e.1 < l.idxOf e.2

theorem perm_len {l r : List Str} (h1 : l.Nodup) (h2 : r.Nodup) (h : ∀ x, x ∈ l ↔ x ∈ r) : l.length = r.length :=
  Nat.le_antisymm (nodup_subset_len h1 (fun x hx => (h x).1 hx)) (nodup_subset_len h2 (fun x hx => (h x).2 hx))

theorem orderL_ok {ns : List Str} {es : List Ed} (hnd : ns.Nodup) (hin : ∀ e ∈ es, e.1 ∈ ns ∧ e.2 ∈ ns) (hno : ∀ s, clo ns es s s = false) : OrderOK ns es (orderL ns es) := by
  have hN : names (buildG ns es) = ns := by rw [buildG_names, nodesG_names hnd]
  have hE : ∀ a b, hasE (buildG ns es) a b = true ↔ (a, b) ∈ es := fun a b => buildG_hasE (fun e he => (hin e he).1) a b
  have hd : ∀ a b, hasE (buildG ns es) a b = true → rank ns es b < rank ns es a := fun a b h => rank_lt hin hno ((hE a b).1 h)
  have hcl : ∀ a b, hasE (buildG ns es) a b = true → b ∈ names (buildG ns es) := fun a b h => by rw [hN]; exact (hin _ ((hE a b).1 h)).2
  have hp := postG_nodup (buildG ns es) (ns.length + 1)
  have hnl : (orderL ns es).Nodup := (List.pairwise_reverse).2 (List.Pairwise.imp (fun h e => h e.symm) hp.1)
  have hml : ∀ x, x ∈ orderL ns es ↔ x ∈ ns := fun x => by
    unfold orderL topoL
    rw [List.mem_reverse]
    constructor
    · intro h; have := hp.2 x h; rwa [hN] at this
    · intro h; exact postG_all (by omega) (by rw [hN]; exact h)
  exact ⟨hnl, hml, perm_len hnl hnd hml, fun e he => postG_on hd hcl (fun x _ => rank_le ns es x) (by omega) ((hE _ _).2 he)⟩

theorem vis_same {G G' : Gr} (hN : names G = names G') (hE : ∀ a b, hasE G a b = hasE G' a b) (f : Nat) : vis G f = vis G' f := by
  have he : ∀ n, ends G n = ends G' n := fun n => by
    unfold ends
    rw [hN]
    exact List.filter_congr (fun t _ => hE n t)
  induction f with
  | zero => rfl
  | succ f ih =>
    funext T n
    unfold vis
    rw [ih, he]
theorem orderL_same {ns : List Str} {es es' : List Ed} (hin : ∀ e ∈ es, e.1 ∈ ns ∧ e.2 ∈ ns) (hin' : ∀ e ∈ es', e.1 ∈ ns ∧ e.2 ∈ ns) (h : ∀ e, e ∈ es ↔ e ∈ es') : orderL ns es = orderL ns es' := by
  have hN : names (buildG ns es) = names (buildG ns es') := by rw [buildG_names, buildG_names]
  have hE : ∀ a b, hasE (buildG ns es) a b = hasE (buildG ns es') a b := fun a b => by
    rw [Bool.eq_iff_iff, buildG_hasE (fun e he => (hin e he).1), buildG_hasE (fun e he => (hin' e he).1)]
    exact h (a, b)
  unfold orderL topoL postG
  rw [vis_same hN hE, hN]

theorem topoI_calls {a b : Option Addr} {cap capb n m : Nat} {ns : List Str} {es : List Ed} (w : World) (hn : n = ns.length) (hm : m = es.length) (h : Sl encS 1 w a cap ns) (h' : Sl encE 2 w b capb es)
    (hnd : ns.Nodup) (hg : ns.length ≤ 10000) (hin : ∀ e ∈ es, e.1 ∈ ns ∧ e.2 ∈ ns) (hno : ∀ s, clo ns es s s = false) :
    Calls Try.prog 26 #[.slice a n cap, .slice b m capb] w <| RetSl fun a' n' cap' w' => n' = (orderL ns es).length ∧ Sl encS 1 w' a' cap' (orderL ns es) ∧ Below w.heap.size w w' := by
  have hb := build_calls w hn hm h h' (by omega) (fun e he => (hin e he).1)
  have hlen : (buildG ns es).length ≤ 10000 := Nat.le_trans (buildG_len ns es) hg
  have hN : names (buildG ns es) = ns := by rw [buildG_names, nodesG_names hnd]
  have hE : ∀ a b, hasE (buildG ns es) a b = true ↔ (a, b) ∈ es := fun a b => buildG_hasE (fun e he => (hin e he).1) a b
  have hd : ∀ a b, hasE (buildG ns es) a b = true → rank ns es b < rank ns es a := fun a b h => rank_lt hin hno ((hE a b).1 h)
  have hcl : ∀ a b, hasE (buildG ns es) a b = true → b ∈ names (buildG ns es) := fun a b h => by rw [hN]; exact (hin _ ((hE a b).1 h)).2
  have hord : orderL ns es = topoL (buildG ns es) (ns.length + 1) := rfl
  have hr := rank_le ns es
  have HB := Lib.hid hb; clear hb
  have HLEN := Lib.hid hlen; clear hlen
  have HD := Lib.hid hd; clear hd
  have HCL := Lib.hid hcl; clear hcl
  have HORD := Lib.hid hord; clear hord
  have HR := Lib.hid hr; clear hr
  clear hn hm hE hN hin hno hnd h h'
  generalize buildG ns es = G at *
  generalize orderL ns es = L at *
  go_enter Try.func26, Try.ntmps26
  go_wp2_with (first
    | (go_at_call 41; refine (HB.out).mono ?_; rintro e w1 ⟨v, rfl, g, rfl, hgr, hb1⟩)
    | (go_at_call 45
       refine (topo_calls (d := rank ns es) (f := ns.length + 1) hgr HD.out HCL.out (by have := HLEN.out; omega) (fun x _ => HR.out x)).mono ?_
       rintro e w2 ⟨a2, n2, c2, rfl, rfl, hsl2, hb2⟩))
  go_ret
  exact ⟨_, _, _, rfl, by rw [HORD.out], by rw [HORD.out]; exact hsl2, hb1.top hb2 (Nat.le_refl _)⟩
end Go.Proofs.Ythajiimohbjjhaa
