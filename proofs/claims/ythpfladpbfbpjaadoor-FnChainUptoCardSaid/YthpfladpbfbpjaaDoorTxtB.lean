/- Plain laws on a fine text with a rule more: a bar behind it, a bar ahead of it, a rule behind it. -/
import Derived.Test.YthpfladpbfbpjaaDoorNam
namespace Go.Proofs.YthpfladpbfbpjaaDoor
open Go.RowKit

theorem bs_append (a b : Str) : bs (a ++ b) = bs a ++ bs b := by
  unfold bs
  rw [ByteArray.data_append, Array.toList_append]
theorem sadd2 (a b : Str) (h : a.size + b.size ≤ 9000000000000000000) : ∃ s : Str, bs s = bs a ++ bs b ∧ s.size = a.size + b.size ∧ ∀ W, (Op.stringOp .add a b).run Tryd.prog W = .ok (.string s) W :=
  ⟨a ++ b, bs_append a b, ByteArray.size_append, fun W => run_string_add_sum W a b (by omega)⟩
theorem rule1_lx {l d : Str} {b : Bool} {op : Bs} (hl : NameS l) (hd : NameS d) (h1 : Lxa op [opT b]) (h2 : Stop op) (h3 : op ≠ []) : Lxa (bs l ++ (op ++ (bs d ++ [59]))) (ruleT ([l], b, [d])) := by
  have g1 := hl.lx.app_a h1 h2 h3
  have g2 := hd.lx.app_a (Lxa.sign (c := 59) (by decide)) (Stop.cons (by decide)) (by simp)
  have := g1.app g2
  rw [List.append_assoc] at this
  exact this
theorem rl1 {l d : Str} (hl : NameS l) (hd : NameS d) (b : Bool) : RlOK ([l], b, [d]) := ⟨by simp, by simp, by simpa using hl, by simpa using hd⟩
section
variable {s tx l d : Str} {ns : List Str} {es : List Ed} {ts : List Str} {R : List Rl}
theorem lex_len {tx : Str} {ts : List Str} (h : lex (bs tx) = some ts) : ts.length ≤ tx.size := by
  have := (lex_count _ _ _ (Nat.le_refl _) h).1
  rwa [bs_len] at this
theorem bar_text (hf : FineT s ns es ts R) (hl : NameS l) (hd : NameS d) (hb : bs tx = bs s ++ ([10] ++ (bs l ++ ([32, 33, 60, 32] ++ (bs d ++ [59]))))) :
    ∃ ts', lex (bs tx) = some ts' ∧ packP ts' = graphP (R ++ [([l], true, [d])]) := by
  have h1 := rule1_lx (b := true) hl hd (Lxa.op true) (opB_stop true).1 (opB_stop true).2
  have h2 := (Lxa.line hf.lx).app h1
  refine ⟨ts ++ ruleT ([l], true, [d]), ?_, ?_⟩
  · rw [hb]
    have := h2.lx.all
    rw [List.append_assoc] at this
    exact this
  · unfold packP
    rw [pRules_behind hf.fin _ (rl1 hl hd true)]
    rfl
theorem barA_text (hf : FineT s ns es ts R) (hl : NameS l) (hd : NameS d) (hb : bs tx = bs l ++ ([33, 60] ++ (bs d ++ ([59] ++ bs s)))) :
    ∃ ts', lex (bs tx) = some ts' ∧ packP ts' = graphP (([l], true, [d]) :: R) := by
  have h1 := rule1_lx (b := true) (op := [33, 60]) hl hd Lxa.bar (Stop.cons (by decide)) (by simp)
  have h2 := h1.end_ hf.lx
  refine ⟨ruleT ([l], true, [d]) ++ ts, ?_, ?_⟩
  · rw [hb]
    simpa using h2
  · unfold packP
    rw [pRules_ahead hf.fin _ (rl1 hl hd true)]
    rfl
theorem more_text (hf : FineT s ns es ts R) (hl : NameS l) (hd : NameS d) (hb : bs tx = bs s ++ ([32, 35, 32, 109, 111, 114, 101, 10] ++ (bs l ++ ([60] ++ (bs d ++ [59]))))) :
    ∃ ts', lex (bs tx) = some ts' ∧ packP ts' = graphP (R ++ [([l], false, [d])]) := by
  have h0 : lex (bs s ++ 32 :: 35 :: [32, 109, 111, 114, 101]) = some ts := lex_note (m := [32, 109, 111, 114, 101]) (by decide) _ _ _ (Nat.le_refl _) hf.lx
  have h1 := rule1_lx (b := false) (op := [60]) hl hd (Lxa.sign (c := 60) (by decide)) (Stop.cons (by decide)) (by simp)
  have h2 := (Lxa.line h0).app h1
  refine ⟨ts ++ ruleT ([l], false, [d]), ?_, ?_⟩
  · rw [hb]
    have := h2.lx.all
    simpa using this
  · unfold packP
    rw [pRules_behind hf.fin _ (rl1 hl hd false)]
    rfl
end
end Go.Proofs.YthpfladpbfbpjaaDoor
