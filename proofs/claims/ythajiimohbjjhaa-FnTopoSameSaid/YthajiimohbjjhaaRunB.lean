/- AddNode, NewGraph, impl.Run: what each call computes. -/
import Derived.Test.YthajiimohbjjhaaRunA
namespace Go.Proofs.Ythajiimohbjjhaa
open Go.RowKit

def addN (G : Gr) (s : Str) : Gr := if s ∈ names G then G else G ++ [(s, [])]
/-- the blocks that a graph may use behind a call that makes blocks -/
def more (F : Nat → Prop) (w w' : World) : Nat → Prop := fun k => (F k ∨ w.heap.size ≤ k) ∧ k < w'.heap.size

theorem GraphAt.bound {w : World} {F : Nat → Prop} {g : Nat} {G : Gr} (h : GraphAt w F g G) : GraphAt w (fun k => F k ∧ k < w.heap.size) g G := by
  obtain ⟨na, nc, mb, me, rs, h⟩ := h
  exact ⟨na, nc, mb, me, rs, { h with
    fg := ⟨h.fg, h.lt⟩
    fb := ⟨h.fb, h.idx.lt⟩
    fe := ⟨h.fe, h.tbl.lt⟩
    fr := fun r hr => ⟨h.fr r hr, by
      obtain ⟨i, hi, rfl⟩ := List.mem_iff_getElem.1 hr
      exact (h.sets i hi (by rw [← h.len]; exact hi)).lt⟩
    fn := fun k hk => ⟨h.fn k hk, (h.nodes.lt k hk).2⟩ }⟩
theorem GraphAt.alloc {w : World} {F : Nat → Prop} {g : Nat} {G : Gr} (h : GraphAt w F g G) (o : Obj) : GraphAt (w.alloc o) F g G := h.keep (Fr.alloc NoB w o) (fun _ _ hs => hs.elim)

theorem addNode_calls {w : World} {F : Nat → Prop} {g : Nat} {G : Gr} (s : Str) (h : GraphAt w F g G) (hsm : G.length < 4294967296) :
    Calls Try.prog 50 #[.pointer (some ⟨g, 0, none⟩), .string s] w fun e w' => e = .returned (.bool (!decide (s ∈ names G))) ∧ GraphAt w' (fun k => F k ∨ w.heap.size ≤ k) g (addN G s) ∧ Fr F w w' := by
  by_cases hs : s ∈ names G
  · refine (addNode_old s h hs).mono ?_
    rintro e w' ⟨rfl, rfl⟩
    exact ⟨ret_bool (by simp [hs]), by rw [addN, if_pos hs]; exact h.mono (fun _ hk => .inl hk), Fr.refl _ _⟩
  · refine (addNode_new s h hs hsm).mono ?_
    rintro e w' ⟨rfl, hg, hf⟩
    exact ⟨ret_bool (by simp [hs]), by rw [addN, if_neg hs]; exact hg, hf⟩

theorem AddNode_calls {w : World} {F : Nat → Prop} {g : Nat} {G : Gr} (s : Str) (h : GraphAt w F g G) (hsm : G.length < 4294967296) :
    Calls Try.prog 36 #[.pointer (some ⟨g, 0, none⟩), .string s] w fun e w' => e = .returned (.bool (!decide (s ∈ names G))) ∧ GraphAt w' (fun k => F k ∨ w.heap.size ≤ k) g (addN G s) ∧ Fr F w w' := by
  go_enter Try.func36, Try.ntmps36
  go_wp2_with (go_at_call 50; refine (addNode_calls _ h hsm).mono ?_; rintro e w' ⟨rfl, hg, hf⟩)
  go_ret
  exact ⟨rfl, hg, hf⟩
theorem NewGraph_calls (w : World) : Calls Try.prog 35 #[] w <| RetV fun v w' => ∃ g, v = .pointer (some ⟨g, 0, none⟩) ∧ GraphAt w' (fun k => w.heap.size ≤ k) g [] ∧ Below w.heap.size w w' := by
  go_enter Try.func35, Try.ntmps35
  go_wp2_with (go_at_call 49; refine (newGraph_calls _).mono ?_; rintro e w' ⟨v, rfl, g, rfl, hg, hf⟩)
  go_ret
  exact ⟨_, rfl, g, rfl, hg, hf⟩

/-- one call of a script -/
def stepG (p : Gr × List Bool) (s : St) : Gr × List Bool :=
  if s.1 = 0 then (addN p.1 s.2.1, p.2 ++ [!decide (s.2.1 ∈ names p.1)])
  else if s.1 = 1 then (addE p.1 s.2.1 s.2.2, p.2 ++ [true])
  else if s.1 = 2 then (delE p.1 s.2.1 s.2.2, p.2 ++ [true])
  else if s.1 = 3 then (p.1, p.2 ++ [hasE p.1 s.2.1 s.2.2])
  else (p.1, p.2 ++ [true])
def runG (l : List St) : Gr × List Bool := l.foldl stepG ([], [])
theorem runG_snoc (l : List St) (s : St) : runG (l ++ [s]) = stepG (runG l) s := by simp [runG, List.foldl_append]
theorem names_setE (G : Gr) (s : Str) (f : List Str → List Str) : names (setE G s f) = names G := by
  unfold setE names
  rw [List.map_map]
  apply List.map_congr_left
  intro p _
  simp only [Function.comp]
  split <;> rfl
theorem addN_len (G : Gr) (s : Str) : (addN G s).length ≤ G.length + 1 := by unfold addN; split <;> simp
theorem stepG_len (p : Gr × List Bool) (s : St) : (stepG p s).1.length ≤ p.1.length + 1 ∧ (stepG p s).2.length = p.2.length + 1 := by
  unfold stepG
  have h1 := addN_len p.1 s.2.1
  split
  · exact ⟨h1, by simp⟩
  split
  · exact ⟨by simp [addE, setE], by simp⟩
  split
  · exact ⟨by simp [delE, setE], by simp⟩
  split <;> exact ⟨by simp, by simp⟩
theorem runG_len (l : List St) : (runG l).1.length ≤ l.length ∧ (runG l).2.length = l.length := by
  refine snoc_ind (P := fun l => (runG l).1.length ≤ l.length ∧ (runG l).2.length = l.length) (by simp [runG]) ?_ l
  intro l s ih
  show (runG (l ++ [s])).1.length ≤ _ ∧ (runG (l ++ [s])).2.length = _
  rw [runG_snoc]
  have := stepG_len (runG l) s
  simp
  omega
theorem names_addN (G : Gr) (s t : Str) : t ∈ names (addN G s) ↔ t ∈ names G ∨ t = s := by
  unfold addN
  split
  · rename_i h
    constructor
    · exact .inl
    · rintro (h' | rfl)
      · exact h'
      · exact h
  · simp
theorem names_runG (l : List St) (t : Str) : t ∈ names (runG l).1 ↔ t ∈ added l := by
  refine snoc_ind (P := fun l => t ∈ names (runG l).1 ↔ t ∈ added l) (by simp [runG, added]) ?_ l
  intro l s ih
  show t ∈ names (runG (l ++ [s])).1 ↔ t ∈ added (l ++ [s])
  rw [runG_snoc, added_snoc]
  unfold stepG
  by_cases h0 : s.1 = 0
  · simp only [h0, if_true]
    rw [names_addN, ih]
    simp
  · simp only [h0, if_false]
    split
    · rw [addE, names_setE]; exact ih
    split
    · rw [delE, names_setE]; exact ih
    split <;> exact ih

theorem implRun_calls {a : Option Addr} {cap n : Nat} {l : List St} (w : World) (hn : n = l.length) (h : Sl encT 3 w a cap l) (hsm : l.length ≤ 2147483647) (hok : StepsOK l) :
    Calls Try.prog 15 #[.slice a n cap] w <| RetSl fun a' n' cap' w' => n' = l.length ∧ Own encB 1 w' w.heap.size 4 a' cap' (runG l).2 ∧ Below w.heap.size w w' := by
  subst hn
  have HOK := Lib.hid hok; clear hok
  go_enter Try.func15, Try.ntmps15
  go_wp2_with (go_at_call 35; refine (NewGraph_calls _).mono ?_; rintro e w1 ⟨v, rfl, g, rfl, hg0, hb0⟩)
  go_loopw [12, 4] (fun i v wr => ∃ (k : Nat) (F : Nat → Prop) (G : Gr) (m : List Bool) (a' : Option Addr) (cap' : Nat), k ≤ l.length ∧ i = .int .i64 k ∧ v = .slice a' m.length cap' ∧ Hid ((G, m) = runG (l.take k)) ∧
    GraphAt wr F g G ∧ Hid (∀ b, F b → w.heap.size ≤ b ∧ b < wr.heap.size) ∧ Hid (∀ b, blk a' = some b → ¬ F b) ∧ Own encB 1 wr w.heap.size 4 a' cap' m ∧ Below w.heap.size w wr) (fun i _ _ => l.length - (intOf i).toNat)
  case atStart =>
    have hs := hb0.size
    refine ⟨0, _, [], [], _, _, Nat.zero_le _, rfl, rfl, Lib.hid (by simp [runG]), (hg0.bound).alloc _, Lib.hid (fun b hb => ⟨hb.1, by have := hb.2; simp; omega⟩), Lib.hid ?_, Own.made encB 1 w1 _ _ hs, hb0.alloc hs _⟩
    intro b hb hF
    simp [blk] at hb
    have := hF.2
    omega
  case round =>
    obtain ⟨k, F, G, m, a', cap', hk, rfl, rfl, HR, hG, HF, HD, hown, hb⟩ := hrel
    by_cases hlt : k < l.length
    · obtain ⟨b, off, rfl, hbl, h1, h2, h3⟩ := (h.top hb).t3 hlt
      clear h
      have hsz := hb.size
      have hlen := runG_len (l.take k)
      rw [← HR.out] at hlen
      have hGl : G.length ≤ k := by have := hlen.1; simp at this; omega
      have hml : m.length ≤ k := by have := hlen.2; simp at this; omega
      clear hlen
      have hstep := HOK.out k hlt
      have hsnoc := runG_snoc (l.take k) l[k]
      rw [← List.take_succ_eq_append_getElem hlt, ← HR.out] at hsnoc
      have hnames : ∀ t, t ∈ names G ↔ t ∈ added (l.take k) := fun t => by
        have := names_runG (l.take k) t
        rw [← HR.out] at this
        exact this
      have hG1 := hG.alloc (.cells #[.int .i64 l[k].1, .string l[k].2.1, .string l[k].2.2] 26)
      have hown1 := hown.alloc (.cells #[.int .i64 l[k].1, .string l[k].2.1, .string l[k].2.2] 26)
      have hb1 := hb.alloc hsz (.cells #[.int .i64 l[k].1, .string l[k].2.1, .string l[k].2.2] 26)
      -- the end of a round, whatever the call was
      have hend : ∀ (w2 : World) (F2 : Nat → Prop) (G2 : Gr) (x : Bool), Below w.heap.size w w2 → GraphAt w2 F2 g G2 → (∀ b, F2 b → w.heap.size ≤ b ∧ b < w2.heap.size) → (∀ b, blk a' = some b → ¬ F2 b) → Own encB 1 w2 w.heap.size 4 a' cap' m →
          (G2, m ++ [x]) = stepG (G, m) l[k] → ∀ a2 cap2 w3, Own encB 1 w3 w.heap.size 4 a2 cap2 (m ++ [x]) → Fr (fun k => blk a' = some k) w2 w3 → (∀ k, blk a2 = some k → blk a' = some k ∨ w2.heap.size ≤ k) →
          ∃ (k' : Nat) (F : Nat → Prop) (G : Gr) (m' : List Bool) (a'' : Option Addr) (cap'' : Nat), k' ≤ l.length ∧ Value.int .i64 ((k : Int) + 1) = .int .i64 k' ∧ Value.slice a2 (m.length + 1) cap2 = .slice a'' m'.length cap'' ∧ Hid ((G, m') = runG (l.take k')) ∧
            GraphAt w3 F g G ∧ Hid (∀ b, F b → w.heap.size ≤ b ∧ b < w3.heap.size) ∧ Hid (∀ b, blk a'' = some b → ¬ F b) ∧ Own encB 1 w3 w.heap.size 4 a'' cap'' m' ∧ Below w.heap.size w w3 := by
        intro w2 F2 G2 x hb2 hG2 hF2 hD2 hown2 hst a2 cap2 w3 hown3 hf3 hk3
        refine ⟨k + 1, F2, G2, m ++ [x], a2, cap2, by omega, by go_num, by simp, Lib.hid (hst.trans hsnoc.symm), hG2.keep hf3 (fun k hk hbk => hD2 k hbk hk), Lib.hid (fun b hb => ⟨(hF2 b hb).1, by have := (hF2 b hb).2; have := hf3.size; omega⟩), Lib.hid ?_, hown3, hb2.fr hf3 (Nat.le_refl _) (fun j hj => (hown2.lt j hj).1)⟩
        intro b hb hF
        rcases hk3 b hb with h | h
        · exact hD2 b h hF
        · have := (hF2 b hF).2; omega
      have HE := Lib.hid hend; clear hend
      have HN := Lib.hid hnames; clear hnames
      have HSN := Lib.hid hsnoc; clear hsnoc
      have hop : l[k].1 = 0 ∨ l[k].1 = 1 ∨ l[k].1 = 2 ∨ l[k].1 = 3 := by have := hstep.1; have := hstep.2.1; omega
      have HS := Lib.hid hstep; clear hstep
      rcases hop with hop | hop | hop | hop
      · have e0 : (l[k].1 == 0) = true := by simpa using hop
        have HO := Lib.hid hop; clear hop
        go_wp2_with (first
          | (go_at_call 36
             refine (AddNode_calls _ hG1 (by omega)).mono ?_
             rintro e w2 ⟨rfl, hG2, hf2⟩
             have hown2 := hown1.fr hf2 HD.out
             have hs2 : w.heap.size ≤ w2.heap.size := by have := hf2.size; simp at this; omega)
          | (at_builtin
             refine wpList_append_new encB 1 encB_len encB_one _ _ rfl _ _ 29 rfl 4 _ 1 Try.underlying29 infoB rfl (by omega) w.heap.size a' cap' m _ rfl rfl hown2 (!decide (l[k].2.1 ∈ names G)) _ _ rfl rfl (by omega) (by omega) hs2 ?_
             intro a3 cap3 w3 hown3 hf3 hk3))
        go_roundw
        case rel =>
          refine HE.out w2 (fun b => (F b ∨ (wr.alloc (.cells #[.int .i64 l[k].1, .string l[k].2.1, .string l[k].2.2] 26)).heap.size ≤ b) ∧ b < w2.heap.size) (addN G l[k].2.1) (!decide (l[k].2.1 ∈ names G)) (hb1.fr hf2 (Nat.le_refl _) (fun b hb => (HF.out b hb).1)) hG2.bound ?_ ?_ hown2 (by simp [stepG, HO.out]) a3 cap3 w3 hown3 hf3 hk3
          · rintro b ⟨hb1 | hb1, hb2⟩
            · exact ⟨(HF.out b hb1).1, hb2⟩
            · simp at hb1; exact ⟨by omega, hb2⟩
          · rintro b hbb ⟨hb1 | hb1, hb2⟩
            · exact HD.out b hbb hb1
            · have := (hown1.lt b hbb).2; omega
        case measure => simp [intOf]; omega
      · have e0 : (l[k].1 == 0) = false := by simp [hop]
        have e1 : (l[k].1 == 1) = true := by simp [hop]
        have HO := Lib.hid hop; clear hop
        have hin : l[k].2.1 ∈ names G := (HN.out _).2 (HS.out.2.2 (.inl HO.out)).1
        have HI := Lib.hid hin; clear hin
        go_wp2_with (first
          | (go_at_call 37
             refine (addEdge_calls _ _ hG1 HI.out).mono ?_
             rintro e w2 ⟨rfl, hG2, hf2⟩
             have hown2 := hown1.fr hf2 HD.out
             have hs2 : w.heap.size ≤ w2.heap.size := by have := hf2.size; simp at this; omega)
          | (at_builtin
             refine wpList_append_new encB 1 encB_len encB_one _ _ rfl _ _ 29 rfl 4 _ 1 Try.underlying29 infoB rfl (by omega) w.heap.size a' cap' m _ rfl rfl hown2 true _ _ rfl rfl (by omega) (by omega) hs2 ?_
             intro a3 cap3 w3 hown3 hf3 hk3))
        go_roundw
        case rel =>
          refine HE.out w2 (fun b => F b ∧ b < w2.heap.size) (addE G l[k].2.1 l[k].2.2) true (hb1.fr hf2 (Nat.le_refl _) (fun b hb => (HF.out b hb).1)) hG2.bound ?_ ?_ hown2 (by simp [stepG, HO.out]) a3 cap3 w3 hown3 hf3 hk3
          · rintro b ⟨hb1, hb2⟩
            exact ⟨(HF.out b hb1).1, hb2⟩
          · rintro b hbb ⟨hb1, hb2⟩
            exact HD.out b hbb hb1
        case measure => simp [intOf]; omega
      · have e0 : (l[k].1 == 0) = false := by simp [hop]
        have e1 : (l[k].1 == 1) = false := by simp [hop]
        have e2 : (l[k].1 == 2) = true := by simp [hop]
        have HO := Lib.hid hop; clear hop
        have hin : l[k].2.1 ∈ names G := (HN.out _).2 (HS.out.2.2 (.inr HO.out)).1
        have HI := Lib.hid hin; clear hin
        go_wp2_with (first
          | (go_at_call 38
             refine (delEdge_calls _ _ hG1 HI.out).mono ?_
             rintro e w2 ⟨rfl, hG2, hf2⟩
             have hown2 := hown1.fr hf2 HD.out
             have hs2 : w.heap.size ≤ w2.heap.size := by have := hf2.size; simp at this; omega)
          | (at_builtin
             refine wpList_append_new encB 1 encB_len encB_one _ _ rfl _ _ 29 rfl 4 _ 1 Try.underlying29 infoB rfl (by omega) w.heap.size a' cap' m _ rfl rfl hown2 true _ _ rfl rfl (by omega) (by omega) hs2 ?_
             intro a3 cap3 w3 hown3 hf3 hk3))
        go_roundw
        case rel =>
          refine HE.out w2 (fun b => F b ∧ b < w2.heap.size) (delE G l[k].2.1 l[k].2.2) true (hb1.fr hf2 (Nat.le_refl _) (fun b hb => (HF.out b hb).1)) hG2.bound ?_ ?_ hown2 (by simp [stepG, HO.out]) a3 cap3 w3 hown3 hf3 hk3
          · rintro b ⟨hb1, hb2⟩
            exact ⟨(HF.out b hb1).1, hb2⟩
          · rintro b hbb ⟨hb1, hb2⟩
            exact HD.out b hbb hb1
        case measure => simp [intOf]; omega
      · have e0 : (l[k].1 == 0) = false := by simp [hop]
        have e1 : (l[k].1 == 1) = false := by simp [hop]
        have e2 : (l[k].1 == 2) = false := by simp [hop]
        have e3 : (l[k].1 == 3) = true := by simp [hop]
        have HO := Lib.hid hop; clear hop
        have hs2 : w.heap.size ≤ (wr.alloc (.cells #[.int .i64 l[k].1, .string l[k].2.1, .string l[k].2.2] 26)).heap.size := by simp; omega
        go_wp2_with (first
          | (go_at_call 39
             refine (hasEdge_calls _ _ hG1).mono ?_
             rintro e w2 ⟨rfl, rfl⟩)
          | (at_builtin
             refine wpList_append_new encB 1 encB_len encB_one _ _ rfl _ _ 29 rfl 4 _ 1 Try.underlying29 infoB rfl (by omega) w.heap.size a' cap' m _ rfl rfl hown1 (hasE G l[k].2.1 l[k].2.2) _ _ (by simp) rfl (by omega) (by omega) hs2 ?_
             intro a3 cap3 w3 hown3 hf3 hk3))
        go_roundw
        case rel =>
          refine HE.out _ (fun b => F b ∧ b < (wr.alloc (.cells #[.int .i64 l[k].1, .string l[k].2.1, .string l[k].2.2] 26)).heap.size) G (hasE G l[k].2.1 l[k].2.2) hb1 hG1.bound ?_ ?_ hown1 (by simp [stepG, HO.out]) a3 cap3 w3 hown3 hf3 hk3
          · rintro b ⟨hb1, hb2⟩
            exact ⟨(HF.out b hb1).1, hb2⟩
          · rintro b hbb ⟨hb1, hb2⟩
            exact HD.out b hbb hb1
        case measure => simp [intOf]; omega
    · go_wp2
      go_ret
      have hk' : l.take k = l := List.take_of_length_le (by omega)
      have hR := HR.out
      rw [hk'] at hR
      have hlen := (runG_len l).2
      rw [← hR] at hlen ⊢
      exact ⟨_, _, _, rfl, hlen, hown, hb⟩
end Go.Proofs.Ythajiimohbjjhaa
