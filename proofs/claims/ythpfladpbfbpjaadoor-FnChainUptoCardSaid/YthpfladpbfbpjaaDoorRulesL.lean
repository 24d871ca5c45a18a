/- laws.rules: rules out of lists. -/
import Derived.Test.YthpfladpbfbpjaaDoorWritten
import Derived.IntWalk
namespace Go.Proofs.YthpfladpbfbpjaaDoor
open Go.RowKit
set_option linter.unusedSimpArgs false

/-- rules whose lists are lists of the argument -/
structure InL (w : World) (Ls : List (List Str)) (qs : List QV) (R : List Rl) : Prop where
  len : qs.length = R.length
  inn : ∀ i (h : i < qs.length) (h' : i < R.length), QAt w qs[i] R[i]
  mem : ∀ r ∈ R, r.1 ∈ Ls ∧ r.2.2 ∈ Ls
theorem InL.nil (w : World) (Ls : List (List Str)) : InL w Ls [] [] := ⟨rfl, fun i h => by simp at h, by simp⟩
theorem InL.app {w : World} {Ls : List (List Str)} {qs : List QV} {R : List Rl} (h : InL w Ls qs R) {q : QV} {r : Rl} (hq : QAt w q r) (hm : r.1 ∈ Ls ∧ r.2.2 ∈ Ls) : InL w Ls (qs ++ [q]) (R ++ [r]) := by
  refine ⟨by simp [h.len], fun i hi hi' => ?_, fun r' hr => ?_⟩
  · simp only [List.length_append, List.length_singleton] at hi
    by_cases e : i < qs.length
    · have e' : i < R.length := by rw [← h.len]; exact e
      rw [List.getElem_append_left e, List.getElem_append_left e']
      exact h.inn i e e'
    · have ei : i = qs.length := by omega
      subst ei
      have : (R ++ [r])[qs.length] = r := by simp [h.len]
      rw [this]
      simp only [List.getElem_concat_length]
      exact hq
  · rcases List.mem_append.1 hr with hr | hr
    · exact h.mem r' hr
    · simp at hr; subst hr; exact hm
theorem InL.dr {w w' : World} {Ls : List (List Str)} {qs : List QV} {R : List Rl} (h : InL w Ls qs R) {B : Nat} {T : TypeId} {a : Option Addr} {cap : Nat} (ho : Own (encQ Value.bool) 3 w' B T a cap qs) (hb : Below w.heap.size w w') : DR w' Value.bool a cap qs R :=
  ⟨ho.sl (encQ_len _), h.len, fun i hi hi' => by
    obtain ⟨h1, h2, h3, h4, h5⟩ := h.inn i hi hi'
    exact ⟨h1, h2, h3, h4.top hb, h5.top hb⟩⟩

set_option maxRecDepth 100000 in
set_option maxHeartbeats 4000000 in
theorem lawRules_calls {a b : Option Addr} {cap capb n m : Nat} {hs : List HV} {Ls : List (List Str)} {zs : List Int} (w : World) (hn : n = Ls.length) (hm : m = zs.length) (h : DL w a cap hs Ls) (h' : Sl encI 1 w b capb zs)
    (hsm : Ls.length ≤ 2147483647) (hzm : zs.length ≤ 2147483647) :
    Calls Tryd.prog 16 #[.slice a n cap, .slice b m capb] w <| RetSl fun a' n' cap' w' => ∃ qs R, n' = R.length ∧ DR w' Value.bool a' cap' qs R ∧ Hid (∀ r ∈ R, r.1 ∈ Ls ∧ r.2.2 ∈ Ls) ∧ R.length ≤ 2147483647 ∧ Below w.heap.size w w' := by
  subst hn
  subst hm
  have hlc := h.row.1
  have hlm := h.row.len
  rw [h.len] at hlc hlm
  have hzc := h'.1
  have hzl := h'.len
  have HA := Lib.hid (fun k hk => h.at (k := k) hk)
  clear h
  go_enter Tryd.func16, Tryd.ntmps16
  go_wp2
  go_loopg [6, 5] Ls.length (fun gk i v wr => ∃ (j : Nat) (a' : Option Addr) (cap' : Nat) (qs : List QV) (R : List Rl), j ≤ 2 * qs.length + 1 ∧ 2 * qs.length + 1 ≤ j ∧ qs.length ≤ Ls.length ∧ gk = Ls.length - qs.length ∧ i = .int .i64 j ∧ v = .slice a' qs.length cap' ∧
    Hid (InL w Ls qs R) ∧ Own (encQ Value.bool) 3 wr w.heap.size 52 a' cap' qs ∧ Below w.heap.size w wr)
  case atStart =>
    exact ⟨1, _, _, [], [], Nat.le_refl _, Nat.le_refl _, Nat.zero_le _, by simp, rfl, rfl, Lib.hid (InL.nil _ _), Own.made (encQ Value.bool) 3 w 52 w.heap.size (Nat.le_refl _), (Below.refl _ _).alloc (Nat.le_refl _) _⟩
  case round =>
    obtain ⟨j, a', cap', qs, R, hj, hj2, hql, rfl, rfl, rfl, HIN, hown, hbk⟩ := hrel
    have hszk := hbk.size
    by_cases hjl : j < Ls.length
    · obtain ⟨p, hp1, hp2⟩ : ∃ p : Nat, p + 1 ≤ j ∧ j ≤ p + 1 := ⟨j - 1, by omega, by omega⟩
      have hpl : p < Ls.length := by omega
      obtain ⟨lb, off, x1, c1, rfl, hlb, g1, s1⟩ := HA.out _ hpl
      obtain ⟨lb', off', x2, c2, hbe, hlb', g2, s2⟩ := HA.out _ hjl
      simp only [Option.some.injEq, Addr.mk.injEq] at hbe
      obtain ⟨rfl, rfl, _⟩ := hbe
      have HAP : Hid (∀ bb, InL w Ls (qs ++ [((x1, Ls[p].length, c1), bb, (x2, Ls[j].length, c2))]) (R ++ [(Ls[p], bb, Ls[j])])) := Lib.hid (fun bb => HIN.out.app ⟨rfl, rfl, rfl, s1, s2⟩ ⟨List.getElem_mem hpl, List.getElem_mem hjl⟩)
      clear s1 s2
      generalize Ls[p] = L1 at *
      generalize Ls[j] = L2 at *
      obtain ⟨wo, rfl⟩ : ∃ wo : World, wo = wr := ⟨_, rfl⟩
      have e1 : wo.cell? ⟨lb, off + p, none⟩ = some (.slice x1 L1.length c1) := (hbk.cell (p := ⟨lb, off + p, none⟩) hlb).trans g1
      have e2 : wo.cell? ⟨lb, off + j, none⟩ = some (.slice x2 L2.length c2) := (hbk.cell (p := ⟨lb, off + j, none⟩) hlb).trans g2
      have hz' := h'.top hbk
      go_wp2
      go_loopg [19, 7] zs.length (fun gk i v wq => ∃ (q : Nat) (bb : Bool), q ≤ zs.length ∧ gk = zs.length - q ∧ i = .int .i64 q ∧ v = .bool bb ∧ wq = wo)
      case atStart => exact ⟨0, false, Nat.zero_le _, by omega, rfl, rfl, rfl⟩
      case round =>
        obtain ⟨q, bb, hq, rfl, rfl, rfl, rfl⟩ := hrel
        by_cases hqz : q < zs.length
        · obtain ⟨zb, zo, rfl, cz⟩ := hz'.i1 hqz
          generalize zs[q] = z at *
          clear e1 e2
          rcases bb with _ | _
          · go_wp2
            go_roundg (zs.length - (q + 1))
            case measure => omega
            case rel => exact ⟨q + 1, _, by omega, rfl, by go_num, rfl, rfl⟩
          · go_wp2
            go_roundg (zs.length - (q + 1))
            case measure => omega
            case rel => exact ⟨q + 1, _, by omega, rfl, by go_num, rfl, rfl⟩
        · have hrow := hown.drew
          have hx1 : (0 : Int) ≤ (p : Int) := by omega
          have hx2 : (p : Int) < (Ls.length : Int) := by omega
          have hx3 : IntKind.i64.wrap ((j : Int) - 1) = (p : Int) := by rw [IntWalk.i64_in _ (by omega)]; omega
          have hx4 : (0 : Int) ≤ (j : Int) := by omega
          have hx5 : (j : Int) < (Ls.length : Int) := by omega
          have hszd : w.heap.size ≤ wr.drew.heap.size := hszk
          have hlbn : ¬ blk a' = some lb := fun e => by have := (hown.lt lb e).1; omega
          have hlbs : lb < wr.drew.heap.size := Nat.lt_of_lt_of_le hlb hszk
          have hrlt := Lib.hid hown.lt
          have hqb : (qs.length + 1) ≤ 2147483648 := by omega
          clear g1 g2 hz' h'
          go_wp2
          go_region_held3 (fun w' => w'.cell? ⟨lb, off + p, none⟩ = some (.slice x1 L1.length c1) ∧ w'.cell? ⟨lb, off + j, none⟩ = some (.slice x2 L2.length c2))
            (first | go_keep | (exact ⟨hs5, hs6⟩))
            ((refine step_append_new (y := ((x1, L1.length, c1), bb, (x2, L2.length, c2))) (encQ Value.bool) 3 (encQ_len _) (encQ_one bool_one) wr.drew _ 52 rfl rfl _ _ 25 rfl 52 _ 56 Tryd.underlying25 infoQ rfl (by omega) w.heap.size a' cap' qs rfl hrow _ _ rfl rfl (by omega) (by omega) hszd ?_
              intro g3 cap3 w4 ho4 hf4 hk4
              have hs5 : w4.cell? ⟨lb, off + p, none⟩ = some (.slice x1 L1.length c1) := (hf4.cell (a := ⟨lb, off + p, none⟩) hlbs hlbn).trans e1
              have hs6 : w4.cell? ⟨lb, off + j, none⟩ = some (.slice x2 L2.length c2) := (hf4.cell (a := ⟨lb, off + j, none⟩) hlbs hlbn).trans e2))
          go_wp2
          go_roundg (Ls.length - (qs.length + 1))
          case measure => omega
          case rel =>
            exact ⟨j + 2, some ⟨g3, 0, none⟩, cap3, _, _, by simp; omega, by simp; omega, by simp; omega, by simp, by go_num, by simp, Lib.hid (HAP.out bb), ho4, (hbk.fr (Fr.drew NoB _) (Nat.le_refl _) (fun _ e => e.elim)).fr hf4 (Nat.le_refl _) (fun b e => (hrlt.out b e).1)⟩
    · have hR : R.length ≤ 2147483647 := by rw [← HIN.out.len]; omega
      go_wp2
      go_ret
      exact ⟨_, _, _, rfl, qs, R, HIN.out.len, HIN.out.dr hown hbk, Lib.hid HIN.out.mem, hR, hbk⟩
end Go.Proofs.YthpfladpbfbpjaaDoor
