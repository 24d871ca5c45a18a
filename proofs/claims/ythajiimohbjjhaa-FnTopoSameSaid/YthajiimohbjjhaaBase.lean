/- Words and laws over any program, used by all walks of this seat: frames, slices that read as lists, rows of the call's own, maps with string keys. -/
import Derived.WalkKit
import Derived.WalkLawsBesides
import Derived.WalkSpells
import Derived.Maps.RangeRun
import Derived.Deep.QuietTactic
import Derived.BigQuiet
import Derived.Lib.Hide
import Derived.Maps.AppendAt
import Derived.Deep.AppendLies
import Derived.Deep.RegionWith
import Derived.StillTailTactics
namespace Go.Proofs.Ythajiimohbjjhaa
open Go.RowKit

abbrev Str := ByteArray
abbrev maxI : Nat := 9223372036854775807

theorem tl_iff {a b : Str} : a.toList = b.toList ↔ a = b := by
  rw [ByteArray.toList_eq, ByteArray.toList_eq]
  constructor
  · intro h
    apply ByteArray.ext
    exact Array.toList_inj.1 h
  · intro h; rw [h]
theorem tl_beq (a b : Str) : (a.toList == b.toList) = decide (a = b) := by
  rw [Bool.eq_iff_iff]; simp [tl_iff]
theorem str_beq (a b : Str) : (a == b) = decide (a = b) := by
  rw [Bool.eq_iff_iff]
  constructor
  · intro h
    have h1 : (a.data == b.data) = true := h
    have : a.data = b.data := by simpa using h1
    simp [ByteArray.ext this]
  · intro h
    have : a = b := by simpa using h
    subst this
    show (a.data == a.data) = true
    simp

instance : LawfulBEq ByteArray where
  eq_of_beq {a b} h := by rw [str_beq] at h; simpa using h
  rfl {a} := by rw [str_beq]; simp

theorem nodup_inj {α : Type} : ∀ {l : List α}, l.Nodup → ∀ {i j : Nat} (hi : i < l.length) (hj : j < l.length), l[i] = l[j] → i = j
  | [], _, _, _, hi, _, _ => absurd hi (by simp)
  | x :: r, h, 0, 0, _, _, _ => rfl
  | x :: r, h, 0, j + 1, _, hj, e => by
    exfalso
    apply (List.nodup_cons.1 h).1
    simp only [List.getElem_cons_zero, List.getElem_cons_succ] at e
    rw [e]
    exact List.getElem_mem _
  | x :: r, h, i + 1, 0, hi, _, e => by
    exfalso
    apply (List.nodup_cons.1 h).1
    simp only [List.getElem_cons_zero, List.getElem_cons_succ] at e
    rw [← e]
    exact List.getElem_mem _
  | x :: r, h, i + 1, j + 1, hi, hj, e => by
    have := nodup_inj (List.nodup_cons.1 h).2 (by simpa using hi) (by simpa using hj) (by simpa using e)
    omega

theorem snoc_ind {α : Type} {P : List α → Prop} (h0 : P []) (h1 : ∀ l x, P l → P (l ++ [x])) (l : List α) : P l := by
  have : ∀ n (l : List α), l.length = n → P l := by
    intro n
    induction n with
    | zero => intro l hl; rw [List.eq_nil_of_length_eq_zero hl]; exact h0
    | succ n ih =>
      intro l hl
      have hne : l ≠ [] := by intro e; subst e; simp at hl
      rw [← List.dropLast_concat_getLast hne]
      exact h1 _ _ (ih _ (by simp [hl]))
  exact this _ l rfl

/-! ### frames -/
structure Fr (S : Nat → Prop) (w w' : World) : Prop where
  os : w'.os = w.os
  tape : w'.tape = w.tape
  output : w'.output = w.output
  size : w.heap.size ≤ w'.heap.size
  block : ∀ k, k < w.heap.size → ¬ S k → w'.heap[k]? = w.heap[k]?
def NoB : Nat → Prop := fun _ => False
section
variable {S T : Nat → Prop} {w w1 w2 : World} {B : Nat}
theorem Fr.refl (S : Nat → Prop) (w : World) : Fr S w w := ⟨rfl, rfl, rfl, Nat.le_refl _, fun _ _ _ => rfl⟩
theorem Fr.trans (h : Fr S w w1) (k : Fr T w1 w2) (hT : ∀ b, b < w.heap.size → T b → S b) : Fr S w w2 :=
  ⟨k.os.trans h.os, k.tape.trans h.tape, k.output.trans h.output, Nat.le_trans h.size k.size,
    fun b hb hn => (k.block b (Nat.lt_of_lt_of_le hb h.size) (fun ht => hn (hT b hb ht))).trans (h.block b hb hn)⟩
theorem Fr.mono (h : Fr S w w1) (hS : ∀ b, b < w.heap.size → S b → T b) : Fr T w w1 :=
  ⟨h.os, h.tape, h.output, h.size, fun b hb hn => h.block b hb (fun hs => hn (hS b hb hs))⟩
theorem Fr.alloc (S : Nat → Prop) (w : World) (o : Obj) : Fr S w (w.alloc o) := ⟨rfl, rfl, rfl, by simp, fun b hb _ => Below.heap_alloc w o b hb⟩
theorem Fr.drew (S : Nat → Prop) (w : World) : Fr S w w.drew := ⟨rfl, rfl, rfl, Nat.le_refl _, fun _ _ _ => rfl⟩
theorem Fr.drewN (S : Nat → Prop) (w : World) (n : Nat) : Fr S w (w.drewN n) := ⟨rfl, rfl, rfl, Nat.le_refl _, fun _ _ _ => rfl⟩
theorem Fr.setCell (w : World) (p : Addr) (u : Value) (hS : S p.block) : Fr S w (w.setCell p u) :=
  ⟨rfl, rfl, rfl, by simp [World.setCell], fun b _ hn => Below.heap_setCell w p u b (fun e => hn (e ▸ hS))⟩
theorem Fr.of_below (h : Below B w w1) : Fr (fun b => B ≤ b) w w1 := ⟨h.os, h.tape, h.output, h.size, fun b _ hn => h.block b (by omega)⟩
theorem Fr.of_below_top (h : Below w.heap.size w w1) (S : Nat → Prop) : Fr S w w1 := ⟨h.os, h.tape, h.output, h.size, fun b hb _ => h.block b hb⟩
theorem Fr.of_grown {row : Option Nat} (h : w.grownBy w1 row) : Fr (fun b => row = some b) w w1 := ⟨h.os, h.tape, h.output, h.size, fun b hb hn => h.block b hb (fun e => hn e.symm)⟩
theorem Fr.below (h : Fr S w w1) (hB : B ≤ w.heap.size) (hS : ∀ b, S b → B ≤ b) : Below B w w1 :=
  ⟨h.os, h.tape, h.output, h.size, fun b hb => h.block b (by omega) (fun hs => by have := hS b hs; omega)⟩
theorem Fr.below_top (h : Fr NoB w w1) : Below w.heap.size w w1 := h.below (Nat.le_refl _) (fun _ hs => hs.elim)
theorem Fr.cell (h : Fr S w w1) {a : Addr} (ha : a.block < w.heap.size) (hn : ¬ S a.block) : w1.cell? a = w.cell? a := World.cell?_of_block (h.block _ ha hn)
end
theorem _root_.Go.RowKit.Below.fr {B : Nat} {w0 w w' : World} {S : Nat → Prop} (h : Below B w0 w) (f : Fr S w w') (hB : B ≤ w0.heap.size) (hS : ∀ b, S b → B ≤ b) : Below B w0 w' :=
  h.trans (f.below (Nat.le_trans hB h.size) hS)
theorem _root_.Go.RowKit.Below.top {B : Nat} {w0 w w' : World} (h : Below B w0 w) (k : Below w.heap.size w w') (hB : B ≤ w0.heap.size) : Below B w0 w' :=
  h.trans (k.mono (Nat.le_trans hB h.size))

/-! ### posts, behind names (else the walk's simp takes them apart) -/
def RetB (Q : Bool → World → Prop) (e : Ending) (w' : World) : Prop := ∃ b, e = .returned (.bool b) ∧ Q b w'
def RetV (Q : Value → World → Prop) (e : Ending) (w' : World) : Prop := ∃ v, e = .returned v ∧ Q v w'
def RetSl (Q : Option Addr → Nat → Nat → World → Prop) (e : Ending) (w' : World) : Prop := ∃ a n cap, e = .returned (.slice a n cap) ∧ Q a n cap w'

/-! ### a slice that reads as a list -/
/-- The slice value '.slice a l.length cap' holds the elements of l, each as the cells 'enc x', 'size' of them. -/
def Sl {α : Type} (enc : α → List Value) (size : Nat) (w : World) (a : Option Addr) (cap : Nat) (l : List α) : Prop :=
  l.length ≤ cap ∧ cap ≤ maxI ∧ (0 < l.length → ∃ b off, a = some ⟨b, off, none⟩ ∧ b < w.heap.size ∧
    ∀ k (h : k < l.length) j u, (enc l[k])[j]? = some u → w.cell? ⟨b, off + k * size + j, none⟩ = some u)
section
variable {α : Type} {enc : α → List Value} {size : Nat} {w w' : World} {a : Option Addr} {cap : Nat} {l : List α} {B : Nat}
theorem Sl.len (h : Sl enc size w a cap l) : l.length ≤ 9223372036854775807 := Nat.le_trans h.1 h.2.1
theorem Sl.keep (h : Sl enc size w a cap l) (hs : w.heap.size ≤ w'.heap.size) (hk : ∀ b, b < w.heap.size → w'.heap[b]? = w.heap[b]?) : Sl enc size w' a cap l :=
  ⟨h.1, h.2.1, fun hp => by
    obtain ⟨b, off, e, hb, hc⟩ := h.2.2 hp
    exact ⟨b, off, e, Nat.lt_of_lt_of_le hb hs, fun k hlt j u hu => (World.cell?_of_block (hk b hb)).trans (hc k hlt j u hu)⟩⟩
theorem Sl.below (h : Sl enc size w a cap l) (hb : Below B w w') (hB : w.heap.size ≤ B) : Sl enc size w' a cap l :=
  h.keep hb.size fun b hlt => hb.block b (by omega)
theorem Sl.top (h : Sl enc size w a cap l) (hb : Below w.heap.size w w') : Sl enc size w' a cap l := h.below hb (Nat.le_refl _)
/-- Kept where the one block that it lies in is kept. -/
theorem Sl.fr {S : Nat → Prop} (h : Sl enc size w a cap l) (f : Fr S w w') (hn : ∀ b off, a = some ⟨b, off, none⟩ → ¬ S b) : Sl enc size w' a cap l :=
  ⟨h.1, h.2.1, fun hp => by
    obtain ⟨b, off, e, hb, hc⟩ := h.2.2 hp
    exact ⟨b, off, e, Nat.lt_of_lt_of_le hb f.size, fun k hlt j u hu => (World.cell?_of_block (f.block b hb (hn b off e))).trans (hc k hlt j u hu)⟩⟩
theorem Sl.drew (h : Sl enc size w a cap l) : Sl enc size w.drew a cap l := h
theorem Sl.drewN (h : Sl enc size w a cap l) (n : Nat) : Sl enc size (w.drewN n) a cap l := h
theorem Sl.alloc (h : Sl enc size w a cap l) (o : Obj) : Sl enc size (w.alloc o) a cap l := h.keep (by simp) fun b hb => Below.heap_alloc w o b hb
theorem Sl.take (h : Sl enc size w a cap l) (k : Nat) : Sl enc size w a cap (l.take k) :=
  ⟨by have := h.1; simp; omega, h.2.1, fun hp => by
    obtain ⟨b, off, e, hb, hc⟩ := h.2.2 (by simp at hp; omega)
    exact ⟨b, off, e, hb, fun i hi j u hu => hc i (by simp at hi; omega) j u (by simpa using hu)⟩⟩
theorem Sl.nil_ : Sl enc size w none 0 [] := ⟨by simp, by simp, fun h => by simp at h⟩
end
/-- 'x[lo:hi]': the address that the walk writes. -/
theorem add_some (b off n : Nat) : (⟨b, off, none⟩ : Addr).add n = ⟨b, off + n, none⟩ := by unfold Addr.add; split <;> simp_all

abbrev encS : Str → List Value := fun s => [.string s]
abbrev encB : Bool → List Value := fun b => [.bool b]
abbrev Ed := Str × Str
abbrev encE : Ed → List Value := fun e => [.string e.1, .string e.2]
abbrev St := Int × Str × Str
abbrev encT : St → List Value := fun s => [.int .i64 s.1, .string s.2.1, .string s.2.2]
section
variable {w : World} {a : Option Addr} {cap k : Nat}
theorem Sl.s1 {l : List Str} (h : Sl encS 1 w a cap l) (hk : k < l.length) : ∃ b off, a = some ⟨b, off, none⟩ ∧ w.cell? ⟨b, off + k, none⟩ = some (.string l[k]) := by
  obtain ⟨b, off, e, _, hc⟩ := h.2.2 (by omega)
  exact ⟨b, off, e, by simpa using hc k hk 0 _ rfl⟩
theorem Sl.b1 {l : List Bool} (h : Sl encB 1 w a cap l) (hk : k < l.length) : ∃ b off, a = some ⟨b, off, none⟩ ∧ w.cell? ⟨b, off + k, none⟩ = some (.bool l[k]) := by
  obtain ⟨b, off, e, _, hc⟩ := h.2.2 (by omega)
  exact ⟨b, off, e, by simpa using hc k hk 0 _ rfl⟩
theorem Sl.e2 {l : List Ed} (h : Sl encE 2 w a cap l) (hk : k < l.length) : ∃ b off, a = some ⟨b, off, none⟩ ∧ b < w.heap.size ∧
    w.cell? ⟨b, off + k * 2, none⟩ = some (.string l[k].1) ∧ w.cell? ⟨b, off + k * 2 + 1, none⟩ = some (.string l[k].2) := by
  obtain ⟨b, off, e, hb, hc⟩ := h.2.2 (by omega)
  exact ⟨b, off, e, hb, by simpa using hc k hk 0 _ rfl, by simpa using hc k hk 1 _ rfl⟩
theorem Sl.t3 {l : List St} (h : Sl encT 3 w a cap l) (hk : k < l.length) : ∃ b off, a = some ⟨b, off, none⟩ ∧ b < w.heap.size ∧
    w.cell? ⟨b, off + k * 3, none⟩ = some (.int .i64 l[k].1) ∧ w.cell? ⟨b, off + k * 3 + 1, none⟩ = some (.string l[k].2.1) ∧ w.cell? ⟨b, off + k * 3 + 2, none⟩ = some (.string l[k].2.2) := by
  obtain ⟨b, off, e, hb, hc⟩ := h.2.2 (by omega)
  exact ⟨b, off, e, hb, by simpa using hc k hk 0 _ rfl, by simpa using hc k hk 1 _ rfl, by simpa using hc k hk 2 _ rfl⟩
end

/-! ### a row of the call's own -/
def Own {α : Type} (enc : α → List Value) (size : Nat) (w : World) (B : Nat) (e : TypeId) (a : Option Addr) (cap : Nat) (l : List α) : Prop :=
  w.ownsRow B e size (.slice a l.length cap) l.length (l.flatMap enc)
def blk (a : Option Addr) : Option Nat := a.map (·.block)
theorem ownBlock_slice (a : Option Addr) (n c : Nat) : (Value.slice a n c).ownBlock = blk a := by cases a <;> rfl
theorem flat_get {α : Type} (enc : α → List Value) (size : Nat) (hlen : ∀ x, (enc x).length = size) : ∀ (l : List α) (k : Nat) (h : k < l.length) (j : Nat) (u : Value), (enc l[k])[j]? = some u → (l.flatMap enc)[k * size + j]? = some u
  | x :: r, 0, _, j, u, hu => by
    have hj : j < (enc x).length := by
      have := List.getElem?_eq_some_iff.1 hu
      exact this.1
    simp only [List.getElem_cons_zero] at hu
    rw [List.flatMap_cons, Nat.zero_mul, Nat.zero_add, List.getElem?_append_left hj]
    exact hu
  | x :: r, k + 1, h, j, u, hu => by
    have := flat_get enc size hlen r k (by simpa using h) j u (by simpa using hu)
    rw [List.flatMap_cons, List.getElem?_append_right (by rw [hlen, Nat.add_mul]; omega), hlen]
    rw [show (k + 1) * size + j - size = k * size + j from by rw [Nat.add_mul]; omega]
    exact this
theorem flat_len {α : Type} (enc : α → List Value) (size : Nat) (hlen : ∀ x, (enc x).length = size) (l : List α) : (l.flatMap enc).length = l.length * size := by
  induction l with
  | nil => simp
  | cons x r ih => rw [List.flatMap_cons, List.length_append, ih, hlen, List.length_cons, Nat.add_mul]; omega
section
variable {α : Type} {enc : α → List Value} {size : Nat} {w w' : World} {B : Nat} {e : TypeId} {a : Option Addr} {cap : Nat} {l : List α}
theorem Own.sl (h : Own enc size w B e a cap l) (hlen : ∀ x, (enc x).length = size) : Sl enc size w a cap l := by
  have hcap : l.length ≤ cap ∧ cap ≤ maxI := by
    rcases h.2 with ⟨hv, hn⟩ | ⟨g, cap', cur, hv, _, _, h1, h2, _⟩
    · simp only [Value.slice.injEq] at hv
      obtain ⟨_, _, rfl⟩ := hv
      simp [hn]
    · simp only [Value.slice.injEq] at hv
      obtain ⟨_, _, rfl⟩ := hv
      exact ⟨h1, by simpa [maxLen] using h2⟩
  refine ⟨hcap.1, hcap.2, fun hp => ?_⟩
  rcases h.2 with ⟨hv, hn⟩ | ⟨g, cap', cur, hv, _, hg, _⟩
  · omega
  · simp only [Value.slice.injEq] at hv
    obtain ⟨rfl, _, rfl⟩ := hv
    refine ⟨g, 0, rfl, (Array.getElem?_eq_some_iff.1 hg).1, fun k hk j u hu => ?_⟩
    have := World.ownsRow.cells h (g := g) rfl (k * size + j) u (flat_get enc size hlen l k hk j u hu)
    rw [add_some] at this
    simpa [Nat.add_assoc] using this
theorem Own.lt (h : Own enc size w B e a cap l) : ∀ k, blk a = some k → B ≤ k ∧ k < w.heap.size := by
  intro k hk
  exact World.ownsRow.lt h k (by rw [ownBlock_slice]; exact hk)
theorem Own.fr {S : Nat → Prop} (h : Own enc size w B e a cap l) (f : Fr S w w') (hn : ∀ k, blk a = some k → ¬ S k) : Own enc size w' B e a cap l := by
  refine ⟨h.1, ?_⟩
  rcases h.2 with hv | ⟨g, cap', cur, hv, hb, hg, rest⟩
  · exact .inl hv
  · refine .inr ⟨g, cap', cur, hv, hb, ?_, rest⟩
    have hlt := (Array.getElem?_eq_some_iff.1 hg).1
    have : blk a = some g := by simp only [Value.slice.injEq] at hv; rw [hv.1]; rfl
    rw [f.block g hlt (hn g this)]
    exact hg
theorem Own.alloc (h : Own enc size w B e a cap l) (o : Obj) : Own enc size (w.alloc o) B e a cap l := h.fr (Fr.alloc NoB w o) (fun _ _ hs => hs.elim)
theorem Own.drew (h : Own enc size w B e a cap l) : Own enc size w.drew B e a cap l := h
theorem Own.drewN (h : Own enc size w B e a cap l) (n : Nat) : Own enc size (w.drewN n) B e a cap l := h
theorem Own.top (h : Own enc size w B e a cap l) (hb : Below w.heap.size w w') : Own enc size w' B e a cap l := h.fr (Fr.of_below_top hb NoB) (fun _ _ hs => hs.elim)
theorem Own.nil_ (w : World) (B : Nat) (e : TypeId) : Own enc size w B e none 0 [] := World.ownsRow_nil w B e size
theorem Own.mono {B' : Nat} (h : Own enc size w B e a cap l) (hB : B' ≤ B) : Own enc size w B' e a cap l := by
  refine ⟨h.1, ?_⟩
  rcases h.2 with hv | ⟨g, cap', cur, hv, hb, rest⟩
  · exact .inl hv
  · exact .inr ⟨g, cap', cur, hv, Nat.le_trans hB hb, rest⟩
/-- two rows of unlike element types lie in unlike blocks -/
theorem Own.sep {β : Type} {enc' : β → List Value} {size' : Nat} {B' : Nat} {e' : TypeId} {a' : Option Addr} {cap' : Nat} {l' : List β}
    (h : Own enc size w B e a cap l) (h' : Own enc' size' w B' e' a' cap' l') (hne : e ≠ e') : ∀ k, blk a = some k → ¬ blk a' = some k := by
  intro k hk hk'
  have f : ∀ {γ : Type} {enc : γ → List Value} {size : Nat} {B : Nat} {e : TypeId} {a : Option Addr} {cap : Nat} {l : List γ}, Own enc size w B e a cap l → blk a = some k → ∃ cur, w.heap[k]? = some (.cells cur e (0, 0)) := by
    intro γ enc size B e a cap l h hk
    rcases h.2 with ⟨hv, _⟩ | ⟨g, cap', cur, hv, _, hg, _⟩
    · simp only [Value.slice.injEq] at hv; rw [hv.1] at hk; simp [blk] at hk
    · simp only [Value.slice.injEq] at hv
      rw [hv.1] at hk
      simp only [blk, Option.map_some, Option.some.injEq] at hk
      subst hk
      exact ⟨cur, hg⟩
  obtain ⟨c1, h1⟩ := f h hk
  obtain ⟨c2, h2⟩ := f h' hk'
  rw [h1] at h2
  injection h2 with h2
  injection h2 with _ h3
  exact hne h3
end
/-- A literal's new row: 'T{..}'. -/
theorem Own.lit {α : Type} (enc : α → List Value) (size : Nat) (hlen : ∀ x, (enc x).length = size) (w : World) (e : TypeId) (l : List α) (B : Nat) (hB : B ≤ w.heap.size) (hl : l.length ≤ maxI) :
    Own enc size (w.alloc (.cells (l.flatMap enc).toArray e)) B e (some ⟨w.heap.size, 0, none⟩) l.length l := by
  have := World.ownsRow_lit (base := B) (e := e) (size := size) w (l.flatMap enc).toArray l.length hB (by simpa [maxLen] using hl) (by simp only [List.size_toArray]; exact flat_len enc size hlen l)
  simpa [Own] using this
theorem Own.made {α : Type} (enc : α → List Value) (size : Nat) (w : World) (e : TypeId) (B : Nat) (hB : B ≤ w.heap.size) :
    Own enc size (w.alloc (.cells #[] e)) B e (some ⟨w.heap.size, 0, none⟩) 0 [] :=
  World.ownsRow_made w #[] 0 hB (by simp) (by simp)

theorem cells_new (w : World) (cs : List Value) (T : TypeId) : ∀ j u, cs[j]? = some u → (w.alloc (.cells cs.toArray T)).cell? ((⟨w.heap.size, 0, none⟩ : Addr).add j) = some u := by
  intro j u hu
  rw [add_some, Nat.zero_add, cell_of_row _ _ _ _ _ _ (heap_alloc_new w _)]
  simpa using hu

section
variable {P : Program}
/-- 'x = append(x, v)', x a row of the call's own, v's one-element row just laid. -/
theorem wpList_append_new {α : Type} (enc : α → List Value) (size : Nat) (hlen : ∀ x, (enc x).length = size) (hone : ∀ x u, u ∈ enc x → u.oneCell' = true)
    (w0 : World) (T0 : TypeId) {ops : Array Oper} {rest : List Oper} {o : Oper} {a : Act} {Q : Exit → Act → World → Prop} (hgd : o.guard = none) (s x : Operand) (t : TypeId)
    (ho : o.op = .call { callee := .builtin .append, args := #[s, x], argTypes := #[t, t] })
    (e : TypeId) (z : Value) (bytes : Nat) (ht : P.underlying t = some (.slice e)) (hinfo : (P.info? e).map (fun i => (i.zero, i.size, i.bytes)) = some (some z, size, bytes)) (hzs : z.cells.size = size) (hsz : 0 < size)
    (B : Nat) (sa : Option Addr) (cap : Nat) (l : List α) (n : Nat) (hn : n = l.length) (hs : a.eval s = .slice sa n cap) (hown : Own enc size w0 B e sa cap l)
    (y : α) (c nb : Nat) (hnb : w0.heap.size = nb) (hx : a.eval x = .slice (some ⟨nb, 0, none⟩) 1 c) (h63 : l.length + 1 ≤ 4611686018427387904) (hbytes : (l.length + 1) * bytes ≤ 140737488355328) (hbase : B ≤ w0.heap.size)
    (h : ∀ sa' cap' w', Own enc size w' B e sa' cap' (l ++ [y]) → Fr (fun k => blk sa = some k) w0 w' → (∀ k, blk sa' = some k → blk sa = some k ∨ w0.heap.size ≤ k) → wpList P ops Q rest (a.put o.dst (.slice sa' (n + 1) cap')) w') :
    wpList P ops Q (o :: rest) a (w0.alloc (.cells (enc y).toArray T0)) := by
  subst hn
  subst hnb
  obtain ⟨i, hi, hz0, hz1, hz2⟩ := info_parts hinfo
  refine wpList_append_own_at (w0.alloc (.cells (enc y).toArray T0)) hgd s x t ho B e i z size bytes ht hi hz0 hz1 hz2 hzs hsz (.slice sa l.length cap) l.length (l.flatMap enc) hs (hown.alloc _)
    ⟨w0.heap.size, 0, none⟩ 1 c (enc y) hx (by simpa using hlen y) (cells_new w0 (enc y) T0) (hone y) (by simp only [maxLen]; omega) hbytes (by simp; omega) ?_
  intro v' w' hown' hg _ hat
  have hsh : ∃ sa' cap', v' = .slice sa' (l.length + 1) cap' ∧ (∀ k, blk sa' = some k → blk sa = some k ∨ w0.heap.size ≤ k) := by
    rcases hown'.2 with ⟨_, hv⟩ | ⟨g, cap', cur, hv, _⟩
    · omega
    · refine ⟨_, _, hv, fun k hk => ?_⟩
      rw [hv, ownBlock_slice, ownBlock_slice] at hat
      rcases hat with hat | hat
      · left; rw [← hat]; exact hk
      · right
        rw [hat] at hk
        simp at hk
        omega
  obtain ⟨sa', cap', rfl, hk⟩ := hsh
  refine h sa' cap' w' ?_ ((Fr.alloc _ w0 _).trans (Fr.of_grown hg) ?_) hk
  · unfold Own
    rw [List.flatMap_append, List.length_append]
    simpa using hown'
  · intro b _ hb
    rw [ownBlock_slice] at hb
    exact hb
end
end Go.Proofs.Ythajiimohbjjhaa
