/- The reference's Tokens, Lists, Rules, Graph and Parse, and the package's reader: what each call computes. -/
import Derived.Test.YthpfladpbfbpjaaDoorPackA
import Derived.Deep.LoopGhost
import Derived.Deep.RegionLaw
import Derived.Deep.RegionHeld3
import Derived.IntWalk
import Derived.OwnWalk
import Derived.Lib.OthersKept
import Derived.WalkLawsBesides
import Derived.Defers
import Derived.Recover
/- The reference's letter and sign: what each call computes. -/
namespace Go.Proofs.YthpfladpbfbpjaaDoor
open Go.RowKit

theorem byte_eq (c k : UInt8) : ((c.toNat : Int) == (k.toNat : Int)) = decide (c = k) := by
  rw [Bool.eq_iff_iff]
  simp only [beq_iff_eq, decide_eq_true_eq]
  constructor
  · intro h
    exact UInt8.toNat_inj.1 (by omega)
  · intro h; rw [h]

set_option maxRecDepth 100000 in
theorem letter_yes (c : UInt8) (w : World) (h : letterB c = true) : Calls Tryd.prog 44 #[.int .u8 (c.toNat : Int)] w fun e w' => e = .returned (.bool true) ∧ w = w' := by
  simp only [letterB, Bool.and_eq_true, decide_eq_true_eq, Bool.not_eq_true', decide_eq_false_iff_not] at h
  obtain ⟨⟨⟨⟨⟨⟨h1, h2⟩, h33⟩, h59⟩, h44⟩, h60⟩, h35⟩ := h
  have f33 : ((c.toNat : Int) == 33) = false := (byte_eq c 33).trans (by simp [h33])
  have g33 : ((c.toNat : Int) != 33) = true := by rw [bne, f33]; rfl
  have f59 : ((c.toNat : Int) == 59) = false := (byte_eq c 59).trans (by simp [h59])
  have g59 : ((c.toNat : Int) != 59) = true := by rw [bne, f59]; rfl
  have f44 : ((c.toNat : Int) == 44) = false := (byte_eq c 44).trans (by simp [h44])
  have g44 : ((c.toNat : Int) != 44) = true := by rw [bne, f44]; rfl
  have f60 : ((c.toNat : Int) == 60) = false := (byte_eq c 60).trans (by simp [h60])
  have g60 : ((c.toNat : Int) != 60) = true := by rw [bne, f60]; rfl
  have f35 : ((c.toNat : Int) == 35) = false := (byte_eq c 35).trans (by simp [h35])
  have g35 : ((c.toNat : Int) != 35) = true := by rw [bne, f35]; rfl
  have i1 : (32 : Int) < (c.toNat : Int) := by omega
  have i2 : (c.toNat : Int) < 127 := by omega
  clear h33 h59 h44 h60 h35 h1 h2
  go_enter Tryd.func44, Tryd.ntmps44
  go_wp2
  go_ret
  exact ⟨rfl, rfl⟩
set_option maxRecDepth 100000 in
theorem letter_lo (c : UInt8) (w : World) (h : c.toNat ≤ 32) : Calls Tryd.prog 44 #[.int .u8 (c.toNat : Int)] w fun e w' => e = .returned (.bool false) ∧ w = w' := by
  have i1 : (c.toNat : Int) ≤ 32 := by omega
  clear h
  go_enter Tryd.func44, Tryd.ntmps44
  go_wp2
  go_ret
  exact ⟨rfl, rfl⟩
set_option maxRecDepth 100000 in
theorem letter_hi (c : UInt8) (w : World) (h : 127 ≤ c.toNat) : Calls Tryd.prog 44 #[.int .u8 (c.toNat : Int)] w fun e w' => e = .returned (.bool false) ∧ w = w' := by
  have i1 : (127 : Int) ≤ (c.toNat : Int) := by omega
  clear h
  go_enter Tryd.func44, Tryd.ntmps44
  go_wp2
  go_ret
  exact ⟨rfl, rfl⟩
set_option maxRecDepth 100000 in
theorem letter_33 (c : UInt8) (w : World) (h1 : 32 < c.toNat) (h2 : c.toNat < 127)  (h : c = 33) : Calls Tryd.prog 44 #[.int .u8 (c.toNat : Int)] w fun e w' => e = .returned (.bool false) ∧ w = w' := by
  have f33 : ((c.toNat : Int) == 33) = true := (byte_eq c 33).trans (by simp [h])
  have g33 : ((c.toNat : Int) != 33) = false := by rw [bne, f33]; rfl
  have i1 : (32 : Int) < (c.toNat : Int) := by omega
  have i2 : (c.toNat : Int) < 127 := by omega
  clear h1 h2 h 
  go_enter Tryd.func44, Tryd.ntmps44
  go_wp2
  go_ret
  exact ⟨rfl, rfl⟩
set_option maxRecDepth 100000 in
theorem letter_59 (c : UInt8) (w : World) (h1 : 32 < c.toNat) (h2 : c.toNat < 127) (h33 : ¬ c = 33) (h : c = 59) : Calls Tryd.prog 44 #[.int .u8 (c.toNat : Int)] w fun e w' => e = .returned (.bool false) ∧ w = w' := by
  have f33 : ((c.toNat : Int) == 33) = false := (byte_eq c 33).trans (by simp [h33])
  have g33 : ((c.toNat : Int) != 33) = true := by rw [bne, f33]; rfl
  have f59 : ((c.toNat : Int) == 59) = true := (byte_eq c 59).trans (by simp [h])
  have g59 : ((c.toNat : Int) != 59) = false := by rw [bne, f59]; rfl
  have i1 : (32 : Int) < (c.toNat : Int) := by omega
  have i2 : (c.toNat : Int) < 127 := by omega
  clear h1 h2 h h33
  go_enter Tryd.func44, Tryd.ntmps44
  go_wp2
  go_ret
  exact ⟨rfl, rfl⟩
set_option maxRecDepth 100000 in
theorem letter_44 (c : UInt8) (w : World) (h1 : 32 < c.toNat) (h2 : c.toNat < 127) (h33 : ¬ c = 33) (h59 : ¬ c = 59) (h : c = 44) : Calls Tryd.prog 44 #[.int .u8 (c.toNat : Int)] w fun e w' => e = .returned (.bool false) ∧ w = w' := by
  have f33 : ((c.toNat : Int) == 33) = false := (byte_eq c 33).trans (by simp [h33])
  have g33 : ((c.toNat : Int) != 33) = true := by rw [bne, f33]; rfl
  have f59 : ((c.toNat : Int) == 59) = false := (byte_eq c 59).trans (by simp [h59])
  have g59 : ((c.toNat : Int) != 59) = true := by rw [bne, f59]; rfl
  have f44 : ((c.toNat : Int) == 44) = true := (byte_eq c 44).trans (by simp [h])
  have g44 : ((c.toNat : Int) != 44) = false := by rw [bne, f44]; rfl
  have i1 : (32 : Int) < (c.toNat : Int) := by omega
  have i2 : (c.toNat : Int) < 127 := by omega
  clear h1 h2 h h33 h59
  go_enter Tryd.func44, Tryd.ntmps44
  go_wp2
  go_ret
  exact ⟨rfl, rfl⟩
set_option maxRecDepth 100000 in
theorem letter_60 (c : UInt8) (w : World) (h1 : 32 < c.toNat) (h2 : c.toNat < 127) (h33 : ¬ c = 33) (h59 : ¬ c = 59) (h44 : ¬ c = 44) (h : c = 60) : Calls Tryd.prog 44 #[.int .u8 (c.toNat : Int)] w fun e w' => e = .returned (.bool false) ∧ w = w' := by
  have f33 : ((c.toNat : Int) == 33) = false := (byte_eq c 33).trans (by simp [h33])
  have g33 : ((c.toNat : Int) != 33) = true := by rw [bne, f33]; rfl
  have f59 : ((c.toNat : Int) == 59) = false := (byte_eq c 59).trans (by simp [h59])
  have g59 : ((c.toNat : Int) != 59) = true := by rw [bne, f59]; rfl
  have f44 : ((c.toNat : Int) == 44) = false := (byte_eq c 44).trans (by simp [h44])
  have g44 : ((c.toNat : Int) != 44) = true := by rw [bne, f44]; rfl
  have f60 : ((c.toNat : Int) == 60) = true := (byte_eq c 60).trans (by simp [h])
  have g60 : ((c.toNat : Int) != 60) = false := by rw [bne, f60]; rfl
  have i1 : (32 : Int) < (c.toNat : Int) := by omega
  have i2 : (c.toNat : Int) < 127 := by omega
  clear h1 h2 h h33 h59 h44
  go_enter Tryd.func44, Tryd.ntmps44
  go_wp2
  go_ret
  exact ⟨rfl, rfl⟩
set_option maxRecDepth 100000 in
theorem letter_35 (c : UInt8) (w : World) (h1 : 32 < c.toNat) (h2 : c.toNat < 127) (h33 : ¬ c = 33) (h59 : ¬ c = 59) (h44 : ¬ c = 44) (h60 : ¬ c = 60) (h : c = 35) : Calls Tryd.prog 44 #[.int .u8 (c.toNat : Int)] w fun e w' => e = .returned (.bool false) ∧ w = w' := by
  have f33 : ((c.toNat : Int) == 33) = false := (byte_eq c 33).trans (by simp [h33])
  have g33 : ((c.toNat : Int) != 33) = true := by rw [bne, f33]; rfl
  have f59 : ((c.toNat : Int) == 59) = false := (byte_eq c 59).trans (by simp [h59])
  have g59 : ((c.toNat : Int) != 59) = true := by rw [bne, f59]; rfl
  have f44 : ((c.toNat : Int) == 44) = false := (byte_eq c 44).trans (by simp [h44])
  have g44 : ((c.toNat : Int) != 44) = true := by rw [bne, f44]; rfl
  have f60 : ((c.toNat : Int) == 60) = false := (byte_eq c 60).trans (by simp [h60])
  have g60 : ((c.toNat : Int) != 60) = true := by rw [bne, f60]; rfl
  have f35 : ((c.toNat : Int) == 35) = true := (byte_eq c 35).trans (by simp [h])
  have g35 : ((c.toNat : Int) != 35) = false := by rw [bne, f35]; rfl
  have i1 : (32 : Int) < (c.toNat : Int) := by omega
  have i2 : (c.toNat : Int) < 127 := by omega
  clear h1 h2 h h33 h59 h44 h60
  go_enter Tryd.func44, Tryd.ntmps44
  go_wp2
  go_ret
  exact ⟨rfl, rfl⟩
theorem letter_no (c : UInt8) (w : World) (h : letterB c = false) : Calls Tryd.prog 44 #[.int .u8 (c.toNat : Int)] w fun e w' => e = .returned (.bool false) ∧ w = w' := by
  by_cases h1 : 32 < c.toNat
  · by_cases h2 : c.toNat < 127
    · by_cases h33 : c = 33
      · exact letter_33 c w h1 h2 h33
      by_cases h59 : c = 59
      · exact letter_59 c w h1 h2 h33 h59
      by_cases h44 : c = 44
      · exact letter_44 c w h1 h2 h33 h59 h44
      by_cases h60 : c = 60
      · exact letter_60 c w h1 h2 h33 h59 h44 h60
      by_cases h35 : c = 35
      · exact letter_35 c w h1 h2 h33 h59 h44 h60 h35
      · simp [letterB, h1, h2, h33, h59, h44, h60, h35] at h
    · exact letter_hi c w (by omega)
  · exact letter_lo c w (by omega)

theorem toList_mkS (l : Bs) : (mkS l).toList = l := by
  rw [ByteArray.toList_eq]
  exact bs_mkS l
theorem tl_tok (t : Str) (l : Bs) : (t.toList == l) = decide (t = mkS l) := by
  have := tl_beq t (mkS l)
  rwa [toList_mkS] at this
theorem tok_ne_fact {t k : Str} (h : ¬ t = k) : (t.toList == k.toList) = false := by rw [tl_beq]; simpa using h
theorem tok_eq_fact {t k : Str} (h : t = k) : (t.toList == k.toList) = true := by rw [tl_beq]; simpa using h
theorem sign_calls (t : Str) (w : World) : Calls Tryd.prog 56 #[.string t] w fun e w' => e = .returned (.bool (signT t)) ∧ w = w' := by
  have hs : signT t = (decide (t = tComma) || decide (t = tSemi) || decide (t = tLt) || decide (t = tBar)) := rfl
  rw [hs]
  clear hs
  have e1 : (t.toList == [44]) = decide (t = tComma) := tl_tok t [44]
  have e2 : (t.toList == [59]) = decide (t = tSemi) := tl_tok t [59]
  have e3 : (t.toList == [60]) = decide (t = tLt) := tl_tok t [60]
  have e4 : (t.toList == [33, 60]) = decide (t = tBar) := tl_tok t [33, 60]
  generalize decide (t = tComma) = b1 at *
  generalize decide (t = tSemi) = b2 at *
  generalize decide (t = tLt) = b3 at *
  generalize decide (t = tBar) = b4 at *
  go_enter Tryd.func56, Tryd.ntmps56
  go_wp2
  all_goals
    go_ret
    exact ⟨ret_bool (by simp_all), rfl⟩
end Go.Proofs.YthpfladpbfbpjaaDoor

/- The reference's Tokens: what the call computes. -/
namespace Go.Proofs.YthpfladpbfbpjaaDoor
open Go.RowKit

theorem bs_get (s : Str) (k : Nat) (h : k < s.size) : (bs s)[k]'(by rw [bs_len]; exact h) = s[k] := rfl
theorem bs_drop (s : Str) (k : Nat) (h : k < s.size) : (bs s).drop k = s[k] :: (bs s).drop (k + 1) := by
  rw [List.drop_eq_getElem_cons (by rw [bs_len]; exact h), bs_get s k h]
theorem mkS_extract (s : Str) (a b : Nat) : s.extract a b = mkS (((bs s).drop a).take (b - a)) := by
  have : bs (s.extract a b) = ((bs s).drop a).take (b - a) := by
    unfold bs
    rw [ByteArray.data_extract]
    simp
  rw [← this, mkS_bs]
/-- a scan that stops where p fails -/
theorem scan (p : UInt8 → Bool) : ∀ (l : Bs) (n : Nat), n ≤ l.length → (∀ j (hj : j < l.length), j < n → p l[j] = true) → (∀ (hj : n < l.length), p l[n] = false) → l.takeWhile p = l.take n ∧ l.dropWhile p = l.drop n
  | [], n, hn, _, _ => by simp
  | c :: r, 0, _, _, h => by
    have := h (by simp)
    simp only [List.getElem_cons_zero] at this
    simp [this]
  | c :: r, n + 1, hn, h1, h2 => by
    have hc := h1 0 (by simp) (by omega)
    simp only [List.getElem_cons_zero] at hc
    have ih := scan p r n (by simpa using hn) (fun j hj hjn => by have := h1 (j + 1) (by simpa using hj) (by omega); simpa using this) (fun hj => by have := h2 (by simpa using hj); simpa using this)
    rw [List.takeWhile_cons, List.dropWhile_cons, if_pos hc, if_pos hc, ih.1, ih.2]
    exact ⟨rfl, rfl⟩
/-- the same, over a text from a place on -/
theorem scan_at (p : UInt8 → Bool) (s : Str) (a b : Nat) (hab : a ≤ b) (hb : b ≤ s.size) (h : ∀ j (hj : j < s.size), a ≤ j → j < b → p s[j] = true) (hend : ∀ (hj : b < s.size), p s[b] = false) :
    ((bs s).drop a).takeWhile p = ((bs s).drop a).take (b - a) ∧ ((bs s).drop a).dropWhile p = (bs s).drop b := by
  have hl := bs_len s
  have := scan p ((bs s).drop a) (b - a) (by simp; omega) (fun j hj hjn => by
    simp only [List.length_drop] at hj
    have h1 := h (a + j) (by omega) (by omega) (by omega)
    rw [List.getElem_drop]
    exact h1) (fun hj => by
    simp only [List.length_drop] at hj
    rw [List.getElem_drop]
    have h1 := hend (by omega)
    simp only [show a + (b - a) = b from by omega]
    exact h1)
  refine ⟨this.1, this.2.trans ?_⟩
  rw [List.drop_drop, show a + (b - a) = b from by omega]

theorem mem_takeWhile_at (p : UInt8 → Bool) (s : Str) (a b : Nat) (hab : a ≤ b) (hb : b < s.size) (h : ∀ j (hj : j < s.size), a ≤ j → j < b + 1 → p s[j] = true) : s[b] ∈ ((bs s).drop a).takeWhile p := by
  have hl := bs_len s
  have key : ∀ (l : Bs) (n : Nat) (hn : n < l.length), (∀ j (hj : j < l.length), j < n + 1 → p l[j] = true) → l[n] ∈ l.takeWhile p := by
    intro l
    induction l with
    | nil => intro n hn; simp at hn
    | cons c r ih =>
      intro n hn hp
      have hc := hp 0 (by simp) (by omega)
      simp only [List.getElem_cons_zero] at hc
      rw [List.takeWhile_cons, if_pos hc]
      cases n with
      | zero => simp
      | succ n =>
        rw [List.getElem_cons_succ]
        exact List.mem_cons_of_mem _ (ih n (by simpa using hn) (fun j hj hjn => by have := hp (j + 1) (by simpa using hj) (by omega); simpa using this))
  have h1 := key ((bs s).drop a) (b - a) (by simp; omega) (fun j hj hjn => by
    rw [List.getElem_drop]
    simp only [List.length_drop] at hj
    exact h (a + j) (by omega) (by omega) (by omega))
  rw [List.getElem_drop] at h1
  simp only [show a + (b - a) = b from by omega] at h1
  exact h1

def RetTok (o : Option (List Str)) (w : World) (e : Ending) (w' : World) : Prop := ∃ a n cap b, e = .returned (.tuple #[.slice a n cap, .bool b]) ∧ Below w.heap.size w w' ∧ (o = none → b = false) ∧
  (∀ ts, o = some ts → b = true ∧ n = ts.length ∧ Own encS 1 w' w.heap.size 9 a cap ts)
theorem RetTok.no {w w' : World} {a : Option Addr} {n cap : Nat} (hb : Below w.heap.size w w') : RetTok none w (.returned (.tuple #[.slice a n cap, .bool false])) w' :=
  ⟨_, _, _, _, rfl, hb, fun _ => rfl, fun _ h => by cases h⟩
theorem RetTok.yes {w w' : World} {a : Option Addr} {n cap : Nat} {ts : List Str} (hn : n = ts.length) (hb : Below w.heap.size w w') (ho : Own encS 1 w' w.heap.size 9 a cap ts) : RetTok (some ts) w (.returned (.tuple #[.slice a n cap, .bool true])) w' :=
  ⟨_, _, _, _, rfl, hb, (fun h => (by cases h)), (fun _ h => (by cases h; exact ⟨rfl, hn, ho⟩))⟩
theorem RetTok.of {o o' : Option (List Str)} {w w' : World} {e : Ending} (h : Hid (o = o')) (r : RetTok o' w e w') : RetTok o w e w' := by rw [h.out]; exact r

set_option maxRecDepth 100000 in
set_option maxHeartbeats 4000000 in
theorem tokens_calls (s : Str) (w : World) (hsm : s.size ≤ 2147483647) : Calls Tryd.prog 34 #[.string s] w (RetTok (lex (bs s)) w) := by
  go_enter Tryd.func34, Tryd.ntmps34
  go_wp2
  go_loopg [5, 4] s.size (fun gk i v wr => ∃ (k : Nat) (m : List Str) (a : Option Addr) (cap : Nat), k ≤ s.size ∧ gk = s.size - k ∧ i = .int .i64 k ∧ v = .slice a m.length cap ∧ m.length ≤ k ∧ Hid (lex (bs s) = (lex ((bs s).drop k)).map (m ++ ·)) ∧
    Own encS 1 wr w.heap.size 9 a cap m ∧ Below w.heap.size w wr)
  case atStart => exact ⟨0, [], _, _, Nat.zero_le _, by omega, rfl, rfl, by simp, Lib.hid (by simp), Own.made encS 1 w _ _ (Nat.le_refl _), (Below.refl _ _).alloc (Nat.le_refl _) _⟩
  case round =>
    obtain ⟨k, m, a, cap, hk, rfl, rfl, rfl, hmk, HL, hown, hb⟩ := hrel
    have hsz := hb.size
    by_cases hlt : k < s.size
    · have hdr := bs_drop s k hlt
      rw [hdr] at HL
      have HDR := Lib.hid hdr; clear hdr
      by_cases hc : s[k] = 32
      · have hlx : Hid (lex (bs s) = (lex ((bs s).drop (k + 1))).map (m ++ ·)) := Lib.hid (by rw [HL.out, lex_blank (by rw [hc]; decide)])
        have f32 : ((s[k].toNat : Int) == 32) = true := (byte_eq _ 32).trans (by rw [hc]; decide)
        have f9 : ((s[k].toNat : Int) == 9) = false := (byte_eq _ 9).trans (by rw [hc]; decide)
        have f10 : ((s[k].toNat : Int) == 10) = false := (byte_eq _ 10).trans (by rw [hc]; decide)
        have f35 : ((s[k].toNat : Int) == 35) = false := (byte_eq _ 35).trans (by rw [hc]; decide)
        have f44 : ((s[k].toNat : Int) == 44) = false := (byte_eq _ 44).trans (by rw [hc]; decide)
        have f59 : ((s[k].toNat : Int) == 59) = false := (byte_eq _ 59).trans (by rw [hc]; decide)
        have f60 : ((s[k].toNat : Int) == 60) = false := (byte_eq _ 60).trans (by rw [hc]; decide)
        have f33 : ((s[k].toNat : Int) == 33) = false := (byte_eq _ 33).trans (by rw [hc]; decide)
        clear hc HL HDR
        go_wp2
        go_roundg (s.size - (k + 1))
        case measure => omega
        case rel => exact ⟨k + 1, m, a, cap, by omega, rfl, by go_num, rfl, by omega, hlx, hown, hb⟩
      have n32 : ¬ s[k] = 32 := hc
      clear hc
      by_cases hc : s[k] = 9
      · have hlx : Hid (lex (bs s) = (lex ((bs s).drop (k + 1))).map (m ++ ·)) := Lib.hid (by rw [HL.out, lex_blank (by rw [hc]; decide)])
        have f32 : ((s[k].toNat : Int) == 32) = false := (byte_eq _ 32).trans (by rw [hc]; decide)
        have f9 : ((s[k].toNat : Int) == 9) = true := (byte_eq _ 9).trans (by rw [hc]; decide)
        have f10 : ((s[k].toNat : Int) == 10) = false := (byte_eq _ 10).trans (by rw [hc]; decide)
        have f35 : ((s[k].toNat : Int) == 35) = false := (byte_eq _ 35).trans (by rw [hc]; decide)
        have f44 : ((s[k].toNat : Int) == 44) = false := (byte_eq _ 44).trans (by rw [hc]; decide)
        have f59 : ((s[k].toNat : Int) == 59) = false := (byte_eq _ 59).trans (by rw [hc]; decide)
        have f60 : ((s[k].toNat : Int) == 60) = false := (byte_eq _ 60).trans (by rw [hc]; decide)
        have f33 : ((s[k].toNat : Int) == 33) = false := (byte_eq _ 33).trans (by rw [hc]; decide)
        clear hc HL HDR
        go_wp2
        go_roundg (s.size - (k + 1))
        case measure => omega
        case rel => exact ⟨k + 1, m, a, cap, by omega, rfl, by go_num, rfl, by omega, hlx, hown, hb⟩
      have n9 : ¬ s[k] = 9 := hc
      clear hc
      by_cases hc : s[k] = 10
      · have hlx : Hid (lex (bs s) = (lex ((bs s).drop (k + 1))).map (m ++ ·)) := Lib.hid (by rw [HL.out, lex_blank (by rw [hc]; decide)])
        have f32 : ((s[k].toNat : Int) == 32) = false := (byte_eq _ 32).trans (by rw [hc]; decide)
        have f9 : ((s[k].toNat : Int) == 9) = false := (byte_eq _ 9).trans (by rw [hc]; decide)
        have f10 : ((s[k].toNat : Int) == 10) = true := (byte_eq _ 10).trans (by rw [hc]; decide)
        have f35 : ((s[k].toNat : Int) == 35) = false := (byte_eq _ 35).trans (by rw [hc]; decide)
        have f44 : ((s[k].toNat : Int) == 44) = false := (byte_eq _ 44).trans (by rw [hc]; decide)
        have f59 : ((s[k].toNat : Int) == 59) = false := (byte_eq _ 59).trans (by rw [hc]; decide)
        have f60 : ((s[k].toNat : Int) == 60) = false := (byte_eq _ 60).trans (by rw [hc]; decide)
        have f33 : ((s[k].toNat : Int) == 33) = false := (byte_eq _ 33).trans (by rw [hc]; decide)
        clear hc HL HDR
        go_wp2
        go_roundg (s.size - (k + 1))
        case measure => omega
        case rel => exact ⟨k + 1, m, a, cap, by omega, rfl, by go_num, rfl, by omega, hlx, hown, hb⟩
      have n10 : ¬ s[k] = 10 := hc
      clear hc
      by_cases hc : s[k] = 35
      · have hlow : ∀ j (hj : j < s.size), k ≤ j → j < k + 1 → lineB s[j] = true ∧ lowB s[j] = true := fun j hj h1 h2 => by
          obtain rfl : j = k := by omega
          rw [hc]
          decide
        have hhash : lex (s[k] :: (bs s).drop (k + 1)) = if (((bs s).drop (k + 1)).takeWhile lineB).all lowB then lex (((bs s).drop (k + 1)).dropWhile lineB) else none := by rw [hc, lex_hash]
        rw [hhash] at HL
        have f32 : ((s[k].toNat : Int) == 32) = false := (byte_eq _ 32).trans (by rw [hc]; decide)
        have f9 : ((s[k].toNat : Int) == 9) = false := (byte_eq _ 9).trans (by rw [hc]; decide)
        have f10 : ((s[k].toNat : Int) == 10) = false := (byte_eq _ 10).trans (by rw [hc]; decide)
        have f35 : ((s[k].toNat : Int) == 35) = true := (byte_eq _ 35).trans (by rw [hc]; decide)
        have f44 : ((s[k].toNat : Int) == 44) = false := (byte_eq _ 44).trans (by rw [hc]; decide)
        have f59 : ((s[k].toNat : Int) == 59) = false := (byte_eq _ 59).trans (by rw [hc]; decide)
        have f60 : ((s[k].toNat : Int) == 60) = false := (byte_eq _ 60).trans (by rw [hc]; decide)
        have f33 : ((s[k].toNat : Int) == 33) = false := (byte_eq _ 33).trans (by rw [hc]; decide)
        have hc0 := Lib.hid hc
        clear hc hhash HDR
        obtain ⟨wo, rfl⟩ : ∃ wo : World, wo = wr := ⟨_, rfl⟩
        go_wp2
        go_loopg [5] (s.size - k) (fun gk i wq => ∃ kk : Nat, k ≤ kk ∧ kk ≤ s.size ∧ gk = s.size - kk ∧ i = .int .i64 kk ∧ Hid (∀ j (hj : j < s.size), k ≤ j → j < kk → lineB s[j] = true ∧ lowB s[j] = true) ∧ wo = wq)
        case atStart => exact ⟨k, Nat.le_refl _, hk, rfl, rfl, Lib.hid (fun j hj h1 h2 => by omega), rfl⟩
        case round =>
          clear f32 f9 f10 f35 f44 f59 f60 f33
          obtain ⟨kk, hkk, hkk2, rfl, rfl, HS, rfl⟩ := hrel
          have hdone : ∀ (hkk1 : k + 1 ≤ kk), (∀ (hj : kk < s.size), lineB s[kk] = false) → Hid (lex (bs s) = (lex ((bs s).drop kk)).map (m ++ ·)) := fun hkk1 hend => Lib.hid (by
            have h1 := scan_at lineB s (k + 1) kk hkk1 hkk2 (fun j hj h1 h2 => (HS.out j hj (by omega) h2).1) hend
            have hall : (((bs s).drop (k + 1)).takeWhile lineB).all lowB = true := by
              rw [h1.1, List.all_eq_true]
              intro x hx
              obtain ⟨j, hj, rfl⟩ := List.mem_iff_getElem.1 hx
              simp only [List.length_take, List.length_drop, bs_len] at hj
              rw [List.getElem_take, List.getElem_drop]
              exact (HS.out (k + 1 + j) (by omega) (by omega) (by omega)).2
            rw [HL.out, if_pos hall, h1.2])
          by_cases hkl : kk < s.size
          · by_cases hnl : s[kk] = 10
            · have hk1 : k + 1 ≤ kk := by
                rcases Nat.lt_or_ge k kk with h | h
                · exact h
                · exfalso
                  obtain rfl : kk = k := by omega
                  rw [hc0.out] at hnl
                  revert hnl
                  decide
              have hfin := hdone hk1 (fun _ => by rw [hnl]; decide)
              have g10 : ((s[kk].toNat : Int) == 10) = true := (byte_eq _ 10).trans (by rw [hnl]; decide)
              have g10' : ((s[kk].toNat : Int) != 10) = false := by rw [bne, g10]; rfl
              clear hdone hnl HL HS hc0
              go_wp2
              go_roundg (s.size - kk)
              case measure => omega
              case rel => exact ⟨kk, m, a, cap, by omega, rfl, rfl, rfl, by omega, hfin, hown, hb⟩
            · have g10 : ((s[kk].toNat : Int) == 10) = false := (byte_eq _ 10).trans (by simp [hnl])
              have g10' : ((s[kk].toNat : Int) != 10) = true := by rw [bne, g10]; rfl
              by_cases hhi : 127 ≤ s[kk].toNat
              · have hbad : lex (bs s) = none := by
                  rw [HL.out, if_neg]
                  · rfl
                  · intro hall
                    have hk1 : k + 1 ≤ kk := by
                      rcases Nat.lt_or_ge k kk with h | h
                      · exact h
                      · exfalso
                        obtain rfl : kk = k := by omega
                        rw [hc0.out] at hhi
                        revert hhi
                        decide
                    have hmem : s[kk] ∈ ((bs s).drop (k + 1)).takeWhile lineB := by
                      have hpre : ∀ j (hj : j < s.size), k + 1 ≤ j → j < kk + 1 → lineB s[j] = true := fun j hj h1 h2 => by
                        by_cases e : j = kk
                        · subst e; simp [lineB, hnl]
                        · exact (HS.out j hj (by omega) (by omega)).1
                      exact mem_takeWhile_at lineB s (k + 1) kk hk1 hkl hpre
                    have := List.all_eq_true.1 hall _ hmem
                    simp only [lowB, decide_eq_true_eq] at this
                    omega
                have HBAD := Lib.hid hbad
                have i1 : (127 : Int) ≤ (s[kk].toNat : Int) := by omega
                clear hdone hnl HL HS hc0 hhi hbad
                go_wp2
                go_ret2
                exact RetTok.of HBAD (RetTok.no hb)
              · have hlow2 : Hid (∀ j (hj : j < s.size), k ≤ j → j < kk + 1 → lineB s[j] = true ∧ lowB s[j] = true) := Lib.hid (fun j hj h1 h2 => by
                  by_cases e : j = kk
                  · subst e
                    exact ⟨by simp [lineB, hnl], by simp only [lowB, decide_eq_true_eq]; omega⟩
                  · exact HS.out j hj h1 (by omega))
                have i1 : (s[kk].toNat : Int) < 127 := by omega
                clear hdone hnl HS hc0 hhi
                go_wp2
                go_roundg (s.size - (kk + 1))
                case measure => omega
                case rel => exact ⟨kk + 1, by omega, by omega, rfl, by go_num, hlow2, rfl⟩
          · have hfin := hdone (by omega) (fun h => absurd h hkl)
            clear hdone HL HS hc0
            go_wp2
            go_roundg (s.size - kk)
            case measure => omega
            case rel => exact ⟨kk, m, a, cap, by omega, rfl, rfl, rfl, by omega, hfin, hown, hb⟩
      have n35 : ¬ s[k] = 35 := hc
      clear hc
      by_cases hc : s[k] = 44
      · have hlx : Hid (lex (bs s) = (lex ((bs s).drop (k + 1))).map ((m ++ [s.extract k (k + 1)]) ++ ·)) := Lib.hid (by
          rw [HL.out, lex_sign (by rw [hc]; decide), mkS_extract, HDR.out, Option.map_map]
          congr 1
          funext x
          simp [show k + 1 - k = 1 from by omega])
        have f32 : ((s[k].toNat : Int) == 32) = false := (byte_eq _ 32).trans (by rw [hc]; decide)
        have f9 : ((s[k].toNat : Int) == 9) = false := (byte_eq _ 9).trans (by rw [hc]; decide)
        have f10 : ((s[k].toNat : Int) == 10) = false := (byte_eq _ 10).trans (by rw [hc]; decide)
        have f35 : ((s[k].toNat : Int) == 35) = false := (byte_eq _ 35).trans (by rw [hc]; decide)
        have f44 : ((s[k].toNat : Int) == 44) = true := (byte_eq _ 44).trans (by rw [hc]; decide)
        have f59 : ((s[k].toNat : Int) == 59) = false := (byte_eq _ 59).trans (by rw [hc]; decide)
        have f60 : ((s[k].toNat : Int) == 60) = false := (byte_eq _ 60).trans (by rw [hc]; decide)
        have f33 : ((s[k].toNat : Int) == 33) = false := (byte_eq _ 33).trans (by rw [hc]; decide)
        clear hc HL HDR
        go_wp2_with (at_builtin; refine wpList_append_new encS 1 encS_len encS_one _ _ rfl _ _ 28 rfl 9 _ 16 Tryd.underlying28 infoS rfl (by omega) w.heap.size a cap m _ rfl rfl hown (s.extract k (k + 1)) _ _ rfl rfl (by omega) (by omega) hsz ?_; intro a2 cap2 w2 hown2 hf2 hk2)
        go_roundg (s.size - (k + 1))
        case measure => omega
        case rel => exact ⟨k + 1, m ++ [s.extract k (k + 1)], a2, cap2, by omega, rfl, by go_num, by simp, by simp; omega, hlx, hown2, hb.fr hf2 (Nat.le_refl _) (fun j hj => (hown.lt j hj).1)⟩
      have n44 : ¬ s[k] = 44 := hc
      clear hc
      by_cases hc : s[k] = 59
      · have hlx : Hid (lex (bs s) = (lex ((bs s).drop (k + 1))).map ((m ++ [s.extract k (k + 1)]) ++ ·)) := Lib.hid (by
          rw [HL.out, lex_sign (by rw [hc]; decide), mkS_extract, HDR.out, Option.map_map]
          congr 1
          funext x
          simp [show k + 1 - k = 1 from by omega])
        have f32 : ((s[k].toNat : Int) == 32) = false := (byte_eq _ 32).trans (by rw [hc]; decide)
        have f9 : ((s[k].toNat : Int) == 9) = false := (byte_eq _ 9).trans (by rw [hc]; decide)
        have f10 : ((s[k].toNat : Int) == 10) = false := (byte_eq _ 10).trans (by rw [hc]; decide)
        have f35 : ((s[k].toNat : Int) == 35) = false := (byte_eq _ 35).trans (by rw [hc]; decide)
        have f44 : ((s[k].toNat : Int) == 44) = false := (byte_eq _ 44).trans (by rw [hc]; decide)
        have f59 : ((s[k].toNat : Int) == 59) = true := (byte_eq _ 59).trans (by rw [hc]; decide)
        have f60 : ((s[k].toNat : Int) == 60) = false := (byte_eq _ 60).trans (by rw [hc]; decide)
        have f33 : ((s[k].toNat : Int) == 33) = false := (byte_eq _ 33).trans (by rw [hc]; decide)
        clear hc HL HDR
        go_wp2_with (at_builtin; refine wpList_append_new encS 1 encS_len encS_one _ _ rfl _ _ 28 rfl 9 _ 16 Tryd.underlying28 infoS rfl (by omega) w.heap.size a cap m _ rfl rfl hown (s.extract k (k + 1)) _ _ rfl rfl (by omega) (by omega) hsz ?_; intro a2 cap2 w2 hown2 hf2 hk2)
        go_roundg (s.size - (k + 1))
        case measure => omega
        case rel => exact ⟨k + 1, m ++ [s.extract k (k + 1)], a2, cap2, by omega, rfl, by go_num, by simp, by simp; omega, hlx, hown2, hb.fr hf2 (Nat.le_refl _) (fun j hj => (hown.lt j hj).1)⟩
      have n59 : ¬ s[k] = 59 := hc
      clear hc
      by_cases hc : s[k] = 60
      · have hlx : Hid (lex (bs s) = (lex ((bs s).drop (k + 1))).map ((m ++ [s.extract k (k + 1)]) ++ ·)) := Lib.hid (by
          rw [HL.out, lex_sign (by rw [hc]; decide), mkS_extract, HDR.out, Option.map_map]
          congr 1
          funext x
          simp [show k + 1 - k = 1 from by omega])
        have f32 : ((s[k].toNat : Int) == 32) = false := (byte_eq _ 32).trans (by rw [hc]; decide)
        have f9 : ((s[k].toNat : Int) == 9) = false := (byte_eq _ 9).trans (by rw [hc]; decide)
        have f10 : ((s[k].toNat : Int) == 10) = false := (byte_eq _ 10).trans (by rw [hc]; decide)
        have f35 : ((s[k].toNat : Int) == 35) = false := (byte_eq _ 35).trans (by rw [hc]; decide)
        have f44 : ((s[k].toNat : Int) == 44) = false := (byte_eq _ 44).trans (by rw [hc]; decide)
        have f59 : ((s[k].toNat : Int) == 59) = false := (byte_eq _ 59).trans (by rw [hc]; decide)
        have f60 : ((s[k].toNat : Int) == 60) = true := (byte_eq _ 60).trans (by rw [hc]; decide)
        have f33 : ((s[k].toNat : Int) == 33) = false := (byte_eq _ 33).trans (by rw [hc]; decide)
        clear hc HL HDR
        go_wp2_with (at_builtin; refine wpList_append_new encS 1 encS_len encS_one _ _ rfl _ _ 28 rfl 9 _ 16 Tryd.underlying28 infoS rfl (by omega) w.heap.size a cap m _ rfl rfl hown (s.extract k (k + 1)) _ _ rfl rfl (by omega) (by omega) hsz ?_; intro a2 cap2 w2 hown2 hf2 hk2)
        go_roundg (s.size - (k + 1))
        case measure => omega
        case rel => exact ⟨k + 1, m ++ [s.extract k (k + 1)], a2, cap2, by omega, rfl, by go_num, by simp, by simp; omega, hlx, hown2, hb.fr hf2 (Nat.le_refl _) (fun j hj => (hown.lt j hj).1)⟩
      have n60 : ¬ s[k] = 60 := hc
      clear hc
      by_cases hc : s[k] = 33
      · by_cases hk1 : k + 1 < s.size
        · by_cases hd : s[k + 1] = 60
          · have hlx : Hid (lex (bs s) = (lex ((bs s).drop (k + 2))).map ((m ++ [tBar]) ++ ·)) := Lib.hid (by
              rw [HL.out, hc, bs_drop s (k + 1) hk1, lex_bar, if_pos hd, Option.map_map]
              congr 1
              funext x
              simp [tBar])
            have f32 : ((s[k].toNat : Int) == 32) = false := (byte_eq _ 32).trans (by rw [hc]; decide)
            have f9 : ((s[k].toNat : Int) == 9) = false := (byte_eq _ 9).trans (by rw [hc]; decide)
            have f10 : ((s[k].toNat : Int) == 10) = false := (byte_eq _ 10).trans (by rw [hc]; decide)
            have f35 : ((s[k].toNat : Int) == 35) = false := (byte_eq _ 35).trans (by rw [hc]; decide)
            have f44 : ((s[k].toNat : Int) == 44) = false := (byte_eq _ 44).trans (by rw [hc]; decide)
            have f59 : ((s[k].toNat : Int) == 59) = false := (byte_eq _ 59).trans (by rw [hc]; decide)
            have f60 : ((s[k].toNat : Int) == 60) = false := (byte_eq _ 60).trans (by rw [hc]; decide)
            have f33 : ((s[k].toNat : Int) == 33) = true := (byte_eq _ 33).trans (by rw [hc]; decide)
            have g60 : ((s[k + 1].toNat : Int) == 60) = true := (byte_eq _ 60).trans (by rw [hd]; decide)
            clear hc HL HDR hd
            go_wp2_with (at_builtin; refine wpList_append_new encS 1 encS_len encS_one _ _ rfl _ _ 28 rfl 9 _ 16 Tryd.underlying28 infoS rfl (by omega) w.heap.size a cap m _ rfl rfl hown tBar _ _ rfl rfl (by omega) (by omega) hsz ?_; intro a2 cap2 w2 hown2 hf2 hk2)
            go_roundg (s.size - (k + 2))
            case measure => omega
            case rel => exact ⟨k + 2, m ++ [tBar], a2, cap2, by omega, rfl, by go_num, by simp, by simp; omega, hlx, hown2, hb.fr hf2 (Nat.le_refl _) (fun j hj => (hown.lt j hj).1)⟩
          · have hbad : lex (bs s) = none := by
              rw [HL.out, hc, bs_drop s (k + 1) hk1, lex_bar, if_neg hd]
              rfl
            have HBAD := Lib.hid hbad
            have hno : letterB s[k] = false := by rw [hc]; decide
            have f32 : ((s[k].toNat : Int) == 32) = false := (byte_eq _ 32).trans (by rw [hc]; decide)
            have f9 : ((s[k].toNat : Int) == 9) = false := (byte_eq _ 9).trans (by rw [hc]; decide)
            have f10 : ((s[k].toNat : Int) == 10) = false := (byte_eq _ 10).trans (by rw [hc]; decide)
            have f35 : ((s[k].toNat : Int) == 35) = false := (byte_eq _ 35).trans (by rw [hc]; decide)
            have f44 : ((s[k].toNat : Int) == 44) = false := (byte_eq _ 44).trans (by rw [hc]; decide)
            have f59 : ((s[k].toNat : Int) == 59) = false := (byte_eq _ 59).trans (by rw [hc]; decide)
            have f60 : ((s[k].toNat : Int) == 60) = false := (byte_eq _ 60).trans (by rw [hc]; decide)
            have f33 : ((s[k].toNat : Int) == 33) = true := (byte_eq _ 33).trans (by rw [hc]; decide)
            have g60 : ((s[k + 1].toNat : Int) == 60) = false := (byte_eq _ 60).trans (by simp [hd])
            clear hc HL HDR hd hbad
            go_wp2_with (go_at_call 44; refine (letter_no _ _ hno).mono ?_; rintro e w' ⟨rfl, rfl⟩)
            go_ret2
            exact RetTok.of HBAD (RetTok.no hb)
        · have hbad : lex (bs s) = none := by
            have he : (bs s).drop (k + 1) = [] := List.drop_eq_nil_of_le (by rw [bs_len]; omega)
            rw [HL.out, hc, he, lex_bar1]
            rfl
          have HBAD := Lib.hid hbad
          have hno : letterB s[k] = false := by rw [hc]; decide
          have f32 : ((s[k].toNat : Int) == 32) = false := (byte_eq _ 32).trans (by rw [hc]; decide)
          have f9 : ((s[k].toNat : Int) == 9) = false := (byte_eq _ 9).trans (by rw [hc]; decide)
          have f10 : ((s[k].toNat : Int) == 10) = false := (byte_eq _ 10).trans (by rw [hc]; decide)
          have f35 : ((s[k].toNat : Int) == 35) = false := (byte_eq _ 35).trans (by rw [hc]; decide)
          have f44 : ((s[k].toNat : Int) == 44) = false := (byte_eq _ 44).trans (by rw [hc]; decide)
          have f59 : ((s[k].toNat : Int) == 59) = false := (byte_eq _ 59).trans (by rw [hc]; decide)
          have f60 : ((s[k].toNat : Int) == 60) = false := (byte_eq _ 60).trans (by rw [hc]; decide)
          have f33 : ((s[k].toNat : Int) == 33) = true := (byte_eq _ 33).trans (by rw [hc]; decide)
          clear hc HL HDR hbad
          go_wp2_with (go_at_call 44; refine (letter_no _ _ hno).mono ?_; rintro e w' ⟨rfl, rfl⟩)
          go_ret2
          exact RetTok.of HBAD (RetTok.no hb)
      have n33 : ¬ s[k] = 33 := hc
      clear hc
      by_cases hc : letterB s[k] = true
      · have hword : Hid (∀ kk, k + 1 ≤ kk → kk ≤ s.size → (∀ j (hj : j < s.size), k + 1 ≤ j → j < kk → letterB s[j] = true) → (∀ (hj : kk < s.size), letterB s[kk] = false) → lex (bs s) = (lex ((bs s).drop kk)).map ((m ++ [s.extract k kk]) ++ ·)) := Lib.hid (fun kk h1 h2 h3 h4 => by
          have hs := scan_at letterB s (k + 1) kk h1 h2 h3 h4
          rw [HL.out, lex_letter hc, hs.1, hs.2, mkS_extract, HDR.out, Option.map_map]
          congr 1
          funext x
          rw [show kk - k = (kk - (k + 1)) + 1 from by omega, List.take_succ_cons]
          simp)
        have f32 : ((s[k].toNat : Int) == 32) = false := (byte_eq _ 32).trans (by simp [n32])
        have f9 : ((s[k].toNat : Int) == 9) = false := (byte_eq _ 9).trans (by simp [n9])
        have f10 : ((s[k].toNat : Int) == 10) = false := (byte_eq _ 10).trans (by simp [n10])
        have f35 : ((s[k].toNat : Int) == 35) = false := (byte_eq _ 35).trans (by simp [n35])
        have f44 : ((s[k].toNat : Int) == 44) = false := (byte_eq _ 44).trans (by simp [n44])
        have f59 : ((s[k].toNat : Int) == 59) = false := (byte_eq _ 59).trans (by simp [n59])
        have f60 : ((s[k].toNat : Int) == 60) = false := (byte_eq _ 60).trans (by simp [n60])
        have f33 : ((s[k].toNat : Int) == 33) = false := (byte_eq _ 33).trans (by simp [n33])
        clear n32 n9 n10 n35 n44 n59 n60 n33
        have hcl := Lib.hid hc
        clear hc HL HDR
        obtain ⟨wo, rfl⟩ : ∃ wo : World, wo = wr := ⟨_, rfl⟩
        go_wp2_with (go_at_call 44; refine (letter_yes _ _ hcl.out).mono ?_; rintro e w' ⟨rfl, rfl⟩)
        go_loopg [6] (s.size - k) (fun gk i wq => ∃ kk : Nat, k ≤ kk ∧ kk ≤ s.size ∧ gk = s.size - kk ∧ i = .int .i64 kk ∧ Hid (∀ j (hj : j < s.size), k ≤ j → j < kk → letterB s[j] = true) ∧ wo = wq)
        case atStart => exact ⟨k, Nat.le_refl _, hk, rfl, rfl, Lib.hid (fun j hj h1 h2 => by omega), rfl⟩
        case round =>
          clear f32 f9 f10 f35 f44 f59 f60 f33
          obtain ⟨kk, hkk, hkk2, rfl, rfl, HS, rfl⟩ := hrel
          by_cases hgo : ∃ hkl : kk < s.size, letterB s[kk] = true
          · obtain ⟨hkl, hgo⟩ := hgo
            have hS2 : Hid (∀ j (hj : j < s.size), k ≤ j → j < kk + 1 → letterB s[j] = true) := Lib.hid (fun j hj h1 h2 => by
              by_cases e : j = kk
              · subst e; exact hgo
              · exact HS.out j hj h1 (by omega))
            have HGO := Lib.hid hgo; clear hgo
            clear HS
            go_wp2_with (go_at_call 44; refine (letter_yes _ _ HGO.out).mono ?_; rintro e w' ⟨rfl, rfl⟩)
            go_roundg (s.size - (kk + 1))
            case measure => omega
            case rel => exact ⟨kk + 1, by omega, by omega, rfl, by go_num, hS2, rfl⟩
          · have hend : ∀ (hj : kk < s.size), letterB s[kk] = false := fun hj => by
              cases hb : letterB s[kk] with
              | false => rfl
              | true => exact absurd ⟨hj, hb⟩ hgo
            have hk1 : k + 1 ≤ kk := by
              rcases Nat.lt_or_ge k kk with h | h
              · exact h
              · exfalso
                obtain rfl : kk = k := by omega
                have := hend hlt
                rw [hcl.out] at this
                cases this
            have hlx : Hid (lex (bs s) = (lex ((bs s).drop kk)).map ((m ++ [s.extract k kk]) ++ ·)) := Lib.hid (hword.out kk hk1 hkk2 (fun j hj h1 h2 => HS.out j hj (by omega) h2) hend)
            have HEND := Lib.hid hend; clear hend
            clear hgo HS hword hcl
            by_cases hkl : kk < s.size
            all_goals
              go_wp2_with (first
                | (go_at_call 44; refine (letter_no _ _ (HEND.out hkl)).mono ?_; rintro e w' ⟨rfl, rfl⟩)
                | (at_builtin; refine wpList_append_new encS 1 encS_len encS_one _ _ rfl _ _ 28 rfl 9 _ 16 Tryd.underlying28 infoS rfl (by omega) w.heap.size a cap m _ rfl rfl hown (s.extract k kk) _ _ rfl rfl (by omega) (by omega) hsz ?_; intro a2 cap2 w2 hown2 hf2 hk2))
              go_roundg (s.size - kk)
              case measure => omega
              case rel => exact ⟨kk, m ++ [s.extract k kk], a2, cap2, by omega, rfl, rfl, by simp, by simp; omega, hlx, hown2, hb.fr hf2 (Nat.le_refl _) (fun j hj => (hown.lt j hj).1)⟩
      · have hno : letterB s[k] = false := by simpa using hc
        have hbad : lex (bs s) = none := by
          rw [HL.out, lex_other (by simp [blankB, n32, n9, n10]) n35 (by simp [signB, n44, n59, n60]) n33 hno]
          rfl
        have HBAD := Lib.hid hbad
        have f32 : ((s[k].toNat : Int) == 32) = false := (byte_eq _ 32).trans (by simp [n32])
        have f9 : ((s[k].toNat : Int) == 9) = false := (byte_eq _ 9).trans (by simp [n9])
        have f10 : ((s[k].toNat : Int) == 10) = false := (byte_eq _ 10).trans (by simp [n10])
        have f35 : ((s[k].toNat : Int) == 35) = false := (byte_eq _ 35).trans (by simp [n35])
        have f44 : ((s[k].toNat : Int) == 44) = false := (byte_eq _ 44).trans (by simp [n44])
        have f59 : ((s[k].toNat : Int) == 59) = false := (byte_eq _ 59).trans (by simp [n59])
        have f60 : ((s[k].toNat : Int) == 60) = false := (byte_eq _ 60).trans (by simp [n60])
        have f33 : ((s[k].toNat : Int) == 33) = false := (byte_eq _ 33).trans (by simp [n33])
        clear hc HL HDR hbad n32 n9 n10 n35 n44 n59 n60 n33
        go_wp2_with (go_at_call 44; refine (letter_no _ _ hno).mono ?_; rintro e w' ⟨rfl, rfl⟩)
        go_ret2
        exact RetTok.of HBAD (RetTok.no hb)
    · have he : (bs s).drop k = [] := List.drop_eq_nil_of_le (by rw [bs_len]; omega)
      have hall : lex (bs s) = some m := by
        rw [HL.out, he, lex_nil]
        simp
      have HALL := Lib.hid hall
      clear HL he hall
      go_wp2
      go_ret2
      exact RetTok.of HALL (RetTok.yes rfl hb hown)
end Go.Proofs.YthpfladpbfbpjaaDoor

/- append of a whole slice to a row of the call's own; the end of a slice. Over any program. -/
namespace Go.Proofs.YthpfladpbfbpjaaDoor
open Go.RowKit

/-- 'x[k:]': the address that the walk writes. -/
def dropA (a : Option Addr) (cap k size : Nat) : Option Addr := if cap = k then a else a.map fun p => p.add (k * size)
section
variable {α : Type} {enc : α → List Value} {size : Nat} {w : World} {a : Option Addr} {cap : Nat} {l : List α}
theorem Sl.drop (h : Sl enc size w a cap l) (k : Nat) (hk : k ≤ l.length) : Sl enc size w (dropA a cap k size) (cap - k) (l.drop k) := by
  refine ⟨by have := h.1; simp; omega, by have := h.2.1; omega, fun hp => ?_⟩
  simp only [List.length_drop] at hp
  obtain ⟨b, off, rfl, hb, hc⟩ := h.2.2 (by omega)
  have hne : ¬ cap = k := by have := h.1; omega
  refine ⟨b, off + k * size, ?_, hb, fun i hi j u hu => ?_⟩
  · unfold dropA
    rw [if_neg hne, Option.map_some, add_some]
  · simp only [List.length_drop] at hi
    have := hc (k + i) (by omega) j u (by simpa using hu)
    rw [Nat.add_mul] at this
    rw [show off + k * size + i * size + j = off + (k * size + i * size) + j from by omega]
    exact this
end
section
variable {P : Program}
theorem run_append_list {α : Type} (enc : α → List Value) (size : Nat) (hlen : ∀ x, (enc x).length = size) (hone : ∀ x u, u ∈ enc x → u.oneCell' = true) (w : World) (t ty : TypeId)
    (e : TypeId) (z : Value) (bytes : Nat) (ht : P.underlying t = some (.slice e)) (hinfo : (P.info? e).map (fun i => (i.zero, i.size, i.bytes)) = some (some z, size, bytes)) (hzs : z.cells.size = size) (hsz : 0 < size)
    (B : Nat) (sa : Option Addr) (cap : Nat) (l : List α) (hown : Own enc size w B e sa cap l) (xa : Option Addr) (xc : Nat) (ys : List α) (hsl : Sl enc size w xa xc ys)
    (h63 : l.length + ys.length ≤ 4611686018427387904) (hbytes : (l.length + ys.length) * bytes ≤ 140737488355328) (hbase : B ≤ w.heap.size) :
    ∃ sa' cap' w', (Builtin.append_ #[t, t] ty #[.slice sa l.length cap, .slice xa ys.length xc]).run P w = .ok (.slice sa' (l.length + ys.length) cap') w' ∧ Own enc size w' B e sa' cap' (l ++ ys) ∧ Fr (fun k => blk sa = some k) w w' ∧
      (∀ k, blk sa' = some k → blk sa = some k ∨ w.heap.size ≤ k) := by
  obtain ⟨i, hi, hz0, hz1, hz2⟩ := info_parts hinfo
  cases xa with
  | none =>
    have hy : ys = [] := by
      cases ys with
      | nil => rfl
      | cons y r =>
        obtain ⟨b, off, e1, _⟩ := hsl.2.2 (by simp)
        cases e1
    subst hy
    refine ⟨sa, cap, w, ?_, by simpa using hown, Fr.refl _ _, fun k hk => .inl hk⟩
    rcases hown.2 with ⟨hv, _⟩ | ⟨g, cap', cur, hv, _, _, hnc, _⟩
    · simp only [Value.slice.injEq] at hv
      obtain ⟨rfl, hn, rfl⟩ := hv
      rw [hn]
      simp [Builtin.append_, run_underlying ht, sizeOf, typeInfo, hi, Builtin.lenOf, Builtin.firstCells]
    · simp only [Value.slice.injEq] at hv
      obtain ⟨rfl, _, rfl⟩ := hv
      simp [Builtin.append_, run_underlying ht, sizeOf, typeInfo, hi, Builtin.lenOf, Builtin.firstCells, hnc, storeCells]
  | some ad =>
    have hnews : ∀ j u, (ys.flatMap enc)[j]? = some u → w.cell? (ad.add j) = some u := by
      intro j u hu
      have hjl := (List.getElem?_eq_some_iff.1 hu).1
      rw [flat_len enc size hlen] at hjl
      have hpos : 0 < ys.length := by
        rcases Nat.eq_zero_or_pos ys.length with h0 | h0
        · rw [h0, Nat.zero_mul] at hjl; omega
        · exact h0
      obtain ⟨b, off, e1, _, hc⟩ := hsl.2.2 hpos
      obtain rfl := Option.some.inj e1
      have hk : j / size < ys.length := by
        rw [Nat.div_lt_iff_lt_mul hsz]
        exact hjl
      have hmod : j / size * size + j % size = j := by rw [Nat.mul_comm]; exact Nat.div_add_mod j size
      have hj2 : j % size < (enc ys[j / size]).length := by rw [hlen]; exact Nat.mod_lt _ hsz
      have h1 := flat_get enc size hlen ys (j / size) hk (j % size) _ (List.getElem?_eq_getElem hj2)
      rw [hmod] at h1
      rw [h1] at hu
      have h2 := hc (j / size) hk (j % size) _ (List.getElem?_eq_getElem hj2)
      rw [add_some, ← hmod, ← Nat.add_assoc]
      rw [h2]
      exact hu
    obtain ⟨v', w', hr, h2, h3, _, h5⟩ := run_append_own_at (P := P) w B t ty e i z size bytes ht hi hz0 hz1 hz2 hzs hsz (.slice sa l.length cap) l.length (l.flatMap enc) hown ad ys.length xc (ys.flatMap enc)
      (flat_len enc size hlen ys) hnews (fun u hu => by
        obtain ⟨x, _, hx⟩ := List.mem_flatMap.1 hu
        exact hone x u hx) (by simp only [maxLen]; omega) hbytes hbase
    have hsh : ∃ sa' cap', v' = .slice sa' (l.length + ys.length) cap' := by
      rcases h2.2 with ⟨hv, hn⟩ | ⟨g, cap', cur, hv, _⟩
      · exact ⟨none, 0, by rw [hv, hn]⟩
      · exact ⟨_, _, hv⟩
    obtain ⟨sa', cap', rfl⟩ := hsh
    refine ⟨sa', cap', w', hr, ?_, (Fr.of_grown h3).mono (fun b _ hb => by rw [ownBlock_slice] at hb; exact hb), fun k hk => ?_⟩
    · unfold Own
      rw [List.flatMap_append, List.length_append]
      exact h2
    · rw [ownBlock_slice, ownBlock_slice] at h5
      rcases h5 with h5 | h5
      · left; rw [← h5]; exact hk
      · right
        rw [h5] at hk
        have := Option.some.inj hk
        omega
/-- 'append(x, ys...)' at a step of a region that draws its order -/
theorem step_append_list {α : Type} (enc : α → List Value) (size : Nat) (hlen : ∀ x, (enc x).length = size) (hone : ∀ x u, u ∈ enc x → u.oneCell' = true)
    (w : World) {ops : Array Oper} {o : Oper} {a : Act} {K : Act → World → Prop} {Q : Exit → Act → World → Prop} {E : Prop} (hgd : o.guard = none) (s x : Operand) (t : TypeId)
    (ho : o.op = .call { callee := .builtin .append, args := #[s, x], argTypes := #[t, t] })
    (e : TypeId) (z : Value) (bytes : Nat) (ht : P.underlying t = some (.slice e)) (hinfo : (P.info? e).map (fun i => (i.zero, i.size, i.bytes)) = some (some z, size, bytes)) (hzs : z.cells.size = size) (hsz : 0 < size)
    (B : Nat) (sa : Option Addr) (cap : Nat) (l : List α) (n : Nat) (hn : n = l.length) (hs : a.eval s = .slice sa n cap) (hown : Own enc size w B e sa cap l) (xa : Option Addr) (xc : Nat) (ys : List α) (m : Nat) (hm : m = ys.length) (hx : a.eval x = .slice xa m xc) (hsl : Sl enc size w xa xc ys)
    (h63 : l.length + ys.length ≤ 4611686018427387904) (hbytes : (l.length + ys.length) * bytes ≤ 140737488355328) (hbase : B ≤ w.heap.size)
    (h : ∀ sa' cap' w', Own enc size w' B e sa' cap' (l ++ ys) → Fr (fun k => blk sa = some k) w w' → (∀ k, blk sa' = some k → blk sa = some k ∨ w.heap.size ≤ k) → K (a.put o.dst (.slice sa' (n + m) cap')) w') :
    if Region.wanted o (yielded ops a.tmps) = true then Oper.wp P o a w K Q else E := by
  subst hn
  subst hm
  have hw : Region.wanted o (yielded ops a.tmps) = true := by simp [Region.wanted, hgd]
  rw [if_pos hw]
  obtain ⟨sa', cap', w', hr, h1, h2, h3⟩ := run_append_list (P := P) enc size hlen hone w t o.type e z bytes ht hinfo hzs hsz B sa cap l hown xa xc ys hsl h63 hbytes hbase
  unfold Oper.wp execOp
  simp only [ho, resolve, invoke, builtin, Sem.run_bind, Sem.run_pure, Result.andThen_ok, List.map_toArray, List.map_cons, List.map_nil, hs, hx, hr]
  exact h sa' cap' w' h1 h2 h3
/-- the same at an operation of a plain region -/
theorem wpList_append_list {α : Type} (enc : α → List Value) (size : Nat) (hlen : ∀ x, (enc x).length = size) (hone : ∀ x u, u ∈ enc x → u.oneCell' = true)
    (w : World) {ops : Array Oper} {rest : List Oper} {o : Oper} {a : Act} {Q : Exit → Act → World → Prop} (hgd : o.guard = none) (s x : Operand) (t : TypeId)
    (ho : o.op = .call { callee := .builtin .append, args := #[s, x], argTypes := #[t, t] })
    (e : TypeId) (z : Value) (bytes : Nat) (ht : P.underlying t = some (.slice e)) (hinfo : (P.info? e).map (fun i => (i.zero, i.size, i.bytes)) = some (some z, size, bytes)) (hzs : z.cells.size = size) (hsz : 0 < size)
    (B : Nat) (sa : Option Addr) (cap : Nat) (l : List α) (n : Nat) (hn : n = l.length) (hs : a.eval s = .slice sa n cap) (hown : Own enc size w B e sa cap l) (xa : Option Addr) (xc : Nat) (ys : List α) (m : Nat) (hm : m = ys.length) (hx : a.eval x = .slice xa m xc) (hsl : Sl enc size w xa xc ys)
    (h63 : l.length + ys.length ≤ 4611686018427387904) (hbytes : (l.length + ys.length) * bytes ≤ 140737488355328) (hbase : B ≤ w.heap.size)
    (h : ∀ sa' cap' w', Own enc size w' B e sa' cap' (l ++ ys) → Fr (fun k => blk sa = some k) w w' → (∀ k, blk sa' = some k → blk sa = some k ∨ w.heap.size ≤ k) → wpList P ops Q rest (a.put o.dst (.slice sa' (n + m) cap')) w') :
    wpList P ops Q (o :: rest) a w := by
  subst hn
  subst hm
  refine wpList_plain hgd fun K hK => ?_
  obtain ⟨sa', cap', w', hr, h1, h2, h3⟩ := run_append_list (P := P) enc size hlen hone w t o.type e z bytes ht hinfo hzs hsz B sa cap l hown xa xc ys hsl h63 hbytes hbase
  unfold Oper.wp execOp
  simp only [ho, resolve, invoke, builtin, Sem.run_bind, Sem.run_pure, Result.andThen_ok, List.map_toArray, List.map_cons, List.map_nil, hs, hx, hr]
  exact hK _ _ (h sa' cap' w' h1 h2 h3)
end
end Go.Proofs.YthpfladpbfbpjaaDoor

/- Lists of lists of texts in memory: rows of slices of the call's own. -/
namespace Go.Proofs.YthpfladpbfbpjaaDoor
open Go.RowKit

/-- a slice value: address, length, capacity -/
abbrev HV := Option Addr × Nat × Nat
abbrev encH : HV → List Value := fun h => [.slice h.1 h.2.1 h.2.2]
theorem encH_len (x : HV) : (encH x).length = 1 := rfl
theorem encH_one (x : HV) (u : Value) (h : u ∈ encH x) : u.oneCell' = true := by simp at h; subst h; rfl
theorem infoH : (Tryd.prog.info? 28).map (fun i => (i.zero, i.size, i.bytes)) = some (some (.slice none 0 0), 1, 24) := by kernel_rfl

/-- the lists and operators of one rule on the way: rows of the call's own, all in blocks of their own -/
structure LS (w : World) (B : Nat) (a : Option Addr) (cap : Nat) (hs : List HV) (oa : Option Addr) (ocap : Nat) (ops : List Str) (Ls : List (List Str)) : Prop where
  outer : Own encH 1 w B 28 a cap hs
  ops : Own encS 1 w B 9 oa ocap ops
  len : hs.length = Ls.length
  inner : ∀ i (h : i < hs.length) (h' : i < Ls.length), hs[i].2.1 = Ls[i].length ∧ Own encS 1 w B 9 hs[i].1 hs[i].2.2 Ls[i]
  dist : ∀ i j (hi : i < hs.length) (hj : j < hs.length), i < j → ∀ k, blk hs[i].1 = some k → ¬ blk hs[j].1 = some k
  disto : ∀ i (hi : i < hs.length) k, blk oa = some k → ¬ blk hs[i].1 = some k
section
variable {w w' : World} {B : Nat} {a : Option Addr} {cap : Nat} {hs : List HV} {oa : Option Addr} {ocap : Nat} {ops : List Str} {Ls : List (List Str)}
theorem LS.top (h : LS w B a cap hs oa ocap ops Ls) (hb : Below w.heap.size w w') : LS w' B a cap hs oa ocap ops Ls where
  outer := h.outer.top hb
  ops := h.ops.top hb
  len := h.len
  inner i hi hi' := ⟨(h.inner i hi hi').1, (h.inner i hi hi').2.top hb⟩
  dist := h.dist
  disto := h.disto
theorem LS.alloc (h : LS w B a cap hs oa ocap ops Ls) (o : Obj) : LS (w.alloc o) B a cap hs oa ocap ops Ls := h.top ((Below.refl _ _).alloc (Nat.le_refl _) o)
/-- the last list made longer by one text -/
theorem LS.app {D : List (List Str)} {cur : List Str} {g : Nat} {t : Str} {a2 : Option Addr} {cap2 : Nat} (h : LS w B (some ⟨g, 0, none⟩) cap hs oa ocap ops (D ++ [cur])) (hi : D.length < hs.length)
    (ho : Own encS 1 w' B 9 a2 cap2 (cur ++ [t])) (hf : Fr (fun k => blk hs[D.length].1 = some k) w w') (hk : ∀ k, blk a2 = some k → blk hs[D.length].1 = some k ∨ w.heap.size ≤ k) :
    LS (w'.setCell ⟨g, D.length, none⟩ (.slice a2 (cur.length + 1) cap2)) B (some ⟨g, 0, none⟩) cap (hs.set D.length (a2, cur.length + 1, cap2)) oa ocap ops (D ++ [cur ++ [t]]) := by
  have hlast := h.inner D.length hi (by simp)
  have hout : Own encH 1 w' B 28 (some ⟨g, 0, none⟩) cap hs := h.outer.fr hf (fun k hk1 hk2 => h.outer.sep hlast.2 (by decide) k hk1 hk2)
  have hset := Own.set1 (f := fun h : HV => Value.slice h.1 h.2.1 h.2.2) hout D.length (a2, cur.length + 1, cap2)
  have f6 : Fr (fun k => k = g) w' (w'.setCell ⟨g, D.length, none⟩ (.slice a2 (cur.length + 1) cap2)) := Fr.setCell _ _ _ rfl
  have far : ∀ {x : Option Addr} {c : Nat} {l : List Str}, Own encS 1 w' B 9 x c l → Own encS 1 (w'.setCell ⟨g, D.length, none⟩ (.slice a2 (cur.length + 1) cap2)) B 9 x c l := fun hx => hx.fr f6 (fun k hk1 hk2 => hx.sep hout (by decide) k hk1 (by rw [hk2]; rfl))
  have hne : ∀ i (h1 : i < hs.length), i ≠ D.length → ∀ k, blk hs[i].1 = some k → ¬ blk hs[D.length].1 = some k := fun i h1 hne k e1 e2 => by
    rcases Nat.lt_or_gt_of_ne hne with hlt | hgt
    · exact h.dist i D.length h1 hi hlt k e1 e2
    · have := h.len
      simp at this
      omega
  have hsize := hf.size
  refine ⟨hset, far (h.ops.fr hf (fun k e1 e2 => h.disto _ hi k e1 e2)), by simpa using h.len, fun i h1 h2 => ?_, fun i j h1 h2 hij k e1 e2 => ?_, fun i h1 k e1 e2 => ?_⟩
  · simp only [List.length_set] at h1
    by_cases e : i = D.length
    · subst e
      simp only [List.getElem_set_self]
      have : (D ++ [cur ++ [t]])[D.length] = cur ++ [t] := by simp
      rw [this]
      exact ⟨by simp, far ho⟩
    · rw [List.getElem_set_ne (fun e' => e e'.symm)]
      have hlen := h.len
      simp at hlen
      have hiD : i < D.length := by omega
      have hin := h.inner i h1 (by simp; omega)
      have e1 : (D ++ [cur ++ [t]])[i] = (D ++ [cur])[i]'(by simp; omega) := by rw [List.getElem_append_left hiD, List.getElem_append_left hiD]
      rw [e1]
      exact ⟨hin.1, far (hin.2.fr hf (hne i h1 e))⟩
  · simp only [List.length_set] at h1 h2
    have hlen := h.len
    simp at hlen
    have hi1 : i ≠ D.length := by omega
    rw [List.getElem_set_ne (fun e' => hi1 e'.symm)] at e1
    by_cases e : j = D.length
    · subst e
      simp only [List.getElem_set_self] at e2
      rcases hk k e2 with h3 | h3
      · exact hne i h1 hi1 k e1 h3
      · have := ((h.inner i h1 (by simp; omega)).2.lt k e1).2
        omega
    · rw [List.getElem_set_ne (fun e' => e e'.symm)] at e2
      exact h.dist i j h1 h2 hij k e1 e2
  · simp only [List.length_set] at h1
    by_cases e : i = D.length
    · subst e
      simp only [List.getElem_set_self] at e2
      rcases hk k e2 with h3 | h3
      · exact h.disto _ hi k e1 h3
      · have := (h.ops.lt k e1).2
        omega
    · rw [List.getElem_set_ne (fun e' => e e'.symm)] at e2
      exact h.disto i h1 k e1 e2
/-- an operator more -/
theorem LS.opp {t : Str} {a2 : Option Addr} {cap2 : Nat} (h : LS w B a cap hs oa ocap ops Ls)
    (ho : Own encS 1 w' B 9 a2 cap2 (ops ++ [t])) (hf : Fr (fun k => blk oa = some k) w w') (hk : ∀ k, blk a2 = some k → blk oa = some k ∨ w.heap.size ≤ k) : LS w' B a cap hs a2 cap2 (ops ++ [t]) Ls where
  outer := h.outer.fr hf (fun k e1 e2 => h.outer.sep h.ops (by decide) k e1 e2)
  ops := ho
  len := h.len
  inner i hi hi' := ⟨(h.inner i hi hi').1, (h.inner i hi hi').2.fr hf (fun k e1 e2 => h.disto i hi k e2 e1)⟩
  dist := h.dist
  disto i hi k e1 e2 := by
    rcases hk k e1 with h3 | h3
    · exact h.disto i hi k h3 e2
    · have := ((h.inner i hi (by rw [← h.len]; exact hi)).2.lt k e2).2
      omega
/-- an empty list more, at a new block of the world w -/
theorem LS.add {a2 : Option Addr} {cap2 : Nat} {w1 : World} (h : LS w B a cap hs oa ocap ops Ls) (hb1 : Below w.heap.size w w1) (hnew : Own encS 1 w1 B 9 (some ⟨w.heap.size, 0, none⟩) 0 [])
    (ho : Own encH 1 w' B 28 a2 cap2 (hs ++ [(some ⟨w.heap.size, 0, none⟩, 0, 0)])) (hf : Fr (fun k => blk a = some k) w1 w') : LS w' B a2 cap2 (hs ++ [(some ⟨w.heap.size, 0, none⟩, 0, 0)]) oa ocap ops (Ls ++ [[]]) := by
  have h1 := h.top hb1
  have hsep : ∀ {x : Option Addr} {c : Nat} {l : List Str}, Own encS 1 w1 B 9 x c l → Own encS 1 w' B 9 x c l := fun hx => hx.fr hf (fun k e1 e2 => hx.sep h1.outer (by decide) k e1 e2)
  refine ⟨ho, hsep h1.ops, by simp [h.len], fun i hi hi' => ?_, fun i j hi hj hij k e1 e2 => ?_, fun i hi k e1 e2 => ?_⟩
  · simp only [List.length_append, List.length_singleton] at hi
    by_cases e : i < hs.length
    · have hl : i < Ls.length := by rw [← h.len]; exact e
      rw [List.getElem_append_left e, List.getElem_append_left hl]
      exact ⟨(h1.inner i e hl).1, hsep (h1.inner i e hl).2⟩
    · have e1 : i = hs.length := by omega
      subst e1
      have : (Ls ++ [[]])[hs.length] = [] := by simp [h.len]
      rw [this]
      simp only [List.getElem_concat_length]
      exact ⟨rfl, hsep hnew⟩
  · simp only [List.length_append, List.length_singleton] at hi hj
    have hi1 : i < hs.length := by omega
    rw [List.getElem_append_left hi1] at e1
    by_cases e : j < hs.length
    · rw [List.getElem_append_left e] at e2
      exact h.dist i j hi1 e hij k e1 e2
    · have ej : j = hs.length := by omega
      subst ej
      simp only [List.getElem_concat_length] at e2
      have := ((h.inner i hi1 (by rw [← h.len]; exact hi1)).2.lt k e1).2
      simp [blk] at e2
      omega
  · simp only [List.length_append, List.length_singleton] at hi
    by_cases e : i < hs.length
    · rw [List.getElem_append_left e] at e2
      exact h.disto i e k e1 e2
    · have ei : i = hs.length := by omega
      subst ei
      simp only [List.getElem_concat_length] at e2
      have := (h.ops.lt k e1).2
      simp [blk] at e2
      omega
end
end Go.Proofs.YthpfladpbfbpjaaDoor

/- The reference's Lists: what the call computes. -/
namespace Go.Proofs.YthpfladpbfbpjaaDoor
open Go.RowKit

theorem lRun_none {ts : List Str} (k : Nat) (h : lRun (ts.take k) = none) : lRun ts = none := by
  have : lRun ts = (ts.drop k).foldl lStep (lRun (ts.take k)) := by
    unfold lRun
    rw [← List.foldl_append, List.take_append_drop]
  rw [this, h]
  have : ∀ l : List Str, l.foldl lStep none = none := by
    intro l
    induction l with
    | nil => rfl
    | cons x r ih => exact ih
  exact this _
theorem Own.some_of {α : Type} {enc : α → List Value} {size : Nat} {w : World} {B : Nat} {e : TypeId} {a : Option Addr} {cap : Nat} {l : List α} (h : Own enc size w B e a cap l) (hl : 0 < l.length) : ∃ g, a = some ⟨g, 0, none⟩ := by
  rcases h.2 with ⟨_, hn⟩ | ⟨g, c, cur, hv, _⟩
  · omega
  · simp only [Value.slice.injEq] at hv
    exact ⟨g, hv.1⟩
def RetLs (o : Option LSt) (w : World) (e : Ending) (w' : World) : Prop := ∃ a n cap oa on ocap b, e = .returned (.tuple #[.slice a n cap, .slice oa on ocap, .bool b]) ∧ Below w.heap.size w w' ∧
  (b = true → ∃ s hs, o = some s ∧ s.nm = false ∧ n = s.done.length + 1 ∧ on = s.ops.length ∧ LS w' w.heap.size a cap hs oa ocap s.ops (s.done ++ [s.cur])) ∧ (b = false → o = none ∨ ∃ s, o = some s ∧ s.nm = true)

set_option maxRecDepth 100000 in
theorem lists_calls {a0 : Option Addr} {cap0 n0 : Nat} {ts : List Str} (w : World) (hn : n0 = ts.length) (h : Sl encS 1 w a0 cap0 ts) (hsm : ts.length ≤ 1073741824) : Calls Tryd.prog 45 #[.slice a0 n0 cap0] w (RetLs (lRun ts) w) := by
  subst hn
  have hl := h.len
  go_enter Tryd.func45, Tryd.ntmps45
  go_wp2
  go_loopg [16, 5, 6, 7] ts.length (fun gk i v5 v6 v7 wr => ∃ (k : Nat) (D : List (List Str)) (O cur : List Str) (nm : Bool) (a : Option Addr) (cap : Nat) (hs : List HV) (oa : Option Addr) (ocap : Nat), k ≤ ts.length ∧ gk = ts.length - k ∧ i = .int .i64 k ∧ v5 = .slice a (D.length + 1) cap ∧ v6 = .slice oa O.length ocap ∧ v7 = .bool nm ∧
    Hid (lRun (ts.take k) = some ⟨D, O, cur, nm⟩) ∧ D.length ≤ k ∧ O.length ≤ k ∧ cur.length ≤ k ∧ Hid (LS wr w.heap.size a cap hs oa ocap O (D ++ [cur])) ∧ Below w.heap.size w wr)
  case atStart =>
    have hbw : Below w.heap.size w (((w.alloc (.cells #[] 9)).alloc (.cells #[.slice (some ⟨w.heap.size, 0, none⟩) 0 0] 28)).alloc (.cells #[] 9)) := (((Below.refl _ _).alloc (Nat.le_refl _) _).alloc (by simp) _).alloc (by simp; omega) _
    refine ⟨0, [], [], [], true, _, _, [(some ⟨w.heap.size, 0, none⟩, 0, 0)], _, _, Nat.zero_le _, by omega, rfl, rfl, rfl, rfl, Lib.hid rfl, by simp, by simp, by simp, Lib.hid ?_, hbw⟩
    have h1 := ((Own.made encS 1 w 9 w.heap.size (Nat.le_refl _)).alloc (.cells #[.slice (some ⟨w.heap.size, 0, none⟩) 0 0] 28)).alloc (.cells #[] 9)
    have h2 := (Own.lit encH 1 (fun _ => rfl) (w.alloc (.cells #[] 9)) 28 [((some ⟨w.heap.size, 0, none⟩, 0, 0) : HV)] w.heap.size (by simp) (by show 1 ≤ 9223372036854775807; omega)).alloc (.cells #[] 9)
    have h3 := Own.made encS 1 ((w.alloc (.cells #[] 9)).alloc (.cells #[.slice (some ⟨w.heap.size, 0, none⟩) 0 0] 28)) 9 w.heap.size (by simp; omega)
    simp only [World.size_alloc] at h2 h3
    refine ⟨h2, h3, rfl, fun i hi hi' => ?_, fun i j hi hj hij => by simp at hi hj; omega, fun i hi k e1 e2 => ?_⟩
    · obtain rfl : i = 0 := by simp at hi; exact hi
      exact ⟨rfl, h1⟩
    · obtain rfl : i = 0 := by simp at hi; exact hi
      simp [blk] at e1 e2
      omega
  case round =>
    obtain ⟨k, D, O, cur, nm, a, cap, hs, oa, ocap, hk, rfl, rfl, rfl, rfl, rfl, HR, hDk, hOk, hck, HLS, hb⟩ := hrel
    have hsz := hb.size
    by_cases hlt : k < ts.length
    · obtain ⟨bb, off, rfl, hs1⟩ := (h.top hb).s1 hlt
      have hstep : lRun (ts.take (k + 1)) = if nm = signT ts[k] then none
          else if nm = true then some ⟨D, O, cur ++ [ts[k]], false⟩
          else if ts[k] = tComma then some ⟨D, O, cur, true⟩
          else some ⟨D ++ [cur], O ++ [ts[k]], [], true⟩ := by
        rw [List.take_succ_eq_append_getElem hlt, lRun_snoc, HR.out, lStep_some]
      have hsg := sign_calls ts[k]
      have hcm := tl_tok ts[k] [44]
      have hhl : D.length < hs.length := by have := HLS.out.len; simp at this; omega
      have hhl2 : hs.length = D.length + 1 := by have := HLS.out.len; simpa using this
      have HST := Lib.hid hstep; clear hstep
      have HSG := Lib.hid hsg; clear hsg
      generalize ts[k] = t at *
      clear HR
      by_cases hsn : nm = signT t
      · have hbad : Hid (lRun ts = none) := Lib.hid (lRun_none (k + 1) (by rw [HST.out, if_pos hsn]))
        have hsn2 : Hid (signT t = nm) := Lib.hid hsn.symm
        clear hsn hcm hhl2
        cases nm
        all_goals
          go_wp2_with (go_at_call 56; refine (HSG.out _).mono ?_; rintro e w' ⟨rfl, rfl⟩; rw [hsn2.out])
          go_ret3
          exact ⟨_, _, _, _, _, _, _, rfl, hb, (fun h => (by cases h)), fun _ => .inl hbad.out⟩
      · have hst2 := HST.out
        rw [if_neg hsn] at hst2
        cases nm
        · have hsn2 : Hid (signT t = true) := Lib.hid (by cases hh : signT t with | true => rfl | false => exact absurd hh.symm hsn)
          rw [if_neg (by decide)] at hst2
          by_cases hc : t = tComma
          · rw [if_pos hc] at hst2
            have hct : (t.toList == [44]) = true := hcm.trans (decide_eq_true (p := t = mkS [44]) hc)
            have HST2 := Lib.hid hst2; clear hst2
            clear hsn hcm hhl2 hc
            go_wp2_with (go_at_call 56; refine (HSG.out _).mono ?_; rintro e w' ⟨rfl, rfl⟩; rw [hsn2.out])
            go_roundg (ts.length - (k + 1))
            case measure => omega
            case rel => exact ⟨k + 1, D, O, cur, true, a, cap, hs, oa, ocap, by omega, rfl, by go_num, rfl, rfl, rfl, HST2, by omega, by omega, by omega, HLS, hb⟩
          · rw [if_neg hc] at hst2
            have hct : (t.toList == [44]) = false := hcm.trans (decide_eq_false (p := t = mkS [44]) hc)
            have HST2 := Lib.hid hst2; clear hst2
            have hops := HLS.out.ops
            have hout := HLS.out.outer
            clear hsn hcm hc
            obtain ⟨wo, rfl⟩ : ∃ wo : World, wo = wr := ⟨_, rfl⟩
            go_wp2_with (first
              | (go_at_call 56; refine (HSG.out _).mono ?_; rintro e w' ⟨rfl, rfl⟩; rw [hsn2.out])
              | (at_builtin
                 have tok := hls2
                 have hnew := Own.made encS 1 w2 9 w.heap.size hsz2
                 refine wpList_append_new encH 1 encH_len encH_one _ _ rfl _ _ 22 rfl 28 _ 24 Tryd.underlying22 infoH rfl (by omega) w.heap.size a cap hs _ hhl2.symm rfl (hls2.out.outer.alloc _) (some ⟨w2.heap.size, 0, none⟩, 0, 0) _ _ (by simp) rfl (by omega) (by omega) (by simp; omega) ?_
                 intro a3 cap3 w3 hown3 hf3 hk3
                 have hls3 := Lib.hid (hls2.out.add ((Below.refl _ _).alloc (Nat.le_refl _) _) hnew hown3 hf3)
                 have hb3 := (hb2.alloc hsz2 (.cells #[] 9)).fr hf3 (Nat.le_refl _) (fun j hj => (hls2.out.outer.lt j hj).1))
              | (at_builtin
                 refine wpList_append_new encS 1 encS_len encS_one _ _ rfl _ _ 28 rfl 9 _ 16 Tryd.underlying28 infoS rfl (by omega) w.heap.size oa ocap O _ rfl rfl hops t _ _ rfl rfl (by omega) (by omega) hsz ?_
                 intro a2 cap2 w2 hown2 hf2 hk2
                 have hls2 := Lib.hid (HLS.out.opp hown2 hf2 hk2)
                 have hb2 := hb.fr hf2 (Nat.le_refl _) (fun j hj => (hops.lt j hj).1)
                 have hsz2 : w.heap.size ≤ w2.heap.size := hb2.size))
            go_roundg (ts.length - (k + 1))
            case measure => omega
            case rel => exact ⟨k + 1, D ++ [cur], O ++ [t], [], true, a3, cap3, hs ++ [(some ⟨w2.heap.size, 0, none⟩, 0, 0)], a2, cap2, by omega, rfl, by go_num, by simp, by simp, rfl, HST2, by simp; omega, by simp; omega, by simp, hls3, hb3⟩
        · have hsn2 : Hid (signT t = false) := Lib.hid (by cases hh : signT t with | false => rfl | true => exact absurd hh.symm hsn)
          rw [if_pos rfl] at hst2
          have HST2 := Lib.hid hst2; clear hst2
          obtain ⟨g, rfl⟩ := HLS.out.outer.some_of (by omega)
          have hlast := HLS.out.inner D.length hhl (by simp)
          have e1 := Own.at1 (f := fun h : HV => Value.slice h.1 h.2.1 h.2.2) HLS.out.outer D.length hhl
          have hz1 := Own.frozen1 (f := fun h : HV => Value.slice h.1 h.2.1 h.2.2) HLS.out.outer
          have hcl : hs[D.length].2.1 = cur.length := by rw [hlast.1]; simp
          have hin : Own encS 1 wr w.heap.size 9 hs[D.length].1 hs[D.length].2.2 cur := by
            have := hlast.2
            simpa using this
          rw [hcl] at e1
          have hapx : Hid (∀ (w' : World) (a2 : Option Addr) (cap2 : Nat), Own encS 1 w' w.heap.size 9 a2 cap2 (cur ++ [t]) → Fr (fun k => blk hs[D.length].1 = some k) wr w' → (∀ k, blk a2 = some k → blk hs[D.length].1 = some k ∨ wr.heap.size ≤ k) →
              LS (w'.setCell ⟨g, D.length, none⟩ (.slice a2 (cur.length + 1) cap2)) w.heap.size (some ⟨g, 0, none⟩) cap (hs.set D.length (a2, cur.length + 1, cap2)) oa ocap O (D ++ [cur ++ [t]])) := Lib.hid (fun w' a2 cap2 h1 h2 h3 => HLS.out.app hhl h1 h2 h3)
          have hsep : Hid (∀ k, blk hs[D.length].1 = some k → ¬ k = g) := Lib.hid (fun k e1 e2 => hin.sep HLS.out.outer (by decide) k e1 (by rw [e2]; rfl))
          have hown3 : Hid (∀ w', Fr (fun k => blk hs[D.length].1 = some k) wr w' → Own encH 1 w' w.heap.size 28 (some ⟨g, 0, none⟩) cap hs) := Lib.hid (fun w' hf => HLS.out.outer.fr hf (fun k e1 e2 => hsep.out k e2 (by simp [blk] at e1; exact e1.symm)))
          have hgB := (HLS.out.outer.lt g rfl)
          generalize hla : hs[D.length].1 = la at *
          generalize hlc : hs[D.length].2.2 = lc at *
          clear hlast hcl hsn hcm hhl2 HLS
          have HLA := Lib.hid hla; clear hla
          have HLC := Lib.hid hlc; clear hlc
          go_wp2_with (first
            | (go_at_call 56; refine (HSG.out _).mono ?_; rintro e w' ⟨rfl, rfl⟩; rw [hsn2.out])
            | (at_builtin
               refine wpList_append_new encS 1 encS_len encS_one _ _ rfl _ _ 28 rfl 9 _ 16 Tryd.underlying28 infoS rfl (by omega) w.heap.size la lc cur _ rfl rfl hin t _ _ rfl rfl (by omega) (by omega) hsz ?_
               intro a2 cap2 w2 hown2 hf2 hk2
               have e2 := Own.at1 (f := fun h : HV => Value.slice h.1 h.2.1 h.2.2) (hown3.out w2 hf2) D.length hhl
               have hz2 := Own.frozen1 (f := fun h : HV => Value.slice h.1 h.2.1 h.2.2) (hown3.out w2 hf2) D.length
               have hls2 := Lib.hid (hapx.out w2 a2 cap2 hown2 hf2 hk2)
               have hb2 := hb.fr hf2 (Nat.le_refl _) (fun j hj => (hin.lt j hj).1)))
          go_roundg (ts.length - (k + 1))
          case measure => omega
          case rel => exact ⟨k + 1, D, O, cur ++ [t], false, some ⟨g, 0, none⟩, cap, _, oa, ocap, by omega, rfl, by go_num, rfl, rfl, rfl, HST2, by omega, by omega, by simp; omega, hls2, hb2.fr (Fr.setCell (S := fun b => b = g) w2 _ _ rfl) (Nat.le_refl _) (fun b e => by omega)⟩
    · have hall : Hid (lRun ts = some ⟨D, O, cur, nm⟩) := Lib.hid (by
        have := HR.out
        rwa [List.take_of_length_le (by omega)] at this)
      clear HR
      cases nm
      all_goals
        go_wp2
        go_ret3
      · exact ⟨_, _, _, _, _, _, _, rfl, hb, fun _ => ⟨⟨D, O, cur, false⟩, hs, hall.out, rfl, rfl, rfl, HLS.out⟩, (fun h => (by cases h))⟩
      · exact ⟨_, _, _, _, _, _, _, rfl, hb, (fun h => (by cases h)), fun _ => .inr ⟨_, hall.out, rfl⟩⟩
end Go.Proofs.YthpfladpbfbpjaaDoor

/- The reference's Rules: what the call computes. -/
namespace Go.Proofs.YthpfladpbfbpjaaDoor
open Go.RowKit

/-! ### plain laws -/
theorem srRun_stuck {ts : List Str} (k : Nat) {x : SRes} (hx : x = none ∨ x = some none) (h : srRun (ts.take k) = x) : srRun ts = x := by
  have : srRun ts = (ts.drop k).foldl srStep (srRun (ts.take k)) := by
    unfold srRun
    rw [← List.foldl_append, List.take_append_drop]
  rw [this, h]
  have : ∀ l : List Str, l.foldl srStep x = x := by
    intro l
    induction l with
    | nil => rfl
    | cons y r ih => rw [List.foldl_cons, show srStep x y = x from by rcases hx with rfl | rfl <;> rfl]; exact ih
  exact this _
theorem rulesOf_len : ∀ (D : List (List Str)) (O : List Str) (c : List Str), D.length = O.length → (rulesOf D O c).length = O.length
  | [], [], c, _ => rfl
  | [x], [p], c, _ => rfl
  | x :: y :: r, p :: q :: os, c, h => by
    have := rulesOf_len (y :: r) (q :: os) c (by simpa using h)
    simp only [rulesOf, List.length_cons] at this ⊢
    rw [this]
  | [], _ :: _, _, h => by simp at h
  | _ :: _, [], _, h => by simp at h
  | [_], _ :: _ :: _, _, h => by simp at h
  | _ :: _ :: _, [_], _, h => by simp at h
theorem rulesOf_get : ∀ (D : List (List Str)) (O : List Str) (c : List Str), D.length = O.length → ∀ (i : Nat) (h : i < (rulesOf D O c).length) (h1 : i < O.length) (h2 : i < (D ++ [c]).length) (h3 : i + 1 < (D ++ [c]).length),
    (rulesOf D O c)[i] = ((D ++ [c])[i], decide (O[i] = tBar), (D ++ [c])[i + 1])
  | [], [], c, _, i, h, _, _, _ => by simp [rulesOf] at h
  | [x], [p], c, _, 0, _, _, _, _ => rfl
  | [x], [p], c, _, i + 1, h, _, _, _ => by simp [rulesOf] at h
  | x :: y :: r, p :: q :: os, c, hl, 0, _, _, _, _ => rfl
  | x :: y :: r, p :: q :: os, c, hl, i + 1, h, h1, h2, h3 => by
    have := rulesOf_get (y :: r) (q :: os) c (by simpa using hl) i (by simpa [rulesOf] using h) (by simpa using h1) (by simpa using h2) (by simpa using h3)
    simpa [rulesOf] using this
  | [], _ :: _, _, h, _, _, _, _, _ => by simp at h
  | _ :: _, [], _, h, _, _, _, _, _ => by simp at h
  | [_], _ :: _ :: _, _, h, _, _, _, _, _ => by simp at h
  | _ :: _ :: _, [_], _, h, _, _, _, _, _ => by simp at h
theorem lRun_count (seg : List Str) : ∀ s, lRun seg = some s → s.ops.length ≤ seg.length := by
  refine snoc_ind (P := fun seg => ∀ s, lRun seg = some s → s.ops.length ≤ seg.length) ?_ ?_ seg
  · intro s h; cases h; simp
  · intro l t ih s h
    rw [lRun_snoc] at h
    cases hl : lRun l with
    | none => rw [hl] at h; cases h
    | some s0 =>
      rw [hl, lStep_some] at h
      have := ih s0 hl
      simp only [List.length_append, List.length_singleton]
      split at h
      · cases h
      split at h
      · cases h; simp; omega
      split at h
      · cases h; simp; omega
      · cases h; simp; omega
theorem srRun_count (ts : List Str) : ∀ out seg, srRun ts = some (some (out, seg)) → out.length + seg.length ≤ ts.length := by
  refine snoc_ind (P := fun ts => ∀ out seg, srRun ts = some (some (out, seg)) → out.length + seg.length ≤ ts.length) ?_ ?_ ts
  · intro out seg h; cases h; simp
  · intro l t ih out seg h
    rw [srRun_snoc] at h
    simp only [List.length_append, List.length_singleton]
    rcases hs : srRun l with _ | _ | ⟨o, sg⟩
    · rw [hs] at h; cases h
    · rw [hs] at h; cases h
    · rw [hs] at h
      have h0 := ih o sg hs
      by_cases ht : t = tSemi
      · simp only [srStep, if_pos ht] at h
        split at h
        · cases h
        · cases hl : lRun sg with
          | none => rw [hl] at h; cases h
          | some s =>
            rw [hl] at h
            simp only at h
            split at h
            · cases h
            split at h
            · cases h
            · cases h
              have := lRun_count sg s hl
              simp [rulesOf_len _ _ _ (lRun_len sg s hl)]
              omega
      · simp only [srStep, if_neg ht] at h
        cases h
        simp
        omega
/-- What spec.Rules returns of a text. -/
def rulesS (s : Str) : St3 (List Rl) := match lex (bs s) with
  | none => none
  | some ts => if 400 < s.size then none else srEnd (srRun ts)

/-! ### rules in memory -/
abbrev QV := HV × Bool × HV
abbrev encQ (f : Bool → Value) : QV → List Value := fun q => [.slice q.1.1 q.1.2.1 q.1.2.2, f q.2.1, .slice q.2.2.1 q.2.2.2.1 q.2.2.2.2]
theorem encQ_len (f : Bool → Value) (x : QV) : (encQ f x).length = 3 := rfl
/-- a rule's fields, each list a row of the call's own -/
def QOwn (w : World) (B : Nat) (q : QV) (r : Rl) : Prop :=
  q.1.2.1 = r.1.length ∧ q.2.1 = r.2.1 ∧ q.2.2.2.1 = r.2.2.length ∧ Own encS 1 w B 9 q.1.1 q.1.2.2 r.1 ∧ Own encS 1 w B 9 q.2.2.1 q.2.2.2.2 r.2.2
/-- a row of rules of the call's own -/
structure RS (w : World) (B : Nat) (T : TypeId) (f : Bool → Value) (a : Option Addr) (cap : Nat) (qs : List QV) (R : List Rl) : Prop where
  row : Own (encQ f) 3 w B T a cap qs
  len : qs.length = R.length
  inner : ∀ i (h : i < qs.length) (h' : i < R.length), QOwn w B qs[i] R[i]
/-- a rule's fields, each list where it may -/
def QAt (w : World) (q : QV) (r : Rl) : Prop :=
  q.1.2.1 = r.1.length ∧ q.2.1 = r.2.1 ∧ q.2.2.2.1 = r.2.2.length ∧ Sl encS 1 w q.1.1 q.1.2.2 r.1 ∧ Sl encS 1 w q.2.2.1 q.2.2.2.2 r.2.2
/-- a slice that reads as a list of rules -/
structure DR (w : World) (f : Bool → Value) (a : Option Addr) (cap : Nat) (qs : List QV) (R : List Rl) : Prop where
  row : Sl (encQ f) 3 w a cap qs
  len : qs.length = R.length
  inner : ∀ i (h : i < qs.length) (h' : i < R.length), QAt w qs[i] R[i]
section
variable {w w' : World} {B : Nat} {T : TypeId} {f : Bool → Value} {a : Option Addr} {cap : Nat} {qs : List QV} {R : List Rl}
theorem RS.top (h : RS w B T f a cap qs R) (hb : Below w.heap.size w w') : RS w' B T f a cap qs R :=
  ⟨h.row.top hb, h.len, fun i hi hi' => by
    obtain ⟨h1, h2, h3, h4, h5⟩ := h.inner i hi hi'
    exact ⟨h1, h2, h3, h4.top hb, h5.top hb⟩⟩
theorem RS.mono {B' : Nat} (h : RS w B T f a cap qs R) (hB : B' ≤ B) : RS w B' T f a cap qs R :=
  ⟨h.row.mono hB, h.len, fun i hi hi' => by
    obtain ⟨h1, h2, h3, h4, h5⟩ := h.inner i hi hi'
    exact ⟨h1, h2, h3, h4.mono hB, h5.mono hB⟩⟩
/-- a row of another element type written -/
theorem LS.frT {B' : Nat} {la oa : Option Addr} {lcap ocap : Nat} {hs : List HV} {ops : List Str} {Ls : List (List Str)} {α : Type} {enc : α → List Value} {size : Nat} {l : List α} (h : LS w B la lcap hs oa ocap ops Ls) (row : Own enc size w B' T a cap l)
    (h1 : T ≠ 9) (h2 : T ≠ 28) (g : Fr (fun k => blk a = some k) w w') : LS w' B la lcap hs oa ocap ops Ls where
  outer := h.outer.fr g (fun k e1 e2 => h.outer.sep row (fun e => h2 e.symm) k e1 e2)
  ops := h.ops.fr g (fun k e1 e2 => h.ops.sep row (fun e => h1 e.symm) k e1 e2)
  len := h.len
  inner i hi hi' := ⟨(h.inner i hi hi').1, (h.inner i hi hi').2.fr g (fun k e1 e2 => (h.inner i hi hi').2.sep row (fun e => h1 e.symm) k e1 e2)⟩
  dist := h.dist
  disto := h.disto
theorem RS.dr (h : RS w B T f a cap qs R) : DR w f a cap qs R :=
  ⟨h.row.sl (encQ_len f), h.len, fun i hi hi' => by
    obtain ⟨h1, h2, h3, h4, h5⟩ := h.inner i hi hi'
    exact ⟨h1, h2, h3, h4.sl encS_len, h5.sl encS_len⟩⟩
theorem DR.top (h : DR w f a cap qs R) (hb : Below w.heap.size w w') : DR w' f a cap qs R :=
  ⟨h.row.top hb, h.len, fun i hi hi' => by
    obtain ⟨h1, h2, h3, h4, h5⟩ := h.inner i hi hi'
    exact ⟨h1, h2, h3, h4.top hb, h5.top hb⟩⟩
/-- a rule more -/
theorem RS.app {q : QV} {r : Rl} {a2 : Option Addr} {cap2 : Nat} (h : RS w B T f a cap qs R) (hT : T ≠ 9) (hq : QOwn w B q r)
    (ho : Own (encQ f) 3 w' B T a2 cap2 (qs ++ [q])) (hf : Fr (fun k => blk a = some k) w w') : RS w' B T f a2 cap2 (qs ++ [q]) (R ++ [r]) := by
  have hsep : ∀ {x : Option Addr} {c : Nat} {l : List Str}, Own encS 1 w B 9 x c l → Own encS 1 w' B 9 x c l := fun hx => hx.fr hf (fun k e1 e2 => hx.sep h.row (fun e => hT e.symm) k e1 e2)
  have hmv : ∀ {q : QV} {r : Rl}, QOwn w B q r → QOwn w' B q r := fun ⟨h1, h2, h3, h4, h5⟩ => ⟨h1, h2, h3, hsep h4, hsep h5⟩
  refine ⟨ho, by simp [h.len], fun i hi hi' => ?_⟩
  simp only [List.length_append, List.length_singleton] at hi
  by_cases e : i < qs.length
  · have e' : i < R.length := by rw [← h.len]; exact e
    rw [List.getElem_append_left e, List.getElem_append_left e']
    exact hmv (h.inner i e e')
  · have ei : i = qs.length := by omega
    subst ei
    have : (R ++ [r])[qs.length] = r := by simp [h.len]
    rw [this]
    simp only [List.getElem_concat_length]
    exact hmv hq
end
theorem infoQ : (Tryd.prog.info? 52).map (fun i => (i.zero, i.size, i.bytes)) = some (some (.agg #[.slice none 0 0, .bool false, .slice none 0 0]), 3, 56) := by kernel_rfl
theorem encQ_one {f : Bool → Value} (hf : ∀ b, (f b).oneCell' = true) (q : QV) (u : Value) (h : u ∈ encQ f q) : u.oneCell' = true := by
  simp at h
  rcases h with h | h | h <;> subst h
  · rfl
  · exact hf _
  · rfl
theorem bool_one (b : Bool) : (Value.bool b).oneCell' = true := rfl
def RetRu (o : St3 (List Rl)) (w : World) (e : Ending) (w' : World) : Prop := ∃ a n cap st, e = .returned (.tuple #[.slice a n cap, .int .i64 st]) ∧ Below w.heap.size w w' ∧
  match o with
  | none => st = 0
  | some none => st = 2
  | some (some R) => st = 1 ∧ n = R.length ∧ ∃ qs, RS w' w.heap.size 52 Value.bool a cap qs R
theorem RetRu.of0 {o : St3 (List Rl)} (h : Hid (o = none)) {w w' : World} {a : Option Addr} {n cap : Nat} (hb : Below w.heap.size w w') : RetRu o w (.returned (.tuple #[.slice a n cap, .int .i64 0])) w' := by
  rw [h.out]; exact ⟨_, _, _, _, rfl, hb, rfl⟩
theorem RetRu.of2 {o : St3 (List Rl)} (h : Hid (o = some none)) {w w' : World} {a : Option Addr} {n cap : Nat} (hb : Below w.heap.size w w') : RetRu o w (.returned (.tuple #[.slice a n cap, .int .i64 2])) w' := by
  rw [h.out]; exact ⟨_, _, _, _, rfl, hb, rfl⟩
theorem RetRu.of1 {o : St3 (List Rl)} {R : List Rl} (h : Hid (o = some (some R))) {w w' : World} {a : Option Addr} {n cap : Nat} {qs : List QV} (hb : Below w.heap.size w w') (hn : n = R.length) (hr : RS w' w.heap.size 52 Value.bool a cap qs R) :
    RetRu o w (.returned (.tuple #[.slice a n cap, .int .i64 1])) w' := by
  rw [h.out]; exact ⟨_, _, _, _, rfl, hb, rfl, hn, qs, hr⟩

set_option maxRecDepth 100000 in
set_option maxHeartbeats 2000000 in
theorem rules_calls (s : Str) (w : World) (hsm : s.size ≤ 2147483647) : Calls Tryd.prog 32 #[.string s] w (RetRu (rulesS s) w) := by
  have htk := tokens_calls s w hsm
  cases hlx : lex (bs s) with
  | none =>
    have hrs : Hid (rulesS s = none) := Lib.hid (by unfold rulesS; rw [hlx])
    rw [hlx] at htk
    have HTK := Lib.hid htk; clear htk
    clear hlx
    go_enter Tryd.func32, Tryd.ntmps32
    go_wp2_with (go_at_call 34; refine (HTK.out).mono ?_; rintro e w1 ⟨a1, n1, c1, b1, rfl, hb1, hno, _⟩; obtain rfl := hno rfl; clear hno)
    go_ret2
    exact RetRu.of0 hrs hb1
  | some ts =>
    have hcnt := lex_count _ _ _ (Nat.le_refl _) hlx
    rw [bs_len] at hcnt
    have hrs0 : rulesS s = if 400 < s.size then none else srEnd (srRun ts) := by unfold rulesS; rw [hlx]
    rw [hlx] at htk
    have HTK := Lib.hid htk; clear htk
    have htl := hcnt.1
    clear hlx hcnt
    by_cases hbig : 400 < s.size
    · have hrs : Hid (rulesS s = none) := Lib.hid (by rw [hrs0, if_pos hbig])
      clear hrs0
      go_enter Tryd.func32, Tryd.ntmps32
      go_wp2_with (go_at_call 34; refine (HTK.out).mono ?_; rintro e w1 ⟨a1, n1, c1, b1, rfl, hb1, _, hyes⟩; obtain ⟨rfl, rfl, hown1⟩ := hyes _ rfl; clear hyes)
      go_ret2
      exact RetRu.of0 hrs hb1
    have hrs : Hid (rulesS s = srEnd (srRun ts)) := Lib.hid (by rw [hrs0, if_neg hbig])
    clear hrs0
    generalize rulesS s = res at *
    go_enter Tryd.func32, Tryd.ntmps32
    go_wp2_with (go_at_call 34; refine (HTK.out).mono ?_; rintro e w1 ⟨a1, n1, c1, b1, rfl, hb1, _, hyes⟩; obtain ⟨rfl, rfl, hown1⟩ := hyes _ rfl; clear hyes)
    have hs1 := hown1.sl encS_len
    clear hown1
    have htl4 : ts.length ≤ 400 := by omega
    have hsz1 := hb1.size
    go_loopg [33, 6, 7] ts.length (fun gk i v6 v7 wr => ∃ (k fr : Nat) (R : List Rl) (a : Option Addr) (cap : Nat) (qs : List QV), k ≤ ts.length ∧ gk = ts.length - k ∧ i = .int .i64 k ∧ v6 = .slice a R.length cap ∧ v7 = .int .i64 fr ∧ fr ≤ k ∧
      Hid (srRun (ts.take k) = some (some (R, (ts.take k).drop fr))) ∧ R.length ≤ k ∧ Hid (RS wr w1.heap.size 52 Value.bool a cap qs R) ∧ Below w1.heap.size w1 wr)
    case atStart =>
      refine ⟨0, 0, [], _, _, [], Nat.zero_le _, by omega, rfl, rfl, rfl, Nat.le_refl _, Lib.hid rfl, by simp, Lib.hid ⟨?_, rfl, fun i hi => by simp at hi⟩, (Below.refl _ _).alloc (Nat.le_refl _) _⟩
      have := Own.made (encQ Value.bool) 3 w1 52 w1.heap.size (Nat.le_refl _)
      exact this
    case round =>
      obtain ⟨k, fr, R, a, cap, qs, hk, rfl, rfl, rfl, rfl, hfk, HR, hRk, HRS, hb⟩ := hrel
      have hsz := hb.size
      have hbw := hb1.top hb (Nat.le_refl _)
      by_cases hlt : k < ts.length
      · obtain ⟨bb, off, rfl, hc1⟩ := (hs1.top hb).s1 hlt
        have hstep : srRun (ts.take (k + 1)) = srStep (some (some (R, (ts.take k).drop fr))) ts[k] := by
          rw [List.take_succ_eq_append_getElem hlt, srRun_snoc, HR.out]
        have hdr : (ts.take (k + 1)).drop fr = (ts.take k).drop fr ++ [ts[k]] := by
          rw [List.take_succ_eq_append_getElem hlt, List.drop_append_of_le_length (by simp; omega)]
        have htt := tl_tok ts[k] [59]
        by_cases ht : ts[k] = tSemi
        · have hct : (ts[k].toList == [59]) = true := htt.trans (decide_eq_true (p := ts[k] = mkS [59]) ht)
          simp only [srStep, if_pos ht] at hstep
          clear htt ht hdr
          have hcR := srRun_count _ _ _ HR.out
          by_cases hfe : fr = k
          · subst hfe
            have he : (ts.take fr).drop fr = [] := List.drop_eq_nil_of_le (by simp; omega)
            rw [if_pos he] at hstep
            have hres : Hid (res = some none) := Lib.hid (by rw [hrs.out, srRun_stuck _ (.inr rfl) hstep]; rfl)
            clear hstep he HR hrs
            go_wp2
            go_ret2
            exact RetRu.of2 hres hbw
          · have hfk2 : fr < k := by omega
            have hcap1 := hs1.1
            have hsegl : ((ts.take k).drop fr).length = k - fr := by simp; omega
            have hsegne : ¬ (ts.take k).drop fr = [] := fun e => by rw [e] at hsegl; simp at hsegl; omega
            rw [if_neg hsegne] at hstep
            have hseg := ((hs1.top hb).take k).drop fr (by simp; omega)
            have hne1 : ¬ c1 = fr := by omega
            rw [show dropA (some ⟨bb, off, none⟩) c1 fr 1 = some ⟨bb, off + fr, none⟩ from by unfold dropA; rw [if_neg hne1, Option.map_some, add_some, Nat.mul_one]] at hseg
            have hsegc := lRun_count ((ts.take k).drop fr)
            rw [hsegl] at hsegc
            rw [hsegl, List.length_take, Nat.min_eq_left (by omega)] at hcR
            have hnext : (ts.take (k + 1)).drop (k + 1) = [] := List.drop_eq_nil_of_le (by simp; omega)
            have HNX := Lib.hid hnext; clear hnext
            generalize (ts.take k).drop fr = seg at *
            have hlc := lists_calls (ts := seg) (cap0 := c1 - fr) wr hsegl.symm hseg (by omega)
            have hstuck1 : srRun (ts.take (k + 1)) = some none → Hid (res = some none) := fun hh => Lib.hid (by rw [hrs.out, srRun_stuck _ (.inr rfl) hh]; rfl)
            have hstuck0 : srRun (ts.take (k + 1)) = none → Hid (res = none) := fun hh => Lib.hid (by rw [hrs.out, srRun_stuck _ (.inl rfl) hh]; rfl)
            have HLC := Lib.hid hlc; clear hlc
            have HST := Lib.hid hstep; clear hstep
            have HS1 := Lib.hid hstuck1; clear hstuck1
            have HS0 := Lib.hid hstuck0; clear hstuck0
            have HSC := Lib.hid hsegc; clear hsegc
            have hlrl := Lib.hid (lRun_len seg)
            have hnke : (k == fr) = false := by simp; omega
            have hnke2 : ((k : Int) == (fr : Int)) = false := by simp; omega
            clear hfe hsegne HR hsegl hseg
            obtain ⟨wo, rfl⟩ : ∃ wo : World, wo = wr := ⟨_, rfl⟩
            go_wp2_with (go_at_call 45
                         refine (HLC.out).mono ?_
                         rintro e w3 ⟨la, ln, lcp, oa, on, oc, b3, rfl, hb3, hyes, hno⟩
                         have HYES := Lib.hid hyes; clear hyes
                         have HNO := Lib.hid hno; clear hno
                         rcases b3 with _ | _
                         rotate_left
                         obtain ⟨⟨D, O, cur, nm⟩, hs, hlr, hnm, hln, hon, hls⟩ := HYES.out rfl
                         simp only at hnm hln hon hls
                         subst hln
                         subst hon
                         subst hnm
                         rcases Nat.eq_zero_or_pos O.length with hO0 | hO0
                         rotate_left
                         have hOz : ((O.length : Int) == 0) = false := by rw [beq_eq_false_iff_ne]; omega
                         rotate_right)
            · -- no operator: open
              have hOn := List.eq_nil_of_length_eq_zero hO0
              have hres : Hid (res = none) := HS0.out (by rw [HST.out, hlr]; simp [hOn])
              go_ret2
              exact RetRu.of0 hres (hbw.top hb3 (Nat.le_refl _))
            · have hDO : D.length = O.length := hlrl.out _ hlr
              have hOl : O.length ≤ k - fr := HSC.out _ hlr
              have hOne : ¬ O = [] := fun e => by rw [e] at hO0; simp at hO0
              have hstep2 : Hid (srRun (ts.take (k + 1)) = some (some (R ++ rulesOf D O cur, (ts.take (k + 1)).drop (k + 1)))) := Lib.hid (by
                rw [HST.out, hlr, HNX.out]
                simp only
                rw [if_neg (by simp), if_neg hOne])
              have hrl := rulesOf_len D O cur hDO
              have hrg := rulesOf_get D O cur hDO
              have HRS3 := Lib.hid (HRS.out.top hb3)
              have hhl : hs.length = D.length + 1 := by have := hls.len; simpa using this
              obtain ⟨lg, rfl⟩ := hls.outer.some_of (by omega)
              have hLS := Lib.hid hls
              have hops := hls.ops.sl encS_len
              have HRL := Lib.hid hrl; clear hrl
              have HRG := Lib.hid hrg; clear hrg
              clear hOne hlr hls HYES HNO hct hOz
              have hsz3 := hb3.size
              have hDl1 : D.length ≤ O.length := by omega
              have hDl2 : O.length ≤ D.length := by omega
              have HDO := Lib.hid hDO; clear hDO
              have hhl1 : hs.length ≤ D.length + 1 := by omega
              have hhl2 : D.length + 1 ≤ hs.length := by omega
              clear hhl
              go_loopg [61, 6] O.length (fun gk i v6 wq => ∃ (kk : Nat) (a' : Option Addr) (cap' : Nat) (qs' : List QV), kk ≤ O.length ∧ gk = O.length - kk ∧ i = .int .i64 kk ∧ v6 = .slice a' (R.length + kk) cap' ∧
                Hid (RS wq w1.heap.size 52 Value.bool a' cap' qs' (R ++ (rulesOf D O cur).take kk)) ∧ Hid (LS wq wo.heap.size (some ⟨lg, 0, none⟩) lcp hs oa oc O (D ++ [cur])) ∧ Below w1.heap.size w1 wq)
              case atStart => exact ⟨0, _, _, _, Nat.zero_le _, by omega, rfl, rfl, Lib.hid (by simpa using HRS3.out), hLS, hb.top hb3 (Nat.le_refl _)⟩
              case round =>
                clear hLS
                obtain ⟨kk, a', cap', qs', hkk, rfl, rfl, rfl, HRSq, hLS, hbq⟩ := hrel
                have hszq := hbq.size
                by_cases hkl : kk < O.length
                · have hls := hLS.out
                  have hk1 : kk < hs.length := by omega
                  have hk2 : kk + 1 < hs.length := by omega
                  have e1 := Own.at1 (f := fun h : HV => Value.slice h.1 h.2.1 h.2.2) hls.outer kk hk1
                  have e2 := Own.at1 (f := fun h : HV => Value.slice h.1 h.2.1 h.2.2) hls.outer (kk + 1) hk2
                  obtain ⟨ob, ooff, hobe, e3⟩ := (hls.ops.sl encS_len).s1 hkl
                  subst hobe
                  have hi1 := hls.inner kk hk1 (by simp; omega)
                  have hi2 := hls.inner (kk + 1) hk2 (by simp; omega)
                  have hrg2 := HRG.out kk (by rw [HRL.out]; exact hkl) hkl (by simp; omega) (by simp; omega)
                  have htake : (rulesOf D O cur).take (kk + 1) = (rulesOf D O cur).take kk ++ [((D ++ [cur])[kk]'(by simp; omega), decide (O[kk] = tBar), (D ++ [cur])[kk + 1]'(by simp; omega))] := by
                    rw [List.take_succ_eq_append_getElem (by rw [HRL.out]; exact hkl), hrg2]
                  have hbt := tl_tok O[kk] [33, 60]
                  have hbt2 : (O[kk].toList == [33, 60]) = decide (O[kk] = tBar) := hbt
                  clear hbt hrg2
                  have hq : QOwn wr w1.heap.size (hs[kk], decide (O[kk] = tBar), hs[kk + 1]) ((D ++ [cur])[kk]'(by simp; omega), decide (O[kk] = tBar), (D ++ [cur])[kk + 1]'(by simp; omega)) :=
                    ⟨hi1.1, rfl, hi2.1, hi1.2.mono hsz, hi2.2.mono hsz⟩
                  generalize decide (O[kk] = tBar) = bt at *
                  generalize O[kk] = op at *
                  generalize (D ++ [cur])[kk]'(by simp; omega) = L1 at *
                  generalize (D ++ [cur])[kk + 1]'(by simp; omega) = L2 at *
                  generalize hs[kk] = h1 at *
                  generalize hs[kk + 1] = h2 at *
                  have hRl : R.length + kk = qs'.length := by have := HRSq.out.len; simp at this; rw [this]; have := HRL.out; omega
                  have hap : Hid (∀ (w' : World) (a2 : Option Addr) (cap2 : Nat), Own (encQ Value.bool) 3 w' w1.heap.size 52 a2 cap2 (qs' ++ [(h1, bt, h2)]) → Fr (fun k => blk a' = some k) wr.drew w' → RS w' w1.heap.size 52 Value.bool a2 cap2 (qs' ++ [(h1, bt, h2)]) (R ++ (rulesOf D O cur).take (kk + 1))) := Lib.hid (fun w' a2 cap2 ho hf => by
                    rw [htake, ← List.append_assoc]
                    exact HRSq.out.app (by decide) hq ho ((Fr.drew (fun k => blk a' = some k) wr).trans hf (fun _ _ e => e)))
                  have hrow := HRSq.out.row.drew
                  have hx1 : (0 : Int) ≤ (kk : Int) := by omega
                  have hx2 : (kk : Int) < (D.length : Int) + 1 := by omega
                  have hx3 : IntKind.i64.wrap ((kk : Int) + 1) = (kk : Int) + 1 := IntWalk.i64_in _ (by omega)
                  have hx4 : (0 : Int) ≤ (kk : Int) + 1 := by omega
                  have hx5 : (kk : Int) + 1 < (D.length : Int) + 1 := by omega
                  have hx6 : ((kk : Int) + 1).toNat = kk + 1 := by omega
                  have hlgl := (hls.outer.lt lg rfl)
                  have hlgn : ¬ blk a' = some lg := fun e => by
                    have := hls.outer.sep HRSq.out.row (by decide) lg rfl
                    exact this e
                  have hszd : w1.heap.size ≤ wr.drew.heap.size := hszq
                  have hLSn : Hid (∀ w', Fr (fun k => blk a' = some k) wr.drew w' → LS w' wo.heap.size (some ⟨lg, 0, none⟩) lcp hs (some ⟨ob, ooff, none⟩) oc O (D ++ [cur])) := Lib.hid (fun w' hf => hls.frT HRSq.out.row (by decide) (by decide) ((Fr.drew (fun k => blk a' = some k) wr).trans hf (fun _ _ e => e)))
                  have hrlt := Lib.hid (HRSq.out.row.lt)
                  clear hi1 hi2 htake hq hls
                  go_wp2
                  go_region_held3 (fun w' => w'.cell? ⟨lg, kk, none⟩ = some (.slice h1.1 h1.2.1 h1.2.2) ∧ w'.cell? ⟨lg, kk + 1, none⟩ = some (.slice h2.1 h2.2.1 h2.2.2))
                    (first | go_keep | (exact ⟨hs5, hs6⟩))
                    ((refine step_append_new (y := (h1, bt, h2)) (encQ Value.bool) 3 (encQ_len _) (encQ_one bool_one) wr.drew _ 52 rfl rfl _ _ 25 rfl 52 _ 56 Tryd.underlying25 infoQ rfl (by omega) w1.heap.size a' cap' qs' rfl hrow _ _ rfl rfl (by omega) (by omega) hszd ?_
                      intro g3 cap3 w4 ho4 hf4 hk4
                      have hs5 : w4.cell? ⟨lg, kk, none⟩ = some (.slice h1.1 h1.2.1 h1.2.2) := (hf4.cell (a := ⟨lg, kk, none⟩) hlgl.2 hlgn).trans e1
                      have hs6 : w4.cell? ⟨lg, kk + 1, none⟩ = some (.slice h2.1 h2.2.1 h2.2.2) := (hf4.cell (a := ⟨lg, kk + 1, none⟩) hlgl.2 hlgn).trans e2))
                  go_wp2
                  go_roundg (O.length - (kk + 1))
                  case measure => omega
                  case rel =>
                    exact ⟨kk + 1, some ⟨g3, 0, none⟩, cap3, _, by omega, rfl, by go_num, by rw [← hRl, Nat.add_assoc], Lib.hid (hap.out w4 _ _ ho4 hf4), Lib.hid (hLSn.out w4 hf4), (hbq.fr (Fr.drew NoB _) (Nat.le_refl _) (fun _ e => e.elim)).fr hf4 (Nat.le_refl _) (fun b e => (hrlt.out b e).1)⟩
                · have hall : Hid (RS wr w1.heap.size 52 Value.bool a' cap' qs' (R ++ rulesOf D O cur)) := Lib.hid (by
                    have := HRSq.out
                    rwa [List.take_of_length_le (by rw [HRL.out]; omega)] at this)
                  have hkO : kk = O.length := by omega
                  have hnl : R.length + kk = (R ++ rulesOf D O cur).length := by rw [List.length_append, HRL.out]; omega
                  clear HRSq
                  rw [hnl]
                  clear hnl hkO
                  have hnl2 : (R ++ rulesOf D O cur).length ≤ k + 1 := by rw [List.length_append, HRL.out]; omega
                  generalize R ++ rulesOf D O cur = R2 at *
                  go_wp2
                  go_roundg (ts.length - (k + 1))
                  case measure => omega
                  case rel => exact ⟨k + 1, k + 1, R2, a', cap', qs', by omega, rfl, by go_num, rfl, by go_num, Nat.le_refl _, hstep2, hnl2, hall, hbq⟩
            · have hres : Hid (res = some none) := HS1.out (by
                rw [HST.out]
                rcases HNO.out (by first | rfl | trivial) with h | ⟨s', h, h2⟩
                · rw [h]
                · rw [h]
                  simp only
                  rw [if_pos h2])
              go_ret2
              exact RetRu.of2 hres (hbw.top hb3 (Nat.le_refl _))
        · have hct : (ts[k].toList == [59]) = false := htt.trans (decide_eq_false (p := ts[k] = mkS [59]) ht)
          have hst2 : Hid (srRun (ts.take (k + 1)) = some (some (R, (ts.take (k + 1)).drop fr))) := Lib.hid (by
            rw [hstep, hdr]
            simp only [srStep, if_neg ht])
          clear hstep hdr htt ht HR
          go_wp2
          go_roundg (ts.length - (k + 1))
          case measure => omega
          case rel => exact ⟨k + 1, fr, R, a, cap, qs, by omega, rfl, by go_num, rfl, rfl, by omega, hst2, by omega, HRS, hb⟩
      · have hkl : k = ts.length := by omega
        subst hkl
        rw [List.take_length] at HR
        by_cases hfe : fr < ts.length
        · have hcap1 := hs1.1
          have hsegl : (ts.drop fr).length = ts.length - fr := by simp
          have hsegne : ts.drop fr ≠ [] := fun e => by rw [e] at hsegl; simp at hsegl; omega
          have hseg := (hs1.top hb).drop fr (by omega)
          obtain ⟨bb, off, rfl, hc1⟩ := (hs1.top hb).s1 hfe
          have hne1 : ¬ c1 = fr := by omega
          rw [show dropA (some ⟨bb, off, none⟩) c1 fr 1 = some ⟨bb, off + fr, none⟩ from by unfold dropA; rw [if_neg hne1, Option.map_some, add_some, Nat.mul_one]] at hseg
          have hres0 : Hid (∀ x, (lRun (ts.drop fr) = none ∨ ∃ s', lRun (ts.drop fr) = some s' ∧ (s'.nm = true ∨ s'.ops = [])) → x = res → x = none) := Lib.hid (fun x hh e => by
            rw [e, hrs.out, HR.out]
            cases hsg : ts.drop fr with
            | nil => exact absurd hsg hsegne
            | cons y r =>
              rw [hsg] at hh
              show (match lRun (y :: r) with | none => (none : St3 (List Rl)) | some s => if s.nm = true ∨ s.ops = [] then none else some none) = none
              rcases hh with h1 | ⟨s', h1, h2⟩
              · rw [h1]
              · rw [h1]; simp only [if_pos h2])
          have hres2 : Hid (∀ s', lRun (ts.drop fr) = some s' → s'.nm = false → ¬ s'.ops = [] → res = some none) := Lib.hid (fun s' h1 h2 h3 => by
            rw [hrs.out, HR.out]
            cases hsg : ts.drop fr with
            | nil => exact absurd hsg hsegne
            | cons y r =>
              rw [hsg] at h1
              show (match lRun (y :: r) with | none => (none : St3 (List Rl)) | some s => if s.nm = true ∨ s.ops = [] then none else some none) = some none
              rw [h1]
              simp only
              rw [if_neg]
              rintro (h4 | h4)
              · rw [h2] at h4; cases h4
              · exact h3 h4)
          have hlrl := Lib.hid (lRun_len (ts.drop fr))
          have hlc := lists_calls (ts := ts.drop fr) (cap0 := c1 - fr) wr hsegl.symm hseg (by omega)
          have HLC := Lib.hid hlc; clear hlc
          generalize ts.drop fr = seg at *
          clear hsegne hsegl hseg HR hrs
          obtain ⟨wo, rfl⟩ : ∃ wo : World, wo = wr := ⟨_, rfl⟩
          go_wp2_with (go_at_call 45
                       refine (HLC.out).mono ?_
                       rintro e w3 ⟨la, ln, lcp, oa, on, oc, b3, rfl, hb3, hyes, hno⟩
                       have HYES := Lib.hid hyes; clear hyes
                       have HNO := Lib.hid hno; clear hno
                       rcases b3 with _ | _
                       rotate_left
                       obtain ⟨⟨D, O, cur, nm⟩, hs, hlr, hnm, hln, hon, hls⟩ := HYES.out rfl
                       have hDO := Lib.hid (hlrl.out _ hlr)
                       simp only at hnm hln hon hls
                       subst hln
                       subst hon
                       subst hnm
                       have HLR := Lib.hid hlr
                       clear hls hlr HYES HNO
                       rcases Nat.eq_zero_or_pos O.length with hO0 | hO0
                       have hD0 : D.length = 0 := by have := hDO.out; simp only at this; omega
                       rotate_left
                       have hOz : ((O.length : Int) == 0) = false := by rw [beq_eq_false_iff_ne]; omega
                       have hDz : ((D.length : Int) + 1 == 1) = false := by have := hDO.out; simp only at this; rw [beq_eq_false_iff_ne]; omega
                       rotate_right)
          · have hOn := List.eq_nil_of_length_eq_zero hO0
            have hr : Hid (res = none) := Lib.hid (hres0.out res (.inr ⟨_, HLR.out, .inr hOn⟩) rfl)
            go_ret2
            exact RetRu.of0 hr (hbw.top hb3 (Nat.le_refl _))
          · have hOn : ¬ O = [] := fun e => by rw [e] at hO0; simp at hO0
            have hr : Hid (res = some none) := Lib.hid (hres2.out _ HLR.out rfl hOn)
            go_ret2
            exact RetRu.of2 hr (hbw.top hb3 (Nat.le_refl _))
          · have hr : Hid (res = none) := Lib.hid (hres0.out res (by
              rcases HNO.out (by first | rfl | trivial) with h | ⟨s', h, h2⟩
              · exact .inl h
              · exact .inr ⟨s', h, .inl h2⟩) rfl)
            go_ret2
            exact RetRu.of0 hr (hbw.top hb3 (Nat.le_refl _))
        · have hall : Hid (res = some (some R)) := Lib.hid (by
            rw [hrs.out, HR.out, List.drop_eq_nil_of_le (by omega)]
            rfl)
          have hnlt : ¬ (fr : Int) < (ts.length : Int) := by omega
          clear HR hrs
          go_wp2
          go_ret2
          exact RetRu.of1 hall hbw rfl (HRS.out.mono hsz1)
end Go.Proofs.YthpfladpbfbpjaaDoor

/- The reference's Graph and Parse: what each call computes. -/
namespace Go.Proofs.YthpfladpbfbpjaaDoor
open Go.RowKit

/-! ### plain laws -/
theorem lessFold_none (df ns : List Str) (d : Str) (g : GRes) (hg : g = none ∨ g = some none) : ∀ (ls : List Str), ls.foldl (lessStep df ns d) g = g := fun ls => lessFold_stuck df ns d ls g hg
theorem defFold_none (r : Rl) (g : GRes) (hg : g = none ∨ g = some none) (ds : List Str) : ds.foldl (defStep r) g = g := defFold_stuck r ds g hg
theorem ruleFold_none (g : GRes) (hg : g = none ∨ g = some none) : ∀ (R : List Rl), R.foldl ruleStep g = g
  | [] => rfl
  | r :: t => by
    rw [List.foldl_cons, show ruleStep g r = g from defFold_stuck r _ g hg]
    exact ruleFold_none g hg t
theorem fold_take_stuck {α β : Type} (f : β → α → β) (b : β) (l : List α) (k : Nat) {g : β} (h : (l.take k).foldl f b = g) (hs : ∀ l' : List α, l'.foldl f g = g) : l.foldl f b = g := by
  rw [← List.take_append_drop k l, List.foldl_append, h]
  exact hs _
/-- open (0), fine (1) or wrong (2), by the pairs that the bars name -/
def cls (ns : List Str) (es : List Ed) (P : List Ed) : Int := if P.all (fun e => decide (e.1 ∈ ns) && decide (e.2 ∈ ns)) = false then 0 else if P.any (fun e => clo ns es e.1 e.2) = true then 2 else 1
theorem cls_nil (ns : List Str) (es : List Ed) : cls ns es [] = 1 := rfl
theorem cls_snoc (ns : List Str) (es : List Ed) (P : List Ed) (x : Ed) : cls ns es (P ++ [x]) = if ¬ (x.1 ∈ ns ∧ x.2 ∈ ns) then 0 else if cls ns es P = 1 ∧ clo ns es x.1 x.2 = true then 2 else cls ns es P := by
  unfold cls
  simp only [List.all_append, List.any_append, List.all_cons, List.all_nil, List.any_cons, List.any_nil, Bool.and_true, Bool.or_false]
  by_cases hx : x.1 ∈ ns ∧ x.2 ∈ ns
  · have hxx : ¬ ¬ (x.1 ∈ ns ∧ x.2 ∈ ns) := fun h => h hx
    rw [if_neg hxx]
    have h1 : (decide (x.1 ∈ ns) && decide (x.2 ∈ ns)) = true := by simp [hx.1, hx.2]
    rw [h1, Bool.and_true]
    cases hp : P.all (fun e => decide (e.1 ∈ ns) && decide (e.2 ∈ ns)) with
    | false => simp
    | true =>
      cases hq : P.any (fun e => clo ns es e.1 e.2) with
      | true => simp
      | false =>
        cases hc : clo ns es x.1 x.2 <;> simp
  · rw [if_pos (show ¬ (x.1 ∈ ns ∧ x.2 ∈ ns) from hx)]
    have h1 : (decide (x.1 ∈ ns) && decide (x.2 ∈ ns)) = false := by
      cases hd : (decide (x.1 ∈ ns) && decide (x.2 ∈ ns)) with
      | false => rfl
      | true => exfalso; apply hx; simpa using hd
    rw [h1]
    simp
theorem graphS_eq {R : List Rl} {ns : List Str} {es : List Ed} (h : rawG R = some (some (ns, es))) : graphS R = if 20 < ns.length then none else if cls ns es (barred R) = 0 then none else if cls ns es (barred R) = 2 then some none else some (some (ns, es)) := by
  unfold graphS
  rw [h]
  simp only
  unfold cls
  by_cases h1 : 20 < ns.length
  · rw [if_pos h1, if_pos h1]
  · rw [if_neg h1, if_neg h1]
    by_cases h2 : (barred R).all (fun e => decide (e.1 ∈ ns) && decide (e.2 ∈ ns)) = false
    · rw [if_pos h2, if_pos (if_pos h2)]
    · rw [if_neg h2, if_neg h2]
      by_cases h3 : (barred R).any (fun e => clo ns es e.1 e.2) = true
      · rw [if_pos h3, if_pos h3, if_neg (by decide), if_pos rfl]
      · rw [if_neg h3, if_neg h3, if_neg (by decide), if_neg (by decide)]
theorem rawG_inn {R : List Rl} {ns : List Str} {es : List Ed} (h : rawG R = some (some (ns, es))) : ns.Nodup ∧ ∀ e ∈ es, e.1 ∈ ns ∧ e.2 ∈ ns := by
  have := build_sim R
  rw [h] at this
  have hS : Same ns es (iBuild R) := this
  exact ⟨hS.nodup, hS.inn⟩
def barsOf (r : Rl) : List Ed := if r.2.1 = true then r.1.flatMap fun l => r.2.2.map fun d => (d, l) else []
theorem barred_take (R : List Rl) (k : Nat) (hk : k < R.length) : barred (R.take (k + 1)) = barred (R.take k) ++ barsOf R[k] := by
  unfold barred
  rw [List.take_succ_eq_append_getElem hk, List.flatMap_append]
  simp [barsOf]
theorem keepT {α : Type} {enc : α → List Value} {size : Nat} {w w' : World} {B : Nat} {T T' : TypeId} {a : Option Addr} {cap : Nat} {l : List α} {b : Nat} {c : Array Value} (h : w.heap[b]? = some (.cells c T (0, 0))) (row : Own enc size w B T' a cap l) (hne : T ≠ T') (f : Fr (fun k => blk a = some k) w w') :
    w'.heap[b]? = some (.cells c T (0, 0)) := by
  refine (f.block b (Array.getElem?_eq_some_iff.1 h).1 (fun e => ?_)).trans h
  obtain ⟨cur, hc⟩ := row.cells e
  rw [h] at hc
  injection hc with hc
  injection hc with _ h2
  exact hne h2

def RetGr (o : St3 (List Str × List Ed)) (w : World) (e : Ending) (w' : World) : Prop := ∃ a n cap ea en ecap st, e = .returned (.tuple #[.slice a n cap, .slice ea en ecap, .int .i64 st]) ∧ Below w.heap.size w w' ∧
  match o with
  | none => st = 0
  | some none => st = 2
  | some (some (ns, es)) => st = 1 ∧ n = ns.length ∧ Sl encS 1 w' a cap ns ∧ en = (closedL ns es).length ∧ Sl encE 2 w' ea ecap (closedL ns es)
theorem RetGr.of0 {o : St3 (List Str × List Ed)} (h : Hid (o = none)) {w w' : World} {a ea : Option Addr} {n cap en ecap : Nat} (hb : Below w.heap.size w w') : RetGr o w (.returned (.tuple #[.slice a n cap, .slice ea en ecap, .int .i64 0])) w' := by
  rw [h.out]; exact ⟨_, _, _, _, _, _, _, rfl, hb, rfl⟩
theorem RetGr.of2 {o : St3 (List Str × List Ed)} (h : Hid (o = some none)) {w w' : World} {a ea : Option Addr} {n cap en ecap : Nat} (hb : Below w.heap.size w w') : RetGr o w (.returned (.tuple #[.slice a n cap, .slice ea en ecap, .int .i64 2])) w' := by
  rw [h.out]; exact ⟨_, _, _, _, _, _, _, rfl, hb, rfl⟩
theorem RetGr.of1 {o : St3 (List Str × List Ed)} {ns : List Str} {es : List Ed} (h : Hid (o = some (some (ns, es)))) {w w' : World} {a ea : Option Addr} {n cap en ecap : Nat} (hb : Below w.heap.size w w') (hn : n = ns.length) (h1 : Sl encS 1 w' a cap ns) (hen : en = (closedL ns es).length) (h2 : Sl encE 2 w' ea ecap (closedL ns es)) :
    RetGr o w (.returned (.tuple #[.slice a n cap, .slice ea en ecap, .int .i64 1])) w' := by
  rw [h.out]; exact ⟨_, _, _, _, _, _, _, rfl, hb, rfl, hn, h1, hen, h2⟩
/-- bounds on rules that keep all that is made of them small -/
def Small (R : List Rl) : Prop := R.length ≤ 400 ∧ ∀ r ∈ R, r.1.length ≤ 400 ∧ r.2.2.length ≤ 400
end Go.Proofs.YthpfladpbfbpjaaDoor

/- The reference's Graph: the walk. -/
namespace Go.Proofs.YthpfladpbfbpjaaDoor
open Go.RowKit

theorem tnone_fact (t : Str) : (t.toList == [78, 79, 78, 69]) = decide (t = tNone) := tl_tok t [78, 79, 78, 69]

theorem cls_cases (ns : List Str) (es : List Ed) (P : List Ed) : cls ns es P = 0 ∨ cls ns es P = 1 ∨ cls ns es P = 2 := by
  unfold cls
  split
  · exact .inl rfl
  split
  · exact .inr (.inr rfl)
  · exact .inr (.inl rfl)

set_option maxRecDepth 100000 in
set_option maxHeartbeats 4000000 in
theorem graph_calls {a : Option Addr} {cap n : Nat} {qs : List QV} {R : List Rl} (w : World) (hn : n = R.length) (h : DR w Value.bool a cap qs R) (hsm : Small R) : Calls Tryd.prog 18 #[.slice a n cap] w (RetGr (graphS R) w) := by
  subst hn
  have hR4 := hsm.1
  have hqR : qs.length = R.length := h.len
  have hlc := h.row.1
  have hlm := h.row.len
  rw [hqR] at hlc hlm
  obtain ⟨res, hres⟩ : ∃ res, graphS R = res := ⟨_, rfl⟩
  rw [hres]
  have HRES := Lib.hid hres; clear hres
  have HSM := Lib.hid hsm; clear hsm
  have HQR := Lib.hid hqR; clear hqR
  have HDR := Lib.hid h
  clear h
  go_enter Tryd.func18, Tryd.ntmps18
  go_wp2
  go_loopg [24, 5, 6] R.length (fun gk i v5 v6 wr => ∃ (k : Nat) (ns : List Str) (es : List Ed) (na ea : Option Addr) (nc ec : Nat), k ≤ R.length ∧ gk = R.length - k ∧ i = .int .i64 k ∧ v5 = .slice na ns.length nc ∧ v6 = .slice ea es.length ec ∧ ns.length ≤ k * 400 ∧ es.length ≤ k * 160000 ∧
    Hid ((R.take k).foldl ruleStep (some (some ([], []))) = some (some (ns, es))) ∧ Own encS 1 wr w.heap.size 9 na nc ns ∧ Own encE 2 wr w.heap.size 54 ea ec es ∧ Below w.heap.size w wr)
  case atStart =>
    refine ⟨0, [], [], _, _, _, _, Nat.zero_le _, by omega, rfl, rfl, rfl, by simp, by simp, Lib.hid rfl, (Own.made encS 1 w _ _ (Nat.le_refl _)).alloc _, ?_, ((Below.refl _ _).alloc (Nat.le_refl _) _).alloc (by simp) _⟩
    have := Own.made encE 2 (w.alloc (.cells #[] 9)) 54 w.heap.size (by simp)
    simp only [World.size_alloc] at this
    exact this
  case round =>
    obtain ⟨k, ns, es, na, ea, nc, ec, hk, rfl, rfl, rfl, rfl, hnl, hel, HR, hno, heo, hb⟩ := hrel
    have hsz := hb.size
    by_cases hlt : k < R.length
    · have hkq : k < qs.length := by rw [HQR.out]; exact hlt
      have hdr := HDR.out.top hb
      obtain ⟨bb, off, rfl, hbl, hcell⟩ := hdr.row.2.2 (by omega)
      have g0 := hcell k hkq 0 _ rfl
      have g1 := hcell k hkq 1 _ rfl
      have g2 := hcell k hkq 2 _ rfl
      obtain ⟨q1, q2, q3, q4, q5⟩ := hdr.inner k hkq hlt
      have hr4 := HSM.out.2 R[k] (List.getElem_mem hlt)
      have hstep := Lib.hid (show (R.take (k + 1)).foldl ruleStep (some (some ([], []))) = (R[k].2.2).foldl (defStep R[k]) (some (some (ns, es))) from by
        rw [List.take_succ_eq_append_getElem hlt, List.foldl_append, HR.out]
        rfl)
      have hst0 : Hid (∀ j, ((R[k].2.2).take j).foldl (defStep R[k]) (some (some (ns, es))) = none → res = none) := Lib.hid (fun j e => by
        have e2 := fold_take_stuck _ _ _ _ e (defFold_none R[k] _ (.inl rfl))
        have hall : rawG R = none := fold_take_stuck _ _ _ _ (hstep.out.trans e2) (ruleFold_none _ (.inl rfl))
        rw [← HRES.out]; unfold graphS; rw [hall])
      have hst2 : Hid (∀ j, ((R[k].2.2).take j).foldl (defStep R[k]) (some (some (ns, es))) = some none → res = some none) := Lib.hid (fun j e => by
        have e2 := fold_take_stuck _ _ _ _ e (defFold_none R[k] _ (.inr rfl))
        have hall : rawG R = some none := fold_take_stuck _ _ _ _ (hstep.out.trans e2) (ruleFold_none _ (.inr rfl))
        rw [← HRES.out]; unfold graphS; rw [hall])
      have hDR0 : Hid (∀ w', Below w.heap.size w w' → QAt w' qs[k] R[k]) := Lib.hid (fun w' hh => (HDR.out.top hh).inner k hkq hlt)
      generalize R[k] = r at *
      generalize qs[k] = q at *
      obtain ⟨ls, br, ds⟩ := r
      obtain ⟨⟨la, ll, lc⟩, qb, ⟨da, dl, dc⟩⟩ := q
      simp only [Nat.add_zero] at q1 q2 q3 q4 q5 g0 g1 g2 hr4
      subst q1
      subst q2
      subst q3
      clear hcell hdr HR
      have hdl := hr4.2
      have hll := hr4.1
      have hdlen := q5.len
      have hllen := q4.len
      have hbox := heap_alloc_new wr (.cells #[.slice la ls.length lc, .bool qb, .slice da ds.length dc] 52 (0, 0))
      have hnoW := hno.alloc (.cells #[.slice la ls.length lc, .bool qb, .slice da ds.length dc] 52 (0, 0))
      have heoW := heo.alloc (.cells #[.slice la ls.length lc, .bool qb, .slice da ds.length dc] 52 (0, 0))
      have hbW : Below w.heap.size w (wr.alloc (.cells #[.slice la ls.length lc, .bool qb, .slice da ds.length dc] 52 (0, 0))) := hb.alloc hsz _
      have q4W : Hid (∀ w', Below wr.heap.size wr w' → Sl encS 1 w' la lc ls) := Lib.hid (fun w' hh => q4.top hh)
      have q5W : Hid (∀ w', Below wr.heap.size wr w' → Sl encS 1 w' da dc ds) := Lib.hid (fun w' hh => q5.top hh)
      have hDRr : Hid (∀ w', Below w.heap.size w w' → Sl encS 1 w' la lc ls ∧ Sl encS 1 w' da dc ds) := Lib.hid (fun w' hh => ⟨(hDR0.out w' hh).2.2.2.1, (hDR0.out w' hh).2.2.2.2⟩)
      clear hDR0 q4W q5W
      simp only at hstep hst0 hst2
      obtain ⟨wo, rfl⟩ : ∃ wo : World, wo = wr := ⟨_, rfl⟩
      go_wp2
      go_loopg [31, 5, 6] ds.length (fun gk i v5 v6 wq => ∃ (j : Nat) (ns2 : List Str) (es2 : List Ed) (na2 ea2 : Option Addr) (nc2 ec2 : Nat), j ≤ ds.length ∧ gk = ds.length - j ∧ i = .int .i64 j ∧ v5 = .slice na2 ns2.length nc2 ∧ v6 = .slice ea2 es2.length ec2 ∧ ns2.length ≤ k * 400 + j ∧ es2.length ≤ k * 160000 + j * 400 ∧
        Hid ((ds.take j).foldl (defStep (ls, qb, ds)) (some (some (ns, es))) = some (some (ns2, es2))) ∧ Own encS 1 wq w.heap.size 9 na2 nc2 ns2 ∧ Own encE 2 wq w.heap.size 54 ea2 ec2 es2 ∧
        wq.heap[wo.heap.size]? = some (.cells #[.slice la ls.length lc, .bool qb, .slice da ds.length dc] 52 (0, 0)) ∧ Below w.heap.size w wq)
      case atStart => exact ⟨0, ns, es, _, _, _, _, Nat.zero_le _, by omega, rfl, rfl, rfl, hnl, by rw [Nat.zero_mul, Nat.add_zero]; exact hel, Lib.hid (by simp), hnoW, heoW, hbox, hbW⟩
      case round =>
        clear hno heo hnoW heoW hbox hbW g0 g1 g2 q4 q5
        obtain ⟨j, ns2, es2, na2, ea2, nc2, ec2, hj, rfl, rfl, rfl, rfl, hnl2, hel2, HF, hno, heo, hbox, hbq⟩ := hrel
        have hszq := hbq.size
        have hwo : wo.heap.size < wr.heap.size := (Array.getElem?_eq_some_iff.1 hbox).1
        obtain ⟨sls, sds⟩ := hDRr.out wr hbq
        by_cases hjl : j < ds.length
        · obtain ⟨db, doff, rfl, d1⟩ := sds.s1 hjl
          have b0 : wr.cell? ⟨wo.heap.size, 0, none⟩ = some (.slice la ls.length lc) := by rw [cell_of_row _ _ _ _ _ _ hbox]; rfl
          have b1 : wr.cell? ⟨wo.heap.size, 1, none⟩ = some (.bool qb) := by rw [cell_of_row _ _ _ _ _ _ hbox]; rfl
          have b2 : wr.cell? ⟨wo.heap.size, 2, none⟩ = some (.slice (some ⟨db, doff, none⟩) ds.length dc) := by rw [cell_of_row _ _ _ _ _ _ hbox]; rfl
          have hstp : Hid ((ds.take (j + 1)).foldl (defStep (ls, qb, ds)) (some (some (ns, es))) = defStep (ls, qb, ds) (some (some (ns2, es2))) ds[j]) := Lib.hid (by
            rw [List.take_succ_eq_append_getElem hjl, List.foldl_append, HF.out]
            rfl)
          clear HF
          rw [defStep_some] at hstp
          generalize hdd : ds[j] = d at *
          clear hdd
          have htn := tnone_fact d
          cases qb
          · rw [if_neg (show ¬ ((ls, false, ds) : Rl).2.1 = true from by simp)] at hstp
            simp only at hstp
            by_cases hdl : d ∈ ls
            · have hres : Hid (res = none) := Lib.hid (hst0.out (j + 1) (by rw [hstp.out, if_pos hdl]))
              have HDL := Lib.hid hdl; clear hdl
              clear hstp
              go_wp2_with (go_at_call 29; refine (has_yes d wr rfl sls HDL.out).mono ?_; rintro e w9 ⟨rfl, rfl⟩)
              go_ret3
              exact RetGr.of0 hres hbq
            rw [if_neg hdl] at hstp
            have HDL := Lib.hid hdl; clear hdl
            by_cases hd2 : d = tNone ∨ d ∈ ns2
            · have hres : Hid (res = some none) := Lib.hid (hst2.out (j + 1) (by rw [hstp.out, if_pos hd2]))
              clear hstp
              have sns := hno.sl encS_len
              by_cases hdn : d = tNone
              · have htn2 : (d.toList == [78, 79, 78, 69]) = true := htn.trans (decide_eq_true hdn)
                clear htn hdn hd2
                go_wp2_with (go_at_call 29; refine (has_no d wr rfl sls HDL.out).mono ?_; rintro e w' ⟨rfl, rfl⟩)
                go_ret3
                exact RetGr.of2 hres hbq
              · have htn2 : (d.toList == [78, 79, 78, 69]) = false := htn.trans (decide_eq_false hdn)
                have hd3 : Hid (d ∈ ns2) := Lib.hid (hd2.resolve_left hdn)
                clear htn hdn hd2
                go_wp2_with (first
                  | (go_at_call 29; have tok2 := tok1; refine (has_yes d wr rfl sns hd3.out).mono ?_; rintro e w' ⟨rfl, rfl⟩)
                  | (go_at_call 29; refine (has_no d wr rfl sls HDL.out).mono ?_; rintro e w' ⟨rfl, rfl⟩; have tok1 := Lib.hid trivial))
                go_ret3
                exact RetGr.of2 hres hbq
            rw [if_neg hd2] at hstp
            have htn2 : (d.toList == [78, 79, 78, 69]) = false := htn.trans (decide_eq_false fun e => hd2 (.inl e))
            have hd3 : Hid (d ∉ ns2) := Lib.hid fun e => hd2 (.inr e)
            have sns := hno.sl encS_len
            clear htn hd2
            have hls0 : Hid (∀ i, (ls.take i).foldl (lessStep ds ns2 d) (some (some (ns2, es2))) = none → res = none) := Lib.hid (fun i e => hst0.out (j + 1) (by
              rw [hstp.out, fold_take_stuck _ _ _ _ e (lessFold_none ds ns2 d _ (.inl rfl))]))
            have hls2 : Hid (∀ i, (ls.take i).foldl (lessStep ds ns2 d) (some (some (ns2, es2))) = some none → res = some none) := Lib.hid (fun i e => hst2.out (j + 1) (by
              rw [hstp.out, fold_take_stuck _ _ _ _ e (lessFold_none ds ns2 d _ (.inr rfl))]))
            obtain ⟨wp, rfl⟩ : ∃ wp : World, wp = wr := ⟨_, rfl⟩
            go_wp2_with (first
                  | (go_at_call 29; have tok2 := tok1; refine (has_no d wp rfl sns hd3.out).mono ?_; rintro e w' ⟨rfl, rfl⟩)
                  | (go_at_call 29; refine (has_no d wp rfl sls HDL.out).mono ?_; rintro e w' ⟨rfl, rfl⟩; have tok1 := Lib.hid trivial))
            go_loopg [51, 6] ls.length (fun gk i v6 wz => ∃ (p : Nat) (es3 : List Ed) (ea3 : Option Addr) (ec3 : Nat), p ≤ ls.length ∧ gk = ls.length - p ∧ i = .int .i64 p ∧ v6 = .slice ea3 es3.length ec3 ∧ es3.length ≤ es2.length + p ∧
              Hid ((ls.take p).foldl (lessStep ds ns2 d) (some (some (ns2, es2))) = some (some (ns2, es3))) ∧ Own encS 1 wz w.heap.size 9 na2 nc2 ns2 ∧ Own encE 2 wz w.heap.size 54 ea3 ec3 es3 ∧
              wz.heap[wo.heap.size]? = some (.cells #[.slice la ls.length lc, .bool false, .slice (some ⟨db, doff, none⟩) ds.length dc] 52 (0, 0)) ∧ Below w.heap.size w wz)
            case atStart => exact ⟨0, es2, _, _, Nat.zero_le _, by omega, rfl, rfl, Nat.le_refl _, Lib.hid (by simp), hno, heo, hbox, hbq⟩
            case round =>
              clear hno heo hbox hbq sls sds sns b0 b1 b2 d1 hszq hwo
              obtain ⟨p, es3, ea3, ec3, hp, rfl, rfl, rfl, hel3, HF3, hno, heo, hbox, hbz⟩ := hrel
              have hszz := hbz.size
              have hwo : wo.heap.size < wr.heap.size := (Array.getElem?_eq_some_iff.1 hbox).1
              obtain ⟨sls, sds⟩ := hDRr.out wr hbz
              have sns := hno.sl encS_len
              have b0 : wr.cell? ⟨wo.heap.size, 0, none⟩ = some (.slice la ls.length lc) := by rw [cell_of_row _ _ _ _ _ _ hbox]; rfl
              have b2 : wr.cell? ⟨wo.heap.size, 2, none⟩ = some (.slice (some ⟨db, doff, none⟩) ds.length dc) := by rw [cell_of_row _ _ _ _ _ _ hbox]; rfl
              by_cases hpl : p < ls.length
              · obtain ⟨lb, loff, rfl, l1⟩ := sls.s1 hpl
                have hs3 : Hid ((ls.take (p + 1)).foldl (lessStep ds ns2 d) (some (some (ns2, es2))) = if ls[p] = tNone then some (some (ns2, es3)) else if ls[p] ∈ ds then none else if ls[p] ∉ ns2 then some none else some (some (ns2, es3 ++ [(d, ls[p])]))) := Lib.hid (by
                  rw [List.take_succ_eq_append_getElem hpl, List.foldl_append, HF3.out]
                  rfl)
                clear HF3
                generalize hll' : ls[p] = l at *
                clear hll'
                have htl := tnone_fact l
                by_cases hl1 : l = tNone
                · rw [if_pos hl1] at hs3
                  have htl2 : (l.toList == [78, 79, 78, 69]) = true := htl.trans (decide_eq_true hl1)
                  clear htl hl1
                  go_wp2
                  go_roundg (ls.length - (p + 1))
                  case measure => omega
                  case rel => exact ⟨p + 1, es3, ea3, ec3, by omega, rfl, by go_num, rfl, by omega, hs3, hno, heo, hbox, hbz⟩
                rw [if_neg hl1] at hs3
                have htl2 : (l.toList == [78, 79, 78, 69]) = false := htl.trans (decide_eq_false hl1)
                clear htl hl1
                by_cases hl2 : l ∈ ds
                · have hres : Hid (res = none) := Lib.hid (hls0.out (p + 1) (by rw [hs3.out, if_pos hl2]))
                  have HL2 := Lib.hid hl2; clear hl2
                  clear hs3
                  go_wp2_with (go_at_call 29; refine (has_yes l wr rfl sds HL2.out).mono ?_; rintro e w9 ⟨rfl, rfl⟩)
                  go_ret3
                  exact RetGr.of0 hres hbz
                rw [if_neg hl2] at hs3
                have HL2 := Lib.hid hl2; clear hl2
                by_cases hl3 : l ∉ ns2
                · have hres : Hid (res = some none) := Lib.hid (hls2.out (p + 1) (by rw [hs3.out, if_pos hl3]))
                  have HL3 := Lib.hid hl3; clear hl3
                  clear hs3
                  go_wp2_with (first
                    | (go_at_call 29; have tok4 := tok3; refine (has_no l wr rfl sns HL3.out).mono ?_; rintro e w9 ⟨rfl, rfl⟩)
                    | (go_at_call 29; refine (has_no l wr rfl sds HL2.out).mono ?_; rintro e w9 ⟨rfl, rfl⟩; have tok3 := Lib.hid trivial))
                  go_ret3
                  exact RetGr.of2 hres hbz
                rw [if_neg hl3] at hs3
                have HL3 : Hid (l ∈ ns2) := Lib.hid (Classical.not_not.1 hl3)
                clear hl3
                go_wp2_with (first
                    | (go_at_call 29; have tok4 := tok3; refine (has_yes l wr rfl sns HL3.out).mono ?_; rintro e w9 ⟨rfl, rfl⟩)
                    | (go_at_call 29; refine (has_no l wr rfl sds HL2.out).mono ?_; rintro e w9 ⟨rfl, rfl⟩; have tok3 := Lib.hid trivial)
                    | (at_builtin; refine wpList_append_new encE 2 encE_len encE_one wr _ rfl _ _ 29 rfl 54 _ 32 Tryd.underlying29 infoE rfl (by omega) w.heap.size ea3 ec3 es3 _ rfl rfl heo (d, l) _ _ rfl rfl (by omega) (by omega) (by omega) ?_; intro ea4 ec4 w4 ho4 hf4 hk4))
                have hbox4 := keepT hbox heo (by decide) hf4
                have hno4 := hno.fr hf4 (fun k e1 e2 => hno.sep heo (by decide) k e1 e2)
                have hb4 : Below w.heap.size w w4 := hbz.fr hf4 (Nat.le_refl _) (fun b e => (heo.lt b e).1)
                go_roundg (ls.length - (p + 1))
                case measure => omega
                case rel => exact ⟨p + 1, _, ea4, ec4, by omega, rfl, by go_num, by simp, by simp; omega, hs3, hno4, ho4, hbox4, hb4⟩
              · have hfin : Hid ((ds.take (j + 1)).foldl (defStep (ls, false, ds)) (some (some (ns, es))) = some (some (ns2 ++ [d], es3))) := Lib.hid (by
                  have := HF3.out
                  rw [List.take_of_length_le (by omega)] at this
                  rw [hstp.out, this])
                clear HF3 hstp
                go_wp2_with (at_builtin; refine wpList_append_new encS 1 encS_len encS_one wr _ rfl _ _ 28 rfl 9 _ 16 Tryd.underlying28 infoS rfl (by omega) w.heap.size na2 nc2 ns2 _ rfl rfl hno d _ _ rfl rfl (by omega) (by omega) (by omega) ?_; intro na4 nc4 w4 ho4 hf4 hk4)
                have hbox4 := keepT hbox hno (by decide) hf4
                have heo4 := heo.fr hf4 (fun k e1 e2 => heo.sep hno (by decide) k e1 e2)
                have hb4 : Below w.heap.size w w4 := hbz.fr hf4 (Nat.le_refl _) (fun b e => (hno.lt b e).1)
                go_roundg (ds.length - (j + 1))
                case measure => omega
                case rel => exact ⟨j + 1, _, _, na4, ea3, nc4, ec3, by omega, rfl, by go_num, by simp, rfl, by simp; omega, by omega, hfin, ho4, heo4, hbox4, hb4⟩
          · have hfin : Hid ((ds.take (j + 1)).foldl (defStep (ls, true, ds)) (some (some (ns, es))) = some (some (ns2, es2))) := Lib.hid (by rw [hstp.out, if_pos rfl])
            clear hstp
            go_wp2
            go_roundg (ds.length - (j + 1))
            case measure => omega
            case rel => exact ⟨j + 1, ns2, es2, na2, ea2, nc2, ec2, by omega, rfl, by go_num, rfl, rfl, by omega, by omega, hfin, hno, heo, hbox, hbq⟩
        · have hfin : Hid ((R.take (k + 1)).foldl ruleStep (some (some ([], []))) = some (some (ns2, es2))) := Lib.hid (by
            rw [hstep.out, ← HF.out, List.take_of_length_le (by omega)])
          go_wp2
          go_roundg (R.length - (k + 1))
          case measure => omega
          case rel => exact ⟨k + 1, ns2, es2, na2, ea2, nc2, ec2, by omega, rfl, by go_num, rfl, rfl, by omega, by omega, hfin, hno, heo, hbq⟩
    · have hraw : rawG R = some (some (ns, es)) := by
        have := HR.out
        rwa [List.take_of_length_le (by omega)] at this
      have hge := graphS_eq hraw
      rw [HRES.out] at hge
      obtain ⟨hnd, hin⟩ := rawG_inn hraw
      clear hraw HR
      by_cases h20 : 20 < ns.length
      · rw [if_pos h20] at hge
        have hres := Lib.hid hge
        clear hge hnd hin
        go_wp2
        go_ret3
        exact RetGr.of0 hres hb
      rw [if_neg h20] at hge
      have hcl := closed_calls wr rfl rfl (hno.sl encS_len) (heo.sl encE_len) hnd (by omega) hin
      have hmem := fun (e : Ed) => mem_closedL (e := e) hin
      have HCL := Lib.hid hcl; clear hcl
      have HGE := Lib.hid hge; clear hge
      have HMEM := Lib.hid hmem; clear hmem
      clear hnd hin
      obtain ⟨wo, rfl⟩ : ∃ wo : World, wo = wr := ⟨_, rfl⟩
      go_wp2_with (go_at_call 37; refine (HCL.out).mono ?_; rintro e wc ⟨ea3, en3, ec3, rfl, rfl, hoc, hbc⟩)
      have hbwc := hb.top hbc (Nat.le_refl _)
      have hsc := hoc.sl encE_len
      have hsn := (hno.sl encS_len).top hbc
      go_loopg [86, 13] R.length (fun gk i v wl => ∃ (k : Nat) (st : Int), k ≤ R.length ∧ gk = R.length - k ∧ i = .int .i64 k ∧ v = .int .i64 st ∧ Hid (cls ns es (barred (R.take k)) = st) ∧ Below wc.heap.size wc wl)
      case atStart => exact ⟨0, 1, Nat.zero_le _, by omega, rfl, rfl, Lib.hid rfl, Below.refl _ _⟩
      case round =>
        clear hno heo hlc hlm
        obtain ⟨k2, st, hk2, rfl, rfl, rfl, HC, hbl⟩ := hrel
        by_cases hlt2 : k2 < R.length
        · have hkq : k2 < qs.length := by rw [HQR.out]; exact hlt2
          have hbf := hbwc.top hbl (Nat.le_refl _)
          have hdr := HDR.out.top hbf
          obtain ⟨bb, off, rfl, _, hcell⟩ := hdr.row.2.2 (by omega)
          have g0 := hcell k2 hkq 0 _ rfl
          have g1 := hcell k2 hkq 1 _ rfl
          have g2 := hcell k2 hkq 2 _ rfl
          obtain ⟨q1, q2, q3, q4, q5⟩ := hdr.inner k2 hkq hlt2
          have hr4 := HSM.out.2 R[k2] (List.getElem_mem hlt2)
          have hbt := Lib.hid (barred_take R k2 hlt2)
          generalize R[k2] = r at *
          generalize qs[k2] = q at *
          obtain ⟨ls, br, ds⟩ := r
          obtain ⟨⟨la, ll, lc⟩, qb, ⟨da, dl, dc⟩⟩ := q
          simp only [Nat.add_zero] at q1 q2 q3 q4 q5 g0 g1 g2 hr4
          subst q1
          subst q2
          subst q3
          clear hcell hdr
          have hdl := hr4.2
          have hll := hr4.1
          have hdlen := q5.len
          have hllen := q4.len
          cases qb
          · have hC2 : Hid (cls ns es (barred (R.take (k2 + 1))) = st) := Lib.hid (by
              rw [hbt.out]
              simp only [barsOf, Bool.false_eq_true, if_false, List.append_nil]
              exact HC.out)
            clear HC hbt
            go_wp2
            go_roundg (R.length - (k2 + 1))
            case measure => omega
            case rel => exact ⟨k2 + 1, st, by omega, rfl, by go_num, rfl, hC2, hbl.alloc hbl.size _⟩
          · have hbars : Hid (barred (R.take (k2 + 1)) = barred (R.take k2) ++ ls.flatMap fun l => ds.map fun d => (d, l)) := Lib.hid (by
              rw [hbt.out]
              simp only [barsOf, if_true])
            clear hbt
            have hbox := heap_alloc_new wr (.cells #[.slice la ls.length lc, .bool true, .slice da ds.length dc] 52 (0, 0))
            have q4W := q4.alloc (.cells #[.slice la ls.length lc, .bool true, .slice da ds.length dc] 52 (0, 0))
            have q5W := q5.alloc (.cells #[.slice la ls.length lc, .bool true, .slice da ds.length dc] 52 (0, 0))
            have hblW := hbl.alloc (hbl.size) (.cells #[.slice la ls.length lc, .bool true, .slice da ds.length dc] 52 (0, 0))
            obtain ⟨wl, rfl⟩ : ∃ wl : World, wl = wr := ⟨_, rfl⟩
            go_wp2
            have hwlt : wl.heap.size < (wl.alloc (.cells #[.slice la ls.length lc, .bool true, .slice da ds.length dc] 52 (0, 0))).heap.size := by simp
            generalize wl.alloc (.cells #[.slice la ls.length lc, .bool true, .slice da ds.length dc] 52 (0, 0)) = wb at *
            generalize barred (R.take k2) = B at *
            clear g0 g1 g2 q4 q5 hbl
            go_loopg [96, 13] ls.length (fun gk i v wz => ∃ (p : Nat) (st : Int), p ≤ ls.length ∧ gk = ls.length - p ∧ i = .int .i64 p ∧ v = .int .i64 st ∧ Hid (cls ns es (B ++ (ls.take p).flatMap fun l => ds.map fun d => (d, l)) = st) ∧ Below wb.heap.size wb wz)
            case atStart => exact ⟨0, st, Nat.zero_le _, by omega, rfl, rfl, Lib.hid (by simpa using HC.out), Below.refl _ _⟩
            case round =>
              clear HC
              clear st
              obtain ⟨p, st, hp, rfl, rfl, rfl, HC, hbz⟩ := hrel
              have hsl := q4W.top hbz
              have hsd := q5W.top hbz
              by_cases hpl : p < ls.length
              · obtain ⟨lb, loff, rfl, l1⟩ := hsl.s1 hpl
                have b2 : wr.cell? ⟨wl.heap.size, 2, none⟩ = some (.slice da ds.length dc) := by
                  rw [hbz.cell (p := ⟨wl.heap.size, 2, none⟩) hwlt, cell_of_row _ _ _ _ _ _ hbox]; rfl
                have hft : Hid (B ++ ((ls.take (p + 1)).flatMap fun l => ds.map fun d => (d, l)) = (B ++ (ls.take p).flatMap fun l => ds.map fun d => (d, l)) ++ ds.map fun d => (d, ls[p])) := Lib.hid (by
                  rw [List.take_succ_eq_append_getElem hpl, List.flatMap_append, List.append_assoc]
                  simp)
                generalize ls[p] = l at *
                generalize B ++ (ls.take p).flatMap (fun l => ds.map fun d => (d, l)) = B2 at *
                obtain ⟨wp, rfl⟩ : ∃ wp : World, wp = wr := ⟨_, rfl⟩
                go_wp2
                go_loopg [103, 13] ds.length (fun gk i v wz => ∃ (j : Nat) (st : Int), j ≤ ds.length ∧ gk = ds.length - j ∧ i = .int .i64 j ∧ v = .int .i64 st ∧ Hid (cls ns es (B2 ++ (ds.take j).map fun d => (d, l)) = st) ∧ Below wb.heap.size wb wz)
                case atStart => exact ⟨0, st, Nat.zero_le _, by omega, rfl, rfl, Lib.hid (by simpa using HC.out), hbz⟩
                case round =>
                  clear HC hbz b2 l1 hsl hsd
                  clear st
                  obtain ⟨j, st, hj, rfl, rfl, rfl, HC, hbz⟩ := hrel
                  have hsd := q5W.top hbz
                  by_cases hjl : j < ds.length
                  · obtain ⟨db, doff, rfl, d1⟩ := hsd.s1 hjl
                    have hbcz : Below wc.heap.size wc wr := hblW.top hbz (Nat.le_refl _)
                    have hsnz := hsn.top hbcz
                    have hscz := hsc.top hbcz
                    have hcs : Hid (cls ns es (B2 ++ (ds.take (j + 1)).map fun d => (d, l)) = if ¬ (ds[j] ∈ ns ∧ l ∈ ns) then 0 else if st = 1 ∧ clo ns es ds[j] l = true then 2 else st) := Lib.hid (by
                      rw [List.take_succ_eq_append_getElem hjl, List.map_append, ← List.append_assoc, List.map_singleton, cls_snoc, HC.out])
                    generalize ds[j] = d at *
                    have hme := Lib.hid (HMEM.out (d, l))
                    clear HC
                    by_cases hln : l ∈ ns
                    · by_cases hdn : d ∈ ns
                      · rw [if_neg (show ¬ ¬ (d ∈ ns ∧ l ∈ ns) from fun h => h ⟨hdn, hln⟩)] at hcs
                        have HLN := Lib.hid hln; clear hln
                        have HDN := Lib.hid hdn; clear hdn
                        by_cases hs1 : st = 1
                        · subst hs1
                          by_cases hcc : clo ns es d l = true
                          · rw [if_pos ⟨rfl, hcc⟩] at hcs
                            have hyes := edged_yes (d, l) wr rfl hscz (hme.out.2 hcc)
                            have HYES := Lib.hid hyes; clear hyes
                            clear hcc hme
                            go_wp2_with (first
                              | (go_at_call 29; have tok2 := tok1; refine (has_yes d wr rfl hsnz HDN.out).mono ?_; rintro e w9 ⟨rfl, rfl⟩)
                              | (go_at_call 29; refine (has_yes l wr rfl hsnz HLN.out).mono ?_; rintro e w9 ⟨rfl, rfl⟩; have tok1 := Lib.hid trivial)
                              | (go_at_call 31; refine HYES.out.mono ?_; rintro e w9 ⟨rfl, hb9⟩))
                            go_roundg (ds.length - (j + 1))
                            case measure => omega
                            case rel => exact ⟨j + 1, 2, by omega, rfl, by go_num, rfl, hcs, hbz.top hb9 (Nat.le_refl _)⟩
                          · rw [if_neg (show ¬ ((1 : Int) = 1 ∧ clo ns es d l = true) from fun h => hcc h.2)] at hcs
                            have hno' := edged_no (d, l) wr rfl hscz (fun h => hcc (hme.out.1 h))
                            have HNO := Lib.hid hno'; clear hno'
                            clear hcc hme
                            go_wp2_with (first
                              | (go_at_call 29; have tok2 := tok1; refine (has_yes d wr rfl hsnz HDN.out).mono ?_; rintro e w9 ⟨rfl, rfl⟩)
                              | (go_at_call 29; refine (has_yes l wr rfl hsnz HLN.out).mono ?_; rintro e w9 ⟨rfl, rfl⟩; have tok1 := Lib.hid trivial)
                              | (go_at_call 31; refine HNO.out.mono ?_; rintro e w9 ⟨rfl, hb9⟩))
                            go_roundg (ds.length - (j + 1))
                            case measure => omega
                            case rel => exact ⟨j + 1, 1, by omega, rfl, by go_num, rfl, hcs, hbz.top hb9 (Nat.le_refl _)⟩
                        · rw [if_neg (show ¬ (st = 1 ∧ clo ns es d l = true) from fun h => hs1 h.1)] at hcs
                          have hs2 : (st == 1) = false := by simpa using hs1
                          clear hs1 hme
                          go_wp2_with (first
                            | (go_at_call 29; have tok2 := tok1; refine (has_yes d wr rfl hsnz HDN.out).mono ?_; rintro e w9 ⟨rfl, rfl⟩)
                            | (go_at_call 29; refine (has_yes l wr rfl hsnz HLN.out).mono ?_; rintro e w9 ⟨rfl, rfl⟩; have tok1 := Lib.hid trivial))
                          go_roundg (ds.length - (j + 1))
                          case measure => omega
                          case rel => exact ⟨j + 1, st, by omega, rfl, by go_num, rfl, hcs, hbz⟩
                      · rw [if_pos (show ¬ (d ∈ ns ∧ l ∈ ns) from fun h => hdn h.1)] at hcs
                        have HLN := Lib.hid hln; clear hln
                        have HDN := Lib.hid hdn; clear hdn
                        clear hme
                        go_wp2_with (first
                          | (go_at_call 29; have tok2 := tok1; refine (has_no d wr rfl hsnz HDN.out).mono ?_; rintro e w9 ⟨rfl, rfl⟩)
                          | (go_at_call 29; refine (has_yes l wr rfl hsnz HLN.out).mono ?_; rintro e w9 ⟨rfl, rfl⟩; have tok1 := Lib.hid trivial))
                        go_roundg (ds.length - (j + 1))
                        case measure => omega
                        case rel => exact ⟨j + 1, 0, by omega, rfl, by go_num, rfl, hcs, hbz⟩
                    · rw [if_pos (show ¬ (d ∈ ns ∧ l ∈ ns) from fun h => hln h.2)] at hcs
                      have HLN := Lib.hid hln; clear hln
                      clear hme
                      go_wp2_with (go_at_call 29; refine (has_no l wr rfl hsnz HLN.out).mono ?_; rintro e w9 ⟨rfl, rfl⟩)
                      go_roundg (ds.length - (j + 1))
                      case measure => omega
                      case rel => exact ⟨j + 1, 0, by omega, rfl, by go_num, rfl, hcs, hbz⟩
                  · have hC2 : Hid (cls ns es (B ++ (ls.take (p + 1)).flatMap fun l => ds.map fun d => (d, l)) = st) := Lib.hid (by
                      have := HC.out
                      rw [List.take_of_length_le (by omega)] at this
                      rw [hft.out]
                      exact this)
                    clear HC
                    go_wp2
                    go_roundg (ls.length - (p + 1))
                    case measure => omega
                    case rel => exact ⟨p + 1, st, by omega, rfl, by go_num, rfl, hC2, hbz⟩
              · have hC2 : Hid (cls ns es (barred (R.take (k2 + 1))) = st) := Lib.hid (by
                  have := HC.out
                  rw [List.take_of_length_le (by omega)] at this
                  rw [hbars.out]
                  exact this)
                clear HC
                go_wp2
                go_roundg (R.length - (k2 + 1))
                case measure => omega
                case rel => exact ⟨k2 + 1, st, by omega, rfl, by go_num, rfl, hC2, hblW.top hbz (Nat.le_refl _)⟩
        · have hC : Hid (cls ns es (barred R) = st) := Lib.hid (by
            have := HC.out
            rwa [List.take_of_length_le (by omega)] at this)
          have hbf := hbwc.top hbl (Nat.le_refl _)
          clear HC
          go_wp2
          go_ret3
          have hge := HGE.out
          rw [hC.out] at hge
          rcases cls_cases ns es (barred R) with h0 | h0 | h0
          · rw [hC.out] at h0
            subst h0
            exact RetGr.of0 (Lib.hid (by rw [hge, if_pos rfl])) hbf
          · rw [hC.out] at h0
            subst h0
            exact RetGr.of1 (Lib.hid (by rw [hge, if_neg (by decide), if_neg (by decide)])) hbf rfl (hsn.top hbl) rfl (hsc.top hbl)
          · rw [hC.out] at h0
            subst h0
            exact RetGr.of2 (Lib.hid (by rw [hge, if_neg (by decide), if_pos rfl])) hbf
end Go.Proofs.YthpfladpbfbpjaaDoor

/- The reference's Parse: what the call computes. -/
namespace Go.Proofs.YthpfladpbfbpjaaDoor
open Go.RowKit

theorem lRun_small (seg : List Str) : ∀ s, lRun seg = some s → (∀ x ∈ s.done, x.length ≤ seg.length) ∧ s.cur.length ≤ seg.length := by
  refine snoc_ind (P := fun seg => ∀ s, lRun seg = some s → (∀ x ∈ s.done, x.length ≤ seg.length) ∧ s.cur.length ≤ seg.length) ?_ ?_ seg
  · intro s h; cases h; exact ⟨by simp, Nat.le_refl _⟩
  · intro l t ih s h
    rw [lRun_snoc] at h
    cases hl : lRun l with
    | none => rw [hl] at h; cases h
    | some s0 =>
      rw [hl, lStep_some] at h
      obtain ⟨h1, h2⟩ := ih s0 hl
      have h3 : ∀ x ∈ s0.done, x.length ≤ l.length + 1 := fun x hx => Nat.le_succ_of_le (h1 x hx)
      simp only [List.length_append, List.length_singleton]
      split at h
      · cases h
      split at h
      · cases h; exact ⟨h3, by simp; omega⟩
      split at h
      · cases h; exact ⟨h3, by simp; omega⟩
      · cases h
        refine ⟨fun x hx => ?_, by simp⟩
        rcases List.mem_append.1 hx with hx | hx
        · exact h3 x hx
        · simp at hx; subst hx; omega
theorem rulesOf_small {B : Nat} : ∀ (D : List (List Str)) (O : List Str) (c : List Str), (∀ x ∈ D, x.length ≤ B) → c.length ≤ B → ∀ r ∈ rulesOf D O c, r.1.length ≤ B ∧ r.2.2.length ≤ B
  | [], _, _, _, _, r, hr => by simp [rulesOf] at hr
  | [x], p :: _, c, h, hc, r, hr => by
    simp [rulesOf] at hr
    subst hr
    exact ⟨h x (by simp), hc⟩
  | x :: y :: t, p :: q, c, h, hc, r, hr => by
    simp only [rulesOf, List.mem_cons] at hr
    rcases hr with hr | hr
    · subst hr
      exact ⟨h x (by simp), h y (by simp)⟩
    · exact rulesOf_small (y :: t) q c (fun z hz => h z (List.mem_cons_of_mem _ hz)) hc r hr
  | [_], [], _, _, _, r, hr => by simp [rulesOf] at hr
  | _ :: _ :: _, [], _, _, _, r, hr => by simp [rulesOf] at hr
theorem srRun_small (ts : List Str) : ∀ out seg, srRun ts = some (some (out, seg)) → ∀ r ∈ out, r.1.length ≤ ts.length ∧ r.2.2.length ≤ ts.length := by
  refine snoc_ind (P := fun ts => ∀ out seg, srRun ts = some (some (out, seg)) → ∀ r ∈ out, r.1.length ≤ ts.length ∧ r.2.2.length ≤ ts.length) ?_ ?_ ts
  · intro out seg h; cases h; simp
  · intro l t ih out seg h
    rw [srRun_snoc] at h
    simp only [List.length_append, List.length_singleton]
    rcases hs : srRun l with _ | _ | ⟨o, sg⟩
    · rw [hs] at h; cases h
    · rw [hs] at h; cases h
    · have h0 := ih o sg hs
      have h1 : ∀ r ∈ o, r.1.length ≤ l.length + 1 ∧ r.2.2.length ≤ l.length + 1 := fun r hr => ⟨Nat.le_succ_of_le (h0 r hr).1, Nat.le_succ_of_le (h0 r hr).2⟩
      have hc := srRun_count l o sg hs
      rw [hs] at h
      by_cases ht : t = tSemi
      · simp only [srStep, if_pos ht] at h
        split at h
        · cases h
        · cases hl : lRun sg with
          | none => rw [hl] at h; cases h
          | some s =>
            rw [hl] at h
            simp only at h
            split at h
            · cases h
            split at h
            · cases h
            · cases h
              obtain ⟨h2, h3⟩ := lRun_small sg s hl
              intro r hr
              rcases List.mem_append.1 hr with hr | hr
              · exact h1 r hr
              · have := rulesOf_small (B := l.length + 1) s.done s.ops s.cur (fun x hx => by have := h2 x hx; omega) (by omega) r hr
                exact this
      · simp only [srStep, if_neg ht] at h
        cases h
        exact h1
theorem rulesS_small {s : Str} {R : List Rl} (h : rulesS s = some (some R)) : Small R := by
  unfold rulesS at h
  cases hlx : lex (bs s) with
  | none => rw [hlx] at h; cases h
  | some ts =>
    rw [hlx] at h
    simp only at h
    have hcnt := (lex_count _ _ _ (Nat.le_refl _) hlx).1
    rw [bs_len] at hcnt
    split at h
    · cases h
    rename_i hbig
    rcases hs : srRun ts with _ | _ | ⟨out, seg⟩
    · rw [hs] at h; cases h
    · rw [hs] at h; cases h
    · rw [hs] at h
      have h1 := srRun_count ts out seg hs
      have h2 := srRun_small ts out seg hs
      have hout : out = R := by
        cases seg with
        | nil => simp only [srEnd] at h; cases h; rfl
        | cons y r =>
          exfalso
          simp only [srEnd] at h
          cases hl : lRun (y :: r) with
          | none => rw [hl] at h; cases h
          | some s' =>
            rw [hl] at h
            simp only at h
            split at h <;> cases h
      subst hout
      exact ⟨by omega, fun r hr => by have := h2 r hr; omega⟩

/-- What spec.Parse returns of a text. -/
def parseS (s : Str) : St3 (List Str × List Ed) := match rulesS s with
  | none => none
  | some none => some none
  | some (some R) => graphS R

set_option maxRecDepth 100000 in
theorem parseS_calls (s : Str) (w : World) (hsm : s.size ≤ 2147483647) : Calls Tryd.prog 22 #[.string s] w (RetGr (parseS s) w) := by
  have hru := rules_calls s w hsm
  rcases hr : rulesS s with _ | _ | R
  · have hp : Hid (parseS s = none) := Lib.hid (by unfold parseS; rw [hr])
    rw [hr] at hru
    have HRU := Lib.hid hru; clear hru
    clear hr
    go_enter Tryd.func22, Tryd.ntmps22
    go_wp2_with (go_at_call 32; refine (HRU.out).mono ?_; rintro e w1 ⟨a1, n1, c1, st, rfl, hb1, rfl⟩)
    go_ret3
    exact RetGr.of0 hp hb1
  · have hp : Hid (parseS s = some none) := Lib.hid (by unfold parseS; rw [hr])
    rw [hr] at hru
    have HRU := Lib.hid hru; clear hru
    clear hr
    go_enter Tryd.func22, Tryd.ntmps22
    go_wp2_with (go_at_call 32; refine (HRU.out).mono ?_; rintro e w1 ⟨a1, n1, c1, st, rfl, hb1, rfl⟩)
    go_ret3
    exact RetGr.of2 hp hb1
  · have hp : Hid (parseS s = graphS R) := Lib.hid (by unfold parseS; rw [hr])
    have hs := Lib.hid (rulesS_small hr)
    rw [hr] at hru
    have HRU := Lib.hid hru; clear hru
    clear hr
    generalize parseS s = res at *
    go_enter Tryd.func22, Tryd.ntmps22
    go_wp2_with (first
      | (go_at_call 32; refine (HRU.out).mono ?_; rintro e w1 ⟨a1, n1, c1, st, rfl, hb1, rfl, rfl, qs, hrs⟩)
      | (go_at_call 18; refine (graph_calls w1 rfl hrs.dr hs.out).mono ?_; rintro e w2 ⟨a2, n2, c2, ea, en, ec, st2, rfl, hb2, hm⟩))
    go_ret3
    exact ⟨_, _, _, _, _, _, _, rfl, hb1.top hb2 (Nat.le_refl _), by rw [hp.out]; exact hm⟩
end Go.Proofs.YthpfladpbfbpjaaDoor

/- The package's zzIndex and zzIndexAny: what each call computes. -/
namespace Go.Proofs.YthpfladpbfbpjaaDoor
open Go.RowKit

theorem tw_lt (p : UInt8 → Bool) : ∀ (l : Bs) (j : Nat) (h : j < l.length), j < (l.takeWhile p).length → p l[j] = true
  | [], j, h, _ => by simp at h
  | x :: r, j, h, hj => by
    rw [List.takeWhile_cons] at hj
    split at hj
    · rename_i hx
      cases j with
      | zero => exact hx
      | succ j => exact tw_lt p r j (by simpa using h) (by simpa using hj)
    · simp at hj
theorem tw_at (p : UInt8 → Bool) : ∀ (l : Bs) (k : Nat) (h : k < l.length), k = (l.takeWhile p).length → p l[k] = false
  | [], k, h, _ => by simp at h
  | x :: r, k, h, hk => by
    rw [List.takeWhile_cons] at hk
    split at hk
    · subst hk
      exact tw_at p r _ (by simpa using h) rfl
    · rename_i hx
      simp at hk
      subst hk
      simpa using hx
theorem tw_le (p : UInt8 → Bool) : ∀ (l : Bs), (l.takeWhile p).length ≤ l.length
  | [] => by simp
  | x :: r => by
    have := tw_le p r
    rw [List.takeWhile_cons]
    split
    · simp; omega
    · simp
theorem ext_one (s : Str) (j : Nat) (h : j < s.size) (c : UInt8) : ((s.extract j (j + 1)).toList == [c]) = decide (s[j] = c) := by
  rw [tl_tok, mkS_extract, bs_drop s j h]
  have : j + 1 - j = 1 := by omega
  rw [this, List.take_succ_cons, List.take_zero]
  rw [Bool.eq_iff_iff]
  simp only [decide_eq_true_eq]
  constructor
  · intro h; have := mkS_inj h; simpa using this
  · intro h; rw [h]

set_option maxRecDepth 100000 in
/-- the first line end, where there is one -/
theorem index_calls (s : Str) (k : Nat) (w : World) (hsm : s.size ≤ 2147483647) (hk : k = ((bs s).takeWhile lineB).length) :
    Calls Tryd.prog 73 #[.string s, .string ⟨#[10]⟩] w fun e w' => e = .returned (.int .i64 (if k < s.size then (k : Int) else -1)) ∧ w = w' := by
  have hle := tw_le lineB (bs s)
  rw [← hk, bs_len] at hle
  have H1 : Hid (∀ j (h : j < s.size), j < k → s[j] ≠ 10) := Lib.hid (fun j h hj => by
    have := tw_lt lineB (bs s) j (by rw [bs_len]; exact h) (by rw [← hk]; exact hj)
    rw [bs_get s j h] at this
    simpa [lineB] using this)
  have H2 : Hid (∀ (h : k < s.size), s[k] = 10) := Lib.hid (fun h => by
    have := tw_at lineB (bs s) k (by rw [bs_len]; exact h) hk
    rw [bs_get s k h] at this
    simpa [lineB] using this)
  clear hk
  go_enter Tryd.func73, Tryd.ntmps73
  go_wp2
  go_loopg [5] (s.size + 1) (fun gk i wr => ∃ j : Nat, j ≤ k ∧ gk = s.size + 1 - j ∧ i = .int .i64 j ∧ w = wr)
  case atStart => exact ⟨0, Nat.zero_le _, by omega, rfl, rfl⟩
  case round =>
    obtain ⟨j, hj, rfl, rfl, rfl⟩ := hrel
    by_cases hlt : j < s.size
    · have he := ext_one s j hlt 10
      by_cases hjk : j < k
      · rw [decide_eq_false (H1.out j hlt hjk)] at he
        go_wp2
        go_roundg (s.size + 1 - (j + 1))
        case measure => omega
        case rel => exact ⟨j + 1, by omega, rfl, by go_num, rfl⟩
      · obtain rfl : j = k := by omega
        rw [decide_eq_true (H2.out hlt)] at he
        go_wp2
        go_ret
        exact ⟨rfl, rfl⟩
    · have hjk : j = k := by omega
      go_wp2
      go_ret
      exact ⟨rfl, rfl⟩

/-- one of the signs that end a word -/
def stopB (c : UInt8) : Bool := decide (c ∈ [33, 59, 44, 60, 35, 10, 32, 9])
theorem stop_letter {c : UInt8} (h : letterB c = true) : stopB c = false ∧ c.toNat < 128 := by
  obtain ⟨h1, h2, h3, h4, h5, h6⟩ := letter_not h
  simp only [blankB, signB, Bool.or_eq_false_iff, decide_eq_false_iff_not] at h1 h3
  simp only [lowB, decide_eq_true_eq] at h5
  refine ⟨?_, by omega⟩
  simp [stopB, h1, h2, h3, h4]
abbrev stopS : Str := ⟨#[33, 59, 44, 60, 35, 10, 32, 9]⟩
theorem stop_at : stopS.size = 8 := rfl
theorem stop_low (q : Nat) (h : q < stopS.size) : stopS[q].toNat < 128 := by
  rw [stop_at] at h
  have : ∀ q (h : q < 8), (stopS[q]'h).toNat < 128 := by decide
  exact this q h
theorem stop_has (q : Nat) (h : q < stopS.size) : stopB stopS[q] = true := by
  rw [stop_at] at h
  have : ∀ q (h : q < 8), stopB (stopS[q]'h) = true := by decide
  exact this q h
theorem stop_none {c : UInt8} (h : ∀ q (h : q < stopS.size), stopS[q] ≠ c) : stopB c = false := by
  have h0 := h 0 (by decide)
  have h1 := h 1 (by decide)
  have h2 := h 2 (by decide)
  have h3 := h 3 (by decide)
  have h4 := h 4 (by decide)
  have h5 := h 5 (by decide)
  have h6 := h 6 (by decide)
  have h7 := h 7 (by decide)
  simp only [stopB, decide_eq_false_iff_not, List.mem_cons, List.not_mem_nil, or_false]
  rintro (e | e | e | e | e | e | e | e) <;> subst e
  · exact h0 rfl
  · exact h1 rfl
  · exact h2 rfl
  · exact h3 rfl
  · exact h4 rfl
  · exact h5 rfl
  · exact h6 rfl
  · exact h7 rfl

set_option maxRecDepth 100000 in
/-- The first k bytes end no word; behind them one does, or the text ends. -/
theorem indexAny_calls (s : Str) (k : Nat) (w : World) (hsm : s.size ≤ 2147483647) (hk : k ≤ s.size) (H1 : Hid (∀ j (h : j < s.size), j < k → stopB s[j] = false ∧ s[j].toNat < 128)) (H2 : Hid (∀ (h : k < s.size), stopB s[k] = true ∧ s[k].toNat < 128)) :
    Calls Tryd.prog 74 #[.string s, .string stopS] w fun e w' => e = .returned (.int .i64 (if k < s.size then (k : Int) else -1)) ∧ Below w.heap.size w w' := by
  go_enter Tryd.func74, Tryd.ntmps74
  go_wp2
  go_loopg [5, 6] (s.size + 1) (fun gk _ _ wr => ∃ j : Nat, j ≤ k ∧ gk = s.size + 1 - j ∧ wr.heap[w.heap.size]? = some (.stringIter s j) ∧ Below w.heap.size w wr)
  case atStart => exact ⟨0, Nat.zero_le _, by omega, heap_alloc_new w _, (Below.refl _ _).alloc (Nat.le_refl _) _⟩
  case round =>
    obtain ⟨j, hj, rfl, hit, hb⟩ := hrel
    have hsz := hb.size
    by_cases hlt : j < s.size
    · have h128 : s[j].toNat < 128 := by
        by_cases hjk : j < k
        · exact (H1.out j hlt hjk).2
        · obtain rfl : j = k := by omega
          exact (H2.out hlt).2
      have hnext := fun ty => Lib.run_next_ascii_at (P := Tryd.prog) wr w.heap.size s j ty hit hlt h128
      have hit2 := Lib.iterAt_heap wr w.heap.size s j (j + 1) hit
      have hb2 := Lib.below_iterAt hb (Nat.le_refl _) s (j + 1)
      generalize wr.iterAt w.heap.size s (j + 1) = W at *
      have hszW := hb2.size
      have hltW : w.heap.size < W.heap.size := (Array.getElem?_eq_some_iff.1 hit2).1
      have hst : Hid (stopB s[j] = decide (j = k)) := Lib.hid (by
        by_cases hjk : j = k
        · subst hjk
          rw [(H2.out hlt).1]; simp
        · rw [(H1.out j hlt (by omega)).1]; simp [hjk])
      generalize s[j] = c at *
      obtain ⟨wo, rfl⟩ : ∃ wo : World, wo = wr := ⟨_, rfl⟩
      go_wp2
      go_loopg [8] 9 (fun gk _ wz => ∃ q : Nat, q ≤ 8 ∧ gk = 9 - q ∧ wz.heap[W.heap.size]? = some (.stringIter stopS q) ∧ Below W.heap.size W wz ∧ Hid (∀ q' (h : q' < stopS.size), q' < q → stopS[q'] ≠ c))
      case atStart => exact ⟨0, Nat.zero_le _, by omega, heap_alloc_new W _, (Below.refl _ _).alloc (Nat.le_refl _) _, Lib.hid (fun q' _ h => absurd h (Nat.not_lt_zero _))⟩
      case round =>
        obtain ⟨q, hq, rfl, hit3, hb3, hno⟩ := hrel
        by_cases hq8 : q < 8
        · have hq9 : q < stopS.size := hq8
          have hs128 : stopS[q].toNat < 128 := stop_low q hq9
          have hnext := fun ty => Lib.run_next_ascii_at (P := Tryd.prog) wr W.heap.size stopS q ty hit3 hq9 hs128
          have hit4 := Lib.iterAt_heap wr W.heap.size stopS q (q + 1) hit3
          have hb4 := Lib.below_iterAt hb3 (Nat.le_refl _) stopS (q + 1)
          generalize wr.iterAt W.heap.size stopS (q + 1) = W2 at *
          have hce := byte_eq c stopS[q]
          have hmem : Hid (stopS[q] = c → j = k) := Lib.hid (fun e => by
            have := stop_has q hq9
            rw [e, hst.out] at this
            simpa using this)
          by_cases he : c = stopS[q]
          · have hjk : j = k := hmem.out he.symm
            rw [decide_eq_true he] at hce
            clear he hmem hst
            generalize stopS[q] = d at *
            subst hjk
            have hbf : Below w.heap.size w W2 := hb2.top (hb4) (Nat.le_refl _)
            go_wp2
            go_ret
            exact ⟨rfl, hbf⟩
          · rw [decide_eq_false he] at hce
            have hno2 : Hid (∀ q' (h : q' < stopS.size), q' < q + 1 → stopS[q'] ≠ c) := Lib.hid (fun q' h h2 => by
              by_cases e : q' = q
              · subst e; exact fun e => he e.symm
              · exact hno.out q' h (by omega))
            clear he hmem
            generalize stopS[q] = d at *
            go_wp2
            go_roundg (9 - (q + 1))
            case measure => omega
            case rel => exact ⟨q + 1, by omega, rfl, hit4, hb4, hno2⟩
        · have hnext := fun ty => Lib.run_next_end_at (P := Tryd.prog) wr W.heap.size stopS q ty hit3 (by rw [stop_at]; exact hq8)
          have hjk : j < k := by
            have h1 : stopB c = false := stop_none fun q' h => hno.out q' h (by rw [stop_at] at h; omega)
            rw [hst.out] at h1
            have : ¬ j = k := by simpa using h1
            omega
          have hit5 : wr.heap[w.heap.size]? = some (.stringIter s (j + 1)) := by rw [hb3.block _ hltW]; exact hit2
          have hbf : Below w.heap.size w wr := hb2.top hb3 (Nat.le_refl _)
          clear hst hno
          go_wp2
          go_roundg (s.size + 1 - (j + 1))
          case measure => omega
          case rel => exact ⟨j + 1, by omega, rfl, hit5, hbf⟩
    · have hnext := fun ty => Lib.run_next_end_at (P := Tryd.prog) wr w.heap.size s j ty hit hlt
      go_wp2
      go_ret
      exact ⟨rfl, hb⟩
end Go.Proofs.YthpfladpbfbpjaaDoor

/- The package's nextToken: what the call computes on a text that has tokens. (Printed by mk_next.py.) -/
namespace Go.Proofs.YthpfladpbfbpjaaDoor
open Go.RowKit

/-- the parser's cells: the line, the last word, the text that is left; M bounds them all -/
def TokAt (w : World) (pb M : Nat) (tx : Str) : Prop := ∃ (ln : Nat) (lw : Str), ln + tx.size ≤ M ∧ lw.size ≤ M ∧ w.heap[pb]? = some (.cells #[.int .i64 ln, .string lw, .string tx] 95 (0, 0))
theorem TokAt.mk' {w : World} {pb M ln : Nat} {lw tx : Str} (h1 : ln + tx.size ≤ M) (h2 : lw.size ≤ M) (h : w.heap[pb]? = some (.cells #[.int .i64 ln, .string lw, .string tx] 95 (0, 0))) : TokAt w pb M tx := ⟨ln, lw, h1, h2, h⟩
theorem set2 {w : World} {pb : Nat} {a b c : Value} {T : TypeId} (h : w.heap[pb]? = some (.cells #[a, b, c] T (0, 0))) (v : Value) : (w.setCell ⟨pb, 2, none⟩ v).heap[pb]? = some (.cells #[a, b, v] T (0, 0)) := by
  rw [heap_setCell_same w pb 2 _ _ _ h]; rfl
theorem set1c {w : World} {pb : Nat} {a b c : Value} {T : TypeId} (h : w.heap[pb]? = some (.cells #[a, b, c] T (0, 0))) (v : Value) : (w.setCell ⟨pb, 1, none⟩ v).heap[pb]? = some (.cells #[a, v, c] T (0, 0)) := by
  rw [heap_setCell_same w pb 1 _ _ _ h]; rfl
theorem set0 {w : World} {pb : Nat} {a b c : Value} {T : TypeId} (h : w.heap[pb]? = some (.cells #[a, b, c] T (0, 0))) (v : Value) : (w.setCell ⟨pb, 0, none⟩ v).heap[pb]? = some (.cells #[v, b, c] T (0, 0)) := by
  rw [heap_setCell_same w pb 0 _ _ _ h]; rfl
/-- what comes of a text with the tokens ts -/
def RetNext (ts : List Str) (M pb : Nat) (w : World) (e : Ending) (w' : World) : Prop := ∃ t tx, e = .returned (.string t) ∧ TokAt w' pb M tx ∧ Fr (fun k => k = pb) w w' ∧
  match ts with
  | [] => t = ⟨#[]⟩ ∧ lex (bs tx) = some []
  | u :: r => t = u ∧ lex (bs tx) = some r
theorem RetNext.nil {ts : List Str} {M pb : Nat} {w w' : World} {tx : Str} (h : Hid (ts = [])) (h1 : TokAt w' pb M tx) (h2 : Fr (fun k => k = pb) w w') (h3 : Hid (lex (bs tx) = some [])) : RetNext ts M pb w (.returned (.string ⟨#[]⟩)) w' := by
  rw [h.out]; exact ⟨_, tx, rfl, h1, h2, rfl, h3.out⟩
theorem RetNext.cons {ts r : List Str} {M pb : Nat} {w w' : World} {t u tx : Str} (h : Hid (ts = u :: r)) (ht : Hid (t = u)) (h1 : TokAt w' pb M tx) (h2 : Fr (fun k => k = pb) w w') (h3 : Hid (lex (bs tx) = some r)) : RetNext ts M pb w (.returned (.string t)) w' := by
  rw [h.out, ht.out]; exact ⟨_, tx, rfl, h1, h2, rfl, h3.out⟩
theorem ext_bs {s : Str} {l : Bs} (h : bs s = l) (a b : Nat) : s.extract a b = mkS ((l.drop a).take (b - a)) := by rw [mkS_extract, h]

theorem tw_drop (p : UInt8 → Bool) : ∀ (l : Bs), l.drop (l.takeWhile p).length = l.dropWhile p
  | [] => rfl
  | x :: r => by
    rw [List.takeWhile_cons, List.dropWhile_cons]
    split
    · rw [List.length_cons, List.drop_succ_cons]; exact tw_drop p r
    · rfl
theorem tw_take (p : UInt8 → Bool) : ∀ (l : Bs), l.take (l.takeWhile p).length = l.takeWhile p
  | [] => rfl
  | x :: r => by
    rw [List.takeWhile_cons]
    split
    · rw [List.length_cons, List.take_succ_cons, tw_take p r]
    · rfl
theorem lex_stop {d : UInt8} {r : Bs} {ts : List Str} (h : lex (d :: r) = some ts) (hd : letterB d = false) : stopB d = true ∧ d.toNat < 128 := by
  by_cases h1 : blankB d = true
  · simp only [blankB, Bool.or_eq_true, decide_eq_true_eq] at h1
    rcases h1 with (e | e) | e <;> subst e <;> decide
  by_cases h2 : d = 35
  · subst h2; decide
  by_cases h3 : signB d = true
  · simp only [signB, Bool.or_eq_true, decide_eq_true_eq] at h3
    rcases h3 with (e | e) | e <;> subst e <;> decide
  by_cases h4 : d = 33
  · subst h4; decide
  rw [lex_other (by simpa using h1) h2 (by simpa using h3) h4 hd] at h
  cases h

set_option maxRecDepth 100000 in
set_option maxHeartbeats 2000000 in
theorem nextToken_calls (tx : Str) (ts : List Str) (pb M : Nat) (w : World) (hM : M ≤ 2147483647) (h : TokAt w pb M tx) (hlx : lex (bs tx) = some ts) :
    Calls Tryd.prog 66 #[.pointer (some ⟨pb, 0, none⟩)] w (RetNext ts M pb w) := by
  have HT := Lib.hid hlx
  clear hlx
  have HA := Lib.hid h
  clear h
  go_enter Tryd.func66, Tryd.ntmps66
  go_wp2
  go_loopg [3] (tx.size + 1) (fun gk _ wr => ∃ tx' : Str, gk = tx'.size + 1 ∧ Hid (TokAt wr pb M tx') ∧ Hid (lex (bs tx') = some ts) ∧ Fr (fun k => k = pb) w wr)
  case atStart => exact ⟨tx, rfl, HA, HT, Fr.refl _ _⟩
  case round =>
    clear HA HT
    obtain ⟨tx', rfl, HA, HL, hf⟩ := hrel
    obtain ⟨ln, lw, hln, hlw, hcell⟩ := HA.out
    clear HA
    have c0 : wr.cell? ⟨pb, 0, none⟩ = some (.int .i64 ln) := by rw [cell_of_row _ _ _ _ _ _ hcell]; rfl
    have c2 : wr.cell? ⟨pb, 2, none⟩ = some (.string tx') := by rw [cell_of_row _ _ _ _ _ _ hcell]; rfl
    have z0 : wr.frozen? ⟨pb, 0, none⟩ = false := frozen_of_row _ _ _ _ _ hcell
    have z1 : wr.frozen? ⟨pb, 1, none⟩ = false := frozen_of_row _ _ _ _ _ hcell
    have z2 : wr.frozen? ⟨pb, 2, none⟩ = false := frozen_of_row _ _ _ _ _ hcell
    have hlenb := bs_len tx'
    have hem := tl_tok tx' []
    rcases lex_head HL.out with ⟨hb, h1⟩ | ⟨c, r, hb, hc, hl⟩ | ⟨r, hb, hc, hl⟩ | ⟨c, r, ts', hb, h1, hc, hl⟩ | ⟨r, ts', hb, h1, hl⟩ | ⟨c, r, ts', hb, h1, hc, hl⟩
    · have hne : (tx'.toList == []) = true := hem.trans (decide_eq_true (by rw [← mkS_bs tx', hb]))
      have hts := Lib.hid h1
      have hl2 : Hid (lex (bs tx') = some []) := Lib.hid (by rw [hb]; rfl)
      clear hem h1 hb
      go_wp2
      go_ret
      exact RetNext.nil hts (TokAt.mk' hln hlw hcell) hf hl2
    · -- a blank
      rw [hb] at hlenb
      have hpos : 0 < tx'.size := by rw [← hlenb]; simp
      have hne : (tx'.toList == []) = false := hem.trans (decide_eq_false fun e => by rw [e, mkS_size] at hpos; simp at hpos)
      have hidx : tx'[0] = c := by
        have := bs_get tx' 0 hpos
        rw [← this]
        simp [hb]
      have hx2 := ext_bs hb 1 tx'.size
      have hrest : Hid (lex (bs (tx'.extract 1 tx'.size)) = some ts) := Lib.hid (by
        rw [hx2, bs_mkS, List.drop_succ_cons, List.drop_zero, List.take_of_length_le (by rw [← hlenb]; simp)]
        exact hl)
      have hsz2 : (tx'.extract 1 tx'.size).size + 1 = tx'.size := by
        have h2 : r.length + 1 = tx'.size := by rw [← hlenb]; simp
        rw [hx2, mkS_size, ← h2]; simp
      have hset := set2 hcell (.string (tx'.extract 1 tx'.size))
      have hfin : Fr (fun k => k = pb) w (wr.setCell ⟨pb, 2, none⟩ (.string (tx'.extract 1 tx'.size))) := hf.trans (Fr.setCell (S := fun k => k = pb) wr _ _ rfl) (fun _ _ e => e)
      simp only [blankB, Bool.or_eq_true, decide_eq_true_eq] at hc
      clear hx2 hl hb hem hlenb
      rcases hc with (hc | hc) | hc
      · have f59 : ((tx'[0].toNat : Int) == 59) = false := by rw [hidx, hc]; rfl
        have f44 : ((tx'[0].toNat : Int) == 44) = false := by rw [hidx, hc]; rfl
        have f60 : ((tx'[0].toNat : Int) == 60) = false := by rw [hidx, hc]; rfl
        have f33 : ((tx'[0].toNat : Int) == 33) = false := by rw [hidx, hc]; rfl
        have f35 : ((tx'[0].toNat : Int) == 35) = false := by rw [hidx, hc]; rfl
        have f10 : ((tx'[0].toNat : Int) == 10) = false := by rw [hidx, hc]; rfl
        have f32 : ((tx'[0].toNat : Int) == 32) = true := by rw [hidx, hc]; rfl
        have f9 : ((tx'[0].toNat : Int) == 9) = false := by rw [hidx, hc]; rfl
        clear hc hidx
        go_wp2
        go_roundg ((tx'.extract 1 tx'.size).size + 1)
        case measure => omega
        case rel => exact ⟨_, rfl, Lib.hid (TokAt.mk' (by omega) hlw hset), hrest, hfin⟩
      · have f59 : ((tx'[0].toNat : Int) == 59) = false := by rw [hidx, hc]; rfl
        have f44 : ((tx'[0].toNat : Int) == 44) = false := by rw [hidx, hc]; rfl
        have f60 : ((tx'[0].toNat : Int) == 60) = false := by rw [hidx, hc]; rfl
        have f33 : ((tx'[0].toNat : Int) == 33) = false := by rw [hidx, hc]; rfl
        have f35 : ((tx'[0].toNat : Int) == 35) = false := by rw [hidx, hc]; rfl
        have f10 : ((tx'[0].toNat : Int) == 10) = false := by rw [hidx, hc]; rfl
        have f32 : ((tx'[0].toNat : Int) == 32) = false := by rw [hidx, hc]; rfl
        have f9 : ((tx'[0].toNat : Int) == 9) = true := by rw [hidx, hc]; rfl
        clear hc hidx
        go_wp2
        go_roundg ((tx'.extract 1 tx'.size).size + 1)
        case measure => omega
        case rel => exact ⟨_, rfl, Lib.hid (TokAt.mk' (by omega) hlw hset), hrest, hfin⟩
      · have f59 : ((tx'[0].toNat : Int) == 59) = false := by rw [hidx, hc]; rfl
        have f44 : ((tx'[0].toNat : Int) == 44) = false := by rw [hidx, hc]; rfl
        have f60 : ((tx'[0].toNat : Int) == 60) = false := by rw [hidx, hc]; rfl
        have f33 : ((tx'[0].toNat : Int) == 33) = false := by rw [hidx, hc]; rfl
        have f35 : ((tx'[0].toNat : Int) == 35) = false := by rw [hidx, hc]; rfl
        have f10 : ((tx'[0].toNat : Int) == 10) = true := by rw [hidx, hc]; rfl
        have f32 : ((tx'[0].toNat : Int) == 32) = false := by rw [hidx, hc]; rfl
        have f9 : ((tx'[0].toNat : Int) == 9) = false := by rw [hidx, hc]; rfl
        clear hc hidx
        have hcellL := set0 hcell (.int .i64 ((ln : Int) + 1))
        have c2L : (wr.setCell ⟨pb, 0, none⟩ (.int .i64 ((ln : Int) + 1))).cell? ⟨pb, 2, none⟩ = some (.string tx') := by rw [cell_of_row _ _ _ _ _ _ hcellL]; rfl
        have z2L : (wr.setCell ⟨pb, 0, none⟩ (.int .i64 ((ln : Int) + 1))).frozen? ⟨pb, 2, none⟩ = false := frozen_of_row _ _ _ _ _ hcellL
        have hsetL := set2 hcellL (.string (tx'.extract 1 tx'.size))
        have hfinL : Fr (fun k => k = pb) w ((wr.setCell ⟨pb, 0, none⟩ (.int .i64 ((ln : Int) + 1))).setCell ⟨pb, 2, none⟩ (.string (tx'.extract 1 tx'.size))) :=
          (hf.trans (Fr.setCell (S := fun k => k = pb) wr _ _ rfl) (fun _ _ e => e)).trans (Fr.setCell (S := fun k => k = pb) _ _ _ rfl) (fun _ _ e => e)
        have hln1 : ((ln + 1 : Nat) : Int) = (ln : Int) + 1 := by omega
        rw [← hln1] at hsetL
        clear hset hfin
        go_wp2
        go_roundg ((tx'.extract 1 tx'.size).size + 1)
        case measure => omega
        case rel => exact ⟨_, rfl, Lib.hid (TokAt.mk' (ln := ln + 1) (by omega) hlw (by rw [← hln1]; exact hsetL)), hrest, by first | exact hfinL | (rw [← hln1]; exact hfinL)⟩
    · -- a comment
      rw [hb] at hlenb
      have hpos : 0 < tx'.size := by rw [← hlenb]; simp
      have hne : (tx'.toList == []) = false := hem.trans (decide_eq_false fun e => by rw [e, mkS_size] at hpos; simp at hpos)
      have hidx : tx'[0] = 35 := by
        have := bs_get tx' 0 hpos
        rw [← this]
        simp [hb]
      obtain ⟨k, hk⟩ : ∃ k, k = ((bs tx').takeWhile lineB).length := ⟨_, rfl⟩
      have hk1 : 1 ≤ k := by rw [hk, hb, List.takeWhile_cons, if_pos (by decide)]; simp
      have hkle : k ≤ tx'.size := by have := tw_le lineB (bs tx'); rw [← hk, bs_len] at this; exact this
      have hdr : (bs tx').drop k = r.dropWhile lineB := by rw [hk, tw_drop, hb, List.dropWhile_cons, if_pos (by decide)]
      have hx2 := mkS_extract tx' k tx'.size
      have hrest : Hid (lex (bs (tx'.extract k tx'.size)) = some ts) := Lib.hid (by
        rw [hx2, bs_mkS, List.take_of_length_le (by rw [List.length_drop, bs_len]; omega), hdr]
        exact hl)
      have hsz2 : (tx'.extract k tx'.size).size + k = tx'.size := by
        rw [hx2, mkS_size]; simp [bs_len]; omega
      have hset := set2 hcell (.string (tx'.extract k tx'.size))
      have hfin : Fr (fun k => k = pb) w (wr.setCell ⟨pb, 2, none⟩ (.string (tx'.extract k tx'.size))) := hf.trans (Fr.setCell (S := fun k => k = pb) wr _ _ rfl) (fun _ _ e => e)
      have hcall := index_calls tx' k wr (by omega) hk
      clear hx2 hl hc hb hem hlenb hdr hk
      have hc : True := trivial
      have f59 : ((tx'[0].toNat : Int) == 59) = false := by rw [hidx]; rfl
      have f44 : ((tx'[0].toNat : Int) == 44) = false := by rw [hidx]; rfl
      have f60 : ((tx'[0].toNat : Int) == 60) = false := by rw [hidx]; rfl
      have f33 : ((tx'[0].toNat : Int) == 33) = false := by rw [hidx]; rfl
      have f35 : ((tx'[0].toNat : Int) == 35) = true := by rw [hidx]; rfl
      have f10 : ((tx'[0].toNat : Int) == 10) = false := by rw [hidx]; rfl
      have f32 : ((tx'[0].toNat : Int) == 32) = false := by rw [hidx]; rfl
      have f9 : ((tx'[0].toNat : Int) == 9) = false := by rw [hidx]; rfl
      clear hc hidx
      by_cases hks : k < tx'.size
      · simp only [if_pos hks] at hcall
        have HC := Lib.hid hcall; clear hcall
        go_wp2_with (go_at_call 73; refine (HC.out).mono ?_; rintro e w9 ⟨rfl, rfl⟩)
        go_roundg ((tx'.extract k tx'.size).size + 1)
        case measure => omega
        case rel => exact ⟨_, rfl, Lib.hid (TokAt.mk' (by omega) hlw hset), hrest, hfin⟩
      · simp only [if_neg hks] at hcall
        have HC := Lib.hid hcall; clear hcall
        obtain rfl : k = tx'.size := by omega
        have hee : tx'.extract tx'.size tx'.size = ByteArray.empty := by simp
        rw [hee] at hset hrest hfin hsz2
        go_wp2_with (go_at_call 73; refine (HC.out).mono ?_; rintro e w9 ⟨rfl, rfl⟩)
        go_roundg ((ByteArray.empty : Str).size + 1)
        case measure => omega
        case rel => exact ⟨_, rfl, Lib.hid (TokAt.mk' (by omega) hlw hset), hrest, hfin⟩
    · -- a sign
      rw [hb] at hlenb
      have hpos : 0 < tx'.size := by rw [← hlenb]; simp
      have hne : (tx'.toList == []) = false := hem.trans (decide_eq_false fun e => by rw [e, mkS_size] at hpos; simp at hpos)
      have hidx : tx'[0] = c := by
        have := bs_get tx' 0 hpos
        rw [← this]
        simp [hb]
      have hx1 := ext_bs hb 0 1
      have hx2 := ext_bs hb 1 tx'.size
      have hts := Lib.hid h1
      have ht : Hid (tx'.extract 0 1 = mkS [c]) := Lib.hid (by rw [hx1]; rfl)
      have hrest : Hid (lex (bs (tx'.extract 1 tx'.size)) = some ts') := Lib.hid (by
        rw [hx2, bs_mkS, List.drop_succ_cons, List.drop_zero, List.take_of_length_le (by rw [← hlenb]; simp)]
        exact hl)
      have hsz2 : (tx'.extract 1 tx'.size).size ≤ tx'.size := by rw [hx2, mkS_size, ← hlenb]; simp
      have hset := set2 hcell (.string (tx'.extract 1 tx'.size))
      have hfin : Fr (fun k => k = pb) w (wr.setCell ⟨pb, 2, none⟩ (.string (tx'.extract 1 tx'.size))) := hf.trans (Fr.setCell (S := fun k => k = pb) wr _ _ rfl) (fun _ _ e => e)
      simp only [signB, Bool.or_eq_true, decide_eq_true_eq] at hc
      clear hx1 hx2 hl h1 hb hem hlenb
      rcases hc with (hc | hc) | hc
      · have f59 : ((tx'[0].toNat : Int) == 59) = false := by rw [hidx, hc]; rfl
        have f44 : ((tx'[0].toNat : Int) == 44) = true := by rw [hidx, hc]; rfl
        have f60 : ((tx'[0].toNat : Int) == 60) = false := by rw [hidx, hc]; rfl
        have f33 : ((tx'[0].toNat : Int) == 33) = false := by rw [hidx, hc]; rfl
        have f35 : ((tx'[0].toNat : Int) == 35) = false := by rw [hidx, hc]; rfl
        have f10 : ((tx'[0].toNat : Int) == 10) = false := by rw [hidx, hc]; rfl
        have f32 : ((tx'[0].toNat : Int) == 32) = false := by rw [hidx, hc]; rfl
        have f9 : ((tx'[0].toNat : Int) == 9) = false := by rw [hidx, hc]; rfl
        clear hc hidx
        go_wp2
        go_ret
        exact RetNext.cons hts ht (TokAt.mk' (by omega) hlw hset) hfin hrest
      · have f59 : ((tx'[0].toNat : Int) == 59) = true := by rw [hidx, hc]; rfl
        have f44 : ((tx'[0].toNat : Int) == 44) = false := by rw [hidx, hc]; rfl
        have f60 : ((tx'[0].toNat : Int) == 60) = false := by rw [hidx, hc]; rfl
        have f33 : ((tx'[0].toNat : Int) == 33) = false := by rw [hidx, hc]; rfl
        have f35 : ((tx'[0].toNat : Int) == 35) = false := by rw [hidx, hc]; rfl
        have f10 : ((tx'[0].toNat : Int) == 10) = false := by rw [hidx, hc]; rfl
        have f32 : ((tx'[0].toNat : Int) == 32) = false := by rw [hidx, hc]; rfl
        have f9 : ((tx'[0].toNat : Int) == 9) = false := by rw [hidx, hc]; rfl
        clear hc hidx
        go_wp2
        go_ret
        exact RetNext.cons hts ht (TokAt.mk' (by omega) hlw hset) hfin hrest
      · have f59 : ((tx'[0].toNat : Int) == 59) = false := by rw [hidx, hc]; rfl
        have f44 : ((tx'[0].toNat : Int) == 44) = false := by rw [hidx, hc]; rfl
        have f60 : ((tx'[0].toNat : Int) == 60) = true := by rw [hidx, hc]; rfl
        have f33 : ((tx'[0].toNat : Int) == 33) = false := by rw [hidx, hc]; rfl
        have f35 : ((tx'[0].toNat : Int) == 35) = false := by rw [hidx, hc]; rfl
        have f10 : ((tx'[0].toNat : Int) == 10) = false := by rw [hidx, hc]; rfl
        have f32 : ((tx'[0].toNat : Int) == 32) = false := by rw [hidx, hc]; rfl
        have f9 : ((tx'[0].toNat : Int) == 9) = false := by rw [hidx, hc]; rfl
        clear hc hidx
        go_wp2
        go_ret
        exact RetNext.cons hts ht (TokAt.mk' (by omega) hlw hset) hfin hrest
    · -- a bar
      rw [hb] at hlenb
      have hpos : 0 < tx'.size := by rw [← hlenb]; simp
      have hne : (tx'.toList == []) = false := hem.trans (decide_eq_false fun e => by rw [e, mkS_size] at hpos; simp at hpos)
      have hidx : tx'[0] = 33 := by
        have := bs_get tx' 0 hpos
        rw [← this]
        simp [hb]
      have hsz1 : 1 < tx'.size := by rw [← hlenb]; simp
      have hidx1 : tx'[1] = 60 := by
        have := bs_get tx' 1 hsz1
        rw [← this]
        simp [hb]
      have hx2 := ext_bs hb 2 tx'.size
      have hts := Lib.hid h1
      have ht : Hid ((⟨#[33, 60]⟩ : Str) = mkS [33, 60]) := Lib.hid rfl
      have hrest : Hid (lex (bs (tx'.extract 2 tx'.size)) = some ts') := Lib.hid (by
        rw [hx2, bs_mkS, List.drop_succ_cons, List.drop_succ_cons, List.drop_zero, List.take_of_length_le (by rw [← hlenb]; simp)]
        exact hl)
      have hsz2 : (tx'.extract 2 tx'.size).size ≤ tx'.size := by rw [hx2, mkS_size, ← hlenb]; simp; omega
      have hset := set2 hcell (.string (tx'.extract 2 tx'.size))
      have hfin : Fr (fun k => k = pb) w (wr.setCell ⟨pb, 2, none⟩ (.string (tx'.extract 2 tx'.size))) := hf.trans (Fr.setCell (S := fun k => k = pb) wr _ _ rfl) (fun _ _ e => e)
      have g60 : ((tx'[1].toNat : Int) != 60) = false := by rw [hidx1]; rfl
      have hc : True := trivial
      clear hx2 hl h1 hb hem hlenb hidx1
      have f59 : ((tx'[0].toNat : Int) == 59) = false := by rw [hidx]; rfl
      have f44 : ((tx'[0].toNat : Int) == 44) = false := by rw [hidx]; rfl
      have f60 : ((tx'[0].toNat : Int) == 60) = false := by rw [hidx]; rfl
      have f33 : ((tx'[0].toNat : Int) == 33) = true := by rw [hidx]; rfl
      have f35 : ((tx'[0].toNat : Int) == 35) = false := by rw [hidx]; rfl
      have f10 : ((tx'[0].toNat : Int) == 10) = false := by rw [hidx]; rfl
      have f32 : ((tx'[0].toNat : Int) == 32) = false := by rw [hidx]; rfl
      have f9 : ((tx'[0].toNat : Int) == 9) = false := by rw [hidx]; rfl
      clear hc hidx
      go_wp2
      go_ret
      exact RetNext.cons hts ht (TokAt.mk' (by omega) hlw hset) hfin hrest
    · -- a word
      rw [hb] at hlenb
      have hpos : 0 < tx'.size := by rw [← hlenb]; simp
      have hne : (tx'.toList == []) = false := hem.trans (decide_eq_false fun e => by rw [e, mkS_size] at hpos; simp at hpos)
      have hidx : tx'[0] = c := by
        have := bs_get tx' 0 hpos
        rw [← this]
        simp [hb]
      obtain ⟨k, hk⟩ : ∃ k, k = ((bs tx').takeWhile letterB).length := ⟨_, rfl⟩
      have hkle : k ≤ tx'.size := by have := tw_le letterB (bs tx'); rw [← hk, bs_len] at this; exact this
      have hdr : (bs tx').drop k = r.dropWhile letterB := by rw [hk, tw_drop, hb, List.dropWhile_cons, if_pos hc]
      have htk : (bs tx').take k = c :: r.takeWhile letterB := by rw [hk, tw_take, hb, List.takeWhile_cons, if_pos hc]
      have hx1 := mkS_extract tx' 0 k
      have hx2 := mkS_extract tx' k tx'.size
      have hts := Lib.hid h1
      have ht : Hid (tx'.extract 0 k = mkS (c :: r.takeWhile letterB)) := Lib.hid (by rw [hx1, List.drop_zero, Nat.sub_zero, htk])
      have hrest : Hid (lex (bs (tx'.extract k tx'.size)) = some ts') := Lib.hid (by
        rw [hx2, bs_mkS, List.take_of_length_le (by rw [List.length_drop, bs_len]; omega), hdr]
        exact hl)
      have hsz2 : (tx'.extract k tx'.size).size + k = tx'.size := by
        rw [hx2, mkS_size]; simp [bs_len]; omega
      have hsz1 : (tx'.extract 0 k).size ≤ M := by
        have : (tx'.extract 0 k).size ≤ tx'.size := by rw [hx1, mkS_size]; simp [bs_len]; omega
        omega
      have H1 : Hid (∀ j (h : j < tx'.size), j < k → stopB tx'[j] = false ∧ tx'[j].toNat < 128) := Lib.hid (fun j h hj => by
        have := tw_lt letterB (bs tx') j (by rw [bs_len]; exact h) (by rw [← hk]; exact hj)
        rw [bs_get tx' j h] at this
        exact stop_letter this)
      have H2 : Hid (∀ (h : k < tx'.size), stopB tx'[k] = true ∧ tx'[k].toNat < 128) := Lib.hid (fun h => by
        have h1 := tw_at letterB (bs tx') k (by rw [bs_len]; exact h) hk
        rw [bs_get tx' k h] at h1
        rw [← hdr, bs_drop tx' k h] at hl
        exact lex_stop hl h1)
      have hcall := indexAny_calls tx' k wr (by omega) hkle H1 H2
      have hpl : pb < wr.heap.size := (Array.getElem?_eq_some_iff.1 hcell).1
      have hci : ∀ w5, Below wr.heap.size wr w5 → w5.heap[pb]? = some (.cells #[.int .i64 ln, .string lw, .string tx'] 95 (0, 0)) := fun w5 h => (h.block pb hpl).trans hcell
      obtain ⟨l1, l2, l3, l4, l5, l6⟩ := letter_not hc
      simp only [blankB, signB, Bool.or_eq_false_iff, decide_eq_false_iff_not] at l1 l3
      clear hx1 hx2 hl h1 hb hem hlenb hdr hk htk H1 H2
      have HCI := Lib.hid hci; clear hci
      have f59 : ((tx'[0].toNat : Int) == 59) = false := by rw [hidx]; exact (byte_eq c 59).trans (decide_eq_false l3.1.2)
      have f44 : ((tx'[0].toNat : Int) == 44) = false := by rw [hidx]; exact (byte_eq c 44).trans (decide_eq_false l3.1.1)
      have f60 : ((tx'[0].toNat : Int) == 60) = false := by rw [hidx]; exact (byte_eq c 60).trans (decide_eq_false l3.2)
      have f33 : ((tx'[0].toNat : Int) == 33) = false := by rw [hidx]; exact (byte_eq c 33).trans (decide_eq_false l4)
      have f35 : ((tx'[0].toNat : Int) == 35) = false := by rw [hidx]; exact (byte_eq c 35).trans (decide_eq_false l2)
      have f10 : ((tx'[0].toNat : Int) == 10) = false := by rw [hidx]; exact (byte_eq c 10).trans (decide_eq_false l1.2)
      have f32 : ((tx'[0].toNat : Int) == 32) = false := by rw [hidx]; exact (byte_eq c 32).trans (decide_eq_false l1.1.1)
      have f9 : ((tx'[0].toNat : Int) == 9) = false := by rw [hidx]; exact (byte_eq c 9).trans (decide_eq_false l1.1.2)
      clear l1 l2 l3 l4 l5 l6 hc hidx
      by_cases hks : k < tx'.size
      · simp only [if_pos hks] at hcall
        have HC := Lib.hid hcall; clear hcall
        go_wp2_with (go_at_call 74
                     refine (HC.out).mono ?_
                     rintro e w5 ⟨rfl, hb5⟩
                     have h5 := HCI.out w5 hb5
                     have d2 : w5.cell? ⟨pb, 2, none⟩ = some (.string tx') := by rw [cell_of_row _ _ _ _ _ _ h5]; rfl
                     have y2 : w5.frozen? ⟨pb, 2, none⟩ = false := frozen_of_row _ _ _ _ _ h5
                     have h6 := set2 h5 (.string (tx'.extract k tx'.size))
                     have y1 : (w5.setCell ⟨pb, 2, none⟩ (.string (tx'.extract k tx'.size))).frozen? ⟨pb, 1, none⟩ = false := frozen_of_row _ _ _ _ _ h6
                     have e1 : (w5.setCell ⟨pb, 2, none⟩ (.string (tx'.extract k tx'.size))).cell? ⟨pb, 1, none⟩ = some (.string lw) := by rw [cell_of_row _ _ _ _ _ _ h6]; rfl
                     have h7 := set1c h6 (.string (tx'.extract 0 k)))
        have hfin := ((hf.trans (Fr.of_below_top hb5 (fun k => k = pb)) (fun _ _ e => e)).trans (Fr.setCell (S := fun k => k = pb) w5 ⟨pb, 2, none⟩ (.string (tx'.extract k tx'.size)) rfl) (fun _ _ e => e)).trans (Fr.setCell (S := fun k => k = pb) _ ⟨pb, 1, none⟩ (.string (tx'.extract 0 k)) rfl) (fun _ _ e => e)
        go_ret
        exact RetNext.cons hts ht (TokAt.mk' (by omega) hsz1 h7) hfin hrest
      · simp only [if_neg hks] at hcall
        have HC := Lib.hid hcall; clear hcall
        obtain rfl : k = tx'.size := by omega
        have hee : tx'.extract tx'.size tx'.size = ByteArray.empty := by simp
        rw [hee] at hrest hsz2
        have hee2 : tx'.extract 0 tx'.size = tx' := by simp
        rw [hee2] at ht hsz1
        go_wp2_with (go_at_call 74
                     refine (HC.out).mono ?_
                     rintro e w5 ⟨rfl, hb5⟩
                     have h5 := HCI.out w5 hb5
                     have d2 : w5.cell? ⟨pb, 2, none⟩ = some (.string tx') := by rw [cell_of_row _ _ _ _ _ _ h5]; rfl
                     have y2 : w5.frozen? ⟨pb, 2, none⟩ = false := frozen_of_row _ _ _ _ _ h5
                     have h6 := set2 h5 (.string (ByteArray.empty))
                     have y1 : (w5.setCell ⟨pb, 2, none⟩ (.string (ByteArray.empty))).frozen? ⟨pb, 1, none⟩ = false := frozen_of_row _ _ _ _ _ h6
                     have e1 : (w5.setCell ⟨pb, 2, none⟩ (.string (ByteArray.empty))).cell? ⟨pb, 1, none⟩ = some (.string lw) := by rw [cell_of_row _ _ _ _ _ _ h6]; rfl
                     have h7 := set1c h6 (.string tx'))
        have hfin := ((hf.trans (Fr.of_below_top hb5 (fun k => k = pb)) (fun _ _ e => e)).trans (Fr.setCell (S := fun k => k = pb) w5 ⟨pb, 2, none⟩ (.string (ByteArray.empty)) rfl) (fun _ _ e => e)).trans (Fr.setCell (S := fun k => k = pb) _ ⟨pb, 1, none⟩ (.string tx') rfl) (fun _ _ e => e)
        go_ret
        exact RetNext.cons hts ht (TokAt.mk' (by omega) hsz1 h7) hfin hrest
end Go.Proofs.YthpfladpbfbpjaaDoor

/- Plain laws on the package's lists of names. No program in sight. -/
namespace Go.Proofs.YthpfladpbfbpjaaDoor

abbrev eS : Str := ⟨#[]⟩
/-- what one call of nextList takes of tokens, with names that it has already: the list, what stands behind it (the empty text: nothing), the rest; none: it refuses -/
def nextL : List Str → List Str → Option (List Str × Str × List Str)
  | acc, [] => if acc = [] then some ([], eS, []) else none
  | acc, [t] => if signT t = true then none else some (acc ++ [t], eS, [])
  | acc, t :: u :: r => if signT t = true then none else if u = tComma then nextL (acc ++ [t]) r else some (acc ++ [t], u, r)
theorem lex_ne : ∀ (n : Nat) (l : Bs) (ts : List Str), l.length ≤ n → lex l = some ts → ∀ t ∈ ts, t ≠ eS := by
  intro n
  induction n with
  | zero =>
    intro l ts hl h
    obtain rfl : l = [] := List.eq_nil_of_length_eq_zero (by omega)
    rw [lex_nil] at h
    cases h
    simp
  | succ n ih =>
    intro l ts hl h
    have hne : ∀ (c : UInt8) (r : Bs), mkS (c :: r) ≠ eS := fun c r e => by
      have := mkS_inj (a := c :: r) (b := []) e
      cases this
    rcases lex_head h with ⟨hb, h1⟩ | ⟨c, r, hb, hc, hl'⟩ | ⟨r, hb, hc, hl'⟩ | ⟨c, r, ts', hb, h1, hc, hl'⟩ | ⟨r, ts', hb, h1, hl'⟩ | ⟨c, r, ts', hb, h1, hc, hl'⟩
    · subst h1; simp
    · subst hb; exact ih r ts (by simpa using hl) hl'
    · subst hb
      have := dropWhile_le lineB r
      exact ih _ ts (by simp at hl; omega) hl'
    · subst hb; subst h1
      intro t ht
      rcases List.mem_cons.1 ht with e | ht
      · rw [e]; exact hne _ _
      · exact ih r ts' (by simpa using hl) hl' t ht
    · subst hb; subst h1
      intro t ht
      rcases List.mem_cons.1 ht with e | ht
      · rw [e]; exact hne _ _
      · exact ih r ts' (by simp at hl; omega) hl' t ht
    · subst hb; subst h1
      have := dropWhile_le letterB r
      intro t ht
      rcases List.mem_cons.1 ht with e | ht
      · rw [e]; exact hne _ _
      · exact ih _ ts' (by simp at hl; omega) hl' t ht
theorem nextL_ne : ∀ (acc ts : List Str) (l : List Str) (t : Str) (r : List Str), nextL acc ts = some (l, t, r) → (∀ x ∈ ts, x ≠ eS) → (t = eS → r = []) ∧ (t ≠ eS → l ≠ []) ∧ r.length ≤ ts.length ∧ (t ≠ eS → r.length < ts.length) ∧ l.length ≤ acc.length + ts.length ∧ (∀ x ∈ r, x ∈ ts)
  | acc, [], l, t, r, h, _ => by
    simp only [nextL] at h
    split at h
    · rename_i ha
      simp at h
      obtain ⟨rfl, rfl, rfl⟩ := h
      simp
    · cases h
  | acc, [x], l, t, r, h, _ => by
    simp only [nextL] at h
    split at h
    · cases h
    · simp at h
      obtain ⟨rfl, rfl, rfl⟩ := h
      simp
  | acc, x :: u :: rr, l, t, r, h, hne => by
    simp only [nextL] at h
    split at h
    · cases h
    split at h
    · obtain ⟨h1, h2, h3, h4, h5, h6⟩ := nextL_ne (acc ++ [x]) rr l t r h (fun y hy => hne y (by simp [hy]))
      refine ⟨h1, h2, by simp; omega, fun e => by simp; have := h4 e; omega, by simp at h5 ⊢; omega, fun y hy => by simp [h6 y hy]⟩
    · simp at h
      obtain ⟨rfl, rfl, rfl⟩ := h
      refine ⟨fun e => absurd e (hne u (by simp)), fun _ => by simp, by simp only [List.length_cons]; omega, fun _ => by simp only [List.length_cons]; omega, by simp only [List.length_append, List.length_cons, List.length_nil]; omega, fun y hy => by simp [hy]⟩
theorem nextL_comma : ∀ (acc ts : List Str) (l : List Str) (t : Str) (r : List Str), nextL acc ts = some (l, t, r) → t ≠ tComma
  | acc, [], l, t, r, h => by
    simp only [nextL] at h
    split at h
    · simp at h
      obtain ⟨rfl, rfl, rfl⟩ := h
      exact fun e => by have := mkS_inj (a := []) (b := [44]) e; cases this
    · cases h
  | acc, [x], l, t, r, h => by
    simp only [nextL] at h
    split at h
    · cases h
    · simp at h
      obtain ⟨rfl, rfl, rfl⟩ := h
      exact fun e => by have := mkS_inj (a := []) (b := [44]) e; cases this
  | acc, x :: u :: rr, l, t, r, h => by
    simp only [nextL] at h
    split at h
    · cases h
    split at h
    · exact nextL_comma (acc ++ [x]) rr l t r h
    · rename_i hu
      simp at h
      obtain ⟨rfl, rfl, rfl⟩ := h
      exact hu
/-- one list, and what the machine makes of it -/
theorem nextL_run (out : List Rl) (prev : Option (List Str × Bool)) : ∀ (acc ts : List Str), (∀ x ∈ ts, x ≠ eS) → (pRun ⟨out, prev, acc, true⟩ ts).bind pEnd = match nextL acc ts with
    | none => none
    | some (l, t, r) => if t = eS then (if prev = none then some out else none) else match pStep ⟨out, prev, l, false⟩ t with
      | none => none
      | some s => (pRun s r).bind pEnd
  | acc, [], _ => by
    simp only [nextL, pRun, Option.bind_some, pEnd]
    by_cases ha : acc = []
    · rw [if_pos ha]
      simp [ha]
    · rw [if_neg ha]
      simp [ha]
  | acc, [x], hne => by
    simp only [nextL, pRun, pStep]
    by_cases hs : signT x = true
    · simp [hs]
    · simp only [hs, if_true, if_false, Bool.false_eq_true, Option.bind_some, pEnd]
      simp
  | acc, x :: u :: rr, hne => by
    have hux : u ≠ eS := hne u (by simp)
    simp only [nextL, pRun]
    by_cases hs : signT x = true
    · simp [pStep, hs]
    · have e1 : pStep ⟨out, prev, acc, true⟩ x = some ⟨out, prev, acc ++ [x], false⟩ := by simp [pStep, hs]
      rw [e1]
      simp only [hs, if_false, Bool.false_eq_true]
      by_cases hu : u = tComma
      · have e2 : pStep ⟨out, prev, acc ++ [x], false⟩ u = some ⟨out, prev, acc ++ [x], true⟩ := by simp [pStep, hu]
        rw [e2, if_pos hu]
        exact nextL_run out prev (acc ++ [x]) rr (fun y hy => hne y (by simp [hy]))
      · rw [if_neg hu]
        simp only [if_neg hux]
        cases pStep ⟨out, prev, acc ++ [x], false⟩ u <;> rfl
end Go.Proofs.YthpfladpbfbpjaaDoor

/- The package's nextList: what the call computes; the road of a panic is left open. -/
namespace Go.Proofs.YthpfladpbfbpjaaDoor
open Go.RowKit

theorem TokAt.lt {w : World} {pb M : Nat} {tx : Str} (h : TokAt w pb M tx) : pb < w.heap.size := by
  obtain ⟨_, _, _, _, hc⟩ := h
  exact (Array.getElem?_eq_some_iff.1 hc).1
theorem TokAt.fr {w w' : World} {S : Nat → Prop} {pb M : Nat} {tx : Str} (h : TokAt w pb M tx) (f : Fr S w w') (hn : ¬ S pb) : TokAt w' pb M tx := by
  have hl := h.lt
  obtain ⟨a, b, h1, h2, hc⟩ := h
  exact ⟨a, b, h1, h2, (f.block pb hl hn).trans hc⟩
theorem TokAt.notin {w w' : World} {B pb M : Nat} {tx : Str} (_h : TokAt w pb M tx) {α : Type} {enc : α → List Value} {size : Nat} {T : TypeId} {a : Option Addr} {cap : Nat} {l : List α} (row : Own enc size w' B T a cap l) (hB : pb < B) : ¬ blk a = some pb := fun e => by
  have := (row.lt pb e).1
  omega
theorem own_some {α : Type} {enc : α → List Value} {size : Nat} {w : World} {B : Nat} {T : TypeId} {a : Option Addr} {cap : Nat} {l : List α} (h : Own enc size w B T a cap l) (hl : 0 < l.length) : a ≠ none := by
  obtain ⟨g, rfl⟩ := Own.some_of h hl
  exact fun e => by cases e
/-- what one list is, or Pan -/
def RetNL (o : Option (List Str × Str × List Str)) (Pan : Ending → World → Prop) (M pb : Nat) (w : World) (e : Ending) (w' : World) : Prop := match o with
  | none => Pan e w'
  | some (l, t, r) => ∃ a cap tx, e = .returned (.tuple #[.slice a l.length cap, .string t]) ∧ TokAt w' pb M tx ∧ lex (bs tx) = some r ∧ Own encS 1 w' w.heap.size 9 a cap l ∧ (l ≠ [] → a ≠ none) ∧ Fr (fun k => k = pb) w w'
theorem RetNL.no {o : Option (List Str × Str × List Str)} {Pan : Ending → World → Prop} {M pb : Nat} {w : World} {e : Ending} {w' : World} (h : Hid (o = none)) (hp : Pan e w') : RetNL o Pan M pb w e w' := by rw [h.out]; exact hp
theorem RetNL.ok {o : Option (List Str × Str × List Str)} {Pan : Ending → World → Prop} {M pb n cap : Nat} {a : Option Addr} {w : World} {w' : World} {l : List Str} {t tx : Str} {r : List Str} (h : Hid (o = some (l, t, r))) (hn : n = l.length) (h1 : TokAt w' pb M tx) (h2 : Hid (lex (bs tx) = some r))
    (h3 : Own encS 1 w' w.heap.size 9 a cap l) (h4 : l ≠ [] → a ≠ none) (h5 : Fr (fun k => k = pb) w w') : RetNL o Pan M pb w (.returned (.tuple #[.slice a n cap, .string t])) w' := by
  rw [h.out, hn]; exact ⟨a, cap, tx, rfl, h1, h2.out, h3, h4, h5⟩

set_option maxRecDepth 100000 in
set_option maxHeartbeats 2000000 in
theorem nextList_calls (tx : Str) (ts : List Str) (pb M : Nat) (w : World) (Pan : Ending → World → Prop) (hM : M ≤ 2147483647) (h : TokAt w pb M tx) (hlx : lex (bs tx) = some ts) (hts : ts.length ≤ M)
    (hse : ∀ w1 tx1 msg, TokAt w1 pb M tx1 → Fr (fun k => k = pb) w w1 → nextL [] ts = none → msg.size ≤ 20 → Calls Tryd.prog 59 #[.pointer (some ⟨pb, 0, none⟩), .string msg] w1 Pan)
    (hpan : ∀ e w', Pan e w' → ∃ c, e = .panicked c) :
    Calls Tryd.prog 58 #[.pointer (some ⟨pb, 0, none⟩)] w (RetNL (nextL [] ts) Pan M pb w) := by
  have hpb := h.lt
  have HA := Lib.hid h
  have HNE := Lib.hid (lex_ne _ _ _ (Nat.le_refl _) hlx)
  have HT := Lib.hid hlx
  clear hlx h
  obtain ⟨res, hres⟩ : ∃ res, nextL [] ts = res := ⟨_, rfl⟩
  rw [hres] at hse ⊢
  have HSE := Lib.hid hse; clear hse
  have HPAN := Lib.hid hpan; clear hpan
  have HRES := Lib.hid hres; clear hres
  go_enter Tryd.func58, Tryd.ntmps58
  go_wp2
  go_loopg [2] (ts.length + 1) (fun gk v2 wr => ∃ (acc tr : List Str) (a : Option Addr) (cap : Nat) (tx' : Str), gk = tr.length + 1 ∧ v2 = .slice a acc.length cap ∧ acc.length + tr.length ≤ M ∧ Hid (nextL acc tr = res) ∧ Hid (∀ x ∈ tr, x ≠ eS) ∧
    Own encS 1 wr w.heap.size 9 a cap acc ∧ (acc ≠ [] → a ≠ none) ∧ Hid (TokAt wr pb M tx') ∧ Hid (lex (bs tx') = some tr) ∧ Fr (fun k => k = pb) w wr)
  case atStart => exact ⟨[], ts, none, 0, tx, rfl, rfl, by simpa using hts, HRES, HNE, Own.nil_ w _ _, fun h => absurd rfl h, HA, HT, Fr.refl _ _⟩
  case round =>
    clear HA HT HNE HRES
    obtain ⟨acc, tr, a, cap, tx', rfl, rfl, hlen, HR, HNE, hown, hano, HA, HT, hf⟩ := hrel
    have hnt := nextToken_calls tx' tr pb M wr hM HA.out HT.out
    have hsz := hf.size
    rcases tr with _ | ⟨t, r⟩
    · -- the text is at its end
      have HN := Lib.hid hnt; clear hnt
      by_cases hac : acc = []
      · subst hac
        have hres : Hid (res = some ([], eS, [])) := Lib.hid (by rw [← HR.out]; rfl)
        have hn0 : ((([] : List Str).length : Int) == 0) = true := rfl
        clear HR
        go_wp2_with (go_at_call 66; refine (HN.out).mono ?_; rintro e w1 ⟨t1, tx1, rfl, hT1, hf1, rfl, hl1⟩)
        go_ret2
        exact RetNL.ok hres rfl hT1 (Lib.hid hl1) (Own.nil_ w1 _ _) (fun h => absurd rfl h) (hf.trans hf1 (fun _ _ e => e))
      · have hres : Hid (res = none) := Lib.hid (by rw [← HR.out]; simp only [nextL]; rw [if_neg hac])
        have hpos : 0 < acc.length := List.length_pos_iff.2 hac
        have hn0 : ((acc.length : Int) == 0) = false := by rw [beq_eq_false_iff_ne]; omega
        clear HR
        go_wp2_with (first
          | (go_at_call 66; refine (HN.out).mono ?_; rintro e w1 ⟨t1, tx1, rfl, hT1, hf1, rfl, hl1⟩)
          | (go_at_call 59; refine (HSE.out w1 tx1 _ hT1 (hf.trans hf1 (fun _ _ e => e)) hres.out (by decide)).mono ?_; intro e w2 hP; obtain ⟨c, rfl⟩ := HPAN.out e w2 hP))
        exact ⟨rfl, RetNL.no hres hP⟩
    · have hte := HNE.out t (by simp)
      have t0 := tl_tok t []
      have t44 := tl_tok t [44]
      have t60 := tl_tok t [60]
      have t3360 := tl_tok t [33, 60]
      have t59 := tl_tok t [59]
      rw [decide_eq_false (p := t = mkS []) hte] at t0
      by_cases hs : signT t = true
      · have hres : Hid (res = none) := Lib.hid (by rw [← HR.out]; cases r <;> simp [nextL, hs])
        simp only [signT, Bool.or_eq_true, decide_eq_true_eq] at hs
        rcases hs with ((hs | hs) | hs) | hs
        · rw [decide_eq_true (p := t = mkS [44]) hs] at t44
          have HN := Lib.hid hnt; clear hnt
          clear HR hs
          go_wp2_with (first
            | (go_at_call 66; refine (HN.out).mono ?_; rintro e w1 ⟨t1, tx1, rfl, hT1, hf1, rfl, hl1⟩)
            | (go_at_call 59; refine (HSE.out w1 tx1 _ hT1 (hf.trans hf1 (fun _ _ e => e)) hres.out (by decide)).mono ?_; intro e w2 hP; obtain ⟨c, rfl⟩ := HPAN.out e w2 hP))
          exact ⟨rfl, RetNL.no hres hP⟩
        · rw [decide_eq_false (p := t = mkS [44]) (fun e => tok_ne.1 (e.symm.trans hs))] at t44
          rw [decide_eq_false (p := t = mkS [60]) (fun e => tok_ne.2.2.2.1 (hs.symm.trans e))] at t60
          rw [decide_eq_false (p := t = mkS [33, 60]) (fun e => tok_ne.2.2.2.2.1 (hs.symm.trans e))] at t3360
          rw [decide_eq_true (p := t = mkS [59]) hs] at t59
          have HN := Lib.hid hnt; clear hnt
          clear HR hs
          go_wp2_with (first
            | (go_at_call 66; refine (HN.out).mono ?_; rintro e w1 ⟨t1, tx1, rfl, hT1, hf1, rfl, hl1⟩)
            | (go_at_call 59; refine (HSE.out w1 tx1 _ hT1 (hf.trans hf1 (fun _ _ e => e)) hres.out (by decide)).mono ?_; intro e w2 hP; obtain ⟨c, rfl⟩ := HPAN.out e w2 hP))
          exact ⟨rfl, RetNL.no hres hP⟩
        · rw [decide_eq_false (p := t = mkS [44]) (fun e => tok_ne.2.1 (e.symm.trans hs))] at t44
          rw [decide_eq_true (p := t = mkS [60]) hs] at t60
          have HN := Lib.hid hnt; clear hnt
          clear HR hs
          go_wp2_with (first
            | (go_at_call 66; refine (HN.out).mono ?_; rintro e w1 ⟨t1, tx1, rfl, hT1, hf1, rfl, hl1⟩)
            | (go_at_call 59; refine (HSE.out w1 tx1 _ hT1 (hf.trans hf1 (fun _ _ e => e)) hres.out (by decide)).mono ?_; intro e w2 hP; obtain ⟨c, rfl⟩ := HPAN.out e w2 hP))
          exact ⟨rfl, RetNL.no hres hP⟩
        · rw [decide_eq_false (p := t = mkS [44]) (fun e => tok_ne.2.2.1 (e.symm.trans hs))] at t44
          rw [decide_eq_false (p := t = mkS [60]) (fun e => tok_ne.2.2.2.2.2 (e.symm.trans hs))] at t60
          rw [decide_eq_true (p := t = mkS [33, 60]) hs] at t3360
          have HN := Lib.hid hnt; clear hnt
          clear HR hs
          go_wp2_with (first
            | (go_at_call 66; refine (HN.out).mono ?_; rintro e w1 ⟨t1, tx1, rfl, hT1, hf1, rfl, hl1⟩)
            | (go_at_call 59; refine (HSE.out w1 tx1 _ hT1 (hf.trans hf1 (fun _ _ e => e)) hres.out (by decide)).mono ?_; intro e w2 hP; obtain ⟨c, rfl⟩ := HPAN.out e w2 hP))
          exact ⟨rfl, RetNL.no hres hP⟩
      · have hsf : signT t = false := by simpa using hs
        have hsx := hsf
        simp only [signT, Bool.or_eq_false_iff, decide_eq_false_iff_not] at hsx
        obtain ⟨⟨⟨n1, n2⟩, n3⟩, n4⟩ := hsx
        rw [decide_eq_false (p := t = mkS [44]) n1] at t44
        rw [decide_eq_false (p := t = mkS [60]) n3] at t60
        rw [decide_eq_false (p := t = mkS [33, 60]) n4] at t3360
        rw [decide_eq_false (p := t = mkS [59]) n2] at t59
        clear n1 n2 n3 n4 hs
        have HN := Lib.hid hnt; clear hnt
        have hNT : Hid (∀ (tx2 : Str) (w2 : World), TokAt w2 pb M tx2 → lex (bs tx2) = some r → Calls Tryd.prog 66 #[.pointer (some ⟨pb, 0, none⟩)] w2 (RetNext r M pb w2)) := Lib.hid (fun tx2 w2 h1 h2 => nextToken_calls tx2 r pb M w2 hM h1 h2)
        have happ : Hid (∀ w1, Fr (fun k => k = pb) wr w1 → Own encS 1 w1 w.heap.size 9 a cap acc) := Lib.hid (fun w1 g => hown.fr g (fun k e1 e2 => by have := (hown.lt k e1).1; omega))
        have hnin : Hid (¬ blk a = some pb) := Lib.hid (HA.out.notin hown hpb)
        have hlr : acc.length + (r.length + 1) ≤ M := by simpa using hlen
        have hbw : ∀ w1, Fr (fun k => k = pb) wr w1 → w.heap.size ≤ w1.heap.size := fun w1 g => Nat.le_trans hsz g.size
        have HBW := Lib.hid hbw; clear hbw
        rcases r with _ | ⟨u, rr⟩
        · have hres : Hid (res = some (acc ++ [t], eS, [])) := Lib.hid (by rw [← HR.out]; simp [nextL, hsf])
          clear HR hsf
          go_wp2_with (first
            | (go_at_call 66
               have tok2 := hN2
               refine (hN2.out).mono ?_
               rintro e w3 ⟨t3, tx3, he, hT3, hf3, ht3, hl3⟩
               rw [ht3] at he
               subst he
               have ho3 := ho2.fr hf3 (fun k e1 e2 => by have := (ho2.lt k e1).1; omega))
            | (go_at_call 66
               refine (HN.out).mono ?_
               rintro e w1 ⟨t1, tx1, he, hT1, hf1, ht1, hl1⟩
               rw [ht1] at he
               subst he
               have ho1 := happ.out w1 hf1
               have hs1 := HBW.out w1 hf1)
            | (at_builtin
               refine wpList_append_new encS 1 encS_len encS_one w1 _ rfl _ _ 28 rfl 9 _ 16 Tryd.underlying28 infoS rfl (by omega) w.heap.size a cap acc _ rfl rfl ho1 t _ _ rfl rfl (by omega) (by omega) hs1 ?_
               intro a2 cap2 w2 ho2 hf2 hk2
               have hT2 := hT1.fr hf2 hnin.out
               have hN2 := Lib.hid (hNT.out tx1 w2 hT2 hl1)
               have hfr2 := (hf.trans hf1 (fun _ _ e => e)).trans hf2 (fun b hb e => by have := (ho1.lt b e).1; omega)))
          go_ret2
          exact RetNL.ok hres (by simp) hT3 (Lib.hid hl3) ho3 (fun _ => own_some ho3 (by simp)) (hfr2.trans hf3 (fun _ _ e => e))
        · have hue := HNE.out u (by simp)
          have u44 := tl_tok u [44]
          by_cases hu : u = tComma
          · have hres : Hid (nextL (acc ++ [t]) rr = res) := Lib.hid (by rw [← HR.out]; simp [nextL, hsf, hu])
            have hne2 : Hid (∀ x ∈ rr, x ≠ eS) := Lib.hid (fun x hx => HNE.out x (by simp [hx]))
            rw [decide_eq_true (p := u = mkS [44]) hu] at u44
            have v44 : (u.toList != [44]) = false := by rw [bne, u44]; rfl
            clear HR hsf HNE hu hue
            go_wp2_with (first
              | (go_at_call 66
                 have tok2 := hN2
                 refine (hN2.out).mono ?_
                 rintro e w3 ⟨t3, tx3, he, hT3, hf3, ht3, hl3⟩
                 rw [ht3] at he
                 subst he
                 have ho3 := ho2.fr hf3 (fun k e1 e2 => by have := (ho2.lt k e1).1; omega))
              | (go_at_call 66
                 refine (HN.out).mono ?_
                 rintro e w1 ⟨t1, tx1, he, hT1, hf1, ht1, hl1⟩
                 rw [ht1] at he
                 subst he
                 have ho1 := happ.out w1 hf1
                 have hs1 := HBW.out w1 hf1)
              | (at_builtin
                 refine wpList_append_new encS 1 encS_len encS_one w1 _ rfl _ _ 28 rfl 9 _ 16 Tryd.underlying28 infoS rfl (by omega) w.heap.size a cap acc _ rfl rfl ho1 t _ _ rfl rfl (by omega) (by omega) hs1 ?_
                 intro a2 cap2 w2 ho2 hf2 hk2
                 have hT2 := hT1.fr hf2 hnin.out
                 have hN2 := Lib.hid (hNT.out tx1 w2 hT2 hl1)
                 have hfr2 := (hf.trans hf1 (fun _ _ e => e)).trans hf2 (fun b hb e => by have := (ho1.lt b e).1; omega)))
            go_roundg (rr.length + 1)
            case measure => simp
            case rel => exact ⟨acc ++ [t], rr, a2, cap2, tx3, rfl, by simp, by simp at hlr ⊢; omega, hres, hne2, ho3, fun _ => own_some ho3 (by simp), Lib.hid hT3, Lib.hid hl3, hfr2.trans hf3 (fun _ _ e => e)⟩
          · have hres : Hid (res = some (acc ++ [t], u, rr)) := Lib.hid (by rw [← HR.out]; simp [nextL, hsf, hu])
            rw [decide_eq_false (p := u = mkS [44]) hu] at u44
            have v44 : (u.toList != [44]) = true := by rw [bne, u44]; rfl
            clear HR hsf HNE hu hue
            go_wp2_with (first
              | (go_at_call 66
                 have tok2 := hN2
                 refine (hN2.out).mono ?_
                 rintro e w3 ⟨t3, tx3, he, hT3, hf3, ht3, hl3⟩
                 rw [ht3] at he
                 subst he
                 have ho3 := ho2.fr hf3 (fun k e1 e2 => by have := (ho2.lt k e1).1; omega))
              | (go_at_call 66
                 refine (HN.out).mono ?_
                 rintro e w1 ⟨t1, tx1, he, hT1, hf1, ht1, hl1⟩
                 rw [ht1] at he
                 subst he
                 have ho1 := happ.out w1 hf1
                 have hs1 := HBW.out w1 hf1)
              | (at_builtin
                 refine wpList_append_new encS 1 encS_len encS_one w1 _ rfl _ _ 28 rfl 9 _ 16 Tryd.underlying28 infoS rfl (by omega) w.heap.size a cap acc _ rfl rfl ho1 t _ _ rfl rfl (by omega) (by omega) hs1 ?_
                 intro a2 cap2 w2 ho2 hf2 hk2
                 have hT2 := hT1.fr hf2 hnin.out
                 have hN2 := Lib.hid (hNT.out tx1 w2 hT2 hl1)
                 have hfr2 := (hf.trans hf1 (fun _ _ e => e)).trans hf2 (fun b hb e => by have := (ho1.lt b e).1; omega)))
            go_ret2
            exact RetNL.ok hres (by simp) hT3 (Lib.hid hl3) ho3 (fun _ => own_some ho3 (by simp)) (hfr2.trans hf3 (fun _ _ e => e))
end Go.Proofs.YthpfladpbfbpjaaDoor

/- The deferred closure of parseRules: entered by a frame that returns, and by one that panics with the package's own error. -/
namespace Go.Proofs.YthpfladpbfbpjaaDoor
open Go.RowKit

theorem catch_idle (p : Addr) (w : World) :
    CallsD Tryd.prog 57 #[.pointer (some p)] .returning w fun e u' w' => e = .returned (.tuple #[]) ∧ u' = .returning ∧ w' = w := by
  refine callsD_of_wpS Tryd.func57 rfl fun c₀ cs hu => ?_
  apply wpS_seq
  apply wpS_region
  simp [wpOpsS, go_sem, recoverD, hu, Tryd.ntmps57, Exit.thenS]
  refine wpS_of_wp ?_
  go_wp2
  cases c₀
  simp_all [bodyPostS, results, Tryd.results57]

theorem assert_err (s : Str) (w : World) : (Instr.typeAssert (Value.iface 90 (Value.string s)) 20 90 true).run Tryd.prog w = .ok (.tuple #[.string s, .bool true]) w := by kernel_rfl
set_option maxRecDepth 100000 in
set_option maxHeartbeats 300000 in
theorem catch_panicking (p : Addr) (x : Value) (s : Str) (older : List PanicEntry) (w : World) (hc : w.cell? p = some x) (hz : w.frozen? p = false) :
    CallsD Tryd.prog 57 #[.pointer (some p)] (.panicking ({ v := .iface 90 (.string s), recovered := false } :: older)) w fun e u' w' =>
      e = .returned (.tuple #[]) ∧ u' = .panicking ({ v := .iface 90 (.string s), recovered := true } :: older) ∧ w' = w.setCell p (.iface 90 (.string s)) := by
  refine callsD_of_wpS Tryd.func57 rfl fun c₀ cs hu => ?_
  apply wpS_seq
  apply wpS_region
  simp [wpOpsS, go_sem, recoverD, hu, Tryd.ntmps57, Exit.thenS]
  simp only [Array.replicate_succ, Array.replicate_zero, List.push_toArray, List.append_toArray, List.nil_append, List.cons_append, List.setIfInBounds_toArray, List.set_cons_succ, List.set_cons_zero]
  refine wpS_of_wp ?_
  have hta := assert_err s
  go_wp2
  cases c₀
  simp_all [bodyPostS, results, Tryd.results57]
end Go.Proofs.YthpfladpbfbpjaaDoor

/- The package's parseRules: what the call computes; syntaxError's panic is a hypothesis. -/
namespace Go.Proofs.YthpfladpbfbpjaaDoor
open Go.RowKit

def opS (b : Bool) : Str := if b = true then ⟨#[33, 60]⟩ else ⟨#[60]⟩
def opV (b : Bool) : Value := .string (opS b)
theorem opV_one (b : Bool) : (opV b).oneCell' = true := rfl
def Err (w0 : World) (e : Ending) (w' : World) : Prop := ∃ s : Str, e = .panicked [{ v := .iface 90 (.string s), recovered := false }] ∧ Below w0.heap.size w0 w'
def RetPR (o : Option (List Rl)) (w : World) (e : Ending) (w' : World) : Prop := ∃ a n cap er, e = .returned (.tuple #[.slice a n cap, er]) ∧ Below w.heap.size w w' ∧ match o with
  | none => ∃ s : Str, er = .iface 90 (.string s)
  | some R => er = .nilIface ∧ n = R.length ∧ ∃ qs, RS w' w.heap.size 85 opV a cap qs R

theorem RetPR.no {o : Option (List Rl)} {w w' : World} {a : Option Addr} {n cap : Nat} {s : Str} (h : Hid (o = none)) (hb : Below w.heap.size w w') : RetPR o w (.returned (.tuple #[.slice a n cap, .iface 90 (.string s)])) w' := by
  rw [h.out]; exact ⟨a, n, cap, _, rfl, hb, s, rfl⟩
theorem RetPR.ok {o : Option (List Rl)} {R : List Rl} {w w' : World} {a : Option Addr} {n cap : Nat} {qs : List QV} (h : Hid (o = some R)) (hn : n = R.length) (hb : Below w.heap.size w w') (hr : RS w' w.heap.size 85 opV a cap qs R) : RetPR o w (.returned (.tuple #[.slice a n cap, .nilIface])) w' := by
  rw [h.out]; exact ⟨a, n, cap, _, rfl, hb, rfl, hn, qs, hr⟩
theorem nil_eq0 (w : World) : (binOp BinOp.eql 28 (Value.slice none 0 0) (Value.slice none 0 0)).run Tryd.prog w = .ok (.bool true) w := by kernel_rfl
theorem nil_eq1 (a : Addr) (n c : Nat) (w : World) : (binOp BinOp.eql 28 (Value.slice (some a) n c) (Value.slice none 0 0)).run Tryd.prog w = .ok (.bool false) w := by kernel_rfl
theorem nil_ne0 (w : World) : (binOp BinOp.neq 28 (Value.slice none 0 0) (Value.slice none 0 0)).run Tryd.prog w = .ok (.bool false) w := by kernel_rfl
theorem nil_ne1 (a : Addr) (n c : Nat) (w : World) : (binOp BinOp.neq 28 (Value.slice (some a) n c) (Value.slice none 0 0)).run Tryd.prog w = .ok (.bool true) w := by kernel_rfl
theorem RS.frS {w w' : World} {B : Nat} {T : TypeId} {f : Bool → Value} {a : Option Addr} {cap : Nat} {qs : List QV} {R : List Rl} {S : Nat → Prop} (h : RS w B T f a cap qs R) (g : Fr S w w') (hS : ∀ k, B ≤ k → ¬ S k) : RS w' B T f a cap qs R :=
  ⟨h.row.fr g (fun k e => hS k (h.row.lt k e).1), h.len, fun i hi hi' => by
    obtain ⟨h1, h2, h3, h4, h5⟩ := h.inner i hi hi'
    exact ⟨h1, h2, h3, h4.fr g (fun k e => hS k (h4.lt k e).1), h5.fr g (fun k e => hS k (h5.lt k e).1)⟩⟩
theorem infoR : (Tryd.prog.info? 85).map (fun i => (i.zero, i.size, i.bytes)) = some (some (.agg #[.slice none 0 0, .string ⟨#[]⟩, .slice none 0 0]), 3, 64) := by kernel_rfl
/-- the panic of a refusal, seen from the start; the result's variable still empty -/
def Pan (w : World) (e : Ending) (w' : World) : Prop := ∃ s : Str, e = .panicked [{ v := .iface 90 (.string s), recovered := false }] ∧ Below w.heap.size w w' ∧ w'.heap[w.heap.size]? = some (.cells #[.nilIface] 63 (0, 0))

theorem opV_mk (t : Str) (h : t = tLt ∨ t = tBar) : Value.string t = opV (decide (t = tBar)) := by
  rcases h with rfl | rfl
  · rw [decide_eq_false (fun e => tok_ne.2.2.2.2.2 e)]; rfl
  · rw [decide_eq_true (p := tBar = tBar) rfl]; rfl
theorem infoRl : (Tryd.prog.info? 85).map (fun i => (i.zero, i.size, i.bytes)) = some (some (.agg #[.slice none 0 0, .string ByteArray.empty, .slice none 0 0]), 3, 64) := by kernel_rfl
/-- the door, where the frame panics -/
theorem door_no {w w2 : World} {res : Option (List Rl)} {s : Str} {tmps : Array Value} {a : Option Addr} {n cap : Nat} (hres : Hid (res = none)) (hb : Below w.heap.size w w2) (hE : w2.heap[w.heap.size]? = some (.cells #[.nilIface] 63 (0, 0)))
    (h2 : tmps[2]? = some (.slice a n cap)) (h3 : tmps[3]? = some (.pointer (some ⟨w.heap.size, 0, none⟩))) :
    Leaves Tryd.prog Tryd.f47 tmps (RetPR res w) [{ target := .fn (.func 57) #[.pointer (some ⟨w.heap.size, 0, none⟩)], args := #[] }] (.panicking [{ v := .iface 90 (.string s), recovered := false }]) w2 := by
  have hc1 : w2.cell? ⟨w.heap.size, 0, none⟩ = some .nilIface := by rw [cell_of_row _ _ _ _ _ _ hE]; rfl
  have hz1 : w2.frozen? ⟨w.heap.size, 0, none⟩ = false := frozen_of_row _ _ _ _ _ hE
  have hE2 := heap_setCell_same w2 w.heap.size 0 _ _ (.iface 90 (.string s)) hE
  have hc2 : (w2.setCell ⟨w.heap.size, 0, none⟩ (.iface 90 (.string s))).cell? ⟨w.heap.size, 0, none⟩ = some (.iface 90 (.string s)) := by rw [cell_of_row _ _ _ _ _ _ hE2]; rfl
  refine leaves_cons (f := 57) (args := #[.pointer (some ⟨w.heap.size, 0, none⟩)]) (by simp) (by simp [go_sem]) ?_
  refine (catch_panicking ⟨w.heap.size, 0, none⟩ .nilIface s [] _ hc1 hz1).mono ?_
  rintro e u' w'' ⟨rfl, rfl, rfl⟩
  have hfin := RetPR.no (a := a) (n := n) (cap := cap) (s := s) hres (hb.fr (Fr.setCell (S := fun b => b = w.heap.size) w2 ⟨w.heap.size, 0, none⟩ (.iface 90 (.string s)) rfl) (Nat.le_refl _) (fun b e => by omega))
  simp [Leaves, settle, results, Tryd.results47, go_sem, hc2, h2, h3]
  exact hfin
/-- the door, where the frame returns -/
theorem door_ok {w w2 : World} {res : Option (List Rl)} {out : List Rl} {tmps : Array Value} {a : Option Addr} {cap : Nat} {qs : List QV} (hres : Hid (res = some out)) (hb : Below w.heap.size w w2) (hc : w2.cell? ⟨w.heap.size, 0, none⟩ = some .nilIface)
    (hr : RS w2 w.heap.size 85 opV a cap qs out) (h2 : tmps[2]? = some (.slice a out.length cap)) (h3 : tmps[3]? = some (.pointer (some ⟨w.heap.size, 0, none⟩))) :
    Leaves Tryd.prog Tryd.f47 tmps (RetPR res w) [{ target := .fn (.func 57) #[.pointer (some ⟨w.heap.size, 0, none⟩)], args := #[] }] .returning w2 := by
  refine leaves_cons (f := 57) (args := #[.pointer (some ⟨w.heap.size, 0, none⟩)]) (by simp) (by simp [go_sem]) ?_
  refine (catch_idle ⟨w.heap.size, 0, none⟩ w2).mono ?_
  rintro e u' w'' ⟨rfl, rfl, rfl⟩
  have hfin := RetPR.ok (a := a) (n := out.length) (cap := cap) hres rfl hb hr
  simp [Leaves, settle, results, Tryd.results47, go_sem, hc, h2, h3]
  exact hfin

set_option maxRecDepth 100000 in
set_option maxHeartbeats 2000000 in
theorem parseRules_calls (tx : Str) (ts : List Str) (w : World) (hsm : tx.size ≤ 1000000) (hlx : lex (bs tx) = some ts)
    (hse : pRules ts = none → ∀ (w1 : World) (pb : Nat) (tx1 msg : Str), TokAt w1 pb (tx.size + 1) tx1 → Below w.heap.size w w1 → msg.size ≤ 20 → Calls Tryd.prog 59 #[.pointer (some ⟨pb, 0, none⟩), .string msg] w1 (Err w1)) :
    Calls Tryd.prog 47 #[.string tx] w (RetPR (pRules ts) w) := by
  have hcnt := (lex_count _ _ _ (Nat.le_refl _) hlx).1
  rw [bs_len] at hcnt
  have HT := Lib.hid hlx
  clear hlx
  obtain ⟨res, hres⟩ : ∃ res, pRules ts = res := ⟨_, rfl⟩
  rw [hres] at hse ⊢
  have HSE := Lib.hid hse; clear hse
  have HRES := Lib.hid hres; clear hres
  have hmf : ∀ (fn : Fn) (first cap : Array Value) (w : World), (Instr.makeFunc fn first cap).run Tryd.prog w = .ok (.func fn first cap) w := fun _ _ _ _ => rfl
  go_enter_defers Tryd.func47, Tryd.ntmps47
  go_wp2
  have hT0 : TokAt ((w.alloc (.cells #[.nilIface] 63)).alloc (.cells #[.int .i64 1, .string ⟨#[]⟩, .string tx] 95)) (w.heap.size + 1) (tx.size + 1) tx := by
    refine TokAt.mk' (ln := 1) (lw := ⟨#[]⟩) (by omega) (Nat.zero_le _) ?_
    have := heap_alloc_new (w.alloc (.cells #[.nilIface] 63)) (.cells #[.int .i64 1, .string ⟨#[]⟩, .string tx] 95)
    rw [World.size_alloc] at this
    exact this
  have hE0 : ((w.alloc (.cells #[.nilIface] 63)).alloc (.cells #[.int .i64 1, .string ⟨#[]⟩, .string tx] 95)).heap[w.heap.size]? = some (.cells #[.nilIface] 63 (0, 0)) :=
    (Below.heap_alloc (w.alloc (.cells #[.nilIface] 63)) _ w.heap.size (by rw [World.size_alloc]; omega)).trans (heap_alloc_new w _)
  have hb0 : Below w.heap.size w ((w.alloc (.cells #[.nilIface] 63)).alloc (.cells #[.int .i64 1, .string ⟨#[]⟩, .string tx] 95)) := ((Below.refl _ _).alloc (Nat.le_refl _) _).alloc (by simp) _
  generalize (w.alloc (.cells #[.nilIface] 63)).alloc (.cells #[.int .i64 1, .string ⟨#[]⟩, .string tx] 95) = W at *
  go_loopg [2, 5, 6] (ts.length + 1) (fun gk v2 v5 v6 wr => ∃ (out : List Rl) (prev : Option (List Str × Bool)) (tr : List Str) (a pa : Option Addr) (cap pn pc : Nat) (op : Value) (qs : List QV) (tx' : Str), gk = tr.length + 1 ∧ v2 = .slice a out.length cap ∧
    v5 = .slice pa pn pc ∧ v6 = op ∧ out.length + tr.length ≤ ts.length ∧
    Hid ((pRun ⟨out, prev, [], true⟩ tr).bind pEnd = res) ∧ Hid (RS wr W.heap.size 85 opV a cap qs out) ∧ Hid (match prev with | none => pa = none ∧ pn = 0 ∧ pc = 0 | some p => pn = p.1.length ∧ op = opV p.2 ∧ pa ≠ none ∧ p.1.length ≤ ts.length ∧ Own encS 1 wr W.heap.size 9 pa pc p.1) ∧
    Hid (TokAt wr (w.heap.size + 1) (tx.size + 1) tx') ∧ Hid (lex (bs tx') = some tr) ∧ wr.heap[w.heap.size]? = some (.cells #[.nilIface] 63 (0, 0)) ∧ Below w.heap.size w wr ∧ W.heap.size ≤ wr.heap.size)
  case atStart => exact ⟨[], none, ts, none, none, 0, 0, 0, _, [], tx, rfl, rfl, rfl, rfl, by simp, HRES, Lib.hid ⟨Own.nil_ _ _ _, rfl, fun i hi => by simp at hi⟩, Lib.hid ⟨rfl, rfl, rfl⟩, Lib.hid hT0, HT, hE0, hb0, Nat.le_refl _⟩
  case round =>
    obtain ⟨out, prev, tr, a, pa, cap, pn, pc, op, qs, tx', rfl, rfl, rfl, rfl, hlen, HR, HRS, HP, HT', HL, hE, hb, hWs⟩ := hrel
    have hne := lex_ne _ _ _ (Nat.le_refl _) HL.out
    have hrun := nextL_run out prev [] tr hne
    rw [HR.out] at hrun
    have hnn := nextL_ne [] tr
    have hnc := nextL_comma [] tr
    have hfb : ∀ w1, Fr (fun k => k = w.heap.size + 1) wr w1 → Below w.heap.size w w1 ∧ w1.heap[w.heap.size]? = some (.cells #[.nilIface] 63 (0, 0)) := fun w1 g => ⟨hb.fr g (Nat.le_refl _) (fun b e => by omega), (g.block _ (Array.getElem?_eq_some_iff.1 hE).1 (by omega)).trans hE⟩
    have hpan : ∀ w1, Below w.heap.size w w1 → w1.heap[w.heap.size]? = some (.cells #[.nilIface] 63 (0, 0)) → ∀ e w', Err w1 e w' → Pan w e w' := fun w1 h1 h2 e w' ⟨s, h3, h4⟩ => ⟨s, h3, h1.top h4 (Nat.le_refl _), (h4.block _ (Array.getElem?_eq_some_iff.1 h2).1).trans h2⟩
    have hnl := nextList_calls tx' tr (w.heap.size + 1) (tx.size + 1) wr (Pan w) (by omega) HT'.out HL.out (by omega)
      (fun w1 tx1 msg h1 h2 h3 h4 => (HSE.out (by rw [hrun, h3]) w1 (w.heap.size + 1) tx1 msg h1 (hfb w1 h2).1 h4).mono (fun e w' h => hpan w1 (hfb w1 h2).1 (hfb w1 h2).2 e w' h))
      (fun e w' h => by obtain ⟨s, h, _⟩ := h; exact ⟨_, h⟩)
    have HFB := Lib.hid hfb; clear hfb
    have HPAN := Lib.hid hpan; clear hpan
    rcases hnx : nextL [] tr with _ | ⟨l, t, r⟩
    · -- a list is refused
      rw [hnx] at hrun hnl
      have hres : Hid (res = none) := Lib.hid hrun
      clear hrun hnn hnc hnx HR HRS HP
      have HNL := Lib.hid hnl; clear hnl
      go_wp2_with (go_at_call 58; refine (HNL.out).mono ?_; rintro e w1 ⟨s, rfl, hb1, hE1⟩)
      exact door_no hres hb1 hE1 rfl rfl
    · rw [hnx] at hrun hnl
      simp only at hrun
      obtain ⟨n1, n2, n3, n4, n5, n6⟩ := hnn l t r hnx hne
      have hcm := hnc l t r hnx
      clear hnn hnc
      have HS1 : Hid (∀ w1 tx1 msg, TokAt w1 (w.heap.size + 1) (tx.size + 1) tx1 → Below w.heap.size w w1 → w1.heap[w.heap.size]? = some (.cells #[.nilIface] 63 (0, 0)) → res = none → msg.size ≤ 20 → Calls Tryd.prog 59 #[.pointer (some ⟨w.heap.size + 1, 0, none⟩), .string msg] w1 (Pan w)) :=
        Lib.hid (fun w1 tx1 msg h1 h2 h3 h4 h5 => (HSE.out h4 w1 (w.heap.size + 1) tx1 msg h1 h2 h5).mono (fun e w' h => HPAN.out w1 h2 h3 e w' h))
      have HNL := Lib.hid hnl; clear hnl
      clear hnx
      have t0 := tl_tok t []
      have e0 := nil_eq0
      have e1 := nil_ne0
      have hwW : w.heap.size + 1 < W.heap.size := hT0.lt
      have hRSn : Hid (∀ w1, Fr (fun k => k = w.heap.size + 1) wr w1 → RS w1 W.heap.size 85 opV a cap qs out) := Lib.hid (fun w1 g => HRS.out.frS g (fun k h1 h2 => by omega))
      by_cases hte : t = eS
      · rw [if_pos hte] at hrun
        rw [decide_eq_true (p := t = mkS []) hte] at t0
        rcases prev with _ | ⟨p, b⟩
        · have hres : Hid (res = some out) := Lib.hid (by rw [hrun]; rfl)
          obtain ⟨rfl, rfl, rfl⟩ := HP.out
          clear hrun HR
          go_wp2_with (go_at_call 58; refine (HNL.out).mono ?_; rintro e w1 ⟨la, lcap, tx1, rfl, hT1, hl1, ho1, hla, hf1⟩
                       have hb1 := (HFB.out w1 hf1).1
                       have hE1 := (HFB.out w1 hf1).2
                       have hc1 : w1.cell? ⟨w.heap.size, 0, none⟩ = some .nilIface := by rw [cell_of_row _ _ _ _ _ _ hE1]; rfl
                       have hz1 : w1.frozen? ⟨w.heap.size, 0, none⟩ = false := frozen_of_row _ _ _ _ _ hE1)
          go_region
          go_wp2
          have hE2 := heap_setCell_same w1 w.heap.size 0 _ _ .nilIface hE1
          have hc2 : ((w1.setCell ⟨w.heap.size, 0, none⟩ .nilIface).drew).cell? ⟨w.heap.size, 0, none⟩ = some .nilIface := by
            show (w1.setCell ⟨w.heap.size, 0, none⟩ .nilIface).cell? ⟨w.heap.size, 0, none⟩ = _
            rw [cell_of_row _ _ _ _ _ _ hE2]; rfl
          have hfz : Fr (fun k => k = w.heap.size) w1 (w1.setCell ⟨w.heap.size, 0, none⟩ .nilIface).drew := (Fr.setCell (S := fun k => k = w.heap.size) w1 ⟨w.heap.size, 0, none⟩ .nilIface rfl).trans (Fr.drew (fun k => k = w.heap.size) _) (fun _ _ e => e)
          have hr2 := ((hRSn.out w1 hf1).frS hfz (fun k h1 h2 => by omega)).mono (show w.heap.size ≤ W.heap.size by omega)
          exact door_ok hres (hb1.fr hfz (Nat.le_refl _) (fun b e => by omega)) hc2 hr2 rfl rfl
        · have hres : Hid (res = none) := Lib.hid (by rw [hrun]; simp)
          obtain ⟨hpn, hop, hpa, hpl, hpo⟩ := HP.out
          obtain ⟨pad, rfl⟩ := Option.ne_none_iff_exists'.1 hpa
          have e2 := nil_eq1 pad pn pc
          clear hrun HR hpo HP hpn hop e0 e1
          go_wp2_with (first
            | (go_at_call 58; refine (HNL.out).mono ?_; rintro e w1 ⟨la, lcap, tx1, rfl, hT1, hl1, ho1, hla, hf1⟩
               have hb1 := (HFB.out w1 hf1).1
               have hE1 := (HFB.out w1 hf1).2)
            | (go_at_call 59; refine (HS1.out w1 tx1 _ hT1 hb1 hE1 hres.out (by decide)).mono ?_; rintro e w2 ⟨s, rfl, hb2, hE2⟩))
          exact door_no hres hb2 hE2 rfl rfl
      · rw [if_neg hte] at hrun
        rw [decide_eq_false (p := t = mkS []) hte] at t0
        have t59 := tl_tok t [59]
        have hlr := n4 hte
        have hlne := n2 hte
        have hHla : Hid (l ≠ []) := Lib.hid hlne
        have hll : l.length ≤ ts.length := by simp at n5; omega
        clear n1 n2 n3 n4 n5 n6 hlne hte
        rcases prev with _ | ⟨p, b⟩
        · obtain ⟨rfl, rfl, rfl⟩ := HP.out
          clear HR HP
          by_cases h1 : t = tSemi
          · rw [decide_eq_true (p := t = mkS [59]) h1] at t59
            have hnext : Hid ((pRun ⟨out, none, [], true⟩ r).bind pEnd = res) := Lib.hid (by rw [hrun]; simp [pStep, h1, PSt.push, tok_ne.1.symm])
            clear hrun h1 hcm
            go_wp2_with (first
            | (go_at_call 58; refine (HNL.out).mono ?_; rintro e w1 ⟨la, lcap, tx1, rfl, hT1, hl1, ho1, hla, hf1⟩
               have hb1 := (HFB.out w1 hf1).1
               have hE1 := (HFB.out w1 hf1).2))
            go_roundg (r.length + 1)
            case measure => omega
            case rel => exact ⟨out, none, r, a, none, cap, 0, 0, _, qs, tx1, rfl, rfl, rfl, rfl, by omega, hnext, Lib.hid (hRSn.out w1 hf1), Lib.hid ⟨rfl, rfl, rfl⟩, Lib.hid hT1, Lib.hid hl1, hE1, hb1, Nat.le_trans hWs hf1.size⟩
          · rw [decide_eq_false (p := t = mkS [59]) h1] at t59
            have t60 := tl_tok t [60]
            have t3360 := tl_tok t [33, 60]
            by_cases h2 : t = tLt
            · have hnext : Hid ((pRun ⟨out, some (l, decide (t = tBar)), [], true⟩ r).bind pEnd = res) := Lib.hid (by rw [hrun]; simp [pStep, h2, PSt.push, tok_ne.2.1.symm, tok_ne.2.2.2.1.symm])
              have hop2 := opV_mk t (.inl h2)
              have HOP2 := Lib.hid hop2; clear hop2
              rw [decide_eq_true (p := t = mkS [60]) h2] at t60
              rw [decide_eq_false (p := t = mkS [33, 60]) (fun e => tok_ne.2.2.2.2.2 (h2.symm.trans e))] at t3360
              have v60 : (t.toList != [60]) = false := by rw [bne, t60]; rfl
              clear hrun h1 h2 hcm
              go_wp2_with (first
            | (go_at_call 58; refine (HNL.out).mono ?_; rintro e w1 ⟨la, lcap, tx1, rfl, hT1, hl1, ho1, hla, hf1⟩
               have hb1 := (HFB.out w1 hf1).1
               have hE1 := (HFB.out w1 hf1).2))
              go_roundg (r.length + 1)
              case measure => omega
              case rel => exact ⟨out, some (l, decide (t = tBar)), r, a, la, cap, l.length, lcap, _, qs, tx1, rfl, rfl, rfl, rfl, by omega, hnext, Lib.hid (hRSn.out w1 hf1), Lib.hid ⟨rfl, HOP2.out, hla hHla.out, hll, ho1.mono hWs⟩, Lib.hid hT1, Lib.hid hl1, hE1, hb1, Nat.le_trans hWs hf1.size⟩
            · by_cases h3 : t = tBar
              · clear h2
                have h2 := h3
                clear h3
                have hnext : Hid ((pRun ⟨out, some (l, decide (t = tBar)), [], true⟩ r).bind pEnd = res) := Lib.hid (by rw [hrun]; simp [pStep, h2, PSt.push, tok_ne.2.2.1.symm, tok_ne.2.2.2.2.1.symm])
                have hop2 := opV_mk t (.inr h2)
                have HOP2 := Lib.hid hop2; clear hop2
                rw [decide_eq_false (p := t = mkS [60]) (fun e => tok_ne.2.2.2.2.2 (e.symm.trans h2))] at t60
                rw [decide_eq_true (p := t = mkS [33, 60]) h2] at t3360
                have v60 : (t.toList != [60]) = true := by rw [bne, t60]; rfl
                have v3360 : (t.toList != [33, 60]) = false := by rw [bne, t3360]; rfl
                clear hrun h1 h2 hcm
                go_wp2_with (first
            | (go_at_call 58; refine (HNL.out).mono ?_; rintro e w1 ⟨la, lcap, tx1, rfl, hT1, hl1, ho1, hla, hf1⟩
               have hb1 := (HFB.out w1 hf1).1
               have hE1 := (HFB.out w1 hf1).2))
                go_roundg (r.length + 1)
                case measure => omega
                case rel => exact ⟨out, some (l, decide (t = tBar)), r, a, la, cap, l.length, lcap, _, qs, tx1, rfl, rfl, rfl, rfl, by omega, hnext, Lib.hid (hRSn.out w1 hf1), Lib.hid ⟨rfl, HOP2.out, hla hHla.out, hll, ho1.mono hWs⟩, Lib.hid hT1, Lib.hid hl1, hE1, hb1, Nat.le_trans hWs hf1.size⟩
              · have hres : Hid (res = none) := Lib.hid (by rw [hrun]; simp [pStep, hcm, h1, h2, h3])
                rw [decide_eq_false (p := t = mkS [60]) h2] at t60
                rw [decide_eq_false (p := t = mkS [33, 60]) h3] at t3360
                have v60 : (t.toList != [60]) = true := by rw [bne, t60]; rfl
                have v3360 : (t.toList != [33, 60]) = true := by rw [bne, t3360]; rfl
                clear hrun h1 h2 h3 hcm
                go_wp2_with (first
            | (go_at_call 58; refine (HNL.out).mono ?_; rintro e w1 ⟨la, lcap, tx1, rfl, hT1, hl1, ho1, hla, hf1⟩
               have hb1 := (HFB.out w1 hf1).1
               have hE1 := (HFB.out w1 hf1).2)
            | (go_at_call 59; refine (HS1.out w1 tx1 _ hT1 hb1 hE1 hres.out (by decide)).mono ?_; rintro e w2 ⟨s, rfl, hb2, hE2⟩))
                exact door_no hres hb2 hE2 rfl rfl
        · obtain ⟨hpn, hop, hpa, hpl, hpo⟩ := HP.out
          obtain ⟨pad, rfl⟩ := Option.ne_none_iff_exists'.1 hpa
          simp only at hpn hop hpl hpo
          have hop' := hop.trans (show opV b = Value.string (opS b) from rfl)
          subst hop'
          clear hop
          have e2 := nil_eq1 pad pn pc
          have e3 := nil_ne1 pad pn pc
          clear e0 e1 HP HR hpa
          have hpol := hpo.lt
          have hql : out.length = qs.length := HRS.out.len.symm
          have HAPP : Hid (∀ w1 w2 la lcap tx1 a2 cap2, Fr (fun k => k = w.heap.size + 1) wr w1 → TokAt w1 (w.heap.size + 1) (tx.size + 1) tx1 → Own encS 1 w1 wr.heap.size 9 la lcap l →
              Own (encQ opV) 3 w2 W.heap.size 85 a2 cap2 (qs ++ [((some pad, pn, pc), b, (la, l.length, lcap))]) → Fr (fun k => blk a = some k) w1 w2 →
              TokAt w2 (w.heap.size + 1) (tx.size + 1) tx1 ∧ Below w.heap.size w w2 ∧ w2.heap[w.heap.size]? = some (.cells #[.nilIface] 63 (0, 0)) ∧
              RS w2 W.heap.size 85 opV a2 cap2 (qs ++ [((some pad, pn, pc), b, (la, l.length, lcap))]) (out ++ [(p, b, l)]) ∧ Own encS 1 w2 W.heap.size 9 la lcap l ∧ W.heap.size ≤ w2.heap.size) := Lib.hid (by
            intro w1 w2 la lcap tx1 a2 cap2 g1 g2 g3 g4 g5
            have hb1 := (HFB.out w1 g1).1
            have hE1 := (HFB.out w1 g1).2
            have hRS1 := hRSn.out w1 g1
            have hl1 := hRS1.row.lt
            have hpo1 : Own encS 1 w1 W.heap.size 9 (some pad) pc p := hpo.fr g1 (fun k e1 e2 => by have := (hpol k e1).1; omega)
            have g3' : Own encS 1 w1 W.heap.size 9 la lcap l := g3.mono hWs
            refine ⟨g2.fr g5 (fun e => by have := (hl1 _ e).1; omega), hb1.fr g5 (Nat.le_refl _) (fun k e => by have := (hl1 _ e).1; omega), (g5.block _ (Array.getElem?_eq_some_iff.1 hE1).1 (fun e => by have := (hl1 _ e).1; omega)).trans hE1, ?_, ?_, Nat.le_trans (Nat.le_trans hWs g1.size) g5.size⟩
            · exact hRS1.app (by decide) ⟨hpn, rfl, rfl, hpo1, g3'⟩ g4 g5
            · exact g3'.fr g5 (fun k e1 e2 => g3'.sep hRS1.row (by decide) k e1 e2))
          clear hpol hpo hpn
          by_cases h1 : t = tSemi
          · rw [decide_eq_true (p := t = mkS [59]) h1] at t59
            have hnext : Hid ((pRun ⟨out ++ [(p, b, l)], none, [], true⟩ r).bind pEnd = res) := Lib.hid (by rw [hrun]; simp [pStep, h1, PSt.push, tok_ne.1.symm])
            clear hrun h1 hcm
            go_wp2_with (first
            | (go_at_call 58; refine (HNL.out).mono ?_; rintro e w1 ⟨la, lcap, tx1, rfl, hT1, hl1, ho1, hla, hf1⟩
               have hb1 := (HFB.out w1 hf1).1
               have hE1 := (HFB.out w1 hf1).2
               have hRS1 := hRSn.out w1 hf1
               have hsz1 := Nat.le_trans hWs hf1.size)
            | (at_builtin
               refine wpList_append_new (encQ opV) 3 (encQ_len opV) (encQ_one opV_one) w1 _ rfl _ _ 80 rfl 85 _ 64 Tryd.underlying80 infoRl rfl (by omega) W.heap.size a cap qs _ rfl rfl hRS1.row ((some pad, pn, pc), b, (la, l.length, lcap)) _ _ rfl rfl (by omega) (by omega) hsz1 ?_
               intro a2 cap2 w2 ho2 hf2 hk2
               have hfin := HAPP.out w1 w2 la lcap tx1 a2 cap2 hf1 hT1 ho1 ho2 hf2))
            go_roundg (r.length + 1)
            case measure => omega
            case rel => exact ⟨out ++ [(p, b, l)], none, r, a2, none, cap2, 0, 0, _, qs ++ [((some pad, pn, pc), b, (la, l.length, lcap))], tx1, rfl, by simp [hql], rfl, rfl, by simp; omega, hnext, Lib.hid hfin.2.2.2.1, Lib.hid ⟨rfl, rfl, rfl⟩, Lib.hid hfin.1, Lib.hid hl1, hfin.2.2.1, hfin.2.1, hfin.2.2.2.2.2⟩
          · rw [decide_eq_false (p := t = mkS [59]) h1] at t59
            have t60 := tl_tok t [60]
            have t3360 := tl_tok t [33, 60]
            by_cases h2 : t = tLt
            · have hnext : Hid ((pRun ⟨out ++ [(p, b, l)], some (l, decide (t = tBar)), [], true⟩ r).bind pEnd = res) := Lib.hid (by rw [hrun]; simp [pStep, h2, PSt.push, tok_ne.2.1.symm, tok_ne.2.2.2.1.symm])
              have hop2 := opV_mk t (.inl h2)
              have HOP2 := Lib.hid hop2; clear hop2
              rw [decide_eq_true (p := t = mkS [60]) h2] at t60
              rw [decide_eq_false (p := t = mkS [33, 60]) (fun e => tok_ne.2.2.2.2.2 (h2.symm.trans e))] at t3360
              have v60 : (t.toList != [60]) = false := by rw [bne, t60]; rfl
              clear hrun h1 h2 hcm
              go_wp2_with (first
            | (go_at_call 58; refine (HNL.out).mono ?_; rintro e w1 ⟨la, lcap, tx1, rfl, hT1, hl1, ho1, hla, hf1⟩
               have hb1 := (HFB.out w1 hf1).1
               have hE1 := (HFB.out w1 hf1).2
               have hRS1 := hRSn.out w1 hf1
               have hsz1 := Nat.le_trans hWs hf1.size)
            | (at_builtin
               refine wpList_append_new (encQ opV) 3 (encQ_len opV) (encQ_one opV_one) w1 _ rfl _ _ 80 rfl 85 _ 64 Tryd.underlying80 infoRl rfl (by omega) W.heap.size a cap qs _ rfl rfl hRS1.row ((some pad, pn, pc), b, (la, l.length, lcap)) _ _ rfl rfl (by omega) (by omega) hsz1 ?_
               intro a2 cap2 w2 ho2 hf2 hk2
               have hfin := HAPP.out w1 w2 la lcap tx1 a2 cap2 hf1 hT1 ho1 ho2 hf2))
              go_roundg (r.length + 1)
              case measure => omega
              case rel => exact ⟨out ++ [(p, b, l)], some (l, decide (t = tBar)), r, a2, la, cap2, l.length, lcap, _, qs ++ [((some pad, pn, pc), b, (la, l.length, lcap))], tx1, rfl, by simp [hql], rfl, rfl, by simp; omega, hnext, Lib.hid hfin.2.2.2.1, Lib.hid ⟨rfl, HOP2.out, hla hHla.out, hll, hfin.2.2.2.2.1⟩, Lib.hid hfin.1, Lib.hid hl1, hfin.2.2.1, hfin.2.1, hfin.2.2.2.2.2⟩
            · by_cases h3 : t = tBar
              · clear h2
                have h2 := h3
                clear h3
                have hnext : Hid ((pRun ⟨out ++ [(p, b, l)], some (l, decide (t = tBar)), [], true⟩ r).bind pEnd = res) := Lib.hid (by rw [hrun]; simp [pStep, h2, PSt.push, tok_ne.2.2.1.symm, tok_ne.2.2.2.2.1.symm])
                have hop2 := opV_mk t (.inr h2)
                have HOP2 := Lib.hid hop2; clear hop2
                rw [decide_eq_false (p := t = mkS [60]) (fun e => tok_ne.2.2.2.2.2 (e.symm.trans h2))] at t60
                rw [decide_eq_true (p := t = mkS [33, 60]) h2] at t3360
                have v60 : (t.toList != [60]) = true := by rw [bne, t60]; rfl
                have v3360 : (t.toList != [33, 60]) = false := by rw [bne, t3360]; rfl
                clear hrun h1 h2 hcm
                go_wp2_with (first
            | (go_at_call 58; refine (HNL.out).mono ?_; rintro e w1 ⟨la, lcap, tx1, rfl, hT1, hl1, ho1, hla, hf1⟩
               have hb1 := (HFB.out w1 hf1).1
               have hE1 := (HFB.out w1 hf1).2
               have hRS1 := hRSn.out w1 hf1
               have hsz1 := Nat.le_trans hWs hf1.size)
            | (at_builtin
               refine wpList_append_new (encQ opV) 3 (encQ_len opV) (encQ_one opV_one) w1 _ rfl _ _ 80 rfl 85 _ 64 Tryd.underlying80 infoRl rfl (by omega) W.heap.size a cap qs _ rfl rfl hRS1.row ((some pad, pn, pc), b, (la, l.length, lcap)) _ _ rfl rfl (by omega) (by omega) hsz1 ?_
               intro a2 cap2 w2 ho2 hf2 hk2
               have hfin := HAPP.out w1 w2 la lcap tx1 a2 cap2 hf1 hT1 ho1 ho2 hf2))
                go_roundg (r.length + 1)
                case measure => omega
                case rel => exact ⟨out ++ [(p, b, l)], some (l, decide (t = tBar)), r, a2, la, cap2, l.length, lcap, _, qs ++ [((some pad, pn, pc), b, (la, l.length, lcap))], tx1, rfl, by simp [hql], rfl, rfl, by simp; omega, hnext, Lib.hid hfin.2.2.2.1, Lib.hid ⟨rfl, HOP2.out, hla hHla.out, hll, hfin.2.2.2.2.1⟩, Lib.hid hfin.1, Lib.hid hl1, hfin.2.2.1, hfin.2.1, hfin.2.2.2.2.2⟩
              · have hres : Hid (res = none) := Lib.hid (by rw [hrun]; simp [pStep, hcm, h1, h2, h3])
                rw [decide_eq_false (p := t = mkS [60]) h2] at t60
                rw [decide_eq_false (p := t = mkS [33, 60]) h3] at t3360
                have v60 : (t.toList != [60]) = true := by rw [bne, t60]; rfl
                have v3360 : (t.toList != [33, 60]) = true := by rw [bne, t3360]; rfl
                clear hrun h1 h2 h3 hcm
                go_wp2_with (first
            | (go_at_call 58; refine (HNL.out).mono ?_; rintro e w1 ⟨la, lcap, tx1, rfl, hT1, hl1, ho1, hla, hf1⟩
               have hb1 := (HFB.out w1 hf1).1
               have hE1 := (HFB.out w1 hf1).2
               have hRS1 := hRSn.out w1 hf1
               have hsz1 := Nat.le_trans hWs hf1.size)
            | (at_builtin
               refine wpList_append_new (encQ opV) 3 (encQ_len opV) (encQ_one opV_one) w1 _ rfl _ _ 80 rfl 85 _ 64 Tryd.underlying80 infoRl rfl (by omega) W.heap.size a cap qs _ rfl rfl hRS1.row ((some pad, pn, pc), b, (la, l.length, lcap)) _ _ rfl rfl (by omega) (by omega) hsz1 ?_
               intro a2 cap2 w2 ho2 hf2 hk2
               have hfin := HAPP.out w1 w2 la lcap tx1 a2 cap2 hf1 hT1 ho1 ho2 hf2)
            | (go_at_call 59; refine (HS1.out w2 tx1 _ hfin.1 hfin.2.1 hfin.2.2.1 hres.out (by decide)).mono ?_; rintro e w3 ⟨s, rfl, hb3, hE3⟩))
                exact door_no hres hb3 hE3 rfl rfl
end Go.Proofs.YthpfladpbfbpjaaDoor
