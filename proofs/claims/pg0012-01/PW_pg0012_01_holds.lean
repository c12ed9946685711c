import PyProof.Rows.All
import Wide.All
import OpenK.AllK
import Wide.FinOn
import PySem.Challenge.RW_pg0012_01
set_option Elab.async false

section PartTop1
open PySem PySem.W PyProof.Rows
set_option Elab.async false
namespace Mine
set_option maxRecDepth 100000 in
set_option maxHeartbeats 8000000 in
open_top hd for PySem.Challenge.rw_pg0012_01
end Mine
end PartTop1

section PartSre1
open PySem
set_option Elab.async false
set_option maxRecDepth 100000
namespace Mine
open PySem.Sre
def code1 : Array Nat := #[14, 4, 0, 1, 1, 6, 1, 16, 46, 1]
def code2 : Array Nat := #[14, 9, 4, 1, 2, 16, 10, 16, 13, 0, 7, 7, 16, 13, 16, 10, 15, 18, 5, 16, 10, 15, 13, 11, 16, 13, 5, 5, 0, 16, 10, 1, 15, 2, 0, 1]
/-- the machine comes to rest at m' within k steps -/
def Halts (m m' : M) (k : Nat) : Prop := M.runFor k m = m' ∧ m'.outcome.isSome = true
theorem runFor_out {m : M} (h : m.outcome.isSome = true) : ∀ n, M.runFor n m = m
  | 0 => rfl
  | n + 1 => by unfold M.runFor; rw [if_pos h]
theorem runFor_add (a b : Nat) : ∀ m : M, M.runFor (a + b) m = M.runFor b (M.runFor a m) := by
  induction a with
  | zero => intro m; rw [Nat.zero_add]; rfl
  | succ a ih =>
    intro m
    rw [Nat.succ_add]
    by_cases h : m.outcome.isSome = true
    · rw [runFor_out h, runFor_out h, runFor_out h]
    · rw [M.runFor, if_neg h, M.runFor, if_neg h, ih]
theorem Halts.one {m n m' : M} {k : Nat} (hm : m.outcome = none) (e : M.step m = n) (h : Halts n m' k) : Halts m m' (k + 1) :=
  ⟨by rw [M.runFor, if_neg (by rw [hm]; exact Bool.false_ne_true), e]; exact h.1, h.2⟩
theorem Halts.zero {m : M} (h : m.outcome.isSome = true) : Halts m m 0 := ⟨rfl, h⟩
theorem Halts.pad {m m' : M} {k j : Nat} (h : Halts m m' k) (hj : k ≤ j) : Halts m m' j :=
  ⟨by rw [show j = k + (j - k) by omega, runFor_add, h.1, runFor_out h.2], h.2⟩
def Res (hit : Nat → Bool) (e : Nat → Nat) (lim pos : Nat) (m' : M) : Prop :=
  (∃ a, pos ≤ a ∧ a < lim ∧ hit a = true ∧ (∀ j, pos ≤ j → j < a → hit j = false) ∧ m'.outcome = some .matched ∧ m'.start = a ∧ m'.handed = e a) ∨
  ((∀ j, pos ≤ j → j < lim → hit j = false) ∧ m'.outcome = some .failed)
/-- the state within an attempt at s by the first pattern -/
def st1 (text : Array Nat) (lim s : Nat) (first : Bool) (pc pos : Nat) (seen : Seen) (ans : Option Bool) : M :=
  { code := code1, text, lim, start := s, lastStart := lim, wholeText := false, mustAdvance := false, pc := pc, pos := pos, handed := s, outermost := first, marks := #[], lastmark := -1, lastindex := -1,
    loops := #[], inner := none, frames := [{ wait := .nextStart, pc := 5, pos := s, outermost := first }], weight := 1, answer := ans, seen, outcome := none }
def at1 (text : Array Nat) (s : Nat) : Bool := (s == 0 || text.getD (s - 1) 0 == 10)
def hit1 (text : Array Nat) (s : Nat) : Bool := at1 text s && text.getD s 0 == 46
-- no: the next start, or the end
theorem no1 {text : Array Nat} {lim s : Nat} {first : Bool} {pc pos : Nat} {seen : Seen} {P : M → Prop} {k : Nat}
    (hlt : s < lim → ∃ m' , Halts (st1 text lim (s + 1) false 5 (s + 1) seen none) m' k ∧ P m')
    (hend : ¬ s < lim → ∀ m', m'.outcome = some .failed → P m') : ∃ m' , Halts (st1 text lim s first pc pos seen (some false)) m' (max k 1 + 1) ∧ P m' := by
  by_cases h : s < lim
  · obtain ⟨m', hh, hp⟩ := hlt h
    refine ⟨m', ?_, hp⟩
    have h1 : Halts (st1 text lim s first pc pos seen (some false)) m' (k + 1) := by
      refine Halts.one rfl ?_ hh
      show (if s < lim then _ else _) = _
      rw [if_pos h]; rfl
    refine ⟨?_, h1.2⟩
    have e : max k 1 + 1 = (k + 1) + (max k 1 - k) := by omega
    rw [e, runFor_add, h1.1, runFor_out h1.2]
  · have e1 : M.step (st1 text lim s first pc pos seen (some false)) = { st1 text lim s first 5 s seen (some false) with frames := [], weight := 0 } := by
      show (if s < lim then _ else _) = _
      rw [if_neg h]; rfl
    refine ⟨{ st1 text lim s first 5 s seen (some false) with frames := [], weight := 0, outcome := some .failed }, ?_, hend h _ rfl⟩
    have h1 : Halts (st1 text lim s first pc pos seen (some false)) { st1 text lim s first 5 s seen (some false) with frames := [], weight := 0, outcome := some .failed } 2 :=
      Halts.one rfl e1 (Halts.one rfl rfl (Halts.zero rfl))
    refine ⟨?_, h1.2⟩
    have e : max k 1 + 1 = 2 + (max k 1 - 1) := by omega
    rw [e, runFor_add, h1.1, runFor_out h1.2]
theorem run1 (text : Array Nat) (lim : Nat) : ∀ (d s : Nat) (first : Bool) (seen : Seen), s + d = lim →
    ∃ m', Halts (st1 text lim s first 5 s seen none) m' (4 * d + 5) ∧ Res (hit1 text) (fun a => a + 1) lim s m' := by
  intro d
  induction d with
  | zero =>
    intro s first seen hs
    have hnl : ¬ s < lim := by omega
    have hP : ∀ m' : M, m'.outcome = some .failed → Res (hit1 text) (fun a => a + 1) lim s m' := fun m' h => .inr ⟨fun j h1 h2 => by omega, h⟩
    cases ha : at1 text s with
    | false =>
      obtain ⟨m', hh, hp⟩ := no1 (first := first) (pc := 5) (pos := s) (seen := (seen.add 6).add 44) (k := 1) (P := Res (hit1 text) (fun a => a + 1) lim s) (text := text) (lim := lim) (s := s) (fun h => absurd h hnl) (fun _ => hP)
      refine ⟨m', ?_, hp⟩
      have h1 : Halts (st1 text lim s first 5 s seen none) m' 3 := Halts.one rfl (by show (if at1 text s = true then _ else _) = _; rw [ha]; rfl) hh
      exact ⟨by rw [show 4 * 0 + 5 = 3 + 2 from rfl, runFor_add, h1.1, runFor_out h1.2], h1.2⟩
    | true =>
      obtain ⟨m', hh, hp⟩ := no1 (first := first) (pc := 7) (pos := s) (seen := ((seen.add 6).add 44).add 16) (k := 1) (P := Res (hit1 text) (fun a => a + 1) lim s) (text := text) (lim := lim) (s := s) (fun h => absurd h hnl) (fun _ => hP)
      refine ⟨m', ?_, hp⟩
      have h0 : Halts (st1 text lim s first 7 s ((seen.add 6).add 44) none) m' 3 := Halts.one rfl (by show (if s ≥ lim then _ else _) = _; rw [if_pos (by omega)]; rfl) hh
      have h1 : Halts (st1 text lim s first 5 s seen none) m' 4 := Halts.one rfl (by show (if at1 text s = true then _ else _) = _; rw [ha]; rfl) h0
      exact ⟨by rw [show 4 * 0 + 5 = 4 + 1 from rfl, runFor_add, h1.1, runFor_out h1.2], h1.2⟩
  | succ d ih =>
    intro s first seen hs
    have hlt : s < lim := by omega
    have next : ∀ seen', hit1 text s = false → ∃ m', Halts (st1 text lim (s + 1) false 5 (s + 1) seen' none) m' (4 * d + 5) ∧ Res (hit1 text) (fun a => a + 1) lim s m' := by
      intro seen' hno
      obtain ⟨m', hh, hp⟩ := ih (s + 1) false seen' (by omega)
      refine ⟨m', hh, ?_⟩
      rcases hp with ⟨a, h1, h2, h3, h4, h5⟩ | ⟨h1, h2⟩
      · refine .inl ⟨a, by omega, h2, h3, fun j hj hj' => ?_, h5⟩
        by_cases e : j = s
        · rw [e]; exact hno
        · exact h4 j (by omega) hj'
      · refine .inr ⟨fun j hj hj' => ?_, h2⟩
        by_cases e : j = s
        · rw [e]; exact hno
        · exact h1 j (by omega) hj'
    cases ha : at1 text s with
    | false =>
      have hno : hit1 text s = false := by unfold hit1; rw [ha]; rfl
      obtain ⟨m', hh, hp⟩ := no1 (first := first) (pc := 5) (pos := s) (seen := (seen.add 6).add 44) (k := 4 * d + 5) (P := Res (hit1 text) (fun a => a + 1) lim s) (text := text) (lim := lim) (s := s) (fun _ => next _ hno) (fun h => absurd hlt h)
      refine ⟨m', ?_, hp⟩
      have h1 : Halts (st1 text lim s first 5 s seen none) m' (max (4 * d + 5) 1 + 1 + 1) := Halts.one rfl (by show (if at1 text s = true then _ else _) = _; rw [ha]; rfl) hh
      exact ⟨by rw [show 4 * (d + 1) + 5 = (max (4 * d + 5) 1 + 1 + 1) + 2 by omega, runFor_add, h1.1, runFor_out h1.2], h1.2⟩
    | true =>
      have e1 : M.step (st1 text lim s first 5 s seen none) = st1 text lim s first 7 s ((seen.add 6).add 44) none := by
        show (if at1 text s = true then _ else _) = _; rw [ha]; rfl
      cases hc : text.getD s 0 == 46 with
      | false =>
        have hno : hit1 text s = false := by unfold hit1; rw [ha, hc]; rfl
        obtain ⟨m', hh, hp⟩ := no1 (first := first) (pc := 7) (pos := s) (seen := ((seen.add 6).add 44).add 16) (k := 4 * d + 5) (P := Res (hit1 text) (fun a => a + 1) lim s) (text := text) (lim := lim) (s := s) (fun _ => next _ hno) (fun h => absurd hlt h)
        refine ⟨m', ?_, hp⟩
        have h0 : Halts (st1 text lim s first 7 s ((seen.add 6).add 44) none) m' (max (4 * d + 5) 1 + 1 + 1) := Halts.one rfl (by
          show (if s ≥ lim then _ else (match (Except.ok (text.getD s 0 == 46, _) : Except String (Bool × Seen)) with | .error why => _ | .ok (false, seen) => _ | .ok (true, seen) => _)) = _
          rw [if_neg (by omega), hc]; rfl) hh
        have h1 := Halts.one (m := st1 text lim s first 5 s seen none) rfl e1 h0
        exact ⟨by rw [show 4 * (d + 1) + 5 = (max (4 * d + 5) 1 + 1 + 1 + 1) + 1 by omega, runFor_add, h1.1, runFor_out h1.2], h1.2⟩
      | true =>
        refine ⟨{ st1 text lim s first 5 s (((((seen.add 6).add 44).add 16)).add 1) (some true) with frames := [], weight := 0, handed := s + 1, outcome := some .matched }, ?_, .inl ⟨s, Nat.le_refl _, hlt, by unfold hit1; rw [ha, hc]; rfl, fun j h1 h2 => by omega, rfl, rfl, rfl⟩⟩
        have h2 : Halts (st1 text lim s first 7 s ((seen.add 6).add 44) none) { st1 text lim s first 5 s (((((seen.add 6).add 44).add 16)).add 1) (some true) with frames := [], weight := 0, handed := s + 1, outcome := some .matched } 4 := by
          refine Halts.one (n := st1 text lim s first 9 (s + 1) (((seen.add 6).add 44).add 16) none) rfl ?_ ?_
          · show (if s ≥ lim then _ else (match (Except.ok (text.getD s 0 == 46, _) : Except String (Bool × Seen)) with | .error why => _ | .ok (false, seen) => _ | .ok (true, seen) => _)) = _
            rw [if_neg (by omega), hc]; rfl
          · refine Halts.one (n := { st1 text lim s first 9 (s + 1) (((((seen.add 6).add 44).add 16)).add 1) (some true) with handed := s + 1 }) rfl ?_ (Halts.one rfl rfl (Halts.one rfl rfl (Halts.zero rfl)))
            cases first <;> rfl
        have h1 := Halts.one (m := st1 text lim s first 5 s seen none) rfl e1 h2
        exact ⟨by rw [show 4 * (d + 1) + 5 = 5 + (4 * d + 4) by omega, runFor_add, h1.1, runFor_out h1.2], h1.2⟩
theorem search1 (text : Array Nat) (pos : Nat) (hp : pos ≤ text.size) : ∃ m', Halts (forSearch code1 text 0 pos text.size false) m' (4 * text.size + 5) ∧ Res (hit1 text) (fun a => a + 1) text.size pos m' := by
  by_cases h : pos < text.size
  · have e : forSearch code1 text 0 pos text.size false = st1 text text.size pos true 5 pos (({} : Seen).add 14) none := by
      show (if (decide (pos > text.size) || decide (text.size - pos < 1)) = true then _ else _) = _
      rw [if_neg (by simp; omega)]; rfl
    rw [e]
    obtain ⟨m', h1, h2⟩ := run1 text text.size (text.size - pos) pos true (({} : Seen).add 14) (by omega)
    exact ⟨m', ⟨by rw [show 4 * text.size + 5 = (4 * (text.size - pos) + 5) + 4 * pos by omega, runFor_add, h1.1, runFor_out h1.2], h1.2⟩, h2⟩
  · refine ⟨{ (forSearch code1 text 0 pos text.size false) with outcome := some .failed }, ?_, .inr ⟨fun j h1 h2 => by omega, rfl⟩⟩
    have e : forSearch code1 text 0 pos text.size false = { code := code1, text, lim := text.size, start := pos, pc := 5, pos, handed := pos, marks := #[], mustAdvance := false, seen := ({} : Seen).add 14, answer := some false } := by
      show (if (decide (pos > text.size) || decide (text.size - pos < 1)) = true then _ else _) = _
      rw [if_pos (by simp; omega)]; rfl
    rw [e]
    exact (Halts.one rfl rfl (Halts.zero rfl) : Halts _ _ 1).pad (by omega)
/-- the state within an attempt at s by the second pattern -/
def st2 (text : Array Nat) (lim s : Nat) (pc pos : Nat) (seen : Seen) (ans : Option Bool) (fr : List Sre.Frame) (wt hd : Nat) (om : Bool) : M :=
  { code := code2, text, lim, start := s, lastStart := lim, wholeText := false, mustAdvance := false, pc := pc, pos := pos, handed := hd, outermost := om, marks := #[], lastmark := -1, lastindex := -1,
    loops := #[], inner := none, frames := fr, weight := wt, answer := ans, seen, outcome := none }
def f0 (s : Nat) : Sre.Frame := { wait := .nextStart, pc := 10, pos := s, outermost := true }
def fb (pc s : Nat) : Sre.Frame := { wait := .nextBranch, pc := pc, pos := s, outermost := true, kept := { lastmark := -1, lastindex := -1, whole := false, marks := #[] } }
def fn (s : Nat) : Sre.Frame := { wait := .lookNot, pc := 26, pos := s, outermost := true, kept := { lastmark := -1, lastindex := -1, whole := false, marks := #[] } }
def hit2 (text : Array Nat) (s : Nat) : Bool := text.getD s 0 == 10 || text.getD s 0 == 13
def end2 (text : Array Nat) (s : Nat) : Nat := if text.getD s 0 = 13 ∧ s + 1 < text.size ∧ text.getD (s + 1) 0 = 10 then s + 2 else s + 1
-- a literal at the place
theorem lit2 {text : Array Nat} {lim s pc pos c : Nat} {seen : Seen} {fr : List Sre.Frame} {wt hd : Nat} {om : Bool} (hpc : (pc = 12 ∧ c = 13) ∨ (pc = 14 ∧ c = 10) ∨ (pc = 19 ∧ c = 10) ∨ (pc = 24 ∧ c = 13) ∨ (pc = 29 ∧ c = 10)) :
    M.step (st2 text lim s pc pos seen none fr wt hd om) = if pos ≥ lim then st2 text lim s pc pos (seen.add 16) (some false) fr wt hd om else
      if text.getD pos 0 == c then st2 text lim s (pc + 2) (pos + 1) (seen.add 16) none fr wt hd om else st2 text lim s pc pos (seen.add 16) (some false) fr wt hd om := by
  by_cases h : pos ≥ lim
  · rw [if_pos h]
    rcases hpc with ⟨rfl, rfl⟩ | ⟨rfl, rfl⟩ | ⟨rfl, rfl⟩ | ⟨rfl, rfl⟩ | ⟨rfl, rfl⟩ <;>
    · show (if pos ≥ lim then _ else _) = _
      rw [if_pos h]; rfl
  · rw [if_neg h]
    cases hc : text.getD pos 0 == c with
    | true =>
      rcases hpc with ⟨rfl, rfl⟩ | ⟨rfl, rfl⟩ | ⟨rfl, rfl⟩ | ⟨rfl, rfl⟩ | ⟨rfl, rfl⟩
      · show (if pos ≥ lim then _ else (match (Except.ok (text.getD pos 0 == 13, _) : Except String (Bool × Seen)) with | .error why => _ | .ok (false, seen) => _ | .ok (true, seen) => _)) = _
        rw [if_neg h, hc]; rfl
      · show (if pos ≥ lim then _ else (match (Except.ok (text.getD pos 0 == 10, _) : Except String (Bool × Seen)) with | .error why => _ | .ok (false, seen) => _ | .ok (true, seen) => _)) = _
        rw [if_neg h, hc]; rfl
      · show (if pos ≥ lim then _ else (match (Except.ok (text.getD pos 0 == 10, _) : Except String (Bool × Seen)) with | .error why => _ | .ok (false, seen) => _ | .ok (true, seen) => _)) = _
        rw [if_neg h, hc]; rfl
      · show (if pos ≥ lim then _ else (match (Except.ok (text.getD pos 0 == 13, _) : Except String (Bool × Seen)) with | .error why => _ | .ok (false, seen) => _ | .ok (true, seen) => _)) = _
        rw [if_neg h, hc]; rfl
      · show (if pos ≥ lim then _ else (match (Except.ok (text.getD pos 0 == 10, _) : Except String (Bool × Seen)) with | .error why => _ | .ok (false, seen) => _ | .ok (true, seen) => _)) = _
        rw [if_neg h, hc]; rfl
    | false =>
      rcases hpc with ⟨rfl, rfl⟩ | ⟨rfl, rfl⟩ | ⟨rfl, rfl⟩ | ⟨rfl, rfl⟩ | ⟨rfl, rfl⟩
      · show (if pos ≥ lim then _ else (match (Except.ok (text.getD pos 0 == 13, _) : Except String (Bool × Seen)) with | .error why => _ | .ok (false, seen) => _ | .ok (true, seen) => _)) = _
        rw [if_neg h, hc]; rfl
      · show (if pos ≥ lim then _ else (match (Except.ok (text.getD pos 0 == 10, _) : Except String (Bool × Seen)) with | .error why => _ | .ok (false, seen) => _ | .ok (true, seen) => _)) = _
        rw [if_neg h, hc]; rfl
      · show (if pos ≥ lim then _ else (match (Except.ok (text.getD pos 0 == 10, _) : Except String (Bool × Seen)) with | .error why => _ | .ok (false, seen) => _ | .ok (true, seen) => _)) = _
        rw [if_neg h, hc]; rfl
      · show (if pos ≥ lim then _ else (match (Except.ok (text.getD pos 0 == 13, _) : Except String (Bool × Seen)) with | .error why => _ | .ok (false, seen) => _ | .ok (true, seen) => _)) = _
        rw [if_neg h, hc]; rfl
      · show (if pos ≥ lim then _ else (match (Except.ok (text.getD pos 0 == 10, _) : Except String (Bool × Seen)) with | .error why => _ | .ok (false, seen) => _ | .ok (true, seen) => _)) = _
        rw [if_neg h, hc]; rfl
theorem won2 {text : Array Nat} {lim s pos hd : Nat} {seen : Seen} {p : Nat} : ∃ m', Halts (st2 text lim s 35 pos seen none [fb p s, f0 s] 2 hd true) m' 4 ∧ m'.outcome = some .matched ∧ m'.start = s ∧ m'.handed = pos :=
  ⟨_, Halts.one rfl rfl (Halts.one rfl rfl (Halts.one rfl rfl (Halts.one rfl rfl (Halts.zero rfl)))), rfl, rfl, rfl⟩
theorem run2 (text : Array Nat) (s : Nat) (seen : Seen) (hs : s < text.size) (hh : hit2 text s = true) :
    ∃ m', Halts (st2 text text.size s 10 s seen none [f0 s] 1 s true) m' 40 ∧ m'.outcome = some .matched ∧ m'.start = s ∧ m'.handed = end2 text s := by
  have hnl : ¬ s ≥ text.size := by omega
  -- the first branch is entered
  have b1 : M.step (st2 text text.size s 10 s seen none [f0 s] 1 s true) = st2 text text.size s 12 s (seen.add 7) none [fb 11 s, f0 s] 2 s true := rfl
  by_cases h10 : text.getD s 0 = 10
  · -- a feed: the second branch
    have e1 : end2 text s = s + 1 := by unfold end2; rw [if_neg (by omega)]
    obtain ⟨m', hm, r⟩ := won2 (text := text) (lim := text.size) (s := s) (pos := s + 1) (hd := s) (seen := ((((seen.add 7).add 16).add 16).add 15)) (p := 18)
    refine ⟨m', ?_, by rw [e1]; exact r⟩
    have h3 : Halts (st2 text text.size s 21 (s + 1) (((seen.add 7).add 16).add 16) none [fb 18 s, f0 s] 2 s true) m' 5 := Halts.one rfl rfl hm
    have h4 : Halts (st2 text text.size s 19 s (((seen.add 7).add 16)) none [fb 18 s, f0 s] 2 s true) m' 6 := Halts.one rfl (by rw [lit2 (c := 10) (by omega), if_neg hnl, h10]; rfl) h3
    have h5 : Halts (st2 text text.size s 12 s (((seen.add 7).add 16)) (some false) [fb 11 s, f0 s] 2 s true) m' 7 := Halts.one rfl rfl h4
    have h6 : Halts (st2 text text.size s 12 s (seen.add 7) none [fb 11 s, f0 s] 2 s true) m' 8 := Halts.one rfl (by rw [lit2 (c := 13) (by omega), if_neg hnl, h10]; rfl) h5
    exact (Halts.one rfl b1 h6).pad (by omega)
  · have h13 : text.getD s 0 = 13 := by
      unfold hit2 at hh
      rw [Bool.or_eq_true, beq_iff_eq, beq_iff_eq] at hh
      exact hh.resolve_left h10
    have b2 : M.step (st2 text text.size s 12 s (seen.add 7) none [fb 11 s, f0 s] 2 s true) = st2 text text.size s 14 (s + 1) ((seen.add 7).add 16) none [fb 11 s, f0 s] 2 s true := by
      rw [lit2 (c := 13) (by omega), if_neg hnl, h13]; rfl
    by_cases h2 : s + 1 < text.size ∧ text.getD (s + 1) 0 = 10
    · have e1 : end2 text s = s + 2 := by unfold end2; rw [if_pos ⟨h13, h2⟩]
      obtain ⟨m', hm, r⟩ := won2 (text := text) (lim := text.size) (s := s) (pos := s + 2) (hd := s) (seen := ((((seen.add 7).add 16).add 16).add 15)) (p := 11)
      refine ⟨m', ?_, by rw [e1]; exact r⟩
      have h3 : Halts (st2 text text.size s 16 (s + 2) (((seen.add 7).add 16).add 16) none [fb 11 s, f0 s] 2 s true) m' 5 := Halts.one rfl rfl hm
      have h4 : Halts (st2 text text.size s 14 (s + 1) ((seen.add 7).add 16) none [fb 11 s, f0 s] 2 s true) m' 6 := Halts.one rfl (by rw [lit2 (c := 10) (by omega), if_neg (by omega), h2.2]; rfl) h3
      exact (Halts.one rfl b1 (Halts.one rfl b2 h4)).pad (by omega)
    · have e1 : end2 text s = s + 1 := by unfold end2; rw [if_neg (fun h => h2 h.2)]
      have lose : ∀ (pc : Nat) (sn : Seen) (fr : List Sre.Frame) (wt hd : Nat) (om : Bool), pc = 14 ∨ pc = 29 → M.step (st2 text text.size s pc (s + 1) sn none fr wt hd om) = st2 text text.size s pc (s + 1) (sn.add 16) (some false) fr wt hd om := by
        intro pc sn fr wt hd om hp
        rw [lit2 (c := 10) (by omega)]
        by_cases h3 : s + 1 ≥ text.size
        · rw [if_pos h3]
        · rw [if_neg h3, if_neg (by rw [beq_iff_eq]; exact fun h => h2 ⟨by omega, h⟩)]
      obtain ⟨m', hm, r⟩ := won2 (text := text) (lim := text.size) (s := s) (pos := s + 1) (hd := s + 1) (seen := (((((((seen.add 7).add 16).add 16).add 16).add 16).add 5).add 16).add 15) (p := 23)
      refine ⟨m', ?_, by rw [e1]; exact r⟩
      have g1 : Halts (st2 text text.size s 32 (s + 1) ((((((((seen.add 7).add 16).add 16).add 16).add 16).add 5).add 16)) none [fb 23 s, f0 s] 2 (s + 1) true) m' 5 := Halts.one rfl rfl hm
      have g2 : Halts (st2 text text.size s 29 (s + 1) ((((((((seen.add 7).add 16).add 16).add 16).add 16).add 5).add 16)) (some false) [fn (s + 1), fb 23 s, f0 s] 3 (s + 1) false) m' 6 := Halts.one rfl rfl g1
      have g3 : Halts (st2 text text.size s 29 (s + 1) ((((((seen.add 7).add 16).add 16).add 16).add 16).add 5) none [fn (s + 1), fb 23 s, f0 s] 3 (s + 1) false) m' 7 := Halts.one rfl (lose 29 _ _ _ _ _ (by omega)) g2
      have g4 : Halts (st2 text text.size s 26 (s + 1) (((((seen.add 7).add 16).add 16).add 16).add 16) none [fb 23 s, f0 s] 2 s true) m' 8 := Halts.one rfl rfl g3
      have g5 : Halts (st2 text text.size s 24 s ((((seen.add 7).add 16).add 16).add 16) none [fb 23 s, f0 s] 2 s true) m' 9 := Halts.one rfl (by rw [lit2 (c := 13) (by omega), if_neg hnl, h13]; rfl) g4
      have g6 : Halts (st2 text text.size s 19 s ((((seen.add 7).add 16).add 16).add 16) (some false) [fb 18 s, f0 s] 2 s true) m' 10 := Halts.one rfl rfl g5
      have g7 : Halts (st2 text text.size s 19 s (((seen.add 7).add 16).add 16) none [fb 18 s, f0 s] 2 s true) m' 11 := Halts.one rfl (by rw [lit2 (c := 10) (by omega), if_neg hnl, h13]; rfl) g6
      have g8 : Halts (st2 text text.size s 14 (s + 1) (((seen.add 7).add 16).add 16) (some false) [fb 11 s, f0 s] 2 s true) m' 12 := Halts.one rfl rfl g7
      have g9 : Halts (st2 text text.size s 14 (s + 1) ((seen.add 7).add 16) none [fb 11 s, f0 s] 2 s true) m' 13 := Halts.one rfl (lose 14 _ _ _ _ _ (by omega)) g8
      exact (Halts.one rfl b1 (Halts.one rfl b2 g9)).pad (by omega)
-- the scan for the first sign of the set
theorem adm2 {m : M} (hc : m.code = code2) : ∀ (d s : Nat) (seen : Seen), s + d = m.lim → ∃ seen',
    (∃ a, s ≤ a ∧ a < m.lim ∧ hit2 m.text a = true ∧ (∀ j, s ≤ j → j < a → hit2 m.text j = false) ∧ M.admitted m (d + 1) s seen = .ok (some a, seen')) ∨
    ((∀ j, s ≤ j → j < m.lim → hit2 m.text j = false) ∧ M.admitted m (d + 1) s seen = .ok (none, seen')) := by
  intro d
  induction d with
  | zero =>
    intro s seen hs
    exact ⟨seen, .inr ⟨fun j h1 h2 => by omega, by unfold M.admitted; rw [if_pos (by omega)]⟩⟩
  | succ d ih =>
    intro s seen hs
    have key : ∃ sn, inSet m.code (m.text.getD s 0) m.code.size 5 true seen = .ok (hit2 m.text s, sn) := by
      rw [hc]
      have e : inSet code2 (m.text.getD s 0) code2.size 5 true seen = (if m.text.getD s 0 == 10 then .ok (true, seen.add 16) else if m.text.getD s 0 == 13 then .ok (true, (seen.add 16).add 16) else .ok (false, ((seen.add 16).add 16).add 0)) := rfl
      rw [e]; unfold hit2
      cases h1 : m.text.getD s 0 == 10 <;> cases h2 : m.text.getD s 0 == 13 <;> exact ⟨_, rfl⟩
    obtain ⟨sn, hk⟩ := key
    have e : M.admitted m (d + 1 + 1) s seen = (match (Except.ok (hit2 m.text s, sn) : Except String (Bool × Seen)) with
        | .ok (true, seen) => .ok (some s, seen)
        | .ok (false, seen) => M.admitted m (d + 1) (s + 1) seen
        | .error why => .error why) := by
      rw [← hk, M.admitted, if_neg (by omega)]
      rfl
    rw [e]
    cases hh : hit2 m.text s with
    | true => exact ⟨sn, .inl ⟨s, Nat.le_refl _, by omega, hh, fun j h1 h2 => by omega, rfl⟩⟩
    | false =>
      obtain ⟨sn', h⟩ := ih (s + 1) sn (by omega)
      refine ⟨sn', ?_⟩
      rcases h with ⟨a, h1, h2, h3, h4, h5⟩ | ⟨h1, h2⟩
      · refine .inl ⟨a, by omega, h2, h3, fun j hj hj' => ?_, h5⟩
        by_cases e : j = s
        · rw [e]; exact hh
        · exact h4 j (by omega) hj'
      · refine .inr ⟨fun j hj hj' => ?_, h2⟩
        by_cases e : j = s
        · rw [e]; exact hh
        · exact h1 j (by omega) hj'
theorem search2 (text : Array Nat) (pos : Nat) (hp : pos ≤ text.size) : ∃ m', Halts (forSearch code2 text 0 pos text.size false) m' 40 ∧ Res (hit2 text) (end2 text) text.size pos m' := by
  by_cases h : pos < text.size
  · have e : forSearch code2 text 0 pos text.size false = M.attemptFrom { code := code2, text, lim := text.size, start := pos, lastStart := text.size, pc := 10, pos, handed := pos, marks := #[], mustAdvance := false, seen := ({} : Seen).add 14 } pos true := by
      show (if (decide (pos > text.size) || decide (text.size - pos < 1)) = true then _ else _) = _
      rw [if_neg (by simp; omega)]; rfl
    rw [e]
    obtain ⟨sn, hh⟩ := adm2 (m := { code := code2, text, lim := text.size, start := pos, lastStart := text.size, pc := 10, pos, handed := pos, marks := #[], mustAdvance := false, seen := ({} : Seen).add 14 }) rfl (text.size - pos) pos (({} : Seen).add 14) (by show pos + (text.size - pos) = text.size; omega)
    rw [show text.size - pos + 1 = text.size + 1 - pos by omega] at hh
    rcases hh with ⟨a, h1, h2, h3, h4, h5⟩ | ⟨h1, h2⟩
    · have e2 : M.attemptFrom { code := code2, text, lim := text.size, start := pos, lastStart := text.size, pc := 10, pos, handed := pos, marks := #[], mustAdvance := false, seen := ({} : Seen).add 14 } pos true = st2 text text.size a 10 a sn none [f0 a] 1 a true := by
        show (match M.admitted _ (text.size + 1 - pos) pos _ with | .ok (some s, seen) => _ | .ok (none, seen) => _ | .error why => _) = _
        rw [h5]; rfl
      rw [e2]
      obtain ⟨m', g1, g2, g3, g4⟩ := run2 text a sn h2 h3
      exact ⟨m', g1, .inl ⟨a, h1, h2, h3, h4, g2, g3, g4⟩⟩
    · have e2 : M.attemptFrom { code := code2, text, lim := text.size, start := pos, lastStart := text.size, pc := 10, pos, handed := pos, marks := #[], mustAdvance := false, seen := ({} : Seen).add 14 } pos true = { code := code2, text, lim := text.size, start := pos, lastStart := text.size, pc := 10, pos, handed := pos, marks := #[], mustAdvance := false, seen := sn, answer := some false } := by
        show (match M.admitted _ (text.size + 1 - pos) pos _ with | .ok (some s, seen) => _ | .ok (none, seen) => _ | .error why => _) = _
        rw [h2]; rfl
      rw [e2]
      exact ⟨_, (Halts.one rfl rfl (Halts.zero rfl) : Halts _ _ 1).pad (by omega), .inr ⟨h1, rfl⟩⟩
  · have e : forSearch code2 text 0 pos text.size false = { code := code2, text, lim := text.size, start := pos, pc := 10, pos, handed := pos, marks := #[], mustAdvance := false, seen := ({} : Seen).add 14, answer := some false } := by
      show (if (decide (pos > text.size) || decide (text.size - pos < 1)) = true then _ else _) = _
      rw [if_pos (by simp; omega)]; rfl
    rw [e]
    exact ⟨_, (Halts.one rfl rfl (Halts.zero rfl) : Halts _ _ 1).pad (by omega), .inr ⟨fun j h1 h2 => by omega, rfl⟩⟩
end Mine
end PartSre1

section PartSre2
open PySem PyProof.Rows PySem.Builtin PySem.Builtin.Re
set_option Elab.async false
set_option maxRecDepth 100000
namespace Mine
open PySem.Sre
section
variable {Md : Model} {A : Around} {E : Value → Shared → Prop} {s : Shared}
theorem drive {m' : M} {Q : M → Shared → Prop} (hq : Q m' s) : ∀ (turns : Nat) (m : M) (k : Nat), Halts m m' k → k < 4 * turns → wpAny Md A (reDrive turns m) Q E s
  | 0, _, _, _, hk => by omega
  | turns + 1, m, k, h, hk => by
    show wpAny Md A (if (m.runFor 4).outcome.isSome = true then pure (m.runFor 4) else do rule "sre.turn"; reDrive turns (m.runFor 4)) Q E s
    by_cases ho : (m.runFor 4).outcome.isSome = true
    · rw [if_pos ho]
      have e : m.runFor 4 = m' := by
        have h1 : M.runFor (max k 4) m = m' := (h.pad (Nat.le_max_left k 4)).1
        rw [← h1, show max k 4 = 4 + (max k 4 - 4) by omega, runFor_add, runFor_out ho]
      rw [e]; exact wpAny_pure hq
    · rw [if_neg ho]
      refine wpAny_bind (wpAny_rule ?_)
      have hk4 : 4 < k := by
        by_cases h4 : 4 < k
        · exact h4
        · exfalso; apply ho
          have := (h.pad (show k ≤ 4 by omega))
          rw [this.1]; exact this.2
      refine drive hq turns _ (k - 4) ⟨?_, h.2⟩ (by omega)
      rw [← runFor_add, show 4 + (k - 4) = k by omega]; exact h.1
theorem rules_for {Q : PUnit → Shared → Prop} (c : Nat → Bool) (g : Nat → String) (hq : Q PUnit.unit s) : ∀ l : List Nat,
    wpAny Md A (forIn l PUnit.unit (fun i _ => if c i = true then do { rule (g i); pure (ForInStep.yield PUnit.unit) } else pure (ForInStep.yield PUnit.unit)) : Sem PUnit) Q E s
  | [] => wpAny_pure hq
  | i :: l => by
    rw [List.forIn_cons]
    refine wpAny_bind ?_
    by_cases h : c i = true
    · rw [if_pos h]; exact wpAny_bind (wpAny_rule (wpAny_pure (rules_for c g hq l)))
    · rw [if_neg h]; exact wpAny_pure (rules_for c g hq l)
theorem toEnd {m m' : M} {k : Nat} {Q : Option M → Shared → Prop} (h : Halts m m' k) (hk : k < 2 ^ 60)
    (h1 : m'.outcome = some .matched → Q (some m') s) (h2 : m'.outcome = some .failed → Q none s) (h3 : m'.outcome = some .matched ∨ m'.outcome = some .failed) : wpAny Md A (reRunToEnd m) Q E s := by
  unfold reRunToEnd
  refine wpAny_bind (drive (m' := m') ?_ (2 ^ 64) m k h (by omega))
  have key : wpAny Md A (match m'.outcome with | some .matched => pure (some m') | some .failed => pure none | some (.stuck why) => unsupported s!"_sre:{why}" | none => unsupported "internal:sre:no-outcome") Q E s := by
    rcases h3 with h3 | h3
    · rw [h3]; exact wpAny_pure (h1 h3)
    · rw [h3]; exact wpAny_pure (h2 h3)
  refine wpAny_bind ?_
  exact rules_for (Md := Md) (A := A) (E := E) (s := s) (Q := fun _ s' => wpAny Md A (match m'.outcome with | some .matched => pure (some m') | some .failed => pure none | some (.stuck why) => unsupported s!"_sre:{why}" | none => unsupported "internal:sre:no-outcome") Q E s')
    (fun i => m'.seen.has i) (fun i => Sre.names.getD i "") key (List.range Sre.names.size)
end
/-! what the table says of re.Pattern -/
theorem rp_slot : Slot "re.Pattern" "sub" "re.Pattern.sub" :=
  .of (owner := "re.Pattern") (n := "sub") (by rw [typeLookup_type, builtinLookup_eq_fast]; kernel_rfl) (by decide +kernel) (by decide +kernel) (by decide +kernel)
    (by first | exact .inl (by decide +kernel) | exact .inr (by decide +kernel)) (by rw [isSubtype_type]; kernel_rfl)
theorem rp_attrs : PlainAttrs "re.Pattern" where
  ga := ⟨"object.__getattribute__", by rw [typeLookup_type, builtinLookup_eq_fast]; kernel_rfl, by decide +kernel⟩
  noGetattr := by rw [typeLookup_type, builtinLookup_eq_fast]; kernel_rfl
theorem rp_type : typeOf (.builtin "re.Pattern.sub") = pure (.type "method_descriptor") := by show builtinType _ = _; rw [builtinType_eq_fast]; kernel_rfl
theorem rp_entry : entryFor table "re.Pattern.sub" = some Builtin.«re.Pattern.sub» := entryFor_of_fast (by kernel_rfl)
theorem rp_loop : entryFor table "re.Pattern.sub.loop" = some Builtin.«re.Pattern.sub.loop» := entryFor_of_fast (by kernel_rfl)
theorem rp_args (a b c : Value) : argsOk "re.Pattern.sub" ⟨[a, b, c], []⟩ := by unfold argsOk; kernel_rfl
theorem rp_plain : plainId "re.Pattern.sub.loop" = true := by decide +kernel
theorem str_nocall : typeLookup (.type "str") "__call__" = pure none := by rw [typeLookup_type, builtinLookup_eq_fast]; kernel_rfl
theorem rp_getMethod {Md : Model} {A : Around} {E : Value → Shared → Prop} {s : Shared} {a : Addr} {o : Obj} {pl : Sem Bool} {Q : Value × List Value → Shared → Prop} (ho : s.heap.get? a = some o) (hc : o.cls = .type "re.Pattern") (hd : o.dict = none)
    (h : Q (.builtin "re.Pattern.sub", [.ref a]) s) : wpAny Md A (getMethod (.ref a) "sub" pl) Q E s :=
  getMethod_builtin ⟨o, ho, hc⟩ rp_attrs rp_slot rp_type (fun b e => by cases e; exact ⟨o, ho, hd⟩) h
end Mine
end PartSre2

section PartSre3
open PySem PyProof.Rows PySem.Builtin PySem.Builtin.Re
set_option Elab.async false
set_option maxRecDepth 100000
namespace Mine
open PySem.Sre
abbrev patObj (p0 p1 : Value) (c : Addr) : Obj := { cls := .type "re.Pattern", data := .fields #[p0, p1, .int 0 0, .none, .none, .ref c, .int 0 0] }
abbrev tupObj (items : Array Value) : Obj := { cls := .type "tuple", data := .seq items }
abbrev tgt (a : Addr) (x : Str) (t : Tok) (code : Array Nat) : ReTarget := { pattern := .ref a, string := .str x t, code := code, text := x.cps, kind := 0, groups := 0, pos := 0, lim := x.cps.size }
section
variable {Md : Model} {A : Around} {E : Value → Shared → Prop} {s : Shared}
theorem whole {a c : Addr} {p0 p1 : Value} {x : Str} {t : Tok} {items : Array Value} {code : Array Nat} {Q : ReTarget → Shared → Prop}
    (ho : s.heap.get? a = some (patObj p0 p1 c)) (hc : s.heap.get? c = some (tupObj items)) (hcode : (items.map reRawOf).map (·.toNat) = code) (h : Q (tgt a x t code) s) :
    wpAny Md A (reWholeTarget (.ref a) (.str x t)) Q E s := by
  unfold reWholeTarget
  have h1 : wpAny Md A (fieldsOf (.ref a)) (fun fs s' => fs = #[p0, p1, .int 0 0, .none, .none, .ref c, .int 0 0] ∧ s' = s) E s := by
    unfold fieldsOf; exact wpAny_bind (wpAny_load ho (wpAny_pure ⟨rfl, rfl⟩))
  refine wpAny_bind (wpAny_mono h1 (fun fs s' h' => ?_) fun _ _ e => e)
  obtain ⟨rfl, rfl⟩ := h'
  have h2 : reTextOf (.str x t) = pure (x.cps, 0) := rfl
  rw [h2]
  refine wpAny_bind (wpAny_pure ?_)
  have h3 : wpAny Md A (reRawItems (.ref c)) (fun fs s'' => fs = items.map reRawOf ∧ s'' = s') E s' := by
    unfold reRawItems seqItems?
    exact wpAny_bind (wpAny_bind (wpAny_load hc (wpAny_pure (wpAny_pure ⟨rfl, rfl⟩))))
  show wpAny Md A (reRawItems (.ref c) >>= fun fs => pure { pattern := .ref a, string := .str x t, code := fs.map (·.toNat), text := x.cps, kind := 0, groups := 0, pos := 0, lim := x.cps.size }) Q E s'
  refine wpAny_bind (wpAny_mono h3 (fun fs s'' h' => ?_) fun _ _ e => e)
  obtain ⟨rfl, rfl⟩ := h'
  rw [hcode]; exact wpAny_pure h
theorem push_seq {l : Addr} {cl : Value} {items : Array Value} {n : Nat} {v : Value} {Q : Unit → Shared → Prop} (ho : s.heap.get? l = some { cls := cl, data := .seq items n }) (hsz : items.size ≤ sizeLine)
    (h : ∀ h', h'.get? l = some { cls := cl, data := .seq (items.push v) (n + 1) } → Heap.SameBut l s.heap h' → Q () { s with heap := h' }) : wpAny Md A (updateSeq l (·.push v)) Q E s := by
  unfold updateSeq
  refine wpAny_bind (wpAny_load ho ?_)
  have hm : Obj.mapSeq (·.push v) { cls := cl, data := .seq items n } = { cls := cl, data := .seq (items.push v) (n + 1) } := by
    unfold Obj.mapSeq; simp
  have hg := Heap.get?_update_self (Obj.mapSeq (·.push v)) ho (by rw [hm]; rfl)
  rw [hm] at hg
  refine wpAny_bind (wpAny_update ho ?_)
  exact wpAny_lookBehind hg (pastItsLine_seq (by rw [Array.size_push]; omega)) (h _ hg (Heap.SameBut.update ..))
end
/-- what the substitution makes of the text from p on -/
inductive Subst (find : Nat → Option (Nat × Nat)) (text repl : List Nat) : Nat → List Nat → Prop
  | done {p : Nat} : find p = none → p ≤ text.length → Subst find text repl p (text.drop p)
  | step {p a e : Nat} {r : List Nat} : find p = some (a, e) → p ≤ a → a < e → e ≤ text.length → Subst find text repl e r → Subst find text repl p ((text.drop p).take (a - p) ++ repl ++ r)
end Mine
end PartSre3

section PartSre4
open PySem PyProof.Rows PySem.Builtin PySem.Builtin.Re
set_option Elab.async false
set_option maxRecDepth 100000
namespace Mine
open PySem.Sre
def flat (ws : List Str) : List Nat := ws.flatMap fun y => y.cps.toList
theorem flat_snoc (ws : List Str) (y : Str) : flat (ws ++ [y]) = flat ws ++ y.cps.toList := by unfold flat; simp
theorem flat_nil : flat [] = [] := rfl
theorem join_flat (ws : List Str) (e : Str) (he : e.cps = #[]) : Str.join e ws = ⟨(flat ws).toArray⟩ := by
  induction ws with
  | nil => rfl
  | cons x r ih =>
    cases r with
    | nil => show x = _; unfold flat; simp
    | cons y r =>
      show x ++ e ++ Str.join e (y :: r) = _
      rw [ih]
      refine Str.ext' ?_
      rw [Str.cps_append, Str.cps_append, he]
      apply Array.toList_inj.mp
      simp [flat]
theorem sum_flat (ws : List Str) : (ws.map (·.length)).sum = (flat ws).length := by
  induction ws with
  | nil => rfl
  | cons x r ih => simp only [List.map_cons, List.sum_cons, ih]; unfold flat; simp [Str.length]
/-- what a search tells -/
def Finds (code : Array Nat) (x : Str) (find : Nat → Option (Nat × Nat)) : Prop :=
  ∀ p, p ≤ x.cps.size → ∃ m' k, Halts (forSearch code x.cps 0 p x.cps.size false) m' k ∧ k < 2 ^ 60 ∧
    ((∃ b e, find p = some (b, e) ∧ m'.outcome = some .matched ∧ m'.start = b ∧ m'.handed = e) ∨ (find p = none ∧ m'.outcome = some .failed))
theorem extract_list (x : Str) (b e : Nat) : (⟨x.cps.extract b e⟩ : Str).cps.toList = (x.cps.toList.drop b).take (e - b) := by
  show (x.cps.extract b e).toList = _
  rw [Array.toList_extract]
abbrev loopCode (a l : Addr) (x rp : Str) (t tr : Tok) (n : Int) (p : Nat) : Code :=
  .builtin "re.Pattern.sub.loop" ⟨[.ref a, .str x t, .str rp tr, rawInt 0, rawInt 0, rawInt n, rawInt (p : Nat), rawInt (p : Nat), .bool false, .ref l, .bool false], []⟩
section
variable {prog : Program} {w : World} {A : Around} {R : Result → Shared → Prop}
theorem slice0 {Md : Model} {E : Value → Shared → Prop} {s : Shared} {x : Str} {b e : Nat} {Q : Value → Shared → Prop} (hx : x.cps.size ≤ 100000) (h : Q (.str ⟨x.cps.extract b e⟩ s.toks) { s with toks := s.toks + 1 }) :
    wpAny Md A (reSlice x.cps 0 b e) Q E s := by
  refine wpAny_mkStr h ?_
  show (x.cps.extract b e).size ≤ sizeLine
  rw [Array.size_extract, sizeLine_eq]; omega
theorem items_at {Md : Model} {E : Value → Shared → Prop} {s : Shared} {l : Addr} {o : Obj} {items : Array Value} {nn : Nat} {Q : Option (Array Value) → Shared → Prop} (hl : s.heap.get? l = some o) (hd : o.data = .seq items nn) (h : Q (some items) s) :
    wpAny Md A (seqItems? (.ref l)) Q E s := by
  unfold seqItems?
  refine wpAny_bind (wpAny_load hl ?_)
  rw [hd]; exact wpAny_pure h
theorem sub_loop {a c l : Addr} {p0 p1 : Value} {x rp : Str} {t tr : Tok} {citems : Array Value} {code : Array Nat} {find : Nat → Option (Nat × Nat)} (hcode : (citems.map reRawOf).map (·.toNat) = code) (hx : x.cps.size ≤ 100000) (hrp : rp.cps.size ≤ 2) (hF : Finds code x find)
    {p : Nat} {out : List Nat} (hS : Subst find x.cps.toList rp.cps.toList p out) : ∀ (s : Shared) (items : Array Value) (nn : Nat) (ws : List Str) (n : Int),
    s.heap.get? a = some (patObj p0 p1 c) → s.heap.get? c = some (tupObj citems) → s.heap.get? l = some { cls := .type "list", data := .seq items nn } → StrsAre items.toList ws → ws.length ≤ 2 * p → (flat ws).length ≤ 3 * p →
    (∀ h' tk tt, (∀ b o, b ≠ l → s.heap.get? b = some o → h'.get? b = some o) → R (.ok (.ret (.str ⟨(flat ws ++ out).toArray⟩ tt))) { s with heap := h', toks := tk }) →
    codeAny (model prog w) A (loopCode a l x rp t tr n p) R s := by
  have hlen : x.cps.toList.length = x.cps.size := Array.length_toList
  induction hS with
  | done hn hp =>
    rename_i p
    intro s items nn ws n ho hc hl hws hw1 hw2 hR
    have hal : a ≠ l := by rintro rfl; rw [ho] at hl; simp at hl
    have hcl : c ≠ l := by rintro rfl; rw [hc] at hl; simp at hl
    rw [hlen] at hp
    refine codeAny_builtin rp_loop ?_
    rw [Around.under_plainId rp_plain]
    unfold Builtin.«re.Pattern.sub.loop»
    refine wpAny_bind (whole ho hc hcode ?_)
    show wpAny _ _ (reLiteralCannotBeTurned (.str rp tr) >>= _) _ _ s
    have hlit : reLiteralCannotBeTurned (.str rp tr) = pure () := rfl
    rw [hlit]
    refine wpAny_bind (wpAny_pure ?_)
    show wpAny _ _ (reNextFound (tgt a x t code) p false >>= _) _ _ s
    obtain ⟨m', k, hh, hk, hres⟩ := hF p hp
    rcases hres with ⟨b, e, h1, _⟩ | ⟨_, hfail⟩
    · rw [hn] at h1; cases h1
    refine wpAny_bind (toEnd hh hk (fun h => by rw [hfail] at h; cases h) (fun _ => ?_) (.inr hfail))
    -- the end: what is left, and the joining
    have fin : ∀ (s₁ : Shared) (items₁ : Array Value) (nn₁ : Nat) (ws₁ : List Str), s₁.heap.get? l = some { cls := .type "list", data := .seq items₁ nn₁ } → StrsAre items₁.toList ws₁ → flat ws₁ = flat ws ++ x.cps.toList.drop p → ws₁.length ≤ 200002 → (flat ws₁).length ≤ 500000 →
        (∃ h₁ tk₁, s₁ = { s with heap := h₁, toks := tk₁ } ∧ (∀ b o, b ≠ l → s.heap.get? b = some o → h₁.get? b = some o)) →
        wpAny (model prog w) A.in1 (do
          let joiner ← reSlice x.cps 0 0 0
          let text ← if ((← seqItems? (.ref l)).getD #[]).isEmpty then pure joiner else call (.builtin "str.join") [joiner, .ref l]
          ret text) (fun fin s' => match fin with | .done f => R (.ok f) s' | .again c' => c'.quiet = true ∧ codeAny (model prog w) A c' R s') (fun e s' => R (.error e) s') s₁ := by
      rintro s₁ items₁ nn₁ ws₁ hl₁ hws₁ hfl hw₁ hw₂ ⟨h₁, tk₁, rfl, hkeep⟩
      refine wpAny_bind (slice0 hx ?_)
      refine wpAny_bind (items_at hl₁ rfl ?_)
      show wpAny _ _ (if items₁.isEmpty = true then _ else _) _ _ _
      by_cases hem : items₁.isEmpty = true
      · rw [if_pos hem]
        refine wpAny_bind (wpAny_pure (wpAny_pure ?_))
        have hz : items₁ = #[] := by simpa using hem
        subst hz
        cases hws₁
        have e2 : (⟨x.cps.extract 0 0⟩ : Str) = ⟨(flat ws ++ x.cps.toList.drop p).toArray⟩ := by
          rw [← hfl]; simp [flat]
        show R (.ok (.ret (.str ⟨x.cps.extract 0 0⟩ _))) _
        rw [e2]
        exact hR h₁ _ _ hkeep
      · rw [if_neg hem]
        refine wpAny_bind ?_
        refine join_list (ys := ws₁) ⟨_, hl₁, rfl, nn₁, rfl⟩ hws₁ ?_ (fun t' k => wpAny_pure ?_)
        · rw [sum_flat]
          have : (⟨x.cps.extract 0 0⟩ : Str).length = 0 := by show (x.cps.extract 0 0).size = 0; simp
          rw [this]; omega
        · show R (.ok (.ret (.str (Txt.join ⟨x.cps.extract 0 0⟩ ws₁) t'))) _
          have e2 : Txt.join ⟨x.cps.extract 0 0⟩ ws₁ = ⟨(flat ws ++ x.cps.toList.drop p).toArray⟩ := by
            unfold Txt.join
            rw [StrLaws.glued_eq_join, join_flat _ _ (by simp), hfl]
          rw [e2]
          exact hR h₁ _ _ hkeep
    show wpAny _ _ (if p < x.cps.size then _ else _) _ _ s
    by_cases hlt : p < x.cps.size
    · rw [if_pos hlt]
      refine wpAny_bind (slice0 hx ?_)
      have hsz : items.size ≤ sizeLine := by
        have := hws.length
        rw [Array.length_toList] at this
        rw [sizeLine_eq]; omega
      refine wpAny_bind (push_seq (s := { s with toks := s.toks + 1 }) hl hsz fun h' hl' hs' => ?_)
      have hfl : flat (ws ++ [⟨x.cps.extract p x.cps.size⟩]) = flat ws ++ x.cps.toList.drop p := by
        rw [flat_snoc, extract_list, List.take_of_length_le (by rw [List.length_drop, hlen]; exact Nat.le_refl _)]
      refine fin _ _ _ (ws ++ [⟨x.cps.extract p x.cps.size⟩]) hl' ?_ hfl ?_ ?_ ⟨h', _, rfl, fun b o hb e => hs'.extBut b o hb e⟩
      · rw [Array.toList_push]; exact hws.append' (.cons _ _ .nil)
      · rw [List.length_append, List.length_singleton]; omega
      · rw [hfl, List.length_append, List.length_drop, hlen]; omega
    · rw [if_neg hlt]
      have hd : x.cps.toList.drop p = [] := List.drop_eq_nil_of_le (by rw [hlen]; omega)
      exact fin s items nn ws hl hws (by rw [hd, List.append_nil]) (by omega) (by omega) ⟨s.heap, s.toks, rfl, fun _ _ _ e => e⟩
  | step hn hpa hae hel hS ih =>
    rename_i p b e r
    intro s items nn ws n ho hc hl hws hw1 hw2 hR
    have hal : a ≠ l := by rintro rfl; rw [ho] at hl; simp at hl
    have hcl : c ≠ l := by rintro rfl; rw [hc] at hl; simp at hl
    rw [hlen] at hel
    refine codeAny_builtin rp_loop ?_
    rw [Around.under_plainId rp_plain]
    unfold Builtin.«re.Pattern.sub.loop»
    refine wpAny_bind (whole ho hc hcode ?_)
    show wpAny _ _ (reLiteralCannotBeTurned (.str rp tr) >>= _) _ _ s
    have hlit : reLiteralCannotBeTurned (.str rp tr) = pure () := rfl
    rw [hlit]
    refine wpAny_bind (wpAny_pure ?_)
    show wpAny _ _ (reNextFound (tgt a x t code) p false >>= _) _ _ s
    obtain ⟨m', k, hh, hk, hres⟩ := hF p (by omega)
    rcases hres with ⟨b', e', h1, hm, hb, he⟩ | ⟨h1, _⟩
    rotate_left
    · rw [hn] at h1; cases h1
    rw [hn] at h1; cases h1
    refine wpAny_bind (toEnd hh hk (fun _ => ?_) (fun h => by rw [hm] at h; cases h) (.inl hm))
    have hsz : items.size ≤ sizeLine := by
      have := hws.length
      rw [Array.length_toList] at this
      rw [sizeLine_eq]; omega
    have rest : ∀ (s₁ : Shared) (items₁ : Array Value) (nn₁ : Nat) (ws₁ : List Str), s₁.heap.get? l = some { cls := .type "list", data := .seq items₁ nn₁ } → StrsAre items₁.toList ws₁ → flat ws₁ = flat ws ++ (x.cps.toList.drop p).take (b - p) → ws₁.length ≤ ws.length + 1 →
        (∃ h₁ tk₁, s₁ = { s with heap := h₁, toks := tk₁ } ∧ (∀ b o, b ≠ l → s.heap.get? b = some o → h₁.get? b = some o)) →
        wpAny (model prog w) A.in1 (do
          updateSeq l (·.push (.str rp tr))
          again (.builtin "re.Pattern.sub.loop" ⟨[.ref a, .str x t, .str rp tr, rawInt 0, rawInt 0, rawInt (n + 1), rawInt (m'.handed : Nat), rawInt (m'.handed : Nat), .bool (m'.handed == b), .ref l, .bool false], []⟩))
          (fun fin s' => match fin with | .done f => R (.ok f) s' | .again c' => c'.quiet = true ∧ codeAny (model prog w) A c' R s') (fun e s' => R (.error e) s') s₁ := by
      rintro s₁ items₁ nn₁ ws₁ hl₁ hws₁ hfl hwl ⟨h₁, tk₁, rfl, hkeep⟩
      have hsz₁ : items₁.size ≤ sizeLine := by
        have := hws₁.length
        rw [Array.length_toList] at this
        rw [sizeLine_eq]; omega
      refine wpAny_bind (push_seq hl₁ hsz₁ fun h' hl' hs' => ?_)
      have hne : (m'.handed == b) = false := by rw [he]; exact beq_false_of_ne (by omega)
      rw [hne, he]
      refine wpAny_pure ⟨plainId_quiet rp_plain _, ?_⟩
      have hkeep' : ∀ b o, b ≠ l → s.heap.get? b = some o → h'.get? b = some o := fun b o hbl eo => hs'.extBut b o hbl (hkeep b o hbl eo)
      have hfl' : flat (ws₁ ++ [rp]) = flat ws ++ (x.cps.toList.drop p).take (b - p) ++ rp.cps.toList := by rw [flat_snoc, hfl]
      refine ih { s with heap := h', toks := tk₁ } (items₁.push (.str rp tr)) (nn₁ + 1) (ws₁ ++ [rp]) (n + 1) (hkeep' _ _ hal ho) (hkeep' _ _ hcl hc) hl' (by rw [Array.toList_push]; exact hws₁.append' (.cons _ _ .nil)) ?_ ?_ (fun h'' tk tt hk'' => ?_)
      · rw [List.length_append, List.length_singleton]; omega
      · have q1 : ((x.cps.toList.drop p).take (b - p)).length ≤ b - p := List.length_take_le _ _
        have q2 : rp.cps.toList.length = rp.cps.size := Array.length_toList
        rw [hfl', List.length_append, List.length_append]; omega
      · have := hR h'' tk tt (fun b o hbl eo => hk'' b o hbl (hkeep' b o hbl eo))
        rw [hfl', List.append_assoc, List.append_assoc]
        rw [List.append_assoc] at this
        exact this
    show wpAny _ _ (if p < m'.start then _ else _) _ _ s
    rw [hb]
    by_cases hlt : p < b
    · rw [if_pos hlt]
      refine wpAny_bind (slice0 hx ?_)
      refine wpAny_bind (push_seq (s := { s with toks := s.toks + 1 }) hl hsz fun h' hl' hs' => ?_)
      refine rest _ _ _ (ws ++ [⟨x.cps.extract p b⟩]) hl' (by rw [Array.toList_push]; exact hws.append' (.cons _ _ .nil)) (by rw [flat_snoc, extract_list]) (by rw [List.length_append, List.length_singleton]; exact Nat.le_refl _) ⟨h', _, rfl, fun b o hb e => hs'.extBut b o hb e⟩
    · rw [if_neg hlt]
      exact rest s items nn ws hl hws (by rw [show b - p = 0 by omega, List.take_zero, List.append_nil]) (by omega) ⟨s.heap, s.toks, rfl, fun _ _ _ e => e⟩
end
end Mine
end PartSre4

section PartSre5
open PySem PyProof.Rows PySem.Builtin PySem.Builtin.Re
set_option Elab.async false
set_option maxRecDepth 100000
namespace Mine
open PySem.Sre
def firstHit (hit : Nat → Bool) : (d p : Nat) → Option Nat
  | 0, _ => none
  | d + 1, p => if hit p = true then some p else firstHit hit d (p + 1)
def find (hit : Nat → Bool) (e : Nat → Nat) (lim p : Nat) : Option (Nat × Nat) := (firstHit hit (lim - p) p).map fun a => (a, e a)
section
variable {hit : Nat → Bool} {e : Nat → Nat} {lim : Nat}
theorem find_hit {p : Nat} (hp : p < lim) (h : hit p = true) : find hit e lim p = some (p, e p) := by
  unfold find; rw [show lim - p = (lim - (p + 1)) + 1 by omega, firstHit, if_pos h]; rfl
theorem find_miss {p : Nat} (hp : p < lim) (h : hit p = false) : find hit e lim p = find hit e lim (p + 1) := by
  unfold find; rw [show lim - p = (lim - (p + 1)) + 1 by omega, firstHit, if_neg (by rw [h]; exact Bool.false_ne_true)]
theorem find_end {p : Nat} (hp : lim ≤ p) : find hit e lim p = none := by
  unfold find; rw [show lim - p = 0 by omega]; rfl
theorem find_some {a : Nat} (ha : a < lim) (h : hit a = true) : ∀ d p, p + d = a → (∀ j, p ≤ j → j < a → hit j = false) → find hit e lim p = some (a, e a) := by
  intro d
  induction d with
  | zero => intro p hp _; rw [show p = a by omega]; exact find_hit ha h
  | succ d ih => intro p hp hn; rw [find_miss (by omega) (hn p (Nat.le_refl _) (by omega))]; exact ih (p + 1) (by omega) fun j h1 h2 => hn j (by omega) h2
theorem find_none : ∀ d p, p + d = lim → (∀ j, p ≤ j → j < lim → hit j = false) → find hit e lim p = none := by
  intro d
  induction d with
  | zero => intro p hp _; exact find_end (by omega)
  | succ d ih => intro p hp hn; rw [find_miss (by omega) (hn p (Nat.le_refl _) (by omega))]; exact ih (p + 1) (by omega) fun j h1 h2 => hn j (by omega) h2
theorem find_of_res {p : Nat} {m' : M} (hp : p ≤ lim) (h : Res hit e lim p m') :
    (∃ b q, find hit e lim p = some (b, q) ∧ m'.outcome = some .matched ∧ m'.start = b ∧ m'.handed = q) ∨ (find hit e lim p = none ∧ m'.outcome = some .failed) := by
  rcases h with ⟨a, h1, h2, h3, h4, h5, h6, h7⟩ | ⟨h1, h2⟩
  · exact .inl ⟨a, e a, find_some h2 h3 (a - p) p (by omega) h4, h5, h6, h7⟩
  · exact .inr ⟨find_none (lim - p) p (by omega) h1, h2⟩
end
theorem finds1 (x : Str) (hx : x.cps.size ≤ 100000) : Finds code1 x (find (hit1 x.cps) (fun a => a + 1) x.cps.size) := fun p hp => by
  obtain ⟨m', h1, h2⟩ := search1 x.cps p hp
  exact ⟨m', _, h1, by omega, find_of_res hp h2⟩
theorem finds2 (x : Str) (_hx : x.cps.size ≤ 100000) : Finds code2 x (find (hit2 x.cps) (end2 x.cps) x.cps.size) := fun p hp => by
  obtain ⟨m', h1, h2⟩ := search2 x.cps p hp
  exact ⟨m', _, h1, by omega, find_of_res hp h2⟩
theorem Subst.back {fd : Nat → Option (Nat × Nat)} {text repl : List Nat} {p : Nat} {out : List Nat} {c : Nat} (hf : fd p = fd (p + 1)) (hc : text[p]? = some c) (h : Subst fd text repl (p + 1) out) : Subst fd text repl p (c :: out) := by
  have hp : p < text.length := (List.getElem?_eq_some_iff.mp hc).1
  have hd : text.drop p = c :: text.drop (p + 1) := by
    rw [List.drop_eq_getElem_cons hp]; congr 1; exact (List.getElem?_eq_some_iff.mp hc).2
  cases h with
  | done h1 h2 => rw [← hd]; exact .done (hf.trans h1) (by omega)
  | step h1 h2 h3 h4 h5 =>
    rename_i a e r
    have := Subst.step (p := p) (repl := repl) (text := text) (hf.trans h1) (by omega) h3 h4 h5
    rw [hd, show a - p = (a - (p + 1)) + 1 by omega, List.take_succ_cons] at this
    exact this
/-- newlines made \r\n; the flag: the sign ahead was a return -/
def nl : Bool → List Nat → List Nat
  | _, [] => []
  | b, c :: r => if c = 13 then 13 :: 10 :: nl true r else if c = 10 then (if b = true then nl false r else 13 :: 10 :: nl false r) else c :: nl false r
/-- a dot at a row's head doubled; the flag: here a row begins -/
def dq : Bool → List Nat → List Nat
  | _, [] => []
  | b, c :: r => if b = true ∧ c = 46 then 46 :: 46 :: dq false r else c :: dq (c == 10) r
theorem getD_list (x : Str) (p : Nat) (hp : p < x.cps.size) : x.cps.toList[p]? = some (x.cps.getD p 0) := by
  rw [Array.getElem?_toList, Array.getD_eq_getD_getElem?, Array.getElem?_eq_getElem hp]; rfl
theorem subst1 (x : Str) : ∀ d p, p + d = x.cps.size → Subst (find (hit1 x.cps) (fun a => a + 1) x.cps.size) x.cps.toList [46, 46] p (dq (at1 x.cps p) (x.cps.toList.drop p)) := by
  have hlen : x.cps.toList.length = x.cps.size := Array.length_toList
  intro d
  induction d with
  | zero =>
    intro p hp
    have : x.cps.toList.drop p = [] := List.drop_eq_nil_of_le (by omega)
    have h := Subst.done (repl := [46, 46]) (text := x.cps.toList) (find_end (hit := hit1 x.cps) (e := fun a => a + 1) (lim := x.cps.size) (p := p) (by omega)) (by omega)
    rw [this] at h ⊢
    exact h
  | succ d ih =>
    intro p hp
    have hc := getD_list x p (by omega)
    have hlt : p < x.cps.toList.length := by omega
    have hd : x.cps.toList.drop p = x.cps.getD p 0 :: x.cps.toList.drop (p + 1) := by
      rw [List.drop_eq_getElem_cons hlt]; congr 1; exact (List.getElem?_eq_some_iff.mp hc).2
    have hat : at1 x.cps (p + 1) = (x.cps.getD p 0 == 10) := by unfold at1; simp
    have ih' := ih (p + 1) (by omega)
    cases hh : hit1 x.cps p with
    | true =>
      have hh' := hh
      unfold hit1 at hh'
      rw [Bool.and_eq_true, beq_iff_eq] at hh'
      rw [hd, dq, if_pos ⟨hh'.1, hh'.2⟩]
      rw [hat, hh'.2] at ih'
      have := Subst.step (p := p) (repl := [46, 46]) (text := x.cps.toList) (find_hit (lim := x.cps.size) (e := fun a => a + 1) (by omega) hh) (Nat.le_refl _) (Nat.lt_succ_self _) (by omega) ih'
      rw [Nat.sub_self, List.take_zero] at this
      exact this
    | false =>
      have hn : ¬ (at1 x.cps p = true ∧ x.cps.getD p 0 = 46) := by
        unfold hit1 at hh
        rintro ⟨h1, h2⟩
        rw [h1, h2] at hh; cases hh
      rw [hd, dq, if_neg hn, ← hat]
      exact Subst.back (find_miss (by omega) hh) hc ih'
theorem subst2 (x : Str) : ∀ d p, p + d = x.cps.size → Subst (find (hit2 x.cps) (end2 x.cps) x.cps.size) x.cps.toList [13, 10] p (nl false (x.cps.toList.drop p)) := by
  have hlen : x.cps.toList.length = x.cps.size := Array.length_toList
  intro d
  induction d using Nat.strongRecOn with
  | ind d ih =>
  intro p hp
  cases d with
  | zero =>
    have : x.cps.toList.drop p = [] := List.drop_eq_nil_of_le (by omega)
    have h := Subst.done (repl := [13, 10]) (text := x.cps.toList) (find_end (hit := hit2 x.cps) (e := end2 x.cps) (lim := x.cps.size) (p := p) (by omega)) (by omega)
    rw [this] at h ⊢
    exact h
  | succ d =>
    have drop_at : ∀ q, q < x.cps.size → x.cps.toList.drop q = x.cps.getD q 0 :: x.cps.toList.drop (q + 1) := by
      intro q hq
      rw [List.drop_eq_getElem_cons (by omega)]; congr 1; exact (List.getElem?_eq_some_iff.mp (getD_list x q hq)).2
    have hc := getD_list x p (by omega)
    have hd := drop_at p (by omega)
    have go : ∀ r, hit2 x.cps p = true → p < end2 x.cps p → end2 x.cps p ≤ x.cps.size → Subst (find (hit2 x.cps) (end2 x.cps) x.cps.size) x.cps.toList [13, 10] (end2 x.cps p) r → Subst (find (hit2 x.cps) (end2 x.cps) x.cps.size) x.cps.toList [13, 10] p (13 :: 10 :: r) := by
      intro r hh h1 h2 h3
      have := Subst.step (p := p) (repl := [13, 10]) (text := x.cps.toList) (find_hit (lim := x.cps.size) (e := end2 x.cps) (by omega) hh) (Nat.le_refl _) h1 (by omega) h3
      rw [Nat.sub_self, List.take_zero] at this
      exact this
    rw [hd, nl]
    by_cases h13 : x.cps.getD p 0 = 13
    · rw [if_pos h13]
      have hh : hit2 x.cps p = true := by unfold hit2; rw [h13]; rfl
      by_cases h2 : p + 1 < x.cps.size ∧ x.cps.getD (p + 1) 0 = 10
      · have e2 : end2 x.cps p = p + 2 := by unfold end2; rw [if_pos ⟨h13, h2⟩]
        rw [drop_at (p + 1) h2.1, h2.2, nl, if_neg (by decide), if_pos rfl, if_pos rfl]
        refine go _ hh (by omega) (by omega) ?_
        rw [e2]; exact ih (d - 1) (by omega) (p + 2) (by omega)
      · have e2 : end2 x.cps p = p + 1 := by unfold end2; rw [if_neg (fun h => h2 h.2)]
        have e3 : nl true (x.cps.toList.drop (p + 1)) = nl false (x.cps.toList.drop (p + 1)) := by
          by_cases h3 : p + 1 < x.cps.size
          · rw [drop_at (p + 1) h3]
            have h4 : x.cps.getD (p + 1) 0 ≠ 10 := fun h => h2 ⟨h3, h⟩
            rw [nl, nl, if_neg h4, if_neg h4]
          · rw [List.drop_eq_nil_of_le (by omega)]; rfl
        rw [e3]
        refine go _ hh (by omega) (by omega) ?_
        rw [e2]; exact ih d (by omega) (p + 1) (by omega)
    · rw [if_neg h13]
      by_cases h10 : x.cps.getD p 0 = 10
      · have hh : hit2 x.cps p = true := by unfold hit2; rw [h10]; rfl
        have e2 : end2 x.cps p = p + 1 := by unfold end2; rw [if_neg (fun h => h13 h.1)]
        rw [if_pos h10, if_neg (by decide)]
        refine go _ hh (by omega) (by omega) ?_
        rw [e2]; exact ih d (by omega) (p + 1) (by omega)
      · have hh : hit2 x.cps p = false := by
          unfold hit2
          rw [beq_false_of_ne h10, beq_false_of_ne h13]; rfl
        rw [if_neg h10]
        exact Subst.back (find_miss (by omega) hh) hc (ih d (by omega) (p + 1) (by omega))
section
variable {prog : Program} {w : World} {A : Around} {E : Value → Shared → Prop} {s : Shared} {Q : Value → Shared → Prop}
theorem named_ok (r x : Value) : reNamed "re.Pattern.sub" "sub" ["repl", "string", "count"] 2 [r, x] [] = pure [some r, some x, none] := rfl
theorem call_sub {a c : Addr} {p0 p1 : Value} {x rp : Str} {t tr : Tok} {citems : Array Value} {code : Array Nat} {fd : Nat → Option (Nat × Nat)} {out : List Nat} (ho : s.heap.get? a = some (patObj p0 p1 c)) (hc : s.heap.get? c = some (tupObj citems))
    (hcode : (citems.map reRawOf).map (·.toNat) = code) (hx : x.cps.size ≤ 100000) (hrp : rp.cps.size ≤ 2) (hno : rp.cps.contains 92 = false) (hF : Finds code x fd) (hS : Subst fd x.cps.toList rp.cps.toList 0 out)
    (hQ : ∀ h' tk tt, (∀ b o, s.heap.get? b = some o → h'.get? b = some o) → Q (.str ⟨out.toArray⟩ tt) { s with heap := h', toks := tk }) :
    wpAny (model prog w) A (call (.builtin "re.Pattern.sub") [.ref a, .str rp tr, .str x t]) Q E s := by
  refine wpAny_call (codeAny_call_builtin rp_slot.plain rp_entry (rp_slot.check _ _ _ _ _ _ _ _ ⟨_, ho, rfl⟩ (rp_args _ _ _) ?_))
  unfold Builtin.«re.Pattern.sub» reSubstitute
  show wpAny _ _ (reNamed "re.Pattern.sub" "sub" ["repl", "string", "count"] 2 [.str rp tr, .str x t] [] >>= _) _ _ s
  rw [named_ok]
  refine wpAny_bind (wpAny_pure ?_)
  refine wpAny_bind (wpAny_pure ?_)
  refine wpAny_bind (wpAny_specialOf (T := "str") rfl str_nocall ?_)
  refine wpAny_bind (m := asStr? (.str rp tr)) (wpAny_pure ?_)
  refine wpAny_bind (m := pure !rp.cps.contains 92) ?_
  rw [hno]
  refine wpAny_pure ?_
  refine wpAny_bind (m := pure (Value.str rp tr, 0)) (wpAny_pure ?_)
  refine wpAny_bind (wpAny_holding (whole ho hc hcode ?_))
  show wpAny _ _ (newList [] >>= _) _ _ s
  refine wpAny_bind (wpAny_newObj_type ?_)
  refine wpAny_pure ⟨plainId_quiet rp_plain _, ?_⟩
  have hl : (s.heap.push { cls := .type "list", dict := none, data := .seq ([] : List Value).toArray }).get? s.heap.objs.size = some { cls := .type "list", data := .seq ([] : List Value).toArray 0 } := Heap.get?_push_size _ rfl
  refine sub_loop (l := s.heap.objs.size) hcode hx hrp hF hS { s with heap := s.heap.push { cls := .type "list", dict := none, data := .seq ([] : List Value).toArray } } _ _ [] 0 (Heap.get?_push_of_some _ ho) (Heap.get?_push_of_some _ hc) hl .nil (Nat.zero_le _) (Nat.zero_le _) (fun h' tk tt hk => ?_)
  rw [flat_nil, List.nil_append]
  exact hQ h' tk tt fun b o e => hk b o (Nat.ne_of_lt (Heap.lt_size e)) (Heap.get?_push_of_some _ e)
end
end Mine
end PartSre5

section PartSpecs1
open PySem PySem.W PyProof.Rows PySem.Spec PySem.Calls
set_option Elab.async false
set_option maxRecDepth 100000
namespace Mine
abbrev lo : List Str := [Str.ofString "_twin_re_1", Str.ofString "_twin_re_2"]
/-! cram and left, in plain lists -/
def kN (n : Int) : Nat := (n - 3).toNat
def cramL (l : List Nat) (n : Int) : List Nat := if (l.length : Int) ≤ n then l else l.take (kN n / 2) ++ [46, 46, 46] ++ l.drop (l.length - (kN n + 1) / 2)
def cramS (x : Str) (n : Int) : Str := ⟨(cramL x.cps.toList n).toArray⟩
def fstS (x : Str) (k : Nat) : Str := ⟨(x.cps.toList.take k).toArray⟩
def lstS (x : Str) (k : Nat) : Str := ⟨(x.cps.toList.drop (x.cps.toList.length - k)).toArray⟩
theorem str_ext {a b : Str} (h : a.cps.toList = b.cps.toList) : a = b := Str.ext' (Array.toList_inj.mp h)
theorem len_list (x : Str) : x.cps.toList.length = x.length := Array.length_toList
theorem slice_to {x : Str} {j : Int} (h : 0 ≤ j ∧ j ≤ x.cps.toList.length) : Txt.slice x none (some j) = fstS x j.toNat := by
  have := eq_of_beq (slice_closes_to h)
  rw [this]; unfold fstS; simp
theorem slice_from {x : Str} {i : Int} (h : 0 ≤ i ∧ i ≤ x.cps.toList.length) : Txt.slice x (some i) none = ⟨(x.cps.toList.drop i.toNat).toArray⟩ := by
  have hl := len_list x
  rw [slice_from_eq (b := (x.length : Int)) h.1 (by omega) rfl, List.take_of_length_le (by rw [List.length_drop, hl]; omega)]
theorem dots : (Str.ofString "...").cps.toList = [46, 46, 46] := by decide +kernel
theorem empty_str : Str.ofString "" = ⟨#[]⟩ := by decide +kernel
theorem cram_long {x : Str} {n : Int} (h : (x.length : Int) > n) : fstS x (kN n / 2) ++ Str.ofString "..." ++ lstS x ((kN n + 1) / 2) = cramS x n := by
  refine str_ext ?_
  have hl := len_list x
  rw [Str.cps_append, Str.cps_append, Array.toList_append, Array.toList_append, dots]
  show _ = cramL x.cps.toList n
  unfold cramL
  rw [if_neg (by omega)]; rfl
theorem cram_val {x : Str} {n : Int} (h : (x.length : Int) > n) :
    Txt.slice x none (some (if (n - 3).fdiv 2 > 0 then (n - 3).fdiv 2 else 0)) ++ Str.ofString "..." ++
        Txt.slice x (some (↑x.length - if (n - 3 - if (n - 3).fdiv 2 > 0 then (n - 3).fdiv 2 else 0) > 0 then n - 3 - if (n - 3).fdiv 2 > 0 then (n - 3).fdiv 2 else 0 else 0)) none = cramS x n := by
  have hl := len_list x
  have hf : (n - 3).fdiv 2 = (n - 3) / 2 := Int.fdiv_eq_ediv_of_nonneg _ (by decide)
  rw [hf]
  have e1 : (if (n - 3) / 2 > 0 then (n - 3) / 2 else 0) = ((kN n / 2 : Nat) : Int) := by unfold kN; split <;> omega
  rw [e1]
  have e2 : ((x.length : Int) - if (n - 3 - ((kN n / 2 : Nat) : Int)) > 0 then n - 3 - ((kN n / 2 : Nat) : Int) else 0) = ((x.length - (kN n + 1) / 2 : Nat) : Int) := by unfold kN; split <;> omega
  rw [e2, slice_to (by unfold kN; omega), slice_from (by omega), ← cram_long h]
  unfold lstS
  rw [hl, Int.toNat_natCast, Int.toNat_natCast]
/-! the law's own left, turn by turn -/
def LeftP (x : Str) (k : Nat) (f b : Str) : Prop := (f.length ≤ 1000 ∧ b.length ≤ 1000) ∧ f = fstS x (k / 2) ∧ b = lstS x ((k + 1) / 2)
theorem fstS_len (x : Str) (k : Nat) : (fstS x k).length ≤ x.length := by
  show (x.cps.toList.take k).toArray.size ≤ _
  rw [List.size_toArray, List.length_take, len_list]; omega
theorem lstS_len (x : Str) (k : Nat) : (lstS x k).length ≤ x.length := by
  show (x.cps.toList.drop _).toArray.size ≤ _
  rw [List.size_toArray, List.length_drop, len_list]; omega
theorem left_start (x : Str) (hx : x.length ≤ 1000) : LeftP x ([] : List Int).length (Str.ofString "") (Str.ofString "") := by
  refine ⟨⟨by decide +kernel, by decide +kernel⟩, ?_, ?_⟩
  · rw [empty_str]; rfl
  · rw [empty_str]; refine str_ext ?_; show [] = x.cps.toList.drop (x.cps.toList.length - 0); simp
theorem item_str {x : Str} {i : Int} (h0 : 0 ≤ i) (h1 : i < x.length) : (Txt.item x i).cps.toList = (x.cps.toList.drop i.toNat).take 1 := by
  have hlt : i.toNat < x.cps.size := by show i.toNat < x.length; omega
  rw [item_meets (n := x.cps[i.toNat]) h0 (Array.getElem?_eq_getElem hlt)]
  have : i.toNat < x.cps.toList.length := by rw [Array.length_toList]; exact hlt
  rw [List.drop_eq_getElem_cons this]; simp
theorem left_even {x f b : Str} {n k : Int} {pre : List Int} (hx : x.length ≤ 1000) (hk : k = 0 + (pre.length : Int)) (hlt : pre.length < (n - 3 - 0).toNat) (hn : ¬ (x.length : Int) ≤ n) (hm : k.fmod 2 = 0) (hp : LeftP x pre.length f b) :
    LeftP x (pre ++ [k]).length f (Txt.item x (↑x.length - 1 - k.fdiv 2) ++ b) := by
  obtain ⟨_, rfl, rfl⟩ := hp
  have hl := len_list x
  rw [Int.fmod_eq_emod_of_nonneg _ (by decide)] at hm
  have hfd : k.fdiv 2 = k / 2 := Int.fdiv_eq_ediv_of_nonneg _ (by decide)
  rw [hfd]
  have e : Txt.item x (↑x.length - 1 - k / 2) ++ lstS x ((pre.length + 1) / 2) = lstS x (((pre ++ [k]).length + 1) / 2) := by
    refine str_ext ?_
    rw [Str.cps_append, Array.toList_append, item_str (by omega) (by omega)]
    show _ ++ x.cps.toList.drop _ = x.cps.toList.drop _
    rw [List.length_append, List.length_singleton, hl]
    have e1 : ((x.length : Int) - 1 - k / 2).toNat = x.length - (pre.length + 1 + 1) / 2 := by omega
    have e2 : x.length - (pre.length + 1) / 2 = (x.length - (pre.length + 1 + 1) / 2) + 1 := by omega
    rw [e1, e2, ← List.drop_drop]
    exact List.take_append_drop 1 _
  refine ⟨⟨Nat.le_trans (fstS_len _ _) hx, ?_⟩, ?_, e⟩
  · rw [e]; exact Nat.le_trans (lstS_len _ _) hx
  · rw [List.length_append, List.length_singleton, show (pre.length + 1) / 2 = pre.length / 2 by omega]
theorem left_odd {x f b : Str} {n k : Int} {pre : List Int} (hx : x.length ≤ 1000) (hk : k = 0 + (pre.length : Int)) (hlt : pre.length < (n - 3 - 0).toNat) (hn : ¬ (x.length : Int) ≤ n) (hm : k.fmod 2 ≠ 0) (hp : LeftP x pre.length f b) :
    LeftP x (pre ++ [k]).length (f ++ Txt.item x (k.fdiv 2)) b := by
  obtain ⟨_, rfl, rfl⟩ := hp
  have hl := len_list x
  rw [Int.fmod_eq_emod_of_nonneg _ (by decide)] at hm
  have hfd : k.fdiv 2 = k / 2 := Int.fdiv_eq_ediv_of_nonneg _ (by decide)
  rw [hfd]
  have e : fstS x (pre.length / 2) ++ Txt.item x (k / 2) = fstS x ((pre ++ [k]).length / 2) := by
    refine str_ext ?_
    rw [Str.cps_append, Array.toList_append, item_str (by omega) (by omega)]
    show x.cps.toList.take _ ++ _ = x.cps.toList.take _
    rw [List.length_append, List.length_singleton]
    have e1 : (k / 2).toNat = pre.length / 2 := by omega
    rw [e1, show (pre.length + 1) / 2 = pre.length / 2 + 1 by omega, List.take_add]
  refine ⟨⟨?_, Nat.le_trans (lstS_len _ _) hx⟩, e, ?_⟩
  · rw [e]; exact Nat.le_trans (fstS_len _ _) hx
  · rw [List.length_append, List.length_singleton, show (pre.length + 1 + 1) / 2 = (pre.length + 1) / 2 by omega]
theorem left_end {x f b : Str} {n : Int} (hn : ¬ (x.length : Int) ≤ n) (hp : LeftP x (rangeKs 0 (n - 3 - 0).toNat).length f b) : f ++ Str.ofString "..." ++ b = cramS x n := by
  rw [rangeKs_length, show (n - 3 - 0).toNat = kN n by unfold kN; omega] at hp
  obtain ⟨_, rfl, rfl⟩ := hp
  exact cram_long (by omega)
section
variable {prog : Program} {w : World} {A : Around} {E : Value → Shared → Prop} {s : Shared} {env : Env} {h₀ : Heap} {x : Str} {body : List Stmt} {Q : Flow → Shared → Prop}
theorem iter_empty {r : Addr} {b : Int} {t u v : Tok} {m₀ : Str → Option Value} {led : List (Addr × Obj)} (hh : A.handled = none) (hr : IsRange s.heap r 0 b 1 t u v) (hb : b ≤ 0) (F : Fr h₀ env.locals s.heap m₀) (N : News h₀ env.locals s.heap led)
    (done : ∀ h tk, Fr h₀ env.locals h m₀ → News h₀ env.locals h led → Q .next { s with heap := h, toks := tk }) :
    wpAny (model prog w) A (pyIter (.ref r)) (fun it s₂ => LoopAtV prog w A h₀ env x body Q E it s₂) E s := by
  have hn : Builtin.Range.rangeSize 0 b 1 = ((0 : Nat) : Int) := by rw [rangeSize_nat]; omega
  cases hs : Builtin.Range.small 0 b 1 with
  | true =>
    refine wpAny_pyIter_range hr hs ?_
    refine loop_invN (n := 0) (fun _ m nx => m = m₀ ∧ nx = led) (Walks.range hh s.heap.objs.size 0 1 0) ?_ ?_ ?_ ?_ (by show IsRangeIter _ _ _ _ _; rw [hn]; simpa using Heap.get?_push_size _ rfl) (F.push _) (fun p hp => ⟨Heap.get?_push_of_some _ (N p hp).1, (N p hp).2⟩) ⟨rfl, rfl⟩ ?_ ?_
    · intro hm; exact absurd F.ns.lt ((List.mem_singleton.mp hm) ▸ Nat.lt_irrefl _)
    · intro b' hb'; rw [List.mem_singleton.mp hb']; exact next_is_new F
    · intro p hp hI; exact absurd (Heap.lt_size (N p hp).1) ((List.mem_singleton.mp hI) ▸ Nat.lt_irrefl _)
    · intro p hp hI; exact absurd (Heap.lt_size (N p hp).1) ((List.mem_singleton.mp hI) ▸ Nat.lt_irrefl _)
    · intro i v m₁ nx h tk own hi; exact absurd hi (Nat.not_lt_zero _)
    · rintro m₁ nx h tk ⟨rfl, rfl⟩ F₁ N₁; exact done h tk F₁ N₁
  | false =>
    refine wpAny_pyIter_longrange hr hs ?_
    refine loop_invN (n := 0) (fun _ m nx => m = m₀ ∧ nx = led) (Walks.longrange hh s.heap.objs.size 0 1 0) ?_ ?_ ?_ ?_ (by show IsLongIter _ _ _ _ _; rw [hn]; simpa using Heap.get?_push_size _ rfl) (F.push _) (fun p hp => ⟨Heap.get?_push_of_some _ (N p hp).1, (N p hp).2⟩) ⟨rfl, rfl⟩ ?_ ?_
    · intro hm; exact absurd F.ns.lt ((List.mem_singleton.mp hm) ▸ Nat.lt_irrefl _)
    · intro b' hb'; rw [List.mem_singleton.mp hb']; exact next_is_new F
    · intro p hp hI; exact absurd (Heap.lt_size (N p hp).1) ((List.mem_singleton.mp hI) ▸ Nat.lt_irrefl _)
    · intro p hp hI; exact absurd (Heap.lt_size (N p hp).1) ((List.mem_singleton.mp hI) ▸ Nat.lt_irrefl _)
    · intro i v m₁ nx h tk own hi; exact absurd hi (Nat.not_lt_zero _)
    · rintro m₁ nx h tk ⟨rfl, rfl⟩ F₁ N₁; exact done h tk F₁ N₁
end
end Mine
end PartSpecs1

section PartSpecs2a
open PySem PySem.W PyProof.Rows PySem.Spec PySem.Calls
set_option Elab.async false
set_option maxRecDepth 100000
namespace Mine
def nlS (x : Str) : Str := ⟨(nl false x.cps.toList).toArray⟩
def dqS (x : Str) : Str := ⟨(dq true x.cps.toList).toArray⟩
theorem nl_len (l : List Nat) : ∀ b, (nl b l).length ≤ 2 * l.length := by
  induction l with
  | nil => intro b; exact Nat.le_refl _
  | cons c r ih =>
    intro b
    have h1 := ih true
    have h2 := ih false
    unfold nl
    split
    · simp only [List.length_cons]; omega
    · split
      · split
        · simp only [List.length_cons]; omega
        · simp only [List.length_cons]; omega
      · simp only [List.length_cons]; omega
theorem nlS_size (x : Str) : (nlS x).cps.size ≤ 2 * x.cps.size := by
  have := nl_len x.cps.toList false
  rw [Array.length_toList] at this
  show (nl false x.cps.toList).toArray.size ≤ _
  rw [List.size_toArray]; exact this
section
variable {prog : Program} {w : World} {A : Around} {E : Value → Shared → Prop} {s : Shared} {K : Frag} {h₀ : Heap} {L : Addr} {m : Str → Option Value} {news : List (Addr × Obj)}
theorem sub_method {a : Addr} {o : Obj} {pl : Sem Bool} {Q : Value × List Value → Shared → Prop} (F : Fr h₀ L s.heap m) (X : K.In h₀) (hk : K.lookup a = some o) (hc : o.cls = .type "re.Pattern") (hd : o.dict = none)
    (h : Q (.builtin "re.Pattern.sub", [.ref a]) s) : wpAny (model prog w) A (getMethod (.ref a) (Str.ofString "sub") pl) Q E s :=
  rp_getMethod (F.keep _ _ (X _ _ hk)) hc hd h
theorem sub_nl {p0 p1 : Value} {citems : Array Value} {x : Str} {t tr : Tok} {Q : Value → Shared → Prop} (F : Fr h₀ L s.heap m) (X : K.In h₀) (N : News h₀ L s.heap news) (hk : K.lookup 48 = some (patObj p0 p1 47)) (hk2 : K.lookup 47 = some (tupObj citems))
    (hcode : (citems.map Builtin.Re.reRawOf).map (·.toNat) = code2) (hx : x.cps.size ≤ 40000) (h : ∀ h' tk tt, Fr h₀ L h' m → News h₀ L h' news → Q (.str (nlS x) tt) { s with heap := h', toks := tk }) :
    wpAny (model prog w) A (call (.builtin "re.Pattern.sub") [.ref 48, .str (Str.ofString "\x0d\n") tr, .str x t]) Q E s := by
  refine call_sub (F.keep _ _ (X _ _ hk)) (F.keep _ _ (X _ _ hk2)) hcode (by omega) (by decide +kernel) (by decide +kernel) (finds2 x (by omega)) (out := nl false x.cps.toList) ?_ fun h' tk tt up => h h' tk tt (F.keeps up) (N.grown up)
  have := subst2 x x.cps.size 0 (by omega)
  exact this
theorem sub_dq {p0 p1 : Value} {citems : Array Value} {x : Str} {t tr : Tok} {Q : Value → Shared → Prop} (F : Fr h₀ L s.heap m) (X : K.In h₀) (N : News h₀ L s.heap news) (hk : K.lookup 43 = some (patObj p0 p1 42)) (hk2 : K.lookup 42 = some (tupObj citems))
    (hcode : (citems.map Builtin.Re.reRawOf).map (·.toNat) = code1) (hx : x.cps.size ≤ 100000) (h : ∀ h' tk tt, Fr h₀ L h' m → News h₀ L h' news → Q (.str (dqS x) tt) { s with heap := h', toks := tk }) :
    wpAny (model prog w) A (call (.builtin "re.Pattern.sub") [.ref 43, .str (Str.ofString "..") tr, .str x t]) Q E s := by
  refine call_sub (F.keep _ _ (X _ _ hk)) (F.keep _ _ (X _ _ hk2)) hcode (by omega) (by decide +kernel) (by decide +kernel) (finds1 x (by omega)) (out := dq true x.cps.toList) ?_ fun h' tk tt up => h h' tk tt (F.keeps up) (N.grown up)
  have := subst1 x x.cps.size 0 (by omega)
  exact this
end
local macro_rules | `(tactic| walk_at "getMethod ref") => `(tactic| (k_here; (with_reducible show wpAny _ _ (getMethod (Value.ref _) (Str.ofString "sub") _) _ _ _); k_dflt (refine' sub_method ?k1 ?k2 ?k3 ?k4 ?k5 ?_; (case k1 => k_asm); (case k2 => k_asm); (case k3 => k_is); (case k4 => exact rfl); (case k5 => exact rfl); k_whole)))
local macro_rules | `(tactic| walk_at "call builtin:re.Pattern.sub") => `(tactic| (k_here; k_dflt (first
  | (refine' sub_nl ?k1 ?k2 ?k3 ?k4 ?k5 ?k6 ?k7 ?_; (case k1 => k_asm); (case k2 => k_asm); (case k3 => k_asm); (case k4 => k_is); (case k5 => k_is); (case k6 => decide +kernel); (case k7 => (first | assumption | (simp only [PySem.Str.length] at *; omega))); k_whole; intro h9 tk9 tt9 F9 N9; (try dsimp only); (try k_fold))
  | (refine' sub_dq ?k1 ?k2 ?k3 ?k4 ?k5 ?k6 ?k7 ?_; (case k1 => k_asm); (case k2 => k_asm); (case k3 => k_asm); (case k4 => k_is); (case k5 => k_is); (case k6 => decide +kernel); (case k7 => (refine Nat.le_trans (nlS_size _) ?_; simp only [PySem.Str.length] at *; omega)); k_whole; intro h9 tk9 tt9 F9 N9; (try dsimp only); (try k_fold)))))
abbrev PG : Program := PySem.Challenge.rw_pg0012_01.row.prog
set_option maxHeartbeats 8000000 in
theorem quote_spec (w : World) (mean : ExcName → Option Value) (mg mb : Str → Option Value) (news : List (Addr × Obj)) (x : Str) (tx : Tok) :
    CbClaim PySem.Challenge.rw_pg0012_01.row.prog w (hd.heap_39 w.params) hd.view_39 (looseW hd.view_39 lo) mean mg mb 55 news [] (x.length ≤ 1000) [Value.str x tx] (fun t => .str (dqS (nlS x)) t) := by
  k_fill
  dsimp only [CbClaim, CbLists, CbRet]; intros; rename_i hret
  refine wpAny_call ?_
  (first | k_dflt cell_enter | ktn_no "k_call_by: the def is not entered")
  k_steps
  all_goals (refine cb_retS hret rfl ?_ ?_ <;> k_asm)
theorem cram_short {x : Str} {n : Int} (h : ¬ (x.length : Int) > n) : x = cramS x n := by
  refine str_ext ?_
  have hl := len_list x
  show _ = cramL x.cps.toList n
  unfold cramL
  rw [if_pos (by omega)]
set_option maxHeartbeats 8000000 in
theorem cram_spec (w : World) (mean : ExcName → Option Value) (mg mb : Str → Option Value) (news : List (Addr × Obj)) (x : Str) (tx : Tok) (n : Int) (tn : Tok) :
    CbClaim PySem.Challenge.rw_pg0012_01.row.prog w (hd.heap_39 w.params) hd.view_39 (looseW hd.view_39 lo) mean mg mb 38 news [] (x.length ≤ 4000) [Value.str x tx, Value.int n tn] (fun t => .str (cramS x n) t) := by
  k_fill
  dsimp only [CbClaim, CbLists, CbRet]; intros; rename_i hret
  refine wpAny_call ?_
  (first | k_dflt cell_enter | ktn_no "k_call_by: the def is not entered")
  k_steps
  · refine cb_retS hret (cram_val ?_) ?_ ?_ <;> k_asm
  · refine cb_retS hret (cram_short ?_) ?_ ?_ <;> k_asm
end Mine
end PartSpecs2a

section PartSpecs2b
open PySem PySem.W PyProof.Rows PySem.Spec PySem.Calls
set_option Elab.async false
set_option maxRecDepth 100000
namespace Mine
theorem leftQ {x f b : Str} {k : Nat} (h : LeftP x k f b) : LeftP x k f b ∧ f.length ≤ 1000 ∧ b.length ≤ 1000 := ⟨h, h.1⟩
local macro_rules | `(tactic| walk_at "pyIter ref") => `(tactic| k_extra "pyIter ref")
set_option maxHeartbeats 8000000 in
theorem left_spec1 (w : World) (mean : ExcName → Option Value) (mg mb : Str → Option Value) (news : List (Addr × Obj)) (x : Str) (tx : Tok) (n : Int) (tn : Tok) :
    CbClaim PySem.Challenge.rw_pg0012_01.row.prog w (hd.heap_39 w.params) hd.view_39 (looseW hd.view_39 lo) mean mg mb 67 news [] (x.length ≤ 1000 ∧ -1152921504606846976 ≤ n) [Value.str x tx, Value.int n tn] (fun t => .str (cramS x n) t) := by
  k_fill
  dsimp only [CbClaim, CbLists, CbRet]; intros; rename_i hret
  rename _ ∧ _ => hpre
  obtain ⟨hx1000, hn0⟩ := hpre
  k_with "pyIter ref" => (k_state (fun pre (f b : Str) => LeftP x pre.length f b ∧ f.length ≤ 1000 ∧ b.length ≤ 1000) "front" "behind")
  k_with "state" => (first
    | exact leftQ (left_start x hx1000)
    | exact leftQ (left_even hx1000 (by assumption) (by assumption) (by assumption) (by assumption) (by assumption))
    | exact leftQ (left_odd hx1000 (by assumption) (by assumption) (by assumption) (by assumption) (by assumption)))
  refine wpAny_call ?_
  (first | k_dflt cell_enter | ktn_no "k_call_by: the def is not entered")
  k_steps
  · refine cb_retS hret (cram_short ?_) ?_ ?_
    · omega
    · k_asm
    · k_asm
  · refine cb_retS hret (left_end ?_ ?_) ?_ ?_
    · assumption
    · assumption
    · k_asm
    · refine cb_drop (by k_asm) ?_
      intro p hp
      exact List.mem_cons_of_mem _ hp
theorem left_neg {x : Str} {n : Int} (hn : ¬ (x.length : Int) ≤ n) (h0 : n ≤ 0) : Str.ofString "" ++ Str.ofString "..." ++ Str.ofString "" = cramS x n := by
  rw [← cram_long (x := x) (n := n) (by omega), show kN n = 0 by unfold kN; omega, empty_str]
  refine str_ext ?_
  simp [Str.cps_append, fstS, lstS]
set_option maxHeartbeats 8000000 in
theorem left_spec2 (w : World) (mean : ExcName → Option Value) (mg mb : Str → Option Value) (news : List (Addr × Obj)) (x : Str) (tx : Tok) (n : Int) (tn : Tok) :
    CbClaim PySem.Challenge.rw_pg0012_01.row.prog w (hd.heap_39 w.params) hd.view_39 (looseW hd.view_39 lo) mean mg mb 67 news [] (x.length ≤ 1000 ∧ n ≤ 0) [Value.str x tx, Value.int n tn] (fun t => .str (cramS x n) t) := by
  k_fill
  dsimp only [CbClaim, CbLists, CbRet]; intros; rename_i hret
  rename _ ∧ _ => hpre
  obtain ⟨hx1000, hn0⟩ := hpre
  k_with "pyIter ref" => ((rename Fr _ _ _ _ => lF'); (rename News _ _ _ _ => lN'); (rename IsRange _ _ _ _ _ _ _ _ => rgX); (with_unfolding_all refine iter_empty (by rfl) rgX (by omega) lF' lN' ?_); intro h9 tk9 F9 N9; (try clear lF' lN'); (try dsimp only); (try k_fold))
  refine wpAny_call ?_
  (first | k_dflt cell_enter | ktn_no "k_call_by: the def is not entered")
  k_steps
  · refine cb_retS hret (cram_short ?_) ?_ ?_
    · omega
    · k_asm
    · k_asm
  · refine cb_retS hret (left_neg ?_ hn0) ?_ ?_
    · assumption
    · k_asm
    · refine cb_drop (by k_asm) ?_
      intro p hp
      exact List.mem_cons_of_mem _ hp
end Mine
end PartSpecs2b

section PartComp1
open PySem PySem.W PyProof.Rows PySem.Spec PySem.Calls
set_option Elab.async false
set_option maxRecDepth 100000
namespace Mine
inductive Vals {α : Type} (res : α → Tok → Value) : List Value → List α → Prop
  | nil : Vals res [] []
  | cons (k : α) (t : Tok) {vs : List Value} {ks : List α} : Vals res vs ks → Vals res (res k t :: vs) (k :: ks)
theorem Vals.snoc {α : Type} {res : α → Tok → Value} {k : α} {t : Tok} : ∀ {vs : List Value} {ks : List α}, Vals res vs ks → Vals res (vs ++ [res k t]) (ks ++ [k])
  | _, _, .nil => .cons k t .nil
  | _, _, .cons z u r => .cons z u r.snoc
theorem Vals.strs {α : Type} {g : α → Str} : ∀ {vs : List Value} {ks : List α}, Vals (fun k t => .str (g k) t) vs ks → StrsAre vs (ks.map g)
  | _, _, .nil => .nil
  | _, _, .cons z u r => .cons (g z) u r.strs
theorem Vals.ints {α : Type} {g : α → Int} : ∀ {vs : List Value} {ks : List α}, Vals (fun k t => .int (g k) t) vs ks → IntsAre vs (ks.map g)
  | _, _, .nil => .nil
  | _, _, .cons z u r => .cons (g z) u r.ints
def El (news : List (Addr × Obj)) (res : Tok → Value) (y : Value) (news' : List (Addr × Obj)) : Prop := news' = news ∧ ∃ t, y = res t
theorem El.mk' {news news' : List (Addr × Obj)} {res : Tok → Value} {y : Value} {t : Tok} (hn : news' = news) (hy : y = res t) : El news res y news' := ⟨hn, t, hy⟩
section
variable {α : Type} {prog : Program} {w : World} {A : Around} {h₀ : Heap} {L : Addr} {m : Str → Option Value} {env : Env} {elt : Expr} {x : Str} {scope : Scope} {cl : List (Str × Addr)} {s : Shared} {S : List (Addr × Obj) → Prop} {P : Nat → Value → Prop} {Fin : List Value → List (Addr × Obj) → Prop} {news : List (Addr × Obj)}
theorem rest_gen {n : Nat} {ks : List α} (enc res : α → Tok → Value) (hks : ks.length = n) (hP : ∀ i v, i < n → P i v → ∃ k t, ks[i]? = some k ∧ v = enc k t)
    (turn : ∀ k t I oI C oC D m₂ ys h tk (E' : Value → Shared → Prop), k ∈ ks → LCg.NsObj oC m₂ → m₂ x = some (enc k t) → Fr h₀ L h m → News h₀ L h ((I, oI) :: (C, oC) :: (D, LCg.lst ys) :: news) → LCg.Off3 I C D news → ((@Ne Nat I C) ∧ (@Ne Nat I D) ∧ (@Ne Nat C D)) →
      wpAny (model prog w) A (eval elt (compEnvC scope cl C env)) (LCg.CompEnd h₀ L m { s with heap := h, toks := tk } I oI C oC D (LCg.lst ys) S (fun y news' => El news (res k) y news')) E' { s with heap := h, toks := tk })
    (fin : ∀ ys, Vals res ys ks → Fin ys news) : LCg.CompRest prog w A h₀ L m env elt x scope cl s S P Fin n 0 [] news := by
  have key : ∀ (j i : Nat) (ys : List Value), i + j = n → Vals res ys (ks.take i) → LCg.CompRest prog w A h₀ L m env elt x scope cl s S P Fin j i ys news := by
    intro j
    induction j with
    | zero =>
      intro i ys hi hy
      have e : i = ks.length := by omega
      subst e
      rw [List.take_length] at hy
      exact LCg.CompRest.zero (fin ys hy)
    | succ j ih =>
      intro i ys hi hy
      refine LCg.CompRest.succ ?_
      intro v I oI C oC D m₂ h tk E' hv hC hx F N off ne
      obtain ⟨k, t, hk, hv'⟩ := hP i v (by omega) hv
      rw [hv'] at hx
      refine wpAny_mono (turn k t I oI C oC D m₂ ys h tk E' (List.mem_of_getElem? hk) hC hx F N off ne) (fun y s₂ hq => ?_) fun _ _ e => e
      obtain ⟨h', tk', nw, e, F', N', off', hS, hn, t', hy'⟩ := hq
      rw [hn] at N' off' hS
      refine ⟨h', tk', news, e, F', N', off', hS, ?_⟩
      rw [hy']
      refine ih (i + 1) _ (by omega) ?_
      rw [List.take_add_one, hk]
      exact hy.snoc
  exact key n 0 [] (by omega) (by simp only [List.take_zero]; exact .nil)
theorem rest_strs {vs : List Value} {ws : List Str} (g : Str → Str) (hi : StrsAre vs ws)
    (turn : ∀ k t I oI C oC D m₂ ys h tk (E' : Value → Shared → Prop), k ∈ ws → LCg.NsObj oC m₂ → m₂ x = some (.str k t) → Fr h₀ L h m → News h₀ L h ((I, oI) :: (C, oC) :: (D, LCg.lst ys) :: news) → LCg.Off3 I C D news → ((@Ne Nat I C) ∧ (@Ne Nat I D) ∧ (@Ne Nat C D)) →
      wpAny (model prog w) A (eval elt (compEnvC scope cl C env)) (LCg.CompEnd h₀ L m { s with heap := h, toks := tk } I oI C oC D (LCg.lst ys) S (fun y news' => El news (fun t => .str (g k) t) y news')) E' { s with heap := h, toks := tk })
    (fin : ∀ ys, StrsAre ys (ws.map g) → Fin ys news) : LCg.CompRest prog w A h₀ L m env elt x scope cl s S (fun i v => vs.toArray[i]? = some v) Fin vs.toArray.size 0 [] news :=
  rest_gen (fun k t => .str k t) (fun k t => .str (g k) t) (by rw [List.size_toArray]; exact hi.length.symm) (fun i v _ hv => by
    obtain ⟨y, t, e, hy⟩ := hi.item i v (by simpa using hv)
    exact ⟨y, t, hy, e⟩) turn (fun ys hy => fin ys hy.strs)
theorem rest_ints {vs : List Value} {ns : List Int} (res : Int → Tok → Value) (hi : IntsAre vs ns)
    (turn : ∀ k t I oI C oC D m₂ ys h tk (E' : Value → Shared → Prop), k ∈ ns → LCg.NsObj oC m₂ → m₂ x = some (.int k t) → Fr h₀ L h m → News h₀ L h ((I, oI) :: (C, oC) :: (D, LCg.lst ys) :: news) → LCg.Off3 I C D news → ((@Ne Nat I C) ∧ (@Ne Nat I D) ∧ (@Ne Nat C D)) →
      wpAny (model prog w) A (eval elt (compEnvC scope cl C env)) (LCg.CompEnd h₀ L m { s with heap := h, toks := tk } I oI C oC D (LCg.lst ys) S (fun y news' => El news (res k) y news')) E' { s with heap := h, toks := tk })
    (fin : ∀ ys, Vals res ys ns → Fin ys news) : LCg.CompRest prog w A h₀ L m env elt x scope cl s S (fun i v => vs.toArray[i]? = some v) Fin vs.toArray.size 0 [] news :=
  rest_gen (fun k t => .int k t) res (by rw [List.size_toArray]; exact hi.length.symm) (fun i v _ hv => by
    obtain ⟨k, t, e, hk⟩ := IntsAre.at hi i v (by simpa using hv)
    exact ⟨k, t, hk, e⟩) turn fin
end
end Mine
end PartComp1

section PartSent
open PySem PySem.W PyProof.Rows PySem.Spec PySem.Calls
set_option Elab.async false
set_option maxRecDepth 100000
namespace Mine
def dotted (n : Int) (y : Str) : Str := if (Txt.slice y none (some 1) == Str.ofString ".") = true then Txt.mul (Str.ofString ".") n ++ y else y
theorem el_dot1 {news : List (Addr × Obj)} {n : Int} {k : Str} {t : Tok} (h : (Txt.slice k none (some 1) == Str.ofString ".") = true) : El news (fun t => Value.str (dotted n k) t) (Value.str (Txt.mul (Str.ofString ".") n ++ k) t) news := ⟨rfl, t, by unfold dotted; rw [if_pos h]⟩
theorem el_dot2 {news : List (Addr × Obj)} {n : Int} {k : Str} {t : Tok} (h : (Txt.slice k none (some 1) == Str.ofString ".") = false) : El news (fun t => Value.str (dotted n k) t) (Value.str k t) news := ⟨rfl, t, by unfold dotted; rw [if_neg (by rw [h]; exact Bool.false_ne_true)]⟩
theorem mul_len {n : Int} (h0 : 0 ≤ n) (h1 : n ≤ 10) : (Txt.mul (Str.ofString ".") n).length ≤ 10 := by
  have : n = 0 ∨ n = 1 ∨ n = 2 ∨ n = 3 ∨ n = 4 ∨ n = 5 ∨ n = 6 ∨ n = 7 ∨ n = 8 ∨ n = 9 ∨ n = 10 := by omega
  rcases this with rfl | rfl | rfl | rfl | rfl | rfl | rfl | rfl | rfl | rfl | rfl <;> decide +kernel
theorem dotted_sum {n : Int} (h0 : 0 ≤ n) (h1 : n ≤ 10) : ∀ ws : List Str, ((ws.map (dotted n)).map (·.length)).sum ≤ (ws.map (fun x => x.length)).sum + 10 * ws.length
  | [] => Nat.le_refl _
  | y :: r => by
    have ih := dotted_sum h0 h1 r
    have hm := mul_len h0 h1
    have hd : (dotted n y).length ≤ y.length + 10 := by
      unfold dotted
      split
      · rw [Str.length_append]; omega
      · omega
    simp only [List.map_cons, List.sum_cons, List.length_cons] at ih ⊢
    omega
def sentS (ws : List Str) (n : Int) : Str := Txt.join (Str.ofString "\x0d\n") (ws.map (dotted n))
set_option maxHeartbeats 8000000 in
theorem sent_spec (w : World) (mean : ExcName → Option Value) (mg mb : Str → Option Value) (news : List (Addr × Obj)) (l : Addr) (c : Nat) (vs : List Value) (ws : List Str) (hws : StrsAre vs ws) (n : Int) (tn : Tok) :
    CbClaim PySem.Challenge.rw_pg0012_01.row.prog w (hd.heap_39 w.params) hd.view_39 (looseW hd.view_39 lo) mean mg mb 60 ((l, listOf vs.toArray c) :: news) [] ((0 ≤ n ∧ n ≤ 10) ∧ vs.length = ws.length ∧ ws.length ≤ 1000 ∧ (∀ y ∈ ws, y.length ≤ 1000) ∧ (ws.map (fun x => x.length)).sum ≤ 1000) [Value.ref l, Value.int n tn] (fun t => .str (sentS ws n) t) := by
  k_fill
  dsimp only [CbClaim, CbLists, CbRet]; intros; rename_i hret
  rename _ ∧ _ => hpre
  obtain ⟨⟨hn0, hn1⟩, hvl, hl1, hl3, hl2⟩ := hpre
  refine wpAny_call ?_
  k_dflt (refine' code_defC ?k1 ?k2 ?k3 ?k4 ?k5 ?kA ?kF ?kK ?k6 ?k7 ?k8 ?k9 ?kB ?kD ?_ ?c2 ?c3 ?c4; (case kA => exact rfl); (case kF => exact rfl); (case kK => assumption); (case k1 => k_asm); (case k2 => k_asm); (case k3 => k_asm); (case k4 => k_asm); (case k5 => k_asm); (case k6 => k_is); (case k7 => k_is); (case k8 => ktr_room); (case k9 => exact BindsTo.of_eq rfl); (case kB => exact rfl); (case kD => decide +kernel); (case c2 => exact rfl); (case c3 => exact rfl); (case c4 => exact rfl); k_whole; intro g' L' h' tk' cells' FG' F' N' Y' B' X' T' l1; (try k_lt l1); k_cells Y'; (try simp only [List.cons_append, List.nil_append] at N'); (try dsimp only); (try k_lift B'); (try k_fold))
  k_steps
  refine LCg.CompSrc.ledger (by rfl) (by k_asm) (by k_asm) (by k_dflt k_mem) (by rw [List.size_toArray, sizeLine_eq]; omega) ?_
  intro g9
  refine rest_strs (dotted n) hws ?_ ?_
  · intro k9 t9 I9 oI9 C9 oC9 D9 m9 ys9 h9 tk9 E9 hk9 hC9 hx9 F9 N9 off9 ne9
    have hk10 := hl3 _ hk9
    (try k_fold)
    k_steps
    · refine LCg.CompEnd.intro (by k_asm) (by k_asm) _ (fun p hp => hp) off9 (Or.inr ⟨_, by k_dflt k_mem, rfl, _, rfl⟩) (el_dot1 ?_)
      assumption
    · refine LCg.CompEnd.intro (by k_asm) (by k_asm) _ (fun p hp => hp) off9 (Or.inr ⟨_, by k_dflt k_mem, rfl, _, rfl⟩) (el_dot2 ?_)
      assumption
  · intro ys9 hv9
    k_steps
    refine join_list (ys := ws.map (dotted n)) (News.isList (by k_asm) (by k_dflt k_mem)) hv9 ?_ ?_
    · have := dotted_sum hn0 hn1 ws
      have h2 : (Str.ofString "\x0d\n").length = 2 := by decide +kernel
      rw [h2, List.length_map]; omega
    · intro t9 k9
      (try k_fold)
      k_steps
      refine cb_retS hret rfl (by k_asm) (cb_drop (by k_asm) ?_)
      exact fun p hp => List.mem_cons_of_mem _ (List.mem_cons_of_mem _ hp)
end Mine
end PartSent

section PartRows1
open PySem PySem.W PyProof.Rows PySem.Spec PySem.Calls
set_option Elab.async false
set_option maxRecDepth 100000
namespace Mine
def crlf (c : Nat) : List Nat := if c = 13 ∨ c = 10 then [13, 10] else [c]
theorem nl_app (v : List Nat) : ∀ (u : List Nat) (b : Bool), nl b (u ++ 13 :: 10 :: v) = nl b u ++ 13 :: 10 :: nl false v := by
  intro u
  induction u with
  | nil => intro b; simp [nl]
  | cons c r ih =>
    intro b
    rw [List.cons_append, nl, nl]
    repeat' split
    all_goals simp [ih]
/-- a text in which no return stands ahead of a feed -/
def NoPair : List Nat → Prop
  | [] => True
  | c :: r => (c = 13 → r.head? ≠ some 10) ∧ NoPair r
theorem nl_crlf : ∀ (l : List Nat) (b : Bool), NoPair l → (b = true → l.head? ≠ some 10) → nl b l = l.flatMap crlf := by
  intro l
  induction l with
  | nil => intro b _ _; rfl
  | cons c r ih =>
    intro b hn hb
    rw [nl, List.flatMap_cons]
    by_cases h13 : c = 13
    · rw [if_pos h13, ih true hn.2 (fun _ => hn.1 h13)]
      unfold crlf; rw [if_pos (.inl h13)]; rfl
    · rw [if_neg h13]
      by_cases h10 : c = 10
      · rw [if_pos h10, if_neg (fun h => hb h (by rw [h10]; rfl)), ih false hn.2 (by simp)]
        unfold crlf; rw [if_pos (.inr h10)]; rfl
      · rw [if_neg h10, ih false hn.2 (by simp)]
        unfold crlf; rw [if_neg (by omega)]; rfl
theorem noPair_of : ∀ (l : List Nat), (∀ k, ¬ (l[k]? = some 13 ∧ l[k + 1]? = some 10)) → NoPair l
  | [], _ => trivial
  | c :: r, h => by
    refine ⟨fun hc hr => h 0 ⟨by rw [hc]; rfl, ?_⟩, noPair_of r fun k hk => h (k + 1) ?_⟩
    · cases r with
      | nil => cases hr
      | cons d r => simpa using hr
    · simpa using hk
abbrev yRN : Str := Str.ofString "\x0d\n"
theorem yRN_list : yRN.cps.toList = [13, 10] := by decide +kernel
theorem yRN_len : yRN.length = 2 := by decide +kernel
theorem yR_eq : Str.ofString "\x0d" = ⟨#[13]⟩ := by decide +kernel
theorem yN_eq : Str.ofString "\n" = ⟨#[10]⟩ := by decide +kernel
open PySem.StrLaws PySem.Builtin.Str
theorem at_of {x : Str} {k : Nat} (h1 : x.cps.toList[k]? = some 13) (h2 : x.cps.toList[k + 1]? = some 10) : At x yRN x.length k := by
  have hlt : k + 1 < x.cps.toList.length := (List.getElem?_eq_some_iff.mp h2).1
  refine ⟨?_, ?_⟩
  · rw [yRN_len]; rw [len_list] at hlt; omega
  · rw [subAt_eq, yRN_list, yRN_len, beq_iff_eq]
    rw [List.drop_eq_getElem_cons (by omega), List.drop_eq_getElem_cons hlt]
    have e1 := (List.getElem?_eq_some_iff.mp h1).2
    have e2 := (List.getElem?_eq_some_iff.mp h2).2
    rw [e1, e2]; rfl
theorem sub_noPair {x : Str} {a b : Nat} (hn : ∀ k, a ≤ k → k + 1 < b → ¬ At x yRN x.length k) : NoPair (strSub x a b).cps.toList := by
  rw [strSub_toList]
  refine noPair_of _ fun k hk => ?_
  have hlt : k + 1 < b - a := by
    have h1 := (List.getElem?_eq_some_iff.mp hk.2).1
    simp at h1; omega
  rw [List.getElem?_take_of_lt (by omega), List.getElem?_take_of_lt hlt, List.getElem?_drop, List.getElem?_drop] at hk
  exact hn (a + k) (by omega) (by omega) (at_of hk.1 (by rw [Nat.add_assoc]; exact hk.2))
theorem parts_crlf (x : Str) : ∀ (cuts : List Nat) (a f : Nat), ChainG x yRN x.length a cuts f → (∀ k, f ≤ k → ¬ At x yRN x.length k) →
    nl false (x.cps.toList.drop a) = (Str.join ⟨#[10]⟩ (partsFrom x 2 a cuts)).cps.toList.flatMap crlf
  | [], a, f, h, hn => by
    have e : f = a := h
    subst e
    show _ = (strSub x f x.length).cps.toList.flatMap crlf
    rw [← nl_crlf _ false (sub_noPair fun k h1 _ => hn k h1) (by simp), strSub_toList, List.take_of_length_le (by rw [List.length_drop, len_list]; exact Nat.le_refl _)]
  | c :: r, a, f, h, hn => by
    obtain ⟨hac, hA, hno, hG⟩ := h
    rw [yRN_len] at hG
    have ih := parts_crlf x r (c + 2) f hG hn
    have hb := hA.1
    rw [yRN_len] at hb
    have hy : (x.cps.toList.drop c).take 2 = [13, 10] := by
      have := hA.2
      rw [subAt_eq, yRN_len, yRN_list, beq_iff_eq] at this
      exact this
    have e1 : x.cps.toList.drop a = (strSub x a c).cps.toList ++ 13 :: 10 :: x.cps.toList.drop (c + 2) := by
      rw [strSub_toList]
      have e2 : x.cps.toList.drop c = 13 :: 10 :: x.cps.toList.drop (c + 2) := by
        rw [← List.drop_drop, ← List.take_append_drop 2 (x.cps.toList.drop c), hy]; simp
      rw [← e2]
      have e3 : x.cps.toList.drop c = (x.cps.toList.drop a).drop (c - a) := by rw [List.drop_drop]; congr 1; omega
      rw [e3]; exact (List.take_append_drop (c - a) _).symm
    obtain ⟨p, q, e⟩ := partsFrom_ne x 2 (c + 2) r
    show _ = (Str.join ⟨#[10]⟩ (strSub x a c :: partsFrom x 2 (c + 2) r)).cps.toList.flatMap crlf
    rw [e1, nl_app, ih, e]
    show _ = (strSub x a c ++ ⟨#[10]⟩ ++ Str.join ⟨#[10]⟩ (p :: q)).cps.toList.flatMap crlf
    rw [nl_crlf _ false (sub_noPair fun k h1 h2 => hno k h1 (by omega)) (by simp)]
    simp [Str.cps_append, crlf]
theorem x1_crlf (x : Str) : nl false x.cps.toList = (Txt.replace x yRN ⟨#[10]⟩).cps.toList.flatMap crlf := by
  obtain ⟨f, hG, hn⟩ := occ_tight x yRN (by rw [yRN_len]; omega)
  have key := parts_crlf x _ 0 f hG hn
  rw [List.drop_zero] at key
  rw [key]
  unfold Txt.replace
  have h0 : (yRN.length == 0) = false := by rw [yRN_len]; rfl
  rw [h0, Bool.false_and, Bool.or_false]
  cases he : (occurrences x yRN 0 x.length (x.length + 1)).isEmpty
  · rw [if_neg Bool.false_ne_true, glued_eq_join, partsBetween_eq, yRN_len]
  · rw [if_pos rfl, List.isEmpty_iff.mp he]
    show (strSub x 0 x.length).cps.toList.flatMap crlf = _
    rw [sub_whole]
theorem join_map {ps : List Str} (h : ∀ p ∈ ps, 13 ∉ p.cps.toList) : (Str.join ⟨#[10]⟩ ps).cps.toList = (Str.join ⟨#[13]⟩ ps).cps.toList.map (fun c => if c = 13 then 10 else c) := by
  have one : ∀ p : Str, 13 ∉ p.cps.toList → p.cps.toList = p.cps.toList.map (fun c => if c = 13 then 10 else c) := fun p hp => by
    conv => lhs; rw [← List.map_id p.cps.toList]
    exact List.map_congr_left fun c hc => by
      have : c ≠ 13 := fun e => hp (e ▸ hc)
      simp [this]
  induction ps with
  | nil => rfl
  | cons p r ih =>
    cases r with
    | nil => exact one p (h p (.head _))
    | cons q r =>
      show (p ++ ⟨#[10]⟩ ++ Str.join ⟨#[10]⟩ (q :: r)).cps.toList = (p ++ ⟨#[13]⟩ ++ Str.join ⟨#[13]⟩ (q :: r)).cps.toList.map _
      have ih' := ih fun p hp => h p (.tail _ hp)
      simp only [Str.cps_append, Array.toList_append, List.map_append, ih', ← one p (h p (.head _))]
      rfl
theorem join_crlf {ps : List Str} (h : ∀ p ∈ ps, 13 ∉ p.cps.toList ∧ 10 ∉ p.cps.toList) : (Str.join yRN ps).cps.toList = (Str.join ⟨#[10]⟩ ps).cps.toList.flatMap crlf := by
  have one : ∀ l : List Nat, 13 ∉ l ∧ 10 ∉ l → l = l.flatMap crlf := fun l => by
    induction l with
    | nil => intro _; rfl
    | cons c r ih =>
      intro hp
      have h1 : c ≠ 13 := fun e => hp.1 (e ▸ List.mem_cons_self)
      have h2 : c ≠ 10 := fun e => hp.2 (e ▸ List.mem_cons_self)
      rw [List.flatMap_cons, ← ih ⟨fun e => hp.1 (List.mem_cons_of_mem _ e), fun e => hp.2 (List.mem_cons_of_mem _ e)⟩]
      unfold crlf; rw [if_neg (by omega)]; rfl
  induction ps with
  | nil => rfl
  | cons p r ih =>
    cases r with
    | nil => exact one _ (h p (.head _))
    | cons q r =>
      show (p ++ yRN ++ Str.join yRN (q :: r)).cps.toList = (p ++ ⟨#[10]⟩ ++ Str.join ⟨#[10]⟩ (q :: r)).cps.toList.flatMap _
      have ih' := ih fun p hp => h p (.tail _ hp)
      simp only [Str.cps_append, Array.toList_append, List.flatMap_append, ih', ← one _ (h p (.head _)), yRN_list]
      rfl
theorem mem_join {c : Nat} {p : Str} {sep : Str} : ∀ {ps : List Str}, p ∈ ps → c ∈ p.cps.toList → c ∈ (Str.join sep ps).cps.toList
  | [q], hp, hc => by rw [List.mem_singleton.mp hp] at hc; exact hc
  | q :: r :: t, hp, hc => by
    show c ∈ (q ++ sep ++ Str.join sep (r :: t)).cps.toList
    simp only [Str.cps_append, Array.toList_append, List.mem_append]
    rcases List.mem_cons.mp hp with rfl | hp
    · exact .inl (.inl hc)
    · exact .inr (mem_join hp hc)
def rowsOf (x : Str) : List Str := Txt.split (Txt.replace (Txt.replace x yRN (Str.ofString "\n")) (Str.ofString "\x0d") (Str.ofString "\n")) (Str.ofString "\n")
theorem rows_facts (x : Str) : (∀ p ∈ rowsOf x, 13 ∉ p.cps.toList ∧ 10 ∉ p.cps.toList) ∧ (Str.join yRN (rowsOf x)).cps.toList = nl false x.cps.toList := by
  unfold rowsOf
  rw [yR_eq, yN_eq]
  generalize hx1 : Txt.replace x yRN ⟨#[10]⟩ = x1
  have h1 : nl false x.cps.toList = x1.cps.toList.flatMap crlf := hx1 ▸ x1_crlf x
  generalize hx2 : Txt.replace x1 ⟨#[13]⟩ ⟨#[10]⟩ = x2
  have h2 : x2.cps.toList = x1.cps.toList.map (fun c => if c = 13 then 10 else c) := by
    rw [← hx2, replace_one, join_map (split_free x1 13), join_split]
  have hf : ∀ p ∈ Txt.split x2 ⟨#[10]⟩, 13 ∉ p.cps.toList ∧ 10 ∉ p.cps.toList := fun p hp => by
    refine ⟨fun hc => ?_, split_free x2 10 p hp⟩
    have := mem_join (sep := ⟨#[10]⟩) hp hc
    rw [join_split, h2] at this
    obtain ⟨c, _, e⟩ := List.mem_map.mp this
    split at e <;> simp_all
  refine ⟨hf, ?_⟩
  rw [join_crlf hf, join_split, h1, h2, List.flatMap_map]
  congr 1
  funext c
  unfold crlf
  by_cases h : c = 13 <;> simp [h]
end Mine
end PartRows1

section PartPlain
open PySem PySem.W PyProof.Rows PySem.Spec PySem.Calls
set_option Elab.async false
set_option maxRecDepth 100000
namespace Mine
def crA : Bool → List Nat → Bool
  | b, [] => b
  | _, c :: r => crA (c == 13) r
def lsA : Bool → List Nat → Bool
  | b, [] => b
  | _, c :: r => lsA (c == 10) r
theorem nl_append (y : List Nat) : ∀ (x : List Nat) (b : Bool), nl b (x ++ y) = nl b x ++ nl (crA b x) y := by
  intro x
  induction x with
  | nil => intro b; rfl
  | cons c r ih =>
    intro b
    rw [List.cons_append, nl, nl]
    show _ = _ ++ nl (crA (c == 13) r) y
    by_cases h13 : c = 13
    · rw [if_pos h13, if_pos h13, ih, h13]; rfl
    · rw [if_neg h13, if_neg h13]
      have e : (c == 13) = false := beq_false_of_ne h13
      rw [e]
      by_cases h10 : c = 10
      · rw [if_pos h10, if_pos h10]
        by_cases hb : b = true
        · rw [if_pos hb, if_pos hb, ih]
        · rw [if_neg hb, if_neg hb, ih]; rfl
      · rw [if_neg h10, if_neg h10, ih]; rfl
theorem dq_append (y : List Nat) : ∀ (x : List Nat) (b : Bool), dq b (x ++ y) = dq b x ++ dq (lsA b x) y := by
  intro x
  induction x with
  | nil => intro b; rfl
  | cons c r ih =>
    intro b
    rw [List.cons_append, dq, dq]
    show _ = _ ++ dq (lsA (c == 10) r) y
    by_cases h : b = true ∧ c = 46
    · rw [if_pos h, if_pos h, ih, h.2]; rfl
    · rw [if_neg h, if_neg h, ih]; rfl
theorem dq_grow (l : List Nat) : ∀ b, l.length ≤ (dq b l).length := by
  induction l with
  | nil => intro b; exact Nat.le_refl _
  | cons c r ih =>
    intro b
    have h1 := ih false
    have h2 := ih (c == 10)
    rw [dq]
    split
    · simp only [List.length_cons]; omega
    · simp only [List.length_cons]; omega
theorem nl_grow (l : List Nat) : l.length ≤ (nl false l).length ∧ l.length ≤ (nl true l).length + 1 := by
  induction l with
  | nil => exact ⟨Nat.le_refl _, Nat.zero_le _⟩
  | cons c r ih =>
    obtain ⟨h1, h2⟩ := ih
    refine ⟨?_, ?_⟩
    · rw [nl]
      (repeat' split) <;> (simp only [List.length_cons]) <;> (first | omega | (exfalso; simp_all))
    · rw [nl]
      (repeat' split) <;> (simp only [List.length_cons]) <;> (first | omega | (exfalso; simp_all))
def q (l : List Nat) : List Nat := dq true (nl false l)
theorem q_grow (l : List Nat) : l.length ≤ (q l).length := Nat.le_trans (nl_grow l).1 (dq_grow _ _)
theorem crA_snoc (b : Bool) (c : Nat) : ∀ l : List Nat, crA b (l ++ [c]) = (c == 13)
  | [] => rfl
  | d :: r => crA_snoc (d == 13) c r
theorem crA_true_last : ∀ (l : List Nat) , crA false l = true → ∃ l', l = l' ++ [13] := by
  intro l
  rcases List.eq_nil_or_concat l with rfl | ⟨l', c, rfl⟩
  · intro h; cases h
  · intro h
    rw [List.concat_eq_append, crA_snoc] at h
    exact ⟨l', by rw [List.concat_eq_append, eq_of_beq h]⟩
/-- what stands behind is told alike, whatever stood ahead -/
theorem tail_same (s1 v : List Nat) : ∃ z x, v.length ≤ z.length ∧ q (s1 ++ v) = x ++ z ∧ ∃ y, dq false (nl false v) = y ++ z := by
  unfold q
  rw [nl_append, dq_append]
  cases v with
  | nil => exact ⟨[], dq true (nl false s1), Nat.zero_le _, by simp [nl, dq], [], by simp [nl, dq]⟩
  | cons c v' =>
    have g1 := (nl_grow v').1
    have g2 := dq_grow (nl false v')
    by_cases h10 : c = 10
    · subst h10
      cases hcr : crA false s1 with
      | true =>
        obtain ⟨s', rfl⟩ := crA_true_last s1 hcr
        have e1 : nl true (10 :: v') = nl false v' := by rw [nl, if_neg (by decide), if_pos rfl, if_pos rfl]
        have e2 : nl false (s' ++ [13]) = nl false s' ++ [13, 10] := by rw [nl_append]; cases crA false s' <;> rfl
        have e3 : nl false (10 :: v') = 13 :: 10 :: nl false v' := by rw [nl, if_neg (by decide), if_pos rfl, if_neg (by decide)]
        have e4 : ∀ b, dq b [13, 10] = [13, 10] := by intro b; cases b <;> rfl
        have e5 : ∀ b, lsA b (nl false s' ++ [13, 10]) = true := by
          intro b
          generalize nl false s' = l
          induction l generalizing b with
          | nil => rfl
          | cons d r ih => exact ih _
        refine ⟨13 :: 10 :: dq true (nl false v'), dq true (nl false s'), ?_, ?_, [], ?_⟩
        · have := g2 true; simp only [List.length_cons]; omega
        · rw [e1, e2, e5, dq_append, e4]; simp
        · rw [e3]; rfl
      | false =>
        have e3 : nl false (10 :: v') = 13 :: 10 :: nl false v' := by rw [nl, if_neg (by decide), if_pos rfl, if_neg (by decide)]
        have e6 : ∀ b, dq b (13 :: 10 :: nl false v') = 13 :: 10 :: dq true (nl false v') := by intro b; cases b <;> rfl
        refine ⟨13 :: 10 :: dq true (nl false v'), dq true (nl false s1), ?_, ?_, [], ?_⟩
        · have := g2 true; simp only [List.length_cons]; omega
        · rw [e3, e6]
        · rw [e3, e6]; rfl
    · have e1 : nl (crA false s1) (c :: v') = nl false (c :: v') := by
        rw [nl, nl]
        by_cases h13 : c = 13
        · rw [if_pos h13, if_pos h13]
        · rw [if_neg h13, if_neg h13, if_neg h10, if_neg h10]
      rw [e1]
      generalize lsA true (nl false s1) = ls
      have gv := (nl_grow (c :: v')).1
      cases hw : nl false (c :: v') with
      | nil => rw [hw] at gv; simp at gv
      | cons d w =>
        rw [hw] at gv
        by_cases hd : ls = true ∧ d = 46
        · refine ⟨46 :: dq false w, dq true (nl false s1) ++ [46], ?_, ?_, [], ?_⟩
          · have := dq_grow w false; simp only [List.length_cons] at gv ⊢; omega
          · rw [dq, if_pos hd]; simp
          · rw [dq, if_neg (by simp), hd.2]; rfl
        · refine ⟨d :: dq (d == 10) w, dq true (nl false s1), ?_, ?_, [], ?_⟩
          · have := dq_grow w (d == 10); simp only [List.length_cons] at gv ⊢; omega
          · rw [dq, if_neg hd]
          · rw [dq, if_neg (by simp)]; rfl
theorem take_of_prefix {a x y : List Nat} {p : Nat} (h : p ≤ a.length) : (a ++ x).take p = (a ++ y).take p := by
  rw [List.take_append_of_le_length h, List.take_append_of_le_length h]
theorem drop_of_suffix {a b z : List Nat} {r : Nat} (h : r ≤ z.length) : (a ++ z).drop ((a ++ z).length - r) = (b ++ z).drop ((b ++ z).length - r) := by
  have key : ∀ a : List Nat, (a ++ z).drop ((a ++ z).length - r) = z.drop (z.length - r) := fun a => by
    rw [List.length_append, show a.length + z.length - r = a.length + (z.length - r) by omega, ← List.drop_drop, List.drop_left]
  rw [key, key]
theorem cram_q (S : List Nat) (w1 w : Int) (hw : w ≤ w1) : cramL (q (cramL S w1)) w = cramL (q S) w := by
  by_cases hS : (S.length : Int) ≤ w1
  · have : cramL S w1 = S := by unfold cramL; rw [if_pos hS]
    rw [this]
  · have hk : kN w ≤ kN w1 := by unfold kN; omega
    have hk1 : (kN w1 : Int) < S.length ∨ kN w1 = 0 := by unfold kN; omega
    generalize hp : kN w1 / 2 = p
    generalize hr : (kN w1 + 1) / 2 = r
    have hT : cramL S w1 = S.take p ++ [46, 46, 46] ++ S.drop (S.length - r) := by unfold cramL; rw [if_neg hS, hp, hr]
    have hpS : p ≤ S.length := by omega
    have hrS : r ≤ S.length := by omega
    generalize hu : S.take p = u at hT
    generalize hv : S.drop (S.length - r) = v at hT
    have hul : u.length = p := by rw [← hu, List.length_take]; omega
    have hvl : v.length = r := by rw [← hv, List.length_drop]; omega
    -- the front
    obtain ⟨x1, hx1⟩ : ∃ x1, q (u ++ [46, 46, 46] ++ v) = q u ++ x1 := by unfold q; rw [List.append_assoc, nl_append, dq_append]; exact ⟨_, rfl⟩
    obtain ⟨x2, hx2⟩ : ∃ x2, q S = q u ++ x2 := by
      have e : S = u ++ S.drop p := by rw [← hu]; exact (List.take_append_drop p S).symm
      rw [e]; unfold q; rw [nl_append, dq_append]; exact ⟨_, rfl⟩
    have gu := q_grow u
    -- the end
    obtain ⟨z1, a1, hz1, hq1, y1, hy1⟩ := tail_same (u ++ [46, 46, 46]) v
    obtain ⟨z2, a2, hz2, hq2, y2, hy2⟩ := tail_same (S.take (S.length - r)) v
    have hS2 : S = S.take (S.length - r) ++ v := by rw [← hv]; exact (List.take_append_drop _ S).symm
    rw [← hS2] at hq2
    rw [hT]
    have front : ∀ k, k ≤ p → (q (u ++ [46, 46, 46] ++ v)).take k = (q S).take k := fun k hk => by
      rw [hx1, hx2]; exact take_of_prefix (by omega)
    have back : ∀ k, k ≤ r → (q (u ++ [46, 46, 46] ++ v)).drop ((q (u ++ [46, 46, 46] ++ v)).length - k) = (q S).drop ((q S).length - k) := fun k hk => by
      have e1 : (q (u ++ [46, 46, 46] ++ v)).drop ((q (u ++ [46, 46, 46] ++ v)).length - k) = (dq false (nl false v)).drop ((dq false (nl false v)).length - k) := by
        rw [hq1, hy1]; exact drop_of_suffix (by omega)
      have e2 : (q S).drop ((q S).length - k) = (dq false (nl false v)).drop ((dq false (nl false v)).length - k) := by
        rw [hq2, hy2]; exact drop_of_suffix (by omega)
      rw [e1, e2]
    have gS := q_grow S
    have gT := q_grow (u ++ [46, 46, 46] ++ v)
    have hTl : (u ++ [46, 46, 46] ++ v).length = p + 3 + r := by simp [hul, hvl]; omega
    have hSw : ¬ ((q S).length : Int) ≤ w := by omega
    have R : cramL (q S) w = (q S).take (kN w / 2) ++ [46, 46, 46] ++ (q S).drop ((q S).length - (kN w + 1) / 2) := by unfold cramL; rw [if_neg hSw]
    rw [R]
    by_cases hlen : ((q (u ++ [46, 46, 46] ++ v)).length : Int) ≤ w
    · -- nothing grew: w = w1 = the length
      have hL : cramL (q (u ++ [46, 46, 46] ++ v)) w = q (u ++ [46, 46, 46] ++ v) := by unfold cramL; rw [if_pos hlen]
      rw [hL]
      have hkk : kN w = kN w1 ∧ p + 3 + r = (q (u ++ [46, 46, 46] ++ v)).length := by unfold kN at *; omega
      rw [hkk.1, hp, hr, ← front p (Nat.le_refl _), ← back r (Nat.le_refl _)]
      -- the parts
      have hparts : q (u ++ [46, 46, 46] ++ v) = q u ++ dq (lsA true (nl false u)) [46, 46, 46] ++ dq false (nl false v) := by
        unfold q
        rw [nl_append, nl_append, dq_append, dq_append]
        have e1 : nl (crA false u) [46, 46, 46] = [46, 46, 46] := by cases crA false u <;> rfl
        have e2 : crA false (u ++ [46, 46, 46]) = false := by
          rw [show u ++ [46, 46, 46] = (u ++ [46, 46]) ++ [46] by simp, crA_snoc]; rfl
        have e3 : lsA true (nl false u ++ [46, 46, 46]) = false := by
          generalize nl false u = l
          generalize true = b
          induction l generalizing b with
          | nil => rfl
          | cons d r ih => exact ih _
        rw [e1, e2, e3]
      have g3 : 3 ≤ (dq (lsA true (nl false u)) [46, 46, 46]).length := dq_grow [46, 46, 46] _
      have g4 : v.length ≤ (dq false (nl false v)).length := Nat.le_trans (nl_grow v).1 (dq_grow _ _)
      have hl := congrArg List.length hparts
      rw [List.length_append, List.length_append] at hl
      have hd3 : (dq (lsA true (nl false u)) [46, 46, 46]).length = 3 := by omega
      have hd : dq (lsA true (nl false u)) [46, 46, 46] = [46, 46, 46] := by
        cases hls : lsA true (nl false u) with
        | true => rw [hls] at hd3; cases hd3
        | false => rfl
      rw [hd] at hparts
      have hqu : (q u).length = p := by omega
      have hqv : (dq false (nl false v)).length = r := by omega
      have e5 : (q (u ++ [46, 46, 46] ++ v)).take p = q u := by rw [hparts, List.append_assoc, ← hqu, List.take_left]
      have e6 : (q (u ++ [46, 46, 46] ++ v)).drop ((q (u ++ [46, 46, 46] ++ v)).length - r) = dq false (nl false v) := by
        have : (q (u ++ [46, 46, 46] ++ v)).length - r = (q u ++ [46, 46, 46]).length := by rw [← hkk.2, List.length_append, hqu]; simp
        rw [this, hparts, List.drop_left]
      rw [e5, e6]; exact hparts
    · have hL : cramL (q (u ++ [46, 46, 46] ++ v)) w = (q (u ++ [46, 46, 46] ++ v)).take (kN w / 2) ++ [46, 46, 46] ++ (q (u ++ [46, 46, 46] ++ v)).drop ((q (u ++ [46, 46, 46] ++ v)).length - (kN w + 1) / 2) := by
        unfold cramL; rw [if_neg hlen]
      rw [hL, front _ (by omega), back _ (by omega)]
/-! the rows, sent -/
theorem slice_dot (y : Str) : (Txt.slice y none (some 1) == Str.ofString ".") = (y.cps.toList.head? == some 46) := by
  have hd : (Str.ofString ".").cps.toList = [46] := by decide +kernel
  have key : (Txt.slice y none (some 1)).cps.toList = y.cps.toList.take 1 := by
    by_cases h : 1 ≤ y.cps.toList.length
    · rw [slice_to ⟨by omega, by omega⟩]; rfl
    · have h0 : y.cps.toList = [] := List.length_eq_zero_iff.mp (by omega)
      have hl := Txt.slice_le y none (some 1)
      rw [h0]
      have hy0 : y.length = 0 := by rw [← len_list, h0]; rfl
      have : (Txt.slice y none (some 1)).cps.toList.length = 0 := by rw [len_list]; omega
      rw [List.length_eq_zero_iff.mp this]; rfl
  have e : ∀ a b : Str, (a == b) = (a.cps.toList == b.cps.toList) := fun a b => by
    rw [Bool.eq_iff_iff, beq_iff_eq, beq_iff_eq]
    exact ⟨fun h => by rw [h], fun h => str_ext h⟩
  rw [e, key, hd]
  cases y.cps.toList with
  | nil => rfl
  | cons c r => simp
theorem fold_dots : ∀ (n : Nat) (acc : Array Nat), ((List.replicate n (#[46] : Array Nat)).foldl (· ++ ·) acc).toList = acc.toList ++ List.replicate n 46
  | 0, acc => by simp
  | n + 1, acc => by
    rw [List.replicate_succ, List.foldl_cons, fold_dots n]
    simp [List.replicate_succ]
theorem mul_dots (n : Nat) : (Txt.mul (Str.ofString ".") (n : Int)).cps.toList = List.replicate n 46 := by
  have e : Str.ofString "." = ⟨#[46]⟩ := by decide +kernel
  rw [e]
  unfold Txt.mul
  by_cases h0 : (n : Int) < 1
  · rw [if_pos h0, show n = 0 by omega]; rfl
  · rw [if_neg h0]
    by_cases h1 : ((n : Int) == 1 || (⟨#[46]⟩ : Str).length == 0) = true
    · rw [if_pos h1]
      have : n = 1 := by
        rw [Bool.or_eq_true] at h1
        rcases h1 with h | h
        · have := eq_of_beq h; omega
        · cases h
      rw [this]; rfl
    · rw [if_neg h1, Int.toNat_natCast]
      show ((List.replicate n (#[46] : Array Nat)).foldl (· ++ ·) #[]).toList = _
      rw [fold_dots]; rfl
def dotL (n : Nat) (l : List Nat) : List Nat := if l.head? = some 46 then List.replicate n 46 ++ l else l
theorem dotted_list (n : Nat) (y : Str) : (dotted (n : Int) y).cps.toList = dotL n y.cps.toList := by
  unfold dotted dotL
  rw [slice_dot]
  by_cases h : y.cps.toList.head? = some 46
  · rw [if_pos (by rw [h]; rfl), if_pos h, Str.cps_append, Array.toList_append, mul_dots]
  · rw [if_neg (by rw [beq_iff_eq]; exact h), if_neg h]
def joinL : List (List Nat) → List Nat
  | [] => []
  | [x] => x
  | x :: r => x ++ 13 :: 10 :: joinL r
theorem join_list_eq : ∀ ps : List Str, (Str.join yRN ps).cps.toList = joinL (ps.map fun p => p.cps.toList)
  | [] => rfl
  | [p] => rfl
  | p :: q :: r => by
    show (p ++ yRN ++ Str.join yRN (q :: r)).cps.toList = p.cps.toList ++ 13 :: 10 :: joinL ((q :: r).map fun p => p.cps.toList)
    rw [Str.cps_append, Str.cps_append, Array.toList_append, Array.toList_append, yRN_list, join_list_eq (q :: r)]
    simp
def Free (l : List Nat) : Prop := 13 ∉ l ∧ 10 ∉ l
theorem nl_free : ∀ (l : List Nat), Free l → ∀ b, nl b l = l := by
  intro l
  induction l with
  | nil => intro _ b; rfl
  | cons c r ih =>
    intro h b
    have h1 : c ≠ 13 := fun e => h.1 (e ▸ List.mem_cons_self)
    have h2 : c ≠ 10 := fun e => h.2 (e ▸ List.mem_cons_self)
    rw [nl, if_neg h1, if_neg h2, ih ⟨fun e => h.1 (List.mem_cons_of_mem _ e), fun e => h.2 (List.mem_cons_of_mem _ e)⟩]
theorem dq_free_false : ∀ (l : List Nat), Free l → dq false l = l := by
  intro l
  induction l with
  | nil => intro _; rfl
  | cons c r ih =>
    intro h
    have h2 : c ≠ 10 := fun e => h.2 (e ▸ List.mem_cons_self)
    rw [dq, if_neg (by simp), beq_false_of_ne h2, ih ⟨fun e => h.1 (List.mem_cons_of_mem _ e), fun e => h.2 (List.mem_cons_of_mem _ e)⟩]
theorem dq_free (l : List Nat) (h : Free l) : dq true l = dotL 1 l := by
  cases l with
  | nil => rfl
  | cons c r =>
    have h2 : c ≠ 10 := fun e => h.2 (e ▸ List.mem_cons_self)
    have hr : Free r := ⟨fun e => h.1 (List.mem_cons_of_mem _ e), fun e => h.2 (List.mem_cons_of_mem _ e)⟩
    unfold dotL
    by_cases h46 : c = 46
    · rw [dq, if_pos ⟨rfl, h46⟩, dq_free_false r hr, h46]; rfl
    · rw [dq, if_neg (by simp [h46]), beq_false_of_ne h2, dq_free_false r hr, if_neg (by simp [h46])]
theorem nl_joinL : ∀ ps : List (List Nat), (∀ p ∈ ps, Free p) → nl false (joinL ps) = joinL ps
  | [], _ => rfl
  | [p], h => nl_free p (h p (.head _)) false
  | p :: q :: r, h => by
    show nl false (p ++ 13 :: 10 :: joinL (q :: r)) = p ++ 13 :: 10 :: joinL (q :: r)
    rw [nl_app, nl_free p (h p (.head _)), nl_joinL (q :: r) fun p hp => h p (.tail _ hp)]
theorem dq_joinL : ∀ ps : List (List Nat), (∀ p ∈ ps, Free p) → dq true (joinL ps) = joinL (ps.map (dotL 1))
  | [], _ => rfl
  | [p], h => dq_free p (h p (.head _))
  | p :: q :: r, h => by
    show dq true (p ++ 13 :: 10 :: joinL (q :: r)) = dotL 1 p ++ 13 :: 10 :: joinL ((q :: r).map (dotL 1))
    rw [dq_append, dq_free p (h p (.head _)), ← dq_joinL (q :: r) fun p hp => h p (.tail _ hp)]
    cases lsA true p <;> rfl
theorem free_dot (n : Nat) (l : List Nat) (h : Free l) : Free (dotL n l) := by
  unfold dotL
  split
  · exact ⟨by simp [h.1], by simp [h.2]⟩
  · exact h
theorem dot_dot (n : Nat) (l : List Nat) : dotL 1 (dotL n l) = dotL (n + 1) l := by
  unfold dotL
  by_cases h : l.head? = some 46
  · have h2 : (List.replicate n 46 ++ l).head? = some 46 := by cases n with | zero => exact h | succ n => rfl
    rw [if_pos h, if_pos h, if_pos h2, ← List.append_assoc]
    congr 1
  · simp [h]
theorem dot_zero (l : List Nat) : dotL 0 l = l := by unfold dotL; split <;> rfl
def sentL (x : Str) (n : Nat) : List Nat := joinL ((rowsOf x).map fun p => dotL n p.cps.toList)
theorem sent_list (x : Str) (n : Nat) : (sentS (rowsOf x) (n : Int)).cps.toList = sentL x n := by
  unfold sentS sentL Txt.join
  rw [StrLaws.glued_eq_join]
  show (Str.join yRN _).cps.toList = _
  rw [join_list_eq, List.map_map]
  congr 1
  exact List.map_congr_left fun p _ => dotted_list n p
theorem rows_free (x : Str) (n : Nat) : ∀ p ∈ (rowsOf x).map (fun p => dotL n p.cps.toList), Free p := fun p hp => by
  obtain ⟨y, hy, rfl⟩ := List.mem_map.mp hp
  exact free_dot n _ ((rows_facts x).1 y hy)
theorem sent_zero (x : Str) : nl false x.cps.toList = sentL x 0 := by
  rw [← (rows_facts x).2, join_list_eq]
  unfold sentL
  congr 1
  exact List.map_congr_left fun p _ => (dot_zero _).symm
theorem q_sent (x : Str) (n : Nat) : q (sentL x n) = sentL x (n + 1) := by
  unfold q
  have h := rows_free x n
  unfold sentL at *
  rw [nl_joinL _ h, dq_joinL _ h, List.map_map]
  congr 1
  exact List.map_congr_left fun p _ => dot_dot n _
theorem q_first (x : Str) : q x.cps.toList = sentL x 1 := by
  rw [← q_sent]
  unfold q
  rw [sent_zero]
  unfold sentL
  rw [nl_joinL _ (rows_free x 0)]
/-- what a hand holds -/
def HandP (x : Str) (W : Nat → Int) : Nat → Str → Prop
  | 0, l => l = x
  | i + 1, l => l = cramS (sentS (rowsOf x) ((i + 1 : Nat) : Int)) (W i)
theorem hand_step {x l : Str} {W : Nat → Int} {i : Nat} (h : HandP x W i l) (hW : ∀ j, W (j + 1) ≤ W j) : cramS (dqS (nlS l)) (W i) = cramS (sentS (rowsOf x) ((i + 1 : Nat) : Int)) (W i) := by
  have e1 : (dqS (nlS l)).cps.toList = q l.cps.toList := rfl
  refine str_ext ?_
  show cramL (dqS (nlS l)).cps.toList (W i) = cramL (sentS (rowsOf x) ((i + 1 : Nat) : Int)).cps.toList (W i)
  rw [e1, sent_list]
  cases i with
  | zero => have hl : l = x := h
            rw [hl, q_first]
  | succ i =>
    have hl : l = cramS (sentS (rowsOf x) ((i + 1 : Nat) : Int)) (W i) := h
    have e2 : l.cps.toList = cramL (sentL x (i + 1)) (W i) := by rw [hl, ← sent_list]; rfl
    rw [e2, cram_q _ _ _ (hW i), q_sent]
end Mine
end PartPlain

section PartLoop1
open PySem PySem.W PyProof.Rows PySem.Spec PySem.Calls
set_option Elab.async false
set_option maxRecDepth 100000
namespace Mine
def least (W : List Int) (i : Nat) : Int := (W.take (i + 1)).foldl min (W.headD 0)
theorem fold_min : ∀ (l : List Int) (a : Int), l.foldl min a ≤ a ∧ (∀ x ∈ l, l.foldl min a ≤ x) ∧ (l.foldl min a = a ∨ l.foldl min a ∈ l)
  | [], a => ⟨Int.le_refl _, (fun _ h => absurd h List.not_mem_nil), .inl rfl⟩
  | y :: r, a => by
    obtain ⟨h1, h2, h3⟩ := fold_min r (min a y)
    rw [List.foldl_cons]
    refine ⟨by omega, fun x hx => ?_, ?_⟩
    · rcases List.mem_cons.mp hx with rfl | hx
      · omega
      · exact h2 x hx
    · rcases h3 with h3 | h3
      · by_cases h : a ≤ y
        · left; rw [h3]; omega
        · right; rw [h3, show min a y = y by omega]; exact List.mem_cons_self
      · exact .inr (List.mem_cons_of_mem _ h3)
theorem least_mono (W : List Int) (j : Nat) : least W (j + 1) ≤ least W j := by
  unfold least
  rw [List.take_add_one (i := j + 1), List.foldl_append]
  exact (fold_min _ _).1
theorem least_is {W : List Int} {i : Nat} {M : Int} (h1 : M ∈ W.take (i + 1)) (h2 : ∀ a, a ∈ W.take (i + 1) → M ≤ a) : M = least W i := by
  unfold least
  obtain ⟨a1, a2, a3⟩ := fold_min (W.take (i + 1)) (W.headD 0)
  have hle := a2 M h1
  have hge : M ≤ (W.take (i + 1)).foldl min (W.headD 0) := by
    rcases a3 with a3 | a3
    · rw [a3]
      cases W with
      | nil => simp at h1
      | cons y r => exact h2 y (by simp)
    · exact h2 _ a3
  omega
abbrev Led3 (ca DW DR : Addr) (vw vr : List Value) (c : Obj × Str × Tok) : List (Addr × Obj) := [(ca, c.1), (DW, listOf vw.toArray 0), (DR, listOf vr.toArray 0)]
abbrev Fact3 (c : Obj × Str × Tok) : Prop := c.1.data = Data.cell (some (Value.str c.2.1 c.2.2))
theorem news3 {h₀ h : Heap} {L : Addr} {news : List (Addr × Obj)} {ca DW DR : Addr} {vw vr : List Value} {c : Obj × Str × Tok} (N : News h₀ L h news) (h1 : (ca, c.1) ∈ news) (h2 : (DW, listOf vw.toArray 0) ∈ news) (h3 : (DR, listOf vr.toArray 0) ∈ news) : News h₀ L h (Led3 ca DW DR vw vr c) := fun p hp => by
  rcases List.mem_cons.mp hp with rfl | hp
  · exact N _ h1
  · rcases List.mem_cons.mp hp with rfl | hp
    · exact N _ h2
    · rw [List.mem_singleton.mp hp]; exact N _ h3
section
variable {prog : Program} {w : World} {A : Around} {E : Value → Shared → Prop} {s : Shared} {env : Env} {h₀ : Heap} {x : Str} {body : List Stmt} {Q : Flow → Shared → Prop}
theorem law_loop {r : Addr} {b : Int} {t₀ u₀ v₀ : Tok} {m₀ : Str → Option Value} {news : List (Addr × Obj)} {ca DW DR : Addr} {oc : Obj} {vw vr : List Value} {LT : Str} {tL : Tok} {W : List Int}
    (hh : A.handled = none) (hr : IsRange s.heap r 0 b 1 t₀ u₀ v₀) (hb : b = (W.length : Int)) (hWl : W.length ≤ 10) (F : Fr h₀ env.locals s.heap m₀) (N : News h₀ env.locals s.heap news) (hcell : oc.data = Data.cell (some (Value.str LT tL))) (_hW : IntsAre vw W) (_hrows : StrsAre vr (rowsOf LT))
    (h1 : (ca, oc) ∈ news) (h2 : (DW, listOf vw.toArray 0) ∈ news) (h3 : (DR, listOf vr.toArray 0) ∈ news)
    (turn : ∀ (c : Obj × Str × Tok) (pre : List Int) (k : Int) t (u : Str → Option Value) h tk own, k = 0 + (pre.length : Int) → pre.length < W.length → OwnOff own ((Led3 ca DW DR vw vr (oc, LT, tL)).map (·.1)) → Fact3 c → HandP LT (least W) pre.length c.2.1 →
      Fr h₀ env.locals h (fun y => if y = x then some (.int k t) else kstB (fun z => if [Str.ofString "least"].contains z then u z else m₀ z) [] y) → News h₀ env.locals h (Led3 ca DW DR vw vr c ++ own) →
      wpAny (model prog w) A (execs body env) (InvPostN h₀ env.locals (KstS (Led3 ca DW DR vw vr) (fun _ => []) Fact3 x [Str.ofString "least"] m₀ (fun pre c => HandP LT (least W) pre.length c.2.1) (pre ++ [k])) own ((Led3 ca DW DR vw vr (oc, LT, tL)).map (·.1)) { s with heap := h, toks := tk } Q) E { s with heap := h, toks := tk })
    (done : ∀ (c : Obj × Str × Tok) (u : Str → Option Value) h tk, Fr h₀ env.locals h (fun y => if y = x then u y else kstB (fun z => if [Str.ofString "least"].contains z then u z else m₀ z) [] y) → News h₀ env.locals h (Led3 ca DW DR vw vr c) → Q .next { s with heap := h, toks := tk }) :
    wpAny (model prog w) A (pyIter (.ref r)) (fun it s₂ => LoopAtV prog w A h₀ env x body Q E it s₂) E s :=
  kst_range (n := W.length) (Led3 ca DW DR vw vr) (fun _ => []) Fact3 [Str.ofString "least"] (fun pre c => HandP LT (least W) pre.length c.2.1) (oc, LT, tL) hh hr (small_one (by decide) (by decide) (by omega) (by omega)) (by rw [rangeSize_nat]; omega) F (news3 N h1 h2 h3) hcell (fun _ hp => nomatch hp) rfl turn
    fun c u h tk _ _ F' N' => done c u h tk F' N'
end
theorem sum_le_join (sep : Str) : ∀ ps : List Str, (ps.map (fun x => x.length)).sum ≤ (Str.join sep ps).length
  | [] => Nat.le_refl _
  | [p] => by simp [Str.join]
  | p :: q :: r => by
    have ih := sum_le_join sep (q :: r)
    show _ ≤ (p ++ sep ++ Str.join sep (q :: r)).length
    rw [Str.length_append, Str.length_append]
    simp only [List.map_cons, List.sum_cons] at ih ⊢
    omega
theorem count_le_join (sep : Str) (hs : 1 ≤ sep.length) : ∀ ps : List Str, ps.length ≤ (Str.join sep ps).length + 1
  | [] => Nat.zero_le _
  | [p] => by simp
  | p :: q :: r => by
    have ih := count_le_join sep hs (q :: r)
    show _ ≤ (p ++ sep ++ Str.join sep (q :: r)).length + 1
    rw [Str.length_append, Str.length_append]
    simp only [List.length_cons] at ih ⊢
    omega
theorem mem_le_sum : ∀ {ps : List Str} {p : Str}, p ∈ ps → p.length ≤ (ps.map (fun x => x.length)).sum
  | q :: r, p, h => by
    simp only [List.map_cons, List.sum_cons]
    rcases List.mem_cons.mp h with rfl | h
    · omega
    · have := mem_le_sum h; omega
theorem rows_sizes {x : Str} (hx : x.length ≤ 16) : (rowsOf x).length ≤ 33 ∧ (∀ y ∈ rowsOf x, y.length ≤ 32) ∧ ((rowsOf x).map (fun x => x.length)).sum ≤ 32 := by
  have h1 := (rows_facts x).2
  have h2 : (Str.join yRN (rowsOf x)).length ≤ 32 := by
    have := congrArg List.length h1
    rw [Array.length_toList] at this
    have h3 := nl_len x.cps.toList false
    rw [len_list] at h3
    show (Str.join yRN (rowsOf x)).cps.size ≤ 32
    omega
  have h3 := sum_le_join yRN (rowsOf x)
  have h4 := count_le_join yRN (by rw [yRN_len]; omega) (rowsOf x)
  exact ⟨by omega, fun y hy => by have := mem_le_sum hy; omega, by omega⟩
theorem crlf_len (l : List Nat) : l.length ≤ (l.flatMap crlf).length := by
  induction l with
  | nil => exact Nat.le_refl _
  | cons c r ih =>
    rw [List.flatMap_cons, List.length_append, List.length_cons]
    have : 1 ≤ (crlf c).length := by unfold crlf; split <;> simp
    omega
theorem x1_len {x : Str} (hx : x.length ≤ 16) : (Txt.replace x yRN (Str.ofString "\n")).length ≤ 32 := by
  have h1 := x1_crlf x
  rw [yN_eq]
  have h2 := crlf_len (Txt.replace x yRN ⟨#[10]⟩).cps.toList
  rw [← h1] at h2
  have h3 := nl_len x.cps.toList false
  rw [len_list] at h3
  rw [len_list] at h2
  omega
theorem x2_len {x : Str} (hx : x.length ≤ 16) : (Txt.replace (Txt.replace x yRN (Str.ofString "\n")) (Str.ofString "\x0d") (Str.ofString "\n")).length ≤ 32 := by
  have h1 := x1_len hx
  rw [yR_eq, yN_eq] at *
  generalize Txt.replace x yRN ⟨#[10]⟩ = x1 at *
  have h2 : (Txt.replace x1 ⟨#[13]⟩ ⟨#[10]⟩).cps.toList = x1.cps.toList.map (fun c => if c = 13 then 10 else c) := by
    rw [StrLaws.replace_one, join_map (StrLaws.split_free x1 13), StrLaws.join_split]
  have h3 := congrArg List.length h2
  rw [List.length_map, len_list, len_list] at h3
  omega
theorem cb_use {prog : Program} {w : World} {K : Frag} {p : Program} {loose : List Str} {mean : ExcName → Option Value} {mg mb : Str → Option Value} {f : Addr} {news : List (Addr × Obj)} {pre : Prop} {vs : List Value} {R : Tok → Value} (h : CbClaim prog w K p loose mean mg mb f news [] pre vs R)
    {dp un : Nat} {gd : Option (List Code)} {cn : Str} {cs : Scope} {a : Addr} {ccd : Value} {cl : List (Str × Addr)} {outer : List Env} {A₀ : Around} {base h₀ : Heap} {L : Addr} {m : Str → Option Value} {s : Shared} {Q E : Value → Shared → Prop}
    (k1 : Below A₀ base outer h₀) (k2 : Fr h₀ L s.heap m) (k3 : K.In h₀) (k4 : News h₀ L s.heap news) (k5 : Top p loose mean mg mb h₀) (kK : cs.kind = .function) (kp : pre) (kd : dp + 1 < recursionLimit) (ku : un + 8 < cLine)
    (kR : ∀ (t : Tok) (h' : Heap) (tk' : Nat), Fr h₀ L h' m → News h₀ L h' news → Q (R t) { s with heap := h', toks := tk' }) :
    wpAny (model prog w) (ktrTop dp un gd cn cs L a ccd cl outer) (call (.ref f) vs) Q E s := h _ _ _ _ _ _ _ _ _ _ _ _ _ _ _ _ _ k1 k2 k3 k4 k5 kK kp kd ku kR
theorem left_spec (w : World) (mean : ExcName → Option Value) (mg mb : Str → Option Value) (news : List (Addr × Obj)) (x : Str) (tx : Tok) (n : Int) (tn : Tok) :
    CbClaim PySem.Challenge.rw_pg0012_01.row.prog w (hd.heap_39 w.params) hd.view_39 (looseW hd.view_39 lo) mean mg mb 67 news [] (x.length ≤ 1000) [Value.str x tx, Value.int n tn] (fun t => .str (cramS x n) t) := by
  dsimp only [CbClaim, CbLists, CbRet]
  intro dp un gd cn cs a ccd cl outer A₀ base h₀ L m s Q E k1 k2 k3 k4 k5 kK kp kd ku kR
  by_cases h : 0 ≤ n
  · exact cb_use (left_spec1 w mean mg mb news x tx n tn) k1 k2 k3 k4 k5 kK ⟨kp, by omega⟩ kd ku kR
  · exact cb_use (left_spec2 w mean mg mb news x tx n tn) k1 k2 k3 k4 k5 kK ⟨kp, by omega⟩ kd ku kR
theorem news_dup {h₀ h : Heap} {L : Addr} {news : List (Addr × Obj)} {o : Addr × Obj} (N : News h₀ L h news) (hm : o ∈ news) : News h₀ L h (o :: news) := fun p hp => by
  rcases List.mem_cons.mp hp with rfl | hp
  · exact N _ hm
  · exact N _ hp
theorem dq_len (l : List Nat) : ∀ b, (dq b l).length ≤ 2 * l.length := by
  induction l with
  | nil => intro b; exact Nat.le_refl _
  | cons c r ih =>
    intro b
    have h1 := ih false
    have h2 := ih (c == 10)
    rw [dq]
    split
    · simp only [List.length_cons]; omega
    · simp only [List.length_cons]; omega
theorem quoted_len (l : Str) : (dqS (nlS l)).length ≤ 4 * l.length := by
  have h1 := dq_len (nlS l).cps.toList true
  have h2 := nl_len l.cps.toList false
  rw [← len_list, ← len_list]
  show (dq true (nlS l).cps.toList).length ≤ _
  have e : (nlS l).cps.toList = nl false l.cps.toList := rfl
  rw [e] at h1 ⊢
  omega
theorem cram_len (x : Str) (n : Int) : (cramS x n).length ≤ x.length + 3 := by
  rw [← len_list, ← len_list]
  show (cramL x.cps.toList n).length ≤ _
  unfold cramL
  split
  · omega
  · rw [List.length_append, List.length_append, List.length_take, List.length_drop]
    unfold kN
    simp only [List.length_cons, List.length_nil]
    omega
theorem sent_len {x : Str} (hx : x.length ≤ 16) {n : Nat} (hn : n ≤ 10) : (sentS (rowsOf x) (n : Int)).length ≤ 500 := by
  have h1 := rows_sizes hx
  have h2 := dotted_sum (n := (n : Int)) (by omega) (by omega) (rowsOf x)
  unfold sentS Txt.join
  rw [StrLaws.glued_eq_join]
  refine Nat.le_trans (StrLaws.join_length_le _ _) ?_
  have h3 : (Str.ofString "\x0d\n").length = 2 := by decide +kernel
  rw [h3, List.length_map]
  omega
theorem hand_len {x l : Str} {W : Nat → Int} {i : Nat} (hx : x.length ≤ 16) (hi : i ≤ 10) (h : HandP x W i l) : l.length ≤ 600 := by
  cases i with
  | zero => have e : l = x := h
            rw [e]; omega
  | succ i =>
    have e : l = cramS (sentS (rowsOf x) ((i + 1 : Nat) : Int)) (W i) := h
    have h1 := cram_len (sentS (rowsOf x) ((i + 1 : Nat) : Int)) (W i)
    have h2 := sent_len hx hi
    rw [← e] at h1
    omega
end Mine
end PartLoop1

section PartLaw4
open PySem PySem.W PyProof.Rows PySem.Spec PySem.Calls
set_option Elab.async false
set_option maxRecDepth 100000
namespace Mine
def Stop (P : Prop) : Prop := P
theorem Stop.of {P : Prop} (h : Stop P) : P := h
local macro_rules | `(tactic| walk_at "exec Assign cons ListComp") => `(tactic| (k_here; k_dflt (refine LCg.Assign_ListComp_U (F₀ := by k_asm) (by rfl) (by with_unfolding_all rfl) (by with_unfolding_all rfl) (by decide) (by rfl) (by decide) (by rfl) (by rfl) (by rfl) ?_)))
local macro_rules | `(tactic| walk_at "eval ListComp") => `(tactic| (k_here; k_dflt (refine LCg.ListComp_U (F₀ := by k_asm) (by with_unfolding_all rfl) (by decide) (by rfl) (by decide) (by rfl) ?_)))
local macro_rules | `(tactic| walk_at "CompSrc") => `(tactic| refine Stop.of ?_)
local macro_rules | `(tactic| walk_at "CompEnd") => `(tactic| refine Stop.of ?_)
local macro_rules | `(tactic| walk_at "call builtin:str.join") => `(tactic| refine Stop.of ?_)
local macro_rules | `(tactic| walk_at "call builtin:str.replace") => `(tactic| refine Stop.of ?_)
local macro_rules | `(tactic| walk_at "call builtin:str.split") => `(tactic| refine Stop.of ?_)
local macro_rules | `(tactic| walk_at "pyIter ref") => `(tactic| refine Stop.of ?_)
local macro_rules | `(tactic| walk_at "call ref") => `(tactic| refine Stop.of ?_)
local macro_rules | `(tactic| walk_at "InvEndN") => `(tactic| refine Stop.of ?_)
local macro_rules | `(tactic| walk_at "execs cons") => `(tactic| ((with_reducible refine wpAny_execs_cons ?_); try dsimp only))
local macro_rules | `(tactic| walk_at "exec For Name Call cons nil") => `(tactic| (k_here; (rename Fr _ _ _ _ => lF'); (with_unfolding_all refine' For_invVF lF' ?k1 ?k2 ?_; (case k1 => exact rfl); (case k2 => exact rfl); k_whole)))
section
open Builtin Builtin.Str
variable {prog : Program} {w : World} {A : Around} {E : Value → Shared → Prop} {s : Shared} {Q : Value → Shared → Prop}
/-- a replacing that draws no token anew from below -/
theorem replaceT {x y z : Str} {t u v : Tok} (hu : u ≠ 0) (hv : v ≠ 0) (huv : u ≠ v) (hyz : (y == z) = false) (hx : x.length ≤ 100000) (hz : z.length ≤ 2)
    (hq : ∀ t' k, s.toks ≤ k → Q (.str (Txt.replace x y z) t') { s with toks := k }) : wpAny (model prog w) A (call (.builtin "str.replace") [.str x t, .str y u, .str z v]) Q E s := by
  have h2 : (x.length + 1) * z.length ≤ (x.length + 1) * 2 := Nat.mul_le_mul_left _ hz
  have hl : tooLong (x.length + (occurrences x y 0 x.length (x.length + 1)).length * z.length) = false := by
    have h1 : (occurrences x y 0 x.length (x.length + 1)).length * z.length ≤ (x.length + 1) * z.length := Nat.mul_le_mul_right _ (StrLaws.occ_length_le x y 0 x.length (x.length + 1))
    have e : (2 : Nat) ^ 24 = 16777216 := by decide
    unfold tooLong sizeLine
    exact decide_eq_false (by omega)
  refine call_gives F.slot_str_replace (typeIs_str _ _ _) F.entry_str_replace (F.args_str_replace_3 _ _ _) (gives_str_replace x y z t u v fun _ => ⟨by simp [hu, hv], by simp [huv], hyz, hl⟩) ?_
  by_cases hc : ((occurrences x y 0 x.length (x.length + 1)).isEmpty || (y.length == 0 && z.length == 0)) = true
  · have h := hq t s.toks (Nat.le_refl _)
    unfold Txt.replace at h
    rw [if_pos hc] at h ⊢
    exact h
  · have h := hq s.toks (s.toks + 1) (Nat.le_succ _)
    unfold Txt.replace at h
    rw [if_neg hc] at h ⊢
    exact ⟨fits_replaced y (by omega), h⟩
theorem joinT {x : Str} {t : Tok} {D : Addr} {items : Array Value} {ys : List Str} (hl : s.heap.IsList D items) (hi : StrsAre items.toList ys) (hok : (ys.map (·.length)).sum + ys.length * x.length ≤ 16777216)
    (hq : ∀ t' k, s.toks ≤ k → Q (.str (Txt.join x ys) t') { s with toks := k }) : wpAny (model prog w) A (call (.builtin "str.join") [.str x t, .ref D]) Q E s := by
  obtain ⟨l, hv, ht⟩ := strsAre_values hi
  have e : items = (strValues l).toArray := by rw [← hv]
  subst e ht
  have hok' := joinOk_of hok
  unfold JoinOk at hok'
  rw [Bool.not_eq_true'] at hok'
  refine call_meets F.slot_str_join (typeIs_str _ _ _) F.entry_str_join (F.args_str_join_2 _ _) (meets_str_join_list x t D l hok') ⟨hl, ?_⟩
  have hfit := joinFit_length hok'
  cases l with
  | nil => exact ⟨hfit, hq _ _ (Nat.le_succ _)⟩
  | cons p r => cases r with
    | nil => exact hq p.2 s.toks (Nat.le_refl _)
    | cons q r => exact ⟨hfit, hq _ _ (Nat.le_succ _)⟩
end
def piece (k : Int) : Str :=
  if k.fmod 8 = 0 then Str.ofString "." else if k.fmod 8 = 1 then Str.ofString "\x0d" else if k.fmod 8 = 2 then Str.ofString "\n" else if k.fmod 8 = 3 then Str.ofString "\n."
  else if k.fmod 8 = 4 then Str.ofString "a" else if k.fmod 8 = 5 then Str.ofString "\x0d\n" else if k.fmod 8 = 6 then Str.ofString ".." else ⟨#[((k.fdiv 8).fmod 55296).toNat]⟩
theorem piece0 {k : Int} (h : k.fmod 8 = 0) : Str.ofString "." = piece k := by unfold piece; rw [if_pos h]
theorem piece1 {k : Int} (h : k.fmod 8 = 1) : Str.ofString "\x0d" = piece k := by unfold piece; rw [h]; rfl
theorem piece2 {k : Int} (h : k.fmod 8 = 2) : Str.ofString "\n" = piece k := by unfold piece; rw [h]; rfl
theorem piece3 {k : Int} (h : k.fmod 8 = 3) : Str.ofString "\n." = piece k := by unfold piece; rw [h]; rfl
theorem piece4 {k : Int} (h : k.fmod 8 = 4) : Str.ofString "a" = piece k := by unfold piece; rw [h]; rfl
theorem piece5 {k : Int} (h : k.fmod 8 = 5) : Str.ofString "\x0d\n" = piece k := by unfold piece; rw [h]; rfl
theorem piece6 {k : Int} (h : k.fmod 8 = 6) : Str.ofString ".." = piece k := by unfold piece; rw [h]; rfl
theorem piece7 {k : Int} (h : k.fmod 8 = 7) : (⟨#[((k.fdiv 8).fmod 55296).toNat]⟩ : Str) = piece k := by unfold piece; rw [h]; rfl
theorem el_str {news : List (Addr × Obj)} {a b : Str} {t : Tok} (h : a = b) : El news (fun t => Value.str b t) (Value.str a t) news := ⟨rfl, t, by rw [h]⟩
theorem el_int {news : List (Addr × Obj)} {a b : Int} {t : Tok} (h : a = b) : El news (fun t => Value.int b t) (Value.int a t) news := ⟨rfl, t, by rw [h]⟩
def drawnOf (script : List Int) : List Int := ((script ++ [0, 4, 12291, 791, 28673, 0, 5, 4]).take 8).map fun (k : Int) => k.fmod 1000000
theorem drawn_len (script : List Int) : (drawnOf script).length = 8 := by unfold drawnOf; simp
theorem drawn_mem {script : List Int} {d : Int} (h : d ∈ drawnOf script) : 0 ≤ d ∧ d < 1000000 := by
  unfold drawnOf at h
  obtain ⟨k, _, rfl⟩ := List.mem_map.mp h
  rw [Int.fmod_eq_emod_of_nonneg _ (by decide)]
  omega
theorem piece_len (k : Int) : (piece k).length ≤ 2 := by
  unfold piece
  repeat' split
  all_goals first | decide +kernel | exact Nat.le_of_ble_eq_true rfl
theorem pieces_sum : ∀ l : List Int, ((l.map piece).map (·.length)).sum ≤ 2 * l.length
  | [] => Nat.le_refl _
  | k :: r => by
    have h := piece_len k
    have ih := pieces_sum r
    simp only [List.map_cons, List.sum_cons, List.length_cons] at ih ⊢
    omega
theorem joined_len (script : List Int) : (Txt.join (Str.ofString "") ((drawnOf script).map piece)).length ≤ 16 := by
  have h := pieces_sum (drawnOf script)
  rw [drawn_len] at h
  unfold Txt.join
  rw [StrLaws.glued_eq_join]
  refine Nat.le_trans (StrLaws.join_length_le _ _) ?_
  have h2 : (Str.ofString "").length = 0 := by decide +kernel
  rw [h2]; omega
set_option maxHeartbeats 8000000 in
theorem law_walk : PySem.Challenge.rw_pg0012_01.Holds := by
  refine hd ?_
  k_go0
  (all_goals try k_fold)
  k_steps
  rename List Int => script
  rename ¬ ((63 : Nat) : Int) < _ => h63
  -- drawn
  show LCg.CompSrc _ _ _ _ _ _ _ _ _ _ _ _ _ _
  rename IntsAre _ (List.take _ _) => hI8
  have hvl := hI8.length
  refine LCg.CompSrc.ledger (by rfl) (by k_asm) (by k_asm) (by k_dflt k_mem) (by rw [List.size_toArray, hvl, sizeLine_eq, List.length_take]; omega) ?_
  intro g9
  refine rest_ints (fun k t => Value.int (k.fmod 1000000) t) hI8 ?_ ?_
  · intro k9 t9 I9 oI9 C9 oC9 D9 m9 ys9 h9 tk9 E9 hk9 hC9 hx9 F9 N9 off9 ne9
    (try k_fold)
    k_steps
    all_goals (show LCg.CompEnd _ _ _ _ _ _ _ _ _ _ _ _ _ _)
    all_goals (refine LCg.CompEnd.intro (by k_asm) (by k_asm) _ (fun p hp => hp) off9 (Or.inr ⟨_, by k_dflt k_mem, rfl, _, rfl⟩) (el_int rfl))
  intro ys9 hv9
  have hdr := hv9.ints
  have hdr : IntsAre ys9 (drawnOf script) := hdr
  clear hv9
  have hyl := hdr.length
  rw [drawn_len] at hyl
  (try k_fold)
  k_steps
  -- pieces
  show LCg.CompSrc _ _ _ _ _ _ _ _ _ _ _ _ _ _
  refine LCg.CompSrc.ledger (by rfl) (by k_asm) (by k_asm) (by k_dflt k_mem) (by rw [List.size_toArray, hyl, sizeLine_eq]; omega) ?_
  intro g9
  refine rest_ints (fun k t => Value.str (piece k) t) hdr ?_ ?_
  · intro k9 t9 I9 oI9 C9 oC9 D9 m9 ys9 h9 tk9 E9 hk9 hC9 hx9 F9 N9 off9 ne9
    have hkb := drawn_mem hk9
    (try k_fold)
    k_steps
    all_goals (show LCg.CompEnd _ _ _ _ _ _ _ _ _ _ _ _ _ _)
    all_goals (refine LCg.CompEnd.intro (by k_asm) (by k_asm) _ (fun p hp => List.mem_cons_of_mem _ hp) off9 (Or.inr ⟨_, by k_dflt k_mem, rfl, _, rfl⟩) (el_str ?_))
    all_goals (first | exact piece0 (by assumption) | exact piece1 (by assumption) | exact piece2 (by assumption) | exact piece3 (by assumption) | exact piece4 (by assumption) | exact piece5 (by assumption) | exact piece6 (by assumption) | exact piece7 (by assumption))
  intro ys10 hv10
  have hpc := hv10.strs
  clear hv10
  (try k_fold)
  k_steps
  -- letter
  show wpAny _ _ (call (Value.builtin "str.join") [Value.str _ _, Value.ref _]) _ _ _
  refine joinT (ys := (drawnOf script).map piece) (News.isList (by k_asm) (by k_dflt k_mem)) hpc ?_ ?_
  · have h1 := pieces_sum (drawnOf script)
    have h2 : (Str.ofString "").length = 0 := by decide +kernel
    rw [drawn_len] at h1
    rw [h2]; omega
  intro t9 k9 htk9
  dsimp only at htk9
  have hLT := joined_len script
  generalize Txt.join (Str.ofString "") ((drawnOf script).map piece) = LT at hLT ⊢
  (try k_fold)
  k_steps
  -- rows
  show wpAny _ _ (call (Value.builtin "str.replace") [Value.str _ _, Value.str _ _, Value.str _ _]) _ _ _
  refine replaceT (by show @Ne Nat _ _; omega) (by show @Ne Nat _ _; omega) (by show @Ne Nat _ _; omega) (by decide +kernel) (by omega) (by decide +kernel) ?_
  intro t10 k10 htk10
  dsimp only at htk10
  have hX1 := x1_len hLT
  (try k_fold)
  k_steps
  show wpAny _ _ (call (Value.builtin "str.replace") [Value.str _ _, Value.str _ _, Value.str _ _]) _ _ _
  refine replaceT (by show @Ne Nat _ _; omega) (by show @Ne Nat _ _; omega) (by show @Ne Nat _ _; omega) (by decide +kernel) (by exact Nat.le_trans hX1 (by omega)) (by decide +kernel) ?_
  intro t11 k11 htk11
  have hX2 := x2_len hLT
  (try k_fold)
  k_steps
  show wpAny _ _ (call (Value.builtin "str.split") [Value.str _ _, Value.str _ _]) _ _ _
  refine KSpl.split1 (by k_asm) (by k_asm) (by decide +kernel) ?_ (by rw [sizeLine_eq]; exact Nat.le_trans (Nat.add_le_add_right hX2 2) (by omega))
  intro DR l12 h12 k12 e12 a12 F12 N12 l1
  (try k_lt l1)
  rw [e12] at a12
  have hrows : StrsAre (PySem.strValues l12) (rowsOf LT) := a12
  clear a12 e12
  generalize PySem.strValues l12 = rvs at hrows N12
  have hrl := hrows.length
  have hrs := rows_sizes hLT
  (try k_fold)
  k_steps
  -- widths
  show LCg.CompSrc _ _ _ _ _ _ _ _ _ _ _ _ _ _
  rename IntsAre _ (List.take _ (drawnOf script)) => hI5
  have h5l := hI5.length
  refine LCg.CompSrc.ledger (by rfl) (by k_asm) (by k_asm) (by k_dflt k_mem) (by rw [List.size_toArray, h5l, sizeLine_eq, List.length_take]; omega) ?_
  intro g9
  refine rest_ints (fun k t => Value.int ((LT.length : Int) + 6 - (k.fdiv 4096).fmod 16) t) hI5 ?_ ?_
  · intro k9 t9 I9 oI9 C9 oC9 D9 m9 ys9 h9 tk9 E9 hk9 hC9 hx9 F9 N9 off9 ne9
    have hkb := drawn_mem (List.mem_of_mem_take hk9)
    (try k_fold)
    k_steps
    all_goals (show LCg.CompEnd _ _ _ _ _ _ _ _ _ _ _ _ _ _)
    all_goals (refine LCg.CompEnd.intro (by k_asm) (by k_asm) _ (fun p hp => hp) off9 (Or.inr ⟨_, by k_dflt k_mem, rfl, _, rfl⟩) (el_int rfl))
  intro ys13 hv13
  have hw5 := hv13.ints
  clear hv13
  (try k_fold)
  k_steps
  -- the loop
  show wpAny _ _ (pyIter (Value.ref _)) (fun it s₂ => LoopAtV _ _ _ _ _ _ _ _ _ it s₂) _ _
  rename IsRange _ _ _ _ _ _ _ _ => hrg
  rename IntsAre _ (_ ++ List.take 1 script) => hW
  rename Obj.data _ = Data.cell _ => hcell
  have hW5 : (List.map (fun k => (LT.length : Int) + 6 - (k.fdiv 4096).fmod 16) (List.take 5 (drawnOf script)) ++ List.take 1 script).length ≤ 6 := by
    rw [List.length_append, List.length_map, List.length_take, List.length_take]; omega
  rw [← List.length_append] at hrg
  generalize List.map (fun k => (LT.length : Int) + 6 - (k.fdiv 4096).fmod 16) (List.take 5 (drawnOf script)) ++ List.take 1 script = W at hW hrg hW5
  have hwvl := hW.length
  refine law_loop (by rfl) hrg rfl (by omega) (by k_asm) (by k_asm) hcell hW hrows (by k_dflt k_mem) (by k_dflt k_mem) (by k_dflt k_mem) ?_ ?_
  · rintro ⟨oL, L, tL⟩ pre k t u h tk own hk hlt hoff hfc hP F9 N9
    dsimp only [Fact3] at hfc
    dsimp only at hP
    dsimp only [kstB] at F9
    simp only [List.cons_append, List.nil_append] at N9
    have hL := hand_len hLT (by omega) hP
    (try k_fold)
    k_steps
    -- the least
    rename _ ∈ List.take _ W => hM1
    rename ∀ a, a ∈ List.take _ W → _ ≤ a => hM2
    have hk1 : (k + 1).toNat = pre.length + 1 := by omega
    have hk2 : k + 1 = ((pre.length + 1 : Nat) : Int) := by omega
    rw [hk1] at hM1 hM2
    have hMe := least_is hM1 hM2
    -- quotedata
    show wpAny _ _ (call (Value.ref 55) [Value.str _ _]) _ _ _
    k_dflt (refine' cb_use (quote_spec _ _ _ _ _ L _) ?u1k1 ?u1k2 ?u1k3 ?u1k4 ?u1k5 ?u1kK ?u1kp ?u1kd ?u1ku ?u1kR)
    case u1k1 => k_asm
    case u1k2 => k_asm
    case u1k3 => k_asm
    case u1k4 => k_asm
    case u1k5 => k_asm
    case u1kK => rfl
    case u1kp => omega
    case u1kd => ktr_room
    case u1ku => ktr_units
    intro t20 h20 tk20 F20 N20
    have hqL := quoted_len L
    (try dsimp only)
    (try k_fold)
    k_steps
    -- cram
    show wpAny _ _ (call (Value.ref 38) [Value.str _ _, Value.int _ _]) _ _ _
    k_dflt (refine' cb_use (cram_spec _ _ _ _ _ (dqS (nlS L)) _ _ _) ?u2k1 ?u2k2 ?u2k3 ?u2k4 ?u2k5 ?u2kK ?u2kp ?u2kd ?u2ku ?u2kR)
    case u2k1 => k_asm
    case u2k2 => k_asm
    case u2k3 => k_asm
    case u2k4 => k_asm
    case u2k5 => k_asm
    case u2kK => rfl
    case u2kp => omega
    case u2kd => ktr_room
    case u2ku => ktr_units
    intro t21 h21 tk21 F21 N21
    have hst := hand_step hP (least_mono W)
    rw [← hMe] at hst
    (try dsimp only)
    (try k_fold)
    k_steps
    -- the rows, sent
    show wpAny _ _ (call (Value.ref 60) [Value.ref _, Value.int _ _]) _ _ _
    k_dflt (refine' cb_use (sent_spec _ _ _ _ _ DR 0 rvs (rowsOf LT) hrows (k + 1) _) ?u3k1 ?u3k2 ?u3k3 ?u3k4 ?u3k5 ?u3kK ?u3kp ?u3kd ?u3ku ?u3kR)
    case u3k1 => k_asm
    case u3k2 => k_asm
    case u3k3 => k_asm
    case u3k4 => exact news_dup (by k_asm) (by k_dflt k_mem)
    case u3k5 => k_asm
    case u3kK => rfl
    case u3kp => exact ⟨⟨by omega, by omega⟩, hrl, by omega, fun y hy => by have := hrs.2.1 y hy; omega, by have := hrs.2.2; omega⟩
    case u3kd => ktr_room
    case u3ku => ktr_units
    intro t22 h22 tk22 F22 N22
    replace N22 := cb_drop N22 (fun p hp => List.mem_cons_of_mem _ hp)
    have hsl := sent_len hLT (n := pre.length + 1) (by omega)
    rw [← hk2] at hsl hst
    (try dsimp only)
    (try k_fold)
    k_steps
    -- left
    show wpAny _ _ (call (Value.ref 67) [Value.str _ _, Value.int _ _]) _ _ _
    k_dflt (refine' cb_use (left_spec _ _ _ _ _ (sentS (rowsOf LT) (k + 1)) _ _ _) ?u4k1 ?u4k2 ?u4k3 ?u4k4 ?u4k5 ?u4kK ?u4kp ?u4kd ?u4ku ?u4kR)
    case u4k1 => k_asm
    case u4k2 => k_asm
    case u4k3 => k_asm
    case u4k4 => k_asm
    case u4k5 => k_asm
    case u4kK => rfl
    case u4kp => omega
    case u4kd => ktr_room
    case u4ku => ktr_units
    intro t23 h23 tk23 F23 N23
    (try dsimp only)
    (try k_fold)
    k_steps
    show InvEndN _ _ _ _ _ _ _
    rename Obj.data _ = Data.cell (some (Value.str (cramS (dqS (nlS L)) _) _)) => hfin
    refine kst_end (_, cramS (dqS (nlS L)) _, t21) F23 N23 ?e1 ?e2 ?e5 hfin (fun _ hp => nomatch hp) ?e3 ?e4
    case e5 => rfl
    case e1 =>
      refine List.forall_mem_cons.mpr ⟨by k_memK, List.forall_mem_cons.mpr ⟨by k_memK, List.forall_mem_cons.mpr ⟨by k_memK, List.forall_mem_nil _⟩⟩⟩
    case e2 =>
      intro p hp
      exact List.mem_cons_of_mem _ (List.mem_cons_of_mem _ (List.mem_cons_of_mem _ (List.mem_cons_of_mem _ hp)))
    case e3 => kst_same
    case e4 =>
      show HandP LT (least W) (pre ++ [k]).length _
      rw [List.length_append, List.length_singleton]
      show cramS (dqS (nlS L)) _ = cramS (sentS (rowsOf LT) ((pre.length + 1 : Nat) : Int)) (least W pre.length)
      rw [hst, hMe, hk2]
  · intro c u h tk F9 N9
    dsimp only [kstB] at F9
    (try k_fold)
    k_steps
end Mine
end PartLaw4

theorem PySem.Challenge.cw_pg0012_01_holds : PySem.Challenge.rw_pg0012_01.Holds := by
  exact Mine.law_walk
